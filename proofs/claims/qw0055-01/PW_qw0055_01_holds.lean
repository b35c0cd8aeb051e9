import PyProof.Rows.All
import PyProof.Seq
import PyProof.AttrMissHeap
import PyProof.Rows.StrMeet
import Wide.All
import OpenK.AllK
import Wide.FinOn
import OpenK.KMore
import KE.KItem
import KE.KNest
import KE.KLam
import KE.KNestM
import Lean
import PySem.Challenge.RW_qw0055_01
set_option Elab.async false
set_option maxRecDepth 100000
set_option autoImplicit false
set_option tactic.hygienic false
set_option hygiene false
set_option compiler.extract_closed false
set_option genSizeOf false
set_option genInjectivity false
namespace Mine
noncomputable section
open PySem
/-- an abstract value: lists, tuples and dicts that nothing will change any more stand as trees -/
inductive AV where
  | none
  | bool (b : Bool)
  | int (i : Int)
  | str (x : Str)
  | list (xs : List AV)
  | tup (xs : List AV)
  | dict (kv : List (Str × AV))
  | rng (lo hi st : Int)
  | own (k : Nat)
  | con (v : Value)
  deriving Inhabited
/-- an object that may still change -/
inductive AO where
  | list (xs : List AV)
  | dict (kv : List (Str × AV))
  | iter (tup : Bool) (xs : List AV) (pos : Nat)
  | spent
  | meth (k : Nat)
  | busy
  | ro (xs : List AV)
  deriving Inhabited
/-- what a loop or a caller holds stands still -/
noncomputable def AO.still : AO → Bool
  | .busy => true
  | .ro _ => true
  | _ => false
/-- a caller's object, seen by the def that it calls -/
noncomputable def AO.lock : AO → AO
  | .list xs => .ro xs
  | .ro xs => .ro xs
  | _ => .busy
noncomputable abbrev Sto := List AO
structure AE where
  sc : List (Str × NameKind)
  ρ : List (Str × AV)
  κ : List (Str × AV)
  tr : Bool
  deriving Inhabited
inductive AF where
  | next | brk | cont
  | ret (v : AV)
  deriving Inhabited
/-- what a call hands back -/
noncomputable def AF.val : AF → AV
  | .ret v => v
  | _ => .none
noncomputable def lq : List Nat → List Nat → Bool
  | [], [] => true
  | a :: x, b :: y => match Nat.beq a b with
    | true => lq x y
    | false => false
  | _, _ => false
/-- two texts are the same -/
noncomputable def sq (x y : Str) : Bool := lq x.cps.toList y.cps.toList
noncomputable def look {α : Type} (x : Str) : List (Str × α) → Option α
  | [] => .none
  | p :: r => match sq p.1 x with
    | true => some p.2
    | false => look x r
noncomputable def put {α : Type} (x : Str) (v : α) : List (Str × α) → List (Str × α)
  | [] => [(x, v)]
  | p :: r => match sq p.1 x with
    | true => (p.1, v) :: r
    | false => p :: put x v r
noncomputable def cap : Nat := 100000
/-- the globals that the law reads -/
noncomputable def gl (n : String) (v : Value) : Str × Value := (Str.ofString n, v)
noncomputable def globs : List (Str × Value) := [
  gl "lt" (Value.ref 45), gl "contains" (Value.ref 52), gl "countOf" (Value.ref 59), gl "length_hint" (Value.ref 67), gl "_twin_re_1" (Value.ref 72), gl "escape" (Value.ref 84), gl "_translate" (Value.ref 91), gl "fspath" (Value.ref 164),
  gl "_get_sep" (Value.ref 178), gl "join" (Value.ref 185), gl "split" (Value.ref 192), gl "splitroot" (Value.ref 199), gl "dirname" (Value.ref 206), gl "normpath" (Value.ref 213), gl "_law_pattern" (Value.ref 220),
  gl "_law_read" (Value.ref 225), gl "_law_takes" (Value.ref 232), gl "_law_places" (Value.ref 239), gl "_law_book" (Value.ref 244), gl "_law_drawn" (Value.ref 249), gl "_law_kept" (Value.ref 254),
  gl "_law_lines" (Value.ref 259), gl "_law_read_back" (Value.ref 266), gl "law" (Value.ref 271),
  gl "len" (Value.builtin "len"), gl "sum" (Value.builtin "sum"), gl "abs" (Value.builtin "abs"), gl "iter" (Value.builtin "iter"), gl "next" (Value.builtin "next"), gl "isinstance" (Value.builtin "isinstance"),
  gl "issubclass" (Value.builtin "issubclass"), gl "range" (Value.type "range"), gl "tuple" (Value.type "tuple"), gl "type" (Value.type "type"), gl "str" (Value.type "str"), gl "bytes" (Value.type "bytes"), gl "int" (Value.type "int")]
structure Fn where
  params : Arguments
  body : List Stmt
  scope : Scope
  deriving Inhabited
noncomputable def defNamed (n : Str) : List Stmt → Option Fn
  | [] => .none
  | .FunctionDef m a b _ _ _ sc _ _ _ :: r => match sq m n with
    | true => some ⟨a, b, sc⟩
    | false => defNamed n r
  | _ :: r => defNamed n r
noncomputable def nameAt (a : Addr) : List (Str × Value) → Option Str
  | [] => .none
  | (n, Value.ref b) :: r => match Nat.beq a b with
    | true => some n
    | false => nameAt a r
  | _ :: r => nameAt a r
noncomputable def fnAt (a : Addr) : Option Fn := (nameAt a globs).bind fun n => defNamed n PySem.Challenge.pw_qw0055_01.main.body
noncomputable def kindOf (E : AE) (x : Str) : Option NameKind := look x E.sc
noncomputable def AE.get (E : AE) (x : Str) : Option AV := match kindOf E x with
  | some .local => look x E.ρ
  | some .cell => look x E.κ
  | some .free => look x E.κ
  | some .globalImplicit => (look x globs).map .con
  | _ => .none
noncomputable def AE.set (E : AE) (x : Str) (v : AV) : Option AE := match kindOf E x with
  | some .local => some { E with ρ := put x v E.ρ }
  | some .cell => some { E with κ := put x v E.κ }
  | _ => .none
noncomputable def items (σ : Sto) : AV → Option (List AV)
  | .list xs => some xs
  | .tup xs => some xs
  | .own k => match σ[k]? with
    | some (.list xs) => some xs
    | some (.ro xs) => some xs
    | _ => .none
  | _ => .none
noncomputable def lists (σ : Sto) : AV → Option (List AV)
  | .list xs => some xs
  | .own k => match σ[k]? with
    | some (.list xs) => some xs
    | some (.ro xs) => some xs
    | _ => .none
  | _ => .none
noncomputable def rngList (lo hi st : Int) : List Int :=
  if st = 1 then (List.range (hi - lo).toNat).map fun (k : Nat) => lo + (k : Int)
  else if st = -1 then (List.range (lo - hi).toNat).map fun (k : Nat) => lo - (k : Int) else []
mutual
/-- plain data, as the library's rule for == wants it -/
noncomputable def toPD : AV → Option PyData
  | .none => some .none
  | .bool b => some (.bool b)
  | .int i => some (.int i)
  | .str x => if PyData.strOk x then some (.str x) else .none
  | .list xs => (toPDs xs).map .list
  | .tup xs => (toPDs xs).map .tuple
  | _ => .none
noncomputable def toPDs : List AV → Option (List PyData)
  | [] => some []
  | x :: r => match toPD x, toPDs r with
    | some d, some e => some (d :: e)
    | _, _ => .none
end
noncomputable def eqv (a b : AV) : Option Bool := match a, b with
  | .str x, .str y => some (sq x y)
  | a, b => match toPD a, toPD b with
    | some d, some e => if d.depth ≤ 9 then some (PyData.eqv d e) else .none
    | _, _ => .none
/-- one of the store's lists as a tree -/
noncomputable def flat (σ : Sto) (v : AV) : AV := match v with
  | .own k => match σ[k]? with
    | some (.list xs) => .list xs
    | some (.ro xs) => .list xs
    | _ => v
  | v => v
noncomputable def ltS (x y : Str) : Bool := PySem.Spec.ltCps x.cps.toList y.cps.toList
/-- xs[l:u] -/
noncomputable def cutL {α : Type} (xs : List α) (l u : Option Int) : List α := (sliceRange (sliceBounds l u .none xs.length).1 (sliceBounds l u .none xs.length).2.1 (sliceBounds l u .none xs.length).2.2).filterMap (xs[·]?)
noncomputable def freezeL (fz : AV → Option AV) : List AV → Option (List AV)
  | [] => some []
  | v :: r => match fz v, freezeL fz r with
    | some v', some r' => some (v' :: r')
    | _, _ => .none
noncomputable def freezeD (fz : AV → Option AV) : List (Str × AV) → Option (List (Str × AV))
  | [] => some []
  | p :: r => match fz p.2, freezeD fz r with
    | some v', some r' => some ((p.1, v') :: r')
    | _, _ => .none
/-- the call ends: what it made and hands on stands as a tree -/
noncomputable def freeze (σ : Sto) (n : Nat) : Nat → AV → Option AV
  | 0, _ => .none
  | d + 1, v => match v with
    | .own k => if k < n then some (.own k) else match σ[k]? with
      | some (.list xs) => (freezeL (freeze σ n d) xs).map .list
      | some (.dict kv) => (freezeD (freeze σ n d) kv).map .dict
      | _ => .none
    | .list xs => (freezeL (freeze σ n d) xs).map .list
    | .tup xs => (freezeL (freeze σ n d) xs).map .tup
    | .dict kv => (freezeD (freeze σ n d) kv).map .dict
    | v => some v
noncomputable def sumI : List AV → Option Int
  | [] => some 0
  | .int i :: r => (sumI r).map (i + ·)
  | _ :: _ => .none
noncomputable def strsOf : List AV → Option (List Str)
  | [] => some []
  | .str x :: r => (strsOf r).map (x :: ·)
  | _ :: _ => .none
noncomputable def ltL : List Str → List Str → Bool
  | [], [] => false
  | [], _ :: _ => true
  | _ :: _, [] => false
  | x :: xs, y :: ys => if sq x y then ltL xs ys else ltS x y
noncomputable def insL (x : List Str) : List (List Str) → List (List Str)
  | [] => [x]
  | y :: r => if ltL x y then x :: y :: r else y :: insL x r
noncomputable def sortL : List (List Str) → List (List Str)
  | [] => []
  | x :: r => insL x (sortL r)
noncomputable def rowsOf : List AV → Option (List (List Str))
  | [] => some []
  | .list xs :: r => match strsOf xs, rowsOf r with
    | some x, some y => some (x :: y)
    | _, _ => .none
  | _ :: _ => .none
noncomputable def ofRows (l : List (List Str)) : List AV := l.map fun x => .list (x.map .str)
noncomputable def insAt {α : Type} (xs : List α) (i : Nat) (v : α) : List α := xs.take i ++ v :: xs.drop i
/-- the methods that the law calls -/
inductive MN where
  | rfind | rstrip | lstrip | startswith | endswith | split | join | replace | find
  | append | insert | pop | sort
  | setdefault | get
noncomputable def MN.txt : MN → String
  | .rfind => "rfind" | .rstrip => "rstrip" | .lstrip => "lstrip" | .startswith => "startswith" | .endswith => "endswith" | .split => "split" | .join => "join" | .replace => "replace" | .find => "find"
  | .append => "append" | .insert => "insert" | .pop => "pop" | .sort => "sort" | .setdefault => "setdefault" | .get => "get"
noncomputable def methName (n : Str) : Option MN :=
  ([.rfind, .rstrip, .lstrip, .startswith, .endswith, .split, .join, .replace, .find, .append, .insert, .pop, .sort, .setdefault, .get] : List MN).find? fun m => sq n m.txt
/-- the kinds that have them -/
inductive MT where
  | str | list | dict
noncomputable def relA (σ : Sto) : Option (Nat × AO) → Sto
  | .none => σ
  | some (k, o) => σ.set k o
/-- no name stands twice -/
noncomputable def nodupN : List (Str × NameKind) → Bool
  | [] => true
  | p :: r => match look p.1 r with
    | some _ => false
    | .none => nodupN r
/-- a comprehension's scope -/
noncomputable def scopeOk (scope : Scope) (sc : List (Str × NameKind)) : Bool := (match scope.kind with | .function => true | _ => false) &&
  (scope.names.all fun x => match x.2 with
    | .local => true
    | .free => match look x.1 sc with
      | some .cell => true
      | some .free => true
      | _ => false
    | .globalImplicit => true
    | _ => false) && nodupN scope.names && (look "__debug__" scope.names).isNone && (look "super" scope.names).isNone && (look "__classdict__" scope.names).isNone
noncomputable def plainSet : Expr → Bool
  | .Set _ _ _ => false
  | _ => true
noncomputable def bindP (sc : List (Str × NameKind)) : List Arg → List AV → AE → Option AE
  | [], [], E => some E
  | a :: as, v :: vs, E => (E.set a.arg v).bind (bindP sc as vs)
  | _, _, _ => .none
noncomputable def bindArgsA (fn : Fn) (tr : Bool) (vs : List AV) : Option AE :=
  let E₀ : AE := ⟨fn.scope.names, [], [], tr⟩
  match fn.params.vararg with
  | .none => bindP fn.scope.names fn.params.args vs E₀
  | some a => if fn.params.args.length ≤ vs.length ∧ vs.length ≤ cap then (bindP fn.scope.names fn.params.args (vs.take fn.params.args.length) E₀).bind fun E => E.set a.arg (.tup (vs.drop fn.params.args.length)) else .none
/-- no comprehension -/
noncomputable def plainVal : Expr → Bool
  | .ListComp .. => false
  | .SetComp .. => false
  | .DictComp .. => false
  | _ => true
/-- what a method is called on: a name or a written text -/
noncomputable def okBase : Expr → Bool
  | .Name _ _ => true
  | .Constant _ _ _ => true
  | _ => false
/-- no name of the block around is taken along, nothing is a cell -/
noncomputable def flatScope (s : Scope) : Bool := (match s.kind with | .function => true | _ => false) && s.names.all (fun x => match x.2 with
  | .free => false
  | .cell => false
  | _ => true) && nodupN s.names && !s.isCoroutine
noncomputable def isLocal (x : Str) (s : Scope) : Bool := match look x s.names with
  | some .local => true
  | _ => false
noncomputable def notStar : Expr → Bool
  | .Starred _ _ => false
  | _ => true
noncomputable def lamOk (la : Arguments) (ls : Scope) : Bool := la.defaults.isEmpty && la.kw_defaults.isEmpty && la.kwonlyargs.isEmpty && flatScope ls
/-- stars among the arguments: a def alone takes them -/
noncomputable def isDef : AV → Bool
  | .con (Value.ref _) => true
  | _ => false
noncomputable def starOk (as : List Expr) (f : AV) : Bool := as.head?.all notStar && (as.all notStar || isDef f)
/-- the defs of the program, by their place -/
noncomputable def dAt (i : Nat) : Fn := match PySem.Challenge.pw_qw0055_01.main.body[i]? with
  | some (.FunctionDef _ a b _ _ _ sc _ _ _) => ⟨a, b, sc⟩
  | _ => default
end

noncomputable section
open PySem
noncomputable abbrev ZM := Addr → Option Obj
noncomputable abbrev listO (vs : List Value) (n : Nat) : Obj := { cls := .type "list", data := .seq vs.toArray n }
noncomputable abbrev tupO (vs : List Value) (n : Nat) : Obj := { cls := .type "tuple", data := .seq vs.toArray n }
noncomputable abbrev dictO (es : List DictEntry) (n : Nat) : Obj := { cls := .type "dict", data := .dict es.toArray n }
mutual
/-- the value v stands for the tree a -/
inductive VR (P : Params) (z : ZM) (ι : Nat → Addr) (n : Nat) : Value → AV → Prop where
  | none : VR P z ι n .none .none
  | bool (b : Bool) : VR P z ι n (.bool b) (.bool b)
  | int (i : Int) (t : Tok) : VR P z ι n (.int i t) (.int i)
  | str (x : Str) (t : Tok) : VR P z ι n (.str x t) (.str x)
  | list {a : Addr} {vs : List Value} {k : Nat} {xs : List AV} : z a = some (listO vs k) → VRs P z ι n vs xs → VR P z ι n (.ref a) (.list xs)
  | tup {a : Addr} {vs : List Value} {k : Nat} {xs : List AV} : z a = some (tupO vs k) → VRs P z ι n vs xs → VR P z ι n (.ref a) (.tup xs)
  | dict {a : Addr} {es : List DictEntry} {k : Nat} {kv : List (Str × AV)} : 3 < a → (kv.map (·.1)).Nodup → z a = some (dictO es k) → DRs P z ι n es kv → VR P z ι n (.ref a) (.dict kv)
  | rng {a : Addr} {lo hi st : Int} {t u v : Tok} : z a = some { cls := .type "range", data := .fields #[.int lo t, .int hi u, .int st v] } → VR P z ι n (.ref a) (.rng lo hi st)
  | own {k : Nat} : k < n → VR P z ι n (.ref (ι k)) (.own k)
  | con (v : Value) : VR P z ι n v (.con v)
inductive VRs (P : Params) (z : ZM) (ι : Nat → Addr) (n : Nat) : List Value → List AV → Prop where
  | nil : VRs P z ι n [] []
  | cons {v : Value} {a : AV} {vs : List Value} {as : List AV} : VR P z ι n v a → VRs P z ι n vs as → VRs P z ι n (v :: vs) (a :: as)
inductive DRs (P : Params) (z : ZM) (ι : Nat → Addr) (n : Nat) : List DictEntry → List (Str × AV) → Prop where
  | nil : DRs P z ι n [] []
  | cons {x : Str} {t : Tok} {v : Value} {a : AV} {es : List DictEntry} {kv : List (Str × AV)} : VR P z ι n v a → DRs P z ι n es kv →
      DRs P z ι n (⟨PyData.keyHash P x, .str x t, v⟩ :: es) ((x, a) :: kv)
end
section
variable {P : Params} {z z' : ZM} {ι ι' : Nat → Addr} {n n' : Nat}
theorem VRs.ind {M : List Value → List AV → Prop} (h0 : M [] []) (h1 : ∀ {v a vs as}, VR P z ι n v a → VRs P z ι n vs as → M vs as → M (v :: vs) (a :: as)) {vs : List Value} {as : List AV} (r : VRs P z ι n vs as) : M vs as :=
  VRs.rec (motive_1 := fun _ _ _ => True) (motive_2 := fun vs as _ => M vs as) (motive_3 := fun _ _ _ => True) trivial (fun _ => trivial) (fun _ _ => trivial) (fun _ _ => trivial) (fun _ _ _ => trivial) (fun _ _ _ => trivial) (fun _ _ _ _ _ => trivial) (fun _ => trivial)
    (fun _ => trivial) (fun _ => trivial) h0 (fun a b _ i => h1 a b i) trivial (fun _ _ _ _ => trivial) r
theorem DRs.ind {M : List DictEntry → List (Str × AV) → Prop} (h0 : M [] []) (h1 : ∀ {x : Str} {t v a es kv}, VR P z ι n v a → DRs P z ι n es kv → M es kv → M (⟨PyData.keyHash P x, .str x t, v⟩ :: es) ((x, a) :: kv)) {es : List DictEntry} {kv : List (Str × AV)} (r : DRs P z ι n es kv) : M es kv :=
  DRs.rec (motive_1 := fun _ _ _ => True) (motive_2 := fun _ _ _ => True) (motive_3 := fun es kv _ => M es kv) trivial (fun _ => trivial) (fun _ _ => trivial) (fun _ _ => trivial) (fun _ _ _ => trivial) (fun _ _ _ => trivial) (fun _ _ _ _ _ => trivial) (fun _ => trivial)
    (fun _ => trivial) (fun _ => trivial) trivial (fun _ _ _ _ => trivial) h0 (fun a b _ i => h1 a b i) r
section
variable (hz : ∀ b o, z b = some o → z' b = some o) (hi : ∀ k, k < n → ι' k = ι k) (hn : n ≤ n')
include hz hi hn
theorem VR.mono {v : Value} {a : AV} (r : VR P z ι n v a) : VR P z' ι' n' v a :=
  VR.rec (motive_1 := fun v a _ => VR P z' ι' n' v a) (motive_2 := fun vs as _ => VRs P z' ι' n' vs as) (motive_3 := fun es kv _ => DRs P z' ι' n' es kv) .none .bool .int .str (fun h _ i => .list (hz _ _ h) i) (fun h _ i => .tup (hz _ _ h) i)
    (fun h3 hd h _ i => .dict h3 hd (hz _ _ h) i) (fun h => .rng (hz _ _ h)) (fun {k} hk => hi k hk ▸ .own (Nat.lt_of_lt_of_le hk hn)) .con .nil (fun _ _ a b => .cons a b) .nil (fun _ _ a b => .cons a b) r
theorem VRs.mono {vs : List Value} {as : List AV} (r : VRs P z ι n vs as) : VRs P z' ι' n' vs as := VRs.ind (M := VRs P z' ι' n') .nil (fun h _ i => .cons (h.mono hz hi hn) i) r
theorem DRs.mono {es : List DictEntry} {kv : List (Str × AV)} (r : DRs P z ι n es kv) : DRs P z' ι' n' es kv := DRs.ind (M := DRs P z' ι' n') .nil (fun h _ i => .cons (h.mono hz hi hn) i) r
end
theorem VRs.length {vs : List Value} {as : List AV} (r : VRs P z ι n vs as) : vs.length = as.length := VRs.ind (M := fun vs as => vs.length = as.length) rfl (fun _ _ i => congrArg (· + 1) i) r
theorem VRs.get {vs : List Value} {as : List AV} (r : VRs P z ι n vs as) : ∀ {i : Nat} {a : AV}, as[i]? = some a → ∃ v, vs[i]? = some v ∧ VR P z ι n v a :=
  VRs.ind (M := fun vs as => ∀ {i : Nat} {a : AV}, as[i]? = some a → ∃ v, vs[i]? = some v ∧ VR P z ι n v a) (fun e => nomatch e) (fun {v a vs as} h _ ih i b e => by
    cases i with
    | zero => exact ⟨v, rfl, Option.some.inj e ▸ h⟩
    | succ i => exact ih e) r
theorem VRs.append {vs ws : List Value} {as bs : List AV} (r : VRs P z ι n vs as) (h : VRs P z ι n ws bs) : VRs P z ι n (vs ++ ws) (as ++ bs) := VRs.ind (M := fun vs as => VRs P z ι n (vs ++ ws) (as ++ bs)) h (fun h _ i => .cons h i) r
theorem VRs.one {v : Value} {a : AV} (h : VR P z ι n v a) : VRs P z ι n [v] [a] := .cons h .nil
end
section
variable {P : Params} {z : ZM} {ι : Nat → Addr} {n : Nat} {v : Value} {C : Value → Prop}
theorem VR.none_el (r : VR P z ι n v .none) (h : C .none) : C v := by cases r; exact h
theorem VR.bool_el {b : Bool} (r : VR P z ι n v (.bool b)) (h : C (.bool b)) : C v := by cases r; exact h
theorem VR.int_el {i : Int} (r : VR P z ι n v (.int i)) (h : ∀ t, C (.int i t)) : C v := by cases r; exact h _
theorem VR.str_el {x : Str} (r : VR P z ι n v (.str x)) (h : ∀ t, C (.str x t)) : C v := by cases r; exact h _
theorem VR.con_el {c : Value} (r : VR P z ι n v (.con c)) (h : C c) : C v := by cases r; exact h
set_option tactic.hygienic true in
theorem VR.own_el {k : Nat} (r : VR P z ι n v (.own k)) (h : k < n → C (.ref (ι k))) : C v := by cases r; rename_i q; exact h q
set_option tactic.hygienic true in
theorem VR.list_el {xs : List AV} (r : VR P z ι n v (.list xs)) (h : ∀ a vs k, z a = some (listO vs k) → VRs P z ι n vs xs → C (.ref a)) : C v := by cases r; rename_i q hs; exact h _ _ _ q hs
set_option tactic.hygienic true in
theorem VR.tup_el {xs : List AV} (r : VR P z ι n v (.tup xs)) (h : ∀ a vs k, z a = some (tupO vs k) → VRs P z ι n vs xs → C (.ref a)) : C v := by cases r; rename_i q hs; exact h _ _ _ q hs
theorem VR.dict_el {kv : List (Str × AV)} (r : VR P z ι n v (.dict kv)) (h : ∀ a es k, 3 < a → (kv.map (·.1)).Nodup → z a = some (dictO es k) → DRs P z ι n es kv → C (.ref a)) : C v := by cases r with | dict h3 hd hz hs => exact h _ _ _ h3 hd hz hs
set_option tactic.hygienic true in
theorem VR.rng_el {lo hi st : Int} (r : VR P z ι n v (.rng lo hi st)) (h : ∀ a t u w, z a = some { cls := .type "range", data := .fields #[.int lo t, .int hi u, .int st w] } → C (.ref a)) : C v := by cases r; rename_i q; exact h _ _ _ _ q
variable {vs : List Value} {D : List Value → Prop}
theorem VRs.nil_el (r : VRs P z ι n vs []) (h : D []) : D vs := by cases r; exact h
set_option tactic.hygienic true in
theorem VRs.cons_el {a : AV} {as : List AV} (r : VRs P z ι n vs (a :: as)) (h : ∀ u us, VR P z ι n u a → VRs P z ι n us as → D (u :: us)) : D vs := by cases r; rename_i q hs; exact h _ _ q hs
theorem VRs.el1 {a : AV} (r : VRs P z ι n vs [a]) (h : ∀ u, VR P z ι n u a → D [u]) : D vs := r.cons_el fun u _ q hs => hs.nil_el (D := fun us => D (u :: us)) (h u q)
theorem VRs.el2 {a b : AV} (r : VRs P z ι n vs [a, b]) (h : ∀ u y, VR P z ι n u a → VR P z ι n y b → D [u, y]) : D vs := r.cons_el fun u _ q hs => hs.el1 (D := fun us => D (u :: us)) fun y => h u y q
theorem VRs.el3 {a b c : AV} (r : VRs P z ι n vs [a, b, c]) (h : ∀ u y x, VR P z ι n u a → VR P z ι n y b → VR P z ι n x c → D [u, y, x]) : D vs := r.cons_el fun u _ q hs => hs.el2 (D := fun us => D (u :: us)) fun y x => h u y x q
end
/-- an object of the store -/
noncomputable def OR (P : Params) (z : ZM) (ι : Nat → Addr) (n : Nat) (o : Obj) : AO → Prop
  | .list xs => ∃ vs k, o = listO vs k ∧ VRs P z ι n vs xs
  | .dict kv => ∃ es k, o = dictO es k ∧ DRs P z ι n es kv ∧ (kv.map (·.1)).Nodup
  | .iter false xs p => ∃ a vs k, z a = some (listO vs k) ∧ VRs P z ι n vs xs ∧ p ≤ xs.length ∧ o.cls = .type "list_iterator" ∧ o.data = .fields #[.ref a, .int p 0]
  | .iter true xs p => ∃ a vs k, z a = some (tupO vs k) ∧ VRs P z ι n vs xs ∧ p ≤ xs.length ∧ o.cls = .type "tuple_iterator" ∧ o.data = .fields #[.ref a, .int p 0]
  | .spent => True
  | .meth j => j < n ∧ o = { cls := .type "builtin_function_or_method", data := .fields #[.builtin "list.append", .ref (ι j)] }
  | .busy => True
  | .ro xs => ∃ vs k, o = listO vs k ∧ VRs P z ι n vs xs
theorem OR.mono {P : Params} {z z' : ZM} {ι ι' : Nat → Addr} {n n' : Nat} {o : Obj} {ao : AO} (hz : ∀ b o, z b = some o → z' b = some o) (hi : ∀ k, k < n → ι' k = ι k) (hn : n ≤ n') (h : OR P z ι n o ao) : OR P z' ι' n' o ao := by
  cases ao with
  | list xs => obtain ⟨vs, k, rfl, hv⟩ := h; exact ⟨vs, k, rfl, hv.mono hz hi hn⟩
  | dict kv => obtain ⟨vs, k, rfl, hv, hd⟩ := h; exact ⟨vs, k, rfl, hv.mono hz hi hn, hd⟩
  | iter t xs p =>
    cases t with
    | false => obtain ⟨a, vs, k, h1, h2, h3, h4⟩ := h; exact ⟨a, vs, k, hz _ _ h1, h2.mono hz hi hn, h3, h4⟩
    | true => obtain ⟨a, vs, k, h1, h2, h3, h4⟩ := h; exact ⟨a, vs, k, hz _ _ h1, h2.mono hz hi hn, h3, h4⟩
  | spent => trivial
  | meth j => exact ⟨Nat.lt_of_lt_of_le h.1 hn, by rw [hi j h.1]; exact h.2⟩
  | busy => trivial
  | ro xs => obtain ⟨vs, k, rfl, hv⟩ := h; exact ⟨vs, k, rfl, hv.mono hz hi hn⟩
/-- the one code table that the call may lengthen -/
noncomputable def tabA : Addr := 86
/-- what the top has left, and the frames that are open -/
structure GF where
  h : Heap
  fr : List Env
noncomputable def GF.ad (g : GF) : List Addr := g.fr.filterMap (·.frame)
/-- the open frames stand in the heap, apart from all else -/
noncomputable def Frs (fr : List Env) (z : ZM) (ι : Nat → Addr) (n : Nat) (h : Heap) : Prop :=
  ∀ v ∈ fr, v.scope.kind ≠ .module ∧ ∃ L o es ep, v.frame = some L ∧ h.get? L = some o ∧ o.data = .dict es ep ∧ z L = none ∧ (∀ k, k < n → ι k ≠ L) ∧ L ≠ tabA
theorem Frs.step {fr : List Env} {z z' : ZM} {ι ι' : Nat → Addr} {n n' : Nat} {h h' : Heap} (a : Frs fr z ι n h)
    (hk : ∀ L o es ep, h.get? L = some o → o.data = .dict es ep → z L = none → (∀ k, k < n → ι k ≠ L) → L ≠ tabA → ∃ o' es' ep', h'.get? L = some o' ∧ o'.data = .dict es' ep' ∧ z' L = none ∧ ∀ k, k < n' → ι' k ≠ L) : Frs fr z' ι' n' h' := fun v hv => by
  obtain ⟨a1, L, o, es, ep, a2, a3, a4, a5, a6, a7⟩ := a v hv
  obtain ⟨o', es', ep', b1, b2, b3, b4⟩ := hk L o es ep a3 a4 a5 a6 a7
  exact ⟨a1, L, o', es', ep', a2, b1, b2, b3, b4, a7⟩
theorem Frs.mem {fr : List Env} {z : ZM} {ι : Nat → Addr} {n : Nat} {h : Heap} (a : Frs fr z ι n h) {L : Addr} (hL : L ∈ fr.filterMap (·.frame)) :
    ∃ o es ep, h.get? L = some o ∧ o.data = .dict es ep ∧ z L = none ∧ (∀ k, k < n → ι k ≠ L) ∧ L ≠ tabA := by
  obtain ⟨v, hv, e⟩ := List.mem_filterMap.mp hL
  obtain ⟨_, L', o, es, ep, a2, a3, a4, a5, a6, a7⟩ := a v hv
  rw [e] at a2; cases a2
  exact ⟨o, es, ep, a3, a4, a5, a6, a7⟩
/-- the heap bears the store -/
structure SR (P : Params) (g : GF) (z : ZM) (ι : Nat → Addr) (σ : Sto) (h : Heap) : Prop where
  base : ∀ b o, g.h.get? b = some o → z b = some o
  fz : ∀ b o, z b = some o → h.get? b = some o
  own : ∀ k ao, σ[k]? = some ao → ∃ o, h.get? (ι k) = some o ∧ OR P z ι σ.length o ao
  off : ∀ k, k < σ.length → z (ι k) = none
  inj : ∀ j k, j < σ.length → k < σ.length → ι j = ι k → j = k
  tab : ∃ ps : { ps : Array Value // TriplesOk ps.toList }, h.get? tabA = some (PySem.W.tabObj ps.1)
  taboff : z tabA = none ∧ ∀ k, k < σ.length → ι k ≠ tabA
  g3 : ∃ o, g.h.get? 3 = some o
  hi : ∀ k, k < σ.length → 3 < ι k
  frs : Frs g.fr z ι σ.length h
/-- from one state to a later one -/
structure Ext (g : GF) (mu : List Addr) (z : ZM) (ι : Nat → Addr) (σ : Sto) (h : Heap) (z' : ZM) (ι' : Nat → Addr) (σ' : Sto) (h' : Heap) : Prop where
  zle : ∀ b o, z b = some o → z' b = some o
  znew : ∀ b o, z' b = some o → z b = some o ∨ h.get? b = none
  ile : ∀ k, k < σ.length → ι' k = ι k
  inew : ∀ k, k < σ'.length → σ.length ≤ k → h.get? (ι' k) = none
  len : σ.length ≤ σ'.length
  keep : ∀ b o, h.get? b = some o → b ∉ mu → b ≠ tabA → (∀ k ao, σ[k]? = some ao → ι k = b → ao.still = true) → b ∉ g.ad → h'.get? b = some o
  keepF : ∀ b o, h.get? b = some o → b ∉ mu → b ≠ tabA → (∀ k ao, σ[k]? = some ao → ι k = b → ao.still = true) → ∃ sl, h'.get? b = some { o with slots := sl }
  there : ∀ b o, h.get? b = some o → ∃ o', h'.get? b = some o'
  busy : ∀ k, k < σ.length → ∀ ao, ao.still = true → (σ[k]? = some ao ↔ σ'[k]? = some ao)
section
variable {P : Params} {g : GF} {mu : List Addr} {z z' z'' : ZM} {ι ι' ι'' : Nat → Addr} {σ σ' σ'' : Sto} {h h' h'' : Heap}
theorem Ext.refl (mu : List Addr) (z : ZM) (ι : Nat → Addr) (σ : Sto) (h : Heap) : Ext g mu z ι σ h z ι σ h where
  zle := fun _ _ e => e
  znew := fun _ _ e => .inl e
  ile := fun _ _ => rfl
  inew := fun k h1 h2 => absurd h1 (Nat.not_lt.mpr h2)
  len := Nat.le_refl _
  keep := fun _ _ e _ _ _ _ => e
  keepF := fun _ o e _ _ _ => ⟨o.slots, e⟩
  there := fun _ o e => ⟨o, e⟩
  busy := fun _ _ _ _ => Iff.rfl
theorem Ext.stillAt (a : Ext g mu z ι σ h z' ι' σ' h') {x : Addr} {o : Obj} (e : h.get? x = some o) (ho : ∀ k ao, σ[k]? = some ao → ι k = x → ao.still = true) : ∀ k ao, σ'[k]? = some ao → ι' k = x → ao.still = true := fun k ao hk hx => by
  have hlt : k < σ'.length := (List.getElem?_eq_some_iff.mp hk).1
  by_cases hk2 : k < σ.length
  · rw [a.ile k hk2] at hx
    have hb := ho k _ (List.getElem?_eq_getElem hk2) hx
    have h4 := (a.busy k hk2 _ hb).mp (List.getElem?_eq_getElem hk2)
    rw [hk] at h4
    rw [Option.some.inj h4]; exact hb
  · have h5 := a.inew k hlt (Nat.not_lt.mp hk2)
    rw [hx, e] at h5; cases h5
theorem Ext.trans (a : Ext g mu z ι σ h z' ι' σ' h') (b : Ext g mu z' ι' σ' h' z'' ι'' σ'' h'') : Ext g mu z ι σ h z'' ι'' σ'' h'' where
  zle := fun x o e => b.zle x o (a.zle x o e)
  znew := fun x o e => by
    rcases b.znew x o e with e | e
    · exact a.znew x o e
    · cases q : h.get? x with
      | none => exact .inr rfl
      | some o' => obtain ⟨o'', e2⟩ := a.there x o' q; rw [e] at e2; cases e2
  ile := fun k hk => (b.ile k (Nat.lt_of_lt_of_le hk a.len)).trans (a.ile k hk)
  inew := fun k h1 h2 => by
    by_cases hk : k < σ'.length
    · rw [b.ile k hk]; exact a.inew k hk h2
    · have e := b.inew k h1 (Nat.not_lt.mp hk)
      cases q : h.get? (ι'' k) with
      | none => rfl
      | some o' => obtain ⟨o'', e2⟩ := a.there _ o' q; rw [e] at e2; cases e2
  len := Nat.le_trans a.len b.len
  keep := fun x o e hm ht ho hf => b.keep x o (a.keep x o e hm ht ho hf) hm ht (a.stillAt e ho) hf
  keepF := fun x o e hm ht ho => by
    obtain ⟨sl, e1⟩ := a.keepF x o e hm ht ho
    obtain ⟨sl2, e2⟩ := b.keepF x _ e1 hm ht (a.stillAt e ho)
    exact ⟨sl2, e2⟩
  there := fun x o e => by
    obtain ⟨o', e'⟩ := a.there x o e
    exact b.there x o' e'
  busy := fun k hk ao h => (a.busy k hk ao h).trans (b.busy k (Nat.lt_of_lt_of_le hk a.len) ao h)
theorem Ext.more (a : Ext g mu z ι σ h z' ι' σ' h') {mu' : List Addr} (hm : ∀ b ∈ mu, b ∈ mu') : Ext g mu' z ι σ h z' ι' σ' h' :=
  { a with
    keep := fun x o e hn ht ho => a.keep x o e (fun q => hn (hm x q)) ht ho
    keepF := fun x o e hn ht ho => a.keepF x o e (fun q => hn (hm x q)) ht ho }
theorem VR.ext {v : Value} {a : AV} (r : VR P z ι σ.length v a) (e : Ext g mu z ι σ h z' ι' σ' h') : VR P z' ι' σ'.length v a := r.mono e.zle e.ile e.len
theorem VRs.ext {v : List Value} {a : List AV} (r : VRs P z ι σ.length v a) (e : Ext g mu z ι σ h z' ι' σ' h') : VRs P z' ι' σ'.length v a := r.mono e.zle e.ile e.len
theorem DRs.ext {v : List DictEntry} {a : List (Str × AV)} (r : DRs P z ι σ.length v a) (e : Ext g mu z ι σ h z' ι' σ' h') : DRs P z' ι' σ'.length v a := r.mono e.zle e.ile e.len
/-- the heap only grew -/
theorem SR.grow (S : SR P g z ι σ h) (hk : ∀ b o, h.get? b = some o → h'.get? b = some o) : SR P g z ι σ h' where
  base := S.base
  fz := fun b o e => hk b o (S.fz b o e)
  own := fun k ao e => let ⟨o, h1, h2⟩ := S.own k ao e; ⟨o, hk _ _ h1, h2⟩
  off := S.off
  inj := S.inj
  tab := let ⟨ps, e⟩ := S.tab; ⟨ps, hk _ _ e⟩
  taboff := S.taboff
  g3 := S.g3
  hi := S.hi
  frs := S.frs.step fun L o es ep e d hz hi _ => ⟨o, es, ep, hk _ _ e, d, hz, hi⟩
theorem Ext.grow (hk : ∀ b o, h.get? b = some o → h'.get? b = some o) : Ext g mu z ι σ h z ι σ h' where
  zle := fun _ _ e => e
  znew := fun _ _ e => .inl e
  ile := fun _ _ => rfl
  inew := fun k h1 h2 => absurd h1 (Nat.not_lt.mpr h2)
  len := Nat.le_refl _
  keep := fun b o e _ _ _ _ => hk b o e
  keepF := fun b o e _ _ _ => ⟨o.slots, hk b o e⟩
  there := fun b o e => ⟨o, hk b o e⟩
  busy := fun _ _ _ _ => Iff.rfl
noncomputable def zput (z : ZM) (a : Addr) (o : Obj) : ZM := fun b => if b = a then some o else z b
theorem zput_self (z : ZM) (a : Addr) (o : Obj) : zput z a o a = some o := if_pos rfl
theorem zput_le {a : Addr} {o : Obj} (hn : z a = none) : ∀ b x, z b = some x → zput z a o b = some x := fun b x e => by
  unfold zput
  by_cases hb : b = a
  · subst hb; rw [hn] at e; cases e
  · rw [if_neg hb]; exact e
theorem SR.none_of (S : SR P g z ι σ h) {a : Addr} (ha : h.get? a = none) : z a = none := by
  cases q : z a with
  | none => rfl
  | some o => have := S.fz a o q; rw [ha] at this; cases this
/-- a new object that nothing will change -/
theorem SR.frozen (S : SR P g z ι σ h) (hk : ∀ b o, h.get? b = some o → h'.get? b = some o) {a : Addr} {o : Obj} (ha : h.get? a = none) (ho : h'.get? a = some o) : SR P g (zput z a o) ι σ h' where
  base := fun b x e => zput_le (S.none_of ha) b x (S.base b x e)
  fz := fun b x e => by
    unfold zput at e
    by_cases hb : b = a
    · rw [if_pos hb] at e; cases e; rw [hb]; exact ho
    · rw [if_neg hb] at e; exact hk b x (S.fz b x e)
  own := fun k ao e => let ⟨x, h1, h2⟩ := S.own k ao e; ⟨x, hk _ _ h1, h2.mono (zput_le (S.none_of ha)) (fun _ _ => rfl) (Nat.le_refl _)⟩
  off := fun k hk' => by
    unfold zput
    by_cases hb : ι k = a
    · obtain ⟨x, h1, _⟩ := S.own k _ (List.getElem?_eq_getElem hk')
      rw [hb, ha] at h1; cases h1
    · rw [if_neg hb]; exact S.off k hk'
  inj := S.inj
  tab := let ⟨ps, e⟩ := S.tab; ⟨ps, hk _ _ e⟩
  taboff := by
    refine ⟨?_, S.taboff.2⟩
    unfold zput
    by_cases hb : tabA = a
    · obtain ⟨ps, e⟩ := S.tab; rw [hb, ha] at e; cases e
    · rw [if_neg hb]; exact S.taboff.1
  g3 := S.g3
  hi := S.hi
  frs := S.frs.step fun L x es ep e d hz hi _ => ⟨x, es, ep, hk _ _ e, d, by
    have q : L ≠ a := fun q => by rw [q, ha] at e; cases e
    unfold zput
    rw [if_neg q]; exact hz, hi⟩
theorem Ext.frozen (S : SR P g z ι σ h) (hk : ∀ b o, h.get? b = some o → h'.get? b = some o) {a : Addr} {o : Obj} (ha : h.get? a = none) : Ext g mu z ι σ h (zput z a o) ι σ h' where
  zle := zput_le (S.none_of ha)
  znew := fun b x e => by
    unfold zput at e
    by_cases hb : b = a
    · exact .inr (hb ▸ ha)
    · rw [if_neg hb] at e; exact .inl e
  ile := fun _ _ => rfl
  inew := fun k h1 h2 => absurd h1 (Nat.not_lt.mpr h2)
  len := Nat.le_refl _
  keep := fun b o e _ _ _ _ => hk b o e
  keepF := fun b o e _ _ _ => ⟨o.slots, hk b o e⟩
  there := fun b o e => ⟨o, hk b o e⟩
  busy := fun _ _ _ _ => Iff.rfl
noncomputable def iput (ι : Nat → Addr) (n : Nat) (a : Addr) : Nat → Addr := fun k => if k = n then a else ι k
theorem iput_self (ι : Nat → Addr) (n : Nat) (a : Addr) : iput ι n a n = a := if_pos rfl
theorem iput_lt (ι : Nat → Addr) {n k : Nat} (a : Addr) (hk : k < n) : iput ι n a k = ι k := if_neg (Nat.ne_of_lt hk)
/-- a new object of the store -/
theorem SR.newOwn (S : SR P g z ι σ h) (hk : ∀ b o, h.get? b = some o → h'.get? b = some o) {a : Addr} {o : Obj} {ao : AO} (h3 : 3 < a) (ha : h.get? a = none) (ho : h'.get? a = some o) (hr : OR P z ι σ.length o ao) :
    SR P g z (iput ι σ.length a) (σ ++ [ao]) h' where
  base := S.base
  fz := fun b x e => hk b x (S.fz b x e)
  own := fun k ao' e => by
    rw [List.length_append, List.length_singleton]
    by_cases hlt : k < σ.length
    · rw [List.getElem?_append_left hlt] at e
      obtain ⟨x, h1, h2⟩ := S.own k ao' e
      rw [iput_lt ι a hlt]
      exact ⟨x, hk _ _ h1, h2.mono (fun _ _ e => e) (fun j hj => iput_lt ι a hj) (Nat.le_succ _)⟩
    · have hle := Nat.not_lt.mp hlt
      rw [List.getElem?_append_right hle] at e
      have hk0 : k - σ.length = 0 := by
        cases q : k - σ.length with
        | zero => rfl
        | succ m => rw [q] at e; simp at e
      rw [hk0] at e
      simp only [List.getElem?_cons_zero, Option.some.injEq] at e
      subst e
      have : k = σ.length := by (clear hle h3; omega)
      subst this
      rw [iput_self]
      exact ⟨o, ho, hr.mono (fun _ _ e => e) (fun j hj => iput_lt ι a hj) (Nat.le_succ _)⟩
  off := fun k hk' => by
    rw [List.length_append, List.length_singleton] at hk'
    by_cases hlt : k < σ.length
    · rw [iput_lt ι a hlt]; exact S.off k hlt
    · have : k = σ.length := by (clear h3; omega)
      subst this
      rw [iput_self]; exact S.none_of ha
  inj := fun j k hj hk' e => by
    rw [List.length_append, List.length_singleton] at hj hk'
    have old : ∀ i, i < σ.length → ι i ≠ a := fun i hi q => by
      obtain ⟨x, h1, _⟩ := S.own i _ (List.getElem?_eq_getElem hi)
      rw [q, ha] at h1; cases h1
    by_cases h1 : j < σ.length
    · by_cases h2 : k < σ.length
      · rw [iput_lt ι a h1, iput_lt ι a h2] at e; exact S.inj j k h1 h2 e
      · have : k = σ.length := by (clear h1 e hj h3; omega)
        subst this
        rw [iput_lt ι a h1, iput_self] at e; exact absurd e (old j h1)
    · have hj' : j = σ.length := by (clear e hk' h3; omega)
      subst hj'
      by_cases h2 : k < σ.length
      · rw [iput_lt ι a h2, iput_self] at e; exact absurd e.symm (old k h2)
      · (clear h1 e hj h3; omega)
  tab := let ⟨ps, e⟩ := S.tab; ⟨ps, hk _ _ e⟩
  taboff := ⟨S.taboff.1, fun k hk' => by
    rw [List.length_append, List.length_singleton] at hk'
    by_cases hlt : k < σ.length
    · rw [iput_lt ι a hlt]; exact S.taboff.2 k hlt
    · have : k = σ.length := by (clear h3; omega)
      subst this
      rw [iput_self]
      intro q
      obtain ⟨ps, e⟩ := S.tab
      rw [← q, ha] at e; cases e⟩
  g3 := S.g3
  hi := fun k hk' => by
    rw [List.length_append, List.length_singleton] at hk'
    by_cases hlt : k < σ.length
    · rw [iput_lt ι a hlt]; exact S.hi k hlt
    · have : k = σ.length := by (clear h3; omega)
      subst this
      rw [iput_self]; exact h3
  frs := S.frs.step fun L x es ep e d hz hi _ => ⟨x, es, ep, hk _ _ e, d, hz, fun k hk' => by
    rw [List.length_append, List.length_singleton] at hk'
    by_cases hlt : k < σ.length
    · rw [iput_lt ι a hlt]; exact hi k hlt
    · have : k = σ.length := by (clear h3; omega)
      subst this
      rw [iput_self]
      intro q
      rw [← q, ha] at e; cases e⟩
theorem SR.size (S : SR P g z ι σ h) : 3 < h.objs.size := let ⟨o, e⟩ := S.g3; Heap.lt_size (S.fz _ _ (S.base _ _ e))
theorem Ext.newOwn (hk : ∀ b o, h.get? b = some o → h'.get? b = some o) {a : Addr} {ao : AO} (ha : h.get? a = none) : Ext g mu z ι σ h z (iput ι σ.length a) (σ ++ [ao]) h' where
  zle := fun _ _ e => e
  znew := fun _ _ e => .inl e
  ile := fun k hk => iput_lt ι a hk
  inew := fun k h1 h2 => by
    rw [List.length_append, List.length_singleton] at h1
    have : k = σ.length := by omega
    subst this
    rw [iput_self]; exact ha
  len := by rw [List.length_append]; exact Nat.le_add_right _ _
  keep := fun b o e _ _ _ _ => hk b o e
  keepF := fun b o e _ _ _ => ⟨o.slots, hk b o e⟩
  there := fun b o e => ⟨o, hk b o e⟩
  busy := fun k hlt _ _ => by rw [List.getElem?_append_left hlt]
/-- an object of the store is changed -/
theorem SR.upd (S : SR P g z ι σ h) {k : Nat} {o' : Obj} {ao : AO} (hk : k < σ.length) (hs : Heap.ExtBut (ι k) h h') (ho : h'.get? (ι k) = some o') (hr : OR P z ι σ.length o' ao) : SR P g z ι (σ.set k ao) h' where
  base := S.base
  fz := fun b x e => by
    have hb : b ≠ ι k := fun q => by rw [q, S.off k hk] at e; cases e
    exact hs b x hb (S.fz b x e)
  own := fun j ao' e => by
    rw [List.length_set]
    by_cases hj : j = k
    · subst hj
      rw [List.getElem?_set_self hk] at e
      cases e
      exact ⟨o', ho, hr⟩
    · rw [List.getElem?_set_ne (Ne.symm hj)] at e
      obtain ⟨x, h1, h2⟩ := S.own j ao' e
      have hlt := (List.getElem?_eq_some_iff.mp e).1
      exact ⟨x, hs _ x (fun q => hj (S.inj j k hlt hk q)) h1, h2⟩
  off := fun j hj => S.off j (by rwa [List.length_set] at hj)
  inj := fun i j hi hj => S.inj i j (by rwa [List.length_set] at hi) (by rwa [List.length_set] at hj)
  tab := let ⟨ps, e⟩ := S.tab; ⟨ps, hs _ _ (Ne.symm (S.taboff.2 k hk)) e⟩
  taboff := ⟨S.taboff.1, fun j hj => S.taboff.2 j (by rwa [List.length_set] at hj)⟩
  g3 := S.g3
  hi := fun j hj => S.hi j (by rwa [List.length_set] at hj)
  frs := S.frs.step fun L x es ep e d hz hi _ => ⟨x, es, ep, hs _ _ (Ne.symm (hi k hk)) e, d, hz, fun j hj => hi j (by rwa [List.length_set] at hj)⟩
theorem Ext.upd {k : Nat} {o' : Obj} {ao ao₀ : AO} (he : σ[k]? = some ao₀) (hb₀ : ao₀.still = false) (hb : ao.still = false) (hs : Heap.ExtBut (ι k) h h') (ho' : h'.get? (ι k) = some o') : Ext g mu z ι σ h z ι (σ.set k ao) h' where
  zle := fun _ _ e => e
  znew := fun _ _ e => .inl e
  ile := fun _ _ => rfl
  inew := fun j h1 h2 => by rw [List.length_set] at h1; exact absurd h1 (Nat.not_lt.mpr h2)
  len := by rw [List.length_set]; exact Nat.le_refl _
  keep := fun b x e _ _ hn _ => hs b x (fun q => by have := hn k ao₀ he q.symm; rw [hb₀] at this; cases this) e
  keepF := fun b x e _ _ hn => ⟨x.slots, hs b x (fun q => by have := hn k ao₀ he q.symm; rw [hb₀] at this; cases this) e⟩
  there := fun b x e => by
    by_cases q : b = ι k
    · exact ⟨o', q ▸ ho'⟩
    · exact ⟨x, hs b x q e⟩
  busy := fun j hj x hx => by
    have hk : k < σ.length := (List.getElem?_eq_some_iff.mp he).1
    by_cases q : j = k
    · subst q
      rw [List.getElem?_set_self hk, he]
      constructor
      · intro e; rw [← Option.some.inj e, hb₀] at hx; cases hx
      · intro e; rw [← Option.some.inj e, hb] at hx; cases hx
    · rw [List.getElem?_set_ne (Ne.symm q)]
end
noncomputable def Same (s s' : Shared) : Prop := s'.os = s.os ∧ (PyProof.Rows.AllBare s.gens → PyProof.Rows.AllBare s'.gens)
theorem Same.refl (s : Shared) : Same s s := ⟨rfl, id⟩
theorem Same.trans {a b c : Shared} (x : Same a b) (y : Same b c) : Same a c := ⟨y.1.trans x.1, fun h => y.2 (x.2 h)⟩
theorem Same.mk (s : Shared) (h : Heap) (t : Nat) : Same s { s with heap := h, toks := t } := ⟨rfl, id⟩
end

noncomputable section
open PySem PySem.Calls PyProof.Rows
theorem lq_refl : ∀ x : List Nat, lq x x = true
  | [] => rfl
  | a :: x => by
    unfold lq
    rw [show Nat.beq a a = true from Nat.beq_refl a]
    exact lq_refl x
theorem sq_refl (x : Str) : sq x x = true := lq_refl _
theorem lq_eq : ∀ {x y : List Nat}, lq x y = true → x = y
  | [], [], _ => rfl
  | [], _ :: _, h => by cases h
  | _ :: _, [], h => by cases h
  | a :: x, b :: y, h => by
    unfold lq at h
    cases q : Nat.beq a b with
    | true =>
      rw [q] at h
      rw [Nat.eq_of_beq_eq_true q, lq_eq h]
    | false => rw [q] at h; cases h
theorem sq_eq {x y : Str} (h : sq x y = true) : x = y := by
  have := lq_eq h
  obtain ⟨⟨a⟩⟩ := x
  obtain ⟨⟨b⟩⟩ := y
  exact congrArg (fun l => (⟨⟨l⟩⟩ : Str)) this
theorem sq_iff (x y : Str) : sq x y = true ↔ x = y := ⟨sq_eq, fun h => h ▸ sq_refl x⟩
theorem sq_false (x y : Str) : sq x y = false ↔ x ≠ y := by rw [Ne, ← sq_iff, Bool.not_eq_true]
theorem sq_beq (x y : Str) : sq x y = (x == y) := by
  cases h : sq x y with
  | true => rw [sq_eq h, beq_self_eq_true]
  | false => exact (beq_eq_false_iff_ne.mpr ((sq_false x y).mp h)).symm
theorem look_eq {α : Type} (x : Str) : ∀ l : List (Str × α), look x l = l.lookup x
  | [] => rfl
  | p :: r => by
    unfold look
    rw [List.lookup_cons, Bool.beq_comm, ← sq_beq]
    cases sq p.1 x with
    | true => rfl
    | false => exact look_eq x r
theorem put_hit (x : Str) {α : Type} (v : α) : ∀ l : List (Str × α), look x (put x v l) = some v
  | [] => by unfold put look; rw [sq_refl]
  | p :: r => by
    unfold put
    cases h : sq p.1 x with
    | true => unfold look; rw [h]
    | false => show look x (p :: put x v r) = _; unfold look; rw [h]; exact put_hit x v r
theorem put_ne {α : Type} (x y : Str) (v : α) (h : sq x y = false) : ∀ l : List (Str × α), look y (put x v l) = look y l
  | [] => by unfold put look; rw [h]; rfl
  | p :: r => by
    unfold put
    cases h1 : sq p.1 x with
    | true => unfold look; rw [show sq p.1 y = false by rw [sq_eq h1]; exact h]
    | false => show look y (p :: put x v r) = _; unfold look; rw [put_ne x y v h r]
/-- what stands after a store -/
theorem put_cases {α : Type} {x y : Str} {v : α} {l : List (Str × α)} {C : Option α → Prop} (h1 : y = x → C (some v)) (h2 : y ≠ x → C (look y l)) : C (look y (put x v l)) := by
  cases h : sq x y with
  | true => rw [← sq_eq h, put_hit]; exact h1 (sq_eq h).symm
  | false => rw [put_ne x y v h]; exact h2 fun q => (sq_false x y).mp h q.symm
theorem look_put {α : Type} (x y : Str) (v : α) (l : List (Str × α)) : look y (put x v l) = if y = x then some v else look y l :=
  put_cases (C := fun o => o = if y = x then some v else look y l) (fun h => (if_pos h).symm) fun h => (if_neg h).symm
/-- the frame at hand -/
structure FR (P : Params) (z : ZM) (ι : Nat → Addr) (σ : Sto) (env : Env) (E : AE) (h : Heap) : Prop where
  kind : env.scope.kind = .function
  kinds : ∀ x, env.kindOf x = look x E.sc ∨ (env.kindOf x = some .cell ∧ look x E.sc = some .free)
  glob : (env.globals = mainGlobals ∧ env.builtins = builtinsNs) ∧ (E.tr = true → env.code = .ref 90)
  dbg : look "__debug__" E.sc = none
  sup : look "super" E.sc = none
  cld : look "__classdict__" E.sc = none
  ns : ∃ m, h.Ns env.locals m ∧ ∀ x, (∀ a, look x E.ρ = some a → ∃ v, m x = some v ∧ VR P z ι σ.length v a) ∧ (look x E.ρ = none → m x = none)
  cells : ∀ x, look x E.sc = some .cell ∨ look x E.sc = some .free → ∃ c v₀, env.cells.lookup x = some c ∧ h.IsCell c v₀ ∧ ∀ a, look x E.κ = some a → ∃ v, v₀ = some v ∧ VR P z ι σ.length v a
  apart : env.cells.Pairwise fun x y => x.2 ≠ y.2
  cloc : ∀ p ∈ env.cells, p.2 ≠ env.locals
  zoff : z env.locals = none ∧ ∀ p ∈ env.cells, z p.2 = none
  ioff : ∀ k, k < σ.length → ι k ≠ env.locals ∧ ∀ p ∈ env.cells, ι k ≠ p.2
  toff : env.locals ≠ tabA ∧ ∀ p ∈ env.cells, p.2 ≠ tabA
  cthere : ∀ p ∈ env.cells, ∃ v₀, h.IsCell p.2 v₀
theorem ns_at {h h' : Heap} {L : Addr} {m : Str → Option Value} (x : h.Ns L m) (e : ∀ o, h.get? L = some o → h'.get? L = some o) : h'.Ns L m :=
  let ⟨o, es, ep, ho, r⟩ := x; ⟨o, es, ep, e _ ho, r⟩
theorem cell_at {h h' : Heap} {c : Addr} {v : Option Value} (x : h.IsCell c v) (e : ∀ o, h.get? c = some o → h'.get? c = some o) : h'.IsCell c v :=
  let ⟨o, ho, hd⟩ := x; ⟨o, e _ ho, hd⟩
theorem ns_atF {h h' : Heap} {L : Addr} {m : Str → Option Value} (x : h.Ns L m) (e : ∀ o, h.get? L = some o → ∃ sl, h'.get? L = some { o with slots := sl }) : h'.Ns L m :=
  let ⟨o, es, ep, ho, r⟩ := x; let ⟨sl, q⟩ := e _ ho; ⟨{ o with slots := sl }, es, ep, q, r⟩
theorem cell_atF {h h' : Heap} {c : Addr} {v : Option Value} (x : h.IsCell c v) (e : ∀ o, h.get? c = some o → ∃ sl, h'.get? c = some { o with slots := sl }) : h'.IsCell c v :=
  let ⟨o, ho, hd⟩ := x; let ⟨sl, q⟩ := e _ ho; ⟨{ o with slots := sl }, q, hd⟩
section
variable {P : Params} {g : GF} {z z' : ZM} {ι ι' : Nat → Addr} {σ σ' : Sto} {env : Env} {E : AE} {h h' : Heap}
theorem FR.ext (F : FR P z ι σ env E h) (e : Ext g [] z ι σ h z' ι' σ' h') : FR P z' ι' σ' env E h' := by
  have keepL : ∀ o, h.get? env.locals = some o → ∃ sl, h'.get? env.locals = some { o with slots := sl } := fun o ho =>
    e.keepF _ o ho (List.not_mem_nil) F.toff.1 fun k ao hk hx => absurd hx (F.ioff k (List.getElem?_eq_some_iff.mp hk).1).1
  have keepC : ∀ p ∈ env.cells, ∀ o, h.get? p.2 = some o → ∃ sl, h'.get? p.2 = some { o with slots := sl } := fun p hp o ho =>
    e.keepF _ o ho (List.not_mem_nil) (F.toff.2 p hp) fun k ao hk hx => absurd hx ((F.ioff k (List.getElem?_eq_some_iff.mp hk).1).2 p hp)
  obtain ⟨m, hn, hm⟩ := F.ns
  have hL : ∃ o, h.get? env.locals = some o := let ⟨o, _, _, ho, _⟩ := hn; ⟨o, ho⟩
  refine ⟨F.kind, F.kinds, F.glob, F.dbg, F.sup, F.cld, ⟨m, ns_atF hn keepL, fun x => ⟨fun a ha => ?_, (hm x).2⟩⟩, fun x hx => ?_, F.apart, F.cloc, ⟨?_, fun p hp => ?_⟩, fun k hk => ?_, F.toff, fun p hp => ?_⟩
  · obtain ⟨v, h1, h2⟩ := (hm x).1 a ha
    exact ⟨v, h1, h2.ext e⟩
  · obtain ⟨c, v₀, h1, h2, h3⟩ := F.cells x hx
    have hp : (x, c) ∈ env.cells := mem_of_lookup h1
    exact ⟨c, v₀, h1, cell_atF h2 (keepC _ hp), fun a ha => let ⟨v, q1, q2⟩ := h3 a ha; ⟨v, q1, q2.ext e⟩⟩
  · cases q : z' env.locals with
    | none => rfl
    | some o =>
      rcases e.znew _ _ q with q | q
      · rw [F.zoff.1] at q; cases q
      · obtain ⟨o, ho⟩ := hL; rw [q] at ho; cases ho
  · cases q : z' p.2 with
    | none => rfl
    | some o =>
      rcases e.znew _ _ q with q | q
      · rw [F.zoff.2 p hp] at q; cases q
      · obtain ⟨v₀, o, ho, _⟩ := F.cthere p hp; rw [q] at ho; cases ho
  · by_cases hlt : k < σ.length
    · rw [e.ile k hlt]; exact F.ioff k hlt
    · have hnew := e.inew k hk (Nat.not_lt.mp hlt)
      refine ⟨fun q => ?_, fun p hp q => ?_⟩
      · obtain ⟨o, ho⟩ := hL; rw [← q, hnew] at ho; cases ho
      · obtain ⟨v₀, o, ho, _⟩ := F.cthere p hp; rw [← q, hnew] at ho; cases ho
  · obtain ⟨v₀, hv⟩ := F.cthere p hp
    exact ⟨v₀, cell_atF hv (keepC p hp)⟩
end
noncomputable abbrev reInts : List Int := [14, 14, 4, 1, 1, 9, 0, 64, 0, 1342177280, 0, 0, 0, 0, 0, 17, 0, 13, 11, 9, 0, 64, 0, 1342177280, 0, 0, 0, 0, 0, 17, 1, 1]
noncomputable abbrev codeO : Obj := { cls := .type "tuple", data := .seq (reInts.map fun i => Value.int i 0).toArray 0 }
noncomputable abbrev patO (t u : Tok) : Obj := { cls := .type "re.Pattern", data := .fields #[.str "([&~|])" t, .int 32 u, .int 1 0, .none, .none, .ref 71, .int 0 0] }
/-- a def that the top has made -/
inductive FnIn (h : Heap) (a : Addr) (fn : Fn) (d : Value) : Prop where
  | mk (o : Obj) (fd : FuncData) : h.get? a = some o → o.data = .func fd → h.CodeRec fd.code fd.qualname → fd.params = fn.params → fd.body = .stmts fn.body → fd.scope = fn.scope → fd.globals = mainGlobals → fd.closure = [] → fd.builtins = builtinsNs → fd.defaults = d → (a = 91 → fd.code = .ref 90) → FnIn h a fn d
/-- what the top has left, as far as the law asks it -/
structure Base (w : World) (g : Heap) : Prop where
  lim : g.NoLimit
  ns : ∃ mg mb, g.Ns mainGlobals mg ∧ g.Ns builtinsNs mb ∧ (∀ x v, look x globs = some v → mg x = some v ∨ (mg x = none ∧ mb x = some v)) ∧ (mg "TypeError" = none ∧ mb "TypeError" = some (.type "TypeError") ∧ mg "NotImplemented" = none ∧ mb "NotImplemented" = some .notImplemented) ∧
    mg "_special_chars_map" = some (.ref 74) ∧ g.BuiltinsAt mg tabA
  fns : ∀ a fn, fnAt a = some fn → a ≠ 67 → FnIn g a fn .none
  hint : FnIn g 67 (dAt 6) (.ref 60)
  dflt : ∃ dn dv, g.get? 60 = some (tupO [dv] dn)
  cd : PySem.W.CodeHd g 90 tabA
  pat : ∃ t u, g.get? 72 = some (patO t u)
  pcode : g.get? 71 = some codeO
  map : ∃ f, g.MapOf (intKind PySem.Challenge.pw_qw0055_01 w) 74 f ∧ f 97 = none
/-- room for n calls -/
structure Room (g : GF) (n : Nat) (A : Around) : Prop where
  handled : A.handled = none
  depth : A.depth + n < recursionLimit
  units : A.units + 20 * n < cLine
  frames : A.frames = some g.fr
theorem Room.le {g : GF} {n m : Nat} {A : Around} (R : Room g n A) (h : m ≤ n) : Room g m A := ⟨R.handled, Nat.lt_of_le_of_lt (Nat.add_le_add_left h _) R.depth, Nat.lt_of_le_of_lt (Nat.add_le_add_left (Nat.mul_le_mul_left _ h) _) R.units, R.frames⟩
theorem Room.dn {g : GF} {n : Nat} {A : Around} (R : Room g (n + 1) A) : Room g n A := R.le (Nat.le_succ n)
noncomputable abbrev PG : Program := PySem.Challenge.pw_qw0055_01
noncomputable abbrev MD (w : World) : Model := model PG w
noncomputable abbrev NoE : Value → Shared → Prop := fun _ _ => False
/-- a state that bears the store -/
structure K (σ : Sto) where
  w : World
  g : GF
  z : ZM
  ι : Nat → Addr
  s : Shared
  B : Base w g.h
  S : SR w.params g z ι σ s.heap
section
variable {σ σ1 σ2 σ' : Sto} {mu : List Addr} {k : K σ} {env : Env} {E : AE} {A : Around}
noncomputable abbrev K.V (k : K σ) (v : Value) (a : AV) : Prop := VR k.w.params k.z k.ι σ.length v a
noncomputable abbrev K.Vs (k : K σ) (v : List Value) (a : List AV) : Prop := VRs k.w.params k.z k.ι σ.length v a
noncomputable abbrev K.Fr (k : K σ) (env : Env) (E : AE) : Prop := FR k.w.params k.z k.ι σ env E k.s.heap
/-- a later state -/
structure Nx (k : K σ) (mu : List Addr) (σ' : Sto) where
  z : ZM
  ι : Nat → Addr
  s : Shared
  e : Ext k.g mu k.z k.ι σ k.s.heap z ι σ' s.heap
  S : SR k.w.params k.g z ι σ' s.heap
  d : Same k.s s
noncomputable abbrev Nx.up (x : Nx k mu σ') : K σ' := ⟨k.w, k.g, x.z, x.ι, x.s, k.B, x.S⟩
noncomputable abbrev Nx.then (x : Nx k mu σ1) (y : Nx x.up mu σ2) : Nx k mu σ2 := ⟨y.z, y.ι, y.s, x.e.trans y.e, y.S, x.d.trans y.d⟩
theorem Ext.anyMu {g : GF} {z z2 : ZM} {ι ι2 : Nat → Addr} {h h' : Heap} (e : Ext g [] z ι σ h z2 ι2 σ' h') : Ext g mu z ι σ h z2 ι2 σ' h' := e.more fun _ q => absurd q List.not_mem_nil
noncomputable abbrev Nx.any (x : Nx k [] σ') : Nx k mu σ' := ⟨x.z, x.ι, x.s, x.e.anyMu, x.S, x.d⟩
/-- nothing but a token was used -/
noncomputable abbrev K.tok (k : K σ) (t : Nat) : Nx k mu σ := ⟨k.z, k.ι, { k.s with toks := t }, Ext.refl .., k.S, Same.mk k.s _ _⟩
noncomputable abbrev K.nx (k : K σ) : Nx k mu σ := ⟨k.z, k.ι, k.s, Ext.refl .., k.S, Same.refl _⟩
/-- the heap only grew -/
noncomputable abbrev K.grow (k : K σ) (h : Heap) (t : Nat) (hk : ∀ b o, k.s.heap.get? b = some o → h.get? b = some o) : Nx k mu σ := ⟨k.z, k.ι, { k.s with heap := h, toks := t }, Ext.grow hk, k.S.grow hk, Same.mk k.s _ _⟩
theorem VR.nx {v : Value} {a : AV} (r : k.V v a) (x : Nx k mu σ') : x.up.V v a := r.ext x.e
theorem VRs.nx {v : List Value} {a : List AV} (r : k.Vs v a) (x : Nx k mu σ') : x.up.Vs v a := r.ext x.e
theorem FR.nx (F : k.Fr env E) (x : Nx k [] σ') : x.up.Fr env E := F.ext x.e
/-- the addresses of the frame at hand -/
noncomputable def frA (env : Env) : List Addr := env.locals :: env.cells.map (·.2)
/-- a statement's end -/
noncomputable def flowR (P : Params) (z : ZM) (ι : Nat → Addr) (n : Nat) (f : AF) (fl : Flow) : Prop := match f with
  | .next => fl = .next
  | .brk => fl = .brk
  | .cont => fl = .cont
  | .ret a => ∃ v, fl = .ret v ∧ VR P z ι n v a
noncomputable abbrev K.Fl (k : K σ) (f : AF) (fl : Flow) : Prop := flowR k.w.params k.z k.ι σ.length f fl
/-- the code gives a value that stands for v, and leaves the store σ' -/
noncomputable def Gives (k : K σ) (A : Around) (t : Sem Value) (v : AV) (σ' : Sto) : Prop := ∀ ⦃Q : Value → Shared → Prop⦄ ⦃X : Value → Shared → Prop⦄, (∀ (x : Nx k [] σ') (u : Value), x.up.V u v → Q u x.s) → wpAny (MD k.w) A t Q X k.s
noncomputable def GivesL (k : K σ) (A : Around) (t : Sem (List Value)) (v : List AV) (σ' : Sto) : Prop := ∀ ⦃Q : List Value → Shared → Prop⦄ ⦃X : Value → Shared → Prop⦄, (∀ (x : Nx k [] σ') (u : List Value), x.up.Vs u v → Q u x.s) → wpAny (MD k.w) A t Q X k.s
noncomputable def GivesB (k : K σ) (A : Around) (t : Sem Bool) (b : Bool) (σ' : Sto) : Prop := ∀ ⦃Q : Bool → Shared → Prop⦄ ⦃X : Value → Shared → Prop⦄, (∀ x : Nx k [] σ', Q b x.s) → wpAny (MD k.w) A t Q X k.s
noncomputable def GivesF (k : K σ) (A : Around) (env : Env) (t : Sem Flow) (P : AF → AE → Sto → Prop) : Prop := ∀ ⦃Q : Flow → Shared → Prop⦄ ⦃X : Value → Shared → Prop⦄, (∀ f E σ' (x : Nx k (frA env) σ') fl, P f E σ' → x.up.Fr env E → x.up.Fl f fl → Q fl x.s) → wpAny (MD k.w) A t Q X k.s
end
/-- an expression -/
noncomputable def EV (n : Nat) (e : Expr) (E : AE) (σ : Sto) (v : AV) (σ' : Sto) : Prop := ∀ (k : K σ) {A : Around} {env : Env}, Room k.g (n + 2) A → k.Fr env E → Gives k A (eval e env) v σ'
/-- a test -/
noncomputable def IT (n : Nat) (e : Expr) (E : AE) (σ : Sto) (b : Bool) (σ' : Sto) : Prop := ∀ (k : K σ) {A : Around} {env : Env}, Room k.g (n + 2) A → k.Fr env E → GivesB k A (isTrue e env (eval e env)) b σ'
/-- statements -/
noncomputable def WP (n : Nat) (ss : List Stmt) (E : AE) (σ : Sto) (Q : AF → AE → Sto → Prop) : Prop := ∀ (k : K σ) {A : Around} {env : Env}, Room k.g (n + 2) A → k.Fr env E → GivesF k A env (execs ss env) Q
noncomputable def EX (n : Nat) (st : Stmt) (E : AE) (σ : Sto) (Q : AF → AE → Sto → Prop) : Prop := ∀ (k : K σ) {A : Around} {env : Env}, Room k.g (n + 2) A → k.Fr env E → GivesF k A env (exec st env) Q
/-- one expression after the other -/
noncomputable def EVS (n : Nat) (es : List Expr) (E : AE) (σ : Sto) (vs : List AV) (σ' : Sto) : Prop := es.all notStar = true ∧ ∀ (k : K σ) {A : Around} {env : Env}, Room k.g (n + 2) A → k.Fr env E → ∀ pos, GivesL k A (spliced (backTo pos (starEach es env))) vs σ'
/-- arguments -/
noncomputable def ARGS (n : Nat) (es : List Expr) (E : AE) (σ : Sto) (vs : List AV) (σ' : Sto) : Prop := ∀ (k : K σ) {A : Around} {env : Env}, Room k.g (n + 2) A → k.Fr env E → ∀ pos, GivesL k A (spliced (backTo pos (starEach es env))) vs σ'
/-- a call of a built-in -/
noncomputable def CB (f : Value) (vs : List AV) (σ : Sto) (v : AV) (σ' : Sto) : Prop := ∀ (k : K σ) {A : Around} {us : List Value}, Room k.g 1 A → k.Vs us vs → Gives k A (call f us) v σ'
/-- a call of a def -/
noncomputable def CD (n : Nat) (a : Addr) (vs : List AV) (σ : Sto) (v : AV) : Prop := (fnAt a).isSome = true ∧ ∀ (k : K σ) {A : Around} {us : List Value}, Room k.g (n + 3) A → k.Vs us vs → Gives k A (call (.ref a) us) v σ
section
variable {σ : Sto} {k : K σ} {A : Around} {env : Env} {E : AE} {X : Value → Shared → Prop}
theorem K.old (k : K σ) {b : Addr} {o : Obj} (e : k.g.h.get? b = some o) : k.s.heap.get? b = some o := k.S.fz b o (k.S.base b o e)
theorem FR.not_debug (F : k.Fr env E) {x : Str} {kd : NameKind} (hk : look x E.sc = some kd) : (x == ("__debug__" : Str)) = false :=
  beq_eq_false_iff_ne.mpr fun e => by rw [e, F.dbg] at hk; cases hk
theorem loadGlobal_ok (hg : env.globals = mainGlobals ∧ env.builtins = builtinsNs) {x : Str} {v : Value} (hx : look x globs = some v) {Q : Value → Shared → Prop} (h : Q v k.s) : wpAny (MD k.w) A (loadGlobal env x) Q X k.s := by
  obtain ⟨mg, mb, h1, h2, h3, _⟩ := k.B.ns
  have n1 := h1.keeps fun _ _ => k.old
  have n2 := h2.keeps fun _ _ => k.old
  rw [← hg.1] at n1
  rw [← hg.2] at n2
  rcases h3 x v hx with q | ⟨q1, q2⟩
  · exact loadGlobal_global n1 q h
  · exact loadGlobal_builtin n1 q1 n2 q2 h
theorem FR.kindAt (F : k.Fr env E) {x : Str} {kd : NameKind} (hk : look x E.sc = some kd) (hn : kd ≠ .free) : env.kindOf x = some kd := by
  rcases F.kinds x with q | ⟨_, q2⟩
  · exact q.trans hk
  · rw [hk] at q2; exact absurd (Option.some.inj q2) hn
theorem FR.cellAt (F : k.Fr env E) {x : Str} (hk : look x E.sc = some .cell ∨ look x E.sc = some .free) {a : AV} (ha : look x E.κ = some a) {C : Prop} (h : ∀ c v, env.cells.lookup x = some c → k.s.heap.IsCell c (some v) → k.V v a → C) : C :=
  let ⟨c, _, h1, h2, h3⟩ := F.cells x hk; let ⟨v, e, hv⟩ := h3 a ha; h c v h1 (e ▸ h2) hv
theorem get_ok (F : k.Fr env E) {x : Str} {a : AV} (hx : E.get x = some a) {Q : Value → Shared → Prop} (h : ∀ v, k.V v a → Q v k.s) : wpAny (MD k.w) A (loadName env x) Q X k.s := by
  unfold AE.get kindOf at hx
  cases hk : look x E.sc with
  | none => rw [hk] at hx; exact nomatch hx
  | some kd =>
    rw [hk] at hx
    cases kd with
    | «local» =>
      obtain ⟨m, hn, hm⟩ := F.ns
      obtain ⟨v, h1, h2⟩ := (hm x).1 a hx
      exact wpAny_loadName_local F.kind (F.kindAt hk nofun) hn h1 (h v h2)
    | cell => exact F.cellAt (.inl hk) hx fun c v h1 h2 h3 => wpAny_loadName_cell F.kind (F.kindAt hk nofun) h1 h2 (h v h3)
    | free =>
      refine F.cellAt (.inr hk) hx fun c v h1 h2 h3 => ?_
      rcases F.kinds x with q | ⟨q, _⟩
      · exact wpAny_loadName_free F.kind (q.trans hk) h1 h2 (h v h3) (beq_eq_false_iff_ne.mpr fun e => by rw [e, F.cld] at hk; cases hk)
      · exact wpAny_loadName_cell F.kind q h1 h2 (h v h3)
    | globalImplicit =>
      rw [loadName_read F.kind (F.kindAt hk nofun)]
      cases hg : look x globs with
      | none => rw [hg] at hx; exact nomatch hx
      | some v =>
        rw [hg] at hx
        cases Option.some.inj hx
        exact loadGlobal_ok F.glob.1 hg (h v (.con v))
    | _ => exact nomatch hx
end
end

noncomputable section
open PySem PySem.W PyProof.Rows
open PySem.Sem (wp)
/-- what the written part says of a function -/
noncomputable def fnView (K : Frag) (a : Addr) : Option (Arguments × FuncBody × Scope × Addr × List (Str × Addr) × Addr × Value × Bool × Value) := match K.lookup a with
  | some ⟨_, _, .func fd, _⟩ => some (fd.params, fd.body, fd.scope, fd.globals, fd.closure, fd.builtins, fd.defaults, codeIn K fd.code fd.qualname, match a == 91 with | true => fd.code | false => .none)
  | _ => none
set_option tactic.hygienic true in
theorem fnView_ok {K : Frag} {h : Heap} {a : Addr} {pa : Arguments} {bo : FuncBody} {sc : Scope} {gl : Addr} {cl : List (Str × Addr)} {bi : Addr} {de cd : Value} (X : K.In h) (e : fnView K a = some (pa, bo, sc, gl, cl, bi, de, true, cd)) :
    ∃ o fd, h.get? a = some o ∧ o.data = .func fd ∧ h.CodeRec fd.code fd.qualname ∧ fd.params = pa ∧ fd.body = bo ∧ fd.scope = sc ∧ fd.globals = gl ∧ fd.closure = cl ∧ fd.builtins = bi ∧ fd.defaults = de ∧ (a = 91 → fd.code = cd) := by
  unfold fnView at e
  split at e
  · rename_i c d fd sl q
    simp only [Option.some.injEq, Prod.mk.injEq] at e
    obtain ⟨e1, e2, e3, e4, e5, e6, e7, e8, e9⟩ := e
    exact ⟨_, fd, X _ _ q, rfl, codeRec_of X e8, e1, e2, e3, e4, e5, e6, e7, fun q => by subst q; exact e9⟩
  · exact nomatch e
noncomputable def fnWant (a : Addr) : Option (Arguments × FuncBody × Scope × Addr × List (Str × Addr) × Addr × Value × Bool × Value) := (fnAt a).map fun fn => (fn.params, .stmts fn.body, fn.scope, mainGlobals, [], builtinsNs, .none, true, match a == 91 with | true => .ref 90 | false => .none)
noncomputable def fnAddrs : List Addr := [45, 52, 59, 84, 91, 164, 178, 185, 192, 199, 206, 213, 220, 225, 232, 239, 244, 249, 254, 259, 266, 271]
theorem nameAt_mem {a : Addr} {n : Str} : ∀ {l : List (Str × Value)}, nameAt a l = some n → ∃ m, (m, Value.ref a) ∈ l
  | [], h => nomatch h
  | (m, v) :: r, h => by
    have next : nameAt a r = some n → ∃ k, (k, Value.ref a) ∈ (m, v) :: r := fun q => let ⟨k, hk⟩ := nameAt_mem q; ⟨k, .tail _ hk⟩
    cases v with
    | ref b =>
      have h : (match Nat.beq a b with | true => some m | false => nameAt a r) = some n := h
      cases q : Nat.beq a b with
      | true => rw [← Nat.eq_of_beq_eq_true q]; exact ⟨m, .head _⟩
      | false => rw [q] at h; exact next h
    | _ => exact next h
theorem fnAt_72 : (fnAt 72).isSome = false := by decide +kernel
theorem fnAddr_ok : (globs.all fun p => match p.2 with | .ref b => Nat.beq b 67 || (Nat.beq b 72 || fnAddrs.contains b) | _ => true) = true := by decide +kernel
theorem fnAddr_mem {a : Addr} (h67 : a ≠ 67) (h72 : a ≠ 72) {m : Str} (h : (m, Value.ref a) ∈ globs) : a ∈ fnAddrs := by
  have h := List.all_eq_true.mp fnAddr_ok _ h
  rcases Bool.or_eq_true_iff.mp (show (Nat.beq a 67 || (Nat.beq a 72 || fnAddrs.contains a)) = true from h) with q | q
  · exact absurd (Nat.eq_of_beq_eq_true q) h67
  rcases Bool.or_eq_true_iff.mp q with q | q
  · exact absurd (Nat.eq_of_beq_eq_true q) h72
  · exact List.contains_iff_mem.mp q
/-- the names that the law reads -/
noncomputable def nameView (K : Frag) (x : Str) : Option Value := match nsIn K mainGlobals x with
  | some (some v) => some v
  | some none => bootBuiltins x
  | none => none
noncomputable def hdOf (o : Obj) := (o.cls, o.dict, o.slots)
noncomputable def mapHd (K : Frag) := (K.lookup 74).map hdOf
noncomputable abbrev hdD := hdOf ⟨.type "dict", none, .plain, #[]⟩
noncomputable def entOk (e : DictEntry) : Bool := match e.key with
  | .int k _ => e.hash == hashInt k && !(k == 97)
  | _ => false
noncomputable def mapOk (d : Data) : Bool := match d with
  | .dict es _ => es.toList.all entOk
  | _ => false
noncomputable def mapView (K : Frag) : Bool := match K.lookup 74 with
  | some o => mapOk o.data
  | none => false
theorem mapView_ok {K : Frag} (h : mapHd K = some hdD) (e : mapView K = true) : ∃ es n, K.lookup 74 = some ⟨.type "dict", none, .dict es n, #[]⟩ ∧ es.toList.all entOk = true := by
  unfold mapHd at h
  unfold mapView at e
  cases q : K.lookup 74 with
  | none => rw [q] at e; exact nomatch e
  | some o =>
    rw [q] at h e
    obtain ⟨c, d, da, sl⟩ := o
    have h := Option.some.inj h
    cases (congrArg Prod.fst h : c = _)
    cases (congrArg (fun x => x.2.1) h : d = _)
    cases (congrArg (fun x => x.2.2) h : sl = _)
    cases da with
    | dict es n => exact ⟨es, n, rfl, e⟩
    | _ => exact nomatch e
/-- what is asked of the written part -/
noncomputable def topSeen (K : Frag) := (fnAddrs.map (fnView K), globs.map (fun p => nameView K p.1), (nsIn K mainGlobals "TypeError", nsIn K mainGlobals "NotImplemented", nsIn K mainGlobals "_special_chars_map", nsIn K mainGlobals "law"),
  fnView K 67, K.lookup 60, ((mapHd K, mapView K), codeHdIn K 90 tabA), K.lookup 72, K.lookup 71)
noncomputable def fnWantD (a : Addr) (d : Value) : Option (Arguments × FuncBody × Scope × Addr × List (Str × Addr) × Addr × Value × Bool × Value) := (fnAt a).map fun fn => (fn.params, .stmts fn.body, fn.scope, mainGlobals, [], builtinsNs, d, true, .none)
noncomputable def topWant := (fnAddrs.map fnWant, globs.map (fun p => some p.2), ((some none : Option (Option Value)), (some none : Option (Option Value)), some (some (Value.ref 74)), some (some (Value.ref 271))),
  fnWantD 67 (.ref 60), some (tupO [.int 0 317] 0), ((some hdD, true), true), some (patO 330 365), some codeO)
structure TopK (K : Frag) : Prop where
  seen : topSeen K = topWant
  no86 : K.lookup tabA = none
theorem globs_noName : (globs.all fun p => !(p.1 == ("__name__" : Str))) = true := by decide +kernel
theorem fnAt_67 : fnAt 67 = some (dAt 6) := by kernel_rfl
section
variable {K : Frag}
theorem TopK.fns (B : TopK K) : fnAddrs.map (fnView K) = fnAddrs.map fnWant := congrArg Prod.fst B.seen
theorem TopK.names (B : TopK K) : globs.map (fun p => nameView K p.1) = globs.map fun p => some p.2 := congrArg (fun x => x.2.1) B.seen
theorem TopK.ex (B : TopK K) : nsIn K mainGlobals "TypeError" = some none ∧ nsIn K mainGlobals "NotImplemented" = some none ∧ nsIn K mainGlobals "_special_chars_map" = some (some (.ref 74)) ∧ nsIn K mainGlobals "law" = some (some (.ref 271)) :=
  ⟨congrArg (fun x => x.2.2.1.1) B.seen, congrArg (fun x => x.2.2.1.2.1) B.seen, congrArg (fun x => x.2.2.1.2.2.1) B.seen, congrArg (fun x => x.2.2.1.2.2.2) B.seen⟩
theorem TopK.f67 (B : TopK K) : fnView K 67 = fnWantD 67 (.ref 60) := congrArg (fun x => x.2.2.2.1) B.seen
theorem TopK.o60 (B : TopK K) : K.lookup 60 = some (tupO [.int 0 317] 0) := congrArg (fun x => x.2.2.2.2.1) B.seen
theorem TopK.map (B : TopK K) : mapHd K = some hdD ∧ mapView K = true := ⟨congrArg (fun x => x.2.2.2.2.2.1.1.1) B.seen, congrArg (fun x => x.2.2.2.2.2.1.1.2) B.seen⟩
theorem TopK.cd (B : TopK K) : codeHdIn K 90 tabA = true := congrArg (fun x => x.2.2.2.2.2.1.2) B.seen
theorem TopK.o72 (B : TopK K) : K.lookup 72 = some (patO 330 365) := congrArg (fun x => x.2.2.2.2.2.2.1) B.seen
theorem TopK.o71 (B : TopK K) : K.lookup 71 = some codeO := congrArg (fun x => x.2.2.2.2.2.2.2) B.seen
end
/-- the part of the heap that is looked at -/
noncomputable def keysK : List Addr := [3, 60, 71, 72, 74] ++ (fnAddrs ++ [67]).flatMap fun a => [a, a - 1]
noncomputable def fragOf (h : Heap) : Frag := keysK.filterMap fun a => (h.get? a).map fun o => (a, o)
theorem frag_get {h : Heap} {a : Addr} {o : Obj} : ∀ {l : List Addr}, (l.filterMap fun a => (h.get? a).map fun o => (a, o)).lookup a = some o → h.get? a = some o ∧ a ∈ l
  | [], e => by cases e
  | b :: l, e => by
    rw [List.filterMap_cons] at e
    cases q : h.get? b with
    | none => rw [q] at e; exact ⟨(frag_get e).1, .tail _ (frag_get e).2⟩
    | some o' =>
      rw [q] at e
      simp only [Option.map_some, List.lookup_cons] at e
      cases q2 : a == b with
      | true =>
        rw [q2] at e
        cases e
        have := beq_iff_eq.mp q2
        subst this
        exact ⟨q, .head _⟩
      | false => rw [q2] at e; exact ⟨(frag_get e).1, .tail _ (frag_get e).2⟩
theorem frag_in (h : Heap) : (fragOf h).In h := fun _ _ e => (frag_get e).1
theorem frag_86 (h : Heap) : (fragOf h).lookup tabA = none := by
  cases e : (fragOf h).lookup tabA with
  | none => rfl
  | some o => exact absurd (frag_get e).2 (by decide)
end

noncomputable section
set_option tactic.hygienic true
set_option hygiene true
open PySem PySem.W PyProof.Rows
/-- what is looked at when the top has run -/
def seenS (s : Shared) := (topSeen (fragOf s.heap), s.heap.get? tabA)
def wantS := (topWant, some (tabObj #[]))
def saysS (_ : World) (h : Heap) : Prop := ∃ K, TopK K ∧ K.In h ∧ h.get? tabA = some (tabObj #[])
theorem says_of (w : World) (s : Shared) (e : seenS s = wantS) : saysS w s.heap :=
  ⟨fragOf s.heap, ⟨congrArg Prod.fst e, frag_86 _⟩, frag_in _, congrArg Prod.snd e⟩
theorem says_keeps (w : World) (h h' : Heap) (x : saysS w h) (k : ∀ b o, h.get? b = some o → h'.get? b = some o) : saysS w h' :=
  let ⟨K, a, b, c⟩ := x; ⟨K, a, fun _ _ e => k _ _ (b _ _ e), k _ _ c⟩
abbrev qV : Program := view PySem.Challenge.pw_qw0055_01 [41]
def looseV : List Str := ["_sre", "_wall", "lt", "contains", "countOf", "length_hint", "_twin_re_1", "_special_chars_map", "escape", "_translate", "_plain_name", "ABCMeta", "_ABCLike", "_abc_plain_meta", "fspath", "_check_arg_types",
  "_get_sep", "join", "split", "splitroot", "dirname", "normpath", "_law_pattern", "_law_read", "_law_takes", "_law_places", "_law_book", "_law_drawn", "_law_kept", "_law_lines", "_law_read_back"]
def xtV (s : Shared) : Bool := xlAt qV [] s && recOk [] s
abbrev LeftP (w : World) : Prop := (openEnds treeTable PySem.Challenge.pw_qw0055_01 w 5686).map (fun s => (openSeen qV looseV (importedModules PySem.Challenge.pw_qw0055_01.main.body) xtV true s, seenS s)) = some (openGood qV looseV, wantS)
abbrev withRows (w : World) (a b : Bool) : World := (w.withFollow "special-get-raises" b).withFollow "comprehension-iter-twice" a
set_option maxHeartbeats 0 in
theorem left_ff : ∀ w : World, LeftP (withRows w false false) := by intro w; kernel_rfl
set_option maxHeartbeats 0 in
theorem left_ft : ∀ w : World, LeftP (withRows w false true) := by intro w; kernel_rfl
set_option maxHeartbeats 0 in
theorem left_tf : ∀ w : World, LeftP (withRows w true false) := by intro w; kernel_rfl
set_option maxHeartbeats 0 in
theorem left_tt : ∀ w : World, LeftP (withRows w true true) := by intro w; kernel_rfl
theorem left_all : LeftO PySem.Challenge.pw_qw0055_01 qV looseV xtV seenS (fun _ => wantS) 5686 :=
  byRow2 (P := LeftP) "comprehension-iter-twice" (byRow2 (P := fun w => LeftP (w.withFollow "comprehension-iter-twice" false)) "special-get-raises" left_ff left_ft)
    (byRow2 (P := fun w => LeftP (w.withFollow "comprehension-iter-twice" true)) "special-get-raises" left_tf left_tt)
end

noncomputable section
set_option tactic.hygienic true
set_option hygiene true
open PySem PySem.W PyProof.Rows
set_option maxHeartbeats 0 in
theorem said : PySem.Challenge.rw_qw0055_01.wellSaid = true := by kernel_rfl
set_option maxHeartbeats 0 in
theorem okV : (chainsOk qV && opensWell PySem.Challenge.rw_qw0055_01.row.prog && (frees PySem.Challenge.rw_qw0055_01.row.toRowW && PySem.Challenge.rw_qw0055_01.row.within.isEmpty)) = true := by kernel_rfl
theorem bareV : PySem.Challenge.rw_qw0055_01.row.prog.bare := ⟨rfl, rfl, rfl, rfl, rfl, by decide +kernel⟩
abbrev rowV : OpenRow := PySem.Challenge.rw_qw0055_01.row
theorem prog_eq : rowV.prog = PySem.Challenge.pw_qw0055_01 := by kernel_rfl
theorem left_row : LeftO rowV.prog qV looseV xtV seenS (fun _ => wantS) 5686 := Eq.mpr (congrArg (fun p => LeftO p qV looseV xtV seenS (fun _ => wantS) 5686) prog_eq) left_all
theorem def_some : (defOf qV rowV.name).isSome = true := by kernel_rfl
theorem def_the : rowV.prog.theDef rowV.name = (defOf qV rowV.name).map fun x => (x.1.params, x.1.body, x.1.scope) := by kernel_rfl
theorem def_kw : ((defOf qV rowV.name).bind fun x => kwWritten? x.1.params.kwonlyargs x.1.params.kw_defaults) = (defOf qV rowV.name).map fun x => x.2 := by kernel_rfl
theorem def_all : ∃ d kwd, defOf qV rowV.name = some (d, kwd) ∧ rowV.prog.theDef rowV.name = some (d.params, d.body, d.scope) ∧ kwWritten? d.params.kwonlyargs d.params.kw_defaults = some kwd ∧ d.name = "law" := by
  obtain ⟨⟨d, kwd⟩, e⟩ := Option.isSome_iff_exists.mp def_some
  have h1 := def_the
  have h2 := def_kw
  rw [e] at h1 h2
  exact ⟨d, kwd, e, h1, h2, defOf_name e⟩
end

noncomputable section
open PySem PySem.Calls PyProof.Rows
theorem cap_fits {n : Nat} (h : n ≤ cap) : n ≤ sizeLine := Nat.le_trans h (by decide)
theorem cap_63 {n : Nat} (h : n ≤ cap) : (n : Int) < 2 ^ 63 := Int.lt_of_le_of_lt (Int.ofNat_le.mpr h) (by decide)
noncomputable def constV : Const → Option AV
  | .none => some .none
  | .bool b => some (.bool b)
  | .int i => some (.int i)
  | .str s => some (.str s)
  | _ => .none
/-- what an operator gives -/
noncomputable def BO (σ : Sto) (op : Operator) (v u z : AV) : Prop := ∀ (k : K σ) {A : Around} {a b : Value}, k.V a v → k.V b u → Gives k A (binaryOp op a b) z σ
noncomputable def AU (op : Operator) (v u z : AV) : Prop := ∀ {σ : Sto} (k : K σ) {A : Around} {a b : Value}, k.V a v → k.V b u → Gives k A (inplaceOp op a b) z σ
noncomputable def CO (σ : Sto) (op : CmpOp) (v u : AV) (t : Bool) : Prop := ∀ (k : K σ) {A : Around} {a b : Value}, Room k.g 1 A → k.V a v → k.V b u → ∀ {Q : Value → Shared → Prop} {X : Value → Shared → Prop}, Q (.bool t) k.s → wpAny (MD k.w) A (compareOp op a b) Q X k.s
noncomputable def TR (σ : Sto) (v : AV) (b : Bool) : Prop := ∀ (k : K σ) {A : Around} {a : Value}, k.V a v → GivesB k A (truthy a) b σ
/-- v[i] -/
noncomputable def IV (σ : Sto) (v : AV) (i : Int) (z : AV) : Prop := ∀ (k : K σ) {A : Around} {a : Value} {t : Tok} {Q : Value → Shared → Prop} {X : Value → Shared → Prop}, k.V a v → (∀ (x : Nx k [] σ) u, x.up.V u z → Q u x.s) → ItemOn (MD k.w) A X a (.int i t) Q k.s
noncomputable def PartV {σ : Sto} (k : K σ) (u : Value) : Option AV → Prop
  | none => u = .none
  | some a => k.V u a
noncomputable def optInt : Option AV → Option (Option Int)
  | .none => some .none
  | some (.int i) => some (some i)
  | some _ => .none
/-- v[l:r] -/
noncomputable def SL (σ : Sto) (v : AV) (l r : Option Int) (z : AV) : Prop := ∀ (k : K σ) {A : Around} {a vl vr : Value} {pl pr : Option (Int × Tok)} {Q : Value → Shared → Prop} {X : Value → Shared → Prop}, k.V a v → IsPart vl l → IsPart vr r → vl = partValue pl → pl.map (·.1) = l → vr = partValue pr → pr.map (·.1) = r →
  (∀ (x : Nx k [] σ) u, x.up.V u z → Q u x.s) → ItemOn (MD k.w) A X a (.ref k.s.heap.objs.size) Q { k.s with heap := k.s.heap.push { cls := .type "slice", data := .fields #[vl, vr, .none] } }
noncomputable def OPT (n : Nat) (o : Option Expr) (E : AE) (σ : Sto) (v : Option AV) (σ' : Sto) : Prop := ∀ (k : K σ) {A : Around} {env : Env}, Room k.g (n + 2) A → k.Fr env E → ∀ {Q : Value → Shared → Prop} {X : Value → Shared → Prop}, (∀ (x : Nx k [] σ') u, PartV x.up u v → Q u x.s) → wpAny (MD k.w) A (evalPart o env) Q X k.s
noncomputable def ALLT (n : Nat) (op : BoolOp) (es : List Expr) (E : AE) (σ : Sto) (b : Bool) (σ' : Sto) : Prop := ∀ (k : K σ) {A : Around} {env : Env}, Room k.g (n + 2) A → k.Fr env E → GivesB k A (allTrue op es env) b σ'
noncomputable def EB (n : Nat) (op : BoolOp) (es : List Expr) (E : AE) (σ : Sto) (v : AV) (σ' : Sto) : Prop := ∀ (k : K σ) {A : Around} {env : Env} {pos : Pos}, Room k.g (n + 2) A → k.Fr env E → Gives k A (boolOp pos op (evalEach es env)) v σ'
theorem new_not {h : Heap} : h.get? h.objs.size = none := Heap.get?_none_of_le (Nat.le_refl _)
theorem push_keeps (h : Heap) (o : Obj) : ∀ b x, h.get? b = some x → (h.push o).get? b = some x := fun _ _ e => Heap.get?_push_of_some _ e
section
variable {n : Nat} {E : AE} {σ σ1 σ2 σ3 σ4 : Sto} {x y : Str} {v u : AV} {k : K σ} {env : Env} {A : Around}
/-- a new list or tuple that nothing will change -/
noncomputable abbrev K.newL (k : K σ) {o : Obj} (hf : o.isFreed = false) {mu : List Addr} (tk : Nat := k.s.toks) : Nx k mu σ :=
  ⟨zput k.z k.s.heap.objs.size o, k.ι, { k.s with heap := k.s.heap.push o, toks := tk }, Ext.frozen k.S (push_keeps _ _) new_not, k.S.frozen (push_keeps _ _) new_not (Heap.get?_push_size _ hf), Same.mk k.s _ _⟩
theorem K.newL_le (k : K σ) {o : Obj} {vs : List Value} {xs : List AV} (h : k.Vs vs xs) : VRs k.w.params (zput k.z k.s.heap.objs.size o) k.ι σ.length vs xs := h.mono (zput_le (k.S.none_of new_not)) (fun _ _ => rfl) (Nat.le_refl _)
theorem evp_const {c : Const} {j : Nat} {p : Pos} (h : constV c = some v) : EV (n + 1) (.Constant c j p) E σ v σ := fun k _ _ _ _ _ _ C => by
  cases c with
  | none => cases h; exact wpAny_Constant_none (C k.nx _ .none)
  | bool b => cases h; exact wpAny_Constant_bool (C k.nx _ (.bool b))
  | int i => cases h; exact wpAny_Constant_int (C (k.tok _) _ (.int i _))
  | str s => cases h; exact wpAny_Constant_str (C (k.tok _) _ (.str s _))
  | _ => cases h
theorem evp_name {p : Pos} (h1 : E.get x = some v) : EV (n + 1) (.Name x p) E σ v σ := fun k _ _ _ F _ _ C =>
  wpAny_Name (get_ok F h1 fun u r => C k.nx u r) (by
    unfold AE.get kindOf at h1
    cases hk : look x E.sc with
    | none => rw [hk] at h1; exact nomatch h1
    | some kd => exact F.not_debug hk)
theorem ev_bin {a b : Expr} {op : Operator} {p : Pos} {z : AV} (h1 : EV n a E σ v σ1) (h2 : EV n b E σ1 u σ2) (h3 : BO σ2 op v u z) : EV (n + 1) (.BinOp a op b p) E σ z σ2 := fun k _ _ R F _ _ C =>
  wpAny_BinOp (h1 k R.dn F fun x _ r1 => h2 x.up R.dn (F.nx x) fun y _ r2 => h3 y.up (r1.nx y) r2 fun w _ r3 => C ((x.then y).then w) _ r3)
theorem ev_neg {a : Expr} {p : Pos} {i : Int} (h1 : EV n a E σ (.int i) σ1) : EV (n + 1) (.UnaryOp .USub a p) E σ (.int (-i)) σ1 := fun k _ _ R F _ _ C =>
  wpAny_UnaryOp (h1 k R.dn F fun x _ r1 => r1.int_el (C := fun u => wpAny _ _ (unaryOp _ u) _ _ _) fun _ => neg_int (C (x.then (x.up.tok _)) _ (.int _ _)))
theorem ev_ift {t a b : Expr} {p : Pos} (h1 : IT n t E σ true σ1) (h2 : EV n a E σ1 v σ2) : EV (n + 1) (.IfExp t a b p) E σ v σ2 := fun k _ _ R F _ _ C =>
  wpAny_IfExp (h1 k R.dn F fun x => h2 x.up R.dn (F.nx x) fun y _ r => C (x.then y) _ r)
theorem ev_iff {t a b : Expr} {p : Pos} (h1 : IT n t E σ false σ1) (h2 : EV n b E σ1 v σ2) : EV (n + 1) (.IfExp t a b p) E σ v σ2 := fun k _ _ R F _ _ C =>
  wpAny_IfExp (h1 k R.dn F fun x => h2 x.up R.dn (F.nx x) fun y _ r => C (x.then y) _ r)
theorem ev_if {t a b : Expr} {p : Pos} {c : Bool} (h1 : IT n t E σ c σ1) (h2 : c = true → EV n a E σ1 v σ1) (h3 : c = false → EV n b E σ1 u σ1) : EV (n + 1) (.IfExp t a b p) E σ (if c then v else u) σ1 := by
  cases c
  · exact ev_iff h1 (h3 rfl)
  · exact ev_ift h1 (h2 rfl)
theorem evs_nil : EVS n [] E σ [] σ := ⟨rfl, fun k _ _ _ _ _ _ _ C => wpAny_items_nil (C k.nx _ .nil)⟩
theorem star_plain {e : Expr} {es : List Expr} (hs : notStar e = true) : starEach (e :: es) env = (false, eval e env) :: starEach es env := by
  cases e <;> first | rfl | cases hs
theorem args_nil : ARGS n [] E σ [] σ := evs_nil.2
theorem args_cons {e : Expr} {es : List Expr} {vs : List AV} (hs : notStar e = true) (h1 : EV n e E σ v σ1) (h2 : ARGS n es E σ1 vs σ2) : ARGS n (e :: es) E σ (v :: vs) σ2 := fun k _ _ R F pos _ _ C =>
  wpAny_items_cons (h1 k R F fun x _ r1 => h2 x.up R (F.nx x) pos fun y _ r2 => C (x.then y) _ (.cons (r1.nx y) r2)) (star_plain hs)
theorem evs_cons {e : Expr} {es : List Expr} {vs : List AV} (hs : notStar e = true) (h1 : EV n e E σ v σ1) (h2 : EVS n es E σ1 vs σ2) : EVS n (e :: es) E σ (v :: vs) σ2 :=
  ⟨by rw [List.all_cons, hs, h2.1]; rfl, args_cons hs h1 h2.2⟩
theorem ev_list {es : List Expr} {p : Pos} {vs : List AV} (h1 : EVS n es E σ vs σ1) (h2 : vs.length ≤ cap) : EV (n + 1) (.List es p) E σ (.list vs) σ1 := fun k _ _ R F _ _ C =>
  wpAny_List (h1.2 k R.dn F _ fun x us r => ⟨by rw [r.length]; exact cap_fits h2, C (x.then (x.up.newL (o := listO us 0) rfl)) _ (.list (zput_self ..) (x.up.newL_le r))⟩)
theorem ev_tup {es : List Expr} {j : Nat} {p : Pos} {vs : List AV} (h1 : EVS n es E σ vs σ1) (h2 : vs.length ≤ cap) : EV (n + 1) (.Tuple es j p) E σ (.tup vs) σ1 := fun k _ _ R F _ _ C =>
  wpAny_Tuple (h1.2 k R.dn F _ fun x us r => ⟨by rw [r.length]; exact cap_fits h2, C (x.then (x.up.newL (o := tupO us 0) rfl)) _ (.tup (zput_self ..) (x.up.newL_le r))⟩)
theorem ev_cmp {a b : Expr} {op : CmpOp} {p : Pos} {t : Bool} (hb : behindInMarks op b = false) (h1 : EV n a E σ v σ1) (h2 : EV n b E σ1 u σ2) (h3 : CO σ2 op v u t) : EV (n + 1) (.Compare a [op] [b] p) E σ (.bool t) σ2 := fun k _ _ R F _ _ C =>
  wpAny_Compare1 (h1 k R.dn F fun x _ r1 => h2 x.up R.dn (F.nx x) fun y _ r2 => h3 y.up (R.le (Nat.le_add_left ..)) (r1.nx y) r2 (C (x.then y) _ (.bool t))) hb
theorem opt_none : OPT n .none E σ .none σ := fun k _ _ _ _ _ _ C => wpAny_evalPart_none (C k.nx _ rfl)
theorem opt_some {e : Expr} (h : EV n e E σ v σ1) : OPT n (some e) E σ (some v) σ1 := fun k _ _ R F _ _ C => wpAny_evalPart_some (h k R F fun x u r => C x u r)
theorem it_val {e : Expr} {b : Bool} (hs : ∀ (env : Env) (t : Sem Value), isTrue e env t = (do let v ← t; standAt e.pos; holding [v] (truthy v))) (h1 : EV n e E σ v σ1) (h2 : TR σ1 v b) : IT (n + 1) e E σ b σ1 := fun k _ _ R F _ _ C =>
  wpAny_isTrue_value (h1 k R.dn F fun x _ r => h2 x.up r fun y => C (x.then y)) (hs _ _)
theorem it_not {a : Expr} {p : Pos} {b : Bool} (h : IT n a E σ b σ1) : IT (n + 1) (.UnaryOp .Not a p) E σ (!b) σ1 := fun k _ _ R F _ _ C => wpAny_isTrue_Not (h k R.dn F fun x => C x)
theorem it_bool {op : BoolOp} {es : List Expr} {p : Pos} {b : Bool} (h : ALLT n op es E σ b σ1) : IT (n + 1) (.BoolOp op es p) E σ b σ1 := fun k _ _ R F _ _ C => wpAny_isTrue_BoolOp (h k R.dn F fun x => C x)
theorem it_cmp {a b : Expr} {op : CmpOp} {p : Pos} {t : Bool} (hb : behindInMarks op b = false) (h1 : EV n a E σ v σ1) (h2 : EV n b E σ1 u σ2) (h3 : CO σ2 op v u t) : IT (n + 1) (.Compare a [op] [b] p) E σ t σ2 := fun k _ _ R F _ _ C =>
  wpAny_isTrue_Compare1 (h1 k R.dn F fun x _ r1 => h2 x.up R.dn (F.nx x) fun y _ r2 => h3 y.up (R.le (Nat.le_add_left ..)) (r1.nx y) r2 (wpAny_truthy_bool (C (x.then y)))) hb
theorem it_cast {e : Expr} {b b' : Bool} (h : IT n e E σ b σ1) (hb : b = b') : IT n e E σ b' σ1 := hb ▸ h
theorem and_nil : ALLT n .And [] E σ true σ := fun k _ _ _ _ _ _ C => wpAny_allTrue_And_nil (C k.nx)
theorem and_t {e : Expr} {es : List Expr} {b : Bool} (h1 : IT n e E σ true σ1) (h2 : ALLT n .And es E σ1 b σ2) : ALLT n .And (e :: es) E σ b σ2 := fun k _ _ R F _ _ C =>
  wpAny_allTrue_And_cons (h1 k R F fun x => h2 x.up R (F.nx x) fun y => C (x.then y))
theorem and_f {e : Expr} {es : List Expr} (h1 : IT n e E σ false σ1) : ALLT n .And (e :: es) E σ false σ1 := fun k _ _ R F _ _ C => wpAny_allTrue_And_cons (h1 k R F fun x => C x)
theorem or_nil : ALLT n .Or [] E σ false σ := fun k _ _ _ _ _ _ C => wpAny_allTrue_Or_nil (C k.nx)
theorem or_f {e : Expr} {es : List Expr} {b : Bool} (h1 : IT n e E σ false σ1) (h2 : ALLT n .Or es E σ1 b σ2) : ALLT n .Or (e :: es) E σ b σ2 := fun k _ _ R F _ _ C =>
  wpAny_allTrue_Or_cons (h1 k R F fun x => h2 x.up R (F.nx x) fun y => C (x.then y))
theorem or_t {e : Expr} {es : List Expr} (h1 : IT n e E σ true σ1) : ALLT n .Or (e :: es) E σ true σ1 := fun k _ _ R F _ _ C => wpAny_allTrue_Or_cons (h1 k R F fun x => C x)
theorem and_t1 {e : Expr} {b : Bool} (h : IT n e E σ b σ1) : ALLT n .And [e] E σ b σ1 := by
  cases b
  · exact and_f h
  · exact and_t h and_nil
theorem ev_bool {op : BoolOp} {es : List Expr} {p : Pos} (h : EB n op es E σ v σ1) : EV (n + 1) (.BoolOp op es p) E σ v σ1 := fun k _ _ R F _ _ C => by
  rw [arm_eval_BoolOp]; exact h k R.dn F C
theorem eb_one {op : BoolOp} {e : Expr} (h : EV n e E σ v σ1) : EB n op [e] E σ v σ1 := fun k _ _ _ R F _ _ C => h k R F C
/-- one more operand -/
theorem eb_step {op : BoolOp} {e e' : Expr} {es : List Expr} {b : Bool} (h : EV n e E σ v σ1) (ht : TR σ1 v b) (k : K σ) {pos : Pos} (R : Room k.g (n + 2) A) (F : k.Fr env E) {Q X : Value → Shared → Prop}
    (C : ∀ (x : Nx k [] σ1) a, x.up.V a v → wpAny (MD k.w) A (match op, b with | .And, false | .Or, true => pure a | _, _ => boolOp pos op (evalEach (e' :: es) env)) Q X x.s) : wpAny (MD k.w) A (boolOp pos op (evalEach (e :: e' :: es) env)) Q X k.s := by
  show wpAny (MD k.w) A (eval e env >>= fun v => standAt pos >>= fun _ => holding [v] (truthy v) >>= fun t => match op, t with
      | .And, false | .Or, true => pure v
      | _, _ => boolOp pos op (evalEach (e' :: es) env)) _ _ _
  exact wpAny_bind (h k R F fun x a r => wpAny_bind (wpAny_standAt (wpAny_bind (wpAny_holding (ht x.up r fun y => C (x.then y) a (r.nx y))))))
theorem eb_or_t {e e' : Expr} {es : List Expr} (h : EV n e E σ v σ1) (ht : TR σ1 v true) : EB n .Or (e :: e' :: es) E σ v σ1 := fun k _ _ _ R F _ _ C => eb_step h ht k R F fun x a r => wpAny_pure (C x a r)
theorem eb_or_f {e e' : Expr} {es : List Expr} (h : EV n e E σ v σ1) (ht : TR σ1 v false) (h2 : EB n .Or (e' :: es) E σ1 u σ2) : EB n .Or (e :: e' :: es) E σ u σ2 := fun k _ _ _ R F _ _ C =>
  eb_step h ht k R F fun x _ _ => h2 x.up R (F.nx x) fun y u r => C (x.then y) u r
theorem eb_and_f {e e' : Expr} {es : List Expr} (h : EV n e E σ v σ1) (ht : TR σ1 v false) : EB n .And (e :: e' :: es) E σ v σ1 := fun k _ _ _ R F _ _ C => eb_step h ht k R F fun x a r => wpAny_pure (C x a r)
theorem eb_and_t {e e' : Expr} {es : List Expr} (h : EV n e E σ v σ1) (ht : TR σ1 v true) (h2 : EB n .And (e' :: es) E σ1 u σ2) : EB n .And (e :: e' :: es) E σ u σ2 := fun k _ _ _ R F _ _ C =>
  eb_step h ht k R F fun x _ _ => h2 x.up R (F.nx x) fun y u r => C (x.then y) u r
end
end

noncomputable section
open PySem PySem.Calls PyProof.Rows
section
variable {P : Params} {z : ZM} {ι : Nat → Addr} {n : Nat} {h : Heap}
theorem VR.reads (hz : ∀ b o, z b = some o → h.get? b = some o) {v : Value} {a : AV} (r : VR P z ι n v a) : ∀ d, toPD a = some d → (∃ as, Reads h v d as) ∧ d.canLay0 = true :=
  VR.rec (motive_1 := fun v a _ => ∀ d, toPD a = some d → (∃ as, Reads h v d as) ∧ d.canLay0 = true) (motive_2 := fun vs as _ => ∀ d, toPDs as = some d → (∃ as, ReadsAll h vs d as) ∧ PyData.canLayAll0 d = true) (motive_3 := fun _ _ _ => True)
    (fun d e => by cases Option.some.inj e; exact ⟨⟨_, .none⟩, rfl⟩) (fun b d e => by cases Option.some.inj e; exact ⟨⟨_, .bool b⟩, rfl⟩) (fun i t d e => by cases Option.some.inj e; exact ⟨⟨_, .int i t⟩, rfl⟩)
    (fun x t d e => by
      have e : (if PyData.strOk x then some (PyData.str x) else .none) = some d := e
      by_cases hs : PyData.strOk x
      · rw [if_pos hs] at e; cases Option.some.inj e; exact ⟨⟨_, .str x t⟩, hs⟩
      · rw [if_neg hs] at e; exact nomatch e)
    (fun {_ _ _ xs} hl _ ih d e => by
      have e : (toPDs xs).map PyData.list = some d := e
      cases q : toPDs xs with
      | none => rw [q] at e; exact nomatch e
      | some ds =>
        rw [q] at e; cases Option.some.inj e
        exact let ⟨⟨as, r⟩, c⟩ := ih ds q; ⟨⟨_, .list (hz _ _ hl) rfl rfl r⟩, c⟩)
    (fun {_ _ _ xs} hl _ ih d e => by
      have e : (toPDs xs).map PyData.tuple = some d := e
      cases q : toPDs xs with
      | none => rw [q] at e; exact nomatch e
      | some ds =>
        rw [q] at e; cases Option.some.inj e
        exact let ⟨⟨as, r⟩, c⟩ := ih ds q; ⟨⟨_, .tuple (hz _ _ hl) rfl rfl r⟩, c⟩)
    (fun _ _ _ _ _ d e => nomatch e) (fun _ d e => nomatch e) (fun _ d e => nomatch e) (fun _ d e => nomatch e)
    (fun d e => by cases Option.some.inj e; exact ⟨⟨_, .nil⟩, rfl⟩)
    (fun {v a vs as} _ _ ih1 ih2 d e => by
      have e : (match toPD a, toPDs as with
        | some d, some e => some (d :: e)
        | _, _ => Option.none) = some d := e
      cases q : toPD a with
      | none => rw [q] at e; exact nomatch e
      | some d1 => cases q2 : toPDs as with
        | none => rw [q, q2] at e; exact nomatch e
        | some ds =>
          rw [q, q2] at e; cases Option.some.inj e
          exact let ⟨⟨as1, r1⟩, c1⟩ := ih1 _ q; let ⟨⟨as2, r2⟩, c2⟩ := ih2 _ q2; ⟨⟨_, .cons r1 r2⟩, by rw [PyData.canLayAll0, c1, c2]; rfl⟩)
    trivial (fun _ _ _ _ => trivial) r
theorem VRs.reads (hz : ∀ b o, z b = some o → h.get? b = some o) {vs : List Value} {as : List AV} (r : VRs P z ι n vs as) {k : Nat} {a : Addr} (ha : h.get? a = some (listO vs k)) : ∀ d, toPDs as = some d → (∃ as, Reads h (.ref a) (.list d) as) ∧ PyData.canLayAll0 d = true := fun d e => by
  have := VR.reads (z := fun b => if b = a then some (listO vs k) else z b) (ι := ι) (n := n) (P := P) (h := h) (fun b o q => by
    by_cases hb : b = a
    · rw [if_pos hb] at q; cases q; rw [hb]; exact ha
    · rw [if_neg hb] at q; exact hz b o q) (.list (if_pos rfl) (r.mono (fun b o q => ?_) (fun _ _ => rfl) (Nat.le_refl _))) (.list d) (by show (toPDs as).map PyData.list = _; rw [e]; rfl)
  · exact this
  · by_cases hb : b = a
    · rw [if_pos hb]; have := hz b o q; rw [hb, ha] at this; exact this
    · rw [if_neg hb]; exact q
theorem VRs.picks {vs : List Value} {xs : List AV} (r : VRs P z ι n vs xs) : ∀ is : List Nat, VRs P z ι n (is.filterMap (vs[·]?)) (is.filterMap (xs[·]?))
  | [] => .nil
  | i :: is => by
    rw [List.filterMap_cons, List.filterMap_cons]
    cases q : xs[i]? with
    | none =>
      rw [show vs[i]? = none by rw [List.getElem?_eq_none_iff] at q ⊢; rw [r.length]; exact q]
      exact VRs.picks r is
    | some a =>
      obtain ⟨v, h1, h2⟩ := r.get q
      rw [h1]; exact .cons h2 (VRs.picks r is)
theorem VRs.cut {vs : List Value} {xs : List AV} (r : VRs P z ι n vs xs) (l u : Option Int) : VRs P z ι n (cutL vs l u) (cutL xs l u) := by
  unfold cutL
  rw [r.length]
  exact r.picks _
end
section
variable {σ : Sto} {k : K σ} {a : Value} {v : AV} {xs : List AV} {C : Value → Prop}
theorem own_list_el {j : Nat} (hj : σ[j]? = some (.list xs) ∨ σ[j]? = some (.ro xs)) {D : Prop} (h : ∀ vs m, k.s.heap.get? (k.ι j) = some (listO vs m) → k.Vs vs xs → D) : D := by
  rcases hj with hj | hj
  · obtain ⟨o, h1, vs, m, rfl, h3⟩ := k.S.own _ _ hj; exact h vs m h1 h3
  · obtain ⟨o, h1, vs, m, rfl, h3⟩ := k.S.own _ _ hj; exact h vs m h1 h3
theorem lists_own_or {j : Nat} (e : lists σ (.own j) = some xs) : σ[j]? = some (.list xs) ∨ σ[j]? = some (.ro xs) := by
  have e : (match σ[j]? with
    | some (.list xs) => some xs
    | some (.ro xs) => some xs
    | _ => none) = some xs := e
  cases q : σ[j]? with
  | none => rw [q] at e; exact nomatch e
  | some o =>
    rw [q] at e
    cases o with
    | list ys => exact .inl (congrArg _ (congrArg _ (Option.some.inj e)))
    | ro ys => exact .inr (congrArg _ (congrArg _ (Option.some.inj e)))
    | _ => exact nomatch e
/-- a list in the heap, frozen or of the store -/
theorem lists_el (r : k.V a v) (e : lists σ v = some xs) (h : ∀ l vs m, k.s.heap.get? l = some (listO vs m) → k.Vs vs xs → C (.ref l)) : C a := by
  cases v with
  | list ys => cases Option.some.inj e; exact r.list_el fun l vs m q hs => h l vs m (k.S.fz _ _ q) hs
  | own j => exact r.own_el fun _ => own_list_el (lists_own_or e) (h _)
  | _ => exact nomatch e
theorem items_of (h : lists σ v = some xs) : items σ v = some xs := by
  cases v with
  | list ys => exact h
  | own j => exact h
  | _ => exact nomatch h
theorem items_tup : items σ (.tup xs) = some xs := rfl
/-- a list or a tuple -/
theorem items_el (r : k.V a v) (e : items σ v = some xs) (h1 : ∀ l vs m, k.s.heap.get? l = some (listO vs m) → k.Vs vs xs → C (.ref l)) (h2 : ∀ l vs m, k.s.heap.get? l = some (tupO vs m) → k.Vs vs xs → C (.ref l)) : C a := by
  cases v with
  | list ys => exact lists_el r e h1
  | own j => exact lists_el r e h1
  | tup ys => cases Option.some.inj e; exact r.tup_el fun l vs m q hs => h2 l vs m (k.S.fz _ _ q) hs
  | _ => exact nomatch e
end
section
variable {σ : Sto} {x y : Str} {i j : Int} {xs ys : List AV} {u v w : AV} {m l : Nat} {o p : AO}
theorem lists_tree : lists σ (.list xs) = some xs := rfl
theorem lists_own (h : σ[m]? = some (.list xs)) : lists σ (.own m) = some xs := by unfold lists; simp only [h]
theorem lists_ro (h : σ[m]? = some (.ro xs)) : lists σ (.own m) = some xs := by unfold lists; simp only [h]
/-- operators -/
theorem bo_int {op : Operator} {c : Int} (h : ∀ {w : World} {A : Around} {s : Shared} {t t' : Tok} {Q X : Value → Shared → Prop}, (∀ t'' tk, Q (.int c t'') { s with toks := tk }) → wpAny (MD w) A (binaryOp op (.int i t) (.int j t')) Q X s) : BO σ op (.int i) (.int j) (.int c) := fun k _ _ _ ra rb _ _ C =>
  ra.int_el (C := fun a => wpAny _ _ (binaryOp _ a _) _ _ _) fun _ => rb.int_el (C := fun b => wpAny _ _ (binaryOp _ _ b) _ _ _) fun _ => h fun _ tk => C (k.tok tk) _ (.int _ _)
theorem bin_add_int : BO σ .Add (.int i) (.int j) (.int (i + j)) := bo_int fun h => add_int (h _ _)
theorem bin_sub_int : BO σ .Sub (.int i) (.int j) (.int (i - j)) := bo_int fun h => sub_int (h _ _)
theorem pylong_no {i j : Int} (h0 : 0 < j) (h1 : j < 1000) : Builtin.divisionGoesByPylong i j = false := by
  unfold Builtin.divisionGoesByPylong
  have h2 : j.natAbs.log2 < 10 := by
    have : j.natAbs < 2 ^ 10 := by omega
    exact (Nat.log2_lt (by (clear this h1; omega))).mpr this
  have h3 : ¬ ((if (j == 0) = true then 0 else j.natAbs.log2 / 30 + 1) > 300) := by split <;> (clear h1 h0; omega)
  simp only [decide_eq_false h3, Bool.false_and]
theorem bin_mod (h : 0 < j ∧ j < 1000) : BO σ .Mod (.int i) (.int j) (.int (Int.fmod i j)) := bo_int fun q => mod_int (Int.ne_of_gt h.1) (q _ _)
theorem bin_div (h : 0 < j ∧ j < 1000) : BO σ .FloorDiv (.int i) (.int j) (.int (Int.fdiv i j)) := bo_int fun q => floordiv_int (Int.ne_of_gt h.1) (q _ _) (.inl (pylong_no h.1 h.2))
theorem bin_add_str (h : x.length + y.length ≤ cap) : BO σ .Add (.str x) (.str y) (.str (x ++ y)) := fun k _ _ _ ra rb _ _ C =>
  ra.str_el (C := fun a => wpAny _ _ (binaryOp _ a _) _ _ _) fun _ => rb.str_el (C := fun b => wpAny _ _ (binaryOp _ _ b) _ _ _) fun _ => SB.add (fun _ tk => C (k.tok tk) _ (.str _ _)) (cap_fits h)
theorem mulOk_of {x : Str} {j : Int} (h0 : 0 ≤ j) (h1 : j ≤ 100000) (h : x.length * j.toNat ≤ cap) : MulOk x j := by
  have hc : cap = 100000 := rfl
  refine ⟨by simp; (clear hc h; omega), fun hj _ hx => ?_, fun _ _ => ?_⟩
  · have hn : x.length ≤ 100000 := by
      have : 1 ≤ j.toNat := by (clear hx hc h h1 h0; omega)
      calc x.length = x.length * 1 := (Nat.mul_one _).symm
        _ ≤ x.length * j.toNat := Nat.mul_le_mul_left _ this
        _ ≤ 100000 := h
    have h3 : (100000 : Int) ≤ (2 ^ 63 - 1) / j := by
      rw [Int.le_ediv_iff_mul_le (by (clear hn hx hc h h1 h0; omega))]
      have : (100000 : Int) * j ≤ 100000 * 100000 := Int.mul_le_mul_of_nonneg_left h1 (by (clear hn hx hj hc h h1 h0; omega))
      (clear this hn hx hj hc h h0; omega)
    (clear hj hc h h1 h0; omega)
  · unfold Builtin.Str.tooLong
    exact decide_eq_false (by have := cap_fits h; (clear hc h h1 h0; omega))
theorem bin_mul_str (h : 0 ≤ j ∧ j ≤ 100000 ∧ x.length * j.toNat ≤ cap) : BO σ .Mult (.str x) (.int j) (.str (Txt.mul x j)) := fun k _ _ _ ra rb _ _ C =>
  ra.str_el (C := fun a => wpAny _ _ (binaryOp _ a _) _ _ _) fun _ => rb.int_el (C := fun b => wpAny _ _ (binaryOp _ _ b) _ _ _) fun _ => SB.mul (mulOk_of h.1 h.2.1 h.2.2) fun _ tk => C (k.tok tk) _ (.str _ _)
theorem cat_lists (h1 : lists σ u = some xs) (h2 : lists σ v = some ys) (hc : xs.length + ys.length ≤ cap) : BO σ .Add u v (.list (xs ++ ys)) := fun k _ _ _ ra rb _ _ C =>
  lists_el (C := fun a => wpAny _ _ (binaryOp _ a _) _ _ _) ra h1 fun l1 vs1 m1 g1 r1 => lists_el (C := fun b => wpAny _ _ (binaryOp _ _ b) _ _ _) rb h2 fun l2 vs2 m2 g2 r2 =>
    PySem.P.add_list g1 g2 (by rw [show vs1.toArray ++ vs2.toArray = (vs1 ++ vs2).toArray from List.append_toArray ..]; exact C (k.newL (o := listO (vs1 ++ vs2) 0) rfl) _ (.list (zput_self ..) (k.newL_le (r1.append r2))))
      (by rw [List.size_toArray, List.size_toArray, r1.length, r2.length]; exact cap_fits hc)
theorem aug_str (h : x.length + y.length ≤ cap) : AU .Add (.str x) (.str y) (.str (x ++ y)) := fun k _ _ _ ra rb _ _ C =>
  ra.str_el (C := fun a => wpAny _ _ (inplaceOp _ a _) _ _ _) fun _ => rb.str_el (C := fun b => wpAny _ _ (inplaceOp _ _ b) _ _ _) fun _ => iadd_str (fun _ tk => C (k.tok tk) _ (.str _ _)) (cap_fits h)
theorem aug_int : AU .Add (.int i) (.int j) (.int (i + j)) := fun k _ _ _ ra rb _ _ C =>
  ra.int_el (C := fun a => wpAny _ _ (inplaceOp _ a _) _ _ _) fun _ => rb.int_el (C := fun b => wpAny _ _ (inplaceOp _ _ b) _ _ _) fun _ => AutoIntOps.iadd_0 (C (k.tok _) _ (.int _ _))
/-- comparisons -/
theorem cps_beq (x y : Str) : (x.cps.toList == y.cps.toList) = sq x y := by
  cases h : sq x y with
  | true => rw [sq_eq h, beq_self_eq_true]
  | false => exact beq_eq_false_iff_ne.mpr fun q => (sq_false x y).mp h (by obtain ⟨⟨a⟩⟩ := x; obtain ⟨⟨b⟩⟩ := y; exact congrArg (fun l => (⟨⟨l⟩⟩ : Str)) q)
theorem ltS_eq (x y : Str) : decide (x.cps.toList < y.cps.toList) = ltS x y := by
  unfold ltS
  generalize x.cps.toList = a
  generalize y.cps.toList = b
  induction a generalizing b with
  | nil => cases b <;> simp [PySem.Spec.ltCps]
  | cons c r ih =>
    cases b with
    | nil => simp [PySem.Spec.ltCps]
    | cons d t =>
      unfold PySem.Spec.ltCps
      rw [← ih t]
      by_cases h1 : c < d
      · have : (c :: r) < (d :: t) := List.Lex.rel h1
        simp [h1, this]
      · by_cases h2 : c = d
        · subst h2
          have : ((c :: r) < (c :: t)) ↔ r < t := by simp [List.cons_lt_cons_iff]
          simp [this]
        · have : ¬ ((c :: r) < (d :: t)) := by simp [List.cons_lt_cons_iff, h1, h2]
          simp [h1, h2, this]
theorem co_str {op : CmpOp} {t : Bool} (h : ∀ {w : World} {A : Around} {s : Shared} {a b : Tok} {Q X : Value → Shared → Prop}, Q (.bool t) s → wpAny (MD w) A (compareOp op (.str x a) (.str y b)) Q X s) : CO σ op (.str x) (.str y) t := fun _ _ _ _ _ ra rb _ _ C =>
  ra.str_el (C := fun a => wpAny _ _ (compareOp _ a _) _ _ _) fun _ => rb.str_el (C := fun b => wpAny _ _ (compareOp _ _ b) _ _ _) fun _ => h C
theorem co_int {op : CmpOp} {t : Bool} (h : ∀ {w : World} {A : Around} {s : Shared} {a b : Tok} {Q X : Value → Shared → Prop}, Q (.bool t) s → wpAny (MD w) A (compareOp op (.int i a) (.int j b)) Q X s) : CO σ op (.int i) (.int j) t := fun _ _ _ _ _ ra rb _ _ C =>
  ra.int_el (C := fun a => wpAny _ _ (compareOp _ a _) _ _ _) fun _ => rb.int_el (C := fun b => wpAny _ _ (compareOp _ _ b) _ _ _) fun _ => h C
theorem cmp_lt_str : CO σ .Lt (.str x) (.str y) (ltS x y) := co_str fun h => lt_str (by rw [ltS_eq]; exact h)
theorem cmp_gt_str : CO σ .Gt (.str x) (.str y) (ltS y x) := co_str fun h => PySem.P.gt_str (by rw [ltS_eq]; exact h)
theorem cmp_eq_str : CO σ .Eq (.str x) (.str y) (sq x y) := co_str fun h => PySem.P.eq_str (by rw [cps_beq]; exact h)
theorem cmp_ne_str : CO σ .NotEq (.str x) (.str y) (!sq x y) := co_str fun h => PySem.P.ne_str (by rw [show (x.cps.toList != y.cps.toList) = !sq x y by rw [← cps_beq]; rfl]; exact h)
theorem cmp_in_str : CO σ .In (.str x) (.str y) (Txt.contains y x) := co_str fun h => SB.contains h
theorem cmp_notin_str : CO σ .NotIn (.str x) (.str y) (!Txt.contains y x) := co_str fun h => SB.notContains h
theorem cmp_gt_int : CO σ .Gt (.int i) (.int j) (decide (i > j)) := co_int fun h => gt_int h
theorem cmp_lt_int : CO σ .Lt (.int i) (.int j) (decide (i < j)) := co_int fun h => lt_int h
theorem cmp_le_int : CO σ .LtE (.int i) (.int j) (decide (i ≤ j)) := co_int fun h => le_int h
theorem cmp_ge_int : CO σ .GtE (.int i) (.int j) (decide (i ≥ j)) := co_int fun h => ge_int h
/-- is -/
inductive IsV : AV → AV → Bool → Prop where
  | nn : IsV .none .none true
  | ns (x : Str) : IsV .none (.str x) false
  | sn (x : Str) : IsV (.str x) .none false
  | bb (a b : Bool) : IsV (.bool a) (.bool b) (a == b)
theorem is_val {k : K σ} {a b : Value} {t : Bool} (h : IsV u v t) (ra : k.V a u) (rb : k.V b v) {C : Value → Value → Prop} (H : ∀ a b, plainIs a b = true → (a == b) = t → C a b) : C a b := by
  cases h with
  | nn => exact ra.none_el (C := fun a => C a b) (rb.none_el (C := fun b => C .none b) (H _ _ rfl rfl))
  | ns x => exact ra.none_el (C := fun a => C a b) (rb.str_el (C := fun b => C .none b) fun _ => H _ _ rfl rfl)
  | sn x => exact ra.str_el (C := fun a => C a b) fun t => (rb.none_el (C := fun b => C (.str x t) b) (H _ _ rfl rfl))
  | bb c d => exact ra.bool_el (C := fun a => C a b) (rb.bool_el (C := fun b => C (.bool c) b) (H _ _ rfl (by cases c <;> cases d <;> rfl)))
end
end

noncomputable section
open PySem PySem.Calls PyProof.Rows
section
variable {w : World} {A : Around} {X : Value → Shared → Prop} {s : Shared} {env : Env}
theorem sub_rule {value slice : Expr} {pos : Pos} {Q : Value → Shared → Prop}
    (h : wpAny (MD w) A (eval value env) (fun o s₁ => wpAny (MD w) A (eval slice env) (fun i s₂ => ItemOn (MD w) A X o i Q s₂) X s₁) X s) : wpAny (MD w) A (eval (.Subscript value slice pos) env) Q X s := by
  refine Subscript_ (wpAny_mono h (fun o s₁ h₁ => wpAny_mono h₁ (fun i s₂ h₂ => ?_) fun _ _ x => x) fun _ _ x => x)
  obtain ⟨T, id, hl, hT, hg⟩ := h₂
  have key : ∀ ops, wpAny (MD w) A (operate ops (getItem o i)) (fun r s₃ => wpAny (MD w) A (letTemporaryGo value o r >>= fun _ => pure r) Q X s₃) X s₂ := fun ops =>
    wpAny_operating (wpAny_mono hg (fun r s₃ h₃ => wpAny_bind (wpAny_letTemporaryGo (wpAny_pure h₃))) fun _ _ x => x)
  unfold subscriptTail
  have sub : ∃ ops, subscripted slice false o i = operate ops (getItem o i) := by
    cases slice with
    | Slice l u st p => cases st <;> exact ⟨_, rfl⟩
    | _ => exact ⟨_, rfl⟩
  obtain ⟨ops, hops⟩ := sub
  have k2 := key ops
  rw [← hops] at k2
  first
    | (refine wpAny_bind ?_; rw [getitemInPython_of_ne hT.not_modules]; refine wpAny_bind (wpAny_specialOf hT hl ?_); first | exact wpAny_pure (wpAny_bind k2) | exact wpAny_bind (wpAny_pure (wpAny_bind k2)))
    | (refine wpAny_bind (wpAny_bind (wpAny_specialOf hT hl ?_)); exact wpAny_pure (wpAny_bind k2))
end
section
variable {n : Nat} {E : AE} {σ σ1 σ2 σ3 : Sto} {x y : Str} {i j : Int} {xs ys : List AV} {u v w z : AV} {m l : Nat} {o p : AO} {t : Bool}
theorem cmp_is (h : IsV u v t) : CO σ .Is u v t := fun k A a b _ ra rb Q X C => is_val (C := fun a b => wpAny (MD k.w) A (compareOp .Is a b) Q X k.s) h ra rb fun a b h1 h2 => wpAny_is_plain h1 (by rw [h2]; exact C)
theorem cmp_isn (h : IsV u v t) : CO σ .IsNot u v (!t) := fun k A a b _ ra rb Q X C => is_val (C := fun a b => wpAny (MD k.w) A (compareOp .IsNot a b) Q X k.s) h ra rb fun a b h1 h2 => wpAny_isNot_plain h1 (by rw [h2]; exact C)
/-- v reads as the data d -/
noncomputable def RD (σ : Sto) (v : AV) (d : PyData) : Prop := ∀ (k : K σ) {a : Value}, k.V a v → (∃ as, Reads k.s.heap a d as) ∧ d.canLay0 = true
theorem rd_pd {d : PyData} (h : toPD v = some d) : RD σ v d := fun k _ r => VR.reads k.S.fz r d h
theorem rd_list {d : List PyData} (h : lists σ v = some xs) (hd : toPDs xs = some d) : RD σ v (.list d) := fun k _ r =>
  lists_el (C := fun a => (∃ as, Reads k.s.heap a (.list d) as) ∧ (PyData.list d).canLay0 = true) r h fun _ _ _ g hs => hs.reads k.S.fz g d hd
theorem eq_data {d f : PyData} (h1 : RD σ u d) (h2 : RD σ v f) (hd : d.depth ≤ 9) : CO σ .Eq u v (PyData.eqv d f) := fun k _ _ _ R ra rb _ _ C =>
  let ⟨⟨_, r1⟩, c1⟩ := h1 k ra; let ⟨⟨_, r2⟩, c2⟩ := h2 k rb; SeqAt.compareEq_reads r1 r2 c1 c2 (Nat.lt_of_le_of_lt (Nat.add_le_add_left (Nat.le_trans (Nat.min_le_left ..) (Nat.le_trans hd (by decide))) _) R.units) C
theorem ne_data {d f : PyData} (h1 : RD σ u d) (h2 : RD σ v f) (hd : d.depth ≤ 9) : CO σ .NotEq u v (!PyData.eqv d f) := fun k _ _ _ R ra rb _ _ C =>
  let ⟨⟨_, r1⟩, c1⟩ := h1 k ra; let ⟨⟨_, r2⟩, c2⟩ := h2 k rb; SeqAt.compareNe_reads r1 r2 c1 c2 (Nat.lt_of_le_of_lt (Nat.add_le_add_left (Nat.le_trans (Nat.min_le_left ..) (Nat.le_trans hd (by decide))) _) R.units) C
theorem in_room {A : Around} {g : GF} (R : Room g 1 A) {a b : Nat} (h : b ≤ 9) : A.units + 1 + min a b < cLine := Nat.lt_of_le_of_lt (by rw [Nat.add_assoc]; exact Nat.add_le_add_left (Nat.le_trans (Nat.add_le_add_left (Nat.le_trans (Nat.min_le_right ..) h) 1) (by decide)) _) R.units
theorem in_data {d : PyData} {f : List PyData} (h1 : toPD u = some d) (hx : lists σ v = some xs) (h2 : toPDs xs = some f) (hd : d.depth ≤ 9) : CO σ .In u v (f.any fun y => PyData.eqv y d) := fun k _ _ _ R ra rb _ _ C =>
  let ⟨⟨_, r1⟩, c1⟩ := rd_pd h1 k ra; let ⟨⟨_, r2⟩, c2⟩ := rd_list hx h2 k rb; SeqAt.in_list_reads r2 r1 c2 c1 (in_room R hd) C
theorem notin_data {d : PyData} {f : List PyData} (h1 : toPD u = some d) (hx : lists σ v = some xs) (h2 : toPDs xs = some f) (hd : d.depth ≤ 9) : CO σ .NotIn u v (!f.any fun y => PyData.eqv y d) := fun k _ _ _ R ra rb _ _ C =>
  let ⟨⟨_, r1⟩, c1⟩ := rd_pd h1 k ra; let ⟨⟨_, r2⟩, c2⟩ := rd_list hx h2 k rb; SeqAt.notIn_list_reads r2 r1 c2 c1 (in_room R hd) C
theorem in_tup {d : PyData} {f : List PyData} (h1 : toPD u = some d) (h2 : toPDs xs = some f) (hd : d.depth ≤ 9) : CO σ .In u (.tup xs) (f.any fun y => PyData.eqv y d) := fun k _ _ _ R ra rb _ _ C =>
  let ⟨⟨_, r1⟩, c1⟩ := rd_pd h1 k ra; let ⟨⟨_, r2⟩, c2⟩ := rd_pd (v := .tup xs) (d := .tuple f) (by show (toPDs xs).map PyData.tuple = _; rw [h2]; rfl) k rb; SeqAt.in_tuple_reads r2 r1 c2 c1 (in_room R hd) C
/-- truth -/
theorem tr_bool {b : Bool} : TR σ (.bool b) b := fun k _ _ r _ _ C => r.bool_el (C := fun a => wpAny _ _ (truthy a) _ _ _) (wpAny_truthy_bool (C k.nx))
theorem tr_none : TR σ .none false := fun k _ _ r _ _ C => r.none_el (C := fun a => wpAny _ _ (truthy a) _ _ _) (truthy_none (C k.nx))
theorem ne_zero (m : Nat) : ((m : Int) != 0) = decide (m ≠ 0) := by cases m <;> rfl
theorem tr_str (h : x.length ≤ cap) : TR σ (.str x) (decide (x.length ≠ 0)) := fun k _ _ r _ _ C => r.str_el (C := fun a => wpAny _ _ (truthy a) _ _ _) fun _ => PySem.P.truthy_str (Int.not_le.mpr (cap_63 h)) (by rw [ne_zero]; exact C (k.tok _))
theorem tr_list (h : lists σ v = some xs) (hc : xs.length ≤ cap) : TR σ v (!xs.isEmpty) := fun k _ _ r _ _ C => lists_el (C := fun a => wpAny _ _ (truthy a) _ _ _) r h fun l vs m g hs =>
  wpAny_truthy_list (items := vs.toArray) ⟨_, g, rfl, _, rfl⟩ (by rw [List.size_toArray, hs.length]; exact cap_63 hc) (by
    rw [show (!vs.toArray.isEmpty) = !xs.isEmpty by cases hs <;> rfl]; exact C (k.tok _))
theorem tr_own (h : σ[m]? = some (.list xs)) (hc : xs.length ≤ cap) : TR σ (.own m) (!xs.isEmpty) := tr_list (lists_own h) hc
/-- items and slices -/
theorem ItemOn_mono {M : Model} {A : Around} {X : Value → Shared → Prop} {s : Shared} {o i : Value} {Q Q' : Value → Shared → Prop} (h : ItemOn M A X o i Q s) (k : ∀ v s, Q v s → Q' v s) : ItemOn M A X o i Q' s :=
  let ⟨T, id, a, b, c⟩ := h; ⟨T, id, a, b, wpAny_mono c k fun _ _ x => x⟩
theorem ev_item {a e : Expr} {p : Pos} (hs : ∀ l u p, e ≠ .Slice l u .none p) (h1 : EV n a E σ v σ1) (h2 : EV n e E σ1 (.int j) σ2) (h3 : IV σ2 v j z) : EV (n + 1) (.Subscript a e p) E σ z σ2 := fun k _ _ R F _ _ C =>
  sub_rule (h1 k R.dn F fun x _ r1 => h2 x.up R.dn (F.nx x) fun y _ r2 => r2.int_el (C := fun b => ItemOn _ _ _ _ b _ _) fun _ => h3 y.up (r1.nx y) fun w u r => C ((x.then y).then w) u r)
theorem part_at {k : K σ} {a : Value} {lv : Option AV} {o : Option Int} (h : optInt lv = some o) (r : PartV k a lv) : IsPart a o ∧ ∃ p : Option (Int × Tok), a = partValue p ∧ p.map (·.1) = o := by
  cases lv with
  | none => cases Option.some.inj h; cases (show a = .none from r); exact ⟨.none, .none, rfl, rfl⟩
  | some w => cases w with
    | int i => cases Option.some.inj h; exact VR.int_el (C := fun a => IsPart a (some i) ∧ ∃ p : Option (Int × Tok), a = partValue p ∧ p.map (·.1) = some i) r fun t => ⟨.int _ _, some (i, t), rfl, rfl⟩
    | _ => exact nomatch h
theorem part_nx {k : K σ} {a : Value} {lv : Option AV} (r : PartV k a lv) (x : Nx k [] σ1) : PartV x.up a lv := match lv, r with
  | .none, r => r
  | some _, r => VR.nx r x
theorem ev_slice {a : Expr} {l u : Option Expr} {p p' : Pos} {lv uv : Option AV} {i j : Option Int} (h1 : EV n a E σ v σ1) (h2 : OPT n l E σ1 lv σ2) (h3 : OPT n u E σ2 uv σ3) (h4 : optInt lv = some i) (h5 : optInt uv = some j) (h6 : SL σ3 v i j z) :
    EV (n + 1) (.Subscript a (.Slice l u .none p') p) E σ z σ3 := fun k _ _ R F _ _ C =>
  sub_rule (h1 k R.dn F fun x _ r1 => wpAny_Slice (h2 x.up R.dn (F.nx x) fun y b r2 => h3 y.up R.dn ((F.nx x).nx y) fun z' c r3 => wpAny_evalPart_none (
    let ⟨p1, _, q1, q2⟩ := part_at h4 (part_nx r2 z'); let ⟨p2, _, q3, q4⟩ := part_at h5 r3
    h6 z'.up ((r1.nx y).nx z') p1 p2 q1 q2 q3 q4 fun w u r => C (((x.then y).then z').then w) u r)))
set_option tactic.hygienic true in
theorem seqIndex_cases {i : Int} {n j : Nat} (e : seqIndex? i n = some j) : j < n ∧ ((0 ≤ i ∧ i.toNat = j) ∨ (i < 0 ∧ -(n : Int) ≤ i ∧ (i + n).toNat = j)) := by
  unfold seqIndex? at e
  simp only [Bool.and_eq_true, decide_eq_true_eq] at e
  by_cases hi : i < 0
  · simp only [hi, if_true] at e
    split at e
    · rename_i q; cases e; exact ⟨by (clear hi; omega), .inr ⟨hi, by (clear hi; omega), rfl⟩⟩
    · cases e
  · simp only [hi, if_false] at e
    split at e
    · rename_i q; cases e; exact ⟨by (clear hi; omega), .inl ⟨by (clear q; omega), rfl⟩⟩
    · cases e
theorem iv_items {j : Nat} (h : items σ v = some xs) (hb : -1000000 ≤ i ∧ i ≤ 1000000) (q : seqIndex? i xs.length = some j) (hx : xs[j]? = some z) : IV σ v i z := fun k A a t Q X ra C => by
  obtain ⟨hj, hc⟩ := seqIndex_cases q
  have at' : ∀ {vs : List Value}, k.Vs vs xs → ∃ y, vs.toArray[j]? = some y ∧ k.V y z ∧ vs.toArray.size = xs.length := fun hs =>
    let ⟨y, h1, h2⟩ := hs.get hx; ⟨y, by rw [List.getElem?_toArray]; exact h1, h2, by rw [List.size_toArray, hs.length]⟩
  refine items_el (C := fun a => ItemOn (MD k.w) A X a (.int i t) Q k.s) ra h (fun l vs m g hs => ?_) (fun l vs m g hs => ?_)
  · obtain ⟨y, h1, h2, h3⟩ := at' hs
    refine ⟨"list", _, slot_list_getitem.lookup, ⟨_, g, rfl⟩, ?_⟩
    rcases hc with ⟨h0, hc⟩ | ⟨h0, h4, hc⟩
    · exact wpAny_getItem_list (items := vs.toArray) ⟨_, g, rfl, _, rfl⟩ h0 (by (clear hc h0 h3 hj; omega)) (by rw [hc]; exact h1) (C k.nx _ h2)
    · exact wpAny_getItem_list_neg (items := vs.toArray) ⟨_, g, rfl, _, rfl⟩ h0 (by rw [h3]; exact h4) (by (clear hc h4 h0 h3 hj; omega)) (by rw [h3, hc]; exact h1) (C k.nx _ h2)
  · obtain ⟨y, h1, h2, h3⟩ := at' hs
    exact ⟨"tuple", _, slot_tuple_getitem.lookup, ⟨_, g, rfl⟩, PyProof.Rows.getItem_tuple (items := vs.toArray) ⟨_, g, rfl, _, rfl⟩ (by (clear h3 hc hj; omega)) (by (clear h3 hc hj; omega)) (by rw [h3]; exact q) h1 (C k.nx _ h2)⟩
theorem iv_str {j : Nat} (hb : -1000000 ≤ i ∧ i ≤ 1000000) (q : seqIndex? i x.length = some j) : IV σ (.str x) i (.str (Txt.item x i)) := fun k A a t Q X ra C =>
  ra.str_el (C := fun a => ItemOn (MD k.w) A X a (.int i t) Q k.s) fun t' => by
    have hlt := (seqIndex_cases q).1
    have hx : (seqIndex? i x.length).bind (x.cps[·]?) = some (x.cps[j]'hlt) := by rw [q]; exact Array.getElem?_eq_getElem hlt
    refine ⟨"str", _, F.slot_str_getitem.lookup, typeIs_str _ _ _, PySem.P.getItem_str (c := x.cps[j]'hlt) (by simp; omega) hx ?_⟩
    rw [show (⟨#[x.cps[j]'hlt]⟩ : Str) = Txt.item x i by unfold Txt.item Txt.charAt; rw [hx]; rfl]
    exact C (k.tok _) _ (.str _ _)
theorem sl_str {l r : Option Int} (h : x.length ≤ cap) : SL σ (.str x) l r (.str (Txt.slice x l r)) := fun k A a vl vr pl pr Q X ra h1 h2 e1 m1 e2 m2 C =>
  ra.str_el (C := fun a => ItemOn (MD k.w) A X a _ Q _) fun t => by
    subst e1 e2
    refine ⟨"str", _, F.slot_str_getitem.lookup, typeIs_str _ _ _, wpAny_getItem_str_slice (l := pl) (u := pr) (st := none) ⟨_, Heap.get?_push_size _ rfl, rfl, rfl⟩ rfl ?_⟩
    unfold sliceMade
    rw [show slicePicked x pl pr none = Builtin.Str.strSliceIndices l r 1 x.length by unfold slicePicked; rw [m1, m2]; rfl]
    by_cases hb : ((1 : Int) == 1 && (Builtin.Str.strSliceIndices l r 1 x.length).length == x.length) = true
    · rw [if_pos (show (Option.getD (Option.map (fun x => x.fst) (none : Option (Int × Tok))) 1 == 1 && (Builtin.Str.strSliceIndices l r 1 x.length).length == x.length) = true from hb)]
      rw [show Txt.slice x l r = x by unfold Txt.slice; rw [if_pos hb]] at C
      exact C (k.grow _ _ (push_keeps _ _)) _ (.str _ _)
    · rw [if_neg (show ¬ (Option.getD (Option.map (fun x => x.fst) (none : Option (Int × Tok))) 1 == 1 && (Builtin.Str.strSliceIndices l r 1 x.length).length == x.length) = true from hb)]
      have hsl : Txt.slice x l r = ⟨((Builtin.Str.strSliceIndices l r 1 x.length).filterMap (x.cps[·]?)).toArray⟩ := by unfold Txt.slice; rw [if_neg hb]
      refine ⟨hsl ▸ Nat.le_trans (Txt.slice_le x l r) (cap_fits h), ?_⟩
      rw [hsl] at C
      exact C (k.grow _ _ (push_keeps _ _)) _ (.str _ _)
theorem sl_list {l r : Option Int} (h : lists σ v = some xs) (hc : xs.length ≤ cap) : SL σ v l r (.list (cutL xs l r)) := fun k A a vl vr pl pr Q X ra h1 h2 _ _ _ _ C => by
  refine lists_el (C := fun a => ItemOn (MD k.w) A X a _ Q _) ra h fun b vs m g hs => ⟨"list", _, slot_list_getitem.lookup, ⟨_, Heap.get?_push_of_some _ g, rfl⟩, ?_⟩
  refine wpAny_getItem_list_slice (items := vs.toArray) (lo := l) (hi := r) (st := none) ⟨_, Heap.get?_push_of_some _ g, rfl, _, rfl⟩ ⟨_, Heap.get?_push_size _ rfl, rfl, rfl⟩ h1 h2 .none (by decide) ?_ (by rw [List.size_toArray, hs.length]; exact cap_fits hc)
  let y : Nx k [] σ := k.grow _ k.s.toks (push_keeps _ { cls := .type "slice", data := .fields #[vl, vr, .none] })
  rw [show slicePick vs.toArray l r none = (cutL vs l r).toArray by unfold slicePick cutL; simp]
  exact C (y.then (y.up.newL (o := listO (cutL vs l r) 0) rfl)) _ (.list (zput_self ..) (y.up.newL_le ((VRs.nx hs y).cut l r)))
end
end

noncomputable section
open PySem PySem.Calls PyProof.Rows
section
variable {prog : Program} {w : World} {A : Around} {s : Shared} {X : Value → Shared → Prop}
theorem meta_str : (Value.type ((Manifest.find? "str").elim "type" (·.metatype)) == Value.type "type") = true := by kernel_rfl
theorem self_str : isSubtype (.type "str") (.type "str") = pure true := by kernel_rfl
theorem sub_nested1 {k : Value} {dep : Int} {tk : Tok} {Q : Fin → Shared → Prop} (hk : k = .int dep tk) (hq : Q (.done (.ret (.bool true))) s) :
    wpAny (model prog w) A (Builtin.«issubclass.nested» ⟨[.type "str", .type "str", k], []⟩) Q X s := by
  subst hk
  have hm := meta_str
  repeat (any_goals (first | assumption | (rw [if_pos hm]) | (rw [self_str]) | wp_step))
end
end

noncomputable section
open PySem PySem.Calls PyProof.Rows
section
variable {prog : Program} {w : World} {A : Around} {s : Shared} {X : Value → Shared → Prop}
theorem meta_tup : (Value.type "tuple" == Value.type "type") = false := by kernel_rfl
theorem meta_uni : (Value.type "tuple" == Value.type "types.UnionType") = false := by kernel_rfl
theorem self_tup : isSubtype (.type "tuple") (.type "tuple") = pure true := by kernel_rfl
theorem kind_subn : builtinKind "issubclass.nested" = none := by decide +kernel
theorem plain_subn : plainId "issubclass.nested" = true := by decide +kernel
theorem args_subn (a b c : Value) : argsOk "issubclass.nested" ⟨[a, b, c], []⟩ := by unfold argsOk; kernel_rfl
theorem sub_nested0 {t : Addr} {k : Nat} {Q : Fin → Shared → Prop} (ht : s.heap.get? t = some (tupO [.type "str", .type "bytes"] k)) (hq : Q (.done (.ret (.bool true))) s) :
    wpAny (model prog w) A (Builtin.«issubclass.nested» ⟨[.type "str", .ref t, rawInt 0], []⟩) Q X s := by
  have hT : s.TypeIs (.ref t) "tuple" := ⟨_, ht, rfl⟩
  unfold Builtin.«issubclass.nested»
  refine wpAny_bind (wpAny_typeOf hT ?_)
  rw [if_neg (by rw [meta_tup]; simp)]
  unfold Builtin.Builtins.unionMembers
  refine wpAny_bind (wpAny_bind (wpAny_typeOf hT ?_))
  rw [if_neg (by rw [meta_uni]; simp)]
  refine wpAny_pure ?_
  refine wpAny_bind (wpAny_isInstance hT self_tup ?_)
  rw [if_pos rfl]
  dsimp only
  rw [if_neg (by decide +kernel)]
  refine wpAny_bind (wpAny_seqItems ht rfl ?_)
  show wpAny (model prog w) A (forIn #[Value.type "str", Value.type "bytes"] _ _ >>= _) _ _ _
  rw [← Array.forIn_toList]
  rw [List.forIn_cons]
  refine wpAny_bind (wpAny_bind (wpAny_bind (call_function_entry kind_subn plain_subn F.entry_issubclass_nested (args_subn _ _ _) ?_)))
  refine sub_nested1 rfl ⟨_, rfl, ?_⟩
  refine wpAny_bind (wpAny_truthy_bool ?_)
  rw [if_pos rfl]
  exact wpAny_bind (wpAny_pure (wpAny_pure (wpAny_pure (wpAny_pure hq))))
theorem issub_call {t : Addr} {k : Nat} {Q : Value → Shared → Prop} {X : Value → Shared → Prop} (ht : s.heap.get? t = some (tupO [.type "str", .type "bytes"] k)) (h : Q (.bool true) s) :
    wpAny (MD w) A (call (.builtin "issubclass") [.type "str", .ref t]) Q X s := by
  refine call_issubclass (S := fun _ R s' => s'.heap.get? t = some (tupO [.type "str", .type "bytes"] k) ∧ R (.ok (.ret (.bool true))) s') (fun prog w A R s' hs => ?_) ⟨ht, h⟩
  exact issubclass_outer (sub_nested0 hs.1 hs.2)
end
end

noncomputable section
open PySem PySem.Calls PyProof.Rows
section
variable {w : World} {A : Around} {X : Value → Shared → Prop} {s : Shared}
/-- an iterator at its end: it stands still -/
theorem stop_tail {it : Addr} {o : Obj} {vs : Array Value} {Q : Option Value → Shared → Prop} (hh : A.handled = none) (ho : s.heap.get? it = some o) (hd : o.data = .fields vs) (hn : 0 < vs.size)
    (hQ : ∀ h' o', Heap.ExtBut it s.heap h' → h'.get? it = some o' → Q none { s with heap := h' }) :
    wpAny (MD w) A.in1 (setField (.ref it) 0 .none) (fun _ s₁ => wpAny (MD w) A.in1 (newExc (.type "StopIteration") []) (fun e s₂ => wpAny (MD w) A.in1 (raiseNew e : Sem Fin) (fun _ _ => False)
      (fun e s₃ => wpAny (MD w) A (do if ← isInstance e (.type "StopIteration") then pure none else throw e) Q X s₃) s₂) (fun _ _ => False) s₁) (fun _ _ => False) s := by
  refine wpAny_setField ho hd hn ?_
  simp only [newExc, newTuple]
  refine wpAny_bind (wpAny_newObj_type ?_ (by size_fits))
  refine wpAny_bind (m := firstArgMember _ _) (wpAny_of_eq (a := Value.none) (by first | rfl | (simp only [firstArgMember]; rfl)) ?_)
  refine wpAny_newObj_type ?_ (by size_fits)
  simp only [raiseNew]
  refine wpAny_bind (wpAny_handled ?_)
  rw [show A.in1.handled = none from hh]
  refine wpAny_bind (wpAny_pure (wpAny_throw ?_))
  refine wpAny_bind (wpAny_isInstance (T := "StopIteration") (b := true) ⟨_, Heap.get?_push_size _ rfl, rfl⟩ isSubtype_stop ?_)
  refine wpAny_pure (hQ _ (Obj.mapFields (·.setIfInBounds 0 .none) o) (((Heap.SameBut.update ..).extBut.push _).push _) ?_)
  refine Heap.get?_push_of_some _ (Heap.get?_push_of_some _ (Heap.get?_update_self _ ho ?_))
  obtain ⟨c, d, dt, sl⟩ := o
  simp only at hd
  subst hd
  rfl
theorem next_list_end {it l : Addr} {i : Nat} {its : Array Value} {Q : Option Value → Shared → Prop} (hh : A.handled = none) (hit : s.heap.IsListIter it l i) (hl : s.heap.IsList l its) (hx : its[i]? = none)
    (hQ : ∀ h' o', Heap.ExtBut it s.heap h' → h'.get? it = some o' → Q none { s with heap := h' }) : wpAny (MD w) A (pyNext (.ref it)) Q X s := by
  obtain ⟨o, ho, hc, hd⟩ := id hit
  obtain ⟨ol, hol, _, nl, hdl⟩ := hl
  unfold pyNext
  refine wpAny_bind (wpAny_attempt (wpAny_callSpecial?_slot (name := Str.ofString "__next__") hit.typeIs slot_listiter_next (wpAny_call_entry slot_listiter_next hit.typeIs entry_listiter_next ?_ (args_listiter_next _))))
  show wpAny _ _ (field (.ref it) 0 >>= _) _ _ s
  refine wpAny_bind (wpAny_field ho hd (x := .ref l) rfl ?_)
  show wpAny _ _ (if (Value.ref l == Value.none) = true then _ else _) _ _ s
  rw [if_neg (show ¬ ((Value.ref l == Value.none) = true) from Bool.false_ne_true)]
  show wpAny _ _ (field (.ref it) 1 >>= _) _ _ s
  refine wpAny_bind (wpAny_field ho hd (x := .int i 0) rfl ?_)
  show wpAny _ _ (seqItems? (.ref l) >>= _) _ _ s
  refine wpAny_bind (wpAny_seqItems hol hdl ?_)
  simp only [Int.toNat_natCast, hx]
  refine wpAny_bind (wpAny_rule (wpAny_bind (wpAny_mono (stop_tail (X := X) hh ho hd (by simp) hQ) (fun _ s₁ h₁ => wpAny_bind (wpAny_mono h₁ (fun e s₂ h₂ => wpAny_mono h₂ (fun _ _ x => x.elim) fun _ _ x => x) fun _ _ x => x.elim)) fun _ _ x => x.elim)))
theorem next_tuple_end {it l : Addr} {i : Nat} {its : Array Value} {Q : Option Value → Shared → Prop} (hh : A.handled = none) (hit : s.heap.IsTupleIter it l i) (hl : s.heap.IsTuple l its) (hx : its[i]? = none)
    (hQ : ∀ h' o', Heap.ExtBut it s.heap h' → h'.get? it = some o' → Q none { s with heap := h' }) : wpAny (MD w) A (pyNext (.ref it)) Q X s := by
  obtain ⟨o, ho, hc, hd⟩ := id hit
  obtain ⟨ol, hol, _, nl, hdl⟩ := hl
  unfold pyNext
  refine wpAny_bind (wpAny_attempt (wpAny_callSpecial?_slot (name := Str.ofString "__next__") hit.typeIs F.slot_tuple_iterator_next (wpAny_call_entry F.slot_tuple_iterator_next hit.typeIs F.entry_tuple_iterator_next ?_ (F.args_tuple_iterator_next_1 _))))
  show wpAny _ _ (field (.ref it) 0 >>= _) _ _ s
  refine wpAny_bind (wpAny_field ho hd (x := .ref l) rfl ?_)
  show wpAny _ _ (if (Value.ref l == Value.none) = true then _ else _) _ _ s
  rw [if_neg (show ¬ ((Value.ref l == Value.none) = true) from Bool.false_ne_true)]
  show wpAny _ _ (field (.ref it) 1 >>= _) _ _ s
  refine wpAny_bind (wpAny_field ho hd (x := .int i 0) rfl ?_)
  show wpAny _ _ (seqItems? (.ref l) >>= _) _ _ s
  refine wpAny_bind (wpAny_seqItems hol hdl ?_)
  simp only [Int.toNat_natCast, hx]
  refine wpAny_bind (wpAny_rule (wpAny_bind (wpAny_mono (stop_tail (X := X) hh ho hd (by simp) hQ) (fun _ s₁ h₁ => wpAny_bind (wpAny_mono h₁ (fun e s₂ h₂ => wpAny_mono h₂ (fun _ _ x => x.elim) fun _ _ x => x) fun _ _ x => x.elim)) fun _ _ x => x.elim)))
end
section
variable {w : World} {A : Around} {s : Shared}
theorem iter_call {v : Value} {Q : Value → Shared → Prop} {X : Value → Shared → Prop} (h : wpAny (MD w) A.in1 (pyIter v) Q X s) : wpAny (MD w) A (call (.builtin "iter") [v]) Q X s := by
  refine call_function_entry (by decide +kernel) (by decide +kernel) PySem.W.kdk_entry_iter (PySem.W.kdk_args_iter _) ?_
  unfold Builtin.«iter»
  refine wpAny_bind (m := someArgs "iter" 1 2 _) (wpAny_of_eq (a := [v]) (by first | rfl | kernel_rfl!) ?_)
  show wpAny _ _ (pyIter v >>= _) _ _ _
  exact wpAny_bind (wpAny_mono h (fun it s' hq => wpAny_pure ⟨_, rfl, hq⟩) fun _ _ x => x)
theorem next_call {it dv : Value} {T id : String} {Q : Value → Shared → Prop} {X : Value → Shared → Prop} (hT : s.TypeIs it T) (slot : Slot T "__next__" id) (h : wpAny (MD w) A.in1 (pyNext it) (fun r s' => Q (r.getD dv) s') X s) :
    wpAny (MD w) A (call (.builtin "next") [it, dv]) Q X s := by
  refine call_function_entry (by decide +kernel) (by decide +kernel) PySem.W.kdk_entry_next (PySem.W.kdk_args_next2 _ _) ?_
  unfold Builtin.«next»
  refine wpAny_bind (m := someArgs "next" 1 2 _) (wpAny_of_eq (a := [it, dv]) (by first | rfl | kernel_rfl!) ?_)
  refine wpAny_bind (wpAny_specialOf hT slot.lookup ?_)
  simp only [Option.isNone_some, Bool.false_eq_true, if_false]
  exact wpAny_bind (wpAny_mono h (fun it s' hq => wpAny_pure ⟨_, rfl, hq⟩) fun _ _ x => x)
end
section
variable {P : Params} {z : ZM} {ι : Nat → Addr} {n : Nat}
theorem sumI_ints {vs : List Value} {xs : List AV} (r : VRs P z ι n vs xs) : ∀ i, sumI xs = some i → ∃ ns : List Int, IntsAre vs ns ∧ ns.sum = i :=
  VRs.ind (M := fun vs xs => ∀ i, sumI xs = some i → ∃ ns : List Int, IntsAre vs ns ∧ ns.sum = i) (fun i e => ⟨[], .nil, Option.some.inj e⟩) (fun {v a vs as} h _ ih i e => by
    cases a with
    | int j =>
      have e : (sumI as).map (j + ·) = some i := e
      cases q : sumI as with
      | none => rw [q] at e; exact nomatch e
      | some m =>
        rw [q] at e
        obtain ⟨ns, h1, h2⟩ := ih m q
        exact h.int_el (C := fun v => ∃ ns : List Int, IntsAre (v :: vs) ns ∧ ns.sum = i) fun t => ⟨j :: ns, .cons j t h1, by rw [List.sum_cons, h2]; exact Option.some.inj e⟩
    | _ => exact nomatch e) r
theorem preSum_getD (ns : List Int) : preSum (fun i => ns.getD i 0) ns.length = ns.sum := by
  have : ∀ k, k ≤ ns.length → preSum (fun i => ns.getD i 0) k = (ns.take k).sum := by
    intro k
    induction k with
    | zero => intro _; rfl
    | succ k ih =>
      intro hk
      rw [List.take_add_one, List.sum_append, ← ih (by (clear ih; omega))]
      have : ns[k]? = some (ns.getD k 0) := by
        rw [List.getD_eq_getElem?_getD, List.getElem?_eq_getElem (by (clear ih; omega))]; rfl
      rw [this]
      simp [preSum]
  rw [this _ (Nat.le_refl _), List.take_length]
end
section
variable {n : Nat} {σ σ' : Sto} {x y : Str} {i j : Int} {xs : List AV} {u v w : AV} {m : Nat} {t : Bool} {p : Nat}
/-- an object of the store is new -/
noncomputable abbrev K.newO (k : K σ) {o : Obj} (hf : o.isFreed = false) {ao : AO} (hr : OR k.w.params k.z k.ι σ.length o ao) {mu : List Addr} (tk : Nat := k.s.toks) : Nx k mu (σ ++ [ao]) :=
  ⟨k.z, iput k.ι σ.length k.s.heap.objs.size, { k.s with heap := k.s.heap.push o, toks := tk }, Ext.newOwn (push_keeps _ _) new_not, k.S.newOwn (push_keeps _ _) k.S.size new_not (Heap.get?_push_size _ hf) hr, Same.mk k.s _ _⟩
theorem own_put {P : Params} {z : ZM} {ι : Nat → Addr} {a : Addr} {ao : AO} : VR P z (iput ι σ.length a) (σ ++ [ao]).length (.ref a) (.own σ.length) := by
  have : VR P z (iput ι σ.length a) (σ ++ [ao]).length (.ref (iput ι σ.length a σ.length)) (.own σ.length) := .own (by rw [List.length_append]; exact Nat.lt_succ_self _)
  rwa [iput_self] at this
/-- an object of the store is changed -/
noncomputable abbrev K.upd (k : K σ) {j : Nat} {ao b : AO} {o' : Obj} {h' : Heap} (hj : σ[j]? = some ao) (n1 : ao.still = false) (n2 : b.still = false) (hs : Heap.ExtBut (k.ι j) k.s.heap h') (ho : h'.get? (k.ι j) = some o') (hr : OR k.w.params k.z k.ι σ.length o' b) {mu : List Addr} (tk : Nat := k.s.toks) : Nx k mu (σ.set j b) :=
  ⟨k.z, k.ι, { k.s with heap := h', toks := tk }, Ext.upd hj n1 n2 hs ho, k.S.upd (List.getElem?_eq_some_iff.mp hj).1 hs ho hr, Same.mk k.s _ _⟩
theorem VR.upd {P : Params} {z : ZM} {ι : Nat → Addr} {a : Value} {b : AO} (r : VR P z ι σ.length a v) : VR P z ι (σ.set m b).length a v := by rw [List.length_set]; exact r
theorem cb_len_str (h : x.length ≤ cap) : CB (.builtin "len") [.str x] σ (.int x.length) σ := fun k _ _ _ rs Q X C =>
  rs.el1 (D := fun us => wpAny _ _ (call (.builtin "len") us) Q X _) fun a r => r.str_el (C := fun a => wpAny _ _ (call (.builtin "len") [a]) Q X _) fun _ => PySem.P.len_str (Int.not_le.mpr (cap_63 h)) (C (k.tok _) _ (.int _ _))
theorem cb_len (h : items σ v = some xs) (hc : xs.length ≤ cap) : CB (.builtin "len") [v] σ (.int xs.length) σ := fun k _ _ _ rs Q X C =>
  rs.el1 (D := fun us => wpAny _ _ (call (.builtin "len") us) Q X _) fun a r => items_el (C := fun a => wpAny _ _ (call (.builtin "len") [a]) Q X _) r h
    (fun l ws m g hs => by
      have hsz : ((ws.toArray.size : Nat) : Int) = _ := congrArg _ (List.size_toArray.trans hs.length)
      exact call_len_list (items := ws.toArray) ⟨_, g, rfl, _, rfl⟩ (by rw [hsz]; exact cap_63 hc) (by rw [hsz]; exact C (k.tok _) _ (.int _ _)))
    (fun l ws m g hs => by
      have hsz : ((ws.toArray.size : Nat) : Int) = _ := congrArg _ (List.size_toArray.trans hs.length)
      exact len_tuple (items := ws.toArray) ⟨_, g, rfl, _, rfl⟩ (by rw [hsz]; exact cap_63 hc) (by rw [hsz]; exact C (k.tok _) _ (.int _ _)))
theorem cb_sum (h : lists σ v = some xs) (e : sumI xs = some i) : CB (.builtin "sum") [v] σ (.int i) σ := fun k A us R rs Q X C =>
  rs.el1 (D := fun us => wpAny (MD k.w) A (call (.builtin "sum") us) Q X k.s) fun a r => lists_el (C := fun a => wpAny (MD k.w) A (call (.builtin "sum") [a]) Q X k.s) r h fun l vs m hg hs => by
    obtain ⟨ns, hi, hsum⟩ := sumI_ints hs i e
    have hne : l ≠ k.s.heap.objs.size := Nat.ne_of_lt (Heap.lt_size hg)
    refine call_sum_walkAnyS (wpAny_pyIter_list (items := vs.toArray) ⟨_, hg, rfl, _, rfl⟩ ?_)
    have W := (Walks.list (prog := PG) (w := k.w) (A := A.in1) R.handled k.s.heap.objs.size l hne vs.toArray).toS
    refine ⟨_, _, _, _, _, _, _, fun i => ns.getD i 0, rfl, W, ⟨⟨_, Heap.get?_push_size _ rfl, rfl, rfl⟩, ⟨_, Heap.get?_push_of_some _ hg, rfl, _, rfl⟩⟩, fun b hb => ?_, fun i v hv => ?_, fun s' t' mv => ?_⟩
    · rw [Heap.size_push]
      rcases List.mem_cons.mp hb with q | q
      · rw [q]; exact Nat.lt_succ_self _
      · rw [List.mem_singleton.mp q]; exact Nat.lt_succ_of_lt (Heap.lt_size hg)
    · have hv' : vs[i]? = some v := by rw [← List.getElem?_toArray]; exact hv
      have hlt : i < ns.length := by rw [← hi.length]; exact (List.getElem?_eq_some_iff.mp hv').1
      obtain ⟨t, ht⟩ := hi.get i (ns.getD i 0) (by rw [List.getD_eq_getElem?_getD, List.getElem?_eq_getElem hlt]; rfl)
      rw [hv'] at ht
      exact ⟨t, Option.some.inj ht⟩
    · rw [show vs.toArray.size = ns.length by rw [List.size_toArray, hi.length], preSum_getD, hsum]
      have hk : ∀ b o, k.s.heap.get? b = some o → s'.heap.get? b = some o := fun b o e => by
        refine mv.heap b o (fun q => ?_) (Heap.get?_push_of_some _ e)
        rw [List.mem_singleton.mp q] at e
        exact absurd (Heap.lt_size e) (Nat.lt_irrefl _)
      have : s' = { k.s with heap := s'.heap, toks := s'.toks } := by
        have g1 := mv.gens
        have g2 := mv.drawn
        have g3 := mv.os
        obtain ⟨a, b, c, d, e⟩ := s'
        simp only at g1 g2 g3
        rw [g1, g2, g3]
      rw [this]
      exact C (k.grow _ _ hk) _ (.int _ _)
theorem cb_abs : CB (.builtin "abs") [.int i] σ (.int (if i < 0 then -i else i)) σ := fun k _ _ _ rs Q X C =>
  rs.el1 (D := fun us => wpAny _ _ (call (.builtin "abs") us) Q X _) fun a r => r.int_el (C := fun a => wpAny _ _ (call (.builtin "abs") [a]) Q X _) fun _ => call_abs_int fun _ tk => C (k.tok tk) _ (.int _ _)
theorem cb_iter : CB (.builtin "iter") [if t then .tup xs else .list xs] σ (.own σ.length) (σ ++ [.iter t xs 0]) := fun k _ _ _ rs Q X C =>
  rs.el1 (D := fun us => wpAny _ _ (call (.builtin "iter") us) Q X _) fun a r => by
    cases t with
    | true => exact VR.tup_el (C := fun a => wpAny _ _ (call (.builtin "iter") [a]) Q X _) r fun l us m hl hs => iter_call (wpAny_pyIter_tuple ⟨_, k.S.fz _ _ hl, rfl, _, rfl⟩ (C (k.newO (ao := .iter true xs 0) rfl ⟨_, _, _, hl, hs, Nat.zero_le _, rfl, rfl⟩) _ own_put))
    | false => exact VR.list_el (C := fun a => wpAny _ _ (call (.builtin "iter") [a]) Q X _) r fun l us m hl hs => iter_call (wpAny_pyIter_list ⟨_, k.S.fz _ _ hl, rfl, _, rfl⟩ (C (k.newO (ao := .iter false xs 0) rfl ⟨_, _, _, hl, hs, Nat.zero_le _, rfl, rfl⟩) _ own_put))
theorem own_el2 {k : K σ} {us : List Value} {D : List Value → Prop} (rs : k.Vs us [.own m, .none]) (h : D [.ref (k.ι m), .none]) : D us :=
  rs.el2 fun _ _ r1 r2 => r1.own_el (C := fun a => D [a, _]) fun _ => r2.none_el (C := fun b => D [_, b]) h
theorem cb_next (h : σ[m]? = some (.iter t xs p)) (hv : xs[p]? = some v) : CB (.builtin "next") [.own m, .none] σ v (σ.set m (.iter t xs (p + 1))) := fun k A us R rs Q X C =>
  own_el2 (D := fun us => wpAny (MD k.w) A (call (.builtin "next") us) Q X k.s) rs (by
    obtain ⟨o, h1, h2⟩ := k.S.own m _ h
    have hlt := (List.getElem?_eq_some_iff.mp hv).1
    cases t with
    | false =>
      obtain ⟨a, vs, q, q1, q2, q3, q4, q5⟩ := h2
      have hit : k.s.heap.IsListIter (k.ι m) a p := ⟨_, h1, q4, q5⟩
      obtain ⟨y, g1, g2⟩ := q2.get hv
      refine next_call hit.typeIs slot_listiter_next (wpAny_pyNext_list_item hit (items := vs.toArray) ⟨_, k.S.fz _ _ q1, rfl, _, rfl⟩ (x := y) (by rw [List.getElem?_toArray]; exact g1) fun h' hit' hs => ?_)
      obtain ⟨o', go, gc, gd⟩ := id hit'
      exact C (k.upd (b := .iter false xs (p + 1)) h rfl rfl hs.extBut go ⟨a, vs, q, q1, q2, hlt, gc, gd⟩) _ g2.upd
    | true =>
      obtain ⟨a, vs, q, q1, q2, q3, q4, q5⟩ := h2
      have hit : k.s.heap.IsTupleIter (k.ι m) a p := ⟨_, h1, q4, q5⟩
      obtain ⟨y, g1, g2⟩ := q2.get hv
      refine next_call hit.typeIs PySem.F.slot_tuple_iterator_next (wpAny_pyNext_tuple_item hit (items := vs.toArray) ⟨_, k.S.fz _ _ q1, rfl, _, rfl⟩ (x := y) (by rw [List.getElem?_toArray]; exact g1) fun h' hit' hs => ?_)
      obtain ⟨o', go, gc, gd⟩ := id hit'
      exact C (k.upd (b := .iter true xs (p + 1)) h rfl rfl hs.extBut go ⟨a, vs, q, q1, q2, hlt, gc, gd⟩) _ g2.upd)
theorem cb_stop (h : σ[m]? = some (.iter t xs p)) (hv : xs[p]? = none) : CB (.builtin "next") [.own m, .none] σ .none (σ.set m .spent) := fun k A us R rs Q X C =>
  own_el2 (D := fun us => wpAny (MD k.w) A (call (.builtin "next") us) Q X k.s) rs (by
    obtain ⟨o, h1, h2⟩ := k.S.own m _ h
    have hx : ∀ {vs : List Value}, k.Vs vs xs → vs.toArray[p]? = none := fun hs => by
      rw [List.getElem?_toArray, List.getElem?_eq_none_iff, hs.length]; exact List.getElem?_eq_none_iff.mp hv
    cases t with
    | false =>
      obtain ⟨a, vs, q, q1, q2, q3, q4, q5⟩ := h2
      have hit : k.s.heap.IsListIter (k.ι m) a p := ⟨_, h1, q4, q5⟩
      exact next_call hit.typeIs slot_listiter_next (next_list_end R.handled hit ⟨_, k.S.fz _ _ q1, rfl, _, rfl⟩ (hx q2) fun h' o' he ho => C (k.upd (b := .spent) h rfl rfl he ho trivial) _ .none)
    | true =>
      obtain ⟨a, vs, q, q1, q2, q3, q4, q5⟩ := h2
      have hit : k.s.heap.IsTupleIter (k.ι m) a p := ⟨_, h1, q4, q5⟩
      exact next_call hit.typeIs PySem.F.slot_tuple_iterator_next (next_tuple_end R.handled hit ⟨_, k.S.fz _ _ q1, rfl, _, rfl⟩ (hx q2) fun h' o' he ho => C (k.upd (b := .spent) h rfl rfl he ho trivial) _ .none))
theorem cb_isi : CB (.builtin "isinstance") [.str x, .con (.type "bytes")] σ (.bool false) σ := fun k _ _ _ rs Q X C =>
  rs.el2 (D := fun us => wpAny _ _ (call (.builtin "isinstance") us) Q X _) fun a b r1 r2 => r1.str_el (C := fun a => wpAny _ _ (call (.builtin "isinstance") [a, b]) Q X _) fun _ => r2.con_el (C := fun b => wpAny _ _ (call (.builtin "isinstance") [_, b]) Q X _) (IsiPair.str_bytes (C (k.tok _) _ (.bool _)))
theorem cb_iss : CB (.builtin "issubclass") [.con (.type "str"), .tup [.con (.type "str"), .con (.type "bytes")]] σ (.bool true) σ := fun k _ _ _ rs Q X C =>
  rs.el2 (D := fun us => wpAny _ _ (call (.builtin "issubclass") us) Q X _) fun a b r1 r2 => r1.con_el (C := fun a => wpAny _ _ (call (.builtin "issubclass") [a, b]) Q X _)
    (r2.tup_el (C := fun b => wpAny _ _ (call (.builtin "issubclass") [_, b]) Q X _) fun l vs m hl hs => by
      have hv : vs = [.type "str", .type "bytes"] := hs.el2 (D := fun vs => vs = [.type "str", .type "bytes"]) fun a b q1 q2 => q1.con_el (C := fun a => [a, b] = _) (q2.con_el (C := fun b => [_, b] = _) rfl)
      subst hv
      exact issub_call (k.S.fz _ _ hl) (C (k.tok _) _ (.bool _)))
theorem cb_range1 : CB (.type "range") [.int j] σ (.rng 0 j 1) σ := fun k _ _ _ rs Q X C =>
  rs.el1 (D := fun us => wpAny _ _ (call (.type "range") us) Q X _) fun a r => r.int_el (C := fun a => wpAny _ _ (call (.type "range") [a]) Q X _) fun _ => call_range_1 (C (k.newL rfl (tk := _)) _ (.rng (zput_self ..)))
theorem cb_range2 : CB (.type "range") [.int i, .int j] σ (.rng i j 1) σ := fun k _ _ _ rs Q X C =>
  rs.el2 (D := fun us => wpAny _ _ (call (.type "range") us) Q X _) fun a b r1 r2 => r1.int_el (C := fun a => wpAny _ _ (call (.type "range") [a, b]) Q X _) fun _ => r2.int_el (C := fun b => wpAny _ _ (call (.type "range") [_, b]) Q X _) fun _ => call_range_2 (C (k.newL rfl (tk := _)) _ (.rng (zput_self ..)))
theorem cb_range3 : CB (.type "range") [.int i, .int j, .int (-1)] σ (.rng i j (-1)) σ := fun k _ _ _ rs Q X C =>
  rs.el3 (D := fun us => wpAny _ _ (call (.type "range") us) Q X _) fun a b c r1 r2 r3 => r1.int_el (C := fun a => wpAny _ _ (call (.type "range") [a, b, c]) Q X _) fun _ => r2.int_el (C := fun b => wpAny _ _ (call (.type "range") [_, b, c]) Q X _) fun _ =>
    r3.int_el (C := fun c => wpAny _ _ (call (.type "range") [_, _, c]) Q X _) fun _ => call_range_3 (by decide) (C (k.newL rfl (tk := _)) _ (.rng (zput_self ..))) (.inl (by
      unfold Builtin.divisionGoesByPylong
      simp only [show ¬ ((if ((-1 : Int) == 0) = true then 0 else (-1 : Int).natAbs.log2 / 30 + 1) > 300) by decide, decide_false, Bool.false_and]))
theorem cb_tuple (h : xs.length ≤ cap) : CB (.type "tuple") [.list xs] σ (.tup xs) σ := fun k _ _ _ rs Q X C =>
  rs.el1 (D := fun us => wpAny _ _ (call (.type "tuple") us) Q X _) fun a r => r.list_el (C := fun a => wpAny _ _ (call (.type "tuple") [a]) Q X _) fun l us m hl hs =>
    call_tuple_list ⟨_, k.S.fz _ _ hl, rfl, _, rfl⟩ (fun h' hk => let y : Nx k [] σ := k.grow h' k.s.toks hk; C (y.then (y.up.newL (o := tupO us 0) rfl)) _ (.tup (zput_self ..) (y.up.newL_le hs))) (by rw [List.size_toArray, hs.length]; exact cap_fits h)
theorem cb_type : CB (.type "type") [.str x] σ (.con (.type "str")) σ := fun k _ _ _ rs Q X C =>
  rs.el1 (D := fun us => wpAny _ _ (call (.type "type") us) Q X _) fun a r => r.str_el (C := fun a => wpAny _ _ (call (.type "type") [a]) Q X _) fun _ => call_type_of (Tx := "str") (typeIs_str _ _ _) rfl (C k.nx _ (.con _))
end
end

noncomputable section
open PySem PySem.Calls PyProof.Rows PySem.W
noncomputable def rkey (p : List Str) : List (List Nat) := p.map fun x => x.cps.toList
theorem rkey_inj : ∀ {p q : List Str}, rkey p = rkey q → p = q
  | [], [], _ => rfl
  | [], _ :: _, h => by cases h
  | _ :: _, [], h => by cases h
  | x :: p, y :: q, h => by
    have h1 := List.cons.inj h
    rw [rkey_inj h1.2]
    obtain ⟨⟨a⟩⟩ := x
    obtain ⟨⟨b⟩⟩ := y
    rw [show a = b from h1.1]
theorem ltS_dec (x y : Str) : ltS x y = decide (x.cps.toList < y.cps.toList) := ltCps_eq _ _
theorem ltL_eq : ∀ p q : List Str, ltL p q = decide (rkey p < rkey q)
  | [], [] => by simp [ltL, rkey]
  | [], _ :: _ => by simp [ltL, rkey]
  | _ :: _, [] => by simp [ltL, rkey]
  | x :: p, y :: q => by
    show (if sq x y then ltL p q else ltS x y) = decide (x.cps.toList :: rkey p < y.cps.toList :: rkey q)
    rw [ltL_eq p q, ltS_dec]
    rw [show decide (x.cps.toList :: rkey p < y.cps.toList :: rkey q) = decide (x.cps.toList < y.cps.toList ∨ x.cps.toList = y.cps.toList ∧ rkey p < rkey q) from decide_eq_decide.mpr List.cons_lt_cons_iff]
    by_cases h : x = y
    · subst h
      simp [sq_refl, List.lt_irrefl]
    · have h1 : sq x y = false := (sq_false x y).mpr h
      have h2 : x.cps.toList ≠ y.cps.toList := fun e => h (by
        obtain ⟨⟨a⟩⟩ := x
        obtain ⟨⟨b⟩⟩ := y
        rw [show a = b from e])
      simp [h1, h2]
@[reducible] def rowOrd : KeyOrd where
  α := List Str
  blt := ltL
  irrefl a := by rw [ltL_eq]; simp
  trans a b c h1 h2 := by rw [ltL_eq] at *; simp only [decide_eq_true_eq] at *; exact List.lt_trans h1 h2
  negTrans a b c h := by
    rw [ltL_eq] at *
    rw [ltL_eq]
    simp only [decide_eq_true_eq] at *
    by_cases hab : rkey a < rkey b
    · exact .inl hab
    · exact .inr (List.lt_of_le_of_lt (List.not_lt.mp hab) h)
  total a b h1 h2 := by
    rw [ltL_eq] at h1 h2
    simp only [decide_eq_false_iff_not] at *
    exact rkey_inj (List.le_antisymm (List.not_lt.mp h2) (List.not_lt.mp h1))
/-- the tree's way under an oracle, all it asks in bounds -/
noncomputable def KV (o : Nat → Nat → Bool) (n : Nat) {α : Type} : KasT α → (α → Prop) → Prop
  | .ret a, Q => Q a
  | .ask i j k, Q => i < n ∧ j < n ∧ KV o n (k (o i j)) Q
theorem KV.mono {o : Nat → Nat → Bool} {n : Nat} {α : Type} {Q Q' : α → Prop} (hq : ∀ a, Q a → Q' a) : ∀ {t : KasT α}, KV o n t Q → KV o n t Q'
  | .ret a, h => hq a h
  | .ask _ _ _, h => ⟨h.1, h.2.1, KV.mono hq h.2.2⟩
theorem KV.bind {o : Nat → Nat → Bool} {n : Nat} {α β : Type} {f : α → KasT β} {Q : β → Prop} : ∀ {t : KasT α}, KV o n t (fun a => KV o n (f a) Q) → KV o n (t.bind f) Q
  | .ret _, h => h
  | .ask _ _ _, h => ⟨h.1, h.2.1, KV.bind h.2.2⟩
theorem KV.run {o : Nat → Nat → Bool} {n : Nat} {α : Type} {Q : α → Prop} {cmp : Nat → Nat → (Bool → Shared → Prop) → Shared → Prop} {s : Shared} {R : α → Shared → Prop}
    (hc : ∀ i j (C : Bool → Shared → Prop), i < n → j < n → C (o i j) s → cmp i j C s) (hq : ∀ a, Q a → R a s) : ∀ {t : KasT α}, KV o n t Q → t.kasWp cmp R s
  | .ret a, h => hq a h
  | .ask i j _, h => hc i j _ h.1 h.2.1 (KV.run hc hq h.2.2)
section tree
variable {O : KeyOrd} {n : Nat} {key : Nat → O.α}
noncomputable abbrev orc (O : KeyOrd) (key : Nat → O.α) : Nat → Nat → Bool := fun i j => O.blt (key i) (key j)
noncomputable abbrev FK {O : KeyOrd} (key : Nat → O.α) (p : Array Nat) (i : Nat) : O.α := key (p.getD i 0)
structure Ok (n : Nat) (p : Array Nat) : Prop where
  pos : 0 < n
  perm : p.Perm (List.toArray (List.range n))
theorem Ok.size {p : Array Nat} (h : Ok n p) : p.size = n := by have := h.perm.size_eq; simpa using this
theorem Ok.lt {p : Array Nat} (h : Ok n p) (i : Nat) : p.getD i 0 < n := by
  by_cases hi : i < p.size
  · have e : p.getD i 0 = p[i] := by simp [Array.getD, hi]
    rw [e]
    have hm : p[i] ∈ p.toList := by simp
    have := (Array.perm_iff_toList_perm.mp h.perm).mem_iff.mp hm
    simpa using this
  · have e : p.getD i 0 = 0 := by simp [Array.getD, hi]
    rw [e]; exact h.pos
theorem getD_of {p q : Array Nat} {i j : Nat} (h : p[i]? = q[j]?) : p.getD i 0 = q.getD j 0 := by
  rw [Array.getD_eq_getD_getElem?, Array.getD_eq_getD_getElem?, h]
theorem Ok.rev {p : Array Nat} (h : Ok n p) (i j : Nat) : Ok n (kas_rev p i j) := ⟨h.pos, (mirror_perm _ _ _ _).trans h.perm⟩
theorem Ok.bub {p : Array Nat} (h : Ok n p) (i j : Nat) : Ok n (bubble p i j) := ⟨h.pos, (bubble_perm _ _ _).trans h.perm⟩
theorem FK_rev {p : Array Nat} {i j : Nat} (hj : j ≤ p.size) (k : Nat) : FK key (kas_rev p i j) k = if i ≤ k ∧ k < j then FK key p (i + j - 1 - k) else FK key p k := by
  have e := getElem?_mirror_all (i := i) hj k
  by_cases h : i ≤ k ∧ k < j
  · rw [if_pos h] at e ⊢
    show key _ = key _
    rw [show (kas_rev p i j).getD k 0 = p.getD (i + j - 1 - k) 0 from getD_of e]
  · rw [if_neg h] at e ⊢
    show key _ = key _
    rw [show (kas_rev p i j).getD k 0 = p.getD k 0 from getD_of e]
theorem FK_rev_eq {p : Array Nat} {i j : Nat} (hj : j ≤ p.size) (he : ∀ k, i ≤ k → k < j → FK key p k = FK key p (j - 1)) (k : Nat) : FK key (kas_rev p i j) k = FK key p k := by
  rw [FK_rev hj]
  split
  · rw [he _ (by (clear hj; omega)) (by (clear hj; omega)), he k (by (clear hj; omega)) (by (clear hj; omega))]
  · rfl
theorem FK_bub {p : Array Nat} {k d : Nat} (hs : k < p.size) (hd : d ≤ k) (i : Nat) :
    FK key (bubble p k d) i = if i = k - d then FK key p k else if k - d < i ∧ i ≤ k then FK key p (i - 1) else FK key p i := by
  have e := getElem?_bubble hs d hd i
  by_cases h1 : i = k - d
  · rw [if_pos h1] at e ⊢
    show key _ = key _
    rw [show (bubble p k d).getD i 0 = p.getD k 0 from getD_of e]
  · rw [if_neg h1] at e ⊢
    by_cases h2 : k - d < i ∧ i ≤ k
    · rw [if_pos h2] at e ⊢
      show key _ = key _
      rw [show (bubble p k d).getD i 0 = p.getD (i - 1) 0 from getD_of e]
    · rw [if_neg h2] at e ⊢
      show key _ = key _
      rw [show (bubble p k d).getD i 0 = p.getD i 0 from getD_of e]
/-- in order as far as k -/
noncomputable def Adj (O : KeyOrd) (F : Nat → O.α) (k : Nat) : Prop := ∀ i, 1 ≤ i → i < k → O.kle (F (i - 1)) (F i)
theorem Adj.all {F : Nat → O.α} {k : Nat} (h : Adj O F k) : ∀ i j, i ≤ j → j < k → O.kle (F i) (F j) := fun i j hij hj => by
  obtain ⟨d, rfl⟩ : ∃ d, j = i + d := ⟨j - i, by (clear hj; omega)⟩
  clear hij
  induction d with
  | zero => exact KeyOrd.kle_refl _
  | succ d ih =>
    have h1 := ih (by (clear ih; omega))
    have h2 := h (i + d + 1) (by (clear hj ih; omega)) (by (clear ih; omega))
    rw [show i + d + 1 - 1 = i + d by (clear hj ih; omega)] at h2
    exact KeyOrd.kle_trans h1 h2
theorem kv_asc {p : Array Nat} (hp : Ok n p) : ∀ f m, KV (orc O key) n (kas_asc p f m) (fun r => m ≤ r ∧ r ≤ m + f ∧ (∀ i, m ≤ i → i < r → O.kle (FK key p (i - 1)) (FK key p i)) ∧ (r < m + f → O.klt (FK key p r) (FK key p (r - 1))))
  | 0, m => ⟨Nat.le_refl _, Nat.le_refl _, fun i h1 h2 => by omega, fun h => by omega⟩
  | f + 1, m => by
    refine ⟨hp.lt _, hp.lt _, ?_⟩
    cases hc : orc O key (p.getD m 0) (p.getD (m - 1) 0) with
    | true =>
      show KV _ _ (ite _ _ _) _; rw [if_pos rfl]
      exact ⟨Nat.le_refl _, by omega, fun i h1 h2 => by omega, fun _ => hc⟩
    | false =>
      show KV _ _ (ite _ _ _) _; rw [if_neg (by simp)]
      refine KV.mono (fun r hr => ?_) (kv_asc hp f (m + 1))
      obtain ⟨h1, h2, h3, h4⟩ := hr
      refine ⟨by (clear h4 h2; omega), by (clear h4 h1; omega), fun i hi1 hi2 => ?_, fun h => h4 (by (clear h4 h2 h1; omega))⟩
      by_cases e : i = m
      · subst e; exact hc
      · exact h3 i (by (clear hi2 h4 h2 h1; omega)) hi2
/-- falling as far as m, the last q + 1 alike -/
structure Dn (O : KeyOrd) (F : Nat → O.α) (m q : Nat) : Prop where
  lt : q < m
  dn : ∀ i, 1 ≤ i → i < m → O.kle (F i) (F (i - 1))
  eq : ∀ i, m - (q + 1) ≤ i → i < m → F i = F (m - 1)
theorem kv_desc : ∀ f (p : Array Nat) m q, Ok n p → m + f ≤ n → Dn O (FK key p) m q → KV (orc O key) n (kas_desc f p m q) (fun r => Ok n r.1 ∧ m ≤ r.2.1 ∧ r.2.1 ≤ m + f ∧ Dn O (FK key r.1) r.2.1 r.2.2)
  | 0, p, m, q, hp, _, h => ⟨hp, Nat.le_refl _, Nat.le_refl _, h⟩
  | f + 1, p, m, q, hp, hf, h => by
    have hlt := h.lt
    refine ⟨hp.lt _, hp.lt _, ?_⟩
    cases hc : orc O key (p.getD m 0) (p.getD (m - 1) 0) with
    | true =>
      show KV _ _ (ite _ _ _) _; rw [if_pos rfl]
      have hc : O.klt (FK key p m) (FK key p (m - 1)) := hc
      by_cases hq : q > 0
      · rw [if_pos hq]
        have hz : m ≤ p.size := by rw [hp.size]; (clear hq hlt; omega)
        have e := FK_rev_eq (key := key) (i := m - (q + 1)) hz h.eq
        refine KV.mono (fun r hr => ⟨hr.1, by (clear hz hq hlt hf; omega), by (clear hz hq hlt hf; omega), hr.2.2.2⟩) (kv_desc f _ (m + 1) 0 (hp.rev _ _) (by (clear hz hq hlt; omega)) ⟨by (clear hz hq hlt hf; omega), fun i h1 h2 => ?_, fun i h1 h2 => ?_⟩)
        · rw [e, e]
          by_cases q1 : i = m
          · subst q1; exact KeyOrd.kle_of_klt hc
          · exact h.dn i h1 (by (clear h1 hz hq hlt hf; omega))
        · rw [show i = m + 1 - 1 by (clear hz hq hlt hf; omega)]
      · rw [if_neg hq]
        refine KV.mono (fun r hr => ⟨hr.1, by (clear hq hlt hf; omega), by (clear hq hlt hf; omega), hr.2.2.2⟩) (kv_desc f p (m + 1) 0 hp (by (clear hq hlt; omega)) ⟨by (clear hq hlt hf; omega), fun i h1 h2 => ?_, fun i h1 h2 => ?_⟩)
        · by_cases q1 : i = m
          · subst q1; exact KeyOrd.kle_of_klt hc
          · exact h.dn i h1 (by (clear h1 hq hlt hf; omega))
        · rw [show i = m + 1 - 1 by (clear hq hlt hf; omega)]
    | false =>
      show KV _ _ (ite _ _ _) _; rw [if_neg (by simp)]
      refine ⟨hp.lt _, hp.lt _, ?_⟩
      cases hd : orc O key (p.getD (m - 1) 0) (p.getD m 0) with
      | true =>
        show KV _ _ (ite _ _ _) _; rw [if_pos rfl]
        exact ⟨hp, Nat.le_refl _, by show m ≤ m + (f + 1); (clear hlt hf; omega), h⟩
      | false =>
        show KV _ _ (ite _ _ _) _; rw [if_neg (by simp)]
        have e : FK key p m = FK key p (m - 1) := O.total _ _ hc hd
        refine KV.mono (fun r hr => ⟨hr.1, by (clear hlt hf; omega), by (clear hlt hf; omega), hr.2.2.2⟩) (kv_desc f p (m + 1) (q + 1) hp (by (clear hlt; omega)) ⟨by (clear hf; omega), fun i h1 h2 => ?_, fun i h1 h2 => ?_⟩)
        · by_cases q1 : i = m
          · subst q1; rw [e]; exact KeyOrd.kle_refl _
          · exact h.dn i h1 (by (clear h1 hlt hf; omega))
        · rw [show m + 1 - 1 = m by (clear h2 h1 hlt hf; omega), e]
          by_cases q1 : i = m
          · subst q1; exact e
          · exact h.eq i (by (clear q1 h2 hlt hf; omega)) (by (clear h1 hlt hf; omega))
noncomputable abbrev RunOk (O : KeyOrd) (key : Nat → O.α) (n : Nat) (r : Nat × Array Nat) : Prop := Ok n r.2 ∧ 1 ≤ r.1 ∧ r.1 ≤ n ∧ Adj O (FK key r.2) r.1
theorem kv_tail3 {p : Array Nat} {m : Nat} (hp : Ok n p) (h1 : 1 ≤ m) (hm : m ≤ n) (h : ∀ i, 1 ≤ i → i < m → O.kle (FK key p i) (FK key p (i - 1))) : KV (orc O key) n (kas_tail3 m n p) (RunOk O key n) := by
  unfold kas_tail3
  have hz : m ≤ p.size := by rw [hp.size]; exact hm
  refine KV.bind (KV.mono (fun r hr => ?_) (kv_asc (hp.rev 0 m) (n - m) m))
  obtain ⟨a1, a2, a3, _⟩ := hr
  refine ⟨hp.rev 0 m, by show 1 ≤ r; (clear a2 hz hm; omega), by show r ≤ n; (clear a1 hz h1; omega), fun i i1 i2 => ?_⟩
  have i2 : i < r := i2
  by_cases q : m ≤ i
  · exact a3 i q i2
  · show O.kle (FK key (kas_rev p 0 m) (i - 1)) (FK key (kas_rev p 0 m) i)
    rw [FK_rev hz, FK_rev hz, if_pos (by (clear i2 i1 a2 a1 hz hm h1; omega)), if_pos (by (clear i2 i1 a2 a1 hz hm h1; omega))]
    have := h (0 + m - 1 - (i - 1)) (by (clear i2 a2 a1 hz hm h1; omega)) (by (clear q i2 i1 a2 a1 hz hm; omega))
    rw [show 0 + m - 1 - (i - 1) - 1 = 0 + m - 1 - i by (clear q i2 a2 a1 hz hm h1; omega)] at this
    exact this
theorem kv_descPart {p : Array Nat} {m : Nat} (hp : Ok n p) (h1 : 1 ≤ m) (hm : m + 1 ≤ n) (he : ∀ i, i < m → FK key p i = FK key p (m - 1)) (hl : O.klt (FK key p m) (FK key p (m - 1))) : KV (orc O key) n (kas_descPart m n p) (RunOk O key n) := by
  unfold kas_descPart
  refine KV.bind (KV.mono (fun r hr => ?_) (kv_desc (n - (m + 1)) p (m + 1) 0 hp (by (clear h1; omega)) ⟨by (clear hm h1; omega), fun i i1 i2 => ?_, fun i i1 i2 => ?_⟩))
  · obtain ⟨a1, a2, a3, a4⟩ := hr
    have hz : r.2.1 ≤ r.1.size := by rw [a1.size]; (clear a2 h1; omega)
    split
    · have e := FK_rev_eq (key := key) (i := r.2.1 - (r.2.2 + 1)) hz a4.eq
      exact kv_tail3 (a1.rev _ _) (by (clear hz a3 hm h1; omega)) (by (clear hz a2 h1; omega)) fun i i1 i2 => by rw [e, e]; exact a4.dn i i1 i2
    · exact kv_tail3 a1 (by (clear hz a3 hm h1; omega)) (by (clear hz a2 h1; omega)) a4.dn
  · by_cases q : i = m
    · subst q; exact KeyOrd.kle_of_klt hl
    · rw [he i (by (clear i1 hm h1; omega)), he (i - 1) (by (clear q i1 hm; omega))]; exact KeyOrd.kle_refl _
  · rw [show i = m + 1 - 1 by (clear hm h1; omega)]
set_option tactic.hygienic true in
theorem kv_count {p : Array Nat} (hp : Ok n p) : KV (orc O key) n (kas_count n p) (RunOk O key n) := by
  unfold kas_count
  have h0 := hp.pos
  refine KV.bind (KV.mono (fun m hr => ?_) (kv_asc hp (n - 1) 1))
  obtain ⟨a1, a2, a3, a4⟩ := hr
  have hz : m ≤ p.size := by rw [hp.size]; (clear a4 a1; omega)
  have hadj : Adj O (FK key p) m := fun i i1 i2 => a3 i i1 i2
  split
  · exact ⟨hp, a1, by show m ≤ n; (clear hz a4 a1; omega), hadj⟩
  · rename_i hne
    have hne : m ≠ n := fun q => hne (by rw [q]; exact beq_self_eq_true _)
    have hl := a4 (by (clear hz a4 a1; omega))
    split
    · rename_i h1
      refine ⟨hp.lt _, hp.lt _, ?_⟩
      cases hc : orc O key (p.getD 0 0) (p.getD (m - 1) 0) with
      | true =>
        show KV _ _ (ite _ _ _) _; rw [if_pos rfl]
        exact ⟨hp, a1, by show m ≤ n; (clear h1 hne hz a4 a1; omega), hadj⟩
      | false =>
        show KV _ _ (ite _ _ _) _; rw [if_neg (by simp)]
        have hc : O.kle (FK key p (m - 1)) (FK key p 0) := hc
        have he : ∀ i, i < m → FK key p i = FK key p (m - 1) := fun i hi =>
          KeyOrd.kle_antisymm (hadj.all i (m - 1) (by (clear h1 hne hz a4 a2 a1 h0; omega)) (by (clear hi h1 hne hz a4 a2 h0; omega))) (KeyOrd.kle_trans hc (hadj.all 0 i (by (clear hi h1 hne hz a4 a2 a1 h0; omega)) hi))
        have e := FK_rev_eq (key := key) (i := 0) hz fun k _ k2 => he k k2
        exact kv_descPart (hp.rev _ _) a1 (by (clear h1 hz a4 a1; omega)) (fun i hi => by rw [e, e]; exact he i hi) (by rw [e, e]; exact hl)
    · have hm1 : m = 1 := by (clear hne hz a4 a2 h0; omega)
      subst hm1
      exact kv_descPart hp (Nat.le_refl _) (by (clear hz a4 a2 a1; omega)) (fun i hi => by rw [show i = 1 - 1 by (clear hne hz a4 a2 a1 h0; omega)]) hl
theorem kv_place {p : Array Nat} {k : Nat} (hp : Ok n p) (ha : Adj O (FK key p) k) : ∀ f l r, l ≤ r → r ≤ k → r - l ≤ f → (∀ i, i < l → O.kle (FK key p i) (FK key p k)) → (∀ i, r ≤ i → i < k → O.klt (FK key p k) (FK key p i)) →
    KV (orc O key) n (kas_place p k f l r) (fun l => l ≤ k ∧ (∀ i, i < l → O.kle (FK key p i) (FK key p k)) ∧ ∀ i, l ≤ i → i < k → O.klt (FK key p k) (FK key p i))
  | 0, l, r, h1, h2, h3, h4, h5 => ⟨by (clear h3; omega), h4, fun i i1 i2 => h5 i (by (clear i2 h2 h1; omega)) i2⟩
  | f + 1, l, r, h1, h2, h3, h4, h5 => by
    unfold kas_place
    split
    · exact ⟨by (clear h3; omega), h4, fun i i1 i2 => h5 i (by (clear i2 h3 h2 h1; omega)) i2⟩
    · refine ⟨hp.lt _, hp.lt _, ?_⟩
      cases hc : orc O key (p.getD k 0) (p.getD ((l + r) / 2) 0) with
      | true =>
        show KV _ _ (ite _ _ _) _; rw [if_pos rfl]
        refine kv_place hp ha f l ((l + r) / 2) (by (clear h3 h2 h1; omega)) (by (clear h3 h1; omega)) (by (clear h2 h1; omega)) h4 fun i i1 i2 => ?_
        exact KeyOrd.klt_of_klt_of_kle (show O.klt (FK key p k) (FK key p ((l + r) / 2)) from hc) (ha.all _ i i1 i2)
      | false =>
        show KV _ _ (ite _ _ _) _; rw [if_neg (by simp)]
        refine kv_place hp ha f ((l + r) / 2 + 1) r (by (clear h3 h2 h1; omega)) h2 (by (clear h2 h1; omega)) (fun i hi => ?_) h5
        exact KeyOrd.kle_trans (ha.all i ((l + r) / 2) (by (clear h3 h2 h1; omega)) (by (clear hi h3 h1; omega))) (show O.kle (FK key p ((l + r) / 2)) (FK key p k) from hc)
theorem kv_bin : ∀ f (p : Array Nat) k, Ok n p → 1 ≤ k → k + f = n → Adj O (FK key p) k → KV (orc O key) n (kas_bin f p k) (fun p => Ok n p ∧ Adj O (FK key p) n)
  | 0, p, k, hp, _, hk, ha => by
    have : k = n := by omega
    subst this
    exact ⟨hp, ha⟩
  | f + 1, p, k, hp, h1, hk, ha => by
    show KV _ _ ((kas_place p k k 0 k).bind fun l => kas_bin f (bubble p k (k - l)) (k + 1)) _
    refine KV.bind (KV.mono (fun l hl => ?_) (kv_place hp ha k 0 k (by (clear hk h1; omega)) (by (clear hk h1; omega)) (by (clear hk h1; omega)) (fun i hi => by (clear hk h1; omega)) fun i i1 i2 => by (clear hk h1; omega)))
    obtain ⟨l1, l2, l3⟩ := hl
    have hz : k < p.size := by rw [hp.size]; (clear l1 h1; omega)
    refine kv_bin f _ (k + 1) (hp.bub _ _) (by (clear hz l1 hk h1; omega)) (by (clear hz l1 h1; omega)) fun i i1 i2 => ?_
    have e := FK_bub (key := key) (d := k - l) hz (by (clear i2 i1 hz l1 hk h1; omega))
    have hkl : k - (k - l) = l := by (clear i2 i1 hz hk h1; omega)
    rw [hkl] at e
    rw [e, e]
    by_cases q1 : i = l
    · rw [if_pos q1, if_neg (by (clear hkl i2 hz l1 hk h1; omega)), if_neg (by (clear hkl i2 i1 hz l1 hk h1; omega))]
      exact l2 _ (by (clear hkl i2 hz l1 hk h1; omega))
    · rw [if_neg q1]
      by_cases q2 : l < i ∧ i ≤ k
      · rw [if_pos q2]
        by_cases q3 : i - 1 = l
        · rw [if_pos q3, q3]
          exact KeyOrd.kle_of_klt (l3 l (by (clear q3 q2 q1 hkl i2 i1 hz l1 hk h1; omega)) (by (clear q3 q1 hkl i2 i1 hz l1 hk h1; omega)))
        · rw [if_neg q3, if_pos (by (clear q1 hkl i2 i1 hz l1 hk h1; omega))]
          exact ha (i - 1) (by (clear q1 hkl i2 i1 hz l1 hk h1; omega)) (by (clear q3 q2 q1 hkl i1 hz l1 hk; omega))
      · rw [if_neg q2, if_neg (by (clear q1 hkl hz l1 hk h1; omega)), if_neg (by (clear q1 hkl i1 hz l1 hk h1; omega))]
        exact ha i i1 (by (clear hkl i1 hz hk h1; omega))
theorem kv_sort (h : 0 < n) : KV (orc O key) n (kas_sort n) (fun p => Ok n p ∧ Adj O (FK key p) n) := by
  unfold kas_sort
  refine KV.bind (KV.mono (fun r hr => ?_) (kv_count ⟨h, Array.Perm.refl _⟩))
  obtain ⟨a1, a2, a3, a4⟩ := hr
  split
  · rw [show max r.1 1 = r.1 by (clear a3 h; omega)]
    exact kv_bin _ _ _ a1 a2 (by (clear a3 a2 h; omega)) a4
  · have : r.1 = n := by (clear a2 h; omega)
    rw [this] at a4
    exact ⟨a1, a4⟩
end tree
end

noncomputable section
open PySem PySem.Calls PyProof.Rows PySem.W
open AutoSeq1 (wpAny_loadPart')
theorem StrsAre.get {vs : List Value} {xs : List Str} (h : StrsAre vs xs) : ∀ i : Nat, (∃ x t, vs[i]? = some (.str x t) ∧ xs[i]? = some x) ∨ (vs[i]? = none ∧ xs[i]? = none) := by
  induction h with
  | nil => intro i; exact .inr ⟨rfl, rfl⟩
  | cons y t _ ih =>
    intro i
    cases i with
    | zero => exact .inl ⟨y, t, rfl, rfl⟩
    | succ i => exact ih i
theorem sub_list : isSubtype (.type "list") (.type "list") = pure true := AutoSeq1.sub_list_list
theorem lt_loop {a b : Addr} {vs ws : List Value} {xs ys : List Str} {k1 k2 : Nat} (hx : StrsAre vs xs) (hy : StrsAre ws ys) (lx : vs.length = xs.length) (ly : ws.length = ys.length) : ∀ m i : Nat, xs.length - i = m → i ≤ xs.length → i ≤ ys.length → Meets (Builtin.«list.__eq__.loop» ⟨[.ref a, .ref b, rawInt i, rawInt 0], []⟩)
    (fun _ R s => s.heap.get? a = some (listO vs k1) ∧ s.heap.get? b = some (listO ws k2) ∧ R (.ok (.ret (.bool (ltL (xs.drop i) (ys.drop i))))) s) := by
  intro m
  induction m with
  | zero =>
    intro i hk b1 b2 prog w A R s h
    obtain ⟨hp, g, d, tk, os⟩ := s; obtain ⟨hl, hb, h⟩ := h
    wp_walk using wpAny_loadPart' hl, wpAny_loadPart' hb
    have e : i = xs.length := by (clear b2 ly lx; omega)
    have n1 : vs.toArray[((i : Nat) : Int).toNat]? = none := by simp; (clear e b2 b1 ly; omega)
    rw [n1]
    dsimp only
    wp_walk using wpAny_loadPart' hl, wpAny_loadPart' hb
    show R (.ok (.ret (.bool (decide (vs.toArray.size < ws.toArray.size))))) _
    rw [List.size_toArray, List.size_toArray, lx, ly]
    rw [show xs.drop i = [] from List.drop_eq_nil_of_le (by (clear e b2 b1 ly lx; omega))] at h
    by_cases q : i = ys.length
    · rw [show ys.drop i = [] from List.drop_eq_nil_of_le (by (clear e b2 b1 hk ly lx; omega))] at h
      rw [show decide (xs.length < ys.length) = false by simp; (clear e b2 hk ly lx; omega)]
      exact h
    · rw [show ys.drop i = ys[i]'(by (clear e b1 hk ly lx; omega)) :: ys.drop (i + 1) from List.drop_eq_getElem_cons _] at h
      rw [show decide (xs.length < ys.length) = true by simp; (clear e b1 ly lx; omega)]
      exact h
  | succ m ih =>
    intro i hk b1 b2 prog w A R s h
    obtain ⟨hp, g, d, tk, os⟩ := s; obtain ⟨hl, hb, h⟩ := h
    wp_walk using wpAny_loadPart' hl, wpAny_loadPart' hb
    rcases StrsAre.get hx i with ⟨x, t, x1, x2⟩ | ⟨x1, x2⟩
    rotate_left
    · rw [List.getElem?_eq_none_iff] at x2; (clear b2 b1 ly lx; omega)
    have d1 : xs.drop i = x :: xs.drop (i + 1) := by
      obtain ⟨q1, q2⟩ := List.getElem?_eq_some_iff.mp x2
      rw [← q2]; exact List.drop_eq_getElem_cons _
    have n1 : vs.toArray[((i : Nat) : Int).toNat]? = some (.str x t) := by simpa using x1
    rw [n1]
    rcases StrsAre.get hy i with ⟨y, u, y1, y2⟩ | ⟨y1, y2⟩
    · have n2 : ws.toArray[((i : Nat) : Int).toNat]? = some (.str y u) := by simpa using y1
      have hlt := (List.getElem?_eq_some_iff.mp y2).1
      have d2 : ys.drop i = y :: ys.drop (i + 1) := by
        obtain ⟨q1, q2⟩ := List.getElem?_eq_some_iff.mp y2
        rw [← q2]; exact List.drop_eq_getElem_cons _
      rw [n2]
      dsimp only
      rw [d1, d2] at h
      have h : R (.ok (.ret (.bool (if sq x y then ltL (xs.drop (i + 1)) (ys.drop (i + 1)) else ltS x y)))) _ := h
      refine wpAny_bind (wpAny_eqBool_str ?_)
      by_cases hxy : x = y
      · rw [if_pos (by simp [hxy])]
        rw [if_pos (by rw [hxy]; exact sq_refl y)] at h
        have hc : ((i : Int) + 1) = ((i + 1 : Nat) : Int) := by push_cast; rfl
        wp_walk
        rw [hc]
        exact ⟨plainId_quiet MeetsSeq3.plain_eq_loop _, codeAny_builtin MeetsSeq3.entry_eq_loop (by
          rw [Around.under_plainId MeetsSeq3.plain_eq_loop _]
          exact ih (i + 1) (by (clear hc hlt b2 b1 ly lx; omega)) (by (clear hc hlt b2 b1 ly lx; omega)) (by (clear hc b2 b1 hk ly lx; omega)) prog w A R _ ⟨hl, hb, h⟩)⟩
      · rw [if_neg (by simp [hxy])]
        rw [(sq_false x y).mpr hxy, if_neg (by simp), ltS_dec] at h
        wp_walk using wpAny_loadPart' hl, wpAny_loadPart' hb
        rw [n1, n2]
        dsimp only
        refine wpAny_bind (show wpAny _ _ (compareOp .Lt (.str x t) (.str y u)) _ _ _ from P.lt_str ?_)
        exact wpAny_pure h
    · have n2 : ws.toArray[((i : Nat) : Int).toNat]? = none := by simpa using y1
      rw [n2]
      dsimp only
      wp_walk using wpAny_loadPart' hl, wpAny_loadPart' hb
      show R (.ok (.ret (.bool (decide (vs.toArray.size < ws.toArray.size))))) _
      rw [List.size_toArray, List.size_toArray, lx, ly]
      rw [List.getElem?_eq_none_iff] at y2
      rw [show ys.drop i = [] from List.drop_eq_nil_of_le (by (clear b2 b1 hk ly lx; omega)), d1] at h
      rw [show decide (xs.length < ys.length) = false by simp; (clear b2 b1 ly lx; omega)]
      exact h
theorem list_lt {a b : Addr} {vs ws : List Value} {xs ys : List Str} {k1 k2 : Nat} (hx : StrsAre vs xs) (hy : StrsAre ws ys) (lx : vs.length = xs.length) (ly : ws.length = ys.length) : Meets (Builtin.«list.__lt__» ⟨[.ref a, .ref b], []⟩)
    (fun _ R s => s.heap.get? a = some (listO vs k1) ∧ s.heap.get? b = some (listO ws k2) ∧ R (.ok (.ret (.bool (ltL xs ys)))) s) := by
  intro prog w A R s h
  obtain ⟨hp, g, d, tk, os⟩ := s; obtain ⟨hl, hb, h⟩ := h
  have f3 := AutoSeq1.sub_list_list
  wp_walk using wpAny_loadPart' hl, wpAny_loadPart' hb
  exact ⟨plainId_quiet MeetsSeq3.plain_eq_loop _, codeAny_builtin MeetsSeq3.entry_eq_loop (by
    rw [Around.under_plainId MeetsSeq3.plain_eq_loop _]
    exact lt_loop hx hy lx ly _ 0 rfl (Nat.zero_le _) (Nat.zero_le _) prog w A R _ ⟨hl, hb, h⟩)⟩
theorem args_list_lt2 (a b : Value) : argsOk "list.__lt__" ⟨[a, b], []⟩ := by unfold argsOk; kernel_rfl
section
variable {prog : Program} {w : World} {A : Around} {E : Value → Shared → Prop} {s : Shared}
theorem oneLt_rows {a b : Addr} {vs ws : List Value} {xs ys : List Str} {k1 k2 : Nat} {Q : Bool → Shared → Prop} (hu : A.units < cLine) (hx : StrsAre vs xs) (hy : StrsAre ws ys) (lx : vs.length = xs.length) (ly : ws.length = ys.length)
    (ha : s.heap.get? a = some (listO vs k1)) (hb : s.heap.get? b = some (listO ws k2)) (h : Q (ltL xs ys) s) : wpAny (model prog w) A (keyLt' oneType' (.ref a) (.ref b)) Q E s := by
  rw [keyLt'_oneType, oneLt'_eq]
  simp only [if_true]
  refine wpAny_bind (wpAny_cRoomFor hu ?_)
  refine wpAny_bind (wpAny_callSpecialIfBound?_slot ⟨_, ha, rfl⟩ F.slot_list_lt (call_meets F.slot_list_lt ⟨_, ha, rfl⟩ F.entry_list_lt (args_list_lt2 _ _) (list_lt (k1 := k1) (k2 := k2) hx hy lx ly) ⟨ha, hb, ?_⟩))
  exact wpAny_truthy_bool h
end
end

noncomputable section
open PySem PySem.Calls PyProof.Rows PySem.W
theorem insL_perm (x : List Str) : ∀ l, (insL x l).Perm (x :: l)
  | [] => .refl _
  | y :: r => by
    unfold insL
    split
    · exact .refl _
    · exact ((insL_perm x r).cons y).trans (List.Perm.swap x y r)
theorem sortL_perm : ∀ l : List (List Str), (sortL l).Perm l
  | [] => .refl _
  | x :: r => (insL_perm x (sortL r)).trans ((sortL_perm r).cons x)
noncomputable abbrev SrtK (l : List (List Str)) : Prop := l.Pairwise fun a b => rowOrd.kle a b
set_option tactic.hygienic true in
theorem insL_srt (x : List Str) : ∀ {l}, SrtK l → SrtK (insL x l)
  | [], _ => List.pairwise_singleton ..
  | y :: r, h => by
    obtain ⟨h1, h2⟩ := List.pairwise_cons.mp h
    unfold insL
    split
    · rename_i hc
      refine List.pairwise_cons.mpr ⟨fun b hb => ?_, h⟩
      have hxy : rowOrd.klt x y := hc
      rcases List.mem_cons.mp hb with e | hb
      · rw [e]; exact KeyOrd.kle_of_klt hxy
      · exact KeyOrd.kle_trans (KeyOrd.kle_of_klt hxy) (h1 b hb)
    · rename_i hc
      have hyx : rowOrd.kle y x := KeyOrd.kle_of_not_klt (O := rowOrd) hc
      refine List.pairwise_cons.mpr ⟨fun b hb => ?_, insL_srt x h2⟩
      rcases List.mem_cons.mp ((insL_perm x r).mem_iff.mp hb) with e | hb
      · rw [e]; exact hyx
      · exact h1 b hb
theorem sortL_srt : ∀ l : List (List Str), SrtK (sortL l)
  | [] => List.Pairwise.nil
  | x :: r => insL_srt x (sortL_srt r)
theorem sortL_uniq {l m : List (List Str)} (hp : m.Perm l) (hs : SrtK m) : m = sortL l :=
  List.Perm.eq_of_pairwise (le := fun a b => rowOrd.kle a b) (fun a b _ _ h1 h2 => KeyOrd.kle_antisymm (O := rowOrd) h1 h2) hs (sortL_srt l) (hp.trans (sortL_perm l).symm)
/-- a permutation that sorts the rows -/
structure Sorts (l : List (List Str)) (p : Array Nat) : Prop where
  perm : p.toList.Perm (List.range l.length)
  adj : Adj rowOrd (fun i => l.getD (p.getD i 0) []) l.length
theorem map_range_getD (l : List (List Str)) : (List.range l.length).map (fun i => l.getD i []) = l := by
  apply List.ext_getElem?
  intro i
  by_cases h : i < l.length
  · simp [h]
  · simp [h]
theorem Sorts.map {l : List (List Str)} {p : Array Nat} (h : Sorts l p) : p.toList.map (fun i => l.getD i []) = sortL l := by
  have hl : p.size = l.length := by have := h.perm.length_eq; simpa using this
  refine sortL_uniq ?_ ?_
  · have := h.perm.map (fun i => l.getD i [])
    rwa [map_range_getD] at this
  · rw [SrtK, List.pairwise_iff_getElem]
    intro i j hi hj hij
    have hi' : i < p.size := by simpa using hi
    have hj' : j < p.size := by simpa using hj
    have := h.adj.all i j (Nat.le_of_lt hij) (by (clear hi' hij hj hi; omega))
    simpa [Array.getD, hi', hj'] using this
theorem VRs.strs {P : Params} {z : ZM} {ι : Nat → Addr} {n : Nat} : ∀ {xs : List Str} {vs : List Value}, VRs P z ι n vs (xs.map .str) → StrsAre vs xs
  | [], _, h => VRs.nil_el (D := fun vs => StrsAre vs []) h .nil
  | x :: _, _, h => VRs.cons_el (D := fun vs => StrsAre vs (x :: _)) h fun _ _ h1 h2 => h1.str_el (C := fun u => StrsAre (u :: _) _) fun _ => .cons _ _ (VRs.strs h2)
theorem VRs.getD {P : Params} {z : ZM} {ι : Nat → Addr} {n : Nat} {vs : List Value} {l : List (List Str)} (h : VRs P z ι n vs (ofRows l)) {i : Nat} (hi : i < l.length) : VR P z ι n (vs.getD i .none) (.list ((l.getD i []).map .str)) := by
  obtain ⟨v, h1, h2⟩ := h.get (i := i) (a := .list ((l.getD i []).map .str)) (by simp [ofRows, hi])
  rw [List.getD_eq_getElem?_getD, h1]; exact h2
theorem VRs.maps {P : Params} {z : ZM} {ι : Nat → Addr} {n : Nat} {vs : List Value} {l : List (List Str)} (h : VRs P z ι n vs (ofRows l)) : ∀ {q : List Nat}, (∀ i ∈ q, i < l.length) → VRs P z ι n (q.map fun i => vs.getD i .none) (ofRows (q.map fun i => l.getD i []))
  | [], _ => .nil
  | i :: q, hq => .cons (h.getD (hq i List.mem_cons_self)) (VRs.maps h fun j hj => hq j (List.mem_cons_of_mem _ hj))
section
variable {prog : Program} {w : World} {A : Around} {E : Value → Shared → Prop} {s : Shared}
theorem list_sort_rows {a : Addr} {vs : List Value} {l : List (List Str)} {n : Nat} {P : Fin → Shared → Prop} (hu : A.units < cLine) (ho : s.heap.get? a = some (listO vs n)) (hlen : vs.length = l.length) (h64 : l.length < 64)
    (hr : ∀ i, i < l.length → ∃ b ws k, vs.getD i .none = .ref b ∧ b ≠ a ∧ s.heap.get? b = some (listO ws k) ∧ StrsAre ws (l.getD i []) ∧ ws.length = (l.getD i []).length)
    (h : ∀ p : Array Nat, Sorts l p → P (.done (.ret .none)) { s with heap := sortedHeap s.heap a vs (p.map fun i => vs.getD i .none) }) :
    wpAny (model prog w) A (Builtin.«list.sort» ⟨[.ref a], []⟩) P E s := by
  rw [list_sort_plain]
  have ha : a < s.heap.objs.size := Heap.lt_size ho
  have hfit : vs.length ≤ sizeLine := by rw [sizeLine_eq]; (clear ha hu; omega)
  refine wpAny_bind (listItems_at ho rfl ?_)
  refine wpAny_bind (listUpdate_at ho rfl ?_ (by rw [List.size_toArray]; exact hfit) (Nat.zero_le _))
  obtain ⟨e1, ho1⟩ : ∃ e1, (s.heap.update a (Obj.mapSeq fun _ => #[])).get? a = some (seqObj "list" #[] e1) := ⟨_, get?_update_seq ho (fun _ => #[])⟩
  refine wpAny_bind (seqEpoch_at ho1 rfl ?_)
  refine wpAny_bind (wpAny_newTuple ?_ hfit)
  refine wpAny_bind (wpAny_newList ?_ (Nat.zero_le _))
  refine wpAny_holding ?_
  have ho6 : (((s.heap.update a (Obj.mapSeq fun _ => #[])).push (seqObj "tuple" vs.toArray 0)).push (seqObj "list" #[] 0)).get? a = some (seqObj "list" #[] e1) :=
    Heap.get?_push_of_some _ (Heap.get?_push_of_some _ ho1)
  have hkeep : ∀ b o, b ≠ a → s.heap.get? b = some o → (((s.heap.update a (Obj.mapSeq fun _ => #[])).push (seqObj "tuple" vs.toArray 0)).push (seqObj "list" #[] 0)).get? b = some o := fun b o hb e =>
    Heap.get?_push_of_some _ (Heap.get?_push_of_some _ (by rw [Heap.get?_update_ne _ _ _ _ hb]; exact e))
  show wpAny (model prog w) A _ P E { s with heap := ((s.heap.update a (Obj.mapSeq fun _ => #[])).push (seqObj "tuple" vs.toArray 0)).push (seqObj "list" #[] 0) }
  dsimp only
  have hsz : vs.toArray.size = vs.length := by simp
  by_cases h2 : vs.toArray.size < 2
  · rw [if_pos h2, if_pos h2]
    refine wpAny_bind (wpAny_pure ?_)
    rw [StateT.run_pure]
    refine wpAny_bind (wpAny_pure ?_)
    dsimp only
    refine wpAny_bind (seqEpoch_at ho6 rfl ?_)
    have hs : Sorts l (List.toArray (List.range l.length)) := ⟨.refl _, fun i i1 i2 => by (clear hfit ha h64 hu; omega)⟩
    have hout : (arrOf (SortSt.mk' general' (vs.toArray.zip vs.toArray) #[] 7 none)).map (·.2) = (List.toArray (List.range l.length)).map fun i => vs.getD i .none := by
      show (vs.toArray.zip vs.toArray).map (·.2) = _
      apply Array.toList_inj.mp
      rw [← hlen]
      apply List.ext_getElem?
      intro i
      by_cases hi : i < vs.length
      · simp [hi]
      · simp [hi]
    rw [hout]
    refine wpAny_bind (listUpdate_at ho6 rfl ?_ (Nat.zero_le _) (by rw [Array.size_map, List.size_toArray, List.length_range, sizeLine_eq]; (clear h2 hsz hfit ha hlen hu; omega)))
    simp only [bne_self_eq_false, Bool.false_eq_true, if_false]
    exact wpAny_pure (h _ hs)
  · rw [if_neg h2, if_neg h2]
    have hv2 : 2 ≤ vs.length := by (clear hfit ha h64 hlen hu; omega)
    refine wpAny_bind (kas_kind (T := .type "list") hv2 (fun v hv => ?_) (by decide +kernel) (by decide +kernel) ?_)
    · obtain ⟨i, hi, rfl⟩ := List.mem_iff_getElem.mp hv
      obtain ⟨b, ws, k, q1, q2, q3, _⟩ := hr i (by (clear hv2 h2 hsz hfit ha h64 hu; omega))
      have : vs[i] = .ref b := by rw [← q1]; simp [hi]
      rw [this]
      exact (Looks.ld (hkeep b _ q2 q3)).andThen .now
    have est : SortSt.mk' oneType' (vs.toArray.zip vs.toArray) #[] 7 none = kas_st oneType' (pairsOf vs) (List.toArray (List.range vs.length)) := by
      have e := kas_range (pairsOf vs)
      rw [pairsOf_size] at e
      show SortSt.mk' oneType' (pairsOf vs) #[] 7 none = SortSt.mk' oneType' ((List.toArray (List.range vs.length)).map (kas_item (pairsOf vs))) #[] 7 none
      rw [e]
    have tree : (kas_sort vs.length).kasWp (kas_cmp prog w A oneType' (pairsOf vs)) (fun p s' => Ok vs.length p ∧ Adj rowOrd (FK (O := rowOrd) (fun i => l.getD i []) p) vs.length ∧ s' = { s with heap := ((s.heap.update a (Obj.mapSeq fun _ => #[])).push (seqObj "tuple" vs.toArray 0)).push (seqObj "list" #[] 0) })
        { s with heap := ((s.heap.update a (Obj.mapSeq fun _ => #[])).push (seqObj "tuple" vs.toArray 0)).push (seqObj "list" #[] 0) } := by
      refine KV.run (fun i j C hi hj hC => ?_) (fun p hp => ⟨hp.1, hp.2, rfl⟩) (kv_sort (O := rowOrd) (key := fun i => l.getD i []) (n := vs.length) (by (clear hv2 hfit ha h64 hlen hu; omega)))
      unfold kas_cmp
      rw [kas_item_eq, kas_item_eq]
      obtain ⟨b, ws, k, q1, q2, q3, q4, q5⟩ := hr i (by (clear hj hv2 h2 hsz hfit ha h64 hu; omega))
      obtain ⟨c, us, m, r1, r2, r3, r4, r5⟩ := hr j (by (clear q5 q2 hi hv2 h2 hsz hfit ha h64 hu; omega))
      dsimp only
      rw [q1, r1]
      exact oneLt_rows hu q4 r4 q5 r5 (hkeep b _ q2 q3) (hkeep c _ r2 r3) hC
    have run := kas_runs (E := E) (Q := fun _ st' s' => ∃ p : Array Nat, p.size = vs.length ∧ arrOf st' = p.map (kas_item (pairsOf vs)) ∧ failedOf st' = none ∧ Ok vs.length p ∧ Adj rowOrd (FK (O := rowOrd) (fun i => l.getD i []) p) vs.length ∧ s' = { s with heap := ((s.heap.update a (Obj.mapSeq fun _ => #[])).push (seqObj "tuple" vs.toArray 0)).push (seqObj "list" #[] 0) })
      hv2 (by (clear hv2 h2 hsz hfit ha hu; omega)) (fun p' st' s' a1 a2 a3 a4 => ⟨p', a1, a2, a3, a4⟩) tree
    rw [← est] at run
    refine wpAny_bind (wpAny_mono run ?_ fun _ _ e => e)
    rintro ⟨⟨⟩, st'⟩ s' ⟨p, hp, har, hf, ok, adj, rfl⟩
    dsimp only
    have hout : (arrOf st').map (·.2) = p.map fun i => vs.getD i .none := by
      rw [har, Array.map_map]
      apply Array.map_congr_left
      intro i _
      show (kas_item (pairsOf vs) i).2 = _
      rw [kas_item_eq]
    rw [hout]
    refine wpAny_bind (seqEpoch_at ho6 rfl ?_)
    refine wpAny_bind (listUpdate_at ho6 rfl ?_ (Nat.zero_le _) (by rw [Array.size_map, hp, sizeLine_eq]; (clear hp hv2 h2 hsz hfit ha hu; omega)))
    rw [hf]
    simp only [bne_self_eq_false, Bool.false_eq_true, if_false]
    refine wpAny_pure (h p ⟨?_, ?_⟩)
    · have := Array.perm_iff_toList_perm.mp ok.perm
      rw [← hlen]; simpa using this
    · rw [← hlen]; exact adj
end
end

noncomputable section
open PySem PySem.Calls PyProof.Rows
section
variable {w : World} {z : ZM} {ι : Nat → Addr} {n : Nat}
inductive KVR (P : Params) (z : ZM) (ι : Nat → Addr) (n : Nat) : List (Str × Value) → List (Str × AV) → Prop where
  | nil : KVR P z ι n [] []
  | cons {x : Str} {v : Value} {a : AV} {r : List (Str × Value)} {r' : List (Str × AV)} : VR P z ι n v a → KVR P z ι n r r' → KVR P z ι n ((x, v) :: r) ((x, a) :: r')
theorem KVR.keys {P : Params} {kvs : List (Str × Value)} {kv : List (Str × AV)} (h : KVR P z ι n kvs kv) : kvs.map (·.1) = kv.map (·.1) := by
  induction h with
  | nil => rfl
  | cons _ _ ih => exact congrArg (List.cons _) ih
theorem KVR.find {P : Params} {kvs : List (Str × Value)} {kv : List (Str × AV)} (k : Str) (h : KVR P z ι n kvs kv) : (∀ a, look k kv = some a → ∃ v, valueAt kvs k = some v ∧ VR P z ι n v a) ∧ (look k kv = none → valueAt kvs k = none) := by
  induction h with
  | nil => exact ⟨fun a e => (nomatch e), fun _ => rfl⟩
  | @cons x v a r r' h _ ih =>
    unfold look valueAt
    rw [List.find?_cons]
    cases q : sq x k with
    | true =>
      rw [show decide (x = k) = true from decide_eq_true (sq_eq q)]
      exact ⟨fun b e => ⟨_, rfl, Option.some.inj e ▸ h⟩, fun e => nomatch e⟩
    | false =>
      rw [show decide (x = k) = false from decide_eq_false ((sq_false _ _).mp q)]
      exact ih
theorem KVR.append {P : Params} {kvs ls : List (Str × Value)} {kv lv : List (Str × AV)} (h : KVR P z ι n kvs kv) (h2 : KVR P z ι n ls lv) : KVR P z ι n (kvs ++ ls) (kv ++ lv) := by
  induction h with
  | nil => exact h2
  | cons a _ ih => exact .cons a ih
theorem KVR.length {P : Params} {kvs : List (Str × Value)} {kv : List (Str × AV)} (h : KVR P z ι n kvs kv) : kvs.length = kv.length := by
  rw [← List.length_map (f := Prod.fst), h.keys, List.length_map]
theorem DRs.pairs {es : List DictEntry} {kv : List (Str × AV)} (r : DRs w.params z ι n es kv) : ∃ kvs, Pairs (strKind PG w) es kvs ∧ (∀ e ∈ es, ∃ k, (strKind PG w).is k e.key = true ∧ e.hash = (strKind PG w).hash k) ∧ KVR w.params z ι n kvs kv :=
  DRs.ind (M := fun es kv => ∃ kvs, Pairs (strKind PG w) es kvs ∧ (∀ e ∈ es, ∃ k, (strKind PG w).is k e.key = true ∧ e.hash = (strKind PG w).hash k) ∧ KVR w.params z ι n kvs kv) ⟨[], .nil, fun _ h => (nomatch h), .nil⟩
    (fun {x t v _ _ _} h _ ⟨kvs, h1, h2, h3⟩ => ⟨(x, v) :: kvs, .cons (strKind_is PG w x t) rfl h1, fun e he => by
      rcases List.mem_cons.mp he with q | q
      · subst q; exact ⟨x, strKind_is PG w x t, rfl⟩
      · exact h2 e q, .cons h h3⟩) r
theorem DRs.ofPairs {es : List DictEntry} {kvs : List (Str × Value)} (hp : Pairs (strKind PG w) es kvs) : ∀ {kv : List (Str × AV)}, (∀ e ∈ es, ∃ k, (strKind PG w).is k e.key = true ∧ e.hash = (strKind PG w).hash k) → KVR w.params z ι n kvs kv → DRs w.params z ι n es kv := by
  induction hp with
  | nil => intro kv _ h; cases h; exact .nil
  | @cons e ekv es kvs hk hv hp ih =>
    intro kv hh h
    obtain ⟨k, q1, q2⟩ := hh e (List.mem_cons_self ..)
    obtain ⟨t, ht⟩ := Value.isStrOf_shape hk
    have key : e = ⟨PyData.keyHash w.params ekv.1, .str ekv.1 t, ekv.2⟩ := by
      obtain ⟨eh, ek, ev⟩ := e
      rw [← (strKind PG w).inj _ _ _ hk q1] at q2
      rw [show ek = _ from ht, show ev = _ from hv, show eh = _ from q2]; rfl
    rw [key]
    cases h with
    | cons h hs => exact .cons h (ih (fun e he => hh e (List.mem_cons_of_mem _ he)) hs)
theorem dictOf_of {h : Heap} {a : Addr} {es : List DictEntry} {k : Nat} {kv : List (Str × AV)} (hg : h.get? a = some (dictO es k)) (hr : DRs w.params z ι n es kv) (hd : (kv.map (·.1)).Nodup) :
    ∃ kvs, h.DictOf (strKind PG w) a kvs ∧ KVR w.params z ι n kvs kv := by
  obtain ⟨kvs, h1, h2, h3⟩ := hr.pairs
  exact ⟨kvs, ⟨_, es.toArray, k, hg, ⟨rfl, rfl, rfl⟩, rfl, fun e he => h2 e (by simpa using he), by simpa using h1, by rw [h3.keys]; exact hd⟩, h3⟩
theorem of_dictOf {h : Heap} {a : Addr} {kvs : List (Str × Value)} {kv : List (Str × AV)} (hd : h.DictOf (strKind PG w) a kvs) (hr : KVR w.params z ι n kvs kv) :
    ∃ es k, h.get? a = some (dictO es k) ∧ DRs w.params z ι n es kv ∧ (kv.map (·.1)).Nodup := by
  obtain ⟨o, es, ep, hg, ⟨e1, e2, e3⟩, hdat, hk, hp, hn⟩ := hd
  refine ⟨es.toList, ep, ?_, DRs.ofPairs hp (fun e he => hk e (by simpa using he)) hr, by rw [← hr.keys]; exact hn⟩
  rw [hg]
  obtain ⟨c, d, dt, sl⟩ := o
  simp only at e1 e2 e3 hdat
  subst e1 e2 e3 hdat
  simp
end
noncomputable def MT.txt : MT → String
  | .str => "str" | .list => "list" | .dict => "dict"
structure MF (T : String) (name : Str) (id : String) : Prop where
  plain : PlainAttrs T
  slot : Slot T name id
  type : typeOf (.builtin id) = pure (.type "method_descriptor")
theorem methName_ok {n : Str} {m : MN} (e : methName n = some m) : n = Str.ofString m.txt := by
  have := List.find?_some e
  exact sq_eq this
/-- a method's call -/
noncomputable def ME (T : MT) (o : AV) (mn : MN) (vs : List AV) (σ : Sto) (z : AV) (σ' : Sto) : Prop := ∃ id, MF T.txt mn.txt id ∧ ∀ (k : K σ) {A : Around} {u : Value} {us : List Value}, Room k.g 1 A → k.V u o → k.Vs us vs → Gives k A (call (.builtin id) (u :: us)) z σ'
noncomputable def TY (σ : Sto) (v : AV) (T : MT) : Prop := ∀ (k : K σ) {u : Value}, k.V u v → k.s.TypeIs u T.txt ∧ ∀ b, u = .ref b → ∃ ob, k.s.heap.get? b = some ob ∧ ob.dict = none
section
theorem mapSeq_at {h : Heap} {a : Addr} {vs : List Value} {k : Nat} {f : Array Value → Array Value} {ws : List Value} (hg : h.get? a = some (listO vs k)) (hf : f vs.toArray = ws.toArray) :
    ∃ k', (h.update a (Obj.mapSeq f)).get? a = some (listO ws k') ∧ Heap.ExtBut a h (h.update a (Obj.mapSeq f)) := by
  refine ⟨if ws.toArray.size == vs.toArray.size then k else k + 1, ?_, (Heap.SameBut.update ..).extBut⟩
  have := Heap.get?_update_self (Obj.mapSeq f) hg rfl
  rw [this]
  show some (Obj.mapSeq f (listO vs k)) = _
  unfold Obj.mapSeq
  simp only [hf]
variable {P : Params} {z : ZM} {ι : Nat → Addr} {n : Nat} {vs : List Value} {xs : List AV}
theorem VRs.dropLast (r : VRs P z ι n vs xs) : VRs P z ι n vs.dropLast xs.dropLast :=
  VRs.ind (M := fun vs xs => VRs P z ι n vs.dropLast xs.dropLast) .nil (fun h hs i => by
    cases hs with
    | nil => exact .nil
    | cons h2 hs => exact .cons h i) r
theorem VRs.take (r : VRs P z ι n vs xs) : ∀ i : Nat, VRs P z ι n (vs.take i) (xs.take i) :=
  VRs.ind (M := fun vs xs => ∀ i : Nat, VRs P z ι n (vs.take i) (xs.take i)) (fun i => by rw [List.take_nil, List.take_nil]; exact .nil) (fun h _ ih i => by
    cases i with
    | zero => exact .nil
    | succ i => exact .cons h (ih i)) r
theorem VRs.drop (r : VRs P z ι n vs xs) : ∀ i : Nat, VRs P z ι n (vs.drop i) (xs.drop i) :=
  VRs.ind (M := fun vs xs => ∀ i : Nat, VRs P z ι n (vs.drop i) (xs.drop i)) (fun i => by rw [List.drop_nil, List.drop_nil]; exact .nil) (fun h hs ih i => by
    cases i with
    | zero => exact .cons h hs
    | succ i => exact ih i) r
end
section
variable {n : Nat} {E : AE} {σ σ1 σ2 σ3 σ' : Sto} {x y : Str} {i j : Int} {xs : List AV} {u v w z : AV} {m : Nat} {T : MT} {mn : MN}
theorem ty_str : TY σ (.str x) .str := fun k _ r => r.str_el (C := fun u => k.s.TypeIs u "str" ∧ ∀ b, u = .ref b → ∃ ob, k.s.heap.get? b = some ob ∧ ob.dict = none) fun _ => ⟨typeIs_str _ _ _, fun _ q => nomatch q⟩
theorem ty_list (h : σ[m]? = some (.list xs)) : TY σ (.own m) .list := fun k _ r => r.own_el (C := fun u => k.s.TypeIs u "list" ∧ ∀ b, u = .ref b → ∃ ob, k.s.heap.get? b = some ob ∧ ob.dict = none) fun _ =>
  let ⟨_, h1, _, _, e, _⟩ := k.S.own _ _ h; ⟨⟨_, h1, by rw [e]⟩, fun _ q => by cases q; exact ⟨_, h1, by rw [e]⟩⟩
theorem ty_odict {kv : List (Str × AV)} (h : σ[m]? = some (.dict kv)) : TY σ (.own m) .dict := fun k _ r => r.own_el (C := fun u => k.s.TypeIs u "dict" ∧ ∀ b, u = .ref b → ∃ ob, k.s.heap.get? b = some ob ∧ ob.dict = none) fun _ =>
  let ⟨_, h1, _, _, e, _⟩ := k.S.own _ _ h; ⟨⟨_, h1, by rw [e]⟩, fun _ q => by cases q; exact ⟨_, h1, by rw [e]⟩⟩
theorem ty_dict {kv : List (Str × AV)} : TY σ (.dict kv) .dict := fun k _ r => r.dict_el (C := fun u => k.s.TypeIs u "dict" ∧ ∀ b, u = .ref b → ∃ ob, k.s.heap.get? b = some ob ∧ ob.dict = none) fun _ _ _ _ _ q _ =>
  ⟨⟨_, k.S.fz _ _ q, rfl⟩, fun _ q2 => by cases q2; exact ⟨_, k.S.fz _ _ q, rfl⟩⟩
/-- texts -/
theorem me_s1 {id : String} (hm : MF "str" mn.txt id) (h : ∀ (k : K σ) {A : Around} {t t' : Tok}, Gives k A (call (.builtin id) [.str x t, .str y t']) z σ) : ME .str (.str x) mn [.str y] σ z σ := ⟨id, hm, fun k _ _ _ _ r rs Q X C =>
  r.str_el (C := fun a => wpAny _ _ (call (.builtin id) (a :: _)) Q X _) fun _ => rs.el1 (D := fun us => wpAny _ _ (call (.builtin id) (_ :: us)) Q X _) fun a q => q.str_el (C := fun a => wpAny _ _ (call (.builtin id) [_, a]) Q X _) fun _ => h k C⟩
theorem m_rfind : ME .str (.str x) .rfind [.str y] σ (.int (Txt.rfind x y)) σ := me_s1 ⟨F.plainAttrs_str, F.slot_str_rfind, F.type_str_rfind⟩ fun k _ _ _ _ _ C => SC.rfind (C (k.tok _) _ (.int _ _))
theorem m_startswith : ME .str (.str x) .startswith [.str y] σ (.bool (Txt.startswith x y)) σ := me_s1 ⟨F.plainAttrs_str, F.slot_str_startswith, F.type_str_startswith⟩ fun k _ _ _ _ _ C => SC.startswith (C k.nx _ (.bool _))
theorem m_endswith : ME .str (.str x) .endswith [.str y] σ (.bool (Txt.endswith x y)) σ := me_s1 ⟨F.plainAttrs_str, F.slot_str_endswith, F.type_str_endswith⟩ fun k _ _ _ _ _ C => SC.endswith (C k.nx _ (.bool _))
theorem m_rstrip (h : x.length ≤ cap) : ME .str (.str x) .rstrip [.str y] σ (.str (Txt.rstripChars x y)) σ := me_s1 ⟨F.plainAttrs_str, F.slot_str_rstrip, F.type_str_rstrip⟩ fun k _ _ _ _ _ C => SC.rstripChars (fun _ tk => C (k.tok tk) _ (.str _ _)) (cap_fits h)
theorem m_lstrip (h : x.length ≤ cap) : ME .str (.str x) .lstrip [.str y] σ (.str (Txt.lstripChars x y)) σ := me_s1 ⟨F.plainAttrs_str, F.slot_str_lstrip, F.type_str_lstrip⟩ fun k _ _ _ _ _ C => SC.lstripChars (fun _ tk => C (k.tok tk) _ (.str _ _)) (cap_fits h)
theorem VRs_strs {k : K σ} : ∀ l : List (Str × Tok), k.Vs (l.map fun p => Value.str p.1 p.2) (l.map fun p => AV.str p.1)
  | [] => .nil
  | p :: l => .cons (.str p.1 p.2) (VRs_strs l)
theorem strs_el {k : K σ} : ∀ {l : List Str} {vs : List Value}, k.Vs vs (l.map .str) → ∃ ps : List (Str × Tok), vs = ps.map (fun p => Value.str p.1 p.2) ∧ ps.map (·.1) = l
  | [], vs, r => VRs.nil_el (D := fun vs => ∃ ps : List (Str × Tok), vs = ps.map (fun p => Value.str p.1 p.2) ∧ ps.map (·.1) = []) r ⟨[], rfl, rfl⟩
  | x :: l, vs, r => VRs.cons_el (D := fun vs => ∃ ps : List (Str × Tok), vs = ps.map (fun p => Value.str p.1 p.2) ∧ ps.map (·.1) = x :: l) r fun u us h hs =>
    h.str_el (C := fun u => ∃ ps : List (Str × Tok), u :: us = ps.map (fun p => Value.str p.1 p.2) ∧ ps.map (·.1) = x :: l) fun t => let ⟨ps, e1, e2⟩ := strs_el hs; ⟨(x, t) :: ps, congrArg _ e1, congrArg _ e2⟩
theorem m_join {l : List Str} (h1 : lists σ v = some (l.map .str)) (h3 : JoinOk x l = true) : ME .str (.str x) .join [v] σ (.str (Txt.join x l)) σ := ⟨_, ⟨F.plainAttrs_str, F.slot_str_join, F.type_str_join⟩, fun k A _ _ _ r rs Q X C =>
  r.str_el (C := fun a => wpAny (MD k.w) A (call (.builtin "str.join") (a :: _)) Q X k.s) fun t => rs.el1 (D := fun us => wpAny (MD k.w) A (call (.builtin "str.join") (.str x t :: us)) Q X k.s) fun a q =>
    lists_el (C := fun a => wpAny (MD k.w) A (call (.builtin "str.join") [.str x t, a]) Q X k.s) q h1 fun b vs _ g hs => by
      obtain ⟨ps, rfl, e2⟩ := strs_el hs
      exact SC.join (l := ps) (texts := l) ⟨_, g, rfl, _, rfl⟩ (by rw [e2]) h3 fun _ tk => C (k.tok tk) _ (.str _ _)⟩
theorem m_replace0 (h : (Builtin.Str.occurrences x y 0 x.length (x.length + 1)).isEmpty = true) {b : Str} : ME .str (.str x) .replace [.str y, .str b] σ (.str x) σ := ⟨_, ⟨F.plainAttrs_str, F.slot_str_replace, F.type_str_replace⟩, fun k A _ _ _ r rs Q X C =>
  r.str_el (C := fun a => wpAny (MD k.w) A (call (.builtin "str.replace") (a :: _)) Q X k.s) fun t => rs.el2 (D := fun us => wpAny (MD k.w) A (call (.builtin "str.replace") (.str x t :: us)) Q X k.s) fun _ _ q1 q2 =>
    q1.str_el (C := fun a => wpAny (MD k.w) A (call (.builtin "str.replace") [_, a, _]) Q X k.s) fun _ => q2.str_el (C := fun a => wpAny (MD k.w) A (call (.builtin "str.replace") [_, _, a]) Q X k.s) fun _ =>
      call_gives F.slot_str_replace (typeIs_str _ _ _) F.entry_str_replace (F.args_str_replace_3 _ _ _) (gives_str_replace x _ _ t _ _ fun q => by rw [h] at q; cases q) (by rw [h]; exact C k.nx _ (.str _ _))⟩
theorem find4_gives (x y : Str) (i j : Int) (t u v v2 : Tok) : PySem.Gives (Builtin.«str.find» ⟨[.str x t, .str y u, .int i v, .int j v2], []⟩) (.int (match Builtin.Str.occurrences x y (fromIndex x.length i) (min (fromIndex x.length j) x.length) 1 with | k :: _ => (k : Int) | [] => -1)) := by
  show PySem.Gives (match Builtin.Str.occurrences x y (fromIndex x.length i) (min (fromIndex x.length j) x.length) 1 with | k :: _ => retInt k | [] => (do rule "str.find.not-found"; retInt (-1))) _
  cases Builtin.Str.occurrences x y (fromIndex x.length i) (min (fromIndex x.length j) x.length) 1 with
  | nil => exact .rule (.of_eq rfl)
  | cons k _ => exact .of_eq rfl
noncomputable def findV (x y : Str) (i j : Int) : Int := match Builtin.Str.occurrences x y (fromIndex x.length i) (min (fromIndex x.length j) x.length) 1 with | k :: _ => (k : Int) | [] => -1
theorem m_find : ME .str (.str x) .find [.str y, .int i, .int j] σ (.int (findV x y i j)) σ := ⟨_, ⟨F.plainAttrs_str, F.slot_str_find, F.type_str_find⟩, fun k A _ _ _ r rs Q X C =>
  r.str_el (C := fun a => wpAny (MD k.w) A (call (.builtin "str.find") (a :: _)) Q X k.s) fun t => rs.el3 (D := fun us => wpAny (MD k.w) A (call (.builtin "str.find") (.str x t :: us)) Q X k.s) fun _ _ _ q1 q2 q3 =>
    q1.str_el (C := fun a => wpAny (MD k.w) A (call (.builtin "str.find") [_, a, _, _]) Q X k.s) fun _ => q2.int_el (C := fun a => wpAny (MD k.w) A (call (.builtin "str.find") [_, _, a, _]) Q X k.s) fun _ =>
      q3.int_el (C := fun a => wpAny (MD k.w) A (call (.builtin "str.find") [_, _, _, a]) Q X k.s) fun _ =>
        call_gives F.slot_str_find (typeIs_str _ _ _) F.entry_str_find (F.args_str_find_4 _ _ _ _) (find4_gives _ _ _ _ _ _ _ _) (C (k.tok _) _ (.int _ _))⟩
theorem m_split (h : y.length ≠ 0 ∧ x.length ≤ cap) : ME .str (.str x) .split [.str y] σ (.list ((Txt.split x y).map .str)) σ := me_s1 ⟨F.plainAttrs_str, F.slot_str_split, F.type_str_split⟩ fun k A t u Q X C => by
  have hy' : (y.length == 0) = false := beq_eq_false_iff_ne.mpr h.1
  have fin : ∀ (l : List (Str × Tok)) (tk : Nat), l.map (·.1) = Txt.split x y → Q (.ref k.s.heap.objs.size) { k.s with heap := k.s.heap.push (listO (l.map fun p => Value.str p.1 p.2) 0), toks := tk } := fun l tk e =>
    C (k.newL rfl (tk := tk)) _ (.list (zput_self ..) (k.newL_le (by have := VRs_strs (k := k) l; rw [← e, List.map_map]; exact this)))
  cases h1 : (decide (x.length < y.length) || decide (Builtin.Str.strKind x < Builtin.Str.strKind y))
  · cases hf : (Builtin.Str.occurrences x y 0 x.length (x.length + 1)).isEmpty
    · have hsz : (Builtin.Str.partsBetween x (Builtin.Str.occurrences x y 0 x.length (x.length + 1)) y.length).length ≤ sizeLine := by
        have := StrLaws.occ_length_le x y 0 x.length (x.length + 1)
        unfold Builtin.Str.partsBetween
        rw [List.length_map, List.length_zip]
        simp only [List.length_cons, List.length_map, List.length_append, List.length_nil]
        have hc : cap = 100000 := rfl
        have hs : sizeLine = 16777216 := by decide
        have := h.2
        (clear this; omega)
      refine call_meets F.slot_str_split (typeIs_str _ _ _) F.entry_str_split (F.args_str_split_2 _ _) (meets_str_split_sep x y t u h1 hy' hf (cap_fits h.2) hsz) ?_
      rw [strsFrom_eq]
      exact fin (numbered k.s.toks _) _ ((numbered_texts ..).trans (by unfold Txt.split; rw [if_neg (ne_true_of_eq_false h1), if_neg (ne_true_of_eq_false hf)]))
    · exact call_meets F.slot_str_split (typeIs_str _ _ _) F.entry_str_split (F.args_str_split_2 _ _) (meets_str_split_not_found x y t u h1 hy' hf) (fin [(x, t)] _ (by unfold Txt.split; rw [if_neg (ne_true_of_eq_false h1), if_pos hf]; rfl))
  · exact call_meets F.slot_str_split (typeIs_str _ _ _) F.entry_str_split (F.args_str_split_2 _ _) (meets_str_split_cannot_occur x y t u h1) (fin [(x, t)] _ (by unfold Txt.split; rw [if_pos h1]; rfl))
/-- lists of the store -/
theorem own_list {k : K σ} {u : Value} {D : Value → Prop} (h : σ[m]? = some (.list xs)) (r : k.V u (.own m)) (H : ∀ vs q, k.s.heap.get? (k.ι m) = some (listO vs q) → k.Vs vs xs → D (.ref (k.ι m))) : D u :=
  r.own_el fun _ => let ⟨_, g, vs, q, e, hs⟩ := k.S.own _ _ h; H vs q (e ▸ g) hs
/-- a list of the store takes new items -/
noncomputable abbrev K.setL (k : K σ) {ws : List Value} {ys : List AV} {q : Nat} {h' : Heap} (h : σ[m]? = some (.list xs)) (g : h'.get? (k.ι m) = some (listO ws q) ∧ Heap.ExtBut (k.ι m) k.s.heap h') (hs : k.Vs ws ys) {mu : List Addr} : Nx k mu (σ.set m (.list ys)) := k.upd (b := .list ys) h rfl rfl g.2 g.1 ⟨_, _, rfl, hs⟩
theorem m_append (h : σ[m]? = some (.list xs)) (hc : xs.length < cap) : ME .list (.own m) .append [v] σ .none (σ.set m (.list (xs ++ [v]))) := ⟨_, ⟨F.plainAttrs_list, F.slot_list_append, F.type_list_append⟩, fun k A _ us _ r rs Q X C =>
  own_list (D := fun u => wpAny (MD k.w) A (call (.builtin "list.append") (u :: us)) Q X k.s) h r fun ws q g hs => rs.el1 (D := fun us => wpAny (MD k.w) A (call (.builtin "list.append") (_ :: us)) Q X k.s) fun a r1 =>
    let ⟨_, q⟩ := mapSeq_at (f := fun x => x.push a) (ws := ws ++ [a]) g (by simp)
    call_meets F.slot_list_append ⟨_, g, rfl⟩ F.entry_list_append (F.args_list_append_2 _ _) (AutoListH.list_append_list_val_0 (k.ι m) ws.toArray _ a (by rw [List.size_toArray, hs.length]; exact cap_fits (Nat.le_of_lt hc))) ⟨g, C (k.setL h q (hs.append (.one r1))) _ .none⟩⟩
theorem m_insert (h : σ[m]? = some (.list xs)) (hc : 0 ≤ i ∧ i ≤ xs.length ∧ xs.length < cap) : ME .list (.own m) .insert [.int i, v] σ .none (σ.set m (.list (insAt xs i.toNat v))) := ⟨_, ⟨F.plainAttrs_list, F.slot_list_insert, F.type_list_insert⟩, fun k A _ us _ r rs Q X C =>
  own_list (D := fun u => wpAny (MD k.w) A (call (.builtin "list.insert") (u :: us)) Q X k.s) h r fun ws q g hs => rs.el2 (D := fun us => wpAny (MD k.w) A (call (.builtin "list.insert") (_ :: us)) Q X k.s) fun b a r0 r1 =>
    r0.int_el (C := fun b => wpAny (MD k.w) A (call (.builtin "list.insert") [_, b, _]) Q X k.s) fun t => by
      have hcap : cap = 100000 := rfl
      have hfit : ¬ (!Builtin.List.listFitsIndex i) = true := by
        unfold Builtin.List.listFitsIndex
        simp
        omega
      have hlen := hs.length
      obtain ⟨_, q⟩ := mapSeq_at (f := fun xs => have k := if i < 0 then Int.toNat (i + ↑(Array.size xs)) else min (Int.toNat i) (Array.size xs); Array.push (Array.extract xs 0 k) a ++ Array.extract xs k) (ws := insAt ws i.toNat a) g (by
        have h0 : ¬ i < 0 := by (clear hlen hcap; omega)
        have hm : min i.toNat ws.length = i.toNat := by (clear h0 hcap; omega)
        simp only [h0, if_false, List.size_toArray, hm]
        unfold insAt
        simp
        rw [List.take_of_length_le (by simp)])
      exact call_meets F.slot_list_insert ⟨_, g, rfl⟩ F.entry_list_insert (F.args_list_insert_3 _ _ _) (AutoListH.list_insert_list_int_val_1 (k.ι m) ws.toArray _ i t a hfit (by rw [List.size_toArray, hs.length]; exact cap_fits (by (clear hlen hcap; omega)))) ⟨g, C (k.setL h q ((hs.take _).append (.cons r1 (hs.drop _)))) _ .none⟩⟩
theorem m_pop (h : σ[m]? = some (.list (xs ++ [v]))) (hc : (xs ++ [v]).length ≤ cap) : ME .list (.own m) .pop [] σ v (σ.set m (.list xs)) := ⟨_, ⟨F.plainAttrs_list, F.slot_list_pop, F.type_list_pop⟩, fun k A _ us _ r rs Q X C =>
  own_list (D := fun u => wpAny (MD k.w) A (call (.builtin "list.pop") (u :: us)) Q X k.s) h r fun ws q g hs => rs.nil_el (D := fun us => wpAny (MD k.w) A (call (.builtin "list.pop") (_ :: us)) Q X k.s) (by
    have hlen := hs.length
    obtain ⟨y, h1, h2⟩ := hs.get (i := xs.length) (a := v) (by simp)
    have hl : ws.length - 1 = xs.length := by rw [hlen, List.length_append]; rfl
    obtain ⟨_, q⟩ := mapSeq_at (f := fun xs => xs.eraseIdxIfInBounds (ws.toArray.size - 1)) (ws := ws.dropLast) g (by rw [List.size_toArray]; simp)
    have hd := hs.dropLast
    rw [List.dropLast_concat] at hd
    exact call_meets F.slot_list_pop ⟨_, g, rfl⟩ F.entry_list_pop (F.args_list_pop_1 _) (MeetsSeq.list_pop_last (k.ι m) ws.toArray _ y (by rw [List.size_toArray, hl, List.getElem?_toArray]; exact h1) (by rw [List.size_toArray, hlen]; exact cap_fits hc)) ⟨g, C (k.setL h q hd) _ h2.upd⟩)⟩
theorem m_sort {l : List (List Str)} (h : σ[m]? = some (.list (l.map fun p => AV.list (p.map AV.str)))) (hc : l.length < 64) : ME .list (.own m) .sort [] σ .none (σ.set m (.list ((sortL l).map fun p => AV.list (p.map AV.str)))) := ⟨_, ⟨F.plainAttrs_list, F.slot_list_sort, F.type_list_sort⟩, fun k A _ us R r rs Q X C =>
  own_list (D := fun u => wpAny (MD k.w) A (call (.builtin "list.sort") (u :: us)) Q X k.s) h r fun ws n g hs => rs.nil_el (D := fun us => wpAny (MD k.w) A (call (.builtin "list.sort") (_ :: us)) Q X k.s) (by
    have hlt := (List.getElem?_eq_some_iff.mp h).1
    have hlen : ws.length = l.length := by rw [hs.length, List.length_map]
    refine wpAny_call_entry slot_list_sort ⟨_, g, rfl⟩ entry_list_sort (list_sort_rows (A := A.in1) (Nat.lt_of_le_of_lt (Nat.add_le_add_left (by decide) _) R.units) g hlen hc (fun i hi => ?_) fun p hp => ⟨_, rfl, ?_⟩) (args_list_sort _)
    · refine VR.list_el (C := fun u => ∃ b ws' q, u = .ref b ∧ b ≠ k.ι m ∧ k.s.heap.get? b = some (listO ws' q) ∧ StrsAre ws' (l.getD i []) ∧ ws'.length = (l.getD i []).length) (VRs.getD hs hi) fun b vs q hz hvs => ⟨_, _, _, rfl, fun e => ?_, k.S.fz _ _ hz, hvs.strs, by rw [hvs.length, List.length_map]⟩
      rw [e, k.S.off m hlt] at hz; cases hz
    · have hv := VRs.maps hs (q := p.toList) fun i hi => by have := hp.perm.mem_iff.mp hi; simpa using this
      rw [hp.map] at hv
      obtain ⟨e, he⟩ := sortedHeap_at (out := p.map fun i => ws.getD i .none) g
      rw [show p.map (fun i => ws.getD i .none) = (p.toList.map fun i => ws.getD i .none).toArray from Array.toList_inj.mp (by simp)] at he ⊢
      exact C (k.setL (q := e) h ⟨he, fun b o hb ho => by rw [sortedHeap_old hb (Heap.lt_size ho)]; exact ho⟩ hv) _ .none)⟩
/-- dicts -/
theorem sys_ne {a : Addr} (h : 3 < a) : (a == sysModules) = false := beq_eq_false_iff_ne.mpr fun q => by rw [q] at h; exact absurd h (by decide)
theorem m_get {kv : List (Str × AV)} : ME .dict (.dict kv) .get [.str x, v] σ ((look x kv).getD v) σ := ⟨_, ⟨F.plainAttrs_dict, F.slot_dict_get, F.type_dict_get⟩, fun k A _ us _ r rs Q X C =>
  rs.el2 (D := fun us => wpAny (MD k.w) A (call (.builtin "dict.get") (_ :: us)) Q X k.s) fun _ b r1 r2 => r1.str_el (C := fun a => wpAny (MD k.w) A (call (.builtin "dict.get") [_, a, _]) Q X k.s) fun t =>
    r.dict_el (C := fun u => wpAny (MD k.w) A (call (.builtin "dict.get") [u, _, _]) Q X k.s) fun a es q h3 hd hz hr => by
      obtain ⟨kvs, hD, hR⟩ := dictOf_of (k.S.fz _ _ hz) hr hd
      refine call_meetsIn F.slot_dict_get ⟨_, k.S.fz _ _ hz, rfl⟩ F.entry_dict_get (F.args_dict_get_3 _ _ _) (meets_dict_get_default (strKind PG k.w) _ (strKind_is PG k.w x t) (sys_ne h3) b) ⟨valueAt kvs, hD.mapOf, ?_⟩
      cases q : look x kv with
      | some c =>
        obtain ⟨y, h1, h2⟩ := (hR.find x).1 _ q
        rw [h1]; exact C (k.tok _) _ (q ▸ h2)
      | none => rw [(hR.find x).2 q]; exact C (k.tok _) _ (q ▸ r2)⟩
/-- setdefault, the name there or not -/
theorem m_setd {kv : List (Str × AV)} (h : σ[m]? = some (.dict kv)) (hc : kv.length < cap) {z : AV} (h1 : ∀ u, look x kv = some u → u = z ∧ σ = σ') (h2 : look x kv = none → v = z ∧ σ.set m (.dict (kv ++ [(x, v)])) = σ') : ME .dict (.own m) .setdefault [.str x, v] σ z σ' := ⟨_, ⟨F.plainAttrs_dict, F.slot_dict_setdefault, F.type_dict_setdefault⟩, fun k A _ us _ r rs Q X C =>
  rs.el2 (D := fun us => wpAny (MD k.w) A (call (.builtin "dict.setdefault") (_ :: us)) Q X k.s) fun _ b r1 r2 => r1.str_el (C := fun a => wpAny (MD k.w) A (call (.builtin "dict.setdefault") [_, a, _]) Q X k.s) fun t =>
    r.own_el (C := fun u => wpAny (MD k.w) A (call (.builtin "dict.setdefault") [u, _, _]) Q X k.s) fun hlt => by
      obtain ⟨_, hg, es, q, rfl, hr, hd⟩ := k.S.own _ _ h
      obtain ⟨kvs, hD, hR⟩ := dictOf_of hg hr hd
      refine call_meetsIn F.slot_dict_setdefault ⟨_, hg, rfl⟩ F.entry_dict_setdefault (F.args_dict_setdefault_3 _ _ _) (kt_meets_setdefault (strKind PG k.w) (k.ι m) (strKind_is PG k.w x t) (sys_ne (k.S.hi m hlt)) b) ⟨kvs, hD, by rw [hR.length]; exact cap_fits (Nat.le_of_lt hc), fun u hu => ?_, fun hn h' hD' hs' => ?_⟩
      · cases q : look x kv with
        | some a =>
          obtain ⟨y, g1, g2⟩ := (hR.find x).1 _ q
          rw [g1] at hu; cases hu
          obtain ⟨rfl, rfl⟩ := h1 a q
          exact C (k.tok _) _ g2
        | none => rw [(hR.find x).2 q] at hu; cases hu
      · cases q : look x kv with
        | some a =>
          obtain ⟨y, g1, g2⟩ := (hR.find x).1 _ q
          rw [g1] at hn; cases hn
        | none =>
          obtain ⟨rfl, rfl⟩ := h2 q
          have hst : stored kvs x b = kvs ++ [(x, b)] := by
            unfold stored
            rw [if_neg]
            unfold valueAt at hn
            rw [Option.map_eq_none_iff, List.find?_eq_none] at hn
            intro q2
            obtain ⟨p, hp, hq⟩ := List.any_eq_true.1 q2
            exact hn p hp hq
          rw [hst] at hD'
          obtain ⟨es', n', g1, g2, g3⟩ := of_dictOf hD' (hR.append (.cons r2 .nil))
          exact C (k.upd (b := .dict (kv ++ [(x, v)])) (tk := _) h rfl rfl hs'.extBut g1 ⟨_, _, rfl, g2, g3⟩) _ r2.upd⟩
/-- the call of a method -/
theorem all_plain {env : Env} {es : List Expr} {pos : Pos} (h : es.all notStar = true) : (backTo pos (starEach es env)).all (fun x => !x.1) = true := by
  induction es with
  | nil => rfl
  | cons x es ih =>
    rw [List.all_cons, Bool.and_eq_true] at h
    rw [star_plain h.1]
    exact ih h.2
theorem any_plain {α : Type} {l : List (Bool × α)} (h : l.all (fun x => !x.1) = true) : l.any (·.1) = false := by
  rw [List.any_eq_false]
  intro x hx
  have := List.all_eq_true.mp h x hx
  rw [Bool.not_eq_true'] at this
  rw [this]; exact Bool.false_ne_true
theorem args_ok {env : Env} {A : Around} {es : List Expr} {vs : List AV} (hs : es.head?.all notStar = true) (h : ARGS n es E σ vs σ1) (k : K σ) (R : Room k.g (n + 2) A) (F : k.Fr env E) {pos : Pos} {f : Value} {Q : Args → Shared → Prop} {X : Value → Shared → Prop} (C : ∀ (x : Nx k [] σ1) us, x.up.Vs us vs → Q ⟨us, []⟩ x.s) :
    wpAny (MD k.w) A (evalArgs f true (backTo pos (starEach es env)) []) Q X k.s := by
  have h := h k R F pos (X := X) C
  cases es with
  | nil =>
    unfold evalArgs
    show wpAny _ _ (spliced [] >>= _) _ _ _
    exact wpAny_bind (wpAny_mono h (fun _ _ h' => wpAny_holding (wpAny_bind (wpAny_pure (wpAny_bind (wpAny_pure (wpAny_pure h')))))) fun _ _ x => x)
  | cons x es =>
    rw [star_plain hs] at h ⊢
    exact evalArgs_plain h
theorem ev_meth {o : Expr} {mt : Str} {ap p : Pos} {as : List Expr} {mn : MN} {T : MT} {vs : List AV} {z : AV} (hs : ∀ (env : Env) (t : Sem Value), attributeBase o mt env t = t) (h0 : (ap.endLine == p.line && decide (as.length < 30)) = true)
    (h1 : methName mt = some mn) (h2 : EV n o E σ v σ1) (h3 : TY σ1 v T) (h4 : EVS n as E σ1 vs σ2) (h5 : ME T v mn vs σ2 z σ3) : EV (n + 1) (.Call (.Attribute o mt ap) as [] p) E σ z σ3 := fun k A env R F Q X C => by
  obtain ⟨id, M, hc⟩ := h5
  have hn := methName_ok h1
  subst hn
  rw [Bool.and_eq_true, decide_eq_true_eq] at h0
  have hst := all_plain (env := env) (pos := p) h4.1
  refine wpAny_Call_method (T := T.txt) (hs _ _) ?_ h0.1 M.plain M.slot M.type (h2 k R.dn F fun x u r => ⟨(h3 x.up r).1, (h3 x.up r).2, callWith_builtin (any_plain hst) (args_ok ?_ h4.2 x.up R.dn (F.nx x) fun y us rs => hc y.up (R.le (Nat.le_add_left ..)) (r.nx y) rs fun w a r => C ((x.then y).then w) a r)⟩)
  · rw [hst, Bool.true_and, Bool.and_eq_true]
    exact ⟨rfl, decide_eq_true h0.2⟩
  · cases as with
    | nil => rfl
    | cons a as => exact (Bool.and_eq_true _ _ ▸ (show (notStar a && as.all notStar) = true from h4.1)).1
end
end

noncomputable section
open PySem PySem.Calls PyProof.Rows
section
variable {g : GF} {z : ZM} {ι : Nat → Addr} {σ : Sto} {h h' : Heap} {P : Params} {mu : List Addr}
/-- an address of the frame is changed -/
theorem SR.but (S : SR P g z ι σ h) {b : Addr} (hz : z b = none) (hi : ∀ k, k < σ.length → ι k ≠ b) (ht : b ≠ tabA) (hs : Heap.ExtBut b h h') (hd : ∀ o es ep, h.get? b = some o → o.data = .dict es ep → ∃ o' es' ep', h'.get? b = some o' ∧ o'.data = .dict es' ep') : SR P g z ι σ h' where
  base := S.base
  fz := fun c o e => hs c o (fun q => by rw [q, hz] at e; cases e) (S.fz c o e)
  own := fun k ao e => let ⟨o, h1, h2⟩ := S.own k ao e; ⟨o, hs _ _ (hi k (List.getElem?_eq_some_iff.mp e).1) h1, h2⟩
  off := S.off
  inj := S.inj
  tab := let ⟨ps, e⟩ := S.tab; ⟨ps, hs _ _ (Ne.symm ht) e⟩
  taboff := S.taboff
  g3 := S.g3
  hi := S.hi
  frs := S.frs.step fun L o es ep e d hz hi _ => by
    by_cases q : L = b
    · subst q
      obtain ⟨o', es', ep', q1, q2⟩ := hd o es ep e d
      exact ⟨o', es', ep', q1, q2, hz, hi⟩
    · exact ⟨o, es, ep, hs _ _ q e, d, hz, hi⟩
theorem Ext.but {b : Addr} {o' : Obj} (hb : b ∈ mu) (hs : Heap.ExtBut b h h') (ho : h'.get? b = some o') : Ext g mu z ι σ h z ι σ h' where
  zle := fun _ _ e => e
  znew := fun _ _ e => .inl e
  ile := fun _ _ => rfl
  inew := fun k h1 h2 => absurd h1 (Nat.not_lt.mpr h2)
  len := Nat.le_refl _
  keep := fun c o e hn _ _ _ => hs c o (fun q => hn (q ▸ hb)) e
  keepF := fun c o e hn _ _ => ⟨o.slots, hs c o (fun q => hn (q ▸ hb)) e⟩
  there := fun c o e => by
    by_cases q : c = b
    · exact ⟨o', q ▸ ho⟩
    · exact ⟨o, hs c o q e⟩
  busy := fun _ _ _ _ => Iff.rfl
theorem lookup_apart : ∀ {l : List (Str × Addr)} {x y : Str} {c d : Addr}, l.Pairwise (fun a b => a.2 ≠ b.2) → l.lookup x = some c → l.lookup y = some d → x ≠ y → c ≠ d
  | [], _, _, _, _, _, h, _, _ => by cases h
  | p :: l, x, y, c, d, hp, hx, hy, hn => by
    rw [List.pairwise_cons] at hp
    rw [List.lookup_cons] at hx hy
    cases q1 : (x == p.1) with
    | true =>
      rw [q1] at hx
      have e1 : x = p.1 := by simpa using q1
      cases q2 : (y == p.1) with
      | true => exact absurd (e1.trans (by simpa using q2 : y = p.1).symm) hn
      | false =>
        rw [q2] at hy
        have := hp.1 _ (mem_of_lookup hy)
        rw [← Option.some.inj hx]; exact this
    | false =>
      rw [q1] at hx
      cases q2 : (y == p.1) with
      | true =>
        rw [q2] at hy
        have := hp.1 _ (mem_of_lookup hx)
        rw [← Option.some.inj hy]; exact Ne.symm this
      | false => rw [q2] at hy; exact lookup_apart hp.2 hx hy hn
end
section
variable {E : AE} {x y : Str} {v u : AV}
/-- a name is bound to a value -/
noncomputable def AE.st (E : AE) (x : Str) (v : AV) : AE := match look x E.sc with
  | some .cell => { E with κ := put x v E.κ }
  | _ => { E with ρ := put x v E.ρ }
noncomputable def isLC (x : Str) (sc : List (Str × NameKind)) : Bool := match look x sc with
  | some .local => true
  | some .cell => true
  | _ => false
theorem st_sc : (E.st x v).sc = E.sc := by unfold AE.st; split <;> rfl
theorem st_tr : (E.st x v).tr = E.tr := by unfold AE.st; split <;> rfl
theorem isLC_st (h : isLC x E.sc = true) : isLC x (E.st y v).sc = true := by rw [st_sc]; exact h
theorem isLC_of {S : List (Str × NameKind)} (h : E.sc = S) (h2 : isLC x S = true) : isLC x E.sc = true := h ▸ h2
theorem sc_st {S : List (Str × NameKind)} (h : E.sc = S) : (E.st y v).sc = S := by rw [st_sc]; exact h
set_option tactic.hygienic true in
theorem set_st (h : isLC x E.sc = true) : E.set x v = some (E.st x v) := by
  unfold isLC at h
  unfold AE.set AE.st kindOf
  split at h <;> rename_i q <;> first | (rw [q]; done) | (rw [q]) | cases h
set_option tactic.hygienic true in
theorem get_hit (h : isLC x E.sc = true) : (E.st x v).get x = some v := by
  unfold isLC at h
  unfold AE.get kindOf
  rw [st_sc]
  split at h <;> rename_i q
  · rw [q]
    unfold AE.st
    rw [q]
    exact put_hit x v _
  · rw [q]
    unfold AE.st
    rw [q]
    exact put_hit x v _
  · cases h
theorem get_ne {w : Option AV} (h : sq x y = false) (h2 : E.get y = w) : (E.st x v).get y = w := by
  rw [← h2]
  unfold AE.get kindOf
  rw [st_sc]
  have e1 : look y (E.st x v).ρ = look y E.ρ := by
    unfold AE.st
    split
    · rfl
    · exact put_ne x y v h _
  have e2 : look y (E.st x v).κ = look y E.κ := by
    unfold AE.st
    split
    · exact put_ne x y v h _
    · rfl
  rw [e1, e2]
theorem get_glob {S : List (Str × NameKind)} {v : Value} (h : E.sc = S) (h2 : look x S = some .globalImplicit) (h3 : look x globs = some v) : E.get x = some (.con v) := by
  unfold AE.get kindOf
  rw [h, h2, h3]; rfl
noncomputable def isCF (x : Str) (sc : List (Str × NameKind)) : Bool := match look x sc with
  | some .cell => true
  | some .free => true
  | _ => false
set_option tactic.hygienic true in
theorem kap_of {S : List (Str × NameKind)} (h : E.sc = S) (h2 : isCF x S = true) (h3 : E.get x = some v) : look x E.κ = some v := by
  unfold AE.get kindOf at h3
  unfold isCF at h2
  rw [h] at h3
  split at h2 <;> rename_i q <;> first | (rw [q] at h3; exact h3) | cases h2
set_option tactic.hygienic true in
theorem get_kap {S : List (Str × NameKind)} {K : List (Str × AV)} (h : E.sc = S) (h2 : isCF x S = true) (hK : E.κ = K) (h3 : look x K = some v) : E.get x = some v := by
  unfold AE.get kindOf
  unfold isCF at h2
  rw [h]
  split at h2 <;> rename_i q <;> first | (rw [q]; rw [hK]; exact h3) | cases h2
end
section
variable {n : Nat} {E E1 E' : AE} {σ σ1 σ2 σ' : Sto} {x y : Str} {v u a : AV} {k : K σ} {env : Env} {A : Around} {mu : List Addr} {Q : AF → AE → Sto → Prop}
theorem set_sc (e : E.set x v = some E') : E'.sc = E.sc := by
  unfold AE.set at e
  split at e <;> cases e <;> rfl
/-- what a store may touch -/
noncomputable def Wr (mu : List Addr) (env : Env) (sc : List (Str × NameKind)) : Prop := env.locals ∈ mu ∧ ∀ x c, look x sc = some .cell → env.cells.lookup x = some c → c ∈ mu
theorem Wr.frA (env : Env) (sc : List (Str × NameKind)) : Wr (frA env) env sc := ⟨List.mem_cons_self, fun _ _ _ hc => List.mem_cons_of_mem _ (List.mem_map.mpr ⟨_, mem_of_lookup hc, rfl⟩)⟩
/-- one object of the frame is changed -/
noncomputable abbrev K.but (k : K σ) {b : Addr} {h' : Heap} {o' : Obj} (hz : k.z b = none) (hi : ∀ j, j < σ.length → k.ι j ≠ b) (ht : b ≠ tabA) (hb : b ∈ mu) (hs : Heap.ExtBut b k.s.heap h') (ho : h'.get? b = some o') (hd : ∀ o es ep, k.s.heap.get? b = some o → o.data = .dict es ep → ∃ o' es' ep', h'.get? b = some o' ∧ o'.data = .dict es' ep') (tk : Nat := k.s.toks) : Nx k mu σ :=
  ⟨k.z, k.ι, { k.s with heap := h', toks := tk }, Ext.but hb hs ho, k.S.but hz hi ht hs hd, Same.mk k.s h' tk⟩
theorem store_ok (F : k.Fr env E) (e : E.set x a = some E') {b : Value} (rv : k.V b a) (hw : Wr mu env E.sc) {Q : Unit → Shared → Prop} {X : Value → Shared → Prop} (C : ∀ y : Nx k mu σ, y.up.Fr env E' → Q () y.s) : wpAny (MD k.w) A (storeName env x b) Q X k.s := by
  unfold AE.set kindOf at e
  obtain ⟨m, hn, hm⟩ := F.ns
  cases hk : look x E.sc with
  | none => rw [hk] at e; exact nomatch e
  | some kd =>
    rw [hk] at e
    cases kd with
    | «local» =>
      cases Option.some.inj e
      refine wpAny_storeName_local (F.kindAt hk nofun) hn (fun h' hn' hs => ?_) (by rw [F.kind]; rfl)
      have hx := hs.extBut
      obtain ⟨o, es, ep, ho, hd, _⟩ := id hn'
      refine C (k.but F.zoff.1 (fun j hj => (F.ioff j hj).1) F.toff.1 hw.1 hx ho (fun _ _ _ _ _ => ⟨o, es, ep, ho, hd⟩) (tk := _)) ⟨F.kind, F.kinds, F.glob, F.dbg, F.sup, F.cld, ⟨_, hn', fun y => ?_⟩, fun y hy => ?_, F.apart, F.cloc, F.zoff, F.ioff, F.toff, fun p hp => ?_⟩
      · refine put_cases (C := fun o => (∀ c, o = some c → ∃ u, (if y = x then some b else m y) = some u ∧ k.V u c) ∧ (o = none → (if y = x then some b else m y) = none)) (fun q => ⟨fun c hc => ⟨b, if_pos q, Option.some.inj hc ▸ rv⟩, fun hc => nomatch hc⟩) fun q => ⟨fun c hc => ?_, fun hc => ?_⟩
        · exact let ⟨u, h1, h2⟩ := (hm y).1 c hc; ⟨u, (if_neg q).trans h1, h2⟩
        · exact (if_neg q).trans ((hm y).2 hc)
      · exact let ⟨c, v₀, h1, h2, h3⟩ := F.cells y hy; ⟨c, v₀, h1, cell_at h2 fun o ho => hx _ o (F.cloc _ (mem_of_lookup h1)) ho, h3⟩
      · exact let ⟨v₀, h2⟩ := F.cthere p hp; ⟨v₀, cell_at h2 fun o ho => hx _ o (F.cloc p hp) ho⟩
    | cell =>
      cases Option.some.inj e
      obtain ⟨c, v₀, h1, h2, h3⟩ := F.cells x (.inl hk)
      have hm0 := mem_of_lookup h1
      refine wpAny_storeName_cell F.kind (F.kindAt hk nofun) h1 h2 fun h' hc' hs => ?_
      have hx := hs.extBut
      obtain ⟨o, ho, _⟩ := id hc'
      refine C (k.but (F.zoff.2 _ hm0) (fun j hj => (F.ioff j hj).2 _ hm0) (F.toff.2 _ hm0) (hw.2 _ _ hk h1) hx ho (fun o es ep ho hd => ?_)) ⟨F.kind, F.kinds, F.glob, F.dbg, F.sup, F.cld, ⟨m, ns_at hn fun o ho => hx _ o (Ne.symm (F.cloc _ hm0)) ho, hm⟩, fun y hy => ?_, F.apart, F.cloc, F.zoff, F.ioff, F.toff, fun p hp => ?_⟩
      · obtain ⟨o2, q1, q2⟩ := h2
        rw [q1] at ho; cases ho
        rw [q2] at hd; cases hd
      · refine put_cases (C := fun o => ∃ c v₀, env.cells.lookup y = some c ∧ h'.IsCell c v₀ ∧ ∀ b, o = some b → ∃ v, v₀ = some v ∧ k.V v b) (fun q => ⟨c, some b, q ▸ h1, hc', fun d hd => ⟨b, rfl, Option.some.inj hd ▸ rv⟩⟩) fun q => ?_
        exact let ⟨d, u₀, g1, g2, g3⟩ := F.cells y hy; ⟨d, u₀, g1, cell_at g2 fun o ho => hx _ o (lookup_apart F.apart g1 h1 q) ho, g3⟩
      · by_cases q2 : p.2 = c
        · exact ⟨_, q2 ▸ hc'⟩
        · exact let ⟨v₀, g2⟩ := F.cthere p hp; ⟨v₀, cell_at g2 fun o ho => hx _ o q2 ho⟩
    | _ => exact nomatch e
/-- a statement's own statements, and those behind it -/
noncomputable def Then (n : Nat) (ss : List Stmt) (Q : AF → AE → Sto → Prop) (f : AF) (E : AE) (σ : Sto) : Prop := match f with
  | .next => WP (n + 2) ss E σ Q
  | f => Q f E σ
theorem GivesF.mono {env : Env} {t : Sem Flow} {P P' : AF → AE → Sto → Prop} (h : GivesF k A env t P) (H : ∀ f E σ, P f E σ → P' f E σ) : GivesF k A env t P' := fun _ _ C => h fun f E σ' x fl p => C f E σ' x fl (H _ _ _ p)
theorem wp_mono {ss : List Stmt} {Q' : AF → AE → Sto → Prop} (h : WP n ss E σ Q) (H : ∀ f E σ, Q f E σ → Q' f E σ) : WP n ss E σ Q' := fun k _ _ R F => (h k R F).mono H
theorem wp_nil (h : Q .next E σ) : WP (n + 1) [] E σ Q := fun k _ _ _ F _ _ C => wpAny_execs_nil (C _ _ _ k.nx _ h F rfl)
/-- the state after a statement, and what follows -/
theorem GivesF.then {k : K σ} {env : Env} {t : Sem Flow} {P : AF → AE → Sto → Prop} {ss : List Stmt} (h : GivesF k A env t (Then n ss P)) (R : Room k.g (n + 4) A) {Q : Flow → Shared → Prop} {X : Value → Shared → Prop} (C : ∀ f E σ' (x : Nx k (frA env) σ') fl, P f E σ' → x.up.Fr env E → x.up.Fl f fl → Q fl x.s) :
    wpAny (MD k.w) A t (fun f s' => match f with | .next => wpAny (MD k.w) A (execs ss env) Q X s' | f => Q f s') X k.s := h fun f E σ' x fl p F r => by
  cases f with
  | next => cases (show fl = .next from r); exact (p : WP (n + 2) ss E σ' P) x.up R F fun f E σ'' y fl p F r => C f E σ'' (x.then y) fl p F r
  | brk => cases (show fl = .brk from r); exact C _ _ _ x _ p F rfl
  | cont => cases (show fl = .cont from r); exact C _ _ _ x _ p F rfl
  | ret a => exact let ⟨v, e, hv⟩ := (show ∃ v, fl = .ret v ∧ _ from r); e ▸ C _ _ _ x _ p F ⟨v, rfl, hv⟩
theorem wp_st {st : Stmt} {ss : List Stmt} (h : EX (n + 2) st E σ (Then n ss Q)) : WP (n + 2) (st :: ss) E σ Q := fun k _ _ R F _ _ C => wpAny_execs_cons ((h k R F).then R C)
/-- the statement goes on to the next -/
theorem wp_go {st : Stmt} {ss : List Stmt} (h : EX (n + 2) st E σ fun f E' σ' => f = .next ∧ E' = E1 ∧ σ' = σ1) (h2 : WP (n + 2) ss E1 σ1 Q) : WP (n + 2) (st :: ss) E σ Q := wp_st fun k _ _ R F => (h k R F).mono fun _ _ _ ⟨e1, e2, e3⟩ => by
  subst e1 e2 e3; exact h2
theorem wp_ret {e : Expr} {p : Pos} {ss : List Stmt} (h1 : EV n e E σ v σ1) (h2 : Q (.ret v) E σ1) : WP (n + 2) (.Return (some e) p :: ss) E σ Q := wp_st fun k _ _ R F _ _ C =>
  wpAny_Return_some (h1 k (R.le (Nat.le_add_right _ 2)) F fun x u r => C (.ret v) E σ1 x.any _ h2 (F.nx x) ⟨u, rfl, r⟩)
theorem wp_cont {p : Pos} {ss : List Stmt} (h : Q .cont E σ) : WP (n + 2) (.Continue p :: ss) E σ Q := wp_st fun k _ _ _ F _ _ C => wpAny_Continue (C .cont E σ k.nx _ h F rfl)
theorem wp_brk {p : Pos} {ss : List Stmt} (h : Q .brk E σ) : WP (n + 2) (.Break p :: ss) E σ Q := wp_st fun k _ _ _ F _ _ C => wpAny_Break (C .brk E σ k.nx _ h F rfl)
theorem wp_pass {p : Pos} {ss : List Stmt} (h : WP (n + 2) ss E σ Q) : WP (n + 2) (.Pass p :: ss) E σ Q := wp_st fun k _ _ _ F _ _ C => wpAny_Pass (C .next E σ k.nx _ h F rfl)
theorem wp_if {t : Expr} {a b : List Stmt} {p : Pos} {ss : List Stmt} {c : Bool} (h1 : IT n t E σ c σ1) (h2 : c = true → WP n a E σ1 (Then n ss Q)) (h3 : c = false → WP n b E σ1 (Then n ss Q)) : WP (n + 2) (.If t a b p :: ss) E σ Q := wp_st fun k _ _ R F _ _ C =>
  wpAny_If (h1 k (R.le (Nat.le_add_right _ 2)) F fun x => by
    cases c
    · exact h3 rfl x.up (R.le (Nat.le_add_right _ 2)) (F.nx x) fun f E σ' y fl p F r => C f E σ' (x.any.then y) fl p F r
    · exact h2 rfl x.up (R.le (Nat.le_add_right _ 2)) (F.nx x) fun f E σ' y fl p F r => C f E σ' (x.any.then y) fl p F r)
theorem wp_assert {t : Expr} {p : Pos} {ss : List Stmt} (h1 : IT n t E σ true σ1) (h2 : WP (n + 2) ss E σ1 Q) : WP (n + 2) (.Assert t none p :: ss) E σ Q := wp_st fun k _ _ R F _ _ C =>
  wpAny_Assert_holds (h1 k (R.le (Nat.le_add_right _ 2)) F fun x => ⟨rfl, C .next E σ1 x.any _ h2 (F.nx x) rfl⟩)
theorem wp_expr {f : Expr} {as : List Expr} {ks : List Keyword} {p p' : Pos} {ss : List Stmt} (h1 : EV n (.Call f as ks p') E σ v σ1) (h2 : WP (n + 2) ss E σ1 Q) : WP (n + 2) (.Expr (.Call f as ks p') p :: ss) E σ Q := wp_st fun k _ _ R F _ _ C =>
  wpAny_Expr_any (h1 k (R.le (Nat.le_add_right _ 2)) F fun x _ _ => C .next E σ1 x.any _ h2 (F.nx x) rfl) (by unfold interactive; rw [F.kind]; rfl) rfl
theorem wp_try {b : List Stmt} {h0 : ExceptHandler} {hs : List ExceptHandler} {p : Pos} {ss : List Stmt} (h : WP n b E σ (Then n ss Q)) : WP (n + 2) (.Try b (h0 :: hs) [] [] p :: ss) E σ Q := wp_st fun k _ _ R F _ _ C =>
  wpAny_Try_except (h k (R.le (Nat.le_add_right _ 2)) F fun f E σ' x fl p F r => by
    have := C f E σ' x fl p F r
    cases fl with
    | next => exact wpAny_execs_nil this
    | _ => exact this)
theorem wp_aug {e : Expr} {op : Operator} {p px : Pos} {ss : List Stmt} {z : AV} (h1 : E.get x = some v) (h2 : EV n e E σ u σ1) (h3 : AU op v u z) (h4 : isLC x E.sc = true) (h5 : WP (n + 2) ss (E.st x z) σ1 Q) : WP (n + 2) (.AugAssign (.Name x px) op e p :: ss) E σ Q := wp_st fun k _ env R F _ _ C =>
  wpAny_AugAssign_Name (get_ok F h1 fun b r0 => h2 k (R.le (Nat.le_add_right _ 2)) F fun x c r1 => h3 x.up (r0.nx x) r1 fun y d r2 => store_ok ((F.nx x).nx y) (set_st h4) r2 (Wr.frA env _) fun w F' => C .next _ σ1 ((x.then y).any.then w) _ h5 F' rfl)
/-- the value is bound to a name -/
noncomputable def OWN (n : Nat) (e : Expr) (E : AE) (σ : Sto) (v : AV) (σ' : Sto) : Prop := ∀ {x : Str} {px pos : Pos} {E' : AE}, E.set x v = some E' → EX (n + 2) (.Assign [.Name x px] e pos) E σ fun f E1 σ1 => f = .next ∧ E1 = E' ∧ σ1 = σ'
theorem own_plain {e : Expr} (hs : ∀ (p : Option Expr × Nat) (env : Env), swapsWith e p.1 p.2 env = pure false) (_ : plainVal e = true) (h : EV n e E σ v σ1) : OWN n e E σ v σ1 := fun {_ _ _ E'} hx k _ env R F _ _ C =>
  wpAny_Assign_Name (h k (R.le (Nat.le_add_right _ 2)) F fun y b r => store_ok (F.nx y) hx r (Wr.frA env _) fun w F' => C .next E' σ1 (y.any.then w) _ ⟨rfl, rfl, rfl⟩ F' rfl) (hs (_, _) env)
theorem wp_assign {e : Expr} {p px : Pos} {ss : List Stmt} (h1 : OWN n e E σ v σ1) (h2 : isLC x E.sc = true) (h3 : WP (n + 2) ss (E.st x v) σ1 Q) : WP (n + 2) (.Assign [.Name x px] e p :: ss) E σ Q := wp_go (h1 (set_st h2)) h3
/-- displays whose object may change -/
theorem ev_newlist {es : List Expr} {p : Pos} {vs : List AV} (h1 : EVS n es E σ vs σ1) (h2 : vs.length ≤ cap) : EV (n + 1) (.List es p) E σ (.own σ1.length) (σ1 ++ [.list vs]) := fun k _ _ R F _ _ C =>
  wpAny_List (h1.2 k R.dn F _ fun x us r => ⟨by rw [r.length]; exact cap_fits h2, C (x.then (x.up.newO (o := listO us 0) (ao := .list vs) rfl ⟨us, 0, rfl, r⟩)) _ own_put⟩)
theorem EV.succ {e : Expr} (h : EV n e E σ v σ1) : EV (n + 1) e E σ v σ1 := fun k _ _ R F => h k R.dn F
theorem ev_empty {p : Pos} : EV n (.List [] p) E σ (.own σ.length) (σ ++ [.list []]) := fun k _ _ _ _ _ _ C => wpAny_List (wpAny_items_nil ⟨Nat.zero_le _, C (k.newO (o := listO [] 0) (ao := .list []) rfl ⟨[], 0, rfl, .nil⟩) _ own_put⟩)
theorem own_empty {p : Pos} : OWN n (.List [] p) E σ (.own σ.length) (σ ++ [.list []]) := own_plain (fun _ _ => rfl) rfl ev_empty
theorem own_dict {p : Pos} : OWN n (.Dict [] [] p) E σ (.own σ.length) (σ ++ [.dict []]) := own_plain (fun _ _ => rfl) rfl fun k _ _ _ _ _ _ C => wpAny_Dict_empty (C (k.newO (o := dictO [] 0) (ao := .dict []) rfl ⟨[], 0, rfl, .nil, List.nodup_nil⟩) _ own_put)
theorem own_tups {ts es : List Expr} {j : Nat} {p p' : Pos} {vs : List AV} (h : EVS n (.Tuple ts j p :: es) E σ vs σ1) (hc : vs.length ≤ cap) : OWN (n + 1) (.List (.Tuple ts j p :: es) p') E σ (.own σ1.length) (σ1 ++ [.list vs]) := own_plain (fun _ _ => rfl) rfl (ev_newlist h hc)
end
end

noncomputable section
open PySem PySem.Calls PyProof.Rows
/-- the names of a line take the values, one after the other -/
inductive SETS : List Expr → List AV → AE → AE → Prop where
  | nil {E : AE} : SETS [] [] E E
  | cons {x : Str} {p : Pos} {ts : List Expr} {v : AV} {vs : List AV} {E E1 E' : AE} : E.set x v = some E1 → SETS ts vs E1 E' → SETS (.Name x p :: ts) (v :: vs) E E'
/-- a target takes a value -/
inductive BT : Expr → AV → AE → AE → Prop where
  | name {x : Str} {p : Pos} {v : AV} {E E' : AE} : E.set x v = some E' → BT (.Name x p) v E E'
  | tup {ts : List Expr} {j : Nat} {p : Pos} {vs : List AV} {E E' : AE} : SETS ts vs E E' → BT (.Tuple ts j p) (.tup vs) E E'
/-- two names of one line -/
noncomputable def swapQ (x y : Str) (px py : Pos) (e f : Expr) (sc : List (Str × NameKind)) : Bool := look x sc == some .local && look y sc == some .local && py.line == px.line && !(x == y) && (notStar e && notStar f) && !([e, f].all (foldedForSure 8)) && !([e, f].all (constantsAlone 8))
section
variable {n : Nat} {E E1 E' : AE} {σ σ1 σ2 σ3 σ' : Sto} {x y : Str} {v u a : AV} {k : K σ} {env : Env} {A : Around} {mu : List Addr} {Q : AF → AE → Sto → Prop} {ts : List Expr} {vs : List AV}
theorem setAll_nil : SETS [] [] E E := .nil
theorem setAll_cons {px : Pos} (h : isLC x E.sc = true) (h2 : SETS ts vs (E.st x v) E1) : SETS (.Name x px :: ts) (v :: vs) E E1 := .cons (set_st h) h2
theorem bt_st {px : Pos} (h : isLC x E.sc = true) : BT (.Name x px) v E (E.st x v) := .name (set_st h)
theorem SETS.sc (h : SETS ts vs E E') : E'.sc = E.sc := by
  induction h with
  | nil => rfl
  | cons q _ ih => exact ih.trans (set_sc q)
theorem SETS.len (h : SETS ts vs E E') : (assignEach ts env).length = vs.length ∧ (assignEach ts env).findIdx? (·.1) = none ∧ (assignEach ts env).map (·.2) = ts.map (assign · env) := by
  induction h with
  | nil => exact ⟨rfl, rfl, rfl⟩
  | @cons x p ts _ _ _ _ _ _ _ ih =>
    refine ⟨congrArg (· + 1) ih.1, ?_, congrArg (List.cons _) ih.2.2⟩
    show List.findIdx? _ ((false, assign (.Name x p) env) :: assignEach ts env) = none
    rw [List.findIdx?_cons, ih.2.1]; rfl
theorem SETS.ok {act : Expr → Value → Sem Unit} (H : ∀ {w : World} {A : Around} {s : Shared} {x : Str} {p : Pos} {b : Value} {Q : Unit → Shared → Prop} {X : Value → Shared → Prop}, wpAny (MD w) A (storeName env x b) Q X s → wpAny (MD w) A (act (.Name x p) b) Q X s) (h : SETS ts vs E E') :
    ∀ (k : K σ) {us : List Value}, Wr mu env E.sc → k.Vs us vs → k.Fr env E → ∀ {Q : Unit → Shared → Prop} {X : Value → Shared → Prop}, (∀ y : Nx k mu σ, y.up.Fr env E' → Q () y.s) → wpAny (MD k.w) A (assignInOrder (ts.map act) us) Q X k.s := by
  induction h with
  | nil => exact fun k _ _ rs F Q X C => rs.nil_el (D := fun us => wpAny (MD k.w) A (assignInOrder [] us) Q X k.s) (wpAny_pure (C k.nx F))
  | @cons x p ts _ _ _ _ _ q _ ih =>
    refine fun k _ hw rs F Q X C => rs.cons_el (D := fun us => wpAny (MD k.w) A (assignInOrder (_ :: _) us) Q X k.s) fun b us r rs => ?_
    show wpAny (MD k.w) A (do holding _ (act (.Name x p) b); assignInOrder (ts.map act) us) _ _ _
    exact wpAny_bind (wpAny_holding (H (store_ok F q r hw fun y F' => ih y.up (by rw [set_sc q]; exact hw) (VRs.nx rs y) F' fun z F'' => C (y.then z) F'')))
theorem BT.sc {t : Expr} (h : BT t v E E') : E'.sc = E.sc := by
  cases h with
  | name h => exact set_sc h
  | tup h => exact h.sc
theorem BT.ok (hh : A.handled = none) {t : Expr} {b : Value} (e : BT t a E E') (hw : Wr mu env E.sc) (r : k.V b a) (F : k.Fr env E) {Q : Unit → Shared → Prop} {X : Value → Shared → Prop} (C : ∀ y : Nx k mu σ, y.up.Fr env E' → Q () y.s) : wpAny (MD k.w) A (assign t env b) Q X k.s := by
  cases e with
  | name e => exact assign_Name (store_ok F e r hw C)
  | @tup ts j p _ _ _ e =>
    refine r.tup_el (C := fun b => wpAny (MD k.w) A (assign (.Tuple ts j p) env b) Q X k.s) fun b us m hz hs => ?_
    obtain ⟨l1, l2, l3⟩ := e.len (env := env)
    refine wpAny_assign_Tuple hh ⟨_, k.S.fz _ _ hz, rfl, ⟨_, rfl⟩⟩ (by rw [l1, List.size_toArray, hs.length]) l2 fun h' hx => ?_
    let y : Nx k [] σ := k.grow h' k.s.toks fun b o ho => hx b o (Nat.ne_of_lt (Heap.lt_size ho)) ho
    rw [l3]
    exact e.ok (act := (assign · env)) assign_Name y.up hw (VRs.nx hs y) (F.nx y) fun z F' => C (y.any.then z) F'
theorem wp_tuple {e : Expr} {j : Nat} {p px : Pos} {ss : List Stmt} (hs : ∀ es k p, e ≠ .Tuple es k p) (h1 : EV n e E σ (.tup vs) σ1) (h2 : SETS ts vs E E1) (h3 : WP (n + 2) ss E1 σ1 Q) : WP (n + 2) (.Assign [.Tuple ts j px] e p :: ss) E σ Q := wp_st fun k _ env R F _ _ C =>
  Assign_Tuple (h1 k (R.le (Nat.le_add_right _ 2)) F fun y b r => BT.ok (mu := frA env) (a := .tup vs) (t := .Tuple ts j px) R.handled (.tup h2) (Wr.frA env _) r (F.nx y) fun w F' => C .next E1 σ1 (y.any.then w) _ h3 F' rfl) (by cases e <;> rfl) (by cases e <;> first | rfl | exact absurd rfl (hs _ _ _))
noncomputable def locOn (env : Env) (c : Nat) (t : Expr) : Option Str := match t with
  | .Name id pos => if (env.kindOf id == some .local && pos.line == c) = true then some id else none
  | _ => none
theorem swap_names {px py p p' : Pos} {j j' : Nat} {e f : Expr} (F : k.Fr env E) (h : swapQ x y px py e f E.sc = true) : swappedStores [.Tuple [.Name x px, .Name y py] j p] (.Tuple [e, f] j' p') env = pure (some [x, y]) := by
  unfold swapQ at h
  simp only [Bool.and_eq_true, Bool.not_eq_true', beq_iff_eq] at h
  obtain ⟨⟨⟨⟨⟨⟨h1, h2⟩, h3⟩, h4⟩, h5, h5'⟩, h6⟩, h7⟩ := h
  have hb : env.blockKind = .function := by unfold Env.blockKind; rw [F.kind]; rfl
  have hd : [x, y].eraseDups.length = 2 := by rw [List.eraseDups_cons, List.filter_cons_of_pos (by rw [Bool.beq_comm, h4]; rfl)]; rfl
  have k1 : (env.kindOf x == some .local && px.line == px.line) = true := by rw [F.kindAt h1 nofun, beq_self_eq_true, beq_self_eq_true]; rfl
  have k2 : (env.kindOf y == some .local && py.line == px.line) = true := by rw [F.kindAt h2 nofun, h3, beq_self_eq_true, beq_self_eq_true]; rfl
  have hn : [.Name x px, .Name y py].filterMap (locOn env px.line) = [x, y] := by rw [List.filterMap_cons_some (b := x) (show locOn env px.line (.Name x px) = some x from if_pos k1), List.filterMap_cons_some (b := y) (show locOn env px.line (.Name y py) = some y from if_pos k2)]; rfl
  unfold swappedStores
  refine (if_neg (by rw [hb]; exact Bool.false_ne_true)).trans ((if_neg (ne_true_of_eq_false (List.any_eq_false.mpr fun t ht q => ?_))).trans ?_)
  · have : notStar t = true := by
      rcases List.mem_cons.mp ht with e | e
      · exact e ▸ h5
      · exact List.mem_singleton.mp e ▸ h5'
    cases t <;> first | (cases this; done) | (cases q; done)
  refine Eq.trans (congrArg (fun l : List Str => (if (l.length != 2 || l.eraseDups.length != l.length) = true then pure none else if [e, f].all (foldedForSure 8) = true then pure none else if [e, f].all (constantsAlone 8) = true then _ else pure (some l) : Sem (Option (List Str)))) hn) ?_
  show (if (2 != 2 || [x, y].eraseDups.length != 2) = true then _ else _) = _
  rw [hd, if_neg (by decide), if_neg (ne_true_of_eq_false h6), if_neg (ne_true_of_eq_false h7)]
theorem wp_swap {px py p p' pt : Pos} {j j' : Nat} {e f : Expr} {ss : List Stmt} (hs : swapQ x y px py e f E.sc = true) (h1 : EV n (.Tuple [e, f] j' p') E σ (.tup [v, u]) σ1) (h3 : WP (n + 2) ss ((E.st y u).st x v) σ1 Q) : WP (n + 2) (.Assign [.Tuple [.Name x px, .Name y py] j pt] (.Tuple [e, f] j' p') p :: ss) E σ Q := wp_st fun k A env R F _ X C =>
  Assign_Tuple_swapped (names := [x, y]) (h1 k (R.le (Nat.le_add_right _ 2)) F fun y' b r => r.tup_el (C := fun b => wpAny (MD k.w) A (unpackItems b _ none) _ X y'.s) fun b us m hz hus => by
    have lc : ∀ {x : Str}, look x E.sc = some .local → isLC x E.sc = true := fun h => by unfold isLC; rw [h]
    have hq := hs
    unfold swapQ at hq
    simp only [Bool.and_eq_true, beq_iff_eq] at hq
    have S : SETS [.Name y py, .Name x px] [u, v] E ((E.st y u).st x v) := setAll_cons (lc hq.1.1.1.1.1.2) (setAll_cons (isLC_st (lc hq.1.1.1.1.1.1)) .nil)
    have hl := hus.length
    rw [show [x, y].length = us.toArray.size from hl.symm]
    refine unpackItems_tuple R.handled ⟨_, y'.S.fz _ _ hz, rfl, ⟨_, rfl⟩⟩ fun h' hx => ?_
    let w : Nx y'.up [] σ1 := y'.up.grow h' y'.s.toks fun b o ho => hx b o (Nat.ne_of_lt (Heap.lt_size ho)) ho
    exact SETS.ok (env := env) (mu := frA env) (act := fun t => match t with | .Name x _ => bindName env x | _ => fun _ => pure ()) (bindName_ ·) S w.up (us := us.reverse) (Wr.frA env _) (VRs.nx (hus.el2 (D := fun us => VRs _ _ _ _ us.reverse [u, v]) fun _ _ q1 q2 => .cons q2 (.cons q1 .nil)) w) ((F.nx y').nx w) fun z F' => C .next _ σ1 ((y'.then w).any.then z) _ h3 F' rfl) rfl (swap_names F hs)
theorem VRs.set {P : Params} {z : ZM} {ι : Nat → Addr} {n : Nat} {b : Value} (hv : VR P z ι n b a) {vs : List Value} {xs : List AV} (r : VRs P z ι n vs xs) : ∀ i : Nat, VRs P z ι n (vs.set i b) (xs.set i a) :=
  VRs.ind (M := fun vs xs => ∀ i : Nat, VRs P z ι n (vs.set i b) (xs.set i a)) (fun _ => .nil) (fun h hs ih i => by
    cases i with
    | zero => exact .cons hv hs
    | succ i => exact .cons h (ih i)) r
theorem VRs.eraseIdx {P : Params} {z : ZM} {ι : Nat → Addr} {n : Nat} {vs : List Value} {xs : List AV} (r : VRs P z ι n vs xs) : ∀ i : Nat, VRs P z ι n (vs.eraseIdx i) (xs.eraseIdx i) :=
  VRs.ind (M := fun vs xs => ∀ i : Nat, VRs P z ι n (vs.eraseIdx i) (xs.eraseIdx i)) (fun _ => .nil) (fun h hs ih i => by
    cases i with
    | zero => exact hs
    | succ i => exact .cons h (ih i)) r
/-- chunks[i] = v, del chunks[i] -/
theorem wp_setitem {c : Str} {pc px p : Pos} {i e : Expr} {ss : List Stmt} {j : Int} {m : Nat} {xs : List AV} (hs : ∀ (p : Option Expr × Nat) (env : Env), swapsWith e p.1 p.2 env = pure false) (h1 : EV n e E σ v σ1) (h2 : E.get c = some (.own m)) (h3 : EV n i E σ1 (.int j) σ2) (h4 : σ2[m]? = some (.list xs)) (hc : 0 ≤ j ∧ j < xs.length ∧ xs.length ≤ cap)
    (h5 : WP (n + 2) ss E (σ2.set m (.list (xs.set j.toNat v))) Q) : WP (n + 2) (.Assign [.Subscript (.Name c pc) i px] e p :: ss) E σ Q := wp_st fun k A env R F _ X C => by
  have R2 := R.le (Nat.le_add_right _ 2)
  refine wpAny_Assign_Subscript (h1 k R2 F fun y b r => (evp_name (n := n) h2) y.up (R.le (by (clear hc; omega))) (F.nx y) fun w b2 r2 => h3 w.up R2 ((F.nx y).nx w) fun z b3 r3 => ?_) (hs (_, _) env)
  refine r3.int_el (C := fun b3 => wpAny (MD k.w) A (setItem b2 b3 b) _ X z.s) fun t => own_list (D := fun b2 => wpAny (MD k.w) A (setItem b2 (.int j t) b) _ X z.s) h4 (r2.nx z) fun ws q g hws => ?_
  have hl := hws.length
  have hcap : cap = 100000 := rfl
  have hn : j < ws.toArray.size := by rw [List.size_toArray, hl]; exact hc.2.1
  refine PySem.W.ki_setAt (n := q) g hc.1 (by (clear hn hl; omega)) hn ?_
  obtain ⟨_, q⟩ := mapSeq_at (f := fun x => x.setIfInBounds j.toNat b) (ws := ws.set j.toNat b) g (by simp)
  exact let f := z.up.setL h4 q (VRs.set (VR.nx (r.nx w) z) hws j.toNat); C .next E _ (((y.then w).then z).then f).any _ h5 (((F.nx y).nx w |>.nx z).nx f) rfl
theorem wp_delitem {c : Str} {pc px p : Pos} {i : Expr} {ss : List Stmt} {j : Int} {m q : Nat} {xs : List AV} (h2 : E.get c = some (.own m)) (h3 : EV n i E σ (.int j) σ2) (h4 : σ2[m]? = some (.list xs)) (hc : xs.length ≤ cap ∧ -1000000 ≤ j ∧ j ≤ 1000000) (hq : seqIndex? j xs.length = some q)
    (h5 : WP (n + 2) ss E (σ2.set m (.list (xs.eraseIdx q))) Q) : WP (n + 2) (.Delete [.Subscript (.Name c pc) i px] p :: ss) E σ Q := wp_st fun k A env R F _ X C => by
  refine wpAny_Delete (wpAny_deleteEach_cons (wpAny_delete_Subscript ((evp_name (n := n) h2) k (R.le (by (clear hc; omega))) F fun w b2 r2 => h3 w.up (R.le (Nat.le_add_right _ 2)) (F.nx w) fun z b3 r3 => ?_)))
  refine r3.int_el (C := fun b3 => wpAny (MD k.w) A (delItem b2 b3) _ X z.s) fun t => own_list (D := fun b2 => wpAny (MD k.w) A (delItem b2 (.int j t)) _ X z.s) h4 (r2.nx z) fun ws n' g hws => ?_
  have hl := hws.length
  refine PySem.P.delItem_list (n := n') g ?_ (by rw [List.size_toArray, hl]; exact hq) ?_ (by rw [List.size_toArray, hl]; exact cap_fits hc.1)
  · unfold Builtin.List.listFitsIndex
    simp
    (clear hl; omega)
  · obtain ⟨_, g2⟩ := mapSeq_at (f := fun xs => xs.eraseIdxIfInBounds q) (ws := ws.eraseIdx q) g (by simp)
    exact wpAny_deleteEach_nil (let f := z.up.setL h4 g2 (VRs.eraseIdx hws q); C .next E _ ((w.then z).then f).any _ h5 ((F.nx w |>.nx z).nx f) rfl)
end
end

noncomputable section
open PySem PySem.Calls PyProof.Rows
section
variable {g : GF} {z z' : ZM} {ι ι' : Nat → Addr} {σ σ' : Sto} {h h' : Heap} {P : Params} {mu : List Addr} {env : Env} {E : AE} {I : Addr}
theorem SR.butFr (S : SR P g z ι σ h) {b : Addr} (hz : z b = none) (hi : ∀ k, k < σ.length → ι k ≠ b) (ht : b ≠ tabA) (hs : Heap.ExtBut b h h') (hf : b ∉ g.ad) : SR P g z ι σ h' where
  base := S.base
  fz := fun c o e => hs c o (fun q => by rw [q, hz] at e; cases e) (S.fz c o e)
  own := fun k ao e => let ⟨o, h1, h2⟩ := S.own k ao e; ⟨o, hs _ _ (hi k (List.getElem?_eq_some_iff.mp e).1) h1, h2⟩
  off := S.off
  inj := S.inj
  tab := let ⟨ps, e⟩ := S.tab; ⟨ps, hs _ _ (Ne.symm ht) e⟩
  taboff := S.taboff
  g3 := S.g3
  hi := S.hi
  frs := fun v hv => by
    obtain ⟨a1, L, o, es, ep, a2, a3, a4, a5⟩ := S.frs v hv
    exact ⟨a1, L, o, es, ep, a2, hs _ _ (fun q => hf (List.mem_filterMap.mpr ⟨v, hv, by rw [a2, q]⟩)) a3, a4, a5⟩
theorem SR.newFr (S : SR P g z ι σ h) {b : Addr} (hb : h.get? b = none) : b ∉ g.ad := fun q => by
  obtain ⟨o, _, _, e, _⟩ := S.frs.mem q
  rw [hb] at e; cases e
theorem SR.ownFr (S : SR P g z ι σ h) {k : Nat} (hk : k < σ.length) : ι k ∉ g.ad := fun q => by
  obtain ⟨_, _, _, _, _, _, a, _⟩ := S.frs.mem q
  exact a k hk rfl
theorem SR.zFr (S : SR P g z ι σ h) {b : Addr} {o : Obj} (hb : z b = some o) : b ∉ g.ad := fun q => by
  obtain ⟨_, _, _, _, _, a, _⟩ := S.frs.mem q
  rw [hb] at a; cases a
/-- the iterator itself turns -/
theorem Ext.spare {z₀ : ZM} {ι₀ : Nat → Addr} {σ₀ : Sto} {h₀ : Heap} (e : Ext g mu z₀ ι₀ σ₀ h₀ z ι σ h) (hI : h₀.get? I = none) (hk : ∀ b o, b ≠ I → h.get? b = some o → h'.get? b = some o) : Ext g mu z₀ ι₀ σ₀ h₀ z ι σ h' :=
  { e with
    keep := fun b o hb h1 h2 h3 h4 => hk b o (fun q => by rw [q, hI] at hb; cases hb) (e.keep b o hb h1 h2 h3 h4)
    keepF := fun b o hb h1 h2 h3 => let ⟨sl, q⟩ := e.keepF b o hb h1 h2 h3; ⟨sl, hk b _ (fun q => by rw [q, hI] at hb; cases hb) q⟩
    there := fun b o hb => let ⟨o', ho'⟩ := e.there b o hb; ⟨o', hk b o' (fun q => by rw [q, hI] at hb; cases hb) ho'⟩ }
theorem FR.spare (F : FR P z ι σ env E h) (h1 : env.locals ≠ I) (h2 : ∀ p ∈ env.cells, p.2 ≠ I) (hk : ∀ b o, b ≠ I → h.get? b = some o → h'.get? b = some o) : FR P z ι σ env E h' :=
  { F with
    ns := let ⟨m, hn, hm⟩ := F.ns; ⟨m, ns_at hn fun o ho => hk _ o h1 ho, hm⟩
    cells := fun x hx => let ⟨c, v₀, q1, q2, q3⟩ := F.cells x hx; ⟨c, v₀, q1, cell_at q2 fun o ho => hk _ o (h2 _ (mem_of_lookup q1)) ho, q3⟩
    cthere := fun p hp => let ⟨v₀, q⟩ := F.cthere p hp; ⟨v₀, cell_at q fun o ho => hk _ o (h2 p hp) ho⟩ }
theorem mem_frA_l (env : Env) : env.locals ∈ frA env := List.mem_cons_self
theorem mem_frA_c {env : Env} {p : Str × Addr} (hp : p ∈ env.cells) : p.2 ∈ frA env := List.mem_cons_of_mem _ (List.mem_map.mpr ⟨p, hp, rfl⟩)
theorem FR.len (F : FR P z ι σ env E h) (hl : σ'.length = σ.length) : FR P z ι σ' env E h :=
  { F with
    ns := by rw [hl]; exact F.ns
    cells := by rw [hl]; exact F.cells
    ioff := by rw [hl]; exact F.ioff }
/-- a list of the store is taken by a loop -/
theorem SR.busy (S : SR P g z ι σ h) (k : Nat) : SR P g z ι (σ.set k .busy) h where
  base := S.base
  fz := S.fz
  own := fun j ao e => by
    rw [List.length_set]
    by_cases q : j = k
    · subst q
      by_cases hlt : j < σ.length
      · rw [List.getElem?_set_self hlt] at e
        cases e
        obtain ⟨o, h1, _⟩ := S.own j _ (List.getElem?_eq_getElem hlt)
        exact ⟨o, h1, trivial⟩
      · rw [List.getElem?_eq_none (by rw [List.length_set]; omega)] at e; cases e
    · rw [List.getElem?_set_ne (Ne.symm q)] at e
      exact S.own j ao e
  off := by rw [List.length_set]; exact S.off
  inj := by rw [List.length_set]; exact S.inj
  tab := S.tab
  taboff := by rw [List.length_set]; exact S.taboff
  g3 := S.g3
  hi := by rw [List.length_set]; exact S.hi
  frs := by rw [List.length_set]; exact S.frs
theorem release_len (σ : Sto) (t : Option (Nat × AO)) : (relA σ t).length = σ.length := by
  cases t with
  | none => rfl
  | some p => exact List.length_set ..
/-- ahead of the loop and in it -/
inductive Taken (σ : Sto) : Sto → Option (Nat × AO) → Prop where
  | none : Taken σ σ none
  | some {k : Nat} {xs : List AV} : σ[k]? = some (.list xs) → Taken σ (σ.set k .busy) (some (k, .list xs))
theorem Taken.len {σ1 : Sto} {t : Option (Nat × AO)} (T : Taken σ σ1 t) : σ1.length = σ.length := by
  cases T with
  | none => rfl
  | some _ => exact List.length_set ..
theorem Taken.sr {σ1 : Sto} {t : Option (Nat × AO)} (T : Taken σ σ1 t) (S : SR P g z ι σ h) : SR P g z ι σ1 h := by
  cases T with
  | none => exact S
  | some _ => exact S.busy _
theorem release_ok {σ1 : Sto} {taken : Option (Nat × AO)} (T : Taken σ σ1 taken) (S : SR P g z ι σ h) (hmu : ∀ k, k < σ.length → ι k ∉ mu) (e : Ext g mu z ι σ1 h z' ι' σ' h') (S' : SR P g z' ι' σ' h') :
    Ext g mu z ι σ h z' ι' (relA σ' taken) h' ∧ SR P g z' ι' (relA σ' taken) h' := by
  cases T with
  | none => exact ⟨e, S'⟩
  | @some k xs hk =>
    have hlt : k < σ.length := (List.getElem?_eq_some_iff.mp hk).1
    have hlen : (σ.set k AO.busy).length = σ.length := List.length_set ..
    have hlt1 : k < (σ.set k AO.busy).length := by rw [hlen]; exact hlt
    have hlt' : k < σ'.length := Nat.lt_of_lt_of_le hlt1 e.len
    have hrl : (relA σ' (some (k, .list xs))).length = σ'.length := release_len ..
    refine ⟨⟨e.zle, e.znew, fun j hj => e.ile j (by rw [hlen]; exact hj), fun j h1 h2 => e.inew j (by rw [hrl] at h1; exact h1) (by rw [hlen]; exact h2), by rw [hrl]; have := e.len; rw [hlen] at this; exact this, fun b o hb h1 h2 h3 hf => ?_, fun b o hb h1 h2 h3 => ?_, e.there, fun j hj ao hao => ?_⟩, ?_⟩
    · refine e.keep b o hb h1 h2 (fun j ao hj hx => ?_) hf
      by_cases q : j = k
      · subst q; rw [List.getElem?_set_self hlt] at hj; cases hj; rfl
      · rw [List.getElem?_set_ne (Ne.symm q)] at hj; exact h3 j ao hj hx
    · refine e.keepF b o hb h1 h2 fun j ao hj hx => ?_
      by_cases q : j = k
      · subst q; rw [List.getElem?_set_self hlt] at hj; cases hj; rfl
      · rw [List.getElem?_set_ne (Ne.symm q)] at hj; exact h3 j ao hj hx
    · show _ ↔ (σ'.set k (AO.list xs))[j]? = some ao
      by_cases q : j = k
      · subst q
        rw [List.getElem?_set_self hlt', hk]
      · rw [List.getElem?_set_ne (Ne.symm q)]
        have := e.busy j (by rw [hlen]; exact hj) ao hao
        rw [List.getElem?_set_ne (Ne.symm q)] at this
        exact this
    · obtain ⟨o, h1, h2⟩ := S.own k _ hk
      have hkeep : h'.get? (ι k) = some o := by
        refine e.keep _ o h1 (hmu k hlt) (S.taboff.2 k hlt) (fun j ao hj hx => ?_) (S.ownFr hlt)
        have hjl := (List.getElem?_eq_some_iff.mp hj).1
        rw [hlen] at hjl
        have := S.inj j k hjl hlt hx
        subst this
        rw [List.getElem?_set_self hlt] at hj; cases hj; rfl
      have hik : ι' k = ι k := e.ile k hlt1
      refine S'.upd hlt' (fun b x _ hx => hx) (by rw [hik]; exact hkeep) ?_
      exact h2.mono e.zle (fun j hj => e.ile j (by rw [hlen]; exact hj)) (by have := e.len; rw [hlen] at this; exact this)
theorem FR.live (F : FR P z ι σ env E h) : ∀ b ∈ frA env, ∃ o, h.get? b = some o := fun b hb => by
  rcases List.mem_cons.mp hb with q | q
  · obtain ⟨m, ⟨o, _, _, ho, _⟩, _⟩ := F.ns
    exact ⟨o, q ▸ ho⟩
  · obtain ⟨p, hp, rfl⟩ := List.mem_map.mp q
    obtain ⟨v₀, o, ho, _⟩ := F.cthere p hp
    exact ⟨o, ho⟩
theorem FR.iOff (F : FR P z ι σ env E h) : ∀ k, k < σ.length → ι k ∉ frA env := fun k hk hm => by
  rcases List.mem_cons.mp hm with q | q
  · exact (F.ioff k hk).1 q
  · obtain ⟨p, hp, q⟩ := List.mem_map.mp q
    exact (F.ioff k hk).2 p hp q.symm
end
section
variable {w : World} {A : Around} {s : Shared}
/-- the kinds of iterator that hand on no tuple of their own -/
noncomputable def plainIter : List String := ["list_iterator", "tuple_iterator", "range_iterator", "str_ascii_iterator", "str_iterator"]
set_option tactic.hygienic true in
theorem letGo_ok {t : Expr} {I : Addr} {v : Value} {o : Obj} {T : String} {X : Value → Shared → Prop} {Q : Unit → Shared → Prop} (ho : s.heap.get? I = some o) (hc : o.cls = .type T) (hT : T ∈ plainIter) (hQ : Q () s) :
    wpAny (MD w) A (letOwnedTupleGo t (.ref I) v) Q X s := by
  have key : ∀ a : Addr, wpAny (MD w) A (do
      let o ← load I
      match o.cls, o.data with
      | .type n, .fields vs =>
        if (["enumerate", "zip", "dict_itemiterator", "dict_reverseitemiterator", "odict_iterator", "itertools.zip_longest", "itertools.pairwise"].contains n && vs[0]? == some (rawInt a)) = true then do
          rule "for.unpacks-the-owned-tuple"
          updateField I 0 .none
        else pure ()
      | _, _ => pure ()) Q X s := fun a => by
    refine wpAny_bind (wpAny_load ho ?_)
    rw [hc]
    cases o.data <;> first | exact wpAny_pure hQ | skip
    rename_i vs
    simp only
    rw [if_neg]
    · exact wpAny_pure hQ
    · rw [show (["enumerate", "zip", "dict_itemiterator", "dict_reverseitemiterator", "odict_iterator", "itertools.zip_longest", "itertools.pairwise"].contains T) = false from by
        unfold plainIter at hT
        simp only [List.mem_cons, List.not_mem_nil, or_false] at hT
        rcases hT with q | q | q | q | q <;> subst q <;> decide]
      simp
  unfold letOwnedTupleGo
  cases t <;> first | exact wpAny_pure hQ | skip
  all_goals
    cases v <;> first | exact wpAny_pure hQ | exact key _
end
theorem drop_cons {α : Type} {xs : List α} {i : Nat} {v : α} {vs : List α} (h : xs.drop i = v :: vs) : xs[i]? = some v ∧ xs.drop (i + 1) = vs := by
  constructor
  · have := congrArg (·[0]?) h; simpa using this
  · rw [← List.drop_drop, h]; rfl
theorem drop_nil {α : Type} {xs : List α} {i : Nat} (hi : i ≤ xs.length) (h : xs.drop i = []) : i = xs.length := by
  have := congrArg List.length h; simp at this; omega
section
variable {n : Nat} {σ σ1 σ2 σ' : Sto} {mu mu' : List Addr} {k : K σ} {env : Env} {E E' : AE} {A : Around} {I : Addr} {xs : List AV} {fp : List Addr} {PP : Nat → Value → Prop} {St : Nat → Heap → Prop} {i : Nat} {Q : AF → AE → Sto → Prop}
noncomputable abbrev K.take {t : Option (Nat × AO)} (k : K σ) (T : Taken σ σ1 t) : K σ1 := ⟨k.w, k.g, k.z, k.ι, k.s, k.B, T.sr k.S⟩
/-- an address that stays as it is -/
noncomputable def Kept (k : K σ) (mu : List Addr) (b : Addr) : Prop := (∃ o, k.z b = some o) ∨ (b ∉ mu ∧ b ≠ tabA ∧ b ∉ k.g.ad ∧ ∀ j ao, σ[j]? = some ao → k.ι j = b → ao.still = true)
/-- an object that belongs to the loop alone -/
structure Spare (k : K σ) (mu : List Addr) (b : Addr) : Prop where
  mu : b ∉ mu
  tab : b ≠ tabA
  own : ∀ j, j < σ.length → k.ι j ≠ b
  z : k.z b = none
  live : ∃ o, k.s.heap.get? b = some o
  fr : b ∉ k.g.ad
theorem Kept.same {b : Addr} {o : Obj} (H : Kept k mu b) (x : Nx k mu σ') (ho : k.s.heap.get? b = some o) : x.s.heap.get? b = some o := by
  rcases H with ⟨o', q⟩ | ⟨q1, q2, q4, q3⟩
  · rw [Option.some.inj (ho.symm.trans (k.S.fz _ _ q))]; exact x.S.fz _ _ (x.e.zle _ _ q)
  · exact x.e.keep _ _ ho q1 q2 q3 q4
theorem Kept.nx {b : Addr} {o : Obj} (H : Kept k mu b) (x : Nx k mu σ') (ho : k.s.heap.get? b = some o) : Kept x.up mu b := by
  rcases H with ⟨o', q⟩ | ⟨q1, q2, q4, q3⟩
  · exact .inl ⟨o', x.e.zle _ _ q⟩
  · exact .inr ⟨q1, q2, q4, x.e.stillAt ho q3⟩
theorem Spare.nx {b : Addr} (H : Spare k mu b) (x : Nx k mu σ') : Spare x.up mu b where
  mu := H.mu
  tab := H.tab
  own := fun j hj q => by
    obtain ⟨o, ho⟩ := H.live
    have q : x.ι j = b := q
    by_cases h2 : j < σ.length
    · rw [x.e.ile j h2] at q; exact H.own j h2 q
    · have h5 := x.e.inew j hj (Nat.not_lt.mp h2)
      rw [q, ho] at h5; cases h5
  z := by
    obtain ⟨o, ho⟩ := H.live
    show x.z b = none
    cases q : x.z b with
    | none => rfl
    | some o' =>
      rcases x.e.znew _ _ q with q | q
      · rw [H.z] at q; cases q
      · rw [q] at ho; cases ho
  live := let ⟨o, ho⟩ := H.live; x.e.there _ _ ho
  fr := H.fr
theorem Spare.kept {b : Addr} (H : Spare k mu b) : Kept k mu b := .inr ⟨H.mu, H.tab, H.fr, fun j _ hj hx => absurd hx (H.own j (List.getElem?_eq_some_iff.mp hj).1)⟩
/-- the loop's own object turns -/
noncomputable abbrev Nx.turn (x : Nx k mu σ1) {h' : Heap} (hI : k.s.heap.get? I = none) (H : Spare x.up mu' I) (hk : ∀ b o, b ≠ I → x.s.heap.get? b = some o → h'.get? b = some o) (tk : Nat := x.s.toks) : Nx k mu σ1 :=
  ⟨x.z, x.ι, { x.s with heap := h', toks := tk }, x.e.spare hI hk, x.S.butFr H.z H.own H.tab hk H.fr, x.d.trans (Same.mk x.s h' tk)⟩
/-- a loop's source at turn i -/
structure Src (k : K σ) (A : Around) (mu : List Addr) (I : Addr) (xs : List AV) (fp : List Addr) (P : Nat → Value → Prop) (St : Nat → Heap → Prop) (i : Nat) : Prop where
  W : Walks PG k.w A I fp [I] xs.length P St
  val : ∀ i v a, P i v → xs[i]? = some a → k.V v a
  st : St i k.s.heap
  spare : Spare k mu I
  fps : ∀ b ∈ fp, b = I ∨ (Kept k mu b ∧ ∃ o, k.s.heap.get? b = some o)
  cls : ∀ i h, St i h → ∃ o T, h.get? I = some o ∧ o.cls = .type T ∧ T ∈ plainIter
theorem Src.nx (C : Src k A mu I xs fp PP St i) (x : Nx k mu σ') : Src x.up A mu I xs fp PP St i where
  W := C.W
  val := fun i v a h1 h2 => VR.nx (C.val i v a h1 h2) x
  st := C.W.frame i k.s.heap x.s.heap C.st fun b hb o ho => by
    rcases C.fps b hb with q | ⟨q, _⟩
    · rw [q] at ho ⊢; exact C.spare.kept.same x ho
    · exact q.same x ho
  spare := C.spare.nx x
  fps := fun b hb => by
    rcases C.fps b hb with q | ⟨q, o, ho⟩
    · exact .inl q
    · exact .inr ⟨q.nx x ho, o, q.same x ho⟩
  cls := C.cls
theorem Src.more (C : Src k A mu I xs fp PP St i) (hI : I ∉ mu') (hf : ∀ b ∈ mu', ∀ b' ∈ fp, b ≠ b') : Src k A mu' I xs fp PP St i :=
  { C with
    spare := { C.spare with mu := hI }
    fps := fun b hb => by
      rcases C.fps b hb with q | ⟨q, o, ho⟩
      · exact .inl q
      · refine .inr ⟨?_, o, ho⟩
        rcases q with q | ⟨_, q2⟩
        · exact .inl q
        · exact .inr ⟨fun hm => hf b hm b hb rfl, q2⟩ }
/-- one more item -/
theorem Src.next {k0 : K σ2} {x : Nx k0 mu σ1} {X : Value → Shared → Prop} {Q : Option Value → Shared → Prop} (hI : k0.s.heap.get? I = none) (C : Src x.up A mu' I xs fp PP St i) {a : AV} (ha : xs[i]? = some a)
    (H : ∀ v h' tk (hk : ∀ b o, b ≠ I → x.s.heap.get? b = some o → h'.get? b = some o), x.up.V v a → Src (x.turn hI C.spare hk tk).up A mu' I xs fp PP St (i + 1) → Q (some v) { x.s with heap := h', toks := tk }) : wpAny (MD k0.w) A (pyNext (.ref I)) Q X x.s :=
  C.W.item i x.s Q X (List.getElem?_eq_some_iff.mp ha).1 C.st fun v h' tk hv hst hk => by
    have hk' : ∀ b o, b ≠ I → x.s.heap.get? b = some o → h'.get? b = some o := fun b o hb ho => hk b o (fun q => hb (List.mem_singleton.mp q)) ho
    refine H v h' tk hk' (C.val i v a hv ha) ⟨C.W, C.val, hst, { C.spare with live := let ⟨o, _, ho, _⟩ := C.cls _ _ hst; ⟨o, ho⟩ }, fun b hb => ?_, C.cls⟩
    rcases C.fps b hb with q | ⟨q, o, ho⟩
    · exact .inl q
    · by_cases hbI : b = I
      · exact .inl hbI
      · exact .inr ⟨q, o, hk' b o hbI ho⟩
theorem Src.done {k0 : K σ2} {x : Nx k0 mu σ1} {X : Value → Shared → Prop} {Q : Option Value → Shared → Prop} (C : Src x.up A mu' I xs fp PP St xs.length) (H : ∀ h' tk, (∀ b o, b ≠ I → x.s.heap.get? b = some o → h'.get? b = some o) → Q none { x.s with heap := h', toks := tk }) : wpAny (MD k0.w) A (pyNext (.ref I)) Q X x.s :=
  C.W.done x.s Q X C.st fun h' tk hk => H h' tk fun b o hb ho => hk b o (fun q => hb (List.mem_singleton.mp q)) ho
/-- between two turns of a loop -/
inductive LoopI (k : K σ) (A : Around) (env : Env) (I : Addr) (xs : List AV) (fp : List Addr) (PP : Nat → Value → Prop) (St : Nat → Heap → Prop) (Inv : List AV → AE → Sto → Prop) (m : Nat) (s : Shared) : Prop where
  | mk (i : Nat) (E1 : AE) (σ1 : Sto) (x : Nx k (frA env) σ1) : s = x.s → m = xs.length + 1 - i → i ≤ xs.length → Inv (xs.drop i) E1 σ1 → x.up.Fr env E1 → Src x.up A (frA env) I xs fp PP St i → LoopI k A env I xs fp PP St Inv m s
theorem for_ok {tgt : Expr} {body : List Stmt} (Inv : List AV → AE → Sto → Prop) (turn : ∀ v vs E σ, Inv (v :: vs) E σ → ∃ E1, BT tgt v E E1 ∧ WP n body E1 σ fun f E' σ' => (f = .next ∨ f = .cont) ∧ Inv vs E' σ')
    (R : Room k.g (n + 2) A) {x0 : Nx k (frA env) σ} (h0 : Inv xs E σ) (F : x0.up.Fr env E) (hI : k.s.heap.get? I = none) (C : Src x0.up A (frA env) I xs fp PP St 0) {RR : Result → Shared → Prop} (H : ∀ E' σ' (x : Nx k (frA env) σ'), Inv [] E' σ' → x.up.Fr env E' → RR (.ok .next) x.s) :
    codeAny (MD k.w) A (.forLoop tgt (.ref I) body [] env) RR x0.s := by
  refine codeAny_forLoop_any (LoopI k A env I xs fp PP St Inv) ?_ _ ⟨0, E, σ, x0, rfl, rfl, Nat.zero_le _, h0, F, C⟩
  rintro m s1 ⟨i, E1, σ1, x, rfl, rfl, hi, h1, F1, C1⟩
  have hIl : env.locals ≠ I := fun q => C1.spare.mu (q ▸ mem_frA_l env)
  have hIc : ∀ p ∈ env.cells, p.2 ≠ I := fun p hp q => C1.spare.mu (q ▸ mem_frA_c hp)
  cases hd : xs.drop i with
  | nil =>
    have := drop_nil hi hd
    subst this
    rw [hd] at h1
    exact C1.done fun h' tk hk => wpAny_execs_nil (H E1 σ1 (x.turn hI C1.spare hk tk) h1 (F1.spare hIl hIc hk))
  | cons a as =>
    obtain ⟨ha, has⟩ := drop_cons hd
    rw [hd] at h1
    obtain ⟨E2, hb, hw⟩ := turn a as E1 σ1 h1
    refine C1.next hI ha fun v h' tk hk rv C2 => ?_
    obtain ⟨o, T, ho, hc, hT⟩ := C2.cls _ _ C2.st
    let y := x.turn hI C1.spare hk tk
    refine letGo_ok (s := y.s) ho hc hT (hb.ok (k := y.up) R.handled (Wr.frA env _) rv (F1.spare hIl hIc hk) fun u F2 => hw u.up R F2 fun f E' σ' w fl p F3 r => ?_)
    have fin : ∃ m', m' < xs.length + 1 - i ∧ LoopI k A env I xs fp PP St Inv m' w.s :=
      ⟨_, Nat.sub_lt_sub_left (Nat.lt_succ_of_le hi) (Nat.lt_succ_self i), i + 1, E', σ', (y.then u).then w, rfl, rfl, (List.getElem?_eq_some_iff.mp ha).1, has ▸ p.2, F3, (C2.nx u).nx w⟩
    rcases p.1 with q | q
    · subst q; cases (show fl = .next from r); exact fin
    · subst q; cases (show fl = .cont from r); exact fin
/-- what a loop goes over -/
noncomputable def SRC (v : AV) (σ : Sto) (xs : List AV) (σ2 : Sto) (t : Option (Nat × AO)) : Prop := ∃ T : Taken σ σ2 t, ∀ (k : K σ) {A : Around} {u : Value} {mu : List Addr}, A.handled = none → k.V u v → (∀ b ∈ mu, ∃ o, k.s.heap.get? b = some o) → (∀ j, j < σ.length → k.ι j ∉ mu) → ∀ {Q X : Value → Shared → Prop},
  (∀ o fp PP St, Src ((k.take T).grow (mu := mu) _ k.s.toks (push_keeps _ o)).up A mu k.s.heap.objs.size xs fp PP St 0 → Q (.ref k.s.heap.objs.size) { k.s with heap := k.s.heap.push o }) → wpAny (MD k.w) A (pyIter u) Q X k.s
theorem spare_new {t : Option (Nat × AO)} (T : Taken σ σ2 t) (hmu : ∀ b ∈ mu, ∃ o, k.s.heap.get? b = some o) {o : Obj} (ho : o.isFreed = false) : Spare ((k.take T).grow (mu := mu) _ k.s.toks (push_keeps _ o)).up mu k.s.heap.objs.size :=
  ⟨fun q => (by obtain ⟨x, hx⟩ := hmu _ q; rw [new_not] at hx; cases hx), fun q => (by obtain ⟨ps, hx⟩ := k.S.tab; rw [← q, new_not] at hx; cases hx),
    fun j hj q => (by rw [T.len] at hj; obtain ⟨x, h1, _⟩ := k.S.own j _ (List.getElem?_eq_getElem hj); rw [q, new_not] at h1; cases h1), k.S.none_of new_not, ⟨o, Heap.get?_push_size _ ho⟩, k.S.newFr new_not⟩
theorem VRs.at {P : Params} {z : ZM} {ι : Nat → Addr} {n : Nat} {vs : List Value} {xs : List AV} (r : VRs P z ι n vs xs) {i : Nat} {v : Value} {a : AV} (hv : vs.toArray[i]? = some v) (ha : xs[i]? = some a) : VR P z ι n v a := by
  obtain ⟨u, h1, h2⟩ := r.get ha
  rw [List.getElem?_toArray, h1] at hv
  exact Option.some.inj hv ▸ h2
end
end

noncomputable section
open PySem PySem.Calls PyProof.Rows
theorem rngList_get {lo hi st : Int} {i : Nat} {a : Int} (hs : st = 1 ∨ st = -1) (h : (rngList lo hi st)[i]? = some a) : a = lo + i * st := by
  unfold rngList at h
  rcases hs with q | q <;> subst q
  · rw [if_pos rfl, List.getElem?_map] at h
    cases q : (List.range (hi - lo).toNat)[i]? with
    | none => rw [q] at h; cases h
    | some j =>
      rw [q] at h
      have := (List.getElem?_eq_some_iff.mp q).2
      rw [List.getElem_range] at this
      simp only [Option.map_some, Option.some.injEq] at h
      omega
  · rw [if_neg (by decide), if_pos rfl, List.getElem?_map] at h
    cases q : (List.range (lo - hi).toNat)[i]? with
    | none => rw [q] at h; cases h
    | some j =>
      rw [q] at h
      have := (List.getElem?_eq_some_iff.mp q).2
      rw [List.getElem_range] at this
      simp only [Option.map_some, Option.some.injEq] at h
      omega
theorem rngList_size {lo hi st : Int} (hs : st = 1 ∨ st = -1) : Builtin.Range.rangeSize lo hi st = ((rngList lo hi st).length : Int) := by
  unfold rngList Builtin.Range.rangeSize
  rcases hs with q | q <;> subst q
  · rw [if_pos (by decide), if_pos rfl, List.length_map, List.length_range]
    split <;> simp <;> omega
  · rw [if_neg (show ¬ ((-1 : Int) > 0) by decide), if_neg (show ¬ ((-1 : Int) = 1) by decide), if_pos rfl, List.length_map, List.length_range]
    split <;> simp <;> omega
theorem rng_small {lo hi st : Int} (hs : st = 1 ∨ st = -1) (h1 : -1000000 ≤ lo) (h2 : lo ≤ 1000000) (h3 : -1000000 ≤ hi) (h4 : hi ≤ 1000000) : Builtin.Range.small lo hi st = true := by
  have hsz := rngList_size (lo := lo) (hi := hi) hs
  have hb : Builtin.Range.rangeSize lo hi st ≤ 2000000 := by
    unfold Builtin.Range.rangeSize
    rcases hs with q | q <;> subst q <;> simp <;> split <;> (clear hsz; omega)
  have h0 : 0 ≤ Builtin.Range.rangeSize lo hi st := by rw [hsz]; (clear hb hsz h4 h3 h2 h1 hs; omega)
  unfold Builtin.Range.small
  simp only [Builtin.Range.rangeFitsLong, Bool.and_eq_true, decide_eq_true_eq, Bool.or_eq_true]
  refine ⟨⟨⟨⟨⟨by (clear h0 hb hsz h4 h3 h2 hs; omega), by (clear h0 hb hsz h4 h3 h1 hs; omega)⟩, by (clear h0 hb hsz h4 h2 h1 hs; omega), by (clear h0 hb hsz h3 h2 h1 hs; omega)⟩, by (clear h0 hb hsz h4 h3 h2 h1; omega), by (clear h0 hb hsz h4 h3 h2 h1; omega)⟩, by (clear h0 hb h4 h3 h2 h1 hs; omega), by (clear h0 hsz h4 h3 h2 h1 hs; omega)⟩, .inr ?_⟩
  rcases hs with q | q <;> subst q <;> simp <;> (clear h0 hb hsz h2 h1; omega)
section
variable {n : Nat} {σ σ1 σ2 σ' : Sto} {E E1 : AE} {v : AV} {x : Str} {xs : List AV} {j : Nat} {Q : AF → AE → Sto → Prop}
theorem mem_plain {T : String} {h : Heap} {I : Addr} {o : Obj} (ho : h.get? I = some o) (hc : o.cls = .type T) (hT : plainIter.contains T = true := by rfl) : ∃ o T, h.get? I = some o ∧ o.cls = .type T ∧ T ∈ plainIter := ⟨o, T, ho, hc, List.contains_iff_mem.mp hT⟩
/-- over a list in the heap -/
theorem src_at {k : K σ} {A : Around} {mu : List Addr} {t : Option (Nat × AO)} (T : Taken σ σ2 t) (hh : A.handled = none) (hmu : ∀ b ∈ mu, ∃ o, k.s.heap.get? b = some o) {l : Addr} {vs : List Value} {m : Nat} (g : k.s.heap.get? l = some (listO vs m)) (hs : k.Vs vs xs) (hl : Kept (k.take T) mu l) {Q X : Value → Shared → Prop}
    (C : ∀ o fp PP St, Src ((k.take T).grow (mu := mu) _ k.s.toks (push_keeps _ o)).up A mu k.s.heap.objs.size xs fp PP St 0 → Q (.ref k.s.heap.objs.size) { k.s with heap := k.s.heap.push o }) : wpAny (MD k.w) A (pyIter (.ref l)) Q X k.s := by
  have W := Walks.list (prog := PG) (w := k.w) hh k.s.heap.objs.size l (Nat.ne_of_lt (Heap.lt_size g)) vs.toArray
  rw [show vs.toArray.size = xs.length from by rw [List.size_toArray, hs.length]] at W
  refine wpAny_pyIter_list (items := vs.toArray) ⟨_, g, rfl, _, rfl⟩ (C _ _ _ _ ⟨W, fun i v a h1 h2 => by show VR _ _ _ σ2.length _ _; rw [T.len]; exact hs.at h1 h2, ⟨⟨_, Heap.get?_push_size _ rfl, rfl, rfl⟩, ⟨_, Heap.get?_push_of_some _ g, rfl, _, rfl⟩⟩, spare_new T hmu rfl, fun b hb => ?_, fun i h hi => let ⟨⟨o, ho, hc, _⟩, _⟩ := hi; mem_plain ho hc⟩)
  rcases List.mem_cons.mp hb with q | q
  · exact .inl q
  · rw [List.mem_singleton.mp q]
    exact .inr ⟨hl, _, Heap.get?_push_of_some _ g⟩
theorem src_list : SRC (.list xs) σ xs σ none := ⟨.none, fun k A u mu hh r hmu _ Q X C => r.list_el (C := fun u => wpAny (MD k.w) A (pyIter u) Q X k.s) fun _ _ _ q hs => src_at .none hh hmu (k.S.fz _ _ q) hs (.inl ⟨_, q⟩) C⟩
theorem src_own (h : σ[j]? = some (.list xs)) : SRC (.own j) σ xs (σ.set j .busy) (some (j, .list xs)) := ⟨.some h, fun k A u mu hh r hmu hmi Q X C => own_list (D := fun u => wpAny (MD k.w) A (pyIter u) Q X k.s) h r fun ws q g hs => by
  have hj := (List.getElem?_eq_some_iff.mp h).1
  refine src_at (.some h) hh hmu g hs (.inr ⟨hmi j hj, k.S.taboff.2 j hj, k.S.ownFr hj, fun i ao hi hx => ?_⟩) C
  have hil := (List.getElem?_eq_some_iff.mp hi).1
  rw [List.length_set] at hil
  have := k.S.inj i j hil hj hx
  subst this
  rw [List.getElem?_set_self hj] at hi; cases hi; rfl⟩
theorem src_ro (h : σ[j]? = some (.ro xs)) : SRC (.own j) σ xs σ none := ⟨.none, fun k A u mu hh r hmu hmi Q X C => r.own_el (C := fun u => wpAny (MD k.w) A (pyIter u) Q X k.s) fun hj => own_list_el (.inr h) fun vs m g hs => src_at .none hh hmu g hs (.inr ⟨hmi j hj, k.S.taboff.2 j hj, k.S.ownFr hj, fun i ao hi hx => by
  rw [k.S.inj i j (List.getElem?_eq_some_iff.mp hi).1 hj hx, h] at hi; exact Option.some.inj hi ▸ rfl⟩) C⟩
theorem src_tup : SRC (.tup xs) σ xs σ none := ⟨.none, fun k A u mu hh r hmu _ Q X C => r.tup_el (C := fun u => wpAny (MD k.w) A (pyIter u) Q X k.s) fun l vs m hz hs => by
  have g := k.S.fz _ _ hz
  have W := Walks.tuple (prog := PG) (w := k.w) hh k.s.heap.objs.size l (Nat.ne_of_lt (Heap.lt_size g)) vs.toArray
  rw [show vs.toArray.size = xs.length from by rw [List.size_toArray, hs.length]] at W
  refine wpAny_pyIter_tuple (items := vs.toArray) ⟨_, g, rfl, _, rfl⟩ (C _ _ _ _ ⟨W, fun i v a h1 h2 => hs.at h1 h2, ⟨⟨_, Heap.get?_push_size _ rfl, rfl, rfl⟩, ⟨_, Heap.get?_push_of_some _ g, rfl, _, rfl⟩⟩, spare_new .none hmu rfl, fun b hb => ?_, fun i h hi => let ⟨⟨o, ho, hc, _⟩, _⟩ := hi; mem_plain ho hc⟩)
  rcases List.mem_cons.mp hb with q | q
  · exact .inl q
  · rw [List.mem_singleton.mp q]
    exact .inr ⟨.inl ⟨_, hz⟩, _, Heap.get?_push_of_some _ g⟩⟩
theorem src_rng0 {lo hi st : Int} (h : (st = 1 ∨ st = -1) ∧ -1000000 ≤ lo ∧ lo ≤ 1000000 ∧ -1000000 ≤ hi ∧ hi ≤ 1000000) : SRC (.rng lo hi st) σ ((rngList lo hi st).map .int) σ none := ⟨.none, fun k A u mu hh r hmu _ Q X C => r.rng_el (C := fun u => wpAny (MD k.w) A (pyIter u) Q X k.s) fun l _ _ _ hz => by
  obtain ⟨hst, h1, h2, h3, h4⟩ := h
  refine wpAny_pyIter_range (k.S.fz _ _ hz) (rng_small hst h1 h2 h3 h4) (C _ [k.s.heap.objs.size] (fun i v => ∃ t, v = .int (lo + i * st) t) (fun i h => IsRangeIter h k.s.heap.objs.size (lo + (i : Nat) * st) (((rngList lo hi st).length : Int) - (i : Nat)) st)
    ⟨by rw [List.length_map]; exact Walks.range hh _ lo st _, ?_, ?_, spare_new .none hmu rfl, fun b hb => .inl (List.mem_singleton.mp hb), fun i h hi => mem_plain hi rfl⟩)
  · rintro i v a ⟨t, rfl⟩ h2
    rw [List.getElem?_map] at h2
    cases q : (rngList lo hi st)[i]? with
    | none => rw [q] at h2; cases h2
    | some b =>
      rw [q] at h2; cases h2
      rw [rngList_get hst q]
      exact .int _ _
  · show Heap.get? _ _ = _
    rw [show lo + ((0 : Nat) : Int) * st = lo by simp, show ((rngList lo hi st).length : Int) - ((0 : Nat) : Int) = Builtin.Range.rangeSize lo hi st by rw [rngList_size hst]; simp]
    exact Heap.get?_push_size _ rfl⟩
theorem src_str : SRC (.str x) σ (x.cps.toList.map fun c => .str ⟨#[c]⟩) σ none := ⟨.none, fun k A u mu hh r hmu _ Q X C => r.str_el (C := fun u => wpAny (MD k.w) A (pyIter u) Q X k.s) fun t => by
  have hval : ∀ (i : Nat) (v : Value) (a : AV), SignAt x i v → (x.cps.toList.map fun c => AV.str ⟨#[c]⟩)[i]? = some a → k.V v a := by
    rintro i v a ⟨c, u, hc, rfl⟩ h2
    rw [List.getElem?_map, Array.getElem?_toList, hc] at h2
    exact Option.some.inj h2 ▸ .str _ _
  have hlen : x.cps.size = (x.cps.toList.map fun c => AV.str ⟨#[c]⟩).length := by rw [List.length_map, Array.length_toList]
  cases ha : x.cps.all (· < 128)
  · exact wpAny_pyIter_wide ha (C _ _ _ _ ⟨hlen ▸ Walks.strWide hh _ x t, hval, ⟨_, Heap.get?_push_size _ rfl, rfl, rfl⟩, spare_new .none hmu rfl, fun b hb => .inl (List.mem_singleton.mp hb), fun i h hi => let ⟨o, ho, hc, _⟩ := hi; mem_plain ho hc⟩)
  · exact wpAny_pyIter_ascii ha (C _ _ _ _ ⟨hlen ▸ Walks.strAscii hh _ x t, hval, ⟨_, Heap.get?_push_size _ rfl, rfl, rfl⟩, spare_new .none hmu rfl, fun b hb => .inl (List.mem_singleton.mp hb), fun i h hi => let ⟨o, ho, hc, _⟩ := hi; mem_plain ho hc⟩)⟩
/-- the loop ends: its list may change again -/
noncomputable abbrev Nx.release {t : Option (Nat × AO)} {k : K σ} (T : Taken σ σ1 t) {mu : List Addr} (hmu : ∀ j, j < σ.length → k.ι j ∉ mu) (x : Nx (k.take T) mu σ') : Nx k mu (relA σ' t) :=
  ⟨x.z, x.ι, x.s, (release_ok T k.S hmu x.e x.S).1, (release_ok T k.S hmu x.e x.S).2, x.d⟩
theorem plainSet_ok {e : Expr} (h : plainSet e = true) (env : Env) (x : Value) : foldedSetIterable e env x = pure x := by
  cases e <;> first | rfl | cases h
theorem wp_for {t i : Expr} {b : List Stmt} {p : Pos} {ss : List Stmt} {taken : Option (Nat × AO)} (hp : plainSet i = true) (h1 : EV n i E σ v σ1) (h2 : SRC v σ1 xs σ2 taken) (Inv : List AV → AE → Sto → Prop) (h3 : Inv xs E σ2)
    (turn : ∀ v vs E σ, Inv (v :: vs) E σ → ∃ E1, BT t v E E1 ∧ WP n b E1 σ fun f E' σ' => (f = .next ∨ f = .cont) ∧ Inv vs E' σ')
    (h4 : ∀ E' σ', Inv [] E' σ' → WP (n + 2) ss E' (relA σ' taken) Q) : WP (n + 2) (.For t i b [] p :: ss) E σ Q := wp_st fun k A env R F _ X C =>
  wpAny_For (h1 k (R.le (Nat.le_add_right _ 2)) F fun x u r => by
    obtain ⟨T, h2⟩ := h2
    have F1 := F.nx x
    refine h2 x.up R.handled r F1.live F1.iOff fun o fp PP St C2 => ?_
    let y : Nx (x.up.take T) (frA env) σ2 := (x.up.take T).grow _ x.s.toks (push_keeps _ o)
    refine for_ok (k := x.up.take T) (x0 := y) Inv turn (R.le (Nat.le_add_right _ 2)) h3 (FR.len (FR.ext F1 (Ext.grow (g := x.up.g) (push_keeps _ o))) T.len) new_not C2 fun E' σ' z h F' => ?_
    exact C .next E' _ (x.any.then (Nx.release T F1.iOff z)) _ (h4 E' σ' h) (FR.len F' (release_len ..)) rfl) (fun x => plainSet_ok hp env x)
/-- a while loop, by its measure -/
inductive WhileI (k : K σ) (env : Env) (Inv : Nat → AE → Sto → Prop) (m : Nat) (s : Shared) : Prop where
  | mk (E1 : AE) (σ1 : Sto) (x : Nx k (frA env) σ1) : s = x.s → Inv m E1 σ1 → x.up.Fr env E1 → WhileI k env Inv m s
theorem wp_whileB {t : Expr} {b : List Stmt} {p : Pos} {ss : List Stmt} (Inv : Nat → AE → Sto → Prop) (Fin : AE → Sto → Prop)
    (turn : ∀ m E σ, Inv m E σ → (IT n t E σ false σ ∧ Fin E σ) ∨ (IT n t E σ true σ ∧ WP n b E σ fun f E' σ' => ((f = .next ∨ f = .cont) ∧ ∃ k, m = k + 1 ∧ Inv k E' σ') ∨ (f = .brk ∧ Fin E' σ')))
    {m : Nat} (h : Inv m E σ) (h4 : ∀ E' σ', Fin E' σ' → WP (n + 2) ss E' σ' Q) : WP (n + 2) (.While t b [] p :: ss) E σ Q := wp_st fun k A env R F _ X C => by
  have R2 := R.le (Nat.le_add_right (n + 2) 2)
  refine wpAny_While (codeAny_whileLoop (WhileI k env Inv) ?_ m ⟨E, σ, k.nx, rfl, h, F⟩)
  rintro m s1 ⟨E1, σ1, x, rfl, hi, F1⟩
  rcases turn m E1 σ1 hi with ⟨h1, h2⟩ | ⟨h1, h2⟩
  · exact h1 x.up R2 F1 fun y => wpAny_execs_nil (C .next E1 σ1 (x.then y.any) _ (h4 _ _ h2) (F1.nx y) rfl)
  · refine h1 x.up R2 F1 fun y => h2 y.up R2 (F1.nx y) fun f E' σ' z fl p F3 r => ?_
    rcases p with ⟨q, j, rfl, hj⟩ | ⟨q, hf⟩
    · have fin : ∃ m', m' < j + 1 ∧ WhileI k env Inv m' z.s := ⟨j, Nat.lt_succ_self j, E', σ', (x.then y.any).then z, rfl, hj, F3⟩
      rcases q with q | q
      · subst q; cases (show fl = .next from r); exact fin
      · subst q; cases (show fl = .cont from r); exact fin
    · subst q; cases (show fl = .brk from r)
      exact C .next E' σ' ((x.then y.any).then z) _ (h4 _ _ hf) F3 rfl
theorem wp_while {t : Expr} {b : List Stmt} {p : Pos} {ss : List Stmt} (Inv : Nat → AE → Sto → Prop) (Fin : AE → Sto → Prop)
    (turn : ∀ m E σ, Inv m E σ → (IT n t E σ false σ ∧ Fin E σ) ∨ (IT n t E σ true σ ∧ ∃ k, m = k + 1 ∧ WP n b E σ fun f E' σ' => (f = .next ∨ f = .cont) ∧ Inv k E' σ'))
    {m : Nat} (h : Inv m E σ) (h4 : ∀ E' σ', Fin E' σ' → WP (n + 2) ss E' σ' Q) : WP (n + 2) (.While t b [] p :: ss) E σ Q :=
  wp_whileB Inv Fin (fun m E σ hi => (turn m E σ hi).imp id fun ⟨h1, k, e, h2⟩ => ⟨h1, wp_mono h2 fun _ _ _ q => .inl ⟨q.1, k, e, q.2⟩⟩) h h4
end
end

noncomputable section
open PySem PySem.Calls PyProof.Rows
/-- the cells that a comprehension takes along -/
noncomputable def clo (cells : List (Str × Addr)) : List (Str × NameKind) → List (Str × Addr) → List (Str × Addr)
  | [], acc => acc
  | p :: r, acc => if (p.2 == NameKind.free) = true then clo cells r ((p.1, (cells.lookup p.1).getD 0) :: acc) else clo cells r acc
theorem clo_go {env : Env} (f : Str × NameKind → List (Str × Addr) → Sem (ForInStep (List (Str × Addr))))
    (hf : ∀ n k cs, f (n, k) cs = if (k == NameKind.free) = true then (cellOf env n >>= fun c => pure (.yield ((n, c) :: cs))) else pure (.yield cs)) :
    ∀ (names : List (Str × NameKind)) (acc : List (Str × Addr)), (∀ p ∈ names, p.2 = .free → ∃ c, env.cells.lookup p.1 = some c) → forIn names acc f = pure (clo env.cells names acc)
  | [], acc, _ => by simp only [List.forIn_nil, clo]
  | (x, k) :: names, acc, h => by
    have ih := fun acc => clo_go f hf names acc fun p hp => h p (List.mem_cons_of_mem _ hp)
    rw [List.forIn_cons, hf]
    unfold clo
    by_cases q : (k == NameKind.free) = true
    · rw [if_pos q, if_pos q]
      obtain ⟨c, hc⟩ := h (x, k) List.mem_cons_self (by simpa using q)
      unfold cellOf
      rw [hc]
      exact ih _
    · rw [if_neg q, if_neg q]
      exact ih _
theorem clo_ok {scope : Scope} {env : Env} (h : ∀ p ∈ scope.names, p.2 = .free → ∃ c, env.cells.lookup p.1 = some c) : closureFor scope env = pure (clo env.cells scope.names []) := by
  unfold closureFor
  show (forIn scope.names [] _ >>= _) = _
  rw [clo_go (env := env) _ (fun n k cs => by cases hk : (k == NameKind.free) <;> simp [hk]) scope.names [] h]
  rfl
theorem clo_mem {cells : List (Str × Addr)} : ∀ (names : List (Str × NameKind)) (acc : List (Str × Addr)) (p : Str × Addr), p ∈ clo cells names acc → p ∈ acc ∨ ((p.1, NameKind.free) ∈ names ∧ p.2 = (cells.lookup p.1).getD 0)
  | [], acc, p, h => .inl h
  | (x, k) :: names, acc, p, h => by
    unfold clo at h
    by_cases q : (k == NameKind.free) = true
    · rw [if_pos q] at h
      have hk : k = .free := by simpa using q
      rcases clo_mem names _ p h with h1 | ⟨h1, h2⟩
      · rcases List.mem_cons.mp h1 with h1 | h1
        · subst h1; exact .inr ⟨by rw [hk]; exact List.mem_cons_self, rfl⟩
        · exact .inl h1
      · exact .inr ⟨List.mem_cons_of_mem _ h1, h2⟩
    · rw [if_neg q] at h
      rcases clo_mem names _ p h with h1 | ⟨h1, h2⟩
      · exact .inl h1
      · exact .inr ⟨List.mem_cons_of_mem _ h1, h2⟩
theorem clo_sub {cells : List (Str × Addr)} : ∀ (names : List (Str × NameKind)) (acc : List (Str × Addr)) (p : Str × Addr), p ∈ acc → p ∈ clo cells names acc
  | [], acc, p, h => h
  | (x, k) :: names, acc, p, h => by
    unfold clo
    split
    · exact clo_sub names _ p (List.mem_cons_of_mem _ h)
    · exact clo_sub names _ p h
theorem clo_has {cells : List (Str × Addr)} : ∀ (names : List (Str × NameKind)) (acc : List (Str × Addr)) (x : Str), (x, NameKind.free) ∈ names → (x, (cells.lookup x).getD 0) ∈ clo cells names acc
  | (y, k) :: names, acc, x, h => by
    unfold clo
    rcases List.mem_cons.mp h with q | q
    · cases q
      rw [if_pos (by rfl)]
      exact clo_sub names _ _ List.mem_cons_self
    · split
      · exact clo_has names _ x q
      · exact clo_has names _ x q
set_option tactic.hygienic true in
theorem look_mem {α : Type} {x : Str} {a : α} : ∀ {l : List (Str × α)}, look x l = some a → (x, a) ∈ l
  | p :: r, h => by
    unfold look at h
    split at h
    · rename_i q
      cases h
      rw [← (sq_iff _ _).mp q]
      exact List.mem_cons_self
    · exact List.mem_cons_of_mem _ (look_mem h)
set_option tactic.hygienic true in
theorem look_of_mem {α : Type} {x : Str} {a : α} : ∀ {l : List (Str × α)}, (x, a) ∈ l → ∃ b, look x l = some b
  | p :: r, h => by
    unfold look
    split
    · exact ⟨_, rfl⟩
    · rename_i q
      rcases List.mem_cons.mp h with h | h
      · subst h; rw [sq_refl] at q; cases q
      · exact look_of_mem h
set_option tactic.hygienic true in
theorem nodupN_look {x : Str} {k : NameKind} : ∀ {l : List (Str × NameKind)}, nodupN l = true → (x, k) ∈ l → look x l = some k
  | p :: r, hn, h => by
    unfold nodupN at hn
    split at hn
    · cases hn
    · rename_i q
      unfold look
      rcases List.mem_cons.mp h with h | h
      · subst h; rw [sq_refl]
      · cases q2 : sq p.1 x with
        | true =>
          have := (sq_iff _ _).mp q2
          subst this
          obtain ⟨b, hb⟩ := look_of_mem h
          rw [q] at hb; cases hb
        | false => exact nodupN_look hn h
set_option tactic.hygienic true in
theorem clo_apart {cells : List (Str × Addr)} (hc : cells.Pairwise fun a b => a.2 ≠ b.2) : ∀ (names : List (Str × NameKind)) (acc : List (Str × Addr)), nodupN names = true → (∀ p ∈ names, p.2 = .free → ∃ c, cells.lookup p.1 = some c) →
    (∀ p ∈ acc, cells.lookup p.1 = some p.2 ∧ look p.1 names = none) → acc.Pairwise (fun a b => a.2 ≠ b.2) → (clo cells names acc).Pairwise fun a b => a.2 ≠ b.2
  | [], acc, _, _, _, ha => ha
  | (x, k) :: names, acc, hn, h, hacc, ha => by
    unfold nodupN at hn
    split at hn
    · cases hn
    · rename_i q
      have next : ∀ p ∈ acc, cells.lookup p.1 = some p.2 ∧ look p.1 names = none := fun p hp => by
        obtain ⟨h1, h2⟩ := hacc p hp
        refine ⟨h1, ?_⟩
        unfold look at h2
        split at h2
        · cases h2
        · exact h2
      unfold clo
      split
      · rename_i hk
        have hk : k = .free := by simpa using hk
        obtain ⟨c, hcx⟩ := h (x, k) List.mem_cons_self hk
        refine clo_apart hc names _ hn (fun p hp => h p (List.mem_cons_of_mem _ hp)) (fun p hp => ?_) (List.pairwise_cons.mpr ⟨fun p hp => ?_, ha⟩)
        · rcases List.mem_cons.mp hp with hp | hp
          · subst hp
            refine ⟨?_, q⟩
            show cells.lookup x = some ((cells.lookup x).getD 0)
            have hcx : cells.lookup x = some c := hcx
            rw [hcx]; rfl
          · exact next p hp
        · obtain ⟨h1, h2⟩ := hacc p hp
          have hcx : cells.lookup x = some c := hcx
          show (cells.lookup x).getD 0 ≠ p.2
          rw [hcx]
          refine lookup_apart hc hcx h1 fun e => ?_
          subst e
          unfold look at h2
          rw [sq_refl] at h2; cases h2
      · exact clo_apart hc names _ hn (fun p hp => h p (List.mem_cons_of_mem _ hp)) next ha
theorem lookup_of_apart {l : List (Str × Addr)} {x : Str} {c : Addr} : (∀ p ∈ l, p.1 = x → p.2 = c) → (x, c) ∈ l → l.lookup x = some c := by
  induction l with
  | nil => intro _ h; cases h
  | cons p r ih =>
    intro hu h
    rw [List.lookup_cons]
    cases q : (x == p.1) with
    | true => rw [hu p List.mem_cons_self (by simpa using (by simpa using q : x = p.1).symm)]
    | false =>
      rcases List.mem_cons.mp h with h | h
      · subst h; simp at q
      · exact ih (fun p hp => hu p (List.mem_cons_of_mem _ hp)) h
theorem clo_lookup {cells : List (Str × Addr)} {names : List (Str × NameKind)} {x : Str} {c : Addr} (hx : (x, NameKind.free) ∈ names) (hc : cells.lookup x = some c) : (clo cells names []).lookup x = some c := by
  have h1 := clo_has (cells := cells) names [] x hx
  rw [hc] at h1
  refine lookup_of_apart (fun p hp e => ?_) h1
  rcases clo_mem names [] p hp with q | ⟨_, q⟩
  · cases q
  · rw [q, e, hc]; rfl
theorem relabel_lookup {env : Env} (x : Str) : ∀ names : List (Str × NameKind), nodupN names = true →
    (names.map fun (n, k) => if (k == NameKind.free && env.scope.kind == .function && env.kindOf n == some .cell) then (n, NameKind.cell) else (n, k)).lookup x = look x names ∨
    ((names.map fun (n, k) => if (k == NameKind.free && env.scope.kind == .function && env.kindOf n == some .cell) then (n, NameKind.cell) else (n, k)).lookup x = some .cell ∧ look x names = some .free)
  | [], _ => .inl rfl
  | (y, k) :: names, hn => by
    have hn' : nodupN names = true := by
      unfold nodupN at hn
      split at hn
      · cases hn
      · exact hn
    have ih := relabel_lookup (env := env) x names hn'
    rw [List.map_cons]
    unfold look
    by_cases hc : (k == NameKind.free && env.scope.kind == .function && env.kindOf y == some .cell) = true
    · simp only [hc, if_true]
      rw [List.lookup_cons]
      cases q : sq y x with
      | true =>
        have := (sq_iff _ _).mp q
        subst this
        simp only [beq_self_eq_true]
        have : k = .free := by
          simp only [Bool.and_eq_true] at hc
          simpa using hc.1.1
        exact .inr ⟨trivial, by rw [this]⟩
      | false =>
        have : (x == y) = false := by have := (sq_false _ _).mp q; simp [Ne.symm this]
        rw [this]
        exact ih
    · simp only [hc]
      rw [if_neg (by simp)]
      rw [List.lookup_cons]
      cases q : sq y x with
      | true =>
        have := (sq_iff _ _).mp q
        subst this
        simp only [beq_self_eq_true]
        exact .inl trivial
      | false =>
        have : (x == y) = false := by have := (sq_false _ _).mp q; simp [Ne.symm this]
        rw [this]
        exact ih
structure ScopeOk (scope : Scope) (sc : List (Str × NameKind)) : Prop where
  kind : scope.kind = .function
  free : ∀ x, (x, NameKind.free) ∈ scope.names → look x sc = some .cell ∨ look x sc = some .free
  nocell : ∀ p ∈ scope.names, p.2 ≠ .cell
  nodup : nodupN scope.names = true
  dbg : look "__debug__" scope.names = none
  sup : look "super" scope.names = none
  cld : look "__classdict__" scope.names = none
theorem scopeOk_ok {scope : Scope} {sc : List (Str × NameKind)} (h : scopeOk scope sc = true) : ScopeOk scope sc := by
  unfold scopeOk at h
  simp only [Bool.and_eq_true, List.all_eq_true, Option.isNone_iff_eq_none] at h
  obtain ⟨⟨⟨⟨⟨h1, h2⟩, h3⟩, h4⟩, h5⟩, h6⟩ := h
  refine ⟨?_, fun x hx => ?_, fun p hp q => ?_, h3, h4, h5, h6⟩
  · cases q : scope.kind <;> rw [q] at h1 <;> first | rfl | cases h1
  · have := h2 _ hx
    simp only at this
    cases q : look x sc with
    | none => rw [q] at this; cases this
    | some k => rw [q] at this; cases k <;> first | exact .inl rfl | exact .inr rfl | cases this
  · have := h2 _ hp
    rw [q] at this; cases this
section
variable {w : World} {g : GF} {n : Nat} {z z' : ZM} {ι ι' : Nat → Addr} {σ σ' : Sto} {A : Around} {s : Shared} {env : Env} {E E' : AE} {h h' : Heap} {P : Params} {mu : List Addr}
/-- the frame of a comprehension -/
theorem FR.comp (F : FR P z ι σ env E h) (S : SR P g z ι σ h) {scope : Scope} (O : ScopeOk scope E.sc) {C : Addr} (hC : h.get? C = none) {h2 : Heap} (hk : ∀ b o, h.get? b = some o → h2.get? b = some o) (hn : h2.Ns C fun _ => none)
    {qual : Str} {bi : Addr} : FR P z ι σ { newEnv scope C env.globals (clo env.cells scope.names []) qual none .none (some env) bi with scope := relabel scope env } ⟨scope.names, [], E.κ, false⟩ h2 := by
  have hmem : ∀ p ∈ clo env.cells scope.names [], p ∈ env.cells := fun p hp => by
    rcases clo_mem _ _ p hp with q | ⟨q1, q2⟩
    · cases q
    · obtain ⟨c, v₀, k1, _⟩ := F.cells p.1 (O.free _ q1)
      rw [k1] at q2
      have : p = (p.1, c) := by rw [← (show p.2 = c from q2)]
      rw [this]; exact mem_of_lookup k1
  have hlive : ∀ p ∈ env.cells, ∃ o, h.get? p.2 = some o := fun p hp => let ⟨_, o, ho, _⟩ := F.cthere p hp; ⟨o, ho⟩
  refine ⟨O.kind, fun x => ?_, ⟨⟨F.glob.1.1, F.glob.1.2⟩, fun h => nomatch h⟩, O.dbg, O.sup, O.cld, ⟨_, hn, fun x => ⟨fun a ha => (by cases ha), fun _ => rfl⟩⟩, fun x hx => ?_, ?_, fun p hp q => ?_, ⟨S.none_of hC, fun p hp => F.zoff.2 p (hmem p hp)⟩, fun k hk' => ⟨fun q => ?_, fun p hp => (F.ioff k hk').2 p (hmem p hp)⟩, ⟨fun q => ?_, fun p hp => F.toff.2 p (hmem p hp)⟩, fun p hp => ?_⟩
  · exact relabel_lookup x scope.names O.nodup
  · rcases hx with hx | hx
    · exact absurd rfl (O.nocell _ (look_mem hx))
    · obtain ⟨c, v₀, k1, k2, k3⟩ := F.cells x (O.free x (look_mem hx))
      exact ⟨c, v₀, clo_lookup (look_mem hx) k1, cell_at k2 fun o ho => hk _ _ ho, k3⟩
  · refine clo_apart F.apart scope.names [] O.nodup (fun p hp hf => ?_) (fun p hp => by cases hp) List.Pairwise.nil
    obtain ⟨y, k⟩ := p
    cases (show k = .free from hf)
    obtain ⟨c, v₀, k1, _⟩ := F.cells y (O.free y hp)
    exact ⟨c, k1⟩
  · obtain ⟨o, ho⟩ := hlive p (hmem p hp)
    rw [show p.2 = C from q, hC] at ho; cases ho
  · obtain ⟨o, ho, _⟩ := S.own k _ (List.getElem?_eq_getElem hk')
    rw [show ι k = C from q, hC] at ho; cases ho
  · obtain ⟨ps, ho⟩ := S.tab
    rw [← show C = tabA from q, hC] at ho; cases ho
  · obtain ⟨v₀, q⟩ := F.cthere p (hmem p hp)
    exact ⟨v₀, cell_at q fun o ho => hk _ _ ho⟩
end
end

noncomputable section
open PySem PySem.Calls PyProof.Rows
section
variable {w : World} {A : Around} {s : Shared} {env : Env}
/-- as codeAny_compLoop_tests, with any target -/
theorem compLoop_rule {elt target iter : Expr} {ifs : List Expr} {scope : Scope} {pos : Pos} {it acc : Value} {R : Result → Shared → Prop} (I : Nat → Shared → Prop)
    (turn : ∀ n s, I n s → wpAny (MD w) A (pyNext it) (fun r s₁ => match r with
      | none => R (.ok .next) s₁
      | some v => wpAny (MD w) A (letOwnedTupleGo target it v) (fun _ s₁ => wpAny (MD w) A (assign target env v) (fun _ s₂ =>
          wpAny (MD w) A (forIn ifs true fun c r => if r = true then do let ok ← isTrue c env (eval c env); pure (ForInStep.yield ok) else pure (ForInStep.yield r)) (fun ok s₃ =>
            if ok = true then wpAny (MD w) A (eval elt env) (fun x s₄ =>
              wpAny (MD w) A (call (.builtin "list.append") [acc, x]) (fun _ s₅ => ∃ m, m < n ∧ I m s₅) NoE s₄) NoE s₃
            else ∃ m, m < n ∧ I m s₃) NoE s₂) NoE s₁) NoE s₁) NoE s)
    (n : Nat) (h : I n s) :
    codeAny (MD w) A (.compLoop (.ListComp elt [⟨target, iter, ifs, 0⟩] scope pos) 0 it acc env) R s := by
  refine codeAny_loop rfl I (fun n s hI => ?_) n h
  show wpAny _ A ((compTurn (.ListComp elt [⟨target, iter, ifs, 0⟩] scope pos) 0 it acc env).onRaise (fun x => do noteFrame x env; theTreesLotGoes x)) _ _ s
  refine wpAny_noted ?_
  rw [compTurn_list]
  refine wpAny_bind (wpAny_standAt (wpAny_bind (wpAny_mono (turn n s hI) (fun r s₁ h₁ => ?_) fun _ _ h' => h'.elim)))
  cases r with
  | none => exact wpAny_pure h₁
  | some v =>
    refine wpAny_bind (wpAny_mono h₁ (fun _ s₁ h₁ => ?_) fun _ _ h' => h'.elim)
    refine wpAny_bind (wpAny_mono h₁ (fun _ s₂ h₂ => wpAny_bind (wpAny_mono h₂ (fun ok s₃ h₃ => ?_) fun _ _ h' => h'.elim)) fun _ _ h' => h'.elim)
    cases ok with
    | false => exact wpAny_pure ⟨rfl, h₃⟩
    | true =>
      exact wpAny_bind (wpAny_bind (wpAny_mono h₃ (fun x s₄ h₄ => wpAny_bind (wpAny_mono h₄ (fun _ s₅ h₅ => wpAny_pure (wpAny_pure ⟨rfl, h₅⟩)) fun _ _ h' => h'.elim)) fun _ _ h' => h'.elim))
theorem tests_false {es : List Expr} {Q : Bool → Shared → Prop} {X : Value → Shared → Prop} (h : Q false s) :
    wpAny (MD w) A (forIn es false fun c r => if r = true then do let ok ← isTrue c env (eval c env); pure (ForInStep.yield ok) else pure (ForInStep.yield r)) Q X s := by
  induction es with
  | nil => exact wpAny_pure h
  | cons e es ih =>
    rw [List.forIn_cons]
    refine wpAny_bind ?_
    rw [if_neg (by decide)]
    exact wpAny_pure ih
end
section
variable {n : Nat} {σ σ0 σ1 σ2 σ' : Sto} {mu mu' : List Addr} {k : K σ} {env : Env} {E E' : AE} {A : Around} {I D : Addr} {xs acc : List AV} {fp : List Addr} {PP : Nat → Value → Prop} {St : Nat → Heap → Prop} {i : Nat} {v : AV} {h' : Heap}
/-- the conditions of a comprehension -/
noncomputable def IFS (n : Nat) (es : List Expr) (E : AE) (σ : Sto) (b : Bool) (σ' : Sto) : Prop := ∀ (k : K σ) {A : Around} {env : Env}, Room k.g (n + 2) A → k.Fr env E → GivesB k A (forIn es true fun c r => if r = true then do let ok ← isTrue c env (eval c env); pure (ForInStep.yield ok) else pure (ForInStep.yield r)) b σ'
theorem ifs_nil : IFS n [] E σ true σ := fun k _ _ _ _ _ _ C => wpAny_pure (C k.nx)
theorem ifs_one {e : Expr} {b : Bool} (h : IT n e E σ b σ1) : IFS n [e] E σ b σ1 := fun k _ _ R F _ _ C => by
  rw [List.forIn_cons]
  refine wpAny_bind ?_
  rw [if_pos rfl]
  exact wpAny_bind (h k R F fun x => wpAny_pure (wpAny_pure (C x)))
/-- the list that grows, and its items -/
inductive Acc (k : K σ) (mu : List Addr) (D : Addr) (xs : List AV) : Prop where
  | mk (vs : List Value) (m : Nat) : Spare k mu D → k.s.heap.get? D = some (listO vs m) → k.Vs vs xs → Acc k mu D xs
theorem Acc.nx (a : Acc k mu D xs) (x : Nx k mu σ') : Acc x.up mu D xs := by
  obtain ⟨vs, m, h1, h2, h3⟩ := a
  exact ⟨vs, m, h1.nx x, h1.kept.same x h2, VRs.nx h3 x⟩
theorem Acc.turn {x : Nx k mu σ1} (a : Acc x.up mu' D xs) (hI : k.s.heap.get? I = none) (H : Spare x.up mu' I) (hk : ∀ b o, b ≠ I → x.s.heap.get? b = some o → h'.get? b = some o) {tk : Nat} (hDI : I ≠ D) : Acc (x.turn hI H hk tk).up mu' D xs := by
  obtain ⟨vs, m, h1, h2, h3⟩ := a
  exact ⟨vs, m, { h1 with live := ⟨_, hk _ _ (Ne.symm hDI) h2⟩ }, hk _ _ (Ne.symm hDI) h2, h3⟩
theorem Src.turn {x : Nx k mu σ1} (C : Src x.up A mu' I xs fp PP St i) (hD : k.s.heap.get? D = none) (H : Spare x.up mu' D) (hk : ∀ b o, b ≠ D → x.s.heap.get? b = some o → h'.get? b = some o) {tk : Nat} (hDf : D ∉ fp) (hI : I ≠ D) : Src (x.turn hD H hk tk).up A mu' I xs fp PP St i where
  W := C.W
  val := C.val
  st := C.W.frame i x.s.heap h' C.st fun b hb o ho => hk b o (fun q => hDf (q ▸ hb)) ho
  spare := { C.spare with live := let ⟨o, ho⟩ := C.spare.live; ⟨o, hk _ _ hI ho⟩ }
  fps := fun b hb => by
    rcases C.fps b hb with q | ⟨q, o, ho⟩
    · exact .inl q
    · exact .inr ⟨q, o, hk _ _ (fun q => hDf (q ▸ hb)) ho⟩
  cls := C.cls
/-- append onto the growing list -/
theorem acc_append {k0 : K σ0} {x : Nx k0 mu σ} {v : Value} {a : AV} (hD : k0.s.heap.get? D = none) (C : Acc x.up mu' D xs) (hc : xs.length < cap) (rv : x.up.V v a) {Q : Value → Shared → Prop} {X : Value → Shared → Prop}
    (H : ∀ h' (hs : Spare x.up mu' D) (hk : ∀ b o, b ≠ D → x.s.heap.get? b = some o → h'.get? b = some o), Acc (x.turn hD hs hk).up mu' D (xs ++ [a]) → Q .none { x.s with heap := h' }) : wpAny (MD k0.w) A (call (.builtin "list.append") [.ref D, v]) Q X x.s := by
  obtain ⟨vs, m, h1, hg, hs⟩ := C
  refine call_meets F.slot_list_append ⟨_, hg, rfl⟩ F.entry_list_append (F.args_list_append_2 _ _) (AutoListH.list_append_list_val_0 D vs.toArray m v (by rw [List.size_toArray, hs.length]; exact cap_fits (Nat.le_of_lt hc))) ⟨hg, ?_⟩
  obtain ⟨k', h2, h3⟩ := mapSeq_at (f := fun x => x.push v) (ws := vs ++ [v]) hg (by simp)
  exact H _ h1 h3 ⟨_, _, { h1 with live := ⟨_, h2⟩ }, h2, hs.append (.one rv)⟩
/-- between two turns of a comprehension -/
inductive CompI (k : K σ) (A : Around) (env : Env) (I D : Addr) (xs : List AV) (fp : List Addr) (PP : Nat → Value → Prop) (St : Nat → Heap → Prop) (f : AV → Option AV) (S : List (Str × NameKind)) (KK : List (Str × AV)) (m : Nat) (s : Shared) : Prop where
  | mk (i : Nat) (E1 : AE) (x : Nx k [env.locals] σ) (acc : List AV) : s = x.s → m = xs.length + 1 - i → i ≤ xs.length → acc = (xs.take i).filterMap f → x.up.Fr env E1 → E1.sc = S → E1.κ = KK → Src x.up A [env.locals] I xs fp PP St i → Acc x.up [env.locals] D acc → CompI k A env I D xs fp PP St f S KK m s
/-- a comprehension whose elements leave the store as it is -/
theorem compL_ok {elt tgt iter : Expr} {ifs : List Expr} {scope : Scope} {pos : Pos} {S : List (Str × NameKind)} {KK : List (Str × AV)} (f : AV → Option AV)
    (H : ∀ v, v ∈ xs → ∀ E : AE, E.sc = S → E.κ = KK → ∃ E1, BT tgt v E E1 ∧ E1.sc = S ∧ E1.κ = KK ∧ ∃ b, IFS n ifs E1 σ b σ ∧ (b = false → f v = none) ∧ (b = true → ∃ u, EV n elt E1 σ u σ ∧ f v = some u)) (hc : xs.length ≤ cap) (hno : ∀ x, look x S ≠ some .cell)
    (R : Room k.g (n + 2) A) {x0 : Nx k [env.locals] σ} (F : x0.up.Fr env E) (hS : E.sc = S) (hK : E.κ = KK) (hI : k.s.heap.get? I = none) (hD : k.s.heap.get? D = none) (C : Src x0.up A [env.locals] I xs fp PP St 0) (G : Acc x0.up [env.locals] D []) (hDf : D ∉ fp) (hDI : I ≠ D) (hIc : ∀ p ∈ env.cells, p.2 ≠ I) (hDc : ∀ p ∈ env.cells, p.2 ≠ D)
    {RR : Result → Shared → Prop} (hR : ∀ (E' : AE) (x : Nx k [env.locals] σ), x.up.Fr env E' → Acc x.up [env.locals] D (xs.filterMap f) → RR (.ok .next) x.s) :
    codeAny (MD k.w) A (.compLoop (.ListComp elt [⟨tgt, iter, ifs, 0⟩] scope pos) 0 (.ref I) (.ref D) env) RR x0.s := by
  refine compLoop_rule (CompI k A env I D xs fp PP St f S KK) ?_ _ ⟨0, E, x0, [], rfl, rfl, Nat.zero_le _, rfl, F, hS, hK, C, G⟩
  rintro m s1 ⟨i, E1, x, acc, rfl, rfl, hi, hacc, F1, hS1, hK1, C1, G1⟩
  have hIl : env.locals ≠ I := fun q => C1.spare.mu (q ▸ List.mem_singleton_self _)
  have hDl : env.locals ≠ D := fun q => by obtain ⟨_, _, g, _⟩ := G1; exact g.mu (q ▸ List.mem_singleton_self _)
  cases ha : xs[i]? with
  | none =>
    have : i = xs.length := Nat.le_antisymm hi (List.getElem?_eq_none_iff.mp ha)
    subst this
    rw [List.take_length] at hacc
    subst hacc
    exact C1.done fun h' tk hk => hR E1 (x.turn hI C1.spare hk tk) (F1.spare hIl hIc hk) (G1.turn hI C1.spare hk hDI)
  | some a =>
    have hlt : i < xs.length := (List.getElem?_eq_some_iff.mp ha).1
    obtain ⟨E2, hb, hS2, hK2, b, h1, h2, h3⟩ := H a (List.mem_of_getElem? ha) E1 hS1 hK1
    have htk : (xs.take (i + 1)).filterMap f = acc ++ (f a).toList := by
      rw [List.take_add_one, ha, List.filterMap_append, hacc]
      cases q : f a <;> simp [q]
    refine C1.next hI ha fun v h' tk hk rv C2 => ?_
    obtain ⟨o, T, ho, hcl, hT⟩ := C2.cls _ _ C2.st
    let y := x.turn hI C1.spare hk tk
    have G2 := G1.turn hI C1.spare hk (tk := tk) hDI
    refine letGo_ok (s := y.s) ho hcl hT (hb.ok (k := y.up) (mu := [env.locals]) R.handled ⟨List.mem_singleton_self _, fun x c hx _ => absurd (hS1 ▸ hx) (hno x)⟩ rv (F1.spare hIl hIc hk) fun u F2 => h1 u.up R F2 fun z => ?_)
    have C3 := (C2.nx u).nx z.any
    have G3 := (G2.nx u).nx z.any
    cases b with
    | false =>
      rw [if_neg Bool.false_ne_true]
      rw [h2 rfl] at htk
      exact ⟨_, Nat.sub_lt_sub_left (Nat.lt_succ_of_le hi) (Nat.lt_succ_self i), i + 1, E2, (y.then u).then z.any, acc, rfl, rfl, hlt, by rw [htk]; simp, F2.nx z, hS2, hK2, C3, G3⟩
    | true =>
      rw [if_pos rfl]
      obtain ⟨c, h4, h5⟩ := h3 rfl
      rw [h5] at htk
      refine h4 z.up R (F2.nx z) fun w b5 r5 => ?_
      let q := ((y.then u).then z.any).then w.any
      refine acc_append (x := q) hD (G3.nx w.any) ?_ r5 fun h6 hs6 hk6 G6 => ?_
      · have : (xs.take (i + 1)).filterMap f = acc ++ [c] := htk
        have h9 := List.length_filterMap_le f (xs.take (i + 1))
        rw [this, List.length_append, List.length_take] at h9
        exact Nat.lt_of_lt_of_le (Nat.lt_of_succ_le (Nat.le_trans h9 (Nat.min_le_right ..))) hc
      · exact ⟨_, Nat.sub_lt_sub_left (Nat.lt_succ_of_le hi) (Nat.lt_succ_self i), i + 1, E2, q.turn hD hs6 hk6, _, rfl, rfl, hlt, htk.symm, ((F2.nx z).nx w).spare hDl hDc hk6, hS2, hK2, Src.turn (x := q) (C3.nx w.any) hD hs6 hk6 hDf hDI, G6⟩
end
end

noncomputable section
open PySem PySem.Calls PyProof.Rows
/-- as Spare, of a heap -/
structure SpareH (g : GF) (z : ZM) (ι : Nat → Addr) (σ : Sto) (b : Addr) : Prop where
  tab : b ≠ tabA
  own : ∀ j, j < σ.length → ι j ≠ b
  z : z b = none
  fr : b ∉ g.ad
section
variable {g : GF} {z z' : ZM} {ι ι' : Nat → Addr} {σ σ' : Sto} {h h' : Heap} {P : Params} {mu : List Addr}
theorem Ext.less {C : Addr} (e : Ext g [C] z ι σ h z' ι' σ' h') (hC : h.get? C = none) : Ext g mu z ι σ h z' ι' σ' h' :=
  { e with
    keep := fun b o hb _ h2 h3 => e.keep b o hb (fun q => by rw [List.mem_singleton.mp q, hC] at hb; cases hb) h2 h3
    keepF := fun b o hb _ h2 h3 => e.keepF b o hb (fun q => by rw [List.mem_singleton.mp q, hC] at hb; cases hb) h2 h3 }
/-- a list that grew beside the store becomes one of the store -/
theorem SR.adopt {D : Addr} {o : Obj} {ao : AO} (S : SR P g z ι σ h) (hD : SpareH g z ι σ D) (h3 : 3 < D) (ho : h.get? D = some o) (hr : OR P z ι σ.length o ao) : SR P g z (iput ι σ.length D) (σ ++ [ao]) h where
  base := S.base
  fz := S.fz
  own := fun k ao' e => by
    rw [List.length_append, List.length_singleton]
    by_cases hlt : k < σ.length
    · rw [List.getElem?_append_left hlt] at e
      obtain ⟨x, h1, h2⟩ := S.own k ao' e
      rw [iput_lt ι D hlt]
      exact ⟨x, h1, h2.mono (fun _ _ e => e) (fun j hj => iput_lt ι D hj) (Nat.le_succ _)⟩
    · have hle := Nat.not_lt.mp hlt
      rw [List.getElem?_append_right hle] at e
      have hk0 : k - σ.length = 0 := by
        cases q : k - σ.length with
        | zero => rfl
        | succ m => rw [q] at e; simp at e
      rw [hk0] at e
      simp only [List.getElem?_cons_zero, Option.some.injEq] at e
      subst e
      have : k = σ.length := by (clear hle h3; omega)
      subst this
      rw [iput_self]
      exact ⟨o, ho, hr.mono (fun _ _ e => e) (fun j hj => iput_lt ι D hj) (Nat.le_succ _)⟩
  off := fun k hk' => by
    rw [List.length_append, List.length_singleton] at hk'
    by_cases hlt : k < σ.length
    · rw [iput_lt ι D hlt]; exact S.off k hlt
    · have : k = σ.length := by (clear h3; omega)
      subst this
      rw [iput_self]; exact hD.z
  inj := fun j k hj hk' e => by
    rw [List.length_append, List.length_singleton] at hj hk'
    by_cases h1 : j < σ.length
    · by_cases h2 : k < σ.length
      · rw [iput_lt ι D h1, iput_lt ι D h2] at e; exact S.inj j k h1 h2 e
      · have : k = σ.length := by (clear h1 e hj h3; omega)
        subst this
        rw [iput_lt ι D h1, iput_self] at e; exact absurd e (hD.own j h1)
    · have hj' : j = σ.length := by (clear e hk' h3; omega)
      subst hj'
      by_cases h2 : k < σ.length
      · rw [iput_lt ι D h2, iput_self] at e; exact absurd e.symm (hD.own k h2)
      · (clear h1 e hj h3; omega)
  tab := S.tab
  taboff := ⟨S.taboff.1, fun k hk' => by
    rw [List.length_append, List.length_singleton] at hk'
    by_cases hlt : k < σ.length
    · rw [iput_lt ι D hlt]; exact S.taboff.2 k hlt
    · have : k = σ.length := by (clear h3; omega)
      subst this
      rw [iput_self]; exact hD.tab⟩
  g3 := S.g3
  hi := fun k hk' => by
    rw [List.length_append, List.length_singleton] at hk'
    by_cases hlt : k < σ.length
    · rw [iput_lt ι D hlt]; exact S.hi k hlt
    · have : k = σ.length := by (clear h3; omega)
      subst this
      rw [iput_self]; exact h3
  frs := fun v hv => by
    obtain ⟨a1, L, o, es, ep, a2, a3, a4, a5, a6, a7⟩ := S.frs v hv
    refine ⟨a1, L, o, es, ep, a2, a3, a4, a5, fun k hk' => ?_, a7⟩
    rw [List.length_append, List.length_singleton] at hk'
    by_cases hlt : k < σ.length
    · rw [iput_lt ι D hlt]; exact a6 k hlt
    · have : k = σ.length := by (clear a7 h3; omega)
      subst this
      rw [iput_self]
      exact fun q => hD.fr (List.mem_filterMap.mpr ⟨v, hv, by rw [a2, q]⟩)
theorem Ext.adopt {D : Addr} {ao : AO} (e : Ext g mu z ι σ h z' ι' σ' h') (hD : h.get? D = none) : Ext g mu z ι σ h z' (iput ι' σ'.length D) (σ' ++ [ao]) h' where
  zle := e.zle
  znew := e.znew
  ile := fun k hk => by rw [iput_lt _ _ (Nat.lt_of_lt_of_le hk e.len)]; exact e.ile k hk
  inew := fun k h1 h2 => by
    rw [List.length_append, List.length_singleton] at h1
    by_cases hlt : k < σ'.length
    · rw [iput_lt _ _ hlt]; exact e.inew k hlt h2
    · have : k = σ'.length := by (clear h2; omega)
      subst this
      rw [iput_self]; exact hD
  len := by rw [List.length_append]; exact Nat.le_trans e.len (Nat.le_add_right _ _)
  keep := e.keep
  keepF := e.keepF
  there := e.there
  busy := fun k hk ao hao => by rw [List.getElem?_append_left (Nat.lt_of_lt_of_le hk e.len)]; exact e.busy k hk ao hao
/-- or one that nothing will change -/
theorem SR.freeze {D : Addr} {o : Obj} (S : SR P g z ι σ h) (hD : SpareH g z ι σ D) (ho : h.get? D = some o) : SR P g (zput z D o) ι σ h where
  base := fun b x e => zput_le hD.z b x (S.base b x e)
  fz := fun b x e => by
    unfold zput at e
    by_cases hb : b = D
    · rw [if_pos hb] at e; cases e; rw [hb]; exact ho
    · rw [if_neg hb] at e; exact S.fz b x e
  own := fun k ao e => let ⟨x, h1, h2⟩ := S.own k ao e; ⟨x, h1, h2.mono (zput_le hD.z) (fun _ _ => rfl) (Nat.le_refl _)⟩
  off := fun k hk' => by
    unfold zput
    rw [if_neg (hD.own k hk')]; exact S.off k hk'
  inj := S.inj
  tab := S.tab
  taboff := by
    refine ⟨?_, S.taboff.2⟩
    unfold zput
    rw [if_neg (Ne.symm hD.tab)]; exact S.taboff.1
  g3 := S.g3
  hi := S.hi
  frs := fun v hv => by
    obtain ⟨a1, L, x, es, ep, a2, a3, a4, a5, a6, a7⟩ := S.frs v hv
    refine ⟨a1, L, x, es, ep, a2, a3, a4, ?_, a6, a7⟩
    unfold zput
    rw [if_neg (fun q => hD.fr (List.mem_filterMap.mpr ⟨v, hv, by rw [a2, q]⟩))]
    exact a5
theorem Ext.freeze {D : Addr} {o : Obj} (e : Ext g mu z ι σ h z' ι' σ' h') (hz : z' D = none) (hD : h.get? D = none) : Ext g mu z ι σ h (zput z' D o) ι' σ' h' :=
  { e with
    zle := fun b x q => zput_le hz b x (e.zle b x q)
    znew := fun b x q => by
      unfold zput at q
      by_cases hb : b = D
      · exact .inr (hb ▸ hD)
      · rw [if_neg hb] at q; exact e.znew b x q }
end
section
variable {n : Nat} {σ σ1 σ2 σ' : Sto} {mu mu' : List Addr} {k : K σ} {env : Env} {E E' : AE} {A : Around} {D : Addr} {xs acc : List AV} {v : AV} {elt : Expr} {c : Comprehension} {scope : Scope}
theorem Spare.h {b : Addr} (a : Spare k mu b) : SpareH k.g k.z k.ι σ b := ⟨a.tab, a.own, a.z, a.fr⟩
/-- what a comprehension leaves: its list D, its frame C -/
structure CompP (k : K σ) (x : Nx k [] σ') (D C : Addr) (acc : List AV) : Prop where
  acc : Acc x.up [] D acc
  newD : k.s.heap.get? D = none
  gt3 : 3 < D
  spC : Spare x.up [] C
  newC : k.s.heap.get? C = none
  ne : C ≠ D
  ns : ∃ m, x.s.heap.Ns C m
noncomputable def COMP (n : Nat) (elt : Expr) (c : Comprehension) (scope : Scope) (E : AE) (σ : Sto) (acc : List AV) (σ' : Sto) : Prop := ∀ (k : K σ) {A : Around} {env : Env} {pos : Pos}, Room k.g (n + 2) A → k.Fr env E → ∀ {use : Option (Value → Sem Unit)} {Q : Value → Shared → Prop},
  (∀ D C (x : Nx k [] σ'), CompP k x D C acc → compPost (MD k.w) A NoE use Q (.ref D) C (.ok .next) x.s) →
  wpAny (MD k.w) A (comprehension (.ListComp elt [c] scope pos) scope env (firstIterPos [c] pos) (newList []) (firstAsync [c]) (firstIter [c] env) use) Q NoE k.s
theorem none_of {h h' : Heap} {b : Addr} (k : ∀ b x, h.get? b = some x → h'.get? b = some x) (e : h'.get? b = none) : h.get? b = none := by
  cases q : h.get? b with
  | none => rfl
  | some o => rw [k _ _ q] at e; cases e
theorem live_ne {h : Heap} {a b : Addr} (h1 : ∃ o, h.get? a = some o) (h2 : h.get? b = none) : a ≠ b := fun q => by obtain ⟨o, e⟩ := h1; rw [q, h2] at e; cases e
theorem comp_rule {tgt iter : Expr} {ifs : List Expr} {S : List (Str × NameKind)} {taken : Option (Nat × AO)} (f : AV → Option AV) (hS : E.sc = S) (hok : (scopeOk scope S && plainSet iter) = true) (h1 : EV n iter E σ v σ1) (h2 : SRC v σ1 xs σ2 taken) (hc : xs.length ≤ cap)
    (H : ∀ v, v ∈ xs → ∀ E1 : AE, E1.sc = scope.names → E1.κ = E.κ → ∃ E2, BT tgt v E1 E2 ∧ E2.sc = scope.names ∧ E2.κ = E.κ ∧ ∃ b, IFS n ifs E2 σ2 b σ2 ∧ (b = false → f v = none) ∧ (b = true → ∃ u, EV n elt E2 σ2 u σ2 ∧ f v = some u)) :
    COMP n elt ⟨tgt, iter, ifs, 0⟩ scope E σ (xs.filterMap f) (relA σ2 taken) := fun k A env pos R F use Q post => by
  subst hS
  rw [Bool.and_eq_true] at hok
  have O := scopeOk_ok hok.1
  obtain ⟨T, h2⟩ := h2
  have hcell : ∀ x, (x, NameKind.free) ∈ scope.names → ∃ c, env.cells.lookup x = some c := fun x hx => let ⟨c, _, k1, _⟩ := F.cells x (O.free x hx); ⟨c, k1⟩
  have hclo : closureFor scope env = pure (clo env.cells scope.names []) := clo_ok fun p hp hf => hcell p.1 (by rw [← hf]; exact hp)
  have hmem : ∀ p ∈ clo env.cells scope.names [], p ∈ env.cells := fun p hp => by
    rcases clo_mem _ _ p hp with q | ⟨q1, q2⟩
    · cases q
    · obtain ⟨c, k1⟩ := hcell p.1 q1
      rw [k1] at q2
      have : p = (p.1, c) := by rw [← (show p.2 = c from q2)]
      rw [this]; exact mem_of_lookup k1
  show wpAny (MD k.w) A (comprehension (.ListComp elt [⟨tgt, iter, ifs, 0⟩] scope pos) scope env (firstIterPos [⟨tgt, iter, ifs, 0⟩] pos) (newList []) false (eval iter env) use) Q NoE k.s
  refine wpAny_comprehension_free (g := ⟨tgt, iter, ifs, 0⟩) rfl (fun x => plainSet_ok hok.2 env x) hclo O.kind (fun x hx hl => by rw [← look_eq]; exact nodupN_look O.nodup (by rw [← hl]; exact hx)) ?_
  refine h1 k R F fun x u r => h2 x.up (mu := []) R.handled r (fun b hb => absurd hb List.not_mem_nil) (fun j _ => List.not_mem_nil) fun o fp PP St C2 => ?_
  have F1 := F.nx x
  let b : K σ2 := x.up.take T
  let y : Nx b [] σ2 := b.grow _ x.s.toks (push_keeps _ o)
  have F2 : y.up.Fr env E := FR.len (FR.ext F1 (Ext.grow (g := x.up.g) (push_keeps _ o))) T.len
  have hIn : x.s.heap.get? x.s.heap.objs.size = none := new_not
  have k12 : ∀ b z, x.s.heap.get? b = some z → y.s.heap.get? b = some z := push_keeps _ o
  have C2 : Src y.up A [] x.s.heap.objs.size xs fp PP St 0 := C2
  show wpAny _ _ _ _ _ y.s
  generalize x.s.heap.objs.size = I at C2 hIn ⊢
  refine wpAny_newObj_type (wpAny_newFunctionEnv O.nocell (fun _ hy => absurd hy List.not_mem_nil) (fun h4 hns hsb => ?_) O.kind)
  dsimp only at hns hsb ⊢
  have hDn : y.s.heap.get? y.s.heap.objs.size = none := new_not
  have hD3 : 3 < y.s.heap.objs.size := y.S.size
  have k23 : ∀ b z, y.s.heap.get? b = some z → (y.s.heap.push { cls := .type "list", dict := none, data := .seq ([] : List Value).toArray }).get? b = some z := push_keeps _ _
  have hDo : (y.s.heap.push { cls := .type "list", dict := none, data := .seq ([] : List Value).toArray }).get? y.s.heap.objs.size = some (listO [] 0) := Heap.get?_push_size _ rfl
  generalize y.s.heap.objs.size = D at hns hsb hDn hD3 hDo ⊢
  generalize y.s.heap.push { cls := .type "list", dict := none, data := .seq ([] : List Value).toArray } = H3 at hns hsb k23 hDo ⊢
  have hCn : H3.get? H3.objs.size = none := new_not
  generalize H3.objs.size = C at hns hsb hCn ⊢
  have k34 : ∀ b x, H3.get? b = some x → h4.get? b = some x := fun b x hx => hsb.extBut b x (fun q => by rw [q, hCn] at hx; cases hx) (push_keeps _ _ b x hx)
  have k24 : ∀ b z, y.s.heap.get? b = some z → h4.get? b = some z := fun b x hx => k34 b x (k23 b x hx)
  have h2C := none_of k23 hCn
  have h1C := none_of k12 h2C
  have h1D := none_of k12 hDn
  have hCD : C ≠ D := (live_ne ⟨_, hDo⟩ hCn).symm
  have hID : I ≠ D := live_ne C2.spare.live hDn
  have hIC : I ≠ C := live_ne C2.spare.live h2C
  have fpo : ∀ b ∈ fp, ∃ o, y.s.heap.get? b = some o := fun b hb => by
    rcases C2.fps b hb with q | ⟨_, q⟩
    · rw [q]; exact C2.spare.live
    · exact q
  let z : Nx b [] σ2 := y.then (y.up.grow h4 y.s.toks k24)
  have F4 : z.up.Fr { newEnv scope C env.globals (clo env.cells scope.names []) env.qual none .none (some env) builtinsNs with scope := relabel scope env } ⟨scope.names, [], E.κ, false⟩ :=
    FR.comp (FR.ext F2 (Ext.grow (g := b.g) k23)) (y.S.grow k23) O hCn k34 hns
  have C4 : Src z.up A [C] I xs fp PP St 0 := (C2.nx (y.up.grow h4 y.s.toks k24)).more (fun q => hIC (List.mem_singleton.mp q)) fun _ hb _ hb' q => live_ne (fpo _ hb') h2C (by rw [← q, List.mem_singleton.mp hb])
  have G4 : Acc z.up [C] D [] := ⟨[], 0, ⟨fun q => hCD (List.mem_singleton.mp q).symm, fun q => (by obtain ⟨ps, hx⟩ := y.S.tab; rw [← q, hDn] at hx; cases hx), fun j hj q => (by obtain ⟨x, y1, _⟩ := y.S.own j _ (List.getElem?_eq_getElem hj); rw [show y.ι j = D from q, hDn] at y1; cases y1), y.S.none_of hDn, ⟨_, k34 _ _ hDo⟩, y.S.newFr hDn⟩, k34 _ _ hDo, .nil⟩
  have hlive : ∀ p ∈ clo env.cells scope.names [], ∃ o, x.s.heap.get? p.2 = some o := fun p hp => let ⟨_, o, ho, _⟩ := F1.cthere p (hmem p hp); ⟨o, ho⟩
  have loop : codeAny (MD k.w) A (.compLoop (.ListComp elt [⟨tgt, iter, ifs, 0⟩] scope pos) 0 (.ref I) (.ref D) { newEnv scope C env.globals (clo env.cells scope.names []) env.qual none .none (some env) builtinsNs with scope := relabel scope env }) (compPost (MD k.w) A NoE use Q (.ref D) C) z.s := by
    let z0 : Nx b [C] σ2 := z.any
    refine compL_ok (env := { newEnv scope C env.globals (clo env.cells scope.names []) env.qual none .none (some env) builtinsNs with scope := relabel scope env }) (k := b) (x0 := z0) f H hc (fun x hx => O.nocell _ (look_mem hx) rfl) R F4 rfl rfl hIn h1D C4 G4 (fun hb => live_ne (fpo _ hb) hDn rfl) hID (fun p (hp : p ∈ clo env.cells scope.names []) => live_ne (hlive p hp) hIn) (fun p (hp : p ∈ clo env.cells scope.names []) => live_ne (hlive p hp) h1D) fun E' w F' G' => ?_
    have hrl : (relA σ2 taken).length = σ2.length := release_len ..
    let w' : Nx b [] σ2 := ⟨w.z, w.ι, w.s, w.e.less h1C, w.S, w.d⟩
    let q : Nx k [] (relA σ2 taken) := x.then (Nx.release T (fun j _ => List.not_mem_nil) w')
    have old : ∀ b, x.s.heap.get? b = none → k.s.heap.get? b = none := fun b hb => by
      cases q : k.s.heap.get? b with
      | none => rfl
      | some o => obtain ⟨o', ho'⟩ := x.e.there b o q; rw [hb] at ho'; cases ho'
    obtain ⟨vs, m, g1, g2, g3⟩ := G'
    obtain ⟨m', hm, _⟩ := F'.ns
    refine post D C q ⟨⟨vs, m, ⟨List.not_mem_nil, g1.tab, fun j hj => g1.own j (hrl ▸ hj), g1.z, g1.live, g1.fr⟩, g2, ?_⟩, old _ h1D, hD3, ⟨List.not_mem_nil, F'.toff.1, fun j hj => (F'.ioff j (hrl ▸ hj)).1, F'.zoff.1, ?_, y.S.newFr h2C⟩, old _ h1C, hCD, ⟨m', hm⟩⟩
    · show VRs _ _ _ (relA σ2 taken).length _ _
      rw [hrl]; exact g3
    · obtain ⟨o, _, _, ho, _⟩ := hm
      exact ⟨o, ho⟩
  exact codeAny_compStart_list loop (C4.W.self 0 _ _ _ C4.st loop)
theorem ev_comp {p : Pos} {vs : List AV} (h : COMP n elt c scope E σ vs σ1) : EV (n + 1) (.ListComp elt [c] scope p) E σ (.list vs) σ1 := fun k A env R F Q X H => by
  rw [eval_ListComp]
  refine wpAny_mono (h k R.dn F (use := none) (Q := Q) fun D C x G => ?_) (fun _ _ h => h) fun _ _ h => h.elim
  obtain ⟨⟨vs', q, g1, g2, g3⟩, hD, hD3, hC, hCn, hCD, m, hm⟩ := G
  refine ⟨m, hm, fun h' hs => ?_⟩
  let y := x.turn hCn hC hs.extBut
  have hDo : y.s.heap.get? D = some (listO vs' q) := hs.extBut _ _ (Ne.symm hCD) g2
  exact H ⟨zput x.z D (listO vs' q), x.ι, y.s, y.e.freeze g1.z hD, y.S.freeze g1.h hDo, y.d⟩ _ (.list (zput_self ..) (g3.mono (zput_le g1.z) (fun _ _ => rfl) (Nat.le_refl _)))
/-- the list may change later -/
theorem ev_compO {p : Pos} {vs : List AV} (h : COMP n elt c scope E σ vs σ1) : EV (n + 1) (.ListComp elt [c] scope p) E σ (.own σ1.length) (σ1 ++ [.list vs]) := fun k A env R F Q X H => by
  rw [eval_ListComp]
  refine wpAny_mono (h k R.dn F (use := none) (Q := Q) fun D C x G => ?_) (fun _ _ h => h) fun _ _ h => h.elim
  obtain ⟨⟨vs', q, g1, g2, g3⟩, hD, hD3, hC, hCn, hCD, m, hm⟩ := G
  refine ⟨m, hm, fun h' hs => ?_⟩
  let y := x.turn hCn hC hs.extBut
  have hDo : y.s.heap.get? D = some (listO vs' q) := hs.extBut _ _ (Ne.symm hCD) g2
  exact H ⟨x.z, iput x.ι σ1.length D, y.s, y.e.adopt hD, y.S.adopt g1.h hD3 hDo ⟨vs', q, rfl, g3⟩, y.d⟩ _ own_put
theorem own_comp {p : Pos} {vs : List AV} (h : COMP n elt c scope E σ vs σ1) : OWN n (.ListComp elt [c] scope p) E σ (.own σ1.length) (σ1 ++ [.list vs]) := fun {x px pos E'} hx k A env R F Q X H => by
  obtain ⟨b, hb⟩ : ∃ b, swapsWith (.ListComp elt [c] scope p) (some (.Name x px)) pos.line env = pure b := ⟨_, rfl⟩
  have R2 := R.le (Nat.le_add_right (n + 2) 2)
  cases b with
  | false => exact wpAny_Assign_Name (ev_compO h k (R.le (Nat.le_add_right (n + 3) 1)) F fun y u r => store_ok (F.nx y) hx r (Wr.frA env _) fun w F' => H .next E' _ (y.any.then w) _ ⟨rfl, rfl, rfl⟩ F' rfl) hb
  | true =>
    rw [exec_Assign_Name_used _ _ _ _ hb]
    refine wpAny_bind (wpAny_standAt (wpAny_bind ?_))
    rw [arm_evalThenUse_ListComp]
    refine wpAny_bind (wpAny_mono (h k R2 F (use := some (assign (.Name x px) env)) (Q := fun _ s' => Q .next s') fun D C y G => ?_) (fun _ _ h => wpAny_pure (wpAny_pure h)) fun _ _ h => h.elim)
    obtain ⟨⟨vs', q, g1, g2, g3⟩, hD, hD3, hC, hCn, hCD, m, hm⟩ := G
    let z : Nx k [] (σ1 ++ [.list vs]) := ⟨y.z, iput y.ι σ1.length D, y.s, y.e.adopt hD, y.S.adopt g1.h hD3 g2 ⟨vs', q, rfl, g3⟩, y.d⟩
    have F2 := F.nx z
    have hCf : C ∉ frA env := fun q => live_ne (F.live C q) hCn rfl
    have hC2 : Spare z.up (frA env) C := ⟨hCf, hC.tab, fun j hj q => by
      rw [List.length_append, List.length_singleton] at hj
      have q : iput y.ι σ1.length D j = C := q
      by_cases hlt : j < σ1.length
      · rw [iput_lt _ _ hlt] at q; exact hC.own j hlt q
      · rw [show j = σ1.length from Nat.le_antisymm (Nat.le_of_lt_succ hj) (Nat.not_lt.mp hlt), iput_self] at q; exact hCD q.symm, hC.z, hC.live, hC.fr⟩
    show wpAny (MD k.w) A (assign (.Name x px) env (.ref D)) _ _ z.s
    refine assign_Name (store_ok (k := z.up) (mu := frA env) F2 hx own_put (Wr.frA env _) fun w F3 => ?_)
    refine ⟨m, ns_at hm fun o ho => hC2.kept.same w ho, fun h' hs => ?_⟩
    let y2 : Nx k (frA env) (σ1 ++ [.list vs]) := z.any.then w
    have h1 : env.locals ≠ C := fun q => hCf (q ▸ mem_frA_l env)
    have h2 : ∀ p ∈ env.cells, p.2 ≠ C := fun p hp q => hCf (q ▸ mem_frA_c hp)
    exact H .next E' _ (Nx.turn (x := y2) (h' := h') hCn (hC2.nx w) hs.extBut) _ ⟨rfl, rfl, rfl⟩ (FR.spare F3 h1 h2 hs.extBut) rfl
end
end

noncomputable section
open PySem PySem.Calls PyProof.Rows
namespace M
theorem slot_md_get : Slot "method_descriptor" "__get__" "method_descriptor.__get__" :=
  .of (owner := "method_descriptor") (n := "__get__") (by rw [typeLookup_type, builtinLookup_eq_fast]; kernel_rfl) (by decide +kernel) (by decide +kernel) (by decide +kernel)
    (by first | exact .inl (by decide +kernel) | exact .inr (by decide +kernel)) (by rw [isSubtype_type]; kernel_rfl)
theorem md_set : typeLookup (.type "method_descriptor") "__set__" = pure none := by rw [typeLookup_type, builtinLookup_eq_fast]; kernel_rfl
theorem md_delete : typeLookup (.type "method_descriptor") "__delete__" = pure none := by rw [typeLookup_type, builtinLookup_eq_fast]; kernel_rfl
theorem entry_md_get : entryFor table "method_descriptor.__get__" = some Builtin.«method_descriptor.__get__» := entryFor_of_tree (by kernel_rfl)
theorem args_md_get (a b c : Value) : argsOk "method_descriptor.__get__" ⟨[a, b, c], []⟩ := by unfold argsOk; kernel_rfl
theorem owner_append : (".".intercalate ("list.append".cutAt '.').dropLast) = "list" := by
  have e0 : "list.append".cutAt '.' = ["list", "append"] := by first | rfl | decide +kernel
  rw [e0]; decide +kernel
theorem sub_append : isSubtype (.type "list") (.type (".".intercalate ("list.append".cutAt '.').dropLast)) = pure true := by
  rw [owner_append]; exact AutoSeq1.sub_list_list
theorem told_append : Manifest.toldItsClass.contains "list.append" = false := by decide +kernel
end M
noncomputable abbrev methO (a : Addr) : Obj := { cls := .type "builtin_function_or_method", data := .fields #[.builtin "list.append", .ref a] }
section
variable {prog : Program} {w : World} {A : Around} {E : Value → Shared → Prop} {h : Heap} {g : Array GenState} {d : Drawn} {t : Nat} {os : OsState} {a : Addr} {o : Obj}
theorem append_get {R : Result → Shared → Prop} (hx : h.get? a = some o) (hc : o.cls = .type "list") (hq : R (.ok (.ret (.ref h.objs.size))) ⟨h.push (methO a), g, d, t, os⟩) :
    codeAny (model prog w) A (.call (.builtin "method_descriptor.__get__") ⟨[.builtin "list.append", .ref a, .type "list"], []⟩) R ⟨h, g, d, t, os⟩ := by
  have hT : (⟨h, g, d, t, os⟩ : Shared).TypeIs (.ref a) "list" := ⟨_, hx, hc⟩
  have hT5 : (⟨h, g, d, t, os⟩ : Shared).TypeIs (.builtin "list.append") "method_descriptor" := F.type_list_append
  have f8 := M.sub_append
  have f9 := M.told_append
  refine codeAny_call_builtin M.slot_md_get.plain M.entry_md_get (M.slot_md_get.check _ _ _ _ _ _ _ _ hT5 (M.args_md_get _ _ _) ?_)
  unfold Builtin.«method_descriptor.__get__»
  refine wpAny_bind (wpAny_of_eq (a := (Value.builtin "list.append", some (Value.ref a), some (Value.type "list"))) rfl ?_)
  dsimp only
  rw [f9]
  rw [if_neg (by simp)]
  refine wpAny_bind (wpAny_bind (wpAny_of_eq (a := (Str.ofString (("list.append".cutAt '.').getLastD ""), Value.type (".".intercalate ("list.append".cutAt '.').dropLast))) rfl ?_))
  dsimp only
  refine wpAny_bind (wpAny_isInstance hT f8 ?_)
  simp only [Bool.not_true, Bool.false_eq_true, if_false]
  refine wpAny_pure ?_
  exact wpAny_bind (wpAny_newObj_type (wpAny_pure hq))
theorem append_entry {tk : Tok} {Q : Fin → Shared → Prop} (hx : h.get? a = some o) (hc : o.cls = .type "list") (hq : Q (.done (.ret (.ref h.objs.size))) ⟨h.push (methO a), g, d, t, os⟩) (hd : o.dict = none) {xs : Array Value} {k : Nat} (hdat : o.data = .seq xs k) :
    wpAny (model prog w) A (Builtin.«object.__getattribute__» ⟨[.ref a, .str "append" tk], []⟩) Q E ⟨h, g, d, t, os⟩ := by
  obtain ⟨c, dct, dat, sl⟩ := o
  simp only at hc hdat hd
  subst hc hdat hd
  have hT : (⟨h, g, d, t, os⟩ : Shared).TypeIs (.ref a) "list" := ⟨_, hx, rfl⟩
  have hT5 : (⟨h, g, d, t, os⟩ : Shared).TypeIs (.builtin "list.append") "method_descriptor" := F.type_list_append
  have f4 := F.slot_list_append.lookup
  have f5 := F.type_list_append
  have f6 := M.slot_md_get.lookup
  have f7 := M.md_set
  have f8 := M.md_delete
  unfold Builtin.«object.__getattribute__»
  repeat (any_goals (first | assumption | wp_step))
  refine append_get hx rfl ?_
  exact wpAny_pure hq
end
section
variable {prog : Program} {w : World} {A : Around} {E : Value → Shared → Prop} {s : Shared} {a : Addr}
theorem append_attr {vs : List Value} {k : Nat} {Q : Value → Shared → Prop} (hx : s.heap.get? a = some (listO vs k)) (hq : Q (.ref s.heap.objs.size) { s with heap := s.heap.push (methO a), toks := s.toks + 1 }) :
    wpAny (model prog w) A (getAttr (.ref a) "append" true) Q E s := by
  obtain ⟨hp, g, d, tk, os⟩ := s
  have hT : ∀ tk', (⟨hp, g, d, tk', os⟩ : Shared).TypeIs (.ref a) "list" := fun _ => ⟨_, hx, rfl⟩
  have f3 := F.slot_list_getattribute.lookup
  have f4 := F.slot_list_getattribute.bind (.ref a)
  have f5 := am_list_getattr_none
  unfold getAttr getAttrBy
  repeat (any_goals (first | assumption | exact hT _ | ((with_reducible show wpAny _ _ (call (Value.builtin "list.__getattribute__") _ _) _ _ _); refine wpAny_call_entry F.slot_list_getattribute (hT _) am_entry_list_getattribute (append_entry hx rfl ?_ rfl rfl) (F.args_list_getattribute_2 _ _)) | wp_step))
  exact ⟨_, rfl, wpAny_pure hq⟩
end
end

noncomputable section
open PySem PySem.Calls PyProof.Rows
namespace M
theorem kind_append : builtinKind "list.append" = some .method := by decide +kernel
theorem sub_list_module : isSubtype (.type "list") (.type "module") = pure false := by rw [isSubtype_type]; kernel_rfl
theorem varargs_append : Manifest.varargsMethods.contains "list.append" = false := by decide +kernel
noncomputable def okSig (o : Option Manifest.Signature) (a b : Value) : Prop := match o with
  | none => True
  | some sig => Bind.checkArgs "list.append" { sig with full := s!"{Bind.lastOf "list"}.{Bind.lastOf "list.append"}" } ⟨[a, b], []⟩ = pure ()
theorem sig_append (a b : Value) : okSig (Manifest.signature? "list.append") a b := by
  rw [signature?_of (id := "list.append") (n := ['d', 'n', 'e', 'p', 'p', 'a']) (o := ['t', 's', 'i', 'l']) (by kernel_rfl) F.owner_list]
  show _ = _
  kernel_rfl
end M
section
variable {prog : Program} {w : World} {A : Around} {E : Value → Shared → Prop} {s : Shared} {l b : Addr}
theorem check_append {vs : List Value} {k : Nat} {x : Value} {Q : Unit → Shared → Prop} (hl : s.heap.get? l = some (listO vs k)) (h : Q () s) : wpAny (model prog w) A (checkBoundCall "list.append" ⟨[.ref l, x], []⟩) Q E s := by
  have hT : s.TypeIs (.ref l) "list" := ⟨_, hl, rfl⟩
  have hs := M.sig_append (.ref l) x
  unfold checkBoundCall
  cases hsig : Manifest.signature? "list.append" with
  | none => exact wpAny_pure h
  | some sig =>
    rw [hsig] at hs
    have hs : Bind.checkArgs "list.append" { sig with full := s!"{Bind.lastOf "list"}.{Bind.lastOf "list.append"}" } ⟨[.ref l, x], []⟩ = pure () := hs
    dsimp only
    rw [M.kind_append]
    dsimp only
    rw [if_neg (by decide)]
    refine wpAny_bind (wpAny_isInstance hT M.sub_list_module ?_)
    rw [M.varargs_append]
    simp only [Bool.or_false, Bool.false_eq_true, if_false]
    refine wpAny_bind (wpAny_bind (wpAny_loadPart hl (wpAny_pure ?_)))
    rw [if_neg (by simp)]
    refine wpAny_bind (wpAny_typeOf hT ?_)
    dsimp only
    exact wpAny_of_eq hs h
theorem bound_append {vs : List Value} {k : Nat} {x : Value} {R : Result → Shared → Prop} (hb : s.heap.get? b = some (methO l)) (hl : s.heap.get? l = some (listO vs k))
    (h : wpAny (model prog w) A.in1 (Builtin.«list.append» ⟨[.ref l, x], []⟩) (fun fin s' => match fin with | .done f => R (.ok f) s' | .again c' => c'.quiet = true ∧ codeAny (model prog w) A c' R s') (fun e s' => R (.error e) s') s) :
    codeAny (model prog w) A (.call (.ref b) ⟨[x], []⟩) R s := by
  refine codeAny_of_tree ?_
  show wpAny _ A.in1 (callAny (.ref b) ⟨[x], []⟩) _ _ _
  unfold callAny
  refine wpAny_bind (wpAny_load hb ?_)
  dsimp only
  rw [if_pos (by decide)]
  show wpAny _ _ (do
    checkBoundCall "list.append" ⟨[.ref l, x], []⟩
    pure (PySem.Fin.again (Code.builtin "list.append" ⟨[.ref l, x], []⟩))) _ _ _
  refine wpAny_bind (check_append hl (wpAny_pure ⟨plainId_quiet F.slot_list_append.plain _, codeAny_builtin F.entry_list_append ?_⟩))
  rw [Around.under_plainId F.slot_list_append.plain _]
  exact h
end
end

noncomputable section
open PySem PySem.Calls PyProof.Rows
theorem zip_lookup_some {as : List Str} {vs : List Value} (h : as.length = vs.length) : ∀ n ∈ as, ((as.zip vs).lookup n).isSome = true := by
  induction as generalizing vs with
  | nil => intro n hn; cases hn
  | cons a as ih =>
    cases vs with
    | nil => cases h
    | cons v vs =>
      intro n hn
      rw [List.zip_cons_cons, List.lookup_cons]
      cases q : (n == a) with
      | true => rfl
      | false =>
        rcases List.mem_cons.mp hn with e | e
        · subst e; simp at q
        · exact ih (by simpa using h) n e
theorem zip_filterMap {as : List Str} (hn : as.Nodup) : ∀ {vs : List Value}, as.length = vs.length → as.filterMap (fun n => ((as.zip vs).lookup n).map (n, ·)) = as.zip vs := by
  induction as with
  | nil => intro vs _; rfl
  | cons a as ih =>
    intro vs h
    cases vs with
    | nil => cases h
    | cons v vs =>
      have h' : as.length = vs.length := by simpa using h
      rw [List.nodup_cons] at hn
      rw [List.filterMap_cons, List.zip_cons_cons]
      simp only [List.lookup_cons, beq_self_eq_true, Option.map_some]
      congr 1
      have hc : ∀ n ∈ as, (match n == a with | true => some v | false => List.lookup n (as.zip vs)) = List.lookup n (as.zip vs) := fun n hm => by
        have : (n == a) = false := by
          have : n ≠ a := fun e => hn.1 (e ▸ hm)
          simpa using this
        rw [this]
      have gen : ∀ (l : List Str) (f f' : Str → Option (Str × Value)), (∀ n ∈ l, f n = f' n) → l.filterMap f = l.filterMap f' := by
        intro l f f' h
        induction l with
        | nil => rfl
        | cons x l ih =>
          rw [List.filterMap_cons, List.filterMap_cons, h x List.mem_cons_self, ih fun n hn => h n (List.mem_cons_of_mem _ hn)]
      exact (gen as _ _ fun n hm => congrArg (Option.map (n, ·)) (hc n hm)).trans (ih hn.2 h')
theorem zip_take {as : List Str} {vs : List Value} : as.zip vs = as.zip (vs.take as.length) := by
  induction as generalizing vs with
  | nil => rfl
  | cons a as ih =>
    cases vs with
    | nil => rfl
    | cons v vs => rw [List.length_cons, List.take_succ_cons, List.zip_cons_cons, List.zip_cons_cons, ← ih]
theorem bindArgs_any {fd : FuncData} {as : List Arg} {va : Option Arg} {vals : List Value} (hp : fd.params = ⟨[], as, va, [], [], none, []⟩) (hd : fd.defaults = .none) (hl : if va.isNone then as.length = vals.length else as.length ≤ vals.length) (hn : (as.map (fun x : Arg => x.arg)).Nodup) :
    bindArgs fd ⟨vals, []⟩ = match va with
      | none => pure ((as.map (fun x : Arg => x.arg)).zip vals)
      | some a => newTuple (vals.drop as.length) >>= fun t => pure ((as.map (fun x : Arg => x.arg)).zip vals ++ [(a.arg, t)]) := by
  have hle : as.length ≤ vals.length := by cases va <;> simp at hl <;> omega
  have hlen : (as.map (fun x : Arg => x.arg)).length = (vals.take (as.map (fun x : Arg => x.arg)).length).length := by rw [List.length_take, List.length_map]; omega
  have hmiss : ((as.map (fun x : Arg => x.arg)).take ((as.map (fun x : Arg => x.arg)).length)).filter (fun n => (((as.map (fun x : Arg => x.arg)).zip vals).lookup n).isNone) = [] := by
    rw [List.take_length, List.filter_eq_nil_iff]
    intro n hm
    have := zip_lookup_some hlen n hm
    rw [← zip_take] at this
    cases q : ((as.map (fun x : Arg => x.arg)).zip vals).lookup n <;> simp [q] at this ⊢
  have hz := zip_filterMap hn hlen
  rw [← zip_take] at hz
  obtain ⟨name, qual, params, fbody, fscope, fglob, fclo, fdef, fkwd, fdoc, fmod, fann, fcode, fct, fbi⟩ := fd
  simp only at hp hd
  subst hp hd
  unfold bindArgs
  have e0 : ∀ n : Nat, List.drop n ([] : List Value) = [] := fun n => List.drop_nil
  refine (if_neg ?_).trans ?_
  · show ¬ (decide (vals.length > (as.map (fun x : Arg => x.arg)).length) && va.isNone) = true
    cases va with
    | none => 
      simp at hl
      simp [hl]
    | some _ => simp
  refine (if_neg ?_).trans ?_
  · show ¬ (!(List.filter (fun n => (((as.map (fun x : Arg => x.arg)).zip vals).lookup n).isNone) (List.take ((as.map (fun x : Arg => x.arg)).length - (List.drop (0 - (as.map (fun x : Arg => x.arg)).length) ([] : List Value)).length) (as.map (fun x : Arg => x.arg)))).isEmpty) = true
    rw [e0]
    show ¬ (!(List.filter (fun n => (((as.map (fun x : Arg => x.arg)).zip vals).lookup n).isNone) (List.take ((as.map (fun x : Arg => x.arg)).length) (as.map (fun x : Arg => x.arg)))).isEmpty) = true
    rw [hmiss]; decide
  have e1 : ∀ (x : List Str) (n : Nat), x.zip (List.drop n (none.getD (#[] : Array Value)).toList) = [] := fun x n => by
    show x.zip (List.drop n []) = []
    rw [e0, List.zip_nil_right]
  show (forIn (List.zip _ _) _ _ >>= _) = _
  rw [e1, List.forIn_nil]
  have e2 : ((as.map (fun x : Arg => x.arg)) ++ []).filterMap (fun n => (((as.map (fun x : Arg => x.arg)).zip vals).lookup n).map (n, ·)) = (as.map (fun x : Arg => x.arg)).zip vals := by rw [List.append_nil, hz]
  cases va with
  | none =>
    show (pure ((((as.map (fun x : Arg => x.arg)) ++ []).filterMap fun n => (((as.map (fun x : Arg => x.arg)).zip vals).lookup n).map (n, ·))) : Sem (List (Str × Value))) = _
    rw [e2]
  | some a =>
    show (newTuple (vals.drop (as.map (fun x : Arg => x.arg)).length) >>= fun t => pure ((((as.map (fun x : Arg => x.arg)) ++ []).filterMap fun n => (((as.map (fun x : Arg => x.arg)).zip vals).lookup n).map (n, ·)) ++ [(a.arg, t)]) : Sem (List (Str × Value))) = _
    rw [e2, List.length_map]
set_option tactic.hygienic true in
theorem cellsFrom_look : ∀ (names : List (Str × NameKind)) (n : Nat) (acc : List (Str × Addr)), nodupN names = true → (∀ p ∈ acc, look p.1 names = none) → (∀ p ∈ acc, acc.lookup p.1 = some p.2) →
    ∀ p ∈ cellsFrom n names acc, (cellsFrom n names acc).lookup p.1 = some p.2
  | [], _, acc, _, _, h2 => h2
  | (x, k) :: names, n, acc, hn, h1, h2 => by
    unfold nodupN at hn
    split at hn
    · cases hn
    · rename_i q
      have next : ∀ p ∈ acc, look p.1 names = none ∧ p.1 ≠ x := fun p hp => by
        have := h1 p hp
        unfold look at this
        split at this
        · cases this
        · rename_i q2
          exact ⟨this, fun e => by rw [e, sq_refl] at q2; cases q2⟩
      unfold cellsFrom
      split
      · refine cellsFrom_look names (n + 1) _ hn (fun p hp => ?_) (fun p hp => ?_)
        · rcases List.mem_cons.mp hp with e | e
          · subst e; exact q
          · exact (next p e).1
        · rw [List.lookup_cons]
          rcases List.mem_cons.mp hp with e | e
          · subst e; simp
          · have : (p.1 == x) = false := by simpa using (next p e).2
            rw [this]; exact h2 p e
      · exact cellsFrom_look names n acc hn (fun p hp => (next p hp).1) h2
/-- a def as the evaluator can call it -/
noncomputable def fnOk (fn : Fn) : Bool := fn.params.posonlyargs.isEmpty && fn.params.kwonlyargs.isEmpty && fn.params.kw_defaults.isEmpty && fn.params.kwarg.isNone && fn.params.defaults.isEmpty &&
  (match fn.scope.kind with | .function => true | _ => false) && !fn.scope.isCoroutine && !fn.scope.isGenerator && nodupN fn.scope.names && fn.scope.names.all (fun x => match x.2 with | .free => false | _ => true) &&
  (look "__debug__" fn.scope.names).isNone && (look "super" fn.scope.names).isNone && (look "__classdict__" fn.scope.names).isNone && decide ((fn.params.args.map fun x : Arg => x.arg).Nodup) && decide (fn.params.args.length ≤ 20)
noncomputable def fnsOk : List (Str × Value) → Bool
  | [] => true
  | (n, Value.ref a) :: r => (Nat.beq a 67 || match defNamed n PySem.Challenge.pw_qw0055_01.main.body with
    | some fn => fnOk fn
    | .none => true) && fnsOk r
  | _ :: r => fnsOk r
theorem fnsOk_globs : fnsOk globs = true := by decide +kernel
set_option tactic.hygienic true in
theorem fnsOk_at {a : Addr} {n : Str} {fn : Fn} (ha : a ≠ 67) : ∀ l : List (Str × Value), fnsOk l = true → nameAt a l = some n → defNamed n PySem.Challenge.pw_qw0055_01.main.body = some fn → fnOk fn = true
  | [], _, h, _ => by cases h
  | (m, v) :: r, hk, h, hd => by
    cases v with
    | ref b =>
      unfold fnsOk at hk
      rw [Bool.and_eq_true] at hk
      unfold nameAt at h
      split at h
      · rename_i q
        cases h
        have := Nat.eq_of_beq_eq_true q
        subst this
        have h67 : Nat.beq a 67 = false := by
          cases q2 : Nat.beq a 67 with
          | false => rfl
          | true => exact absurd (Nat.eq_of_beq_eq_true q2) ha
        rw [h67, Bool.false_or, hd] at hk
        exact hk.1
      · exact fnsOk_at ha r hk.2 h hd
    | _ => unfold fnsOk at hk; unfold nameAt at h; exact fnsOk_at ha r hk h hd
theorem fnAt_ok {a : Addr} {fn : Fn} (ha : a ≠ 67) (h : fnAt a = some fn) : fnOk fn = true := by
  unfold fnAt at h
  cases q : nameAt a globs with
  | none => rw [q] at h; cases h
  | some n => rw [q] at h; exact fnsOk_at ha globs fnsOk_globs q h
structure FnOk (fn : Fn) : Prop where
  params : fn.params = ⟨[], fn.params.args, fn.params.vararg, [], [], none, []⟩
  kind : fn.scope.kind = .function
  co : fn.scope.isCoroutine = false
  gen : fn.scope.isGenerator = false
  nodup : nodupN fn.scope.names = true
  free : ∀ p ∈ fn.scope.names, p.2 ≠ .free
  dbg : look "__debug__" fn.scope.names = none
  sup : look "super" fn.scope.names = none
  cld : look "__classdict__" fn.scope.names = none
  args : (fn.params.args.map fun x : Arg => x.arg).Nodup
theorem fnOk_ok {fn : Fn} (h : fnOk fn = true) : FnOk fn := by
  unfold fnOk at h
  simp only [Bool.and_eq_true, List.isEmpty_iff, Option.isNone_iff_eq_none, decide_eq_true_eq, List.all_eq_true, Bool.not_eq_true'] at h
  obtain ⟨⟨⟨⟨⟨⟨⟨⟨⟨⟨⟨⟨⟨⟨h1, h2⟩, h3⟩, h4⟩, h5⟩, h6⟩, h7⟩, h8⟩, h9⟩, h10⟩, h11⟩, h12⟩, h13⟩, h14⟩, _⟩ := h
  refine ⟨?_, ?_, h7, h8, h9, fun p hp q => ?_, h11, h12, h13, h14⟩
  · obtain ⟨⟨po, as, va, ko, kd, kw, df⟩, b, sc⟩ := fn
    simp only at h1 h2 h3 h4 h5 ⊢
    subst h1 h2 h3 h4 h5
    rfl
  · cases q : fn.scope.kind <;> rw [q] at h6 <;> first | rfl | cases h6
  · have := h10 p hp
    rw [q] at this; cases this
section
variable {P : Params} {z z' : ZM} {ι ι' : Nat → Addr} {σ σ' : Sto} {env : Env} {h h' : Heap} {n : Nat}
/-- the parameters, bound -/
structure Bound (P : Params) (z : ZM) (ι : Nat → Addr) (n : Nat) (E : AE) (m cm : Str → Option Value) : Prop where
  loc : ∀ x, (∀ a, look x E.ρ = some a → ∃ v, m x = some v ∧ VR P z ι n v a) ∧ (look x E.ρ = none → m x = none)
  cel : ∀ x a, look x E.κ = some a → ∃ v, cm x = some v ∧ VR P z ι n v a
theorem Bound.set {E E' : AE} {m cm : Str → Option Value} {x : Str} {a : AV} {v : Value} {kd : Str → Option NameKind} (B : Bound P z ι n E m cm) (hk : ∀ y, kd y = look y E.sc) (e : E.set x a = some E') (r : VR P z ι n v a) :
    Bound P z ι n E' (if kd x = some .local then fun y => if y = x then some v else m y else m) (if kd x = some .local then cm else fun y => if y = x then some v else cm y) := by
  unfold AE.set kindOf at e
  rw [hk]
  cases q : look x E.sc with
  | none => rw [q] at e; cases e
  | some k =>
    rw [q] at e
    cases k with
    | «local» =>
      cases e
      rw [if_pos rfl, if_pos rfl]
      refine ⟨fun y => ?_, B.cel⟩
      show (∀ b, look y (put x a E.ρ) = some b → _) ∧ (look y (put x a E.ρ) = none → _)
      rw [look_put]
      by_cases q2 : y = x
      · rw [if_pos q2]
        exact ⟨fun b hb => by cases hb; exact ⟨v, by simp [q2], r⟩, fun hb => by cases hb⟩
      · rw [if_neg q2]
        exact ⟨fun b hb => let ⟨u, h1, h2⟩ := (B.loc y).1 b hb; ⟨u, by simp [q2, h1], h2⟩, fun hb => by simp [q2, (B.loc y).2 hb]⟩
    | cell =>
      cases e
      rw [if_neg (by decide), if_neg (by decide)]
      refine ⟨B.loc, fun y b hb => ?_⟩
      have hb : look y (put x a E.κ) = some b := hb
      rw [look_put] at hb
      by_cases q2 : y = x
      · rw [if_pos q2] at hb; cases hb
        exact ⟨v, by simp [q2], r⟩
      · rw [if_neg q2] at hb
        obtain ⟨u, h1, h2⟩ := B.cel y b hb
        exact ⟨u, by simp [q2, h1], h2⟩
    | _ => cases e
theorem set_kind {kd : Str → Option NameKind} {E E1 : AE} {x : Str} {v : AV} (hk : ∀ y, kd y = look y E.sc) (q : E.set x v = some E1) : kd x = some .local ∨ kd x = some .cell := by
  rw [hk]
  unfold AE.set kindOf at q
  cases q3 : look x E.sc with
  | none => rw [q3] at q; exact nomatch q
  | some k => rw [q3] at q; cases k <;> first | exact .inl rfl | exact .inr rfl | exact nomatch q
theorem bindP_ok {kd : Str → Option NameKind} {sc : List (Str × NameKind)} : ∀ {as : List Arg} {vs : List AV} {us : List Value} {E E' : AE} {m cm : Str → Option Value}, bindP sc as vs E = some E' → (∀ y, kd y = look y E.sc) → VRs P z ι n us vs → Bound P z ι n E m cm →
    Bound P z ι n E' (bindL kd ((as.map fun x : Arg => x.arg).zip us) m) (bindC kd ((as.map fun x : Arg => x.arg).zip us) cm) ∧ E'.sc = E.sc ∧ as.length = vs.length ∧ ∀ p ∈ (as.map fun x : Arg => x.arg).zip us, kd p.1 = some .local ∨ kd p.1 = some .cell
  | [], [], us, E, E', m, cm, e, hk, rs, B => by
    cases Option.some.inj e
    exact rs.nil_el (D := fun us => Bound P z ι n E (bindL kd ([].zip us) m) (bindC kd ([].zip us) cm) ∧ E.sc = E.sc ∧ 0 = 0 ∧ ∀ p ∈ ([] : List Str).zip us, kd p.1 = some .local ∨ kd p.1 = some .cell) ⟨B, rfl, rfl, fun p hp => nomatch hp⟩
  | [], _ :: _, _, _, _, _, _, e, _, _, _ => nomatch e
  | _ :: _, [], _, _, _, _, _, e, _, _, _ => nomatch e
  | a :: as, v :: vs, us, E, E', m, cm, e, hk, rs, B => by
    obtain ⟨E1, q, e⟩ : ∃ E1, E.set a.arg v = some E1 ∧ bindP sc as vs E1 = some E' := Option.bind_eq_some_iff.mp e
    refine rs.cons_el (D := fun us => Bound P z ι n E' (bindL kd ((a.arg :: as.map fun x : Arg => x.arg).zip us) m) (bindC kd ((a.arg :: as.map fun x : Arg => x.arg).zip us) cm) ∧ E'.sc = E.sc ∧ as.length + 1 = vs.length + 1 ∧ ∀ p ∈ (a.arg :: as.map fun x : Arg => x.arg).zip us, kd p.1 = some .local ∨ kd p.1 = some .cell) fun u us r rs => ?_
    obtain ⟨b1, b2, b3, b4⟩ := bindP_ok (kd := kd) e (fun y => by rw [set_sc q]; exact hk y) rs (B.set hk q r)
    refine ⟨b1, b2.trans (set_sc q), congrArg (· + 1) b3, fun p hp => ?_⟩
    rw [List.zip_cons_cons] at hp
    rcases List.mem_cons.mp hp with e2 | e2
    · subst e2
      exact set_kind hk q
    · exact b4 p e2
theorem bindL_append {kd : Str → Option NameKind} : ∀ (l l' : List (Str × Value)) (m : Str → Option Value), bindL kd (l ++ l') m = bindL kd l' (bindL kd l m)
  | [], _, _ => rfl
  | _ :: l, l', m => bindL_append l l' _
theorem bindC_append {kd : Str → Option NameKind} : ∀ (l l' : List (Str × Value)) (m : Str → Option Value), bindC kd (l ++ l') m = bindC kd l' (bindC kd l m)
  | [], _, _ => rfl
  | _ :: l, l', m => bindC_append l l' _
end
section
variable {P : Params} {g : GF} {mu : List Addr} {z z' : ZM} {ι ι' : Nat → Addr} {σ σ' : Sto} {h h' : Heap} {n m : Nat}
theorem OR.lock {o : Obj} {ao : AO} (r : OR P z ι n o ao) : OR P z ι n o ao.lock := by
  cases ao with
  | list xs => exact r
  | ro xs => exact r
  | _ => exact trivial
theorem lock_still (ao : AO) : ao.lock.still = true := by cases ao <;> rfl
theorem lock_at {k : Nat} {ao : AO} (e : (σ.map AO.lock)[k]? = some ao) : ∃ a, σ[k]? = some a ∧ ao = a.lock := by
  rw [List.getElem?_map] at e
  cases q : σ[k]? with
  | none => rw [q] at e; cases e
  | some a => rw [q] at e; cases e; exact ⟨a, rfl, rfl⟩
theorem SR.lock (S : SR P g z ι σ h) : SR P g z ι (σ.map AO.lock) h where
  base := S.base
  fz := S.fz
  own := fun k ao e => by
    obtain ⟨a, h1, rfl⟩ := lock_at e
    obtain ⟨o, h2, h3⟩ := S.own k a h1
    exact ⟨o, h2, by rw [List.length_map]; exact h3.lock⟩
  off := by rw [List.length_map]; exact S.off
  inj := by rw [List.length_map]; exact S.inj
  tab := S.tab
  taboff := by rw [List.length_map]; exact S.taboff
  g3 := S.g3
  hi := by rw [List.length_map]; exact S.hi
  frs := by rw [List.length_map]; exact S.frs
/-- a frame is opened -/
theorem SR.opened (S : SR P g z ι σ h) {v : Env} {L : Addr} {o : Obj} {es : Array DictEntry} {ep : Nat} (h1 : v.scope.kind ≠ .module) (h2 : v.frame = some L) (h3 : h.get? L = some o) (h4 : o.data = .dict es ep) (h5 : z L = none) (h6 : ∀ k, k < σ.length → ι k ≠ L) (h7 : L ≠ tabA) :
    SR P ⟨g.h, v :: g.fr⟩ z ι σ h where
  base := S.base
  fz := S.fz
  own := S.own
  off := S.off
  inj := S.inj
  tab := S.tab
  taboff := S.taboff
  g3 := S.g3
  hi := S.hi
  frs := fun u hu => by
    rcases List.mem_cons.mp hu with q | q
    · subst q; exact ⟨h1, L, o, es, ep, h2, h3, h4, h5, h6, h7⟩
    · exact S.frs u q
open Classical in
/-- what a call leaves stands for good -/
noncomputable def zfr (z : ZM) (ι : Nat → Addr) (n m : Nat) (h : Heap) : ZM := fun b => match z b with
  | some o => some o
  | none => if ∃ k, n ≤ k ∧ k < m ∧ ι k = b then h.get? b else none
theorem zfr_le (b : Addr) (o : Obj) (e : z b = some o) : zfr z ι n m h b = some o := by unfold zfr; rw [e]
theorem zfr_own {k : Nat} (h1 : n ≤ k) (h2 : k < m) (hz : z (ι k) = none) : zfr z ι n m h (ι k) = h.get? (ι k) := by
  unfold zfr; rw [hz]
  exact if_pos ⟨k, h1, h2, rfl⟩
set_option tactic.hygienic true in
theorem zfr_cases {b : Addr} {o : Obj} (e : zfr z ι n m h b = some o) : z b = some o ∨ (z b = none ∧ h.get? b = some o ∧ ∃ k, n ≤ k ∧ k < m ∧ ι k = b) := by
  unfold zfr at e
  cases q : z b with
  | some o' => rw [q] at e; cases e; exact .inl rfl
  | none =>
    rw [q] at e
    simp only at e
    split at e
    · rename_i hk; exact .inr ⟨rfl, e, hk⟩
    · cases e
theorem call_end {v : Env} (S : SR P g z ι σ h) (hmu : ∀ k, k < σ.length → ι k ∉ mu) (hv : ∀ L, v.frame = some L → L ∈ mu) (x : Ext ⟨g.h, v :: g.fr⟩ mu z ι (σ.map AO.lock) h z' ι' σ' h') (S' : SR P ⟨g.h, v :: g.fr⟩ z' ι' σ' h') :
    Ext g mu z ι σ h (zfr z' ι' σ.length σ'.length h') ι' σ h' ∧ SR P g (zfr z' ι' σ.length σ'.length h') ι' σ h' := by
  have hl : (σ.map AO.lock).length = σ.length := List.length_map ..
  have hle : σ.length ≤ σ'.length := hl ▸ x.len
  have still : ∀ b k ao, (σ.map AO.lock)[k]? = some ao → ι k = b → ao.still = true := fun b k ao e _ => by
    obtain ⟨a, _, rfl⟩ := lock_at e
    exact lock_still a
  have hile : ∀ k, k < σ.length → ι' k = ι k := fun k hk => x.ile k (by rw [hl]; exact hk)
  have hout : ∀ b, b ∉ mu → b ∉ g.ad → b ∉ (GF.mk g.h (v :: g.fr)).ad := fun b h1 h2 q => by
    obtain ⟨u, hu, e⟩ := List.mem_filterMap.mp q
    rcases List.mem_cons.mp hu with r | r
    · subst r; exact h1 (hv b e)
    · exact h2 (List.mem_filterMap.mpr ⟨u, r, e⟩)
  refine ⟨⟨fun b o e => zfr_le b o (x.zle b o e), fun b o e => ?_, hile, fun k h1 h2 => absurd h1 (Nat.not_lt.mpr h2), Nat.le_refl _, fun b o hb h1 h2 _ h4 => x.keep b o hb h1 h2 (still b) (hout b h1 h4), fun b o hb h1 h2 _ => x.keepF b o hb h1 h2 (still b), x.there, fun _ _ _ _ => Iff.rfl⟩, ?_⟩
  · rcases zfr_cases e with q | ⟨_, _, k, h1, h2, rfl⟩
    · exact x.znew b o q
    · exact .inr (x.inew k h2 (by rw [hl]; exact h1))
  · refine ⟨fun b o e => zfr_le b o (S'.base b o e), fun b o e => ?_, fun k ao e => ?_, fun k hk => ?_, fun j k hj hk => S'.inj j k (Nat.lt_of_lt_of_le hj hle) (Nat.lt_of_lt_of_le hk hle), S'.tab, ⟨?_, fun k hk => S'.taboff.2 k (Nat.lt_of_lt_of_le hk hle)⟩, S'.g3, fun k hk => S'.hi k (Nat.lt_of_lt_of_le hk hle), fun u hu => ?_⟩
    · rcases zfr_cases e with q | ⟨_, q, _⟩
      · exact S'.fz b o q
      · exact q
    · have hk : k < σ.length := (List.getElem?_eq_some_iff.mp e).1
      obtain ⟨o, h1, h2⟩ := S.own k ao e
      rw [hile k hk]
      exact ⟨o, x.keep _ o h1 (hmu k hk) (S.taboff.2 k hk) (still _) (hout _ (hmu k hk) (S.ownFr hk)), h2.mono (fun b o q => zfr_le b o (x.zle b o q)) hile (Nat.le_refl _)⟩
    · cases q : zfr z' ι' σ.length σ'.length h' (ι' k) with
      | none => rfl
      | some o =>
        rcases zfr_cases q with q | ⟨_, _, j, h1, h2, h3⟩
        · rw [S'.off k (Nat.lt_of_lt_of_le hk hle)] at q; cases q
        · have := S'.inj j k h2 (Nat.lt_of_lt_of_le hk hle) h3
          (clear h3 h2 hle hl; omega)
    · cases q : zfr z' ι' σ.length σ'.length h' tabA with
      | none => rfl
      | some o =>
        rcases zfr_cases q with q | ⟨_, _, j, h1, h2, h3⟩
        · rw [S'.taboff.1] at q; cases q
        · exact absurd h3 (S'.taboff.2 j h2)
    · obtain ⟨a1, L, o, es, ep, a2, a3, a4, a5, a6, a7⟩ := S'.frs u (List.mem_cons_of_mem _ hu)
      refine ⟨a1, L, o, es, ep, a2, a3, a4, ?_, fun k hk => a6 k (Nat.lt_of_lt_of_le hk hle), a7⟩
      cases q : zfr z' ι' σ.length σ'.length h' L with
      | none => rfl
      | some o' =>
        rcases zfr_cases q with q | ⟨_, _, j, h1, h2, h3⟩
        · rw [a5] at q; cases q
        · exact absurd h3 (a6 j h2)
theorem freezeL_ok {fz : AV → Option AV} {z2 : ZM} (H : ∀ v a a', VR P z ι m v a → fz a = some a' → VR P z2 ι n v a') {vs : List Value} {xs : List AV} (r : VRs P z ι m vs xs) : ∀ {xs' : List AV}, freezeL fz xs = some xs' → VRs P z2 ι n vs xs' :=
  VRs.ind (M := fun vs xs => ∀ {xs' : List AV}, freezeL fz xs = some xs' → VRs P z2 ι n vs xs') (fun e => Option.some.inj e ▸ .nil) (fun {v a vs as} h _ ih xs' e => by
    have e : (match fz a, freezeL fz as with
      | some v', some r' => some (v' :: r')
      | _, _ => none) = some xs' := e
    cases q1 : fz a with
    | none => rw [q1] at e; exact nomatch e
    | some b => cases q2 : freezeL fz as with
      | none => rw [q1, q2] at e; exact nomatch e
      | some bs =>
        rw [q1, q2] at e
        exact Option.some.inj e ▸ .cons (H _ _ _ h q1) (ih q2)) r
theorem freezeD_ok {fz : AV → Option AV} {z2 : ZM} (H : ∀ v a a', VR P z ι m v a → fz a = some a' → VR P z2 ι n v a') {es : List DictEntry} {kv : List (Str × AV)} (r : DRs P z ι m es kv) : ∀ {kv' : List (Str × AV)}, freezeD fz kv = some kv' → DRs P z2 ι n es kv' ∧ kv'.map (·.1) = kv.map (·.1) :=
  DRs.ind (M := fun es kv => ∀ {kv' : List (Str × AV)}, freezeD fz kv = some kv' → DRs P z2 ι n es kv' ∧ kv'.map (·.1) = kv.map (·.1)) (fun e => Option.some.inj e ▸ ⟨.nil, rfl⟩) (fun {x t v a es kv} h _ ih kv' e => by
    have e : (match fz a, freezeD fz kv with
      | some v', some r' => some ((x, v') :: r')
      | _, _ => none) = some kv' := e
    cases q1 : fz a with
    | none => rw [q1] at e; exact nomatch e
    | some b => cases q2 : freezeD fz kv with
      | none => rw [q1, q2] at e; exact nomatch e
      | some bs =>
        rw [q1, q2] at e
        obtain ⟨i1, i2⟩ := ih q2
        exact Option.some.inj e ▸ ⟨.cons (H _ _ _ h q1) i1, congrArg (List.cons x) i2⟩) r
theorem freeze_ok (S' : SR P g z ι σ h) : ∀ (d : Nat) (v : Value) (a a' : AV), VR P z ι σ.length v a → freeze σ n d a = some a' → VR P (zfr z ι n σ.length h) ι n v a'
  | 0, _, _, _, _, e => nomatch e
  | d + 1, v, a, a', r, e => by
    have ih := freeze_ok S' d
    cases a with
    | none => exact Option.some.inj e ▸ r.none_el (C := fun v => VR P _ ι n v .none) .none
    | bool b => exact Option.some.inj e ▸ r.bool_el (C := fun v => VR P _ ι n v (.bool b)) (.bool b)
    | int i => exact Option.some.inj e ▸ r.int_el (C := fun v => VR P _ ι n v (.int i)) (.int i)
    | str x => exact Option.some.inj e ▸ r.str_el (C := fun v => VR P _ ι n v (.str x)) (.str x)
    | con c => exact Option.some.inj e ▸ r.con_el (C := fun v => VR P _ ι n v (.con c)) (.con c)
    | rng lo hi st => exact Option.some.inj e ▸ r.rng_el (C := fun v => VR P _ ι n v (.rng lo hi st)) fun _ _ _ _ hz => .rng (zfr_le _ _ hz)
    | list xs =>
      obtain ⟨ys, q, rfl⟩ : ∃ ys, freezeL (freeze σ n d) xs = some ys ∧ AV.list ys = a' := Option.map_eq_some_iff.mp e
      exact r.list_el (C := fun v => VR P _ ι n v (.list ys)) fun _ _ _ hz hs => .list (zfr_le _ _ hz) (freezeL_ok ih hs q)
    | tup xs =>
      obtain ⟨ys, q, rfl⟩ : ∃ ys, freezeL (freeze σ n d) xs = some ys ∧ AV.tup ys = a' := Option.map_eq_some_iff.mp e
      exact r.tup_el (C := fun v => VR P _ ι n v (.tup ys)) fun _ _ _ hz hs => .tup (zfr_le _ _ hz) (freezeL_ok ih hs q)
    | dict kv =>
      obtain ⟨ys, q, rfl⟩ : ∃ ys, freezeD (freeze σ n d) kv = some ys ∧ AV.dict ys = a' := Option.map_eq_some_iff.mp e
      exact r.dict_el (C := fun v => VR P _ ι n v (.dict ys)) fun _ _ _ h3 hd hz hs => let ⟨i1, i2⟩ := freezeD_ok ih hs q; .dict h3 (by rw [i2]; exact hd) (zfr_le _ _ hz) i1
    | own k =>
      refine r.own_el (C := fun v => VR P _ ι n v a') fun hk => ?_
      have e : (if k < n then some (AV.own k) else match σ[k]? with
        | some (.list xs) => (freezeL (freeze σ n d) xs).map .list
        | some (.dict kv) => (freezeD (freeze σ n d) kv).map .dict
        | _ => none) = some a' := e
      by_cases hlt : k < n
      · rw [if_pos hlt] at e; exact Option.some.inj e ▸ .own hlt
      · rw [if_neg hlt] at e
        have hz : zfr z ι n σ.length h (ι k) = h.get? (ι k) := zfr_own (Nat.not_lt.mp hlt) hk (S'.off k hk)
        cases hx : σ[k]? with
        | none => rw [hx] at e; exact nomatch e
        | some ao =>
          rw [hx] at e
          cases ao with
          | list xs =>
            obtain ⟨_, h1, _, _, rfl, hs⟩ := S'.own k _ hx
            obtain ⟨ys, q, rfl⟩ : ∃ ys, freezeL (freeze σ n d) xs = some ys ∧ AV.list ys = a' := Option.map_eq_some_iff.mp e
            exact .list (hz.trans h1) (freezeL_ok ih hs q)
          | dict kv =>
            obtain ⟨_, h1, _, _, rfl, hs, hd⟩ := S'.own k _ hx
            obtain ⟨ys, q, rfl⟩ : ∃ ys, freezeD (freeze σ n d) kv = some ys ∧ AV.dict ys = a' := Option.map_eq_some_iff.mp e
            obtain ⟨i1, i2⟩ := freezeD_ok ih hs q
            exact .dict (S'.hi k hk) (by rw [i2]; exact hd) (hz.trans h1) i1
          | _ => exact nomatch e
end
section
variable {w : World} {g : GF} {z : ZM} {ι : Nat → Addr} {σ : Sto} {s : Shared} {E : AE}
theorem FR.callee {fn : Fn} {a : Addr} {qual : Str} {code : Value} {P : Params} (O : FnOk fn) (S : SR P g z ι σ s.heap) {m cm : Str → Option Value} (hsc : E.sc = fn.scope.names) (htr : E.tr = true → code = .ref 90) (Bd : Bound P z ι σ.length E m cm) {env : Env}
    (he : env = newEnv fn.scope s.heap.objs.size mainGlobals (cellsFrom (s.heap.objs.size + 1) fn.scope.names []) qual (some a) code none builtinsNs) {s' : Shared} (hI : InCallC s env.locals m env.cells cm s') : FR P z ι σ env E s'.heap := by
  subst he
  have hlook : ∀ x, Env.kindOf (newEnv fn.scope s.heap.objs.size mainGlobals (cellsFrom (s.heap.objs.size + 1) fn.scope.names []) qual (some a) code none builtinsNs) x = look x E.sc := fun x => by
    rw [hsc, look_eq]; rfl
  have old : ∀ b, s.heap.objs.size ≤ b → s.heap.get? b = none := fun b hb => by
    cases q : s.heap.get? b with
    | none => rfl
    | some o => exact absurd (Heap.lt_size q) (Nat.not_lt.mpr hb)
  have hL : s.heap.get? s.heap.objs.size = none := old _ (Nat.le_refl _)
  have hc : ∀ p ∈ cellsFrom (s.heap.objs.size + 1) fn.scope.names [], s.heap.objs.size < p.2 := fun p hp => hI.above p.1 p.2 hp
  have hcn : ∀ p ∈ cellsFrom (s.heap.objs.size + 1) fn.scope.names [], s.heap.get? p.2 = none := fun p hp => old _ (Nat.le_of_lt (hc p hp))
  have hlk := cellsFrom_look fn.scope.names (s.heap.objs.size + 1) [] O.nodup (fun p hp => by cases hp) (fun p hp => by cases hp)
  have own : ∀ k, k < σ.length → ∃ o, s.heap.get? (ι k) = some o := fun k hk => let ⟨o, h1, _⟩ := S.own k _ (List.getElem?_eq_getElem hk); ⟨o, h1⟩
  obtain ⟨ps, htab⟩ := S.tab
  refine ⟨O.kind, fun x => .inl (hlook x), ⟨⟨rfl, rfl⟩, htr⟩, by rw [hsc]; exact O.dbg, by rw [hsc]; exact O.sup, by rw [hsc]; exact O.cld, ⟨m, hI.toInCall.ns, Bd.loc⟩, fun x hx => ?_, hI.apart, fun p hp q => ?_, ⟨S.none_of hL, fun p hp => S.none_of (hcn p hp)⟩, fun k hk => ⟨fun q => ?_, fun p hp q => ?_⟩, ⟨fun q => ?_, fun p hp q => ?_⟩, fun p hp => ⟨cm p.1, hI.cell p.1 p.2 (hlk p hp)⟩⟩
  · rcases hx with hx | hx
    · have h1 : (cellsFrom (s.heap.objs.size + 1) fn.scope.names []).lookup x ≠ none := by
        have := PySem.W.cellsFrom_some (x := x) fn.scope.names (s.heap.objs.size + 1) [] (.inl (by rw [← look_eq, ← hsc]; exact hx))
        intro q; rw [q] at this; cases this
      cases q : (cellsFrom (s.heap.objs.size + 1) fn.scope.names []).lookup x with
      | none => exact absurd q h1
      | some c =>
        refine ⟨c, cm x, q, hI.cell x c q, fun a ha => ?_⟩
        obtain ⟨v, h2, h3⟩ := Bd.cel x a ha
        exact ⟨v, h2, h3⟩
    · exact absurd rfl (O.free _ (look_mem (hsc ▸ hx)))
  · have := hc p hp
    rw [show p.2 = s.heap.objs.size from q] at this
    exact absurd this (Nat.lt_irrefl _)
  · obtain ⟨o, ho⟩ := own k hk
    rw [show ι k = s.heap.objs.size from q, hL] at ho; cases ho
  · obtain ⟨o, ho⟩ := own k hk
    rw [show ι k = p.2 from q, hcn p hp] at ho; cases ho
  · rw [← show s.heap.objs.size = tabA from q, hL] at htab; cases htab
  · rw [← show p.2 = tabA from q, hcn p hp] at htab; cases htab
end
end

noncomputable section
open PySem PySem.Calls PyProof.Rows
section
variable {g : GF} {z z' : ZM} {ι ι' : Nat → Addr} {σ σ' : Sto} {h h' : Heap} {mu : List Addr}
theorem Ext.lessAll (e : Ext g mu z ι σ h z' ι' σ' h') (hC : ∀ b ∈ mu, h.get? b = none) {mu' : List Addr} : Ext g mu' z ι σ h z' ι' σ' h' :=
  { e with
    keep := fun b o hb _ h2 h3 => e.keep b o hb (fun q => by rw [hC b q] at hb; cases hb) h2 h3
    keepF := fun b o hb _ h2 h3 => e.keepF b o hb (fun q => by rw [hC b q] at hb; cases hb) h2 h3 }
end
section
variable {n : Nat} {σ σ1 σ2 σ3 σ' : Sto} {k : K σ} {E : AE} {A : Around} {v z f : AV} {vs : List AV} {a : Addr} {xs : List AV} {j m : Nat}
/-- the parameters are bound -/
structure Bds (k : K σ) (fn : Fn) (E : AE) (tr : Bool) (binds : List (Str × Value)) : Prop where
  bd : Bound k.w.params k.z k.ι σ.length E (bindL (fun x => fn.scope.names.lookup x) binds fun _ => none) (bindC (fun x => fn.scope.names.lookup x) binds fun _ => none)
  sc : E.sc = fn.scope.names
  tr : E.tr = tr
  loc : ∀ p ∈ binds, fn.scope.names.lookup p.1 = some .local ∨ fn.scope.names.lookup p.1 = some .cell
theorem set_tr {E E' : AE} {x : Str} (e : E.set x v = some E') : E'.tr = E.tr := by
  unfold AE.set at e
  split at e <;> cases e <;> rfl
theorem bindP_tr {sc : List (Str × NameKind)} : ∀ {as : List Arg} {vs : List AV} {E0 E1 : AE}, bindP sc as vs E0 = some E1 → E1.tr = E0.tr
  | [], [], _, _, e => Option.some.inj e ▸ rfl
  | [], _ :: _, _, _, e => nomatch e
  | _ :: _, [], _, _, e => nomatch e
  | _ :: _, _ :: _, _, _, e => let ⟨_, q, e⟩ := Option.bind_eq_some_iff.mp (show _ = some _ from e); (bindP_tr e).trans (set_tr q)
theorem bound0 {P : Params} {z : ZM} {ι : Nat → Addr} {n : Nat} {sc : List (Str × NameKind)} {tr : Bool} : Bound P z ι n ⟨sc, [], [], tr⟩ (fun _ => none) (fun _ => none) := ⟨fun x => ⟨fun a h => (nomatch h), fun _ => rfl⟩, fun x a h => (nomatch h)⟩
theorem bind_ok {fn : Fn} {fd : FuncData} {tr : Bool} {us : List Value} (O : FnOk fn) (e : bindArgsA fn tr vs = some E) (hp : fd.params = fn.params) (hd : fd.defaults = .none) (rs : k.Vs us vs) {Q : List (Str × Value) → Shared → Prop} {X : Value → Shared → Prop}
    (C : ∀ binds (x : Nx k [] σ), Bds x.up fn E tr binds → Q binds x.s) : wpAny (MD k.w) A (bindArgs fd ⟨us, []⟩) Q X k.s := by
  have hlen := rs.length
  have hkd : ∀ y, (fun x => fn.scope.names.lookup x) y = look y fn.scope.names := fun y => (look_eq y _).symm
  unfold bindArgsA at e
  cases hva : fn.params.vararg with
  | none =>
    rw [hva] at e
    obtain ⟨b1, b2, b3, b4⟩ := bindP_ok (kd := fun x => fn.scope.names.lookup x) e hkd rs bound0
    have hpp : fd.params = ⟨[], fn.params.args, none, [], [], none, []⟩ := by rw [hp, O.params, hva]
    rw [bindArgs_any hpp hd (by rw [if_pos (show (none : Option Arg).isNone = true from rfl), b3, ← hlen]) O.args]
    exact wpAny_pure (C _ k.nx ⟨b1, b2, bindP_tr e, b4⟩)
  | some va =>
    rw [hva] at e
    have e : (if fn.params.args.length ≤ vs.length ∧ vs.length ≤ cap then (bindP fn.scope.names fn.params.args (vs.take fn.params.args.length) ⟨fn.scope.names, [], [], tr⟩).bind fun E => E.set va.arg (.tup (vs.drop fn.params.args.length)) else none) = some E := e
    by_cases hle : fn.params.args.length ≤ vs.length ∧ vs.length ≤ cap
    · rw [if_pos hle] at e
      obtain ⟨E1, q, e⟩ := Option.bind_eq_some_iff.mp e
      have hpp : fd.params = ⟨[], fn.params.args, some va, [], [], none, []⟩ := by rw [hp, O.params, hva]
      rw [bindArgs_any hpp hd (by rw [if_neg (show ¬ (some va).isNone = true from Bool.false_ne_true), hlen]; exact hle.1) O.args]
      have hd2 := rs.drop fn.params.args.length
      simp only [newTuple]
      refine wpAny_bind (wpAny_newObj_type ?_ (show ((us.drop fn.params.args.length).toArray).size ≤ sizeLine by rw [List.size_toArray, List.length_drop, hlen]; exact cap_fits (Nat.le_trans (Nat.sub_le ..) hle.2)))
      let x : Nx k [] σ := k.newL (o := tupO (us.drop fn.params.args.length) 0) rfl
      obtain ⟨b1, b2, b3, b4⟩ := bindP_ok (kd := fun x => fn.scope.names.lookup x) q hkd (VRs.nx (rs.take fn.params.args.length) x) bound0
      rw [show (fn.params.args.map fun x : Arg => x.arg).zip us = (fn.params.args.map fun x : Arg => x.arg).zip (us.take fn.params.args.length) by
        have := zip_take (as := fn.params.args.map fun x : Arg => x.arg) (vs := us)
        rwa [List.length_map] at this]
      have hE1 : ∀ y, (fun x => fn.scope.names.lookup x) y = look y E1.sc := fun y => by rw [b2]; exact hkd y
      refine wpAny_pure (C _ x ⟨?_, by rw [set_sc e, b2], (set_tr e).trans (bindP_tr q), fun p hp => ?_⟩)
      · rw [bindL_append, bindC_append]
        exact b1.set hE1 e (.tup (zput_self ..) (VRs.nx hd2 x))
      · rcases List.mem_append.mp hp with hp | hp
        · exact b4 p hp
        · rw [List.mem_singleton.mp hp]
          exact set_kind hE1 e
    · rw [if_neg hle] at e; exact nomatch e
/-- what stands when the body of a def begins -/
structure Opn (k : K σ) (A : Around) (env : Env) (E : AE) (x : Nx k [] σ) : Prop where
  F : x.up.Fr env E
  frame : env.frame = some env.locals
  fresh : ∀ b ∈ frA env, k.s.heap.get? b = none
noncomputable abbrev K.open (k : K σ) {env : Env} (F : k.Fr env E) (hf : env.frame = some env.locals) : K σ := ⟨k.w, ⟨k.g.h, env :: k.g.fr⟩, k.z, k.ι, k.s, k.B, by
  obtain ⟨m, ⟨o, es, ep, ho, hd, _⟩, _⟩ := F.ns
  exact k.S.opened (by rw [F.kind]; decide) hf ho hd F.zoff.1 (fun k hk => (F.ioff k hk).1) F.toff.1⟩
/-- a def is entered -/
theorem enter {fn fn' : Fn} {d : Value} {us : List Value} {tr : Bool} (R : Room k.g (n + 3) A) (O : FnOk fn') (hs : fn'.scope = fn.scope) (hf : FnIn k.g.h a fn d) (htr : tr = true → a = 91) {Q X : Value → Shared → Prop}
    (hb : ∀ {A : Around} {fd : FuncData} {Q' : List (Str × Value) → Shared → Prop} {X' : Value → Shared → Prop}, fd.params = fn.params → fd.defaults = d → (∀ binds (x : Nx k [] σ), Bds x.up fn E tr binds → Q' binds x.s) → wpAny (MD k.w) A (bindArgs fd ⟨us, []⟩) Q' X' k.s)
    (H : ∀ env (x : Nx k [] σ) (F : x.up.Fr env E) (hf : env.frame = some env.locals), (∀ b ∈ frA env, k.s.heap.get? b = none) → Room (x.up.open F hf).g (n + 2) (A.deeper env) → ∀ X, wpAny (MD k.w) (A.deeper env) (execs fn.body env) (fun fl s' => Q (match fl with | .ret v => v | _ => .none) s') X x.s) :
    wpAny (MD k.w) A (call (.ref a) us) Q X k.s := by
  obtain ⟨pa, bo, sc⟩ := fn
  obtain ⟨pa', bo', sc'⟩ := fn'
  cases (show sc' = sc from hs)
  obtain ⟨o, fd, c1, c2, c3, c4, c5, c6, c7, c8, c9, c10, c11⟩ := hf
  have kg := k.S.fz
  refine wpAny_call (codeAny_call_function (by have := R.depth; (clear c11 c9 c7 htr; omega)) (k.old c1) c2 (by rw [c6]; exact O.co) (by rw [c6]; exact O.gen) c5 (c3.keeps fun _ _ => k.old) ?_)
  refine hb c4 c10 fun binds x B => ?_
  rw [c6, c7, c8, c9]
  refine wpAny_newFunctionEnv_cells O.kind (fun p hp => ?_) fun env he s2 hI => ?_
  · rcases B.loc p hp with q | q
    · exact .inl q
    · exact .inr ⟨q, PySem.W.cellsFrom_some _ _ _ (.inl q)⟩
  · obtain ⟨h, tk, rfl⟩ := hI.toInCall.same
    let y : Nx x.up [] σ := x.up.grow h tk hI.toInCall.keep
    have F2 : y.up.Fr env E := FR.callee O x.S B.sc (fun q => c11 (htr (B.tr ▸ q))) (by subst he; exact B.bd) he hI
    refine ⟨k.B.lim.keeps fun _ _ => y.up.old, codeAny_func ?_⟩
    have hframe : env.frame = some env.locals := by subst he; rfl
    refine wpAny_mono (H env (x.then y) F2 hframe (fun b hb => ?_) ⟨R.handled, by have := R.depth; show A.depth + 1 + (n + 2) < _; (clear c11 c9 c7 htr; omega), by have := R.units; show A.units + 3 + 20 * (n + 2) < _; (clear c11 c9 c7 htr; omega), Around.frames_deeper R.frames⟩ _) (fun fl s' h => ?_) fun _ _ h => h
    · have : x.s.heap.objs.size ≤ b := by
        rcases List.mem_cons.mp hb with q | q
        · rw [q]; exact hI.toInCall.fresh
        · obtain ⟨p, hp, rfl⟩ := List.mem_map.mp q
          exact Nat.le_trans hI.toInCall.fresh (Nat.le_of_lt (hI.above p.1 p.2 hp))
      cases q : k.s.heap.get? b with
      | none => rfl
      | some o => obtain ⟨_, q⟩ := x.e.there b o q; exact absurd (Heap.lt_size q) (Nat.not_lt.mpr this)
    · cases fl <;> exact h
end
end

noncomputable section
open PySem PySem.Calls PyProof.Rows
section
variable {w : World} {A : Around} {s : Shared} {X : Value → Shared → Prop}
theorem iterable_list {l : Addr} {vs : List Value} {k : Nat} {Q : Bool → Shared → Prop} (hl : s.heap.get? l = some (listO vs k)) (h : Q false s) : wpAny (MD w) A (notIterableAtAll (.ref l)) Q X s := by
  unfold notIterableAtAll
  refine wpAny_bind (wpAny_specialOf (T := "list") ⟨_, hl, rfl⟩ slot_list_iter.lookup ?_)
  exact wpAny_pure h
/-- an object that is called by the machine: no def, no type -/
theorem callWith_obj {pos : Pos} {a : Addr} {args : List (Bool × Sem Value)} {Q : Value → Shared → Prop} (hplain : args.any (·.1) = false)
    (h : wpAny (MD w) A (evalArgs (.ref a) true args []) (fun x s₁ => (∃ o vs, s₁.heap.get? a = some o ∧ o.cls = .type "builtin_function_or_method" ∧ o.data = .fields vs) ∧ wpAny (MD w) A (call (.ref a) x.pos x.kw) Q X s₁) X s) :
    wpAny (MD w) A (callWith pos (.ref a) [] args []) Q X s := by
  unfold callWith
  refine wpAny_bind (wpAny_holding (wpAny_mono h (fun x s₁ h₁ => wpAny_bind (wpAny_standAt ?_)) fun _ _ x => x))
  obtain ⟨⟨o, vs, ho, hc, hd⟩, h₁⟩ := h₁
  have tail : ∀ {t : Sem Value}, wpAny (MD w) A t Q X s₁ → wpAny (MD w) A (t >>= fun r => holding [r] point >>= fun _ => pure r) Q X s₁ :=
    fun ht => wpAny_bind (wpAny_mono ht (fun r s₂ hr => wpAny_bind (wpAny_holding (wpAny_point (wpAny_pure hr)))) fun _ _ x => x)
  simp only [hplain, List.any_nil, Bool.or_false]
  refine wpAny_bind (m := keeperOf (.ref a)) ?_
  unfold keeperOf
  refine wpAny_bind (wpAny_load ho ?_)
  rw [hd]
  show wpAny (MD w) A (if (o.cls != Value.type "method") = true then _ else _) _ _ _
  rw [hc, if_pos (by decide)]
  refine wpAny_pure ?_
  rw [if_pos (by decide)]
  exact tail h₁
end
section
variable {n : Nat} {σ σ0 σ1 σ2 σ3 σ' : Sto} {k : K σ} {E E1 : AE} {env : Env} {A : Around} {v u z f : AV} {vs us ws : List AV} {a : Addr} {xs : List AV} {j m i : Nat} {x : Str}
theorem fn_isSome {fn : Fn} (h : fnAt a = some fn) : (fnAt a).isSome = true := by rw [h]; rfl
theorem callD_intro0 (h67 : Nat.beq a 67 = false) (hf : fnAt a = some (dAt i)) (hb : bindArgsA (dAt i) (Nat.beq a 91) vs = some E) (h : WP n (dAt i).body E (σ.map AO.lock) fun f _ σ' => freeze σ' σ.length 5 f.val = some v) : CD n a vs σ v := ⟨fn_isSome hf, fun k A us R rs Q X C => by
  have n67 : a ≠ 67 := fun q => by subst q; cases h67
  refine enter (E := E) (tr := Nat.beq a 91) R (fnOk_ok (fnAt_ok n67 hf)) rfl (k.B.fns a _ hf n67) Nat.eq_of_beq_eq_true (fun hp hd C => bind_ok (fnOk_ok (fnAt_ok n67 hf)) hb hp hd rs C) fun env x F hfr fresh R' X' => ?_
  let k1 := x.up.open F hfr
  let k2 : K (σ.map AO.lock) := ⟨k1.w, k1.g, k1.z, k1.ι, k1.s, k1.B, k1.S.lock⟩
  refine h k2 R' (FR.len F (List.length_map ..)) fun f E' σ' y fl p F' r => ?_
  have ce := call_end (g := k.g) (v := env) x.S F.iOff (fun L hL => by rw [hfr] at hL; cases hL; exact mem_frA_l env) y.e y.S
  let q : Nx k [] σ := ⟨_, y.ι, y.s, (x.e.anyMu.trans ce.1).lessAll fresh, ce.2, x.d.trans y.d⟩
  have fin : ∀ (u : Value) (b : AV), VR k.w.params y.z y.ι σ'.length u b → freeze σ' σ.length 5 b = some v → Q u y.s := fun u b ru eb => C q u (freeze_ok y.S 5 u b v ru eb)
  cases f with
  | next => cases (show fl = .next from r); exact fin _ _ .none p
  | brk => cases (show fl = .brk from r); exact fin _ _ .none p
  | cont => cases (show fl = .cont from r); exact fin _ _ .none p
  | ret b => obtain ⟨u, rfl, hu⟩ := (show ∃ v, fl = .ret v ∧ _ from r); exact fin u b hu p⟩
theorem callD_intro (h67 : Nat.beq a 67 = false) (_ : Nat.beq a 84 = false) (hf : fnAt a = some (dAt i)) (hb : bindArgsA (dAt i) (Nat.beq a 91) vs = some E) (h : WP n (dAt i).body E (σ.map AO.lock) fun f _ σ' => freeze σ' σ.length 5 f.val = some v) : CD n a vs σ v := callD_intro0 h67 hf hb h
theorem bind_nil {sc : List (Str × NameKind)} : bindP sc [] [] E = some E := rfl
theorem bind_cons {sc : List (Str × NameKind)} {a : Arg} {as : List Arg} (h : isLC a.arg E.sc = true) (h2 : bindP sc as vs (E.st a.arg v) = some E1) : bindP sc (a :: as) (v :: vs) E = some E1 := by
  show (E.set a.arg v).bind (bindP sc as vs) = _
  rw [set_st h]; exact h2
theorem bind_var {fn : Fn} {tr : Bool} {a : Arg} {as : List Arg} (hv : fn.params.vararg = some a) (ha : fn.params.args = as) (hl : as.length ≤ vs.length ∧ vs.length ≤ cap) (hu : vs.take as.length = us) (hw : vs.drop as.length = ws)
    (h1 : bindP fn.scope.names as us ⟨fn.scope.names, [], [], tr⟩ = some E1) (h2 : isLC a.arg E1.sc = true) : bindArgsA fn tr vs = some (E1.st a.arg (.tup ws)) := by
  unfold bindArgsA
  rw [hv, ha]
  show (if _ then _ else _) = _
  rw [if_pos hl, hu, hw, h1]
  exact set_st h2
/-- a value that is called, with its arguments -/
noncomputable def CA (n : Nat) (f : AV) (vs : List AV) (σ : Sto) (z : AV) (σ' : Sto) : Prop := ∀ ⦃σ0 : Sto⦄ ⦃es : List Expr⦄ ⦃E : AE⦄, starOk es f = true → ARGS n es E σ0 vs σ → ∀ (k : K σ0) {A : Around} {env : Env} {pos : Pos} {u : Value}, Room k.g (n + 3) A → k.Fr env E → k.V u f → Gives k A (callWith pos u [] (backTo pos (starEach es env)) []) z σ'
theorem star_head {es : List Expr} (h : starOk es f = true) : es.head?.all notStar = true := (Bool.and_eq_true_iff.mp h).1
theorem star_all {es : List Expr} (h : starOk es f = true) (hn : isDef f = false) : es.all notStar = true := by
  have := (Bool.and_eq_true_iff.mp h).2
  rwa [hn, Bool.or_false] at this
theorem call_b {id : String} (h : CB (.builtin id) vs σ z σ') : CA n (.con (.builtin id)) vs σ z σ' := fun ⦃_ _ _⦄ hs ha k A env pos u R F r Q X C =>
  have hp := star_all hs rfl
  r.con_el (C := fun u => wpAny _ _ (callWith pos u [] _ []) Q X _) (callWith_builtin (any_plain (all_plain hp)) (args_ok (star_head hs) ha k R.dn F fun x us rs => h x.up (R.le (Nat.le_add_left ..)) rs fun y u r => C (x.then y) u r))
theorem call_t {id : String} (h : CB (.type id) vs σ z σ') : CA n (.con (.type id)) vs σ z σ' := fun ⦃_ _ _⦄ hs ha k A env pos u R F r Q X C =>
  have hp := star_all hs rfl
  r.con_el (C := fun u => wpAny _ _ (callWith pos u [] _ []) Q X _) (PySem.callWith_type (any_plain (all_plain hp)) (args_ok (star_head hs) ha k R.dn F fun x us rs => h x.up (R.le (Nat.le_add_left ..)) rs fun y u r => C (x.then y) u r))
theorem call_d (h : CD n a vs σ z) : CA n (.con (.ref a)) vs σ z σ := fun ⦃_ es _⦄ hs ha k A env pos u R F r Q X C => by
  have hf : ∃ o fd, k.g.h.get? a = some o ∧ o.data = .func fd := by
    by_cases q : a = 67
    · obtain ⟨o, fd, c1, c2, _⟩ := k.B.hint; exact ⟨o, fd, q ▸ c1, c2⟩
    · obtain ⟨fn, hfn⟩ := Option.isSome_iff_exists.mp h.1
      obtain ⟨o, fd, c1, c2, _⟩ := k.B.fns a fn hfn q; exact ⟨o, fd, c1, c2⟩
  obtain ⟨o, fd, c1, c2⟩ := hf
  refine r.con_el (C := fun u => wpAny (MD k.w) A (callWith pos u [] _ []) Q X k.s) (callWith_function (o := o) (fd := fd) (args_ok (star_head hs) ha k R.dn F fun x us rs => ⟨⟨x.up.old c1, c2⟩, h.2 x.up R rs fun y u r => C (x.then y) u r⟩))
/-- add = res.append, add(v) -/
theorem ev_app {p p2 : Pos} (e : E.get x = some (.own m)) (h : σ[m]? = some (.list xs)) : EV (n + 1) (.Attribute (.Name x p) "append" p2) E σ (.own σ.length) (σ ++ [.meth m]) := fun k A env R F Q X C =>
  Attribute_name ((evp_name (n := n) e) k R F fun y b r => VR.own_el (C := fun b => wpAny (MD k.w) A (getAttr b "append" true) Q X y.s) r fun hlt => by
    obtain ⟨o, ho, vs, q, rfl, _⟩ := y.S.own _ _ h
    exact append_attr ho (C (y.then (y.up.newO (ao := .meth m) rfl ⟨hlt, rfl⟩ (tk := _))) _ own_put))
/-- add(v) -/
theorem call_m (h : σ[j]? = some (.meth m)) (h2 : σ[m]? = some (.list xs)) (hc : xs.length < cap) : CA n (.own j) [v] σ .none (σ.set m (.list (xs ++ [v]))) := fun ⦃σ0 es _⦄ hs ha k A env pos u R F r Q X C => by
  have hp := star_all hs rfl
  refine VR.own_el (C := fun u => wpAny (MD k.w) A (callWith pos u [] _ []) Q X k.s) r fun hj => ?_
  refine callWith_obj (any_plain (all_plain hp)) (args_ok (star_head hs) ha k R.dn F fun x us rs => ?_)
  obtain ⟨_, h3, _, rfl⟩ := x.S.own _ _ h
  obtain ⟨_, h4, ws, q, rfl, hws⟩ := x.S.own _ _ h2
  rw [x.e.ile j hj] at h3
  refine ⟨⟨_, _, h3, rfl, rfl⟩, rs.el1 (D := fun us => wpAny (MD k.w) A (call (.ref (k.ι j)) us) Q X x.s) fun b r1 => wpAny_call (bound_append h3 h4 ?_)⟩
  obtain ⟨_, q⟩ := mapSeq_at (f := fun x => x.push b) (ws := ws ++ [b]) h4 (by simp)
  refine wpAny_mono (AutoListH.list_append_list_val_0 (x.ι m) ws.toArray _ b (by rw [List.size_toArray, hws.length]; exact cap_fits (Nat.le_of_lt hc)) PG k.w A (fun r s' => match r with | .ok (.ret v) => Q v s' | .ok _ => False | .error e => X e s') x.s ⟨h4, ?_⟩) (fun _ _ q => q) fun _ _ q => q
  exact C (x.then (x.up.setL h2 q (hws.append (.one r1)))) _ .none
theorem ev_call {fn : Str} {fp p : Pos} {as : List Expr} (h1 : EV n (.Name fn fp) E σ f σ1) (h2 : starOk as f = true) (h3 : ARGS n as E σ1 vs σ2) (h4 : CA n f vs σ2 z σ3) : EV (n + 1) (.Call (.Name fn fp) as [] p) E σ z σ3 := fun k A env R F Q X C =>
  Call_Name rfl (h1 k R.dn F fun x u r => h4 h2 h3 x.up R (F.nx x) r fun y u r => C (x.then y) u r)
/-- f(*xs) -/
theorem args_star {e : Expr} {p : Pos} (h1 : EV n e E σ v σ1) (h2 : lists σ1 v = some vs) (h3 : vs.length ≤ cap) : ARGS n [.Starred e p] E σ vs σ1 := fun k A env R F pos Q X C => by
  show wpAny (MD k.w) A (spliced [(true, do let v ← eval e env; standAt pos; pure v)]) _ _ _
  rw [spliced]
  refine wpAny_bind (wpAny_bind (h1 k R F fun x u r => wpAny_bind (wpAny_standAt (wpAny_pure ?_))))
  obtain ⟨l, ws, q, rfl, hg, hs⟩ : ∃ l ws q, u = .ref l ∧ x.s.heap.get? l = some (listO ws q) ∧ x.up.Vs ws vs := lists_el (C := fun u => ∃ l ws q, u = .ref l ∧ x.s.heap.get? l = some (listO ws q) ∧ x.up.Vs ws vs) r h2 fun l ws q g hs => ⟨l, ws, q, rfl, g, hs⟩
  rw [if_pos rfl]
  refine wpAny_bind (iterable_list hg ?_)
  show wpAny (MD k.w) A (collect (.ref l) >>= fun here => holding here (spliced []) >>= fun x => pure (here ++ x)) _ _ _
  refine wpAny_bind (wpAny_collect_seq l (T := "list") (.inl rfl) hg rfl rfl (fun h' hk => ?_) (by rw [List.size_toArray, hs.length]; exact cap_fits h3))
  refine wpAny_bind (wpAny_holding (Calls.spliced_nil (wpAny_pure ?_)))
  rw [List.append_nil]
  let y : Nx x.up [] σ1 := x.up.grow h' x.s.toks hk
  exact C (x.then y) _ (VRs.nx hs y)
end
end

noncomputable section
open PySem PySem.Calls PyProof.Rows PySem.W
section
variable {P : Params} {g : GF} {mu : List Addr} {z : ZM} {ι : Nat → Addr} {σ : Sto} {h h' : Heap}
/-- the heap grew, the table of codes grew -/
theorem SR.tabStep (S : SR P g z ι σ h) (hx : ∀ b o, b ≠ tabA → h.get? b = some o → h'.get? b = some o) (ht : ∃ ps : { ps : Array Value // TriplesOk ps.toList }, h'.get? tabA = some (PySem.W.tabObj ps.1)) : SR P g z ι σ h' where
  base := S.base
  fz := fun b o e => hx b o (fun q => by rw [q, S.taboff.1] at e; cases e) (S.fz b o e)
  own := fun k ao e => let ⟨o, h1, h2⟩ := S.own k ao e; ⟨o, hx _ _ (S.taboff.2 k (List.getElem?_eq_some_iff.mp e).1) h1, h2⟩
  off := S.off
  inj := S.inj
  tab := ht
  taboff := S.taboff
  g3 := S.g3
  hi := S.hi
  frs := S.frs.step fun L o es ep e d hz hi ht => ⟨o, es, ep, hx _ _ ht e, d, hz, hi⟩
theorem Ext.tabStep (hx : ∀ b o, b ≠ tabA → h.get? b = some o → h'.get? b = some o) (ht : ∃ ps : { ps : Array Value // TriplesOk ps.toList }, h'.get? tabA = some (PySem.W.tabObj ps.1)) : Ext g mu z ι σ h z ι σ h' where
  zle := fun _ _ e => e
  znew := fun _ _ e => .inl e
  ile := fun _ _ => rfl
  inew := fun k h1 h2 => absurd h1 (Nat.not_lt.mpr h2)
  len := Nat.le_refl _
  keep := fun b o e _ hb _ _ => hx b o hb e
  keepF := fun b o e _ hb _ => ⟨o.slots, hx b o hb e⟩
  there := fun b o e => by
    by_cases q : b = tabA
    · obtain ⟨ps, e2⟩ := ht; exact ⟨_, q ▸ e2⟩
    · exact ⟨o, hx b o q e⟩
  busy := fun _ _ _ _ => Iff.rfl
end
section
variable {M : Model} {A : Around} {E : Value → Shared → Prop} {s : Shared}
theorem genexprCode_any {env : Env} {ps : { ps : Array Value // TriplesOk ps.toList }} {pos : Pos} {qualname : Str} {scope : Scope} {Q : Value → Shared → Prop} (hcode : env.code = .ref 90) (C : PySem.W.CodeHd s.heap 90 tabA) (hP : s.heap.get? tabA = some (PySem.W.tabObj ps.1))
    (h : ∀ code h' tk, (∀ b o, b ≠ tabA → s.heap.get? b = some o → h'.get? b = some o) → s.heap.objs.size ≤ h'.objs.size → (∃ ps : { ps : Array Value // TriplesOk ps.toList }, h'.get? tabA = some (PySem.W.tabObj ps.1)) → Q code { s with heap := h', toks := tk }) :
    wpAny M A (genexprCode env pos qualname scope) Q E s := by
  cases hf : codeAmong pos ps.1.toList with
  | some cv => exact wpAny_genexprCode_hit hcode (C.code hP ps.2) hf (h cv s.heap s.toks (fun _ _ _ e => e) (Nat.le_refl _) ⟨ps, hP⟩)
  | none =>
    refine wpAny_genexprCodeX hcode (C.code hP ps.2) (C.tab hP) hf fun c' h' tk hx hge hlt hc' hrec htab _ => ?_
    refine h _ h' tk hx (by omega) ⟨⟨_, ?_⟩, htab.2⟩
    obtain ⟨_, _, _, _, _, _, _, _, _, op, _, _, _, _, _, _, _, hop, hpd, htr, _⟩ := hc'
    exact htr
end
section
variable {n : Nat} {E : AE} {σ σ' : Sto} {v : AV} {x : Str} {w : World} {A : Around} {s : Shared}
noncomputable abbrev K.tabStep (k : K σ) (h' : Heap) (tk : Nat) {mu : List Addr} (hx : ∀ b o, b ≠ tabA → k.s.heap.get? b = some o → h'.get? b = some o) (ht : ∃ ps : { ps : Array Value // TriplesOk ps.toList }, h'.get? tabA = some (PySem.W.tabObj ps.1)) : Nx k mu σ :=
  ⟨k.z, k.ι, { k.s with heap := h', toks := tk }, Ext.tabStep hx ht, k.S.tabStep hx ht, Same.mk k.s _ _⟩
/-- f'[{y}]' -/
theorem ev_fstr {e : Expr} {c d y : Str} {j l : Nat} {p p1 p2 p3 : Pos} (h : EV n e E σ (.str y) σ') (hc : (c ++ y ++ d).length ≤ cap) : EV (n + 1) (.JoinedStr [.Constant (.str c) j p1, .FormattedValue e (-1) none p2, .Constant (.str d) l p3] p) E σ (.str (c ++ y ++ d)) σ' := fun k A env R F Q X C => by
  have h1 : (c ++ y).length ≤ sizeLine := cap_fits (Nat.le_trans (by rw [strLen_append (c ++ y)]; (clear hc; omega)) hc)
  have h2 : c.length ≤ sizeLine := Nat.le_trans (by rw [strLen_append c]; (clear h1 hc; omega)) h1
  have h3 : y.length ≤ sizeLine := Nat.le_trans (by rw [strLen_append c]; (clear h2 h1 hc; omega)) h1
  refine wpAny_JoinedStr ?_
  show wpAny _ _ (eval _ env) _ _ _
  refine wpAny_Constant_str ⟨c, _, rfl, by rw [Str.empty_append]; exact h2, ?_⟩
  rw [Str.empty_append]
  show wpAny _ _ (eval _ env) _ _ _
  refine wpAny_FormattedValue_plain (h (k.tok (k.s.toks + 1)).up R.dn (F.nx (k.tok (k.s.toks + 1))) fun z u r => r.str_el (C := fun u => wpAny _ _ (formatField u Str.empty) _ _ _) fun t => ?_)
  have last : ∀ tk, Joins (MD k.w) A X (evalEach [.Constant (.str d) l p3] env) (c ++ y) (fun out s1 => out.length ≤ sizeLine ∧ Q (.str out s1.toks) { s1 with toks := s1.toks + 1 }) { z.s with toks := tk } := fun tk => by
    show wpAny _ _ (eval _ env) _ _ _
    refine wpAny_Constant_str ⟨d, _, rfl, cap_fits hc, cap_fits hc, ?_⟩
    let w : Nx k [] σ' := (k.tok (k.s.toks + 1)).then z
    exact C (w.then (w.up.tok _)) _ (.str _ _)
  exact wpAny_formatField_str ⟨y, _, rfl, h1, last _⟩ ⟨y, _, rfl, h1, last _⟩ h3
theorem replace_id {x a b : Str} {t u v : Tok} {Q X : Value → Shared → Prop} (h0 : (Builtin.Str.occurrences x a 0 x.length (x.length + 1)).isEmpty = true) (h : Q (.str x t) s) :
    wpAny (MD w) A (call (.builtin "str.replace") [.str x t, .str a u, .str b v]) Q X s := by
  refine call_gives F.slot_str_replace (typeIs_str _ _ _) F.entry_str_replace (F.args_str_replace_3 _ _ _) (gives_str_replace x _ _ t _ _ fun h => ?_) ?_
  · rw [h0] at h; cases h
  · rw [h0]
    exact h
theorem rep_node {cenv : Env} {o : Expr} {x a b : Str} {ap p ca cb : Pos} {ka kb : Nat} {Q X : Value → Shared → Prop} (hb : attributeBase o "replace" cenv (eval o cenv) = eval o cenv) (hl : (ap.endLine == p.line) = true)
    (h0 : (Builtin.Str.occurrences x a 0 x.length (x.length + 1)).isEmpty = true)
    (h : wpAny (MD w) A (eval o cenv) (fun v s1 => ∃ t, v = .str x t ∧ Q (.str x t) { s1 with toks := s1.toks + 1 + 1 }) X s) :
    wpAny (MD w) A (eval (.Call (.Attribute o "replace" ap) [.Constant (.str a) ka ca, .Constant (.str b) kb cb] [] p) cenv) Q X s := by
  refine wpAny_Call_method (T := "str") hb rfl hl F.plainAttrs_str F.slot_str_replace F.type_str_replace (wpAny_mono h (fun v s1 ⟨t, e, hq⟩ => ?_) fun _ _ e => e)
  subst e
  exact ⟨typeIs_str _ _ _, (fun _ e => nomatch e), Calls.callWith_builtin rfl (Calls.evalArgs_plain (Calls.spliced_cons (wpAny_Constant_str (k := ka) (pos := ca) (Calls.spliced_cons (wpAny_Constant_str (k := kb) (pos := cb) (Calls.spliced_nil (replace_id h0 hq)))))))⟩
structure FlatScope (scope : Scope) : Prop where
  kind : scope.kind = .function
  co : scope.isCoroutine = false
  free : ∀ y ∈ scope.names, y.2 ≠ .free
  cell : ∀ y ∈ scope.names, y.2 ≠ .cell
theorem flatScope_ok {scope : Scope} (fs : flatScope scope = true) : FlatScope scope := by
  unfold flatScope at fs
  simp only [Bool.and_eq_true] at fs
  obtain ⟨⟨⟨f1, f2⟩, f3⟩, f4⟩ := fs
  refine ⟨?_, by simpa using f4, fun y hy q => ?_, fun y hy q => ?_⟩
  · cases hk : scope.kind <;> rw [hk] at f1 <;> first | rfl | cases f1
  all_goals (have := List.all_eq_true.mp f2 y hy; rw [q] at this; cases this)
theorem isLocal_ok {y : Str} {scope : Scope} (h : isLocal y scope = true) : scope.names.lookup y = some .local := by
  unfold isLocal at h
  rw [← look_eq]
  split at h
  · assumption
  · cases h
/-- the texts that join and sub see -/
structure Tame (x : Str) : Prop where
  o1 : (Builtin.Str.occurrences x "\\" 0 x.length (x.length + 1)).isEmpty = true
  o2 : (Builtin.Str.occurrences x "-" 0 x.length (x.length + 1)).isEmpty = true
  j1 : JoinOk "-" [x] = true
  j2 : Txt.join "-" [x] = x
theorem tame {x : Str} (hx : x = "a" ∨ x = "") : Tame x := by
  rcases hx with rfl | rfl
  all_goals exact ⟨by decide +kernel, by decide +kernel, by decide +kernel, by decide +kernel⟩
/-- '-'.join(s.replace(..).replace(..) for s in chunks) -/
theorem ev_joingen {xn it : Str} {xp ap1 ca1 cb1 p1 ap2 ca2 cb2 p2 yp itp cp ap gp p : Pos} {ka1 kb1 ka2 kb2 j : Nat} {b1 b2 : Str} {scope : Scope} (l1 : (ap1.endLine == p1.line) = true) (l2 : (ap2.endLine == p2.line) = true) (fs : flatScope scope = true) (i0 : isLocal ".0" scope = true)
    (iy : isLocal xn scope = true) (nd : (!(sq xn "__debug__")) = true) (htr : E.tr = true) (hl : (ap.endLine == p.line) = true) (ht : Tame x) (hi : lists σ' v = some [.str x]) (h : EV n (.Name it itp) E σ v σ') :
    EV (n + 1) (.Call (.Attribute (.Constant (.str "-") j cp) "join" ap) [.GeneratorExp (.Call (.Attribute (.Call (.Attribute (.Name xn xp) "replace" ap1) [.Constant (.str "\\") ka1 ca1, .Constant (.str b1) kb1 cb1] [] p1) "replace" ap2) [.Constant (.str "-") ka2 ca2, .Constant (.str b2) kb2 cb2] [] p2) [⟨.Name xn yp, .Name it itp, [], 0⟩] scope gp] [] p) E σ (.str x) σ' := fun k A env R F Q X C => by
  obtain ⟨mg, mb, hmg, _, _, _, _, bm, ob, hb1, hb2, hb3, hb4, hb5, hb6, hb7, hb8⟩ := k.B.ns
  have O := flatScope_ok fs
  refine wpAny_Call_method (T := "str") rfl rfl hl PySem.F.plainAttrs_str PySem.F.slot_str_join PySem.F.type_str_join (wpAny_Constant_str ?_)
  refine ⟨typeIs_str _ _ _, (fun _ e => nomatch e), Calls.callWith_builtin rfl (Calls.evalArgs_plain (Calls.spliced_cons ?_))⟩
  have hroom : A.depth < recursionLimit := by have := R.depth; (clear hb4 hb3 hb2; omega)
  refine wpAny_GeneratorExp_walksQ (cl := []) R.handled O.co (closureFor_none O.free) O.cell (isLocal_ok i0) (isLocal_ok iy) O.kind hroom (h (k.tok (k.s.toks + 1)).up R.dn (F.nx (k.tok (k.s.toks + 1))) fun y u r => ?_) (fun _ => rfl)
  let y0 : Nx k [] σ' := (k.tok (k.s.toks + 1)).then y
  obtain ⟨l, vs, q, rfl, hg, hvs⟩ : ∃ l vs q, u = .ref l ∧ y.s.heap.get? l = some (listO vs q) ∧ y.up.Vs vs [.str x] := lists_el (C := fun u => ∃ l vs q, u = .ref l ∧ y.s.heap.get? l = some (listO vs q) ∧ y.up.Vs vs [.str x]) r hi fun l vs q g hs => ⟨l, vs, q, rfl, g, hs⟩
  obtain ⟨t, rfl⟩ : ∃ t, vs = [.str x t] := hvs.el1 (D := fun vs => ∃ t, vs = [.str x t]) fun u r => r.str_el (C := fun u => ∃ t, [u] = [Value.str x t]) fun t => ⟨t, rfl⟩
  obtain ⟨⟨ps, htri⟩, htab⟩ := y.S.tab
  have kg : ∀ b o, k.g.h.get? b = some o → y.s.heap.get? b = some o := fun b o e => y.up.old e
  have htlt : tabA < y.s.heap.objs.size := Heap.lt_size htab
  have hllt : l < y.s.heap.objs.size := Heap.lt_size hg
  have hlt : l ≠ tabA := fun q => by
    rw [q, htab] at hg; cases hg
  have hlim1 : y.s.heap.NoLimit := k.B.lim.keeps kg
  refine wpAny_pyIter_list ⟨_, hg, rfl, _, rfl⟩ ⟨hlim1.push _, ?_⟩
  refine genexprCode_any (ps := ⟨ps, htri⟩) (F.glob.2 htr) (k.B.cd.keeps fun b o e => Heap.get?_push_of_some _ (kg b o e)) (Heap.get?_push_of_some _ htab) fun code h3 tk3 hx3 hsz3 htab3 => ?_
  have hsz3 : y.s.heap.objs.size + 1 ≤ h3.objs.size := by rw [← size_push']; exact hsz3
  have hx1 : ∀ b o, b ≠ tabA → y.s.heap.get? b = some o → h3.get? b = some o := fun b o hb e => hx3 b o hb (Heap.get?_push_of_some _ e)
  have hmg3 : h3.Ns mainGlobals mg := (hmg.keeps kg).at' fun o e => hx1 _ o (by decide) e
  rw [F.glob.1.1]
  refine wpAny_builtinsFor hmg3 hb1 hb2 (hx1 _ _ hb4 (kg _ _ hb5)) hb6 hb7 hb8 ?_
  have hlim3 : h3.NoLimit := (hlim1.push _).extBut (fun b o hb e => hx3 b o hb e) (by decide)
  have hst : y.s.heap.objs.size > cStatics := let ⟨_, hn, _⟩ := hlim1; hn.lt
  refine ⟨y.s.heap.objs.size, [y.s.heap.objs.size, l], [y.s.heap.objs.size], #[Value.str x t].size, _, _, (fun _ => true), (fun _ y => ∃ u, y = .str x u), rfl, (fun A' hA => Walks.list hA _ _ (Nat.ne_of_lt hllt) #[Value.str x t]),
    ⟨⟨_, hx3 _ _ (Nat.ne_of_gt htlt) (Heap.get?_push_size _ rfl), rfl, rfl⟩, ⟨_, hx1 _ _ hlt hg, rfl, _, rfl⟩⟩, ?_, hlim3, ?_, ?_, ?_⟩
  · intro b hb
    show b < h3.objs.size
    rcases List.mem_cons.mp hb with q | q
    · exact q ▸ Nat.lt_of_succ_le hsz3
    · exact (List.mem_singleton.mp q) ▸ Nat.lt_trans hllt (Nat.lt_of_succ_le hsz3)
  · intro q
    have q : cStatics = y.s.heap.objs.size := List.mem_singleton.mp q
    exact Nat.ne_of_gt hst q.symm
  · intro href _
    refine ⟨fun A' E' i v s2 m2 _ _ _ _ _ => wpAny_pure ⟨rfl, ⟨_, _, rfl, fun _ _ e => e⟩⟩, fun A' E' i v s2 m2 hA hP _ hn hm _ => ?_⟩
    have hP : #[Value.str x t][i]? = some v := hP
    have hv : v = .str x t := by
      match i, hP with
      | 0, hP => exact (Option.some.inj hP).symm
      | i + 1, hP => simp at hP
    subst hv
    refine rep_node rfl l2 ht.o2 (rep_node rfl l1 ht.o1 (wpAny_Name (wpAny_loadName_local O.kind (isLocal_ok iy) hn hm ⟨t, rfl, t, rfl, ⟨t, rfl⟩, ?_⟩) ?_))
    · exact ⟨_, _, rfl, fun _ _ e => e⟩
    · rw [← sq_beq]; simpa using nd
  · intro a h5 tk5 gs hgs ha hsz5 hk5 W st
    refine Calls.spliced_nil ?_
    show wpAny (MD k.w) A (call (.builtin "str.join") [.str "-" k.s.toks, .ref a]) _ _ _
    refine SC.joinGen W.in4_2 (fun i s' st => st.1.typeIs) st ?_ List.mem_cons_self (fun j v hv => ?_) (fun s' lt hm hacc => ?_) ?_
    · intro b hb
      show b < h5.objs.size
      rw [hsz5]
      rcases List.mem_cons.mp hb with q | hb
      · exact q ▸ Nat.lt_succ_self _
      · rcases List.mem_cons.mp hb with q | hb
        · exact q ▸ Nat.lt_succ_of_lt ha
        · exact Nat.lt_succ_of_lt (Nat.lt_trans (List.mem_range.mp hb) ha)
    · obtain ⟨i, _, u, e⟩ := hv
      exact ⟨x, u, e⟩
    · have hl1 : lt.map (·.1) = [x] := by
        obtain ⟨h1, h2⟩ := hacc
        match lt, h1, h2 with
        | [], h1, _ => cases h1
        | [q], _, h2 =>
          obtain ⟨_, _, u, e⟩ := h2 0 (.str q.1 q.2) rfl
          cases e; rfl
        | _ :: _ :: _, h1, _ => simp [strValues] at h1; cases h1
      rw [hl1]
      refine ⟨ht.j1, fun t' k' => ?_⟩
      rw [ht.j2]
      have nw : ∀ b, b < y.s.heap.objs.size → b ∉ h3.objs.size :: [y.s.heap.objs.size] := fun b hb q => by
        rcases List.mem_cons.mp q with q | q
        · (clear hsz5 ha hst hlt hllt htlt hroom hb4 hb3 hb2; omega)
        · have := List.mem_singleton.mp q; (clear hsz5 ha hst hsz3 hlt hllt htlt hroom hb4 hb3 hb2; omega)
      have hx2 : ∀ b o, b ≠ tabA → y.s.heap.get? b = some o → s'.heap.get? b = some o := fun b o hb e =>
        hm.heap b o (nw b (Heap.lt_size e)) (hk5 b o (hx1 b o hb e))
      have ht2 : ∃ ps : { ps : Array Value // TriplesOk ps.toList }, s'.heap.get? tabA = some (PySem.W.tabObj ps.1) := by
        obtain ⟨ps3, q⟩ := htab3
        exact ⟨ps3, hm.heap _ _ (nw _ htlt) (hk5 _ _ q)⟩
      let w : Nx y.up [] σ' := ⟨y.z, y.ι, { s' with toks := k' }, Ext.tabStep hx2 ht2, y.S.tabStep hx2 ht2, ⟨hm.os, fun hb => GenOnlyQ.bare hm.gens (AllBare.push hb hgs)⟩⟩
      exact C (y0.then w) _ (.str _ _)
    · show (passing (fun _ => true) 1 0).length ≤ sizeLine
      rw [sizeLine_eq]; decide
end
end

noncomputable section
open PySem PySem.Calls PyProof.Rows PySem.Builtin PySem.Builtin.Re
noncomputable abbrev reCode : Array Nat := #[14, 14, 4, 1, 1, 9, 0, 64, 0, 1342177280, 0, 0, 0, 0, 0, 17, 0, 13, 11, 9, 0, 64, 0, 1342177280, 0, 0, 0, 0, 0, 17, 1, 1]
noncomputable abbrev patTarget (p v : Value) (x : Str) : ReTarget := { pattern := p, string := v, code := reCode, text := x.cps, kind := 0, groups := 1, pos := 0, lim := x.cps.size }
section
variable {prog : Program} {w : World} {A : Around} {E : Value → Shared → Prop} {s : Shared}
theorem drive_one {m : Sre.M} (h : (m.runFor 4).outcome.isSome = true) : reDrive (2 ^ 64) m = pure (m.runFor 4) := by
  have e : (2 : Nat) ^ 64 = (2 ^ 64 - 1) + 1 := by decide
  rw [e]
  unfold reDrive
  show (if (m.runFor 4).outcome.isSome then pure (m.runFor 4) else _) = _
  rw [if_pos h]
theorem run_fails {m : Sre.M} {Q : Option Sre.M → Shared → Prop} (h : (m.runFor 4).outcome = some .failed) (hq : Q none s) : wpAny (model prog w) A (reRunToEnd m) Q E s := by
  unfold reRunToEnd
  rw [drive_one (by rw [h]; rfl)]
  refine wpAny_bind (wpAny_pure ?_)
  refine wpAny_bind (wpAny_forIn_list _ (fun _ _ s' => s' = s) _ (fun i rest b s' hs => ?_) (fun b s' hs => ?_) _ _ rfl)
  · subst hs
    split
    · exact wpAny_bind (wpAny_rule (wpAny_pure rfl))
    · exact wpAny_pure rfl
  · subst hs
    rw [h]
    exact wpAny_pure hq
theorem whole_ok {p t u : Nat} {x : Str} {v : Tok} {Q : ReTarget → Shared → Prop} (hp : s.heap.get? p = some (patO t u)) (hc : s.heap.get? 71 = some codeO) (hq : Q (patTarget (.ref p) (.str x v) x) s) :
    wpAny (model prog w) A (reWholeTarget (.ref p) (.str x v)) Q E s := by
  unfold reWholeTarget
  refine wpAny_bind (wpAny_fieldsOf hp rfl ?_)
  refine wpAny_bind (wpAny_of_eq (a := (x.cps, 0)) (by first | rfl | kernel_rfl) ?_)
  dsimp only
  have hw : reRawNat ((#[Value.str "([&~|])" t, .int 32 u, .int 1 0, .none, .none, .ref 71, .int 0 0] : Array Value).getD 6 .none) = 0 := rfl
  rw [hw, if_neg (by decide), if_neg (by decide)]
  refine wpAny_bind (wpAny_of_eq (a := ()) rfl ?_)
  show wpAny _ _ (reRawItems (.ref 71) >>= _) _ _ _
  refine wpAny_bind ?_
  unfold reRawItems
  refine wpAny_bind (wpAny_seqItems hc rfl (wpAny_pure (wpAny_pure ?_)))
  have hcd : ((reInts.map fun i => Value.int i 0).toArray.map reRawOf).map (·.toNat) = reCode := by decide +kernel
  show Q { pattern := Value.ref p, string := Value.str x v, code := ((reInts.map fun i => Value.int i 0).toArray.map reRawOf).map (·.toNat), text := x.cps, kind := 0, groups := _, pos := 0, lim := x.cps.size } s
  rw [hcd]
  exact hq
theorem fails_a {x : Str} (h : x = "a" ∨ x = "" ∨ x = "!a") : ((Sre.forSearch reCode x.cps 1 0 x.cps.size false).runFor 4).outcome = some .failed := by
  rcases h with rfl | rfl | rfl <;> kernel_rfl
theorem named_ok {a b : Value} : reNamed "re.Pattern.sub" "sub" ["repl", "string", "count"] 2 [a, b] [] = pure [some a, some b, none] := by
  rfl
theorem sub_loop_ok {p l t u : Nat} {x : Str} {v : Tok} {f : Value} {n : Nat} {Q : Fin → Shared → Prop} (h : x = "a" ∨ x = "" ∨ x = "!a") (hp : s.heap.get? p = some (patO t u)) (hc : s.heap.get? 71 = some codeO) (hl : s.heap.get? l = some (listO [] n))
    (hq : ∀ v' h' tk, (∀ b o, b ≠ l → s.heap.get? b = some o → h'.get? b = some o) → Q (.done (.ret (.str x v'))) { s with heap := h', toks := tk }) :
    wpAny (model prog w) A (Builtin.«re.Pattern.sub.loop» ⟨[.ref p, .str x v, f, rawInt 1, rawInt 0, rawInt 0, rawInt 0, rawInt 0, .bool false, .ref l, .bool false], []⟩) Q E s := by
  unfold Builtin.«re.Pattern.sub.loop»
  show wpAny _ _ (reWholeTarget (.ref p) (.str x v) >>= _) _ _ _
  refine wpAny_bind (whole_ok hp hc ?_)
  rw [if_neg (by decide)]
  dsimp only
  rw [if_neg (by decide)]
  refine wpAny_bind (run_fails (fails_a h) ?_)
  dsimp only
  by_cases hx : Int.toNat 0 < x.cps.size
  · rw [if_pos hx]
    show wpAny _ _ (mkStr ⟨x.cps.extract 0 x.cps.size⟩ >>= _) _ _ _
    rw [show (⟨x.cps.extract 0 x.cps.size⟩ : Str) = x by rw [Array.extract_size]]
    refine wpAny_bind (wpAny_mkStr ?_ (by rcases h with rfl | rfl | rfl <;> decide))
    refine wpAny_bind (wpAny_updateSeq hl rfl ?_ (Nat.zero_le _) (show 1 ≤ sizeLine + 1 from Nat.succ_le_succ (Nat.zero_le _)))
    obtain ⟨n', h1, h2⟩ := mapSeq_at (f := fun xs => xs.push (Value.str x s.toks)) (ws := [Value.str x s.toks]) hl rfl
    show wpAny _ _ (mkStr ⟨x.cps.extract 0 0⟩ >>= _) _ _ _
    rw [show (⟨x.cps.extract 0 0⟩ : Str) = "" by simp; rfl]
    refine wpAny_bind (wpAny_mkStr ?_ (by decide))
    refine wpAny_bind (wpAny_seqItems h1 rfl ?_)
    have hempty : ((some #[Value.str x s.toks]).getD #[]).isEmpty = false := rfl
    rw [hempty, if_neg (by decide)]
    show wpAny _ _ (call (.builtin "str.join") _ >>= _) _ _ _
    have hj1 : JoinOk "" [x] = true := by rcases h with rfl | rfl | rfl <;> decide +kernel
    have hj2 : Txt.join "" [x] = x := by rcases h with rfl | rfl | rfl <;> decide +kernel
    refine wpAny_bind (SC.join (l := [(x, s.toks)]) (texts := [x]) ⟨_, h1, rfl, _, rfl⟩ rfl hj1 fun t' k => ?_)
    rw [hj2, if_neg (by decide)]
    exact wpAny_pure (hq _ _ _ h2)
  · rw [if_neg hx]
    have he : x = "" := by rcases h with rfl | rfl | rfl <;> first | rfl | exact absurd (by decide) hx
    subst he
    show wpAny _ _ (mkStr "" >>= _) _ _ _
    refine wpAny_bind (wpAny_mkStr ?_ (by decide))
    refine wpAny_bind (wpAny_seqItems hl rfl ?_)
    rw [if_pos (by rfl)]
    refine wpAny_bind (wpAny_pure ?_)
    rw [if_neg (by decide)]
    exact wpAny_pure (hq _ s.heap _ fun _ _ _ e => e)
theorem fn_call : ∃ r, typeLookup (.type "function") "__call__" = pure (some r) := ⟨.builtin "function.__call__", by rw [typeLookup_type, builtinLookup_eq_fast]; kernel_rfl⟩
theorem sub_str_bytearray : isSubtype (.type "str") (.type "bytearray") = pure false := by rw [isSubtype_type]; kernel_rfl
theorem plain_subloop : plainId "re.Pattern.sub.loop" = true := by decide +kernel
theorem entry_subloop : entryFor table "re.Pattern.sub.loop" = some Builtin.«re.Pattern.sub.loop» := entryFor_of_tree (by kernel_rfl)
theorem entry_sub : entryFor table "re.Pattern.sub" = some Builtin.«re.Pattern.sub» := entryFor_of_tree (by kernel_rfl)
theorem args_sub (a b c : Value) : argsOk "re.Pattern.sub" ⟨[a, b, c], []⟩ := by unfold argsOk; kernel_rfl
theorem slot_sub : Slot "re.Pattern" "sub" "re.Pattern.sub" :=
  .of (owner := "re.Pattern") (n := "sub") (by rw [typeLookup_type, builtinLookup_eq_fast]; kernel_rfl) (by decide +kernel) (by decide +kernel) (by decide +kernel)
    (by first | exact .inl (by decide +kernel) | exact .inr (by decide +kernel)) (by rw [isSubtype_type]; kernel_rfl)
theorem type_sub : typeOf (.builtin "re.Pattern.sub") = pure (.type "method_descriptor") := by show builtinType _ = _; rw [builtinType_eq_fast]; kernel_rfl
theorem plain_pat : PlainAttrs "re.Pattern" :=
  ⟨⟨"object.__getattribute__", by rw [typeLookup_type, builtinLookup_eq_fast]; kernel_rfl, by decide +kernel⟩, by rw [typeLookup_type, builtinLookup_eq_fast]; kernel_rfl⟩
theorem sub_meets {p a t u : Nat} {x : Str} {v : Tok} {fd : FuncData} (h : x = "a" ∨ x = "" ∨ x = "!a") :
    Meets (Builtin.«re.Pattern.sub» ⟨[.ref p, .ref a, .str x v], []⟩) (fun _ R s => s.heap.get? p = some (patO t u) ∧ s.heap.get? 71 = some codeO ∧ s.heap.get? a = some { cls := .type "function", data := .func fd } ∧
      ∀ v' h' tk, (∀ b o, s.heap.get? b = some o → h'.get? b = some o) → R (.ok (.ret (.str x v'))) { s with heap := h', toks := tk }) := by
  intro prog w A R s hs
  obtain ⟨hp, hc, ha, hq⟩ := hs
  unfold Builtin.«re.Pattern.sub» reSubstitute
  dsimp only
  rw [named_ok]
  refine wpAny_bind (wpAny_pure ?_)
  dsimp only
  refine wpAny_bind (wpAny_pure ?_)
  obtain ⟨r, hr⟩ := fn_call
  refine wpAny_bind (wpAny_specialOf ⟨_, ha, rfl⟩ hr ?_)
  dsimp only [Option.isSome_some]
  rw [if_pos rfl]
  refine wpAny_bind (wpAny_pure ?_)
  rw [if_pos rfl]
  refine wpAny_bind (wpAny_pure ?_)
  dsimp only
  refine wpAny_bind (wpAny_holding (whole_ok hp hc ?_))
  rw [if_pos (by decide)]
  refine wpAny_bind ?_
  unfold reNotHeld
  refine wpAny_bind (wpAny_isInstance (typeIs_str _ _ _) sub_str_bytearray ?_)
  rw [if_neg (by decide)]
  refine wpAny_pure ?_
  refine wpAny_bind (wpAny_newList ?_ (Nat.zero_le _))
  refine wpAny_pure ⟨plainId_quiet plain_subloop _, codeAny_builtin entry_subloop ?_⟩
  rw [Around.under_plainId plain_subloop _]
  have hp1 := Heap.get?_push_of_some (seqObj "list" #[] 0) hp
  have hc1 := Heap.get?_push_of_some (seqObj "list" #[] 0) hc
  refine sub_loop_ok (l := s.heap.objs.size) (n := 0) h hp1 hc1 (Heap.get?_push_size _ rfl) fun v' h' tk hk => ?_
  exact hq v' h' tk fun b o e => hk b o (Nat.ne_of_lt (Heap.lt_size e)) (Heap.get?_push_of_some _ e)
end
end

noncomputable section
open PySem PySem.Calls PyProof.Rows PySem.W
section
variable {M : Model} {A : Around} {E : Value → Shared → Prop} {s : Shared}
theorem lam_any {env : Env} {ps : { ps : Array Value // TriplesOk ps.toList }} {la : Arguments} {lb : Expr} {ls : Scope} {pos : Pos} {mg : Str → Option Value} {Q : Value → Shared → Prop} (hdef : defaultsOf la env = ([], [])) (hcl : closureFor ls env = pure []) (hg0 : env.globals = mainGlobals)
    (hg : s.heap.Ns mainGlobals mg) (hb : s.heap.BuiltinsAt mg tabA) (hcode : env.code = .ref 90) (C : CodeHd s.heap 90 tabA) (hP : s.heap.get? tabA = some (tabObj ps.1))
    (h : ∀ f fd h' tk, s.heap.get? f = none → f ≠ tabA → (∀ b o, b ≠ tabA → s.heap.get? b = some o → h'.get? b = some o) → (∃ ps : { ps : Array Value // TriplesOk ps.toList }, h'.get? tabA = some (tabObj ps.1)) → h'.get? f = some { cls := .type "function", data := .func fd } → Q (.ref f) { s with heap := h', toks := tk }) :
    wpAny M A (eval (.Lambda la lb ls pos) env) Q E s := by
  have htlt := Heap.lt_size hP
  refine kla_eval hdef ?_
  cases hf : codeAmong pos ps.1.toList with
  | some cv =>
    refine kla_makeFunctionHit hcl hg0 hg hcode C hP ps.2 hf hb fun ctv h' tk hk hsz => ?_
    exact h h'.objs.size _ _ tk (Heap.get?_none_of_le hsz) (Nat.ne_of_gt (Nat.lt_of_lt_of_le htlt hsz)) (fun b o _ e => Heap.get?_push_of_some _ (hk b o e)) ⟨ps, Heap.get?_push_of_some _ (hk _ _ hP)⟩ (Heap.get?_push_size _ rfl)
  | none =>
    refine kla_makeFunction hcl hg0 hg hcode C hP ps.2 hf (by decide) hb fun c' ctv h' tk hx hge hlt hrec htab => ?_
    have hsz : s.heap.objs.size ≤ h'.objs.size := by (clear htlt hg0; omega)
    refine h h'.objs.size _ _ tk (Heap.get?_none_of_le hsz) (Nat.ne_of_gt (Nat.lt_of_lt_of_le htlt hsz)) (fun b o hb e => Heap.get?_push_of_some _ (hx b o hb e)) ⟨⟨_, ?_⟩, Heap.get?_push_of_some _ htab⟩ (Heap.get?_push_size _ rfl)
    have hl : (ps.1 ++ #[rawInt pos.line, rawInt pos.col, Value.ref c']).toList = ps.1.toList ++ [rawInt pos.line, rawInt pos.col, .ref c'] := by simp
    rw [hl]
    exact TriplesOk_snoc _ _ _ _ ps.2
end
section
variable {n : Nat} {E : AE} {σ σ' : Sto} {x : Str}
/-- _twin_re_1.sub(lambda .., e) where nothing is found -/
theorem ev_sub {o : Str} {la : Arguments} {lb : Expr} {ls : Scope} {op ap lp p : Pos} {e : Expr} (htr : E.tr = true) (hl : (ap.endLine == p.line) = true) (hlam : lamOk la ls = true) (ho : E.get o = some (.con (Value.ref 72))) (hx : x = "a" ∨ x = "" ∨ x = "!a") (hns : notStar e = true)
    (he : EV n e E σ (.str x) σ') : EV (n + 1) (.Call (.Attribute (.Name o op) "sub" ap) [.Lambda la lb ls lp, e] [] p) E σ (.str x) σ' := fun k A env R F Q X C => by
  unfold lamOk at hlam
  simp only [Bool.and_eq_true, List.isEmpty_iff] at hlam
  obtain ⟨⟨⟨hd1, hd2⟩, hd3⟩, hfl⟩ := hlam
  have O := flatScope_ok hfl
  have hdef : defaultsOf la env = ([], []) := by
    obtain ⟨q1, q2, q3, q4, q5, q6, q7⟩ := la
    simp only at hd1 hd2
    subst hd1
    subst hd2
    rfl
  obtain ⟨mg, mb, hmg, _, _, _, _, bm, ob, hb1, hb2, hb3, hb4, hb5, hb6, hb7, hb8⟩ := k.B.ns
  obtain ⟨pt, pu, hpat⟩ := k.B.pat
  have hstar : starEach [.Lambda la lb ls lp, e] env = [(false, eval (.Lambda la lb ls lp) env), (false, eval e env)] := by
    rw [star_plain (e := .Lambda la lb ls lp) rfl, star_plain hns]; rfl
  refine wpAny_Call_method (T := "re.Pattern") rfl (by rw [hstar]; rfl) hl plain_pat slot_sub type_sub (evp_name (n := n) ho k R F fun y u r => ?_)
  obtain rfl : u = .ref 72 := r.con_el (C := fun u => u = .ref 72) rfl
  have kg1 : ∀ b o, k.g.h.get? b = some o → y.s.heap.get? b = some o := fun b o e => y.up.old e
  refine ⟨⟨_, kg1 _ _ hpat, rfl⟩, (fun a q => by cases q; exact ⟨_, kg1 _ _ hpat, rfl⟩), ?_⟩
  rw [hstar]
  refine Calls.callWith_builtin rfl (Calls.evalArgs_plain (Calls.spliced_cons ?_))
  obtain ⟨⟨ps, htri⟩, htab⟩ := y.S.tab
  refine lam_any (ps := ⟨ps, htri⟩) hdef (closureFor_none O.free) F.glob.1.1 (hmg.keeps kg1) ⟨bm, ob, hb1, hb2, hb3, hb4, kg1 _ _ hb5, hb6, hb7, hb8⟩ (F.glob.2 htr) (k.B.cd.keeps kg1) htab fun f fd h2 tk2 hf hft hx2 ht2 hfd => ?_
  let y2 : Nx k [] σ := y.then (y.up.tabStep h2 tk2 hx2 ht2)
  refine Calls.spliced_cons (he y2.up R.dn (F.nx y2) fun z u r3 => ?_)
  obtain ⟨t3, rfl⟩ : ∃ t, u = .str x t := r3.str_el (C := fun u => ∃ t, u = .str x t) fun t => ⟨t, rfl⟩
  refine Calls.spliced_nil ?_
  have kg3 : ∀ b o, k.g.h.get? b = some o → z.s.heap.get? b = some o := fun b o e => z.up.old e
  have hf3 : z.s.heap.get? f = some { cls := .type "function", data := .func fd } := z.e.keep _ _ hfd (List.not_mem_nil) hft (fun j ao hk q => by
    obtain ⟨o', h1, _⟩ := y.S.own j ao hk
    exact nomatch hf.symm.trans ((congrArg y.s.heap.get? q).symm.trans h1)) (y.S.newFr hf)
  refine call_meets slot_sub ⟨_, kg3 _ _ hpat, rfl⟩ entry_sub (args_sub _ _ _) (sub_meets hx) ⟨kg3 _ _ hpat, kg3 _ _ k.B.pcode, hf3, fun v' h' tk hk => ?_⟩
  exact C ((y2.then z).then (z.up.grow h' tk hk)) _ (.str _ _)
end
end

noncomputable section
open PySem
section
variable {n : Nat} {E : AE} {σ σ1 : Sto} {x : Str} {v : AV}
theorem and_two {a b : Expr} {s t : Bool} (h1 : IT n a E σ s σ) (h2 : IT n b E σ t σ) : ALLT n .And [a, b] E σ (s && t) σ := by
  cases s
  · exact and_f h1
  · exact and_t h1 (and_t1 h2)
theorem or_t1 {e : Expr} {b : Bool} (h : IT n e E σ b σ1) : ALLT n .Or [e] E σ b σ1 := by
  cases b
  · exact or_f h or_nil
  · exact or_t h
theorem or_two {a b : Expr} {s t : Bool} (h1 : IT n a E σ s σ) (h2 : IT n b E σ t σ) : ALLT n .Or [a, b] E σ (s || t) σ := by
  cases s
  · exact or_f h1 (or_t1 h2)
  · exact or_t h1
theorem or_three {a b d : Expr} {s t : Bool} (h1 : IT n a E σ s σ) (h2 : IT n b E σ false σ) (h3 : IT n d E σ t σ) : ALLT n .Or [a, b, d] E σ (s || t) σ := by
  cases s
  · exact or_f h1 (or_f h2 (or_t1 h3))
  · exact or_t h1
theorem st_kap (h : look x E.sc = some .local) : (E.st x v).κ = E.κ := by
  unfold AE.st
  rw [h]
end
section
variable {σ : Sto} {v u z z' : AV} {b b' : Bool} {l r : Option Int} {op : CmpOp} {i : Int}
theorem TR.cast (h : TR σ v b) (e : b = b') : TR σ v b' := e ▸ h
theorem CO.cast (h : CO σ op u v b) (e : b = b') : CO σ op u v b' := e ▸ h
theorem SL.cast (h : SL σ v l r z) (e : z = z') : SL σ v l r z' := e ▸ h
theorem IV.cast (h : IV σ v i z) (e : z = z') : IV σ v i z' := e ▸ h
theorem tr_true (h : TR σ v b) (e : b = true) : TR σ v true := e ▸ h
end
section
variable {n : Nat} {E : AE} {σ : Sto} {x y : Str} {i j : Int} {xs ys : List AV} {k l : Nat} {o p : AO} {v w : AV}
theorem fzL_map {α : Type} {fz : AV → Option AV} {f : α → AV} : ∀ {l : List α}, (∀ a ∈ l, fz (f a) = some (f a)) → freezeL fz (l.map f) = some (l.map f)
  | [], _ => rfl
  | a :: l, H => by
    rw [List.map_cons]
    unfold freezeL
    rw [H a List.mem_cons_self, fzL_map fun b hb => H b (List.mem_cons_of_mem _ hb)]
theorem fzL_nil {fz : AV → Option AV} : freezeL fz [] = some [] := rfl
theorem fzL_cons {fz : AV → Option AV} {a b : AV} {l m : List AV} (h1 : fz a = some b) (h2 : freezeL fz l = some m) : freezeL fz (a :: l) = some (b :: m) := by
  unfold freezeL
  rw [h1, h2]
theorem fz_str {m d : Nat} : freeze σ m (d + 1) (.str x) = some (.str x) := rfl
theorem fz_int {m d : Nat} : freeze σ m (d + 1) (.int i) = some (.int i) := rfl
theorem fz_none {m d : Nat} : freeze σ m (d + 1) .none = some .none := rfl
theorem fz_list {m d : Nat} (h : freezeL (freeze σ m d) xs = some ys) : freeze σ m (d + 1) (.list xs) = some (.list ys) := by
  show (freezeL (freeze σ m d) xs).map AV.list = _
  rw [h]; rfl
theorem fz_tup {m d : Nat} (h : freezeL (freeze σ m d) xs = some ys) : freeze σ m (d + 1) (.tup xs) = some (.tup ys) := by
  show (freezeL (freeze σ m d) xs).map AV.tup = _
  rw [h]; rfl
theorem fz_own {m d : Nat} (hk : m ≤ k) (h1 : σ[k]? = some (.list xs)) (h : freezeL (freeze σ m d) xs = some ys) : freeze σ m (d + 1) (.own k) = some (.list ys) := by
  show (if k < m then some (AV.own k) else match σ[k]? with
      | some (.list xs) => (freezeL (freeze σ m d) xs).map AV.list
      | some (.dict kv) => (freezeD (freeze σ m d) kv).map .dict
      | _ => .none) = _
  rw [if_neg (Nat.not_lt.mpr hk), h1]
  show (freezeL (freeze σ m d) xs).map AV.list = _
  rw [h]; rfl
theorem it_last (h : lists σ v = some (xs ++ [w])) (hc : xs.length < 100000) : IV σ v (-1) w := by
  refine iv_items (j := xs.length) (items_of h) (by decide) ?_ (by rw [List.getElem?_append_right (Nat.le_refl _), Nat.sub_self]; rfl)
  unfold seqIndex?
  rw [List.length_append, List.length_singleton]
  have e1 : ((-1 : Int) + ((xs.length + 1 : Nat) : Int)) = (xs.length : Int) := by (clear hc; omega)
  simp only [show (-1 : Int) < 0 from by decide, if_true, e1]
  simp
  (clear e1 hc; omega)
theorem sto_app (h : σ[k]? = some o) : (σ ++ [p])[k]? = some o := by
  rw [List.getElem?_append_left (List.getElem?_eq_some_iff.mp h).1]; exact h
theorem sto_new : (σ ++ [p])[σ.length]? = some p := by simp
theorem set_new {q : AO} : (σ ++ [p]).set σ.length q = σ ++ [q] := by simp
theorem sto_hit (h : k < σ.length) : (σ.set k o)[k]? = some o := List.getElem?_set_self h
theorem sto_ne (hne : l ≠ k) (h : σ[k]? = some o) : (σ.set l p)[k]? = some o := by rw [List.getElem?_set_ne hne]; exact h
theorem mul_side (h : x.length ≤ cap) : 0 ≤ (x.length : Int) ∧ (x.length : Int) ≤ 100000 ∧ (Str.ofString "/").length * ((x.length : Int)).toNat ≤ cap := by
  have h1 : (Str.ofString "/").length = 1 := by kernel_rfl
  have hc : cap = 100000 := rfl
  rw [h1]
  (clear h1; omega)
theorem slice_cap {l u : Option Int} (h : x.length ≤ cap) : (Txt.slice x l u).length ≤ cap := Nat.le_trans (Txt.slice_le x l u) h
theorem b_len_str (h : x.length ≤ cap) : CA n (.con (.builtin "len")) [.str x] σ (.int x.length) σ := call_b (cb_len_str h)
end
theorem g_lt : look (Str.ofString "lt") globs = some (Value.ref 45) := by kernel_rfl
theorem g_contains : look (Str.ofString "contains") globs = some (Value.ref 52) := by kernel_rfl
theorem g_countOf : look (Str.ofString "countOf") globs = some (Value.ref 59) := by kernel_rfl
theorem g_length_hint : look (Str.ofString "length_hint") globs = some (Value.ref 67) := by kernel_rfl
theorem g_translate : look (Str.ofString "_translate") globs = some (Value.ref 91) := by kernel_rfl
theorem g_fspath : look (Str.ofString "fspath") globs = some (Value.ref 164) := by kernel_rfl
theorem g_get_sep : look (Str.ofString "_get_sep") globs = some (Value.ref 178) := by kernel_rfl
theorem g_join : look (Str.ofString "join") globs = some (Value.ref 185) := by kernel_rfl
theorem g_split : look (Str.ofString "split") globs = some (Value.ref 192) := by kernel_rfl
theorem g_splitroot : look (Str.ofString "splitroot") globs = some (Value.ref 199) := by kernel_rfl
theorem g_dirname : look (Str.ofString "dirname") globs = some (Value.ref 206) := by kernel_rfl
theorem g_normpath : look (Str.ofString "normpath") globs = some (Value.ref 213) := by kernel_rfl
theorem g_law_pattern : look (Str.ofString "_law_pattern") globs = some (Value.ref 220) := by kernel_rfl
theorem g_law_read : look (Str.ofString "_law_read") globs = some (Value.ref 225) := by kernel_rfl
theorem g_law_takes : look (Str.ofString "_law_takes") globs = some (Value.ref 232) := by kernel_rfl
theorem g_law_places : look (Str.ofString "_law_places") globs = some (Value.ref 239) := by kernel_rfl
theorem g_law_book : look (Str.ofString "_law_book") globs = some (Value.ref 244) := by kernel_rfl
theorem g_law_drawn : look (Str.ofString "_law_drawn") globs = some (Value.ref 249) := by kernel_rfl
theorem g_law_kept : look (Str.ofString "_law_kept") globs = some (Value.ref 254) := by kernel_rfl
theorem g_law_lines : look (Str.ofString "_law_lines") globs = some (Value.ref 259) := by kernel_rfl
theorem g_law_read_back : look (Str.ofString "_law_read_back") globs = some (Value.ref 266) := by kernel_rfl
theorem g_len : look (Str.ofString "len") globs = some (Value.builtin "len") := by kernel_rfl
theorem g_sum : look (Str.ofString "sum") globs = some (Value.builtin "sum") := by kernel_rfl
theorem g_abs : look (Str.ofString "abs") globs = some (Value.builtin "abs") := by kernel_rfl
theorem g_iter : look (Str.ofString "iter") globs = some (Value.builtin "iter") := by kernel_rfl
theorem g_next : look (Str.ofString "next") globs = some (Value.builtin "next") := by kernel_rfl
theorem g_isinstance : look (Str.ofString "isinstance") globs = some (Value.builtin "isinstance") := by kernel_rfl
theorem g_issubclass : look (Str.ofString "issubclass") globs = some (Value.builtin "issubclass") := by kernel_rfl
theorem g_range : look (Str.ofString "range") globs = some (Value.type "range") := by kernel_rfl
theorem g_tuple : look (Str.ofString "tuple") globs = some (Value.type "tuple") := by kernel_rfl
theorem g_type : look (Str.ofString "type") globs = some (Value.type "type") := by kernel_rfl
theorem g_str : look (Str.ofString "str") globs = some (Value.type "str") := by kernel_rfl
theorem g_bytes : look (Str.ofString "bytes") globs = some (Value.type "bytes") := by kernel_rfl
end

noncomputable section
open PySem PySem.Calls PyProof.Rows PySem.W PySem.Builtin
section
variable {prog : Program} {w : World} {A : Around} {E : Value → Shared → Prop} {s : Shared} {d : Addr} {f : Int → Option Value}
theorem ke_lookup : isSubtype (.type "KeyError") (.type "LookupError") = pure true := by rw [isSubtype_type]; kernel_rfl
theorem table_keeps {c : Nat} {Q : Builtin.Str.Mapped → Shared → Prop} (hh : A.handled = none) (hd : (d == sysModules) = false) (hm : s.heap.MapOf (intKind prog w) d f) (hf : f (c : Int) = none)
    (h : ∀ h' tk, (∀ b o, s.heap.get? b = some o → h'.get? b = some o) → Q .keep { s with heap := h', toks := tk }) : wpAny (model prog w) A (Builtin.Str.tableLookup (.ref d) c) Q E s := by
  unfold Builtin.Str.tableLookup
  refine wpAny_bind (wpAny_attempt (wpAny_bind (wpAny_mkInt ?_)))
  refine wpAny_getItem_missing_of (s := { s with toks := s.toks + 1 }) (knd := intKind prog w) (k := (c : Int)) (by simp [intKind, Value.isInt]) hd hh hm hf fun h' e hx => ?_
  obtain ⟨ob, t, h1, h2, _⟩ := hx.there
  dsimp only
  refine wpAny_bind (wpAny_isInstance (T := "KeyError") ⟨_, h1, h2⟩ ke_lookup ?_)
  rw [if_pos rfl]
  exact wpAny_bind (wpAny_rule (wpAny_pure (h _ _ hx.keeps)))
theorem translate_a {u : Tok} {Q : Value → Shared → Prop} (hh : A.handled = none) (hd : (d == sysModules) = false) (hm : s.heap.MapOf (intKind prog w) d f) (hf : f 97 = none)
    (h : ∀ h' t tk, (∀ b o, s.heap.get? b = some o → h'.get? b = some o) → Q (.str "a" t) { s with heap := h', toks := tk }) : wpAny (model prog w) A (call (.builtin "str.translate") [.str "a" u, .ref d]) Q E s := by
  refine wpAny_call_entry F.slot_str_translate (typeIs_str _ _ _) F.entry_str_translate ?_ (F.args_str_translate_2 _ _)
  unfold Builtin.«str.translate»
  refine wpAny_bind (wpAny_of_eq (a := (Value.str "a" u, ("a" : Str), Value.ref d)) (by first | rfl | kernel_rfl) ?_)
  dsimp only
  rw [if_neg (by decide)]
  rw [show (("a" : Str).cps.all fun x => decide (x < 128)) = true by kernel_rfl]
  rw [← Array.forIn_toList, show ("a" : Str).cps.toList = [97] by kernel_rfl, List.forIn_cons]
  refine wpAny_bind (wpAny_bind ?_)
  dsimp only
  rw [if_neg (by decide +kernel), if_pos rfl]
  simp only [List.lookup_nil]
  refine wpAny_bind (table_keeps hh hd hm hf fun h' tk hk => ?_)
  dsimp only
  refine wpAny_bind (wpAny_pure ?_)
  dsimp only
  refine wpAny_pure ?_
  show wpAny _ _ (forIn [] _ _) _ _ _
  rw [List.forIn_nil]
  refine wpAny_pure ?_
  dsimp only
  rw [if_neg (by decide +kernel)]
  show wpAny _ _ (retStr "a") _ _ _
  exact wpAny_bind (wpAny_mkStr (wpAny_pure ⟨_, rfl, h _ _ _ hk⟩) (by decide +kernel))
end
section
variable {n : Nat} {E : AE} {σ : Sto} {x : Str}
theorem cb_isi_str : CB (.builtin "isinstance") [.str x, .con (.type "str")] σ (.bool true) σ := fun k _ _ _ rs Q X C =>
  rs.el2 (D := fun us => wpAny _ _ (call (.builtin "isinstance") us) Q X _) fun a b r1 r2 => r1.str_el (C := fun a => wpAny _ _ (call (.builtin "isinstance") [a, b]) Q X _) fun _ => r2.con_el (C := fun b => wpAny _ _ (call (.builtin "isinstance") [_, b]) Q X _) (IsiPair.str_str (C k.nx _ (.bool _)))
/-- pattern.translate(_special_chars_map) -/
theorem ev_translate {v m : Str} {vp ap mp p : Pos} (hl : (ap.endLine == p.line) = true) (hm : (sq m "_special_chars_map" && !sq m "__debug__") = true) (hv : E.get v = some (.str "a")) (hk : look m E.sc = some .globalImplicit) :
    EV (n + 1) (.Call (.Attribute (.Name v vp) "translate" ap) [.Name m mp] [] p) E σ (.str "a") σ := fun k A env R F Q X C => by
  rw [Bool.and_eq_true, Bool.not_eq_true'] at hm
  obtain ⟨mg, mb, hmg, _, _, _, hmap, _⟩ := k.B.ns
  refine wpAny_Call_method (T := "str") rfl rfl hl PySem.F.plainAttrs_str PySem.F.slot_str_translate PySem.F.type_str_translate (evp_name (n := n) hv k R F fun y u r => ?_)
  obtain ⟨t, rfl⟩ : ∃ t, u = .str "a" t := r.str_el (C := fun u => ∃ t, u = .str "a" t) fun t => ⟨t, rfl⟩
  refine ⟨typeIs_str _ _ _, (fun _ e => nomatch e), Calls.callWith_builtin rfl (Calls.evalArgs_plain (Calls.spliced_cons ?_))⟩
  have F2 := F.nx y
  have n2 := hmg.keeps fun b o e => y.up.old e
  rw [← F2.glob.1.1] at n2
  refine wpAny_Name ?_ (by rw [← sq_beq]; exact hm.2)
  rw [loadName_read F2.kind (F2.kindAt hk nofun), sq_eq hm.1]
  refine loadGlobal_global n2 hmap (Calls.spliced_nil ?_)
  obtain ⟨f, ⟨om, es, ep, w1, w2⟩, hf⟩ := k.B.map
  exact translate_a (f := f) R.handled (by decide) ⟨om, es, ep, y.up.old w1, w2⟩ hf fun h' t tk hk' => C (y.then (y.up.grow h' tk hk')) _ (.str _ _)
theorem fn_escape : fnAt 84 = some (dAt 10) := by kernel_rfl
/-- escape -/
theorem c_escape : CD (n + 10) 84 [.str "a"] σ (.str "a") := by
  refine callD_intro0 (i := 10) (E := (AE.st ⟨(dAt 10).scope.names, [], [], Nat.beq 84 91⟩ "pattern" (.str "a"))) rfl fn_escape ?_ ?_
  · show bindP _ (_ :: _) _ _ = _
    exact bind_cons (isLC_of rfl (by kernel_rfl)) bind_nil
  · have gp : (AE.st ⟨(dAt 10).scope.names, [], [], Nat.beq 84 91⟩ "pattern" (.str "a")).get "pattern" = some (.str "a") := get_hit (isLC_of rfl (by kernel_rfl))
    have hs : (AE.st ⟨(dAt 10).scope.names, [], [], Nat.beq 84 91⟩ "pattern" (.str "a")).sc = (dAt 10).scope.names := st_sc
    refine wp_if (c := true) (σ1 := σ.map AO.lock) ?_ (fun _ => ?_) fun h => nomatch h
    · refine it_val (fun _ _ => by kernel_rfl) (ev_call (f := .con (.builtin "isinstance")) (evp_name ?_) rfl (args_cons rfl (evp_name gp) (args_cons (v := .con (.type "str")) rfl (evp_name ?_) args_nil)) (call_b cb_isi_str)) tr_bool
      · exact get_glob hs (by kernel_rfl) g_isinstance
      · exact get_glob hs (by kernel_rfl) g_str
    · exact wp_ret (ev_translate (by kernel_rfl) (by kernel_rfl) gp (by rw [hs]; kernel_rfl)) rfl
end
end

noncomputable section
open PySem PySem.Calls PyProof.Rows PySem.W
/-- what is asked of an iterator's type -/
structure ItK (T id : String) (B : Builtin) : Prop where
  noLen : typeLookup (.type T) "__len__" = pure none
  notB : (Value.type T == Value.type "builtin_function_or_method") = false
  name : (Str.ofString s!"object of type '{shownName T}' has no len()").length ≤ sizeLine
  cls : findCls [] (.type T) (.type "type") "__length_hint__" = some (.val (.builtin id))
  hand : handedIn (.builtin id) = true
  mt : typeOf (.type T) = pure (.type "type")
  stub : Manifest.isStub T = false
  slot : Slot T "__length_hint__" id
  entry : entryFor table id = some B
  args : ∀ a, argsOk id ⟨[a], []⟩
  run : ∀ a, B ⟨[a], []⟩ = (do
    let seq ← field a 0
    if seq == .none then rule s!"{id}.ended"; return ← retInt 0
    let some xs ← seqItems? seq | unsupported s!"internal:{id}"
    let .int i _ ← field a 1 | unsupported s!"internal:{id}"
    retInt (max 0 (xs.size - i)))
theorem itk_list : ItK "list_iterator" "list_iterator.__length_hint__" Builtin.«list_iterator.__length_hint__» where
  noLen := by rw [typeLookup_type, builtinLookup_eq_fast]; kernel_rfl
  notB := by decide
  name := by decide +kernel
  cls := by kernel_rfl
  hand := by decide +kernel
  mt := by first | rfl | kernel_rfl
  stub := by decide +kernel
  slot := .of (owner := "list_iterator") (n := "__length_hint__") (by rw [typeLookup_type, builtinLookup_eq_fast]; kernel_rfl) (by decide +kernel) (by decide +kernel) (by decide +kernel)
    (by first | exact .inl (by decide +kernel) | exact .inr (by decide +kernel)) (by rw [isSubtype_type]; kernel_rfl)
  entry := entryFor_of_tree (by kernel_rfl)
  args := fun a => by unfold argsOk; kernel_rfl
  run := fun a => by rfl
theorem itk_tup : ItK "tuple_iterator" "tuple_iterator.__length_hint__" Builtin.«tuple_iterator.__length_hint__» where
  noLen := by rw [typeLookup_type, builtinLookup_eq_fast]; kernel_rfl
  notB := by decide
  name := by decide +kernel
  cls := by kernel_rfl
  hand := by decide +kernel
  mt := by first | rfl | kernel_rfl
  stub := by decide +kernel
  slot := .of (owner := "tuple_iterator") (n := "__length_hint__") (by rw [typeLookup_type, builtinLookup_eq_fast]; kernel_rfl) (by decide +kernel) (by decide +kernel) (by decide +kernel)
    (by first | exact .inl (by decide +kernel) | exact .inr (by decide +kernel)) (by rw [isSubtype_type]; kernel_rfl)
  entry := entryFor_of_tree (by kernel_rfl)
  args := fun a => by unfold argsOk; kernel_rfl
  run := fun a => by rfl
section
variable {prog : Program} {w : World} {A : Around} {E : Value → Shared → Prop} {s : Shared} {T id : String} {B : Builtin} {a : Addr}
theorem len_raises (K : ItK T id B) (hh : A.handled = none) (hT : s.TypeIs (.ref a) T) {Q : Value → Shared → Prop} (h : ∀ h' tk e, Heap.NewExc s.heap h' e "TypeError" → E (.ref e) { s with heap := h', toks := tk }) :
    wpAny (model prog w) A (call (.builtin "len") [.ref a]) Q E s := by
  refine call_function_entry kind_len plain_len entry_len (args_len1 _) ?_
  unfold Builtin.«len»
  refine wpAny_bind (m := oneArg "len" _) (wpAny_of_eq (a := .ref a) (by first | rfl | kernel_rfl!) ?_)
  refine wpAny_bind (wpAny_callSpecial?_none (name := Str.ofString "__len__") hT K.noLen ?_)
  refine wpAny_bind (wpAny_rule ?_)
  refine wpAny_bind (wpAny_typeNameOf' hT K.notB ?_)
  exact wpAny_raiseErrorMade plainExc_TypeError hh h K.name
theorem attr_hint (K : ItK T id B) {Q : Value → Shared → Prop} (h : Q (.builtin id) { s with toks := s.toks + 1 }) : wpAny (model prog w) A (getAttr (.type T) "__length_hint__" true) Q E s := by
  have X : Frag.In [] s.heap := fun p o hp => by cases hp
  have hstub : opaqueClassAbove (.type T) = pure none := by unfold opaqueClassAbove; dsimp only; rw [K.stub]; rfl
  have L0 : Looks (model prog w) s.heap (typeOf (.type T)) (.type "type") := Looks.of_pure K.mt
  have LO : Looks (model prog w) s.heap (opaqueClassAbove (.type T)) none := Looks.of_pure hstub
  refine cls_open X LO L0 type_tga (looks_hook X (r := none) (by rfl)) (by show subIn [] _ _ = _; rfl) K.cls
    (wpAny_pure (by show wpAny _ _ (handedOut _) _ _ _; rw [handedOut_of K.hand]; exact wpAny_pure h))
theorem hint_run (K : ItK T id B) {o : Obj} {l : Addr} {ol : Obj} {xs : Array Value} {n : Nat} {i : Nat} (ho : s.heap.get? a = some o) (hc : o.cls = .type T) (hd : o.data = .fields #[.ref l, .int i 0]) (hl : s.heap.get? l = some ol) (hld : ol.data = .seq xs n) {Q : Value → Shared → Prop}
    (h : Q (.int ((xs.size - i : Nat) : Int) s.toks) { s with toks := s.toks + 1 }) : wpAny (model prog w) A (call (.builtin id) [.ref a]) Q E s := by
  refine wpAny_call_entry K.slot ⟨_, ho, hc⟩ K.entry ?_ (K.args _)
  rw [K.run]
  refine wpAny_bind (wpAny_field ho hd (x := .ref l) rfl ?_)
  rw [if_neg (show ¬ ((Value.ref l == Value.none) = true) from Bool.false_ne_true)]
  refine wpAny_bind (wpAny_seqItems hl hld ?_)
  dsimp only
  refine wpAny_bind (wpAny_field ho hd (x := .int i 0) rfl ?_)
  dsimp only
  rw [show max 0 ((xs.size : Int) - (i : Int)) = ((xs.size - i : Nat) : Int) by omega]
  exact wpAny_ret_mkInt h
end
end

noncomputable section
open PySem PySem.Calls PyProof.Rows PySem.W
section
variable {P : Params} {g : GF} {z : ZM} {ι : Nat → Addr} {σ : Sto} {h h' : Heap} {mu : List Addr}
/-- the heap grew, and the slots of open frames may be others -/
structure SlotStep (g : GF) (h h' : Heap) : Prop where
  keep : ∀ b o, h.get? b = some o → b ∉ g.ad → h'.get? b = some o
  slot : ∀ b o, h.get? b = some o → ∃ sl, h'.get? b = some { o with slots := sl }
theorem SlotStep.sr (x : SlotStep g h h') (S : SR P g z ι σ h) : SR P g z ι σ h' where
  base := S.base
  fz := fun b o e => x.keep b o (S.fz b o e) (S.zFr e)
  own := fun k ao e => let ⟨o, h1, h2⟩ := S.own k ao e; ⟨o, x.keep _ _ h1 (S.ownFr (List.getElem?_eq_some_iff.mp e).1), h2⟩
  off := S.off
  inj := S.inj
  tab := let ⟨ps, e⟩ := S.tab; ⟨ps, x.keep _ _ e fun q => let ⟨_, _, _, _, _, _, _, a⟩ := S.frs.mem q; a rfl⟩
  taboff := S.taboff
  g3 := S.g3
  hi := S.hi
  frs := S.frs.step fun L o es ep e d hz hi _ => let ⟨sl, q⟩ := x.slot L o e; ⟨{ o with slots := sl }, es, ep, q, d, hz, hi⟩
theorem SlotStep.ext (x : SlotStep g h h') : Ext g mu z ι σ h z ι σ h' where
  zle := fun _ _ e => e
  znew := fun _ _ e => .inl e
  ile := fun _ _ => rfl
  inew := fun k h1 h2 => absurd h1 (Nat.not_lt.mpr h2)
  len := Nat.le_refl _
  keep := fun b o e _ _ _ hf => x.keep b o e hf
  keepF := fun b o e _ _ _ => x.slot b o e
  there := fun b o e => let ⟨_, q⟩ := x.slot b o e; ⟨_, q⟩
  busy := fun _ _ _ _ => Iff.rfl
theorem frs_fun {base : Heap} {n : Nat} : ∀ {l : List Env}, Frs l z ι n h → (∀ b o, h.get? b = some o → h'.get? b = some o) → (∀ L ∈ l.filterMap (·.frame), base.get? L = none) → h'.FunFrames base l
  | [], _, _, _ => trivial
  | v :: l, a, hk, hb => by
    obtain ⟨a1, L, o, es, ep, a2, a3, a4, _⟩ := a v List.mem_cons_self
    refine ⟨a1, ⟨L, o, a2, hb L (List.mem_filterMap.mpr ⟨v, List.mem_cons_self, a2⟩), hk _ _ a3, fun vs q => by rw [a4] at q; cases q⟩, frs_fun (fun u hu => a u (List.mem_cons_of_mem _ hu)) hk fun L hL => hb L ?_⟩
    obtain ⟨u, hu, e⟩ := List.mem_filterMap.mp hL
    exact List.mem_filterMap.mpr ⟨u, List.mem_cons_of_mem _ hu, e⟩
end
section
variable {M : Model} {A : Around} {E : Value → Shared → Prop} {s : Shared}
theorem noteFlight {base : Heap} {env : Env} {outer : List Env} {L e : Addr} {oe : Obj} {vs : Array Value} {Q : Unit → Shared → Prop}
    (hfr : A.frames = some (env :: outer)) (hl : s.heap.FunFrames base (env :: outer)) (hf : env.frame = some L)
    (he : s.heap.get? e = some oe) (hkb : base.StaysIn s.heap) (hen : base.get? e = none) (hd : oe.data = .fields vs) (h1 : vs[1]? = some .none)
    (h : ∀ h', Heap.Left base (env :: outer) e oe.cls s.heap h' → Q () { s with heap := h' }) :
    wpAny M A (noteFrame (.ref e) env) (fun _ s2 => wpAny M A (setFlight (.ref e) none) Q E s2) E s := by
  unfold noteFrame
  simp only [hf]
  refine wpAny_bind (wpAny_field he hd h1 ?_)
  rw [if_neg (by decide)]
  exact wpAny_newEntry hfr hl hf he hkb hen hd (Array.getElem?_eq_some_iff.mp h1).1 h
/-- an exception is caught where it is raised: the heap at the clause -/
theorem caught {P : Params} {g : GF} {z : ZM} {ι : Nat → Addr} {σ : Sto} {h0 : Heap} {env : Env} {outer : List Env} {L e : Addr} {X : String} {Q : Unit → Shared → Prop} (S : SR P g z ι σ h0) (hg : g.fr = env :: outer)
    (hfr : A.frames = some (env :: outer)) (hf : env.frame = some L) (hx : Heap.NewExc h0 s.heap e X)
    (h : ∀ h', SlotStep g h0 h' → (∃ oe vs T oT ts, h'.get? e = some oe ∧ oe.cls = .type X ∧ oe.data = .fields vs ∧ vs[1]? = some (.ref T) ∧ h0.get? T = none ∧ h'.get? T = some oT ∧ oT.data = .fields ts ∧ 3 < ts.size) → Q () { s with heap := h' }) :
    wpAny M A (noteFrame (.ref e) env) (fun _ s2 => wpAny M A (setFlight (.ref e) none) Q E s2) E s := by
  obtain ⟨ob, tp, he, hcls, hd⟩ := hx.there
  have hFF : s.heap.FunFrames (hideAll s.heap (e :: g.ad)) (env :: outer) := by
    rw [← hg]
    exact frs_fun S.frs hx.keeps fun L hL => hideAll_none _ (List.mem_cons_of_mem _ hL)
  refine noteFlight (base := hideAll s.heap (e :: g.ad)) hfr hFF hf he (fun b o q => of_hideAll _ q) (hideAll_none _ List.mem_cons_self) hd rfl fun h' hL => ?_
  obtain ⟨k1, k2, ⟨oe, vs, T, oT, ts, t1, t2, t3, t4, t5, t6, t7, t8, t9⟩, k4⟩ := hL
  have hne : ∀ b o, h0.get? b = some o → b ≠ e := fun b o q r => by rw [r, hx.new] at q; cases q
  have st : SlotStep g h0 h' := by
    refine ⟨fun b o q hb => k1 b o (hideAll_get _ (hx.keeps b o q) fun r => ?_), fun b o q => ?_⟩
    · rcases List.mem_cons.mp r with r | r
      · exact hne b o q r
      · exact hb r
    · by_cases hb : b ∈ g.ad
      · obtain ⟨o2, es, ep, q2, d, _⟩ := S.frs.mem hb
        rw [q] at q2; cases q2
        exact k4 b o (hx.keeps b o q) fun vs r => by rw [d] at r; cases r
      · exact ⟨o.slots, k1 b o (hideAll_get _ (hx.keeps b o q) fun r => by
          rcases List.mem_cons.mp r with r | r
          · exact hne b o q r
          · exact hb r)⟩
  refine h h' st ⟨oe, vs, T, oT, ts, t1, t2.trans hcls, t3, t4, ?_, t7, t8, (Array.getElem?_eq_some_iff.mp t9).1⟩
  cases q : h0.get? T with
  | none => rfl
  | some o =>
    by_cases hT : T ∈ g.ad
    · obtain ⟨o2, es, ep, q2, d, _⟩ := S.frs.mem hT
      rw [q] at q2; cases q2
      obtain ⟨sl, q3⟩ := st.slot T o q
      rw [t7] at q3; cases q3
      rw [d] at t8; cases t8
    · have := hideAll_get (e :: g.ad) (hx.keeps T o q) (fun r => by
        rcases List.mem_cons.mp r with r | r
        · exact hne T o q r
        · exact hT r)
      rw [t5] at this; cases this
end
end

noncomputable section
open PySem PySem.Calls PyProof.Rows PySem.W
section
variable {w : World} {A : Around} {s : Shared}
theorem bind67 {fd : FuncData} {p1 p2 : Pos} {df : List Expr} {d : Addr} {dn : Nat} {dv v1 v2 : Value} {Q : List (Str × Value) → Shared → Prop} {X : Value → Shared → Prop} (hp : fd.params = ⟨[], [⟨"obj", none, p1⟩, ⟨"default", none, p2⟩], none, [], [], none, df⟩) (hd : fd.defaults = .ref d)
    (ht : s.heap.get? d = some (tupO [dv] dn)) (h : Q [("obj", v1), ("default", v2)] s) : wpAny (MD w) A (bindArgs fd ⟨[v1, v2], []⟩) Q X s := by
  obtain ⟨name, qual, params, fbody, fscope, fglob, fclo, fdef, fkwd, fdoc, fmod, fann, fcode, fct, fbi⟩ := fd
  simp only at hp hd
  subst hp hd
  unfold bindArgs
  show wpAny _ _ (seqItems? (.ref d) >>= _) _ _ _
  refine wpAny_bind (wpAny_seqItems ht rfl ?_)
  exact wpAny_of_eq (by first | rfl | kernel_rfl) h
theorem te_base : isSubtype (.type "TypeError") (.type "BaseException") = pure true := by rw [isSubtype_type]; kernel_rfl
theorem te_tuple : isSubtype (.type ((Manifest.find? "TypeError").elim "type" fun x => x.metatype)) (.type "tuple") = pure false := by
  rw [show ((Manifest.find? "TypeError").elim "type" fun x => x.metatype) = "type" by kernel_rfl, isSubtype_type]; kernel_rfl
theorem te_self : isSubtype (.type "TypeError") (.type "TypeError") = pure true := by rw [isSubtype_type]; kernel_rfl
end
section
variable {n : Nat} {E : AE} {σ : Sto} {x : Str} {k : K σ} {env : Env} {A : Around} {v : AV} {m p : Nat} {t : Bool} {xs : List AV} {T id : String} {Bl : Builtin} {i : Int}
noncomputable abbrev K.slot (k : K σ) (h' : Heap) (tk : Nat) {mu : List Addr} (st : SlotStep k.g k.s.heap h') : Nx k mu σ := ⟨k.z, k.ι, { k.s with heap := h', toks := tk }, st.ext, st.sr k.S, Same.mk k.s _ _⟩
theorem name_at {p : Pos} (F : k.Fr env E) (e : E.get x = some v) {Q : Value → Shared → Prop} {X : Value → Shared → Prop} (h : ∀ u, k.V u v → Q u k.s) : wpAny (MD k.w) A (eval (.Name x p) env) Q X k.s := wpAny_Name (get_ok F e h) (by
  unfold AE.get kindOf at e
  cases hk : look x E.sc with
  | none => rw [hk] at e; exact nomatch e
  | some kd => exact F.not_debug hk)
/-- an iterator of the store -/
inductive ItAt (k : K σ) (m : Nat) (T : String) (p c : Nat) : Prop where
  | mk (o : Obj) (l : Addr) (ol : Obj) (xs : Array Value) (n : Nat) : k.s.heap.get? (k.ι m) = some o → o.cls = .type T → o.data = .fields #[.ref l, .int p 0] → k.s.heap.get? l = some ol → ol.data = .seq xs n → xs.size = c → ItAt k m T p c
structure ItO (σ : Sto) (m : Nat) (T : String) (p c : Nat) : Prop where
  at' : ∀ k : K σ, ItAt k m T p c
theorem it_kind (h : σ[m]? = some (.iter t xs p)) : ∃ T id Bl, ItK T id Bl ∧ ItO σ m T p xs.length := by
  cases t with
  | false =>
    refine ⟨_, _, _, itk_list, ⟨fun k => ?_⟩⟩
    obtain ⟨o, h1, l, vs, n, h2, h3, h4, h5, h6⟩ := k.S.own m _ h
    exact ⟨o, l, _, vs.toArray, n, h1, h5, h6, k.S.fz _ _ h2, rfl, by rw [List.size_toArray, h3.length]⟩
  | true =>
    refine ⟨_, _, _, itk_tup, ⟨fun k => ?_⟩⟩
    obtain ⟨o, h1, l, vs, n, h2, h3, h4, h5, h6⟩ := k.S.own m _ h
    exact ⟨o, l, _, vs.toArray, n, h1, h5, h6, k.S.fz _ _ h2, rfl, by rw [List.size_toArray, h3.length]⟩
theorem own1 {us : List Value} (rs : k.Vs us [.own m]) {D : List Value → Prop} (h : D [.ref (k.ι m)]) : D us := rs.el1 (D := D) fun u r => r.own_el (C := fun u => D [u]) fun _ => h
theorem cb_type_it {c : Nat} (K : ItK T id Bl) (I : ItO σ m T p c) : CB (.type "type") [.own m] σ (.con (.type T)) σ := fun k _ _ _ rs Q X C => own1 (D := fun us => wpAny _ _ (call (.type "type") us) Q X _) rs (by
  cases I.at' k with
  | mk _ _ _ _ _ h1 h2 => exact call_type_of (Tx := T) ⟨_, h1, h2⟩ K.notB (C k.nx _ (.con _)))
theorem cb_hint {c : Nat} (K : ItK T id Bl) (I : ItO σ m T p c) : CB (.builtin id) [.own m] σ (.int ((c - p : Nat) : Int)) σ := fun k _ _ _ rs Q X C => own1 (D := fun us => wpAny _ _ (call (.builtin id) us) Q X _) rs (by
  cases I.at' k with
  | mk _ _ _ _ _ h1 h2 h3 h4 h5 h6 => exact hint_run K h1 h2 h3 h4 h5 (by rw [h6]; exact C (k.tok _) _ (.int _ _)))
theorem cb_isi_int : CB (.builtin "isinstance") [.int i, .con (.type "int")] σ (.bool true) σ := fun k _ _ _ rs Q X C =>
  rs.el2 (D := fun us => wpAny _ _ (call (.builtin "isinstance") us) Q X _) fun a b r1 r2 => r1.int_el (C := fun a => wpAny _ _ (call (.builtin "isinstance") [a, b]) Q X _) fun _ => r2.con_el (C := fun b => wpAny _ _ (call (.builtin "isinstance") [_, b]) Q X _) (IsiPair.int_int (C k.nx _ (.bool _)))
/-- type(obj).__length_hint__ -/
theorem ev_hintattr {f : Expr} {as : List Expr} {p1 p2 : Pos} (hs : ∀ (env : Env) (t : Sem Value), attributeBase (.Call f as [] p1) "__length_hint__" env t = t) (K : ItK T id Bl) (h : EV n (.Call f as [] p1) E σ (.con (.type T)) σ) : EV (n + 1) (.Attribute (.Call f as [] p1) "__length_hint__" p2) E σ (.con (.builtin id)) σ := fun k A env R F Q X C => by
  rw [arm_eval_Attribute, hs]
  refine wpAny_bind (h k R.dn F fun y u r => ?_)
  obtain rfl : u = .type T := r.con_el (C := fun u => u = .type T) rfl
  exact wpAny_bind (wpAny_standAt (wpAny_bind (wpAny_holding (attr_hint K (wpAny_bind (wpAny_pure (wpAny_pure (C (y.then (y.up.tok _)) _ (.con _)))))))))
/-- NotImplemented -/
theorem ev_ni {q : Pos} (hk : look "NotImplemented" E.sc = some .globalImplicit) : EV (n + 1) (.Name "NotImplemented" q) E σ (.con .notImplemented) σ := fun k A env R F Q X C => by
  obtain ⟨mg, mb, n1, n2, _, ⟨_, _, q1, q2⟩, _⟩ := k.B.ns
  have m1 := n1.keeps fun b o e => k.old e
  have m2 := n2.keeps fun b o e => k.old e
  rw [← F.glob.1.1] at m1
  rw [← F.glob.1.2] at m2
  refine wpAny_Name ?_ (by decide)
  rw [loadName_read F.kind (F.kindAt hk nofun)]
  exact loadGlobal_builtin m1 q1 m2 q2 (C k.nx _ (.con _))
theorem co_ni : CO σ .Is (.int i) (.con .notImplemented) false := fun k _ a b _ ra rb _ _ C =>
  ra.int_el (C := fun a => wpAny _ _ (compareOp .Is a b) _ _ _) fun _ => rb.con_el (C := fun b => wpAny _ _ (compareOp .Is _ b) _ _ _) (wpAny_is_plain rfl C)
/-- try: return len(obj), where obj has no length -/
theorem st_len {c : Nat} {fr : List Env} {pa pb p1 p2 pc p3 p4 p5 : Pos} {Q : Flow → Shared → Prop} {X : Value → Shared → Prop} (hgf : k.g.fr = env :: fr) (hf : env.frame = some env.locals) (R : Room k.g n A) (F : k.Fr env E) (K : ItK T id Bl) (I : ItO σ m T p c)
    (g1 : E.get "len" = some (.con (.builtin "len"))) (g3 : E.get "obj" = some (.own m)) (h2 : look "TypeError" E.sc = some .globalImplicit) (h : ∀ x : Nx k [] σ, Q .next x.s) :
    wpAny (MD k.w) A (exec (.Try [.Return (some (.Call (.Name "len" pa) [.Name "obj" pb] [] p1)) p2] [.ExceptHandler (some (.Name "TypeError" pc)) .none [.Pass p3] p4] [] [] p5) env) Q X k.s := by
  refine wpAny_Try_except (wpAny_execs_cons (wpAny_Return_some (Call_Name1 (name_at F g1 fun f r => ?_))))
  obtain rfl : f = .builtin "len" := r.con_el (C := fun u => u = .builtin "len") rfl
  refine Calls.callWith_builtin rfl (Calls.evalArgs_plain (Calls.spliced_cons (name_at F g3 fun u r => Calls.spliced_nil ?_)))
  obtain rfl : u = .ref (k.ι m) := r.own_el (C := fun u => u = .ref (k.ι m)) fun _ => rfl
  obtain ⟨_, _, _, _, _, i1, i2, _, _, _, _⟩ := I.at' k
  refine len_raises K R.handled ⟨_, i1, i2⟩ fun h1' tk1 e1 hx => ?_
  refine caught (s := { k.s with heap := h1', toks := tk1 }) k.S hgf (R.frames.trans (congrArg some hgf)) hf hx fun h2' st2 ht => ?_
  obtain ⟨oe, vs, T', oT, ts, t1, t2, t3, t4, t5, t6, t7, t8⟩ := ht
  refine wpAny_handleBy_builtin (X := "TypeError") (T := "TypeError") (b := true) te_base te_tuple te_self ?_
  let y : Nx k [] σ := k.slot h2' tk1 st2
  have F2 := F.nx y
  obtain ⟨mg, mb, n1, n2, _, ⟨q1, q2, _⟩, _⟩ := k.B.ns
  have m1 := n1.keeps fun b o e => y.up.old e
  have m2 := n2.keeps fun b o e => y.up.old e
  rw [← F2.glob.1.1] at m1
  rw [← F2.glob.1.2] at m2
  refine wpAny_Name ?_ (by decide)
  rw [loadName_read F2.kind (F2.kindAt h2 nofun)]
  refine loadGlobal_builtin m1 q1 m2 q2 ⟨rfl, ⟨oe, t1, t2⟩, ?_⟩
  rw [if_pos rfl]
  refine wpAny_setFlight_none t1 t3 t4 t6 t7 t8 ?_
  refine wpAny_execs_cons (wpAny_Pass (wpAny_execs_nil ?_))
  have hT : ∀ b o, k.s.heap.get? b = some o → T' ≠ b := fun b o e q => by rw [← q, t5] at e; cases e
  refine h (k.slot (h2'.update T' _) tk1 ⟨fun b o e hb => ?_, fun b o e => ?_⟩)
  · rw [Heap.get?_update_other _ _ (hT b o e)]
    exact st2.keep b o e hb
  · obtain ⟨sl, q⟩ := st2.slot b o e
    refine ⟨sl, ?_⟩
    rw [Heap.get?_update_other _ _ (hT b o e)]
    exact q
end
end

noncomputable section
open PySem PySem.Calls PyProof.Rows PySem.W
section
variable {P : Params} {g : GF} {z z' : ZM} {ι ι' : Nat → Addr} {σ σ' : Sto} {h h' : Heap} {mu : List Addr} {v : Env}
theorem Ext.closed (x : Ext ⟨g.h, v :: g.fr⟩ mu z ι σ h z' ι' σ' h') (hv : ∀ L, v.frame = some L → L ∈ mu) : Ext g mu z ι σ h z' ι' σ' h' :=
  { x with
    keep := fun b o hb h1 h2 h3 h4 => x.keep b o hb h1 h2 h3 fun q => by
      obtain ⟨u, hu, e⟩ := List.mem_filterMap.mp q
      rcases List.mem_cons.mp hu with r | r
      · subst r; exact h1 (hv b e)
      · exact h4 (List.mem_filterMap.mpr ⟨u, r, e⟩)
    keepF := x.keepF }
theorem SR.closed (S : SR P ⟨g.h, v :: g.fr⟩ z ι σ h) : SR P g z ι σ h := { S with frs := fun u hu => S.frs u (List.mem_cons_of_mem _ hu) }
end
section
variable {n : Nat} {σ : Sto} {m p : Nat} {t : Bool} {xs : List AV} {i : Int} {T id : String} {Bl : Builtin}
noncomputable abbrev S67 : List (Str × NameKind) := (dAt 6).scope.names
noncomputable abbrev E67 (m : Nat) (i : Int) : AE := (AE.st ⟨S67, [], [], false⟩ "obj" (.own m)).st "default" (.int i)
theorem fn67 : FnOk ⟨⟨[], (dAt 6).params.args, .none, [], [], .none, []⟩, [], (dAt 6).scope⟩ := fnOk_ok (by kernel_rfl)
theorem par67 : ∃ p1 p2 df, (dAt 6).params = ⟨[], [⟨"obj", none, p1⟩, ⟨"default", none, p2⟩], none, [], [], none, df⟩ := ⟨_, _, _, rfl⟩
/-- the statements behind the try of len -/
theorem tail67 {E : AE} {c : Nat} (hsc : E.sc = S67) (ho : E.get "obj" = some (.own m)) (K : ItK T id Bl) (I : ItO σ m T p c) : WP (n + 12) ((dAt 6).body.drop 2) E σ fun f _ σ' => f = .ret (.int ((c - p : Nat) : Int)) ∧ σ' = σ := by
  have gt : E.get "type" = some (.con (.type "type")) := get_glob hsc (by kernel_rfl) g_type
  have gi : ∀ {E : AE}, E.sc = S67 → E.get "isinstance" = some (.con (.builtin "isinstance")) := fun h => get_glob h (by kernel_rfl) g_isinstance
  have gn : ∀ {E : AE}, E.sc = S67 → E.get "int" = some (.con (.type "int")) := fun h => get_glob h (by kernel_rfl) (v := Value.type "int") (by kernel_rfl)
  show WP (n + 10 + 2) (_ :: _) _ _ _
  refine wp_try (wp_assign (v := .con (.builtin id)) (σ1 := σ) (own_plain (fun _ _ => by kernel_rfl) rfl (ev_hintattr (fun _ _ => by kernel_rfl) K (ev_call (f := .con (.type "type")) (evp_name gt) rfl (args_cons rfl (evp_name ho) args_nil) (call_t (cb_type_it K I))))) (isLC_of hsc (by kernel_rfl)) (wp_nil ?_))
  have h1 : (E.st "hint" (.con (.builtin id))).sc = S67 := sc_st hsc
  refine wp_try (wp_assign (v := .int ((c - p : Nat) : Int)) (σ1 := σ) (own_plain (fun _ _ => by kernel_rfl) rfl (ev_call (f := .con (.builtin id)) (evp_name (get_hit (isLC_of hsc (by kernel_rfl)))) rfl (args_cons rfl (evp_name (get_ne (by kernel_rfl) ho)) args_nil) (call_b (cb_hint K I)))) (isLC_of h1 (by kernel_rfl)) (wp_nil ?_))
  have h2 : ((E.st "hint" (.con (.builtin id))).st "val" (.int ((c - p : Nat) : Int))).sc = S67 := sc_st h1
  have gv : ((E.st "hint" (.con (.builtin id))).st "val" (.int ((c - p : Nat) : Int))).get "val" = some (.int ((c - p : Nat) : Int)) := get_hit (isLC_of h1 (by kernel_rfl))
  refine wp_if (c := false) (σ1 := σ) (it_cmp rfl (evp_name gv) (ev_ni (by rw [h2]; kernel_rfl)) co_ni) (fun h => nomatch h) fun _ => wp_nil ?_
  refine wp_if (c := false) (σ1 := σ) (it_not (b := true) (it_val (fun _ _ => by kernel_rfl) (ev_call (f := .con (.builtin "isinstance")) (evp_name (gi h2)) rfl (args_cons rfl (evp_name gv) (args_cons (v := .con (.type "int")) rfl (evp_name (gn h2)) args_nil)) (call_b cb_isi_int)) tr_bool)) (fun h => nomatch h) fun _ => wp_nil ?_
  refine wp_if (c := false) (σ1 := σ) (it_cast (it_cmp rfl (evp_name gv) (evp_const rfl) cmp_lt_int) (decide_eq_false (by omega))) (fun h => nomatch h) fun _ => wp_nil ?_
  exact wp_ret (evp_name gv) ⟨rfl, rfl⟩
/-- length_hint of an own iterator -/
theorem hint_at (h : σ[m]? = some (.iter t xs p)) : CD (n + 20) 67 [.own m, .int i] σ (.int ((xs.length - p : Nat))) := ⟨by kernel_rfl, fun k A us R rs Q X C => by
  obtain ⟨T, id, Bl, K, I⟩ := it_kind h
  obtain ⟨dn, dv, hdef⟩ := k.B.dflt
  obtain ⟨p1, p2, df, hpar⟩ := par67
  have hargs : (dAt 6).params.args = [⟨"obj", none, p1⟩, ⟨"default", none, p2⟩] := by rw [hpar]
  have hb : bindP S67 (dAt 6).params.args [.own m, .int i] ⟨S67, [], [], false⟩ = some (E67 m i) := by
    rw [hargs]
    exact bind_cons (isLC_of rfl (by kernel_rfl)) (bind_cons (isLC_of st_sc (by kernel_rfl)) bind_nil)
  have hkd : ∀ y, (fun x => (dAt 6).scope.names.lookup x) y = look y S67 := fun y => (look_eq y _).symm
  have hsc : (E67 m i).sc = S67 := sc_st st_sc
  obtain ⟨b1, b2, _, b4⟩ := bindP_ok (kd := fun x => (dAt 6).scope.names.lookup x) hb hkd rs bound0
  obtain ⟨u, v, rfl⟩ : ∃ u v, us = [u, v] := rs.el2 (D := fun us => ∃ u v, us = [u, v]) fun u v _ _ => ⟨u, v, rfl⟩
  rw [hargs] at b1 b4
  refine enter (fn := dAt 6) (E := E67 m i) (tr := false) R fn67 rfl k.B.hint (fun q => nomatch q) (fun hp hd C => bind67 (hp.trans hpar) hd (k.old hdef) (C _ k.nx ⟨b1, b2, bindP_tr hb, b4⟩)) fun env x F hfr fresh R' X' => ?_
  let k1 := x.up.open F hfr
  have F1 : k1.Fr env (E67 m i) := F
  have gd : (E67 m i).get "default" = some (.int i) := get_hit (isLC_of st_sc (by kernel_rfl))
  have go : (E67 m i).get "obj" = some (.own m) := get_ne (by kernel_rfl) (get_hit (isLC_of rfl (by kernel_rfl)))
  have it0 : ∀ {q1 q2 q3 q4 q5 : Pos}, IT (n + 10) (.UnaryOp .Not (.Call (.Name "isinstance" q1) [.Name "default" q2, .Name "int" q3] [] q4) q5) (E67 m i) σ false σ := it_not (b := true) (it_val (fun _ _ => by kernel_rfl) (ev_call (f := .con (.builtin "isinstance")) (evp_name (get_glob hsc (by kernel_rfl) g_isinstance)) rfl
    (args_cons rfl (evp_name gd) (args_cons (v := .con (.type "int")) rfl (evp_name (get_glob hsc (by kernel_rfl) (v := Value.type "int") (by kernel_rfl))) args_nil)) (call_b cb_isi_int)) tr_bool)
  show wpAny (MD k.w) (A.deeper env) (execs (_ :: _ :: (dAt 6).body.drop 2) env) _ X' k1.s
  refine wpAny_execs_cons (wpAny_If (it0 k1 (R'.le (by omega)) F1 fun y => wpAny_execs_nil ?_))
  refine wpAny_execs_cons (st_len (k := y.up) rfl hfr R' (F1.nx y) K I (get_glob hsc (by kernel_rfl) g_len) go (by rw [hsc]; kernel_rfl) fun y2 => ?_)
  refine tail67 (n := n) hsc go K I y2.up (R'.le (by omega)) ((F1.nx y).nx y2) fun f E' σ' y3 fl q F' r => ?_
  obtain ⟨rfl, rfl⟩ := q
  obtain ⟨u', rfl, hu⟩ := (show ∃ v, fl = .ret v ∧ _ from r)
  have e3 := ((y.then y2).any.then y3).e
  let q : Nx k [] σ' := ⟨y3.z, y3.ι, y3.s, (x.e.anyMu.trans (e3.closed fun L hL => by rw [hfr] at hL; cases hL; exact mem_frA_l env)).lessAll fresh, y3.S.closed, x.d.trans ((y.then y2).any.then y3).d⟩
  exact C q u' hu⟩
end
end

local macro_rules | `(tactic| walk_at "P.sc") => `(tactic| first
  | with_reducible assumption
  | ((with_reducible refine sc_st ?_); walk_at "P.sc")
  | exact rfl)
local macro_rules | `(tactic| walk_at "P.lc") => `(tactic| first
  | ((with_reducible refine isLC_st ?_); walk_at "P.lc")
  | ((with_reducible refine isLC_of (by walk_at "P.sc") ?_); kernel_rfl))
local macro_rules | `(tactic| walk_at "P.glob") => `(tactic| (with_reducible first
  | exact g_lt | exact g_contains | exact g_countOf | exact g_length_hint | exact g_translate | exact g_fspath | exact g_get_sep | exact g_join | exact g_split | exact g_splitroot | exact g_dirname | exact g_normpath | exact g_law_pattern | exact g_law_read
  | exact g_law_takes | exact g_law_places | exact g_law_book | exact g_law_drawn | exact g_law_kept | exact g_law_lines | exact g_law_read_back | exact g_len | exact g_sum | exact g_abs | exact g_iter | exact g_next | exact g_isinstance | exact g_issubclass | exact g_range
  | exact g_tuple | exact g_type | exact g_str | exact g_bytes))
local macro_rules | `(tactic| walk_at "P.get") => `(tactic| first
  | with_reducible assumption
  | ((with_reducible refine get_hit ?_); walk_at "P.lc")
  | ((with_reducible refine get_ne ?_ ?_); (kernel_rfl); walk_at "P.get")
  | (refine get_glob (by walk_at "P.sc") ?_ (by walk_at "P.glob"); kernel_rfl))
local macro_rules | `(tactic| walk_at "P.len") => `(tactic| first
  | with_reducible assumption
  | ((with_reducible refine slice_cap ?_); walk_at "P.len")
  | ((with_reducible refine mul_side ?_); walk_at "P.len")
  | decide +kernel
  | exact Nat.le_of_ble_eq_true rfl)
local macro_rules | `(tactic| walk_at "P.bin") => `(tactic| with_reducible first
  | exact bin_add_int | exact bin_sub_int | refine bin_add_str (by walk_at "P.len") | refine bin_mul_str (by walk_at "P.len") | refine cat_lists (by walk_at "P.lists") (by walk_at "P.lists") (by walk_at "P.len") | exact bin_mod (by decide) | exact bin_div (by decide))
local macro_rules | `(tactic| walk_at "P.cmp") => `(tactic| with_reducible first
  | exact cmp_lt_str | exact cmp_eq_str | exact cmp_ne_str | exact cmp_gt_int | exact cmp_lt_int)
local macro_rules | `(tactic| walk_at "P.args") => `(tactic| first
  | with_reducible exact args_nil
  | ((with_reducible apply args_cons); (exact rfl); (walk_at "P.ev"); walk_at "P.args"))
local macro_rules | `(tactic| walk_at "P.evs") => `(tactic| first
  | with_reducible exact evs_nil
  | ((with_reducible apply evs_cons); (exact rfl); (walk_at "P.ev"); walk_at "P.evs"))
local macro_rules | `(tactic| walk_at "P.call") => `(tactic| first | with_reducible assumption | with_reducible refine b_len_str (by walk_at "P.len") | ((with_reducible apply call_b); with_reducible first | exact cb_isi | exact cb_iss | exact cb_abs | exact cb_iter) | ((with_reducible apply call_t); with_reducible first | exact cb_type | exact cb_range1 | exact cb_range2 | exact cb_range3))
local macro_rules | `(tactic| walk_at "P.cap") => `(tactic| first | assumption | exact Nat.le_of_ble_eq_true rfl)
local macro_rules | `(tactic| walk_at "P.sto") => `(tactic| first
  | with_reducible assumption
  | with_reducible exact sto_new
  | ((with_reducible refine sto_app ?_); walk_at "P.sto"))
local macro_rules | `(tactic| walk_at "P.lists") => `(tactic| first
  | with_reducible exact lists_tree
  | ((with_reducible refine lists_own ?_); walk_at "P.sto")
  | ((with_reducible refine lists_ro ?_); walk_at "P.sto"))
local macro_rules | `(tactic| walk_at "P.src") => `(tactic| first
  | with_reducible exact src_list
  | with_reducible exact src_tup
  | ((with_reducible refine src_own ?_); walk_at "P.sto")
  | ((with_reducible refine src_ro ?_); walk_at "P.sto"))
local macro_rules | `(tactic| walk_at "P.ty") => `(tactic| first
  | with_reducible exact ty_str
  | with_reducible exact ty_dict
  | ((with_reducible apply ty_list); walk_at "P.sto")
  | ((with_reducible apply ty_odict); walk_at "P.sto"))
local macro_rules | `(tactic| walk_at "P.meth") => `(tactic| with_reducible first
  | exact m_rfind | exact m_startswith | exact m_endswith | refine m_rstrip (by walk_at "P.len") | refine m_lstrip (by walk_at "P.len") | refine m_split (by walk_at "P.len") | exact m_get | refine m_pop (by walk_at "P.sto") (by walk_at "P.len") | refine m_append (by walk_at "P.sto") (by walk_at "P.len"))
local macro_rules | `(tactic| walk_at "P.opt") => `(tactic| first
  | with_reducible exact opt_none
  | ((with_reducible apply opt_some); walk_at "P.ev"))
local macro_rules | `(tactic| walk_at "P.cut") => `(tactic| with_reducible first
  | refine sl_str (by walk_at "P.len")
  | (apply sl_list; (walk_at "P.lists"); (walk_at "P.len")))
local macro_rules | `(tactic| walk_at "P.item2") => `(tactic| fail)
local macro_rules | `(tactic| walk_at "P.item") => `(tactic| with_reducible first
  | assumption
  | refine it_last (by walk_at "P.lists") (by walk_at "P.len"))
local macro_rules | `(tactic| walk_at "P.ev") => `(tactic| first
  | ((with_reducible apply evp_const); exact rfl)
  | ((with_reducible apply evp_name); walk_at "P.get")
  | ((with_reducible apply ev_bin); (walk_at "P.ev"); (walk_at "P.ev"); walk_at "P.bin")
  | ((with_reducible apply ev_cmp); (exact rfl); (walk_at "P.ev"); (walk_at "P.ev"); walk_at "P.cmp")
  | ((with_reducible apply ev_call); (walk_at "P.ev"); (exact rfl); (walk_at "P.args"); walk_at "P.call")
  | ((with_reducible apply ev_neg); walk_at "P.ev")
  | ((with_reducible apply ev_list); (walk_at "P.evs"); walk_at "P.cap")
  | ((with_reducible apply ev_tup); (walk_at "P.evs"); walk_at "P.cap")
  | ((with_reducible apply ev_slice); (walk_at "P.ev"); (walk_at "P.opt"); (walk_at "P.opt"); (exact rfl); (exact rfl); walk_at "P.cut")
  | ((with_reducible apply ev_item); (intro _ _ _ q; cases q); (walk_at "P.ev"); (walk_at "P.ev"); walk_at "P.item")
  | ((with_reducible apply ev_meth); (intro _ _; kernel_rfl); (kernel_rfl); (exact rfl); (walk_at "P.ev"); (walk_at "P.ty"); (walk_at "P.evs"); walk_at "P.meth"))
local macro_rules | `(tactic| walk_at "P.tru") => `(tactic| with_reducible first
  | exact tr_bool | refine tr_str (by walk_at "P.len") | refine tr_own (by walk_at "P.sto") (by walk_at "P.len"))
local macro_rules | `(tactic| walk_at "P.own") => `(tactic| first
  | with_reducible exact own_empty
  | with_reducible exact own_dict
  | ((with_reducible apply own_plain); (intro _ _; kernel_rfl); (exact rfl); walk_at "P.ev"))
local macro_rules | `(tactic| walk_at "P.as") => `(tactic| (apply wp_assign; (walk_at "P.own"); (walk_at "P.lc")))
local macro_rules | `(tactic| walk_at "P.setall") => `(tactic| first
  | with_reducible exact setAll_nil
  | ((with_reducible apply setAll_cons); (walk_at "P.lc"); walk_at "P.setall"))
local macro_rules | `(tactic| walk_at "P.it") => `(tactic| first
  | ((with_reducible apply it_cmp); (exact rfl); (walk_at "P.ev"); (walk_at "P.ev"); walk_at "P.cmp")
  | ((with_reducible apply it_not); walk_at "P.it")
  | ((with_reducible apply it_val); (intro _ _; kernel_rfl); (walk_at "P.ev"); walk_at "P.tru"))
local macro_rules | `(tactic| walk_at "P.bind") => `(tactic| first
  | exact bind_nil
  | (apply bind_cons; (walk_at "P.lc"); walk_at "P.bind"))

noncomputable section
open PySem
section
variable {n : Nat} {σ : Sto}
theorem fn_lt : fnAt 45 = some (dAt 3) := by kernel_rfl
theorem fn_contains : fnAt 52 = some (dAt 4) := by kernel_rfl
theorem fn_countOf : fnAt 59 = some (dAt 5) := by kernel_rfl
theorem fn_fspath : fnAt 164 = some (dAt 21) := by kernel_rfl
theorem fn_get_sep : fnAt 178 = some (dAt 25) := by kernel_rfl
theorem fn_join : fnAt 185 = some (dAt 26) := by kernel_rfl
theorem fn_split : fnAt 192 = some (dAt 27) := by kernel_rfl
theorem fn_splitroot : fnAt 199 = some (dAt 28) := by kernel_rfl
theorem fn_dirname : fnAt 206 = some (dAt 29) := by kernel_rfl
theorem fn_normpath : fnAt 213 = some (dAt 30) := by kernel_rfl
theorem c_lt {x y : Str} : CD ((n + 10)) 45 [.str x, .str y] σ (.bool (ltS x y)) := by
  refine callD_intro (E := ?e) rfl rfl fn_lt ?_ ?_
  rotate_left
  · show bindP _ (_ :: _) _ _ = _
    walk_at "P.bind"
  · apply wp_ret
    · walk_at "P.ev"
    · rfl
theorem c_fspath {x : Str} : CD ((n + 10)) 164 [.str x] σ (.str x) := by
  refine callD_intro (E := ?e) rfl rfl fn_fspath ?_ ?_
  rotate_left
  · show bindP _ (_ :: _) _ _ = _
    walk_at "P.bind"
  · walk_at "P.as"
    apply wp_if
    · walk_at "P.it"
    · intro _
      apply wp_ret
      · walk_at "P.ev"
      · rfl
    · intro h; cases h
local macro_rules | `(tactic| walk_at "P.call") => `(tactic| ((with_reducible apply call_d); with_reducible exact c_fspath))
theorem c_get_sep {x : Str} : CD ((n + 10)) 178 [.str x] σ (.str "/") := by
  refine callD_intro (E := ?e) rfl rfl fn_get_sep ?_ ?_
  rotate_left
  · show bindP _ (_ :: _) _ _ = _
    walk_at "P.bind"
  · apply wp_if
    · walk_at "P.it"
    · intro h; cases h
    · intro _
      apply wp_ret
      · walk_at "P.ev"
      · rfl
local macro_rules | `(tactic| walk_at "P.call") => `(tactic| ((with_reducible apply call_d); with_reducible exact c_get_sep))
/-- the head of a path, as the defs reckon it -/
noncomputable def headOf (x : Str) : Str := let h := Txt.slice x none (some (Txt.rfind x "/" + 1)); if h.length ≠ 0 ∧ sq h (Txt.mul "/" h.length) = false then Txt.rstripChars h "/" else h
noncomputable def tailOf (x : Str) : Str := Txt.slice x (some (Txt.rfind x "/" + 1)) none
set_option maxHeartbeats 1000000 in
theorem c_dirname {x : Str} (hx : x.length ≤ cap) : CD ((n + 20)) 206 [.str x] σ (.str (headOf x)) := by
  refine callD_intro (E := ?e) rfl rfl fn_dirname ?_ ?_
  rotate_left
  · show bindP _ (_ :: _) _ _ = _
    walk_at "P.bind"
  · walk_at "P.as"
    walk_at "P.as"
    walk_at "P.as"
    walk_at "P.as"
    apply wp_if
    · apply it_bool
      apply and_two
      · walk_at "P.it"
      · walk_at "P.it"
    · intro h
      walk_at "P.as"
      apply wp_nil
      show WP _ _ _ _ _
      apply wp_ret
      · walk_at "P.ev"
      · unfold headOf
        simp at h
        simp [h]
        rfl
    · intro h
      apply wp_nil
      show WP _ _ _ _ _
      apply wp_ret
      · walk_at "P.ev"
      · show some (AV.str _) = some (AV.str (headOf x))
        congr 2
        unfold headOf
        simp only
        rw [if_neg]
        rintro ⟨h1, h2⟩
        rw [h2, decide_eq_true h1] at h
        cases h
local macro_rules | `(tactic| walk_at "P.call") => `(tactic| ((with_reducible apply call_d); (with_reducible refine c_dirname ?_); walk_at "P.len"))
theorem c_split {x : Str} (hx : x.length ≤ cap) : CD ((n + 20)) 192 [.str x] σ (.tup [.str (headOf x), .str (tailOf x)]) := by
  refine callD_intro (E := ?e) rfl rfl fn_split ?_ ?_
  rotate_left
  · show bindP _ (_ :: _) _ _ = _
    walk_at "P.bind"
  · walk_at "P.as"
    walk_at "P.as"
    walk_at "P.as"
    apply wp_swap
    · kernel_rfl
    · walk_at "P.ev"
    apply wp_if
    · apply it_bool
      apply and_two
      · walk_at "P.it"
      · walk_at "P.it"
    · intro h
      walk_at "P.as"
      apply wp_nil
      show WP _ _ _ _ _
      apply wp_ret
      · walk_at "P.ev"
      · show some (AV.tup [AV.str _, AV.str _]) = some (AV.tup [AV.str (headOf x), AV.str (tailOf x)])
        congr 3
        unfold headOf
        simp at h
        simp [h]
    · intro h
      apply wp_nil
      show WP _ _ _ _ _
      apply wp_ret
      · walk_at "P.ev"
      · show some (AV.tup [AV.str _, AV.str _]) = some (AV.tup [AV.str (headOf x), AV.str (tailOf x)])
        congr 3
        unfold headOf
        simp only
        rw [if_neg]
        rintro ⟨h1, h2⟩
        rw [h2, decide_eq_true h1] at h
        cases h
local macro_rules | `(tactic| walk_at "P.call") => `(tactic| ((with_reducible apply call_d); (with_reducible refine c_split ?_); walk_at "P.len"))
/-- join, one piece more -/
noncomputable def jstep (acc b : Str) : Str := if Txt.startswith b "/" = true ∨ acc.length = 0 then b else if Txt.endswith acc "/" = true then acc ++ b else acc ++ (Str.ofString "/" ++ b)
noncomputable def jfold (acc : Str) : List Str → Str
  | [] => acc
  | b :: l => jfold (jstep acc b) l
noncomputable def jlen : List Str → Nat
  | [] => 0
  | b :: l => b.length + 1 + jlen l
theorem jstep_len (acc b : Str) : (jstep acc b).length ≤ acc.length + b.length + 1 := by
  have h1 : (Str.ofString "/").length = 1 := by kernel_rfl
  unfold jstep
  split
  · (clear h1; omega)
  · split
    · rw [strLen_append]; (clear h1; omega)
    · rw [strLen_append, strLen_append, h1]; (clear h1; omega)
theorem bind_join {x : Str} {l : List Str} (hl : l.length < 90000) : bindArgsA (dAt 26) (Nat.beq 185 91) (.str x :: l.map .str) = some ((AE.st ⟨(dAt 26).scope.names, [], [], Nat.beq 185 91⟩ "a" (.str x)).st "p" (.tup (l.map .str))) := by
  have h1 : bindP (dAt 26).scope.names (dAt 26).params.args [.str x] ⟨(dAt 26).scope.names, [], [], Nat.beq 185 91⟩ = some (AE.st ⟨(dAt 26).scope.names, [], [], Nat.beq 185 91⟩ "a" (.str x)) := by
    show bindP _ (_ :: _) _ _ = _
    walk_at "P.bind"
  refine bind_var (fn := dAt 26) (us := [.str x]) (ws := l.map .str) rfl rfl ?_ rfl rfl h1 ?_
  · show 1 ≤ (AV.str x :: l.map .str).length ∧ _
    simp; have : cap = 100000 := rfl; omega
  · walk_at "P.lc"
theorem jfold_len (l : List Str) : ∀ acc : Str, (jfold acc l).length ≤ acc.length + jlen l := by
  induction l with
  | nil => intro acc; exact Nat.le_refl _
  | cons b l ih =>
    intro acc
    have := ih (jstep acc b)
    have := jstep_len acc b
    unfold jfold jlen
    omega
inductive JnI (x : Str) (l : List Str) (base : Sto) (xs : List AV) (E : AE) (s : Sto) : Prop where
  | mk (l' : List Str) (acc : Str) : xs = l'.map AV.str → s = base → E.sc = (dAt 26).scope.names → E.get "path" = some (.str acc) → E.get "sep" = some (.str "/") → jfold acc l' = jfold x l → acc.length + jlen l' ≤ cap → JnI x l base xs E s
theorem c_join {x : Str} {l : List Str} (hx : x.length + jlen l ≤ cap) (hl : l.length < 90000) : CD ((n + 20)) 185 (.str x :: l.map .str) σ (.str (jfold x l)) := by
  refine callD_intro rfl rfl fn_join (bind_join hl) ?_
  walk_at "P.as"
  walk_at "P.as"
  walk_at "P.as"
  apply wp_try
  apply wp_for (xs := l.map .str) (taken := none) (Inv := JnI x l (σ.map AO.lock))
  · exact rfl
  · walk_at "P.ev"
  · walk_at "P.src"
  · refine ⟨l, x, rfl, rfl, ?_, ?_, ?_, rfl, hx⟩
    · walk_at "P.sc"
    · walk_at "P.get"
    · walk_at "P.get"
  · rintro v vs E s ⟨l', acc, h1, rfl, h2, h3, h4, h5, h6⟩
    cases l' with
    | nil => cases h1
    | cons b l' =>
      cases h1
      have hb1 : b.length ≤ cap := by unfold jlen at h6; (clear hl hx; omega)
      have ha1 : acc.length ≤ cap := by (clear hb1 hl hx; omega)
      have hs1 : (Str.ofString "/").length = 1 := by kernel_rfl
      have hab : acc.length + b.length ≤ cap := by unfold jlen at h6; (clear hs1 ha1 hb1 hl hx; omega)
      have hsb : (Str.ofString "/").length + b.length ≤ cap := by unfold jlen at h6; (clear hab ha1 hb1 hl hx; omega)
      have hasb : acc.length + (Str.ofString "/" ++ b).length ≤ cap := by rw [strLen_append, hs1]; unfold jlen at h6; (clear hsb hab hs1 ha1 hb1 hl hx; omega)
      have hnext : (jstep acc b).length + jlen l' ≤ cap := by have := jstep_len acc b; unfold jlen at h6; (clear hasb hsb hab hs1 ha1 hb1 hl hx; omega)
      refine ⟨E.st "b" (.str b), bt_st (by walk_at "P.lc"), ?_⟩
      walk_at "P.as"
      apply wp_if
      · apply it_bool
        apply or_two
        · walk_at "P.it"
        · walk_at "P.it"
      · intro h
        walk_at "P.as"
        apply wp_nil
        apply wp_nil
        refine ⟨.inl rfl, l', b, rfl, rfl, ?_, ?_, ?_, ?_, ?_⟩
        · walk_at "P.sc"
        · walk_at "P.get"
        · walk_at "P.get"
        · rw [← h5]
          show _ = jfold (jstep acc b) l'
          have : jstep acc b = b := by unfold jstep; rw [if_pos]; simpa using h
          rw [this]
        · unfold jlen at h6; (clear hnext hasb hsb hab hs1 ha1 hb1 hl hx; omega)
      · intro h
        have hn : ¬ (Txt.startswith b "/" = true ∨ acc.length = 0) := by
          intro q
          have : (Txt.startswith b "/" || !decide (acc.length ≠ 0)) = true := by simpa using q
          rw [this] at h; cases h
        apply wp_if
        · walk_at "P.it"
        · intro h2
          apply wp_aug
          · walk_at "P.get"
          · walk_at "P.ev"
          · exact aug_str hab
          · walk_at "P.lc"
          apply wp_nil
          apply wp_nil
          apply wp_nil
          refine ⟨.inl rfl, l', acc ++ b, rfl, rfl, ?_, ?_, ?_, ?_, ?_⟩
          · walk_at "P.sc"
          · walk_at "P.get"
          · walk_at "P.get"
          · rw [← h5]
            show _ = jfold (jstep acc b) l'
            have : jstep acc b = acc ++ b := by unfold jstep; rw [if_neg hn, if_pos h2]
            rw [this]
          · rw [strLen_append]; unfold jlen at h6; (clear hn hnext hasb hsb hab hs1 ha1 hb1 hl hx; omega)
        · intro h2
          apply wp_aug
          · walk_at "P.get"
          · walk_at "P.ev"
          · exact aug_str hasb
          · walk_at "P.lc"
          apply wp_nil
          apply wp_nil
          apply wp_nil
          refine ⟨.inl rfl, l', acc ++ (Str.ofString "/" ++ b), rfl, rfl, ?_, ?_, ?_, ?_, ?_⟩
          · walk_at "P.sc"
          · walk_at "P.get"
          · walk_at "P.get"
          · rw [← h5]
            show _ = jfold (jstep acc b) l'
            have : jstep acc b = acc ++ (Str.ofString "/" ++ b) := by unfold jstep; rw [if_neg hn, if_neg]; rw [h2]; simp
            rw [this]
          · rw [strLen_append, strLen_append, hs1]; unfold jlen at h6; (clear hn hnext hasb hsb hab hs1 ha1 hb1 hl hx; omega)
  · rintro E s ⟨l', acc, h1, rfl, h2, h3, h4, h5, h6⟩
    cases l' with
    | cons _ _ => cases h1
    | nil =>
      apply wp_nil
      show WP _ _ _ _ _
      apply wp_ret
      · walk_at "P.ev"
      · show some (AV.str acc) = _
        rw [← h5]; rfl
end
end

noncomputable section
open PySem
local macro_rules | `(tactic| walk_at "P.call") => `(tactic| ((with_reducible apply call_d); with_reducible exact c_fspath))
local macro_rules | `(tactic| walk_at "P.call") => `(tactic| ((with_reducible apply call_d); with_reducible exact c_get_sep))
section
variable {n : Nat} {σ : Sto}
/-- the parts of a path with one stroke ahead of it -/
theorem c_splitroot {x : Str} (hx : x.length ≤ cap) (h1 : sq (Txt.slice x none (some 1)) "/" = true) (h2 : sq (Txt.slice x (some 1) (some 2)) "/" = false) :
    CD ((n + 20)) 199 [.str x] σ (.tup [.str "", .str "/", .str (Txt.slice x (some 1) none)]) := by
  refine callD_intro (E := ?e) rfl rfl fn_splitroot ?_ ?_
  rotate_left
  · show bindP _ (_ :: _) _ _ = _
    walk_at "P.bind"
  · walk_at "P.as"
    apply wp_if
    · walk_at "P.it"
    · intro h; cases h
    · intro _
      walk_at "P.as"
      walk_at "P.as"
      apply wp_nil
      apply wp_if
      · walk_at "P.it"
      · intro h; rw [h1] at h; cases h
      · intro _
        apply wp_if
        · apply it_bool
          apply or_two
          · walk_at "P.it"
          · walk_at "P.it"
        · intro _
          apply wp_ret
          · walk_at "P.ev"
          · rfl
        · intro h; rw [h2] at h; cases h
local macro_rules | `(tactic| walk_at "P.call") => `(tactic| ((with_reducible apply call_d); (with_reducible refine c_splitroot ?_ ?_ ?_); (walk_at "P.len"); assumption; assumption))
theorem strsOf_map : ∀ l : List Str, strsOf (l.map AV.str) = some l
  | [] => rfl
  | x :: l => by
    show (strsOf (l.map AV.str)).map (x :: ·) = _
    rw [strsOf_map l]; rfl
/-- normpath, one part more -/
noncomputable def lastDD (acc : List Str) : Bool := match acc.getLast? with
  | some u => sq u ".."
  | none => false
noncomputable def nstep (acc : List Str) (c : Str) : List Str := if c.length = 0 ∨ sq c "." = true then acc else if (!sq c ".." || lastDD acc) = true then acc ++ [c] else acc.dropLast
noncomputable def nfold (acc : List Str) : List Str → List Str
  | [] => acc
  | c :: l => nfold (nstep acc c) l
inductive NpI (cs : List Str) (base : Sto) (xs : List AV) (E : AE) (s : Sto) : Prop where
  | mk (l' acc : List Str) : xs = l'.map AV.str → s = base ++ [AO.list (acc.map AV.str)] → E.sc = (dAt 30).scope.names → E.get "sep" = some (.str "/") → E.get "dot" = some (.str ".") → E.get "dotdot" = some (.str "..") → E.get "initial_slashes" = some (.str "/") → E.get "new_comps" = some (.own base.length) → nfold acc l' = nfold [] cs → acc.length + l'.length < 90000 → l'.all (fun c => decide (c.length ≤ cap)) = true → NpI cs base xs E s
theorem c_normpath {x : Str} (hx : x.length ≤ cap) (hn : x.length ≠ 0) (h1 : sq (Txt.slice x none (some 1)) "/" = true) (h2 : sq (Txt.slice x (some 1) (some 2)) "/" = false)
    (hl : (Txt.split (Txt.slice x (some 1) none) "/").all (fun c => decide (c.length ≤ cap)) = true) (hs : (Txt.split (Txt.slice x (some 1) none) "/").length < 90000)
    (hj : JoinOk "/" (nfold [] (Txt.split (Txt.slice x (some 1) none) "/")) = true) (hf : (Str.ofString "/").length + (Txt.join "/" (nfold [] (Txt.split (Txt.slice x (some 1) none) "/"))).length ≤ cap) :
    CD ((n + 30)) 213 [.str x] σ (.str (Str.ofString "/" ++ Txt.join "/" (nfold [] (Txt.split (Txt.slice x (some 1) none) "/")))) := by
  generalize hcs : Txt.split (Txt.slice x (some 1) none) "/" = cs at hl hs hj hf ⊢
  refine callD_intro (E := ?e) rfl rfl fn_normpath ?_ ?_
  rotate_left
  · show bindP _ (_ :: _) _ _ = _
    walk_at "P.bind"
  · walk_at "P.as"
    apply wp_if
    · walk_at "P.it"
    · intro h; cases h
    intro _
    walk_at "P.as"
    walk_at "P.as"
    walk_at "P.as"
    apply wp_nil
    apply wp_if
    · walk_at "P.it"
    · intro h; simp [hn] at h
    intro _
    apply wp_nil
    apply wp_tuple
    · intro _ _ _ q; cases q
    · walk_at "P.ev"
    · walk_at "P.setall"
    have hy : (Str.ofString "/").length ≠ 0 ∧ (Txt.slice x (some 1) none).length ≤ cap := ⟨by decide +kernel, slice_cap hx⟩
    walk_at "P.as"
    walk_at "P.as"
    rw [hcs]
    apply wp_for (xs := cs.map .str) (taken := none) (Inv := NpI cs (σ.map AO.lock))
    · exact rfl
    · walk_at "P.ev"
    · walk_at "P.src"
    · refine ⟨cs, [], rfl, rfl, ?_, ?_, ?_, ?_, ?_, ?_, rfl, ?_, hl⟩
      · walk_at "P.sc"
      · walk_at "P.get"
      · walk_at "P.get"
      · walk_at "P.get"
      · walk_at "P.get"
      · walk_at "P.get"
      · simpa using hs
    · rintro v vs E s ⟨l', acc, q1, rfl, e1, e2, e3, e4, e5, e6, q2, q3, q4⟩
      cases l' with
      | nil => cases q1
      | cons c l' =>
        cases q1
        rw [List.all_cons, Bool.and_eq_true, decide_eq_true_eq] at q4
        obtain ⟨q4, q5⟩ := q4
        rw [List.length_cons] at q3
        have hcap : cap = 100000 := rfl
        have hal : (acc.map AV.str).length ≤ cap := by rw [List.length_map]; (clear q4 hy hf hs hn hx; omega)
        have hal2 : (acc.map AV.str).length < cap := by rw [List.length_map]; (clear hal q4 hy hf hs hn hx; omega)
        refine ⟨E.st "comp" (.str c), bt_st (by walk_at "P.lc"), ?_⟩
        have next : ∀ (E' : AE) (acc' : List Str), nstep acc c = acc' → E'.sc = (dAt 30).scope.names → E'.get "sep" = some (.str "/") → E'.get "dot" = some (.str ".") → E'.get "dotdot" = some (.str "..") →
            E'.get "initial_slashes" = some (.str "/") → E'.get "new_comps" = some (.own (σ.map AO.lock).length) →
            NpI cs (σ.map AO.lock) (l'.map AV.str) E' (σ.map AO.lock ++ [AO.list (acc'.map AV.str)]) := by
          intro E' acc' h f1 f2 f3 f4 f5 f6
          refine ⟨l', acc', rfl, rfl, f1, f2, f3, f4, f5, f6, ?_, ?_, q5⟩
          · rw [← q2, ← h]; rfl
          · have : acc'.length ≤ acc.length + 1 := by
              rw [← h]; unfold nstep
              split
              · (clear hal2 hal hcap q4 q3 hy hf hs hn hx; omega)
              · split
                · simp
                · rw [List.length_dropLast]; (clear hal2 hal hcap q4 q3 hy hf hs hn hx; omega)
            (clear hal2 hal hcap q4 hy hf hs hn hx; omega)
        apply wp_if
        · apply it_bool
          apply or_two
          · walk_at "P.it"
          · walk_at "P.it"
        · intro h
          apply wp_cont
          refine ⟨.inr rfl, next _ acc ?_ ?_ ?_ ?_ ?_ ?_ ?_⟩
          · unfold nstep; rw [if_pos]; simpa using h
          · walk_at "P.sc"
          · walk_at "P.get"
          · walk_at "P.get"
          · walk_at "P.get"
          · walk_at "P.get"
          · walk_at "P.get"
        · intro h
          have hn1 : ¬ (c.length = 0 ∨ sq c "." = true) := by
            intro q
            have : (!decide (c.length ≠ 0) || sq c ".") = true := by simpa using q
            rw [this] at h; cases h
          apply wp_nil
          apply wp_if (c := !sq c ".." || lastDD acc)
          · apply it_bool
            apply or_three
            · walk_at "P.it"
            · apply it_bool
              apply and_f
              apply it_cast
              · walk_at "P.it"
              · rfl
            · apply it_bool
              rcases List.eq_nil_or_concat acc with rfl | ⟨acc', u, hu⟩
              · apply and_f
                apply it_cast
                · walk_at "P.it"
                · rfl
              · rw [List.concat_eq_append] at hu
                subst hu
                have hal3 : acc'.length < 100000 := by simp at q3; (clear hal2 hal hn1 hcap q4 hy hf hs hn hx; omega)
                have hs3 : (σ.map AO.lock ++ [AO.list ((acc' ++ [u]).map AV.str)])[(σ.map AO.lock).length]? = some (AO.list (acc'.map AV.str ++ [AV.str u])) := by rw [sto_new, List.map_append]; rfl
                have hal4 : (acc'.map AV.str).length < 100000 := by rw [List.length_map]; exact hal3
                have hal5 : (acc'.map AV.str ++ [AV.str u]).length ≤ cap := by simp at q3 ⊢; (clear q3 hal4 hal2 hal hn1 q4 hy hf hs hn hx; omega)
                apply and_t
                · apply it_cast
                  · walk_at "P.it"
                  · simp
                have hd : lastDD (acc' ++ [u]) = sq u ".." := by unfold lastDD; simp
                rw [hd]
                cases hu : sq u ".."
                · apply and_f
                  apply it_cast
                  · walk_at "P.it"
                  · exact hu
                · apply and_t
                  · apply it_cast
                    · walk_at "P.it"
                    · exact hu
                  · exact and_nil
          · intro h2
            apply wp_expr
            · walk_at "P.ev"
            apply wp_nil
            apply wp_nil
            rw [set_new]
            refine ⟨.inl rfl, ?_⟩
            have := next (E.st "comp" (.str c)) (acc ++ [c]) ?_ ?_ ?_ ?_ ?_ ?_ ?_
            · rw [List.map_append] at this; exact this
            · unfold nstep; rw [if_neg hn1, if_pos h2]
            · walk_at "P.sc"
            · walk_at "P.get"
            · walk_at "P.get"
            · walk_at "P.get"
            · walk_at "P.get"
            · walk_at "P.get"
          · intro h2
            have hst : nstep acc c = acc.dropLast := by unfold nstep; rw [if_neg hn1, if_neg]; rw [h2]; decide
            apply wp_if
            · walk_at "P.it"
            · intro h3
              rcases List.eq_nil_or_concat acc with rfl | ⟨acc', u, hu⟩
              · cases h3
              · rw [List.concat_eq_append] at hu
                subst hu
                have hs3 : (σ.map AO.lock ++ [AO.list ((acc' ++ [u]).map AV.str)])[(σ.map AO.lock).length]? = some (AO.list (acc'.map AV.str ++ [AV.str u])) := by rw [sto_new, List.map_append]; rfl
                have hal5 : (acc'.map AV.str ++ [AV.str u]).length ≤ cap := by simp at q3 ⊢; (clear hal2 hal hn1 q4 hy hf hs hn hx; omega)
                apply wp_expr
                · walk_at "P.ev"
                apply wp_nil
                apply wp_nil
                apply wp_nil
                rw [set_new]
                refine ⟨.inl rfl, ?_⟩
                refine next (E.st "comp" (.str c)) acc' ?_ ?_ ?_ ?_ ?_ ?_ ?_
                · rw [hst]; simp
                · walk_at "P.sc"
                · walk_at "P.get"
                · walk_at "P.get"
                · walk_at "P.get"
                · walk_at "P.get"
                · walk_at "P.get"
            · intro h3
              have : acc = [] := by
                cases acc with
                | nil => rfl
                | cons _ _ => cases h3
              subst this
              apply wp_nil
              apply wp_nil
              apply wp_nil
              refine ⟨.inl rfl, ?_⟩
              refine next (E.st "comp" (.str c)) [] hst ?_ ?_ ?_ ?_ ?_ ?_
              · walk_at "P.sc"
              · walk_at "P.get"
              · walk_at "P.get"
              · walk_at "P.get"
              · walk_at "P.get"
              · walk_at "P.get"
    · rintro E s ⟨l', acc, q1, rfl, e1, e2, e3, e4, e5, e6, q2, q3, q4⟩
      cases l' with
      | cons _ _ => cases q1
      | nil =>
        have q2 : acc = nfold [] cs := q2
        rw [← q2] at hj hf ⊢
        have hjo : strsOf (acc.map AV.str) = some acc := strsOf_map acc
        have hs4 : lists (σ.map AO.lock ++ [AO.list (acc.map AV.str)]) (.own (σ.map AO.lock).length) = some (acc.map AV.str) := lists_own sto_new
        have hpl : (Str.ofString "/" ++ Txt.join "/" acc).length ≤ cap := by rw [strLen_append]; exact hf
        walk_at "P.as"
        apply wp_assign
        · apply own_plain (fun _ _ => by kernel_rfl) rfl
          apply ev_bin
          · walk_at "P.ev"
          · apply ev_meth
            · intro _ _; kernel_rfl
            · kernel_rfl
            · exact rfl
            · walk_at "P.ev"
            · walk_at "P.ty"
            · walk_at "P.evs"
            · exact m_join hs4 hj
          · exact bin_add_str hf
        · walk_at "P.lc"
        apply wp_ret
        · apply ev_bool
          apply eb_or_t
          · walk_at "P.ev"
          · refine TR.cast (tr_str hpl) ?_
            rw [strLen_append]
            have : (Str.ofString "/").length = 1 := by kernel_rfl
            rw [this]; simp
        · rfl
end
end

noncomputable section
open PySem
local macro_rules | `(tactic| walk_at "P.call") => `(tactic| ((with_reducible apply call_d); with_reducible exact c_fspath))
local macro_rules | `(tactic| walk_at "P.call") => `(tactic| ((with_reducible apply call_d); with_reducible exact c_get_sep))
section
variable {n : Nat} {σ : Sto}
/-- the text is among these -/
noncomputable def memS (x : Str) (l : List Str) : Bool := l.any fun y => sq y x
theorem memS_iff {x : Str} {l : List Str} : memS x l = true ↔ x ∈ l := by
  unfold memS
  rw [List.any_eq_true]
  constructor
  · rintro ⟨y, h1, h2⟩; rw [← sq_eq h2]; exact h1
  · intro h; exact ⟨x, h, sq_refl x⟩
theorem sq_beq' (x y : Str) : (x == y) = sq x y := by
  cases h : sq x y with
  | true => rw [sq_eq h]; simp
  | false =>
    cases q : (x == y) with
    | false => rfl
    | true => rw [eq_of_beq q, sq_refl] at h; cases h
theorem toPDs_map : ∀ l : List Str, (∀ y ∈ l, PyData.strOk y = true) → toPDs (l.map AV.str) = some (l.map PyData.str)
  | [], _ => rfl
  | x :: l, h => by
    rw [List.map_cons]
    unfold toPDs
    rw [show toPD (.str x) = some (.str x) from by unfold toPD; rw [if_pos (h x List.mem_cons_self)], toPDs_map l fun y hy => h y (List.mem_cons_of_mem _ hy)]
    rfl
theorem pd_str {x : Str} (h : PyData.strOk x = true) : toPD (.str x) = some (.str x) := by unfold toPD; rw [if_pos h]
theorem eq_ft : CO σ .Eq (.bool false) (.bool true) false := (eq_data (rd_pd rfl) (rd_pd rfl) (by unfold PyData.depth; exact Nat.zero_le _)).cast (by unfold PyData.eqv; rfl)
theorem in_strs {x : Str} {v : AV} {l : List Str} (h : lists σ v = some (l.map AV.str)) (hx : PyData.strOk x = true) (hl : ∀ y ∈ l, PyData.strOk y = true) : CO σ .In (.str x) v (memS x l) := by
  refine (in_data (d := .str x) (pd_str hx) h (toPDs_map l hl) (by unfold PyData.depth; exact Nat.zero_le _)).cast ?_
  rw [List.any_map]
  unfold memS
  congr 1
  funext y
  show PyData.eqv (.str y) (.str x) = _
  unfold PyData.eqv
  exact sq_beq' y x
theorem lock_lists {v : AV} {xs : List AV} (h : lists σ v = some xs) : lists (σ.map AO.lock) v = some xs := by
  unfold lists at h ⊢
  cases v with
  | own k =>
    simp only at h ⊢
    rw [List.getElem?_map]
    cases q : σ[k]? with
    | none => rw [q] at h; cases h
    | some ao => rw [q] at h; cases ao <;> first | exact h | cases h
  | _ => exact h
theorem c_contains {x : Str} {v : AV} {l : List Str} (h : lists σ v = some (l.map AV.str)) (hx : PyData.strOk x = true) (hl : ∀ y ∈ l, PyData.strOk y = true) : CD ((n + 10)) 52 [v, .str x] σ (.bool (memS x l)) := by
  refine callD_intro (E := ?e) rfl rfl fn_contains ?_ ?_
  rotate_left
  · show bindP _ (_ :: _) _ _ = _
    walk_at "P.bind"
  · apply wp_ret
    · with_reducible apply ev_cmp
      · exact rfl
      · walk_at "P.ev"
      · walk_at "P.ev"
      · exact in_strs (lock_lists h) hx hl
    · rfl
/-- countOf over truths -/
noncomputable def cnt : List Bool → Int
  | [] => 0
  | b :: l => (if b then 1 else 0) + cnt l
theorem c_countOf {l : List Bool} (hl : l.length ≤ 1000) : CD ((n + 20)) 59 [.list (l.map .bool), .bool true] σ (.int (cnt l)) := by
  refine callD_intro (E := ?e) rfl rfl fn_countOf ?_ ?_
  rotate_left
  · show bindP _ (_ :: _) _ _ = _
    walk_at "P.bind"
  · walk_at "P.as"
    apply wp_for (xs := l.map .bool) (taken := none) (Inv := fun xs E s => ∃ l' i, xs = l'.map AV.bool ∧ s = σ.map AO.lock ∧ E.sc = (dAt 5).scope.names ∧ E.get "b" = some (.bool true) ∧ E.get "count" = some (.int i) ∧ i + cnt l' = cnt l)
    · exact rfl
    · walk_at "P.ev"
    · walk_at "P.src"
    · refine ⟨l, 0, rfl, rfl, ?_, ?_, ?_, by (clear hl; omega)⟩
      · walk_at "P.sc"
      · walk_at "P.get"
      · walk_at "P.get"
    · rintro v vs E s ⟨l', i, h1, rfl, e1, e2, e3, h2⟩
      cases l' with
      | nil => cases h1
      | cons b l' =>
        cases h1
        refine ⟨E.st "i" (.bool b), bt_st (by walk_at "P.lc"), ?_⟩
        apply wp_if (c := b) (σ1 := σ.map AO.lock)
        · apply it_bool
          cases b
          · apply or_f
            · with_reducible apply it_cmp
              · exact rfl
              · walk_at "P.ev"
              · walk_at "P.ev"
              · exact cmp_is (.bb false true)
            · apply or_f
              · with_reducible apply it_cmp
                · exact rfl
                · walk_at "P.ev"
                · walk_at "P.ev"
                · exact eq_ft
              · exact or_nil
          · apply or_t
            with_reducible apply it_cmp
            · exact rfl
            · walk_at "P.ev"
            · walk_at "P.ev"
            · exact cmp_is (.bb true true)
        · intro hb
          subst hb
          apply wp_aug
          · walk_at "P.get"
          · walk_at "P.ev"
          · exact aug_int
          · walk_at "P.lc"
          apply wp_nil
          apply wp_nil
          refine ⟨.inl rfl, l', i + 1, rfl, rfl, ?_, ?_, ?_, ?_⟩
          · walk_at "P.sc"
          · walk_at "P.get"
          · walk_at "P.get"
          · have : cnt (true :: l') = 1 + cnt l' := rfl
            (clear hl; omega)
        · intro hb
          subst hb
          apply wp_nil
          apply wp_nil
          refine ⟨.inl rfl, l', i, rfl, rfl, ?_, ?_, ?_, ?_⟩
          · walk_at "P.sc"
          · walk_at "P.get"
          · walk_at "P.get"
          · have : cnt (false :: l') = 0 + cnt l' := rfl
            (clear hl; omega)
    · rintro E s ⟨l', i, h1, rfl, e1, e2, e3, h2⟩
      cases l' with
      | cons _ _ => cases h1
      | nil =>
        apply wp_ret
        · walk_at "P.ev"
        · show some (AV.int i) = _
          rw [← h2]; simp [cnt]
end
end

noncomputable section
open PySem
local macro_rules | `(tactic| walk_at "P.call") => `(tactic| ((with_reducible apply call_d); with_reducible exact c_fspath))
local macro_rules | `(tactic| walk_at "P.call") => `(tactic| ((with_reducible apply call_d); with_reducible exact c_get_sep))
section
theorem pick_range {α : Type} (xs : List α) (a : Nat) : ∀ k : Nat, a + k ≤ xs.length → ((List.range k).map (a + ·)).filterMap (xs[·]?) = (xs.drop a).take k
  | 0, _ => by simp
  | k + 1, h => by
    rw [List.range_succ, List.map_append, List.filterMap_append, pick_range xs a k (by omega), List.take_add_one]
    congr 1
    have hlt : a + k < xs.length := by omega
    simp [hlt]
theorem cut_of {α : Type} {xs : List α} {l u : Option Int} {a b : Nat} (h : sliceBounds l u none xs.length = ((a : Int), (b : Int), 1)) (hb : b ≤ xs.length) : cutL xs l u = (xs.drop a).take (b - a) := by
  unfold cutL
  rw [h]
  show (sliceRange (a : Int) (b : Int) 1).filterMap (xs[·]?) = _
  rw [sliceRange_one]
  by_cases hab : a ≤ b
  · exact pick_range xs a (b - a) (by omega)
  · have : b - a = 0 := by (clear hb; omega)
    rw [this]; simp
theorem cut_take {α : Type} {xs : List α} {k : Nat} : cutL xs none (some (k : Int)) = xs.take k := by
  rw [cut_of (a := 0) (b := min k xs.length) ?_ (Nat.min_le_right _ _)]
  · rw [List.drop_zero, Nat.sub_zero]
    by_cases h : k ≤ xs.length
    · rw [Nat.min_eq_left h]
    · rw [Nat.min_eq_right (by omega), List.take_of_length_le (by (clear h; omega)), List.take_of_length_le (by omega)]
  · unfold sliceBounds
    simp
    omega
theorem cut_drop {α : Type} {xs : List α} {k : Nat} : cutL xs (some (k : Int)) none = xs.drop k := by
  rw [cut_of (a := min k xs.length) (b := xs.length) ?_ (Nat.le_refl _)]
  · by_cases h : k ≤ xs.length
    · rw [Nat.min_eq_left h, List.take_of_length_le (by rw [List.length_drop]; (clear h; omega))]
    · rw [Nat.min_eq_right (by omega), Nat.sub_self, List.take_zero, List.drop_of_length_le (by omega)]
  · unfold sliceBounds
    simp
    omega
theorem cut_but {α : Type} {xs : List α} : cutL xs none (some (-1)) = xs.dropLast := by
  rw [cut_of (a := 0) (b := xs.length - 1) ?_ (by omega)]
  · rw [List.drop_zero, Nat.sub_zero, List.dropLast_eq_take]
  · unfold sliceBounds
    simp
    omega
theorem cut_last {α : Type} {xs : List α} {x : α} : cutL (xs ++ [x]) (some (-1)) none = [x] := by
  rw [cut_of (a := xs.length) (b := xs.length + 1) ?_ (by simp)]
  · simp
  · unfold sliceBounds
    simp
    omega
theorem cut_last0 {α : Type} : cutL ([] : List α) (some (-1)) none = [] := by
  rw [cut_of (a := 0) (b := 0) ?_ (by simp)]
  · simp
  · unfold sliceBounds
    simp
    rfl
/-- an item of a written list -/
theorem it_at {σ : Sto} {v : AV} {xs : List AV} {i : Int} {u : AV} (h : items σ v = some xs) (h0 : 0 ≤ i) (h1 : i ≤ 1000000) (hx : xs[i.toNat]? = some u) : IV σ v i u := by
  have hlt := (List.getElem?_eq_some_iff.mp hx).1
  have hs : seqIndex? i xs.length = some i.toNat := by
    unfold seqIndex?
    simp only [show ¬ i < 0 by (clear hlt h1; omega), if_false]
    rw [if_pos]
    simp; (clear h1; omega)
  exact iv_items h ⟨by (clear hlt h1; omega), by (clear hlt h0; omega)⟩ hs hx
/-- the number of a script's item, and what it says -/
noncomputable def vOf (x : Int) : Int := if x < 0 then -x else x
noncomputable def nmS : List Str := ["a", "b", "..", "ab", ".", "ba"]
noncomputable def rtS : List Str := ["/", "/a", "/b/ab"]
noncomputable def rtW : List (List Str) := [[], ["a"], ["b", "ab"]]
noncomputable def stepsOf (x : Int) : List Str := [nmS.getD (Int.fmod (Int.fdiv (vOf x) 3) 6).toNat "", nmS.getD (Int.fmod (Int.fdiv (vOf x) 18) 6).toNat "", nmS.getD (Int.fmod (Int.fdiv (vOf x) 108) 6).toNat ""]
noncomputable def rootS (x : Int) : Str := rtS.getD (Int.fmod (vOf x) 3).toNat ""
noncomputable def rootW (x : Int) : List Str := rtW.getD (Int.fmod (vOf x) 3).toNat []
noncomputable def wstep (w : List Str) (s : Str) : List Str := if sq s ".." = true then w.dropLast else if sq s "." = true then w else w ++ [s]
noncomputable def wfold (w : List Str) : List Str → List Str
  | [] => w
  | s :: l => wfold (wstep w s) l
noncomputable def walkOf (x : Int) : List Str := wfold (rootW x) (stepsOf x)
noncomputable def placeOf (x : Int) : Str := Str.ofString "/" ++ Txt.join "/" (nfold [] (Txt.split (Txt.slice (jfold (rootS x) (stepsOf x)) (some 1) none) "/"))
theorem fmod_range (i j : Int) (hj : 0 < j) : 0 ≤ Int.fmod i j ∧ Int.fmod i j < j := ⟨Int.fmod_nonneg_of_pos i hj, Int.fmod_lt_of_pos i hj⟩
theorem nm_at {σ : Sto} {i : Int} (h : 0 ≤ i ∧ i < 6) : IV σ (.list [.str "a", .str "b", .str "..", .str "ab", .str ".", .str "ba"]) i (.str (nmS.getD i.toNat "")) := by
  refine it_at rfl h.1 (by omega) ?_
  have : i.toNat = 0 ∨ i.toNat = 1 ∨ i.toNat = 2 ∨ i.toNat = 3 ∨ i.toNat = 4 ∨ i.toNat = 5 := by omega
  rcases this with q | q | q | q | q | q <;> rw [q] <;> rfl
theorem rt_at {σ : Sto} {i : Int} (h : 0 ≤ i ∧ i < 3) : IV σ (.list [.str "/", .str "/a", .str "/b/ab"]) i (.str (rtS.getD i.toNat "")) := by
  refine it_at rfl h.1 (by omega) ?_
  have : i.toNat = 0 ∨ i.toNat = 1 ∨ i.toNat = 2 := by omega
  rcases this with q | q | q <;> rw [q] <;> rfl
theorem rw_at {σ : Sto} {i : Int} (h : 0 ≤ i ∧ i < 3) : IV σ (.list [.list [], .list [.str "a"], .list [.str "b", .str "ab"]]) i (.list ((rtW.getD i.toNat []).map .str)) := by
  refine it_at rfl h.1 (by omega) ?_
  have : i.toNat = 0 ∨ i.toNat = 1 ∨ i.toNat = 2 := by omega
  rcases this with q | q | q <;> rw [q] <;> rfl
end
end

noncomputable section
open PySem
local macro_rules | `(tactic| walk_at "P.call") => `(tactic| ((with_reducible apply call_d); with_reducible exact c_fspath))
local macro_rules | `(tactic| walk_at "P.call") => `(tactic| ((with_reducible apply call_d); with_reducible exact c_get_sep))
section
variable {n : Nat} {σ : Sto}
theorem fn_places : fnAt 239 = some (dAt 35) := by kernel_rfl
theorem sto2_0 {a b : AO} : (σ ++ [a] ++ [b])[σ.length]? = some a := by simp
theorem sto2_1 {a b : AO} : (σ ++ [a] ++ [b])[σ.length + 1]? = some b := by simp
theorem set2_0 {a b c : AO} : (σ ++ [a] ++ [b]).set σ.length c = σ ++ [c] ++ [b] := by simp
theorem set2_1 {a b c : AO} : (σ ++ [a] ++ [b]).set (σ.length + 1) c = σ ++ [a] ++ [c] := by
  rw [List.append_assoc, List.append_assoc, List.set_append_right _ _ (by omega)]
  simp
theorem b_abs {i : Int} : CA n (.con (.builtin "abs")) [.int i] σ (.int (vOf i)) σ := call_b cb_abs
/-- what normpath wants of a path -/
structure NpOk (x : Str) : Prop where
  len : x.length ≤ cap
  pos : x.length ≠ 0
  one : sq (Txt.slice x none (some 1)) "/" = true
  two : sq (Txt.slice x (some 1) (some 2)) "/" = false
  parts : (Txt.split (Txt.slice x (some 1) none) "/").all (fun c => decide (c.length ≤ cap)) = true
  few : (Txt.split (Txt.slice x (some 1) none) "/").length < 90000
  join : JoinOk "/" (nfold [] (Txt.split (Txt.slice x (some 1) none) "/")) = true
  fit : (Str.ofString "/").length + (Txt.join "/" (nfold [] (Txt.split (Txt.slice x (some 1) none) "/"))).length ≤ cap
noncomputable abbrev pieceA : AV := .list [.str "a", .str "b", .str "..", .str "ab", .str ".", .str "ba"]
inductive PlO (l : List Int) (base : Sto) (xs : List AV) (E : AE) (s : Sto) : Prop where
  | mk (done rest : List Int) : l = done ++ rest → xs = rest.map AV.int → s = base ++ [AO.list (done.map fun x => .str (placeOf x))] ++ [AO.list (done.map fun x => .list ((walkOf x).map .str))] → E.sc = (dAt 35).scope.names → E.get "pieces" = some pieceA → E.get "places" = some (.own base.length) → E.get "walks" = some (.own (base.length + 1)) → PlO l base xs E s
inductive PlI (x : Int) (done : List Int) (base : Sto) (xs : List AV) (E : AE) (s : Sto) : Prop where
  | mk (l' w : List Str) : xs = l'.map AV.str → s = base ++ [AO.list ((done.map fun x => .str (placeOf x)) ++ [AV.str (placeOf x)])] ++ [AO.list (done.map fun x => .list ((walkOf x).map .str))] → E.sc = (dAt 35).scope.names → E.get "pieces" = some pieceA → E.get "places" = some (.own base.length) → E.get "walks" = some (.own (base.length + 1)) → E.get "walk" = some (.list (w.map .str)) → wfold w l' = walkOf x → w.length + l'.length ≤ 20 → PlI x done base xs E s
set_option maxHeartbeats 2000000 in
theorem c_places {l : List Int} (hl : l.length ≤ 100) (hn : ∀ x ∈ l, NpOk (jfold (rootS x) (stepsOf x))) (hj : ∀ x ∈ l, (rootS x).length + jlen (stepsOf x) ≤ cap) :
    CD ((n + 50)) 239 [.list (l.map .int)] σ (.tup [.list (l.map fun x => .str (placeOf x)), .list (l.map fun x => .list ((walkOf x).map .str))]) := by
  refine callD_intro (E := ?e) rfl rfl fn_places ?_ ?_
  rotate_left
  · show bindP _ (_ :: _) _ _ = _
    walk_at "P.bind"
  · refine wp_assign (v := pieceA) (σ1 := σ.map AO.lock) (own_plain (fun _ _ => by kernel_rfl) rfl (ev_list (evs_cons rfl (evp_const rfl) (evs_cons rfl (evp_const rfl) (evs_cons rfl (evp_const rfl) (evs_cons rfl (evp_const rfl) (evs_cons rfl (evp_const rfl) (evs_cons rfl (evp_const rfl) evs_nil)))))) (Nat.le_of_ble_eq_true rfl))) (by walk_at "P.lc") ?_
    walk_at "P.as"
    walk_at "P.as"
    rw [show (σ.map AO.lock ++ [AO.list []]).length = (σ.map AO.lock).length + 1 by simp]
    apply wp_for (xs := l.map .int) (taken := none) (Inv := PlO l (σ.map AO.lock))
    · exact rfl
    · walk_at "P.ev"
    · walk_at "P.src"
    · refine ⟨[], l, rfl, rfl, rfl, ?_, ?_, ?_, ?_⟩
      · walk_at "P.sc"
      · walk_at "P.get"
      · walk_at "P.get"
      · walk_at "P.get"
    · rintro v vs E s ⟨done, rest, q0, q1, rfl, e1, e2, e3, e4⟩
      cases rest with
      | nil => cases q1
      | cons x rest =>
        cases q1
        have hx : x ∈ l := by rw [q0]; simp
        have N := hn x hx
        have J := hj x hx
        have hs0 := sto2_0 (σ := σ.map AO.lock) (a := AO.list (done.map fun x => .str (placeOf x))) (b := AO.list (done.map fun x => .list ((walkOf x).map .str)))
        have hs1 := sto2_1 (σ := σ.map AO.lock) (a := AO.list (done.map fun x => .str (placeOf x))) (b := AO.list (done.map fun x => .list ((walkOf x).map .str)))
        have i1 := nm_at (σ := σ.map AO.lock ++ [AO.list (done.map fun x => .str (placeOf x))] ++ [AO.list (done.map fun x => .list ((walkOf x).map .str))]) (fmod_range (Int.fdiv (vOf x) 3) 6 (by decide))
        have i2 := nm_at (σ := σ.map AO.lock ++ [AO.list (done.map fun x => .str (placeOf x))] ++ [AO.list (done.map fun x => .list ((walkOf x).map .str))]) (fmod_range (Int.fdiv (vOf x) 18) 6 (by decide))
        have i3 := nm_at (σ := σ.map AO.lock ++ [AO.list (done.map fun x => .str (placeOf x))] ++ [AO.list (done.map fun x => .list ((walkOf x).map .str))]) (fmod_range (Int.fdiv (vOf x) 108) 6 (by decide))
        have i4 := rt_at (σ := σ.map AO.lock ++ [AO.list (done.map fun x => .str (placeOf x))] ++ [AO.list (done.map fun x => .list ((walkOf x).map .str))]) (fmod_range (vOf x) 3 (by decide))
        have i5 := rw_at (σ := σ.map AO.lock ++ [AO.list ((done.map fun x => .str (placeOf x)) ++ [AV.str (placeOf x)])] ++ [AO.list (done.map fun x => .list ((walkOf x).map .str))]) (fmod_range (vOf x) 3 (by decide))
        have hd : (done.map fun x => AV.str (placeOf x)).length < cap := by
          have : l.length = done.length + (rest.length + 1) := by rw [q0]; simp
          have hc : cap = 100000 := rfl
          simp; (clear J; omega)
        refine ⟨E.st "x" (.int x), bt_st (by walk_at "P.lc"), ?_⟩
        apply wp_assign
        · apply own_plain (fun _ _ => by kernel_rfl) rfl
          apply ev_call
          · walk_at "P.ev"
          · exact rfl
          · walk_at "P.args"
          · exact b_abs
        · walk_at "P.lc"
        walk_at "P.as"
        apply wp_expr
        · apply ev_meth
          · intro _ _; kernel_rfl
          · kernel_rfl
          · exact rfl
          · walk_at "P.ev"
          · walk_at "P.ty"
          · apply evs_cons
            · exact rfl
            · apply ev_call
              · walk_at "P.ev"
              · exact rfl
              · apply args_cons
                · exact rfl
                · apply ev_call
                  · walk_at "P.ev"
                  · exact rfl
                  · apply args_cons
                    · exact rfl
                    · walk_at "P.ev"
                    · apply args_star
                      · walk_at "P.ev"
                      · walk_at "P.lists"
                      · walk_at "P.len"
                  · apply call_d
                    exact c_join (x := rootS x) (l := stepsOf x) J (by show 3 < 90000; decide)
                · exact args_nil
              · apply call_d
                exact c_normpath N.len N.pos N.one N.two N.parts N.few N.join N.fit
            · exact evs_nil
          · exact m_append hs0 hd
        rw [set2_0]
        change WP _ _ _ (σ.map AO.lock ++ [AO.list ((done.map fun x => .str (placeOf x)) ++ [AV.str (placeOf x)])] ++ [AO.list (done.map fun x => .list ((walkOf x).map .str))]) _
        have hs0' := sto2_0 (σ := σ.map AO.lock) (a := AO.list ((done.map fun x => .str (placeOf x)) ++ [AV.str (placeOf x)])) (b := AO.list (done.map fun x => .list ((walkOf x).map .str)))
        have hs1' := sto2_1 (σ := σ.map AO.lock) (a := AO.list ((done.map fun x => .str (placeOf x)) ++ [AV.str (placeOf x)])) (b := AO.list (done.map fun x => .list ((walkOf x).map .str)))
        refine wp_assign (v := .list ((rtW.getD (Int.fmod (vOf x) 3).toNat []).map .str)) (σ1 := σ.map AO.lock ++ [AO.list ((done.map fun x => .str (placeOf x)) ++ [AV.str (placeOf x)])] ++ [AO.list (done.map fun x => .list ((walkOf x).map .str))])
          (own_plain (fun _ _ => by kernel_rfl) rfl (ev_item (by intro _ _ _ q; cases q) (ev_list (evs_cons rfl (ev_list evs_nil (Nat.zero_le _)) (evs_cons rfl (ev_list (evs_cons rfl (evp_const rfl) evs_nil) (Nat.le_of_ble_eq_true rfl)) (evs_cons rfl (ev_list (evs_cons rfl (evp_const rfl) (evs_cons rfl (evp_const rfl) evs_nil)) (Nat.le_of_ble_eq_true rfl)) evs_nil))) (Nat.le_of_ble_eq_true rfl)) (by walk_at "P.ev") i5)) (by walk_at "P.lc") ?_
        refine wp_for (v := .list ((stepsOf x).map .str)) (σ1 := (σ.map AO.lock ++ [AO.list ((done.map fun x => .str (placeOf x)) ++ [AV.str (placeOf x)])] ++ [AO.list (done.map fun x => .list ((walkOf x).map .str))])) (σ2 := (σ.map AO.lock ++ [AO.list ((done.map fun x => .str (placeOf x)) ++ [AV.str (placeOf x)])] ++ [AO.list (done.map fun x => .list ((walkOf x).map .str))])) (xs := (stepsOf x).map .str) (taken := none) (Inv := PlI x done (σ.map AO.lock)) ?yp ?y1 ?y2 ?y3 ?yturn ?y4
        case yp => exact rfl
        case y1 =>
          apply evp_name
          show _ = some (AV.list [_, _, _])
          walk_at "P.get"
        case y2 => exact src_list
        case y3 =>
          refine ⟨stepsOf x, rootW x, rfl, rfl, ?_, ?_, ?_, ?_, ?_, rfl, ?_⟩
          · walk_at "P.sc"
          · walk_at "P.get"
          · walk_at "P.get"
          · walk_at "P.get"
          · show _ = some (AV.list ((rtW.getD (Int.fmod (vOf x) 3).toNat []).map .str))
            walk_at "P.get"
          · show (rtW.getD (Int.fmod (vOf x) 3).toNat []).length + 3 ≤ 20
            have h3 := fmod_range (vOf x) 3 (by decide)
            have : (Int.fmod (vOf x) 3).toNat = 0 ∨ (Int.fmod (vOf x) 3).toNat = 1 ∨ (Int.fmod (vOf x) 3).toNat = 2 := by (clear hd J hl; omega)
            rcases this with q | q | q <;> rw [q] <;> decide
        case yturn =>
          rintro v vs E s ⟨l', w, p1, rfl, f1, f2, f3, f4, f5, p2, p3⟩
          cases l' with
          | nil => cases p1
          | cons b l' =>
            cases p1
            rw [List.length_cons] at p3
            have hc : cap = 100000 := rfl
            have hw1 : (w.map AV.str).length ≤ cap := by rw [List.length_map]; (clear hd J hl; omega)
            have hw2 : (w.map AV.str).length + [AV.str b].length ≤ cap := by rw [List.length_map]; simp; (clear hw1 hd J hl; omega)
            refine ⟨E.st "step" (.str b), bt_st (by walk_at "P.lc"), ?_⟩
            have next : ∀ w', wstep w b = w' → wfold w' l' = walkOf x ∧ w'.length + l'.length ≤ 20 := fun w' h => ⟨by rw [← p2, ← h]; rfl, by
              have : w'.length ≤ w.length + 1 := by
                rw [← h]; unfold wstep
                split
                · rw [List.length_dropLast]; (clear hw2 hw1 hc p3 hd J hl; omega)
                · split
                  · (clear hw2 hw1 hc p3 hd J hl; omega)
                  · simp
              (clear hw2 hw1 hc hd J hl; omega)⟩
            apply wp_if
            · walk_at "P.it"
            · intro hb
              walk_at "P.as"
              apply wp_nil
              apply wp_nil
              have hs : wstep w b = w.dropLast := by unfold wstep; rw [if_pos hb]
              refine ⟨.inl rfl, l', w.dropLast, rfl, rfl, ?_, ?_, ?_, ?_, ?_, (next _ hs).1, (next _ hs).2⟩
              · walk_at "P.sc"
              · walk_at "P.get"
              · walk_at "P.get"
              · walk_at "P.get"
              · rw [List.map_dropLast, ← cut_but]
                walk_at "P.get"
            · intro hb
              apply wp_if
              · walk_at "P.it"
              · intro hb2
                walk_at "P.as"
                apply wp_nil
                apply wp_nil
                apply wp_nil
                have hs : wstep w b = w ++ [b] := by unfold wstep; rw [if_neg (by rw [hb]; decide), if_neg]; intro q; rw [q] at hb2; cases hb2
                refine ⟨.inl rfl, l', w ++ [b], rfl, rfl, ?_, ?_, ?_, ?_, ?_, (next _ hs).1, (next _ hs).2⟩
                · walk_at "P.sc"
                · walk_at "P.get"
                · walk_at "P.get"
                · walk_at "P.get"
                · rw [List.map_append]
                  show _ = some (AV.list (w.map AV.str ++ [AV.str b]))
                  walk_at "P.get"
              · intro hb2
                apply wp_nil
                apply wp_nil
                apply wp_nil
                have hs : wstep w b = w := by unfold wstep; rw [if_neg (by rw [hb]; decide), if_pos]; cases q : sq b "." <;> rw [q] at hb2 <;> first | rfl | cases hb2
                refine ⟨.inl rfl, l', w, rfl, rfl, ?_, ?_, ?_, ?_, ?_, (next _ hs).1, (next _ hs).2⟩
                · walk_at "P.sc"
                · walk_at "P.get"
                · walk_at "P.get"
                · walk_at "P.get"
                · walk_at "P.get"
        case y4 =>
          rintro E s ⟨l', w, p1, rfl, f1, f2, f3, f4, f5, p2, p3⟩
          cases l' with
          | cons _ _ => cases p1
          | nil =>
            have p2 : w = walkOf x := p2
            subst p2
            change WP _ _ _ (σ.map AO.lock ++ [AO.list ((done.map fun x => .str (placeOf x)) ++ [AV.str (placeOf x)])] ++ [AO.list (done.map fun x => .list ((walkOf x).map .str))]) _
            apply wp_expr
            · apply ev_meth
              · intro _ _; kernel_rfl
              · kernel_rfl
              · exact rfl
              · walk_at "P.ev"
              · walk_at "P.ty"
              · walk_at "P.evs"
              · exact m_append hs1' (by rw [List.length_map]; rw [List.length_map] at hd; exact hd)
            show WP _ _ _ (List.set _ _ _) _
            rw [set2_1]
            apply wp_nil
            refine ⟨.inl rfl, done ++ [x], rest, by rw [q0]; simp, rfl, ?_, ?_, ?_, ?_, ?_⟩
            · simp
            · walk_at "P.sc"
            · walk_at "P.get"
            · walk_at "P.get"
            · walk_at "P.get"
    · rintro E s ⟨done, rest, q0, q1, rfl, e1, e2, e3, e4⟩
      cases rest with
      | cons _ _ => cases q1
      | nil =>
        rw [List.append_nil] at q0
        subst q0
        apply wp_ret
        · walk_at "P.ev"
        · show freeze _ _ 5 (AV.tup [_, _]) = _
          refine fz_tup (fzL_cons (fz_own ?_ sto2_0 (fzL_map fun _ _ => fz_str)) (fzL_cons (fz_own ?_ sto2_1 (fzL_map fun _ _ => fz_list (fzL_map fun _ _ => fz_str))) fzL_nil))
          · rw [List.length_map]; exact Nat.le_refl _
          · rw [List.length_map]; (clear hl; omega)
end
end

noncomputable section
open PySem
/-- the signs of a text -/
noncomputable def ch (x : Str) : List Nat := x.cps.toList
theorem ch_ext {x y : Str} (h : ch x = ch y) : x = y := by
  cases x with | mk a => cases y with | mk b => exact congrArg Str.mk (Array.toList_inj.mp h)
theorem ch_app (x y : Str) : ch (x ++ y) = ch x ++ ch y := Array.toList_append
theorem ch_len (x : Str) : x.length = (ch x).length := rfl
theorem ch_mk (l : List Nat) : ch ⟨l.toArray⟩ = l := rfl
theorem slash_mk : Str.ofString "/" = ⟨#[47]⟩ := by kernel_rfl
theorem ch_slash : ch (Str.ofString "/") = [47] := by kernel_rfl
theorem len_slash : (Str.ofString "/").length = 1 := by kernel_rfl
theorem lq_true : ∀ {x y : List Nat}, x = y → lq x y = true := fun h => h ▸ lq_refl _
theorem sq_ch {x y : Str} : sq x y = true ↔ ch x = ch y := ⟨fun h => by rw [sq_eq h], fun h => lq_true h⟩
theorem sqp_iff {x y : Str} : sq x y = true ↔ x = y := ⟨sq_eq, fun h => h ▸ sq_refl _⟩
theorem sq_no {x y : Str} (h : x ≠ y) : sq x y = false := by
  cases q : sq x y with
  | false => rfl
  | true => exact absurd (sq_eq q) h
set_option tactic.hygienic true in
/-- slices -/
theorem sl_of {x : Str} {l u : Option Int} {a b : Nat} (h : Builtin.Str.strSliceIndices l u 1 x.length = sliceRange (a : Int) (b : Int) 1) (hb : b ≤ x.length) : ch (Txt.slice x l u) = ((ch x).drop a).take (b - a) := by
  have key : (sliceRange (a : Int) (b : Int) 1).filterMap (x.cps[·]?) = ((ch x).drop a).take (b - a) := by
    rw [sliceRange_one]
    have e : (fun (i : Nat) => x.cps[i]?) = fun (i : Nat) => (ch x)[i]? := by funext i; simp [ch]
    rw [e]
    by_cases hab : a ≤ b
    · exact pick_range (ch x) a (b - a) (by rw [← ch_len]; omega)
    · have : b - a = 0 := by (clear hb; omega)
      rw [this]; simp
  unfold Txt.slice
  rw [h]
  split
  · rename_i hc
    rw [← key]
    have hl : (sliceRange (a : Int) (b : Int) 1).length = x.length := by simpa using hc
    rw [sliceRange_one, List.length_map, List.length_range] at hl
    have ha : a = 0 ∨ x.length = 0 := by omega
    rcases ha with rfl | h0
    · rw [key, List.drop_zero, Nat.sub_zero, List.take_of_length_le (by rw [← ch_len]; (clear hb; omega))]
    · have : ch x = [] := List.eq_nil_of_length_eq_zero h0
      rw [key, this]; simp
  · exact key
theorem sl_take {x : Str} {k : Nat} : ch (Txt.slice x none (some (k : Int))) = (ch x).take k := by
  rw [sl_of (a := 0) (b := min k x.length) ?_ (Nat.min_le_right _ _)]
  · rw [List.drop_zero, Nat.sub_zero]
    by_cases h : k ≤ x.length
    · rw [Nat.min_eq_left h]
    · rw [Nat.min_eq_right (by omega), List.take_of_length_le (by rw [← ch_len]; (clear h; omega)), List.take_of_length_le (by rw [← ch_len]; omega)]
  · unfold Builtin.Str.strSliceIndices
    simp only [show (1 : Int) > 0 from by decide, if_true]
    congr 1 <;> (repeat rw [if_neg (by omega)]) <;> omega
theorem sl_drop {x : Str} {k : Nat} : ch (Txt.slice x (some (k : Int)) none) = (ch x).drop k := by
  rw [sl_of (a := min k x.length) (b := x.length) ?_ (Nat.le_refl _)]
  · by_cases h : k ≤ x.length
    · rw [Nat.min_eq_left h, List.take_of_length_le (by rw [List.length_drop, ← ch_len]; (clear h; omega))]
    · rw [Nat.min_eq_right (by omega), Nat.sub_self, List.take_zero, List.drop_of_length_le (by rw [← ch_len]; omega)]
  · unfold Builtin.Str.strSliceIndices
    simp only [show (1 : Int) > 0 from by decide, if_true]
    congr 1 <;> (repeat rw [if_neg (by omega)]) <;> omega
theorem sl_mid {x : Str} {k m : Nat} : ch (Txt.slice x (some (k : Int)) (some (m : Int))) = ((ch x).drop k).take (m - k) := by
  rw [sl_of (a := min k x.length) (b := min m x.length) ?_ (Nat.min_le_right _ _)]
  · by_cases h : k ≤ x.length
    · rw [Nat.min_eq_left h]
      by_cases h2 : m ≤ x.length
      · rw [Nat.min_eq_left h2]
      · rw [Nat.min_eq_right (by (clear h; omega)), List.take_of_length_le (by rw [List.length_drop, ← ch_len]; (clear h2 h; omega)), List.take_of_length_le (by rw [List.length_drop, ← ch_len]; (clear h; omega))]
    · rw [Nat.min_eq_right (a := k) (by omega), List.drop_of_length_le (by rw [← ch_len]; (clear h; omega)), List.drop_of_length_le (by rw [← ch_len]; omega)]; simp
  · unfold Builtin.Str.strSliceIndices
    simp only [show (1 : Int) > 0 from by decide, if_true]
    congr 1 <;> (repeat rw [if_neg (by omega)]) <;> omega
set_option tactic.hygienic true in
/-- strips -/
theorem rstrip_ch {x y : Str} : ch (Txt.rstripChars x y) = (((ch x).reverse.dropWhile y.cps.contains).reverse) := by
  have key : ((ch x).drop 0).take (x.length - ((x.cps.toList.drop 0).reverse.takeWhile y.cps.contains).length - 0) = ((ch x).reverse.dropWhile y.cps.contains).reverse := by
    rw [List.drop_zero, Nat.sub_zero]
    have h1 := List.takeWhile_append_dropWhile (p := y.cps.contains) (l := (ch x).reverse)
    have h2 : ch x = ((ch x).reverse.dropWhile y.cps.contains).reverse ++ ((ch x).reverse.takeWhile y.cps.contains).reverse := by
      rw [← List.reverse_append, h1, List.reverse_reverse]
    show List.take (x.length - ((ch x).reverse.takeWhile y.cps.contains).length) (ch x) = _
    have h3 := congrArg List.length h2
    rw [List.length_append, List.length_reverse, List.length_reverse] at h3
    rw [show x.length - ((ch x).reverse.takeWhile y.cps.contains).length = ((ch x).reverse.dropWhile y.cps.contains).reverse.length by rw [List.length_reverse, ch_len]; omega]
    have h5 := List.take_left (l₁ := ((ch x).reverse.dropWhile y.cps.contains).reverse) (l₂ := ((ch x).reverse.takeWhile y.cps.contains).reverse)
    rw [← h2] at h5
    exact h5
  unfold Txt.rstripChars Txt.stripBy
  split
  · rename_i hc
    rw [← key]
    unfold stripSame stripLo stripHi at hc
    simp only [Bool.and_eq_true, beq_iff_eq] at hc
    have := hc.2
    simp only [if_true] at this
    show _ = List.take _ (ch x)
    rw [List.take_of_length_le]
    rw [Nat.sub_zero, ← ch_len]
    exact Nat.le_of_eq this.symm
  · rw [← key]
    show (Builtin.Str.strSub _ _ _).cps.toList = _
    rw [StrLaws.strSub_toList]
    rfl
set_option tactic.hygienic true in
theorem lstrip_ch {x y : Str} : ch (Txt.lstripChars x y) = (ch x).dropWhile y.cps.contains := by
  have key : ((ch x).drop ((ch x).takeWhile y.cps.contains).length) = (ch x).dropWhile y.cps.contains := by
    conv => lhs; rw [← List.takeWhile_append_dropWhile (p := y.cps.contains) (l := ch x)]
    rw [List.takeWhile_append_dropWhile]
    have h1 := List.takeWhile_append_dropWhile (p := y.cps.contains) (l := ch x)
    conv => lhs; arg 2; rw [← h1]
    exact List.drop_left' rfl
  unfold Txt.lstripChars Txt.stripBy
  split
  · rename_i hc
    unfold stripSame stripLo stripHi at hc
    simp only [Bool.and_eq_true, beq_iff_eq, if_true] at hc
    rw [← key]
    rw [show ((ch x).takeWhile y.cps.contains).length = 0 from hc.1]
    rfl
  · rw [← key]
    show (Builtin.Str.strSub _ _ _).cps.toList = _
    rw [StrLaws.strSub_toList]
    unfold stripLo stripHi
    simp only [if_true]
    rw [List.take_of_length_le]
    · rfl
    · rw [List.length_drop]; exact Nat.le_refl _
end

noncomputable section
open PySem
/-- a name: not empty, and no stroke in it -/
noncomputable def Nm (x : Str) : Prop := ch x ≠ [] ∧ 47 ∉ ch x
noncomputable def pth (w : List Str) : Str := Str.ofString "/" ++ Txt.join "/" w
/-- strokes, each with a name behind it -/
noncomputable def seg (w : List Str) : List Nat := w.flatMap fun x => 47 :: ch x
theorem txt_join (s : Str) (l : List Str) : Txt.join s l = Str.join s l := StrLaws.glued_eq_join s l
theorem join_seg : ∀ w : List Str, w ≠ [] → 47 :: ch (Str.join "/" w) = seg w
  | [], h => absurd rfl h
  | [x], _ => by simp [seg]; rfl
  | x :: y :: r, _ => by
    show 47 :: ch (x ++ Str.ofString "/" ++ Str.join "/" (y :: r)) = _
    rw [ch_app, ch_app, ch_slash, List.append_assoc]
    show 47 :: (ch x ++ 47 :: ch (Str.join "/" (y :: r))) = _
    rw [join_seg (y :: r) (by simp)]
    simp [seg]
theorem pth_nil : ch (pth []) = [47] := by
  unfold pth
  rw [ch_app, ch_slash, txt_join]
  rfl
theorem pth_ch {w : List Str} (h : w ≠ []) : ch (pth w) = seg w := by
  unfold pth
  rw [ch_app, ch_slash, txt_join]
  exact join_seg w h
theorem pth_snoc (u : List Str) (x : Str) : ch (pth (u ++ [x])) = seg u ++ 47 :: ch x := by
  rw [pth_ch (by simp)]
  simp [seg]
theorem seg_end {u : List Str} (h : u ≠ []) (hu : ∀ x ∈ u, Nm x) : ∃ l c, seg u = l ++ [c] ∧ c ≠ 47 := by
  obtain ⟨v, x, rfl⟩ : ∃ v x, u = v ++ [x] := ⟨u.dropLast, u.getLast h, (List.dropLast_concat_getLast h).symm⟩
  have hx := hu x (by simp)
  obtain ⟨l, c, e⟩ : ∃ l c, ch x = l ++ [c] := ⟨(ch x).dropLast, (ch x).getLast hx.1, (List.dropLast_concat_getLast hx.1).symm⟩
  refine ⟨seg v ++ 47 :: l, c, ?_, ?_⟩
  · simp [seg, e]
  · intro hc; exact hx.2 (by rw [e, hc]; simp)
theorem rfind_ch {x : Str} {u t : List Nat} (h : ch x = u ++ 47 :: t) (ht : 47 ∉ t) : Txt.rfind x "/" = (u.length : Int) := by
  have hat : ∀ i, StrLaws.At x "/" x.length i ↔ (ch x)[i]? = some 47 := fun i => by
    have := StrLaws.subAt_one x 47 i
    rw [← slash_mk] at this
    exact this
  have h1 : (ch x)[u.length]? = some 47 := by rw [h]; simp
  have h2 : ∀ i, u.length < i → (ch x)[i]? ≠ some 47 := by
    intro i hi e
    rw [h, List.getElem?_append_right (by omega)] at e
    obtain ⟨j, rfl⟩ : ∃ j, i = u.length + 1 + j := ⟨i - u.length - 1, by omega⟩
    rw [show u.length + 1 + j - u.length = j + 1 by (clear hi; omega), List.getElem?_cons_succ] at e
    exact ht (List.mem_of_getElem? e)
  rcases PyProof.Rows.rfind_whole x "/" with ⟨_, hn⟩ | ⟨i, e, hi, hn⟩
  · exact absurd ((hat _).mpr h1) (hn _)
  · rw [e]
    have hi' := (hat i).mp hi
    congr 1
    rcases Nat.lt_trichotomy i u.length with q | q | q
    · exact absurd ((hat _).mpr h1) (hn _ q)
    · exact q
    · exact absurd hi' (h2 i q)
set_option tactic.hygienic true in
theorem mul_slash (k : Nat) : ch (Txt.mul "/" (k : Int)) = List.replicate k 47 := by
  have key : ∀ (m : Nat) (acc : Array Nat), ((List.replicate m (Str.ofString "/").cps).foldl (· ++ ·) acc).toList = acc.toList ++ List.replicate m 47 := by
    intro m
    induction m with
    | zero => intro acc; simp
    | succ m ih =>
      intro acc
      rw [List.replicate_succ, List.foldl_cons, ih, Array.toList_append, show (Str.ofString "/").cps.toList = [47] from ch_slash, List.replicate_succ]
      simp
  unfold Txt.mul
  split
  · have : k = 0 := by omega
    subst this; rfl
  · split
    · rename_i h1 h2
      rw [len_slash] at h2
      have : k = 1 := by simp at h2; (clear h1; omega)
      subst this; exact ch_slash
    · show ((List.replicate ((k : Int)).toNat (Str.ofString "/").cps).foldl (· ++ ·) #[]).toList = _
      rw [key]; simp
theorem tail_pth {u : List Str} {x : Str} (hx : Nm x) : tailOf (pth (u ++ [x])) = x := by
  apply ch_ext
  unfold tailOf
  rw [rfind_ch (pth_snoc u x) hx.2]
  have : ((seg u).length : Int) + 1 = (((seg u).length + 1 : Nat) : Int) := by omega
  rw [this, sl_drop, pth_snoc, show seg u ++ 47 :: ch x = (seg u ++ [47]) ++ ch x by simp]
  exact List.drop_left' (by simp)
theorem head_pth {u : List Str} {x : Str} (hx : Nm x) (hu : ∀ y ∈ u, Nm y) : headOf (pth (u ++ [x])) = pth u := by
  apply ch_ext
  unfold headOf
  rw [rfind_ch (pth_snoc u x) hx.2]
  have e1 : ((seg u).length : Int) + 1 = (((seg u).length + 1 : Nat) : Int) := by omega
  have e2 : ch (Txt.slice (pth (u ++ [x])) none (some (((seg u).length + 1 : Nat) : Int))) = seg u ++ [47] := by
    rw [sl_take, pth_snoc, show seg u ++ 47 :: ch x = (seg u ++ [47]) ++ ch x by simp]
    exact List.take_left' (by simp)
  rw [e1]
  simp only
  by_cases hn : u = []
  · subst hn
    rw [if_neg, e2, pth_nil]
    · rfl
    · rintro ⟨_, h⟩
      have e3 : (Txt.slice (pth ([] ++ [x])) none (some ((((seg []).length + 1 : Nat)) : Int))).length = 1 := by rw [ch_len, e2]; rfl
      rw [e3] at h
      rw [sq_ch.mpr] at h
      · cases h
      · rw [e2, mul_slash]; rfl
  · obtain ⟨l, c, e, hc⟩ := seg_end hn hu
    rw [if_pos]
    · rw [rstrip_ch, e2, pth_ch hn, e]
      rw [List.reverse_append, List.reverse_append]
      show (List.dropWhile _ (47 :: c :: l.reverse)).reverse = _
      have k1 : (Str.ofString "/").cps.contains 47 = true := by kernel_rfl
      have k2 : (Str.ofString "/").cps.contains c = false := by
        rw [slash_mk]; simp [hc]
      rw [List.dropWhile_cons_of_pos k1, List.dropWhile_cons_of_neg (by rw [k2]; simp)]
      simp
    · refine ⟨?_, sq_no fun h => ?_⟩
      · rw [ch_len, e2]; simp
      · have h2 := congrArg ch h
        rw [mul_slash, e2, e] at h2
        have h3 : c ∈ l ++ [c] ++ [47] := by simp
        rw [h2] at h3
        exact hc (List.eq_of_mem_replicate h3)
theorem sub_ch {x y : Str} {i : Nat} : Builtin.Str.subAt x y i = true ↔ ((ch x).drop i).take y.length = ch y := by
  rw [StrLaws.subAt_eq]
  exact beq_iff_eq
theorem jstep_pth {u : List Str} {x : Str} (hx : Nm x) (hu : ∀ y ∈ u, Nm y) : jstep (pth u) x = pth (u ++ [x]) := by
  have h1 : Txt.startswith x "/" = false := by
    cases q : Txt.startswith x "/" with
    | false => rfl
    | true =>
      unfold Txt.startswith at q
      have q2 := (Bool.and_eq_true _ _ ▸ q : _ ∧ _).2
      rw [sub_ch, List.drop_zero, len_slash, ch_slash] at q2
      exact absurd (List.mem_of_mem_take (by rw [q2]; simp : (47 : Nat) ∈ (ch x).take 1)) hx.2
  have h0 : (pth u).length ≠ 0 := by
    unfold pth; rw [strLen_append, len_slash]; omega
  unfold jstep
  rw [if_neg (by rw [h1]; simp [h0])]
  apply ch_ext
  by_cases hn : u = []
  · subst hn
    have : Txt.endswith (pth []) "/" = true := by kernel_rfl
    rw [if_pos this, ch_app, pth_nil, pth_snoc]; rfl
  · obtain ⟨l, c, e, hc⟩ := seg_end hn hu
    have h3 : Txt.endswith (pth u) "/" = false := by
      cases q : Txt.endswith (pth u) "/" with
      | false => rfl
      | true =>
        unfold Txt.endswith at q
        have q2 := (Bool.and_eq_true _ _ ▸ q : _ ∧ _).2
        rw [sub_ch, len_slash, ch_slash, pth_ch hn, ch_len, pth_ch hn, e] at q2
        rw [show (l ++ [c]).length - 1 = l.length by simp, List.drop_left] at q2
        simp at q2
        exact absurd q2 hc
    rw [if_neg (by rw [h3]; simp), ch_app, ch_app, ch_slash, pth_ch hn, pth_snoc]; rfl
theorem jfold_pth : ∀ {l u : List Str}, (∀ y ∈ l, Nm y) → (∀ y ∈ u, Nm y) → jfold (pth u) l = pth (u ++ l)
  | [], u, _, _ => by simp [jfold]
  | x :: l, u, hl, hu => by
    unfold jfold
    rw [jstep_pth (hl x List.mem_cons_self) hu, jfold_pth (fun y hy => hl y (List.mem_cons_of_mem _ hy))]
    · simp
    · intro y hy
      rcases List.mem_append.mp hy with h | h
      · exact hu y h
      · rw [List.mem_singleton.mp h]; exact hl x List.mem_cons_self
end

noncomputable section
open PySem
/-- the four names -/
noncomputable def n4 : List Str := ["a", "ab", "b", "ba"]
noncomputable def pieces6 : List Str := ["a", "b", "..", "ab", ".", "ba"]
noncomputable def nmB (x : Str) : Bool := !(ch x).isEmpty && !(ch x).elem 47 && Nat.ble (ch x).length 2
theorem nm_of {x : Str} (h : nmB x = true) : Nm x ∧ x.length ≤ 2 := by
  unfold nmB at h
  rw [Bool.and_eq_true, Bool.and_eq_true] at h
  obtain ⟨⟨h1, h2⟩, h3⟩ := h
  refine ⟨⟨?_, ?_⟩, Nat.le_of_ble_eq_true h3⟩
  · intro e; rw [e] at h1; simp at h1
  · simpa using h2
theorem all_of {l : List Str} {p : Str → Bool} (h : l.all p = true) : ∀ x ∈ l, p x = true := List.all_eq_true.mp h
theorem nm6 {x : Str} (h : x ∈ pieces6) : Nm x ∧ x.length ≤ 2 := nm_of (all_of (l := pieces6) (by kernel_rfl) x h)
theorem nm4 {x : Str} (h : x ∈ n4) : Nm x ∧ x.length ≤ 2 := nm_of (all_of (l := n4) (by kernel_rfl) x h)
theorem n4_ok {x : Str} (h : x ∈ n4) : PyData.strOk x = true := all_of (l := n4) (by kernel_rfl) x h
theorem cut_first {a b s t : List Nat} (h : a ++ s = b ++ t) (ha : 47 ∉ a) (hb : 47 ∉ b) (hs : s = [] ∨ ∃ r, s = 47 :: r) (ht : t = [] ∨ ∃ r, t = 47 :: r) : a = b ∧ s = t := by
  induction a generalizing b with
  | nil =>
    cases b with
    | nil => exact ⟨rfl, h⟩
    | cons d b =>
      simp only [List.nil_append, List.cons_append] at h
      rcases hs with rfl | ⟨r, rfl⟩
      · cases h
      · rw [List.cons.injEq] at h
        exact absurd (List.mem_cons.mpr (.inl h.1)) hb
  | cons c a ih =>
    cases b with
    | nil =>
      simp only [List.nil_append, List.cons_append] at h
      rcases ht with rfl | ⟨r, rfl⟩
      · cases h
      · rw [List.cons.injEq] at h
        exact absurd (List.mem_cons.mpr (.inl h.1.symm)) ha
    | cons d b =>
      simp only [List.cons_append, List.cons.injEq] at h
      obtain ⟨rfl, h⟩ := h
      obtain ⟨rfl, e⟩ := ih h (fun q => ha (List.mem_cons_of_mem _ q)) (fun q => hb (List.mem_cons_of_mem _ q))
      exact ⟨rfl, e⟩
theorem seg_open : ∀ w : List Str, seg w = [] ∨ ∃ r, seg w = 47 :: r
  | [] => .inl rfl
  | x :: w => .inr ⟨ch x ++ seg w, rfl⟩
theorem seg_inj : ∀ {v w : List Str}, (∀ x ∈ v, 47 ∉ ch x) → (∀ x ∈ w, 47 ∉ ch x) → seg v = seg w → v = w
  | [], [], _, _, _ => rfl
  | [], y :: w, _, _, h => by cases h
  | x :: v, [], _, _, h => by cases h
  | x :: v, y :: w, hv, hw, h => by
    have h1 : 47 :: (ch x ++ seg v) = 47 :: (ch y ++ seg w) := h
    rw [List.cons.injEq] at h1
    obtain ⟨e1, e2⟩ := cut_first h1.2 (hv x List.mem_cons_self) (hw y List.mem_cons_self) (seg_open v) (seg_open w)
    rw [ch_ext e1, seg_inj (fun z hz => hv z (List.mem_cons_of_mem _ hz)) (fun z hz => hw z (List.mem_cons_of_mem _ hz)) e2]
theorem split_join {l : List Str} (hn : l ≠ []) (h : ∀ x ∈ l, 47 ∉ ch x) : Txt.split (Txt.join "/" l) "/" = l := by
  have h1 : Str.join "/" (Txt.split (Txt.join "/" l) "/") = Str.join "/" l := by rw [StrLaws.join_split, txt_join]
  have h2 : Txt.split (Txt.join "/" l) "/" ≠ [] := by
    intro e
    have := PyProof.Rows.split_pos (Txt.join "/" l) "/"
    rw [e] at this; simp at this
  have h3 : ∀ p ∈ Txt.split (Txt.join "/" l) "/", 47 ∉ ch p := by
    rw [slash_mk]
    exact StrLaws.split_free _ 47
  refine seg_inj h3 h ?_
  rw [← join_seg _ h2, ← join_seg _ hn, h1]
theorem pth_inj {v w : List Str} (hv : ∀ x ∈ v, Nm x) (hw : ∀ x ∈ w, Nm x) (h : pth v = pth w) : v = w := by
  have h1 := congrArg ch h
  have key : ∀ u : List Str, u ≠ [] → (∀ x ∈ u, Nm x) → seg u ≠ [47] := by
    intro u hn hu e
    obtain ⟨l, c, e2, hc⟩ := seg_end hn hu
    rw [e] at e2
    cases l with
    | nil => simp at e2; exact hc e2.symm
    | cons a l => simp at e2
  by_cases e1 : v = []
  · by_cases e2 : w = []
    · rw [e1, e2]
    · rw [e1, pth_nil, pth_ch e2] at h1
      exact absurd h1.symm (key w e2 hw)
  · by_cases e2 : w = []
    · rw [e2, pth_nil, pth_ch e1] at h1
      exact absurd h1 (key v e1 hv)
    · rw [pth_ch e1, pth_ch e2] at h1
      exact seg_inj (fun x hx => (hv x hx).2) (fun x hx => (hw x hx).2) h1
/-- normpath's fold and the law's walk -/
theorem last_no {acc : List Str} (h : ∀ x ∈ acc, x ∈ n4) : lastDD acc = false := by
  unfold lastDD
  cases q : acc.getLast? with
  | none => rfl
  | some u =>
    have : u ∈ n4 := h u (List.mem_of_getLast? q)
    have := all_of (l := n4) (p := fun u => !sq u "..") (by kernel_rfl) u this
    simpa using this
theorem nstep_w {acc : List Str} {c : Str} (h : ∀ x ∈ acc, x ∈ n4) (hc : c ∈ pieces6) : nstep acc c = wstep acc c := by
  have h0 : ¬ c.length = 0 := by
    have := (nm6 hc).1.1
    intro e; exact this (List.eq_nil_of_length_eq_zero e)
  unfold nstep wstep
  cases q1 : sq c ".." with
  | true =>
    have : c = ".." := sq_eq q1
    subst this
    rw [if_neg (by rintro (e | e); exact h0 e; revert e; decide +kernel), if_neg (by rw [last_no h]; simp), if_pos rfl]
  | false =>
    rw [if_neg (by simp : ¬ (false = true))]
    cases q2 : sq c "." with
    | true => rw [if_pos (.inr rfl), if_pos rfl]
    | false => rw [if_neg (by simp [h0]), if_pos (by simp), if_neg (by simp)]
set_option tactic.hygienic true in
theorem wstep_n4 {acc : List Str} {c : Str} (h : ∀ x ∈ acc, x ∈ n4) (hc : c ∈ pieces6) : ∀ x ∈ wstep acc c, x ∈ n4 := by
  unfold wstep
  split
  · intro x hx; exact h x (List.dropLast_subset acc hx)
  · split
    · exact h
    · rename_i q1 q2
      intro x hx
      rcases List.mem_append.mp hx with e | e
      · exact h x e
      · rw [List.mem_singleton.mp e]
        have := all_of (l := pieces6) (p := fun c => sq c ".." || sq c "." || n4.any (sq c)) (by kernel_rfl) c hc
        simp only [Bool.or_eq_true] at this
        rcases this with (e | e) | e
        · exact absurd e q1
        · exact absurd e q2
        · obtain ⟨y, hy, e⟩ := List.any_eq_true.mp e
          rw [sq_eq e]; exact hy
theorem nfold_w : ∀ {l acc : List Str}, (∀ x ∈ acc, x ∈ n4) → (∀ c ∈ l, c ∈ pieces6) → nfold acc l = wfold acc l ∧ ∀ x ∈ wfold acc l, x ∈ n4
  | [], acc, h, _ => ⟨rfl, h⟩
  | c :: l, acc, h, hl => by
    have hc := hl c List.mem_cons_self
    unfold nfold wfold
    rw [nstep_w h hc]
    exact nfold_w (wstep_n4 h hc) fun d hd => hl d (List.mem_cons_of_mem _ hd)
theorem nfold_app : ∀ {l m acc : List Str}, nfold acc (l ++ m) = nfold (nfold acc l) m
  | [], _, _ => rfl
  | c :: l, m, acc => by
    show nfold (nstep acc c) (l ++ m) = _
    rw [nfold_app]; rfl
theorem wfold_len : ∀ {l acc : List Str}, (wfold acc l).length ≤ acc.length + l.length
  | [], _ => Nat.le_refl _
  | c :: l, acc => by
    unfold wfold
    have := wfold_len (l := l) (acc := wstep acc c)
    have h2 : (wstep acc c).length ≤ acc.length + 1 := by
      unfold wstep
      split
      · rw [List.length_dropLast]; (clear this; omega)
      · split
        · (clear this; omega)
        · simp
    rw [List.length_cons]
    omega
theorem root_cases (x : Int) : rootS x = pth (rootW x) ∧ nfold [] (rootW x) = rootW x ∧ (∀ y ∈ rootW x, y ∈ n4) ∧ (∀ y ∈ rootW x, y ∈ pieces6) ∧ (rootW x).length ≤ 2 := by
  have h := fmod_range (vOf x) 3 (by decide)
  have : (Int.fmod (vOf x) 3).toNat = 0 ∨ (Int.fmod (vOf x) 3).toNat = 1 ∨ (Int.fmod (vOf x) 3).toNat = 2 := by omega
  have m4 : ∀ {l : List Str}, (l.all fun y => n4.any (sq y)) = true → ∀ y ∈ l, y ∈ n4 := fun h y hy => by
    obtain ⟨z, hz, e⟩ := List.any_eq_true.mp (all_of h y hy)
    rw [sq_eq e]; exact hz
  have m6 : ∀ {l : List Str}, (l.all fun y => pieces6.any (sq y)) = true → ∀ y ∈ l, y ∈ pieces6 := fun h y hy => by
    obtain ⟨z, hz, e⟩ := List.any_eq_true.mp (all_of h y hy)
    rw [sq_eq e]; exact hz
  unfold rootS rootW
  rcases this with q | q | q <;> rw [q]
  · exact ⟨by kernel_rfl, by kernel_rfl, m4 (by kernel_rfl), m6 (by kernel_rfl), by decide⟩
  · exact ⟨by kernel_rfl, by kernel_rfl, m4 (by kernel_rfl), m6 (by kernel_rfl), by decide⟩
  · exact ⟨by kernel_rfl, by kernel_rfl, m4 (by kernel_rfl), m6 (by kernel_rfl), by decide⟩
theorem steps_in (x : Int) : ∀ c ∈ stepsOf x, c ∈ pieces6 := by
  have key : ∀ i : Int, 0 ≤ i ∧ i < 6 → nmS.getD i.toNat "" ∈ pieces6 := by
    intro i h
    have hl : i.toNat < nmS.length := by show i.toNat < 6; omega
    rw [List.getD_eq_getElem?_getD, List.getElem?_eq_getElem hl]
    exact List.getElem_mem hl
  intro c hc
  unfold stepsOf at hc
  simp only [List.mem_cons, List.mem_nil_iff, or_false] at hc
  rcases hc with rfl | rfl | rfl <;> exact key _ (fmod_range _ 6 (by decide))
theorem sum_le {l : List Str} (h : ∀ x ∈ l, x.length ≤ 2) : (l.map (·.length)).sum ≤ 2 * l.length := by
  induction l with
  | nil => simp
  | cons x l ih =>
    have h1 := h x List.mem_cons_self
    have h2 := ih fun y hy => h y (List.mem_cons_of_mem _ hy)
    rw [List.map_cons, List.sum_cons, List.length_cons]
    (clear ih; omega)
theorem join_len {l : List Str} (h : ∀ x ∈ l, x.length ≤ 2) : (Txt.join "/" l).length ≤ 3 * l.length := by
  have h1 := StrLaws.join_length_le "/" l
  rw [← txt_join, len_slash] at h1
  have h2 := sum_le h
  omega
theorem pth_len {l : List Str} (h : ∀ x ∈ l, x.length ≤ 2) : (pth l).length ≤ 1 + 3 * l.length := by
  unfold pth
  rw [strLen_append, len_slash]
  have := join_len h
  omega
theorem joinOk_of {l : List Str} (h : ∀ x ∈ l, x.length ≤ 2) (hl : l.length ≤ 100) : JoinOk "/" l = true := by
  unfold JoinOk
  rw [StrLaws.joinTotal, len_slash]
  have h2 := sum_le h
  have : ¬ (l.map (·.length)).sum + l.length * 1 > sizeLine := by rw [sizeLine_eq]; omega
  unfold Builtin.Str.tooLong
  simpa using this
theorem walk_ok (x : Int) : (∀ y ∈ walkOf x, y ∈ n4) ∧ (walkOf x).length ≤ 5 := by
  obtain ⟨h1, h2, h3, h4, h5⟩ := root_cases x
  refine ⟨(nfold_w h3 (steps_in x)).2, ?_⟩
  have := wfold_len (l := stepsOf x) (acc := rootW x)
  have h6 : (stepsOf x).length = 3 := rfl
  unfold walkOf
  omega
theorem path_of (x : Int) : jfold (rootS x) (stepsOf x) = pth (rootW x ++ stepsOf x) := by
  obtain ⟨h1, h2, h3, h4, h5⟩ := root_cases x
  rw [h1]
  exact jfold_pth (fun y hy => (nm6 (steps_in x y hy)).1) fun y hy => (nm6 (h4 y hy)).1
theorem slice_pth {l : List Str} : Txt.slice (pth l) (some 1) none = Txt.join "/" l := by
  apply ch_ext
  have : (1 : Int) = ((1 : Nat) : Int) := rfl
  rw [this, sl_drop]
  unfold pth
  rw [ch_app, ch_slash]; rfl
theorem parts_of (x : Int) : Txt.split (Txt.slice (jfold (rootS x) (stepsOf x)) (some 1) none) "/" = rootW x ++ stepsOf x := by
  obtain ⟨h1, h2, h3, h4, h5⟩ := root_cases x
  rw [path_of, slice_pth]
  refine split_join (fun e => ?_) fun y hy => ?_
  · have := (List.append_eq_nil_iff.mp e).2
    cases this
  · rcases List.mem_append.mp hy with h | h
    · exact (nm6 (h4 y h)).1.2
    · exact (nm6 (steps_in x y h)).1.2
theorem folded (x : Int) : nfold [] (rootW x ++ stepsOf x) = walkOf x := by
  obtain ⟨h1, h2, h3, h4, h5⟩ := root_cases x
  rw [nfold_app, h2]
  exact (nfold_w h3 (steps_in x)).1
theorem place_of (x : Int) : placeOf x = pth (walkOf x) := by
  unfold placeOf
  rw [parts_of, folded]; rfl
theorem all6 (x : Int) : ∀ y ∈ rootW x ++ stepsOf x, y ∈ pieces6 := by
  obtain ⟨h1, h2, h3, h4, h5⟩ := root_cases x
  intro y hy
  rcases List.mem_append.mp hy with h | h
  · exact h4 y h
  · exact steps_in x y h
theorem len5 (x : Int) : (rootW x ++ stepsOf x).length ≤ 5 := by
  obtain ⟨h1, h2, h3, h4, h5⟩ := root_cases x
  have h6 : (stepsOf x).length = 3 := rfl
  rw [List.length_append]; omega
theorem np_ok (x : Int) : NpOk (jfold (rootS x) (stepsOf x)) := by
  have hc : cap = 100000 := rfl
  have hw := walk_ok x
  have hw2 : ∀ y ∈ walkOf x, y.length ≤ 2 := fun y hy => (nm4 (hw.1 y hy)).2
  have h2 : ∀ y ∈ rootW x ++ stepsOf x, y.length ≤ 2 := fun y hy => (nm6 (all6 x y hy)).2
  have hl := len5 x
  have hne : rootW x ++ stepsOf x ≠ [] := fun e => by cases (List.append_eq_nil_iff.mp e).2
  have hp := pth_len h2
  refine ⟨?_, ?_, ?_, ?_, ?_, ?_, ?_, ?_⟩
  · rw [path_of]; (clear hw; omega)
  · rw [path_of]; unfold pth; rw [strLen_append, len_slash]; (clear hp hl hw hc; omega)
  · rw [path_of, sq_ch]
    have : (1 : Int) = ((1 : Nat) : Int) := rfl
    rw [this, sl_take]
    unfold pth
    rw [ch_app, ch_slash]; rfl
  · rw [path_of]
    apply sq_no
    intro e
    have e2 := congrArg ch e
    rw [show (1 : Int) = ((1 : Nat) : Int) from rfl, show (2 : Int) = ((2 : Nat) : Int) from rfl, sl_mid] at e2
    rw [pth_ch hne] at e2
    obtain ⟨a, r, e3⟩ : ∃ a r, rootW x ++ stepsOf x = a :: r := by
      cases q : rootW x ++ stepsOf x with
      | nil => exact absurd q hne
      | cons a r => exact ⟨a, r, rfl⟩
    have ha := (nm6 (all6 x a (by rw [e3]; simp))).1
    rw [e3, ch_slash] at e2
    have e4 : ((47 :: (ch a ++ seg r)).drop 1).take (2 - 1) = [47] := e2
    cases q : ch a with
    | nil => exact ha.1 q
    | cons c t =>
      rw [q] at e4
      simp at e4
      exact ha.2 (by rw [q, e4]; simp)
  · rw [parts_of]
    exact List.all_eq_true.mpr fun y hy => decide_eq_true (by have := h2 y hy; (clear hp hl hw; omega))
  · rw [parts_of]; (clear hp hw hc; omega)
  · rw [parts_of, folded]; exact joinOk_of hw2 (by (clear hp hl hc; omega))
  · rw [parts_of, folded, len_slash]
    have := join_len hw2
    (clear hp hl; omega)
theorem jlen_le : ∀ {l : List Str}, (∀ y ∈ l, y.length ≤ 2) → jlen l ≤ 3 * l.length
  | [], _ => Nat.le_refl _
  | x :: l, h => by
    have := h x List.mem_cons_self
    have := jlen_le fun y hy => h y (List.mem_cons_of_mem _ hy)
    unfold jlen
    rw [List.length_cons]
    omega
theorem c_places2 {n : Nat} {σ : Sto} {l : List Int} (hl : l.length ≤ 100) :
    CD ((n + 50)) 239 [.list (l.map .int)] σ (.tup [.list ((l.map walkOf).map fun w => .str (pth w)), .list ((l.map walkOf).map fun w => .list (w.map .str))]) := by
  have h := c_places (n := n) (σ := σ) hl (fun x _ => np_ok x) fun x _ => by
    obtain ⟨h1, h2, h3, h4, h5⟩ := root_cases x
    have hc : cap = 100000 := rfl
    have := pth_len (l := rootW x) fun y hy => (nm6 (h4 y hy)).2
    have h6 := jlen_le (l := stepsOf x) fun y hy => (nm6 (steps_in x y hy)).2
    have h7 : (stepsOf x).length = 3 := rfl
    rw [h1]; (clear hl; omega)
  have e1 : (l.map fun x => AV.str (placeOf x)) = (l.map walkOf).map fun w => AV.str (pth w) := by
    rw [List.map_map]
    apply List.map_congr_left
    intro x _
    show AV.str (placeOf x) = AV.str (pth (walkOf x))
    rw [place_of]
  have e2 : (l.map fun x => AV.list ((walkOf x).map .str)) = (l.map walkOf).map fun w => AV.list (w.map .str) := by
    rw [List.map_map]; rfl
  rw [e1, e2] at h
  exact h
end

noncomputable section
open PySem
noncomputable def pB (b0 b1 b2 b3 : Bool) (y : Str) : Bool := if sq y "a" then b0 else if sq y "ab" then b1 else if sq y "b" then b2 else b3
noncomputable def eqS : List Str → List Str → Bool
  | [], [] => true
  | x :: l, y :: m => sq x y && eqS l m
  | _, _ => false
theorem eqS_eq : ∀ {l m : List Str}, eqS l m = true → l = m
  | [], [], _ => rfl
  | [], _ :: _, h => nomatch h
  | _ :: _, [], h => nomatch h
  | x :: l, y :: m, h => by
    have h := Bool.and_eq_true_iff.mp (show (sq x y && eqS l m) = true from h)
    rw [sq_eq h.1, eqS_eq h.2]
noncomputable def insOk (P : Str → Bool) (x : Str) : Bool := P x || eqS (insAt (n4.filter P) (cnt ((n4.filter P).map fun y => ltS y x)).toNat x) (n4.filter fun y => P y || sq y x)
theorem ins_all : ([true, false].all fun b0 => [true, false].all fun b1 => [true, false].all fun b2 => [true, false].all fun b3 => n4.all (insOk (pB b0 b1 b2 b3))) = true := by kernel_rfl
theorem pB_eq (P : Str → Bool) : ∀ y ∈ n4, P y = pB (P "a") (P "ab") (P "b") (P "ba") y := by
  intro y hy
  unfold n4 at hy
  simp only [List.mem_cons, List.mem_nil_iff, or_false] at hy
  rcases hy with rfl | rfl | rfl | rfl <;> rfl
/-- a name goes to its place in a row of names in order -/
theorem ins_n4 (P : Str → Bool) {x : Str} (hx : x ∈ n4) (hp : P x = false) : insAt (n4.filter P) (cnt ((n4.filter P).map fun y => ltS y x)).toNat x = n4.filter fun y => P y || sq y x := by
  have hb : ∀ b : Bool, b ∈ [true, false] := fun b => by cases b <;> simp
  have h := List.all_eq_true.mp (List.all_eq_true.mp (List.all_eq_true.mp (List.all_eq_true.mp (List.all_eq_true.mp ins_all (P "a") (hb _)) (P "ab") (hb _)) (P "b") (hb _)) (P "ba") (hb _)) x hx
  have e1 : n4.filter P = n4.filter (pB (P "a") (P "ab") (P "b") (P "ba")) := List.filter_congr (pB_eq P)
  have e2 : (n4.filter fun y => P y || sq y x) = n4.filter fun y => pB (P "a") (P "ab") (P "b") (P "ba") y || sq y x := List.filter_congr fun y hy => by rw [← pB_eq P y hy]
  rw [e1, e2]
  unfold insOk at h
  rw [← pB_eq P x hx, hp, Bool.false_or] at h
  exact eqS_eq h
theorem cnt_range : ∀ l : List Bool, 0 ≤ cnt l ∧ cnt l ≤ l.length
  | [] => ⟨Int.le_refl _, Int.le_refl _⟩
  | b :: l => by
    have := cnt_range l
    have e : cnt (b :: l) = (if b then 1 else 0) + cnt l := rfl
    rw [e, List.length_cons]
    cases b <;> simp <;> (clear e; omega)
theorem filt_len (P : Str → Bool) : (n4.filter P).length ≤ 4 := List.length_filter_le P n4
theorem mem_filt {P : Str → Bool} {x : Str} (hx : x ∈ n4) : memS x (n4.filter P) = P x := by
  cases q : P x with
  | true => exact memS_iff.mpr (List.mem_filter.mpr ⟨hx, q⟩)
  | false =>
    cases q2 : memS x (n4.filter P) with
    | false => rfl
    | true => rw [(List.mem_filter.mp (memS_iff.mp q2)).2] at q; cases q
/-- the book's pages -/
noncomputable abbrev Page := List Str × Nat
noncomputable def kvOf (es : List Page) : List (Str × AV) := es.map fun e => (pth e.1, AV.own e.2)
theorem look_hit : ∀ {es : List Page} {u : List Str} {k : Nat}, (∀ e ∈ es, ∀ y ∈ e.1, Nm y) → (es.map Prod.fst).Nodup → (u, k) ∈ es → look (pth u) (kvOf es) = some (.own k)
  | [], _, _, _, _, h => by cases h
  | e :: es, u, k, hn, hd, h => by
    rw [List.map_cons, List.nodup_cons] at hd
    show (match sq (pth e.1) (pth u) with | true => some (AV.own e.2) | false => look (pth u) (kvOf es)) = _
    rcases List.mem_cons.mp h with q | q
    · rw [← q, sq_refl]
    · have : e.1 ≠ u := fun e1 => hd.1 (by rw [e1]; exact List.mem_map.mpr ⟨(u, k), q, rfl⟩)
      rw [sq_no fun e2 => this (pth_inj (hn e List.mem_cons_self) (hn _ (List.mem_cons_of_mem _ q)) e2)]
      exact look_hit (fun e he => hn e (List.mem_cons_of_mem _ he)) hd.2 q
theorem look_miss {β : Type} {u : List Str} (hu : ∀ y ∈ u, Nm y) (f : Page → β) : ∀ {es : List Page}, (∀ e ∈ es, ∀ y ∈ e.1, Nm y) → u ∉ es.map Prod.fst → look (pth u) (es.map fun (e : Page) => (pth e.1, f e)) = none
  | [], _, _ => rfl
  | e :: es, hn, h => by
    rw [List.map_cons] at h
    have h1 : e.1 ≠ u := fun q => h (by rw [q]; exact List.mem_cons_self)
    show (match sq (pth e.1) (pth u) with | true => _ | false => look (pth u) (es.map fun (e : Page) => (pth e.1, f e))) = _
    rw [sq_no fun e2 => h1 (pth_inj (hn e List.mem_cons_self) hu e2)]
    exact look_miss hu f (fun e he => hn e (List.mem_cons_of_mem _ he)) fun q => h (List.mem_cons_of_mem _ q)
theorem look_tree {β : Type} {u : List Str} (f : List Str → β) : ∀ {es : List Page}, (∀ e ∈ es, ∀ y ∈ e.1, Nm y) → u ∈ es.map Prod.fst → look (pth u) (es.map fun (e : Page) => (pth e.1, f e.1)) = some (f u)
  | [], _, h => by cases h
  | e :: es, hn, h => by
    show (match sq (pth e.1) (pth u) with | true => some (f e.1) | false => look (pth u) (es.map fun (e : Page) => (pth e.1, f e.1))) = _
    obtain ⟨p, hp, rfl⟩ := List.mem_map.mp h
    by_cases q : e.1 = p.1
    · rw [q, sq_refl]
    · rw [sq_no fun e2 => q (pth_inj (hn e List.mem_cons_self) (hn p hp) e2)]
      refine look_tree f (fun e he => hn e (List.mem_cons_of_mem _ he)) ?_
      rcases List.mem_cons.mp hp with r | r
      · rw [r] at q; exact absurd rfl q
      · exact List.mem_map.mpr ⟨p, r, rfl⟩
/-- the store of a def that writes a book -/
structure BookS (base s : Sto) (es : List Page) (R : List Str → List Str) : Prop where
  low : ∀ j, j < base.length → s[j]? = base[j]?
  bk : s[base.length]? = some (AO.dict (kvOf es))
  rows : ∀ e ∈ es, s[e.2]? = some (AO.list ((R e.1).map .str))
  above : ∀ e ∈ es, base.length < e.2
  keys : (es.map Prod.fst).Nodup
  adr : (es.map Prod.snd).Nodup
  nms : ∀ e ∈ es, ∀ y ∈ e.1, y ∈ n4
theorem BookS.lt {base s : Sto} {es : List Page} {R : List Str → List Str} (B : BookS base s es R) {e : Page} (h : e ∈ es) : e.2 < s.length := (List.getElem?_eq_some_iff.mp (B.rows e h)).1
theorem BookS.nm {base s : Sto} {es : List Page} {R : List Str → List Str} (B : BookS base s es R) : ∀ e ∈ es, ∀ y ∈ e.1, Nm y := fun e h y hy => (nm4 (B.nms e h y hy)).1
theorem low_lists {base s : Sto} {v : AV} {xs : List AV} (h : lists base v = some xs) (hl : ∀ j, j < base.length → s[j]? = base[j]?) : lists s v = some xs := by
  unfold lists at h ⊢
  cases v with
  | own k =>
    simp only at h ⊢
    cases q : base[k]? with
    | none => rw [q] at h; cases h
    | some ao =>
      rw [hl k (List.getElem?_eq_some_iff.mp q).1, q]
      rw [q] at h; exact h
  | _ => exact h
/-- setdefault where the page is there -/
theorem BookS.push {base s : Sto} {es : List Page} {R : List Str → List Str} (B : BookS base s es R) (o : AO) : BookS base (s ++ [o]) es R where
  low := fun j hj => by
    have h0 := (List.getElem?_eq_some_iff.mp B.bk).1
    rw [List.getElem?_append_left (by omega)]; exact B.low j hj
  bk := sto_app B.bk
  rows := fun e h => sto_app (B.rows e h)
  above := B.above
  keys := B.keys
  adr := B.adr
  nms := B.nms
theorem BookS.page {base s : Sto} {es : List Page} {R : List Str → List Str} (B : BookS base s es R) {u : List Str} (hu : u ∉ es.map Prod.fst) (hn : ∀ y ∈ u, y ∈ n4) (hR : R u = []) :
    BookS base ((s ++ [AO.list []]).set base.length (AO.dict (kvOf es ++ [(pth u, .own s.length)]))) (es ++ [(u, s.length)]) R where
  low := fun j hj => by
    have h0 := (List.getElem?_eq_some_iff.mp B.bk).1
    rw [List.getElem?_set_ne (by (clear h0; omega)), List.getElem?_append_left (by omega)]; exact B.low j hj
  bk := by
    have h0 := (List.getElem?_eq_some_iff.mp B.bk).1
    rw [List.getElem?_set_self (by rw [List.length_append]; omega)]
    unfold kvOf
    rw [List.map_append]; rfl
  rows := fun e h => by
    have h0 := (List.getElem?_eq_some_iff.mp B.bk).1
    rcases List.mem_append.mp h with h | h
    · have := B.above e h
      rw [List.getElem?_set_ne (by (clear h0; omega))]; exact sto_app (B.rows e h)
    · rw [List.mem_singleton.mp h, List.getElem?_set_ne (by simp only; omega), hR]
      exact sto_new
  above := fun e h => by
    have h0 := (List.getElem?_eq_some_iff.mp B.bk).1
    rcases List.mem_append.mp h with h | h
    · exact B.above e h
    · rw [List.mem_singleton.mp h]; exact h0
  keys := by
    rw [List.map_append, List.nodup_append]
    exact ⟨B.keys, by simp, fun a ha b hb => by simp at hb; rw [hb]; intro e; exact hu (e ▸ ha)⟩
  adr := by
    rw [List.map_append, List.nodup_append]
    refine ⟨B.adr, by simp, fun a ha b hb => ?_⟩
    obtain ⟨e, he, rfl⟩ := List.mem_map.mp ha
    have := B.lt he
    simp at hb
    omega
  nms := fun e h => by
    rcases List.mem_append.mp h with h | h
    · exact B.nms e h
    · rw [List.mem_singleton.mp h]; exact hn
theorem BookS.write {base s : Sto} {es : List Page} {R R' : List Str → List Str} (B : BookS base s es R) {u : List Str} {k : Nat} (hu : (u, k) ∈ es) (hR : ∀ v, v ≠ u → R' v = R v) :
    BookS base (s.set k (AO.list ((R' u).map .str))) es R' where
  low := fun j hj => by
    have := B.above _ hu
    rw [List.getElem?_set_ne (by simp only at this; omega)]; exact B.low j hj
  bk := by
    have := B.above _ hu
    rw [List.getElem?_set_ne (by simp only at this; omega)]; exact B.bk
  rows := fun e h => by
    have hk := B.lt hu
    by_cases q : e.2 = k
    · have : e = (u, k) := by
        have key : ∀ {l : List Page} {a b : Page}, (l.map Prod.snd).Nodup → a ∈ l → b ∈ l → a.2 = b.2 → a = b := by
          intro l
          induction l with
          | nil => intro a b _ h; cases h
          | cons c l ih =>
            intro a b hd ha hb e
            rw [List.map_cons, List.nodup_cons] at hd
            rcases List.mem_cons.mp ha with rfl | ha2 <;> rcases List.mem_cons.mp hb with rfl | hb2
            · rfl
            · exact absurd (List.mem_map.mpr ⟨b, hb2, e.symm⟩) hd.1
            · exact absurd (List.mem_map.mpr ⟨a, ha2, e⟩) hd.1
            · exact ih hd.2 ha2 hb2 e
        exact key B.adr h hu q
      rw [this]
      exact List.getElem?_set_self hk
    · rw [List.getElem?_set_ne (by (clear hk; omega)), B.rows e h]
      have : e.1 ≠ u := fun e1 => by
        have key : ∀ {l : List Page} {a b : Page}, (l.map Prod.fst).Nodup → a ∈ l → b ∈ l → a.1 = b.1 → a = b := by
          intro l
          induction l with
          | nil => intro a b _ h; cases h
          | cons c l ih =>
            intro a b hd ha hb e
            rw [List.map_cons, List.nodup_cons] at hd
            rcases List.mem_cons.mp ha with rfl | ha2 <;> rcases List.mem_cons.mp hb with rfl | hb2
            · rfl
            · exact absurd (List.mem_map.mpr ⟨b, hb2, e.symm⟩) hd.1
            · exact absurd (List.mem_map.mpr ⟨a, ha2, e⟩) hd.1
            · exact ih hd.2 ha2 hb2 e
        exact q (by rw [key B.keys h hu e1])
      rw [hR _ this]
  above := B.above
  keys := B.keys
  adr := B.adr
  nms := B.nms
theorem BookS.same {base s : Sto} {es : List Page} {R R' : List Str → List Str} (B : BookS base s es R) (hR : ∀ v, R' v = R v) : BookS base s es R' where
  low := B.low
  bk := B.bk
  rows := fun e h => by rw [hR]; exact B.rows e h
  above := B.above
  keys := B.keys
  adr := B.adr
  nms := B.nms
end

noncomputable section
open PySem
open Classical in
/-- the names that stand in a folder, without the hidden -/
noncomputable def rowP (hid : List Str) (p : List Str → Str → Prop) (u : List Str) : List Str := n4.filter fun y => !memS y hid && decide (p u y)
theorem rowP_eq {hid : List Str} {p q : List Str → Str → Prop} {u : List Str} (h : ∀ y, y ∈ n4 → (p u y ↔ q u y)) : rowP hid p u = rowP hid q u := by
  unfold rowP
  apply List.filter_congr
  intro y hy
  congr 1
  exact decide_eq_decide.mpr (h y hy)
noncomputable def belowW (ws : List (List Str)) (u : List Str) (y : Str) : Prop := ∃ w ∈ ws, (u ++ [y]) <+: w
noncomputable def partW (ws : List (List Str)) (w v : List Str) (u : List Str) (y : Str) : Prop := belowW ws u y ∨ ((u ++ [y]) <+: w ∧ v.length ≤ u.length)
theorem part_first {ws : List (List Str)} {w u : List Str} {y : Str} : partW ws w w u y ↔ belowW ws u y := by
  unfold partW
  constructor
  · rintro (h | ⟨h, h2⟩)
    · exact h
    · have := h.length_le
      rw [List.length_append, List.length_singleton] at this
      omega
  · exact .inl
theorem part_last {ws : List (List Str)} {w u : List Str} {y : Str} : partW ws w [] u y ↔ belowW (ws ++ [w]) u y := by
  unfold partW belowW
  constructor
  · rintro (⟨w', h, h2⟩ | ⟨h, _⟩)
    · exact ⟨w', by simp [h], h2⟩
    · exact ⟨w, by simp, h⟩
  · rintro ⟨w', h, h2⟩
    rcases List.mem_append.mp h with h | h
    · exact .inl ⟨w', h, h2⟩
    · rw [List.mem_singleton.mp h] at h2
      exact .inr ⟨h2, by simp⟩
theorem part_step {ws : List (List Str)} {w v u : List Str} {x y : Str} (h : (v ++ [x]) <+: w) : partW ws w v u y ↔ partW ws w (v ++ [x]) u y ∨ (u = v ∧ y = x) := by
  unfold partW
  rw [List.length_append, List.length_singleton]
  constructor
  · rintro (h1 | ⟨h1, h2⟩)
    · exact .inl (.inl h1)
    · by_cases q : v.length + 1 ≤ u.length
      · exact .inl (.inr ⟨h1, q⟩)
      · right
        have e : u ++ [y] = v ++ [x] := by
          obtain ⟨a, ha⟩ := h1
          obtain ⟨b, hb⟩ := h
          have e1 := List.append_inj (ha.trans hb.symm) (by simp; omega)
          exact e1.1
        have e2 := List.append_inj e (by omega)
        exact ⟨e2.1, by simpa using e2.2⟩
  · rintro ((h1 | ⟨h1, h2⟩) | ⟨rfl, rfl⟩)
    · exact .inl h1
    · exact .inr ⟨h1, by omega⟩
    · exact .inr ⟨h, Nat.le_refl _⟩
/-- a page more -/
noncomputable def addK (K : List (List Str)) (u : List Str) : List (List Str) := open Classical in if u ∈ K then K else K ++ [u]
/-- the folders above a walk, the deepest first -/
noncomputable def remW (w : List Str) : List (List Str) := (List.range w.length).reverse.map fun k => w.take k
theorem remW_snoc (u : List Str) (x : Str) : remW (u ++ [x]) = u :: remW u := by
  unfold remW
  rw [List.length_append, List.length_singleton, List.range_succ, List.reverse_append, List.reverse_singleton, List.singleton_append, List.map_cons, List.take_left]
  congr 1
  apply List.map_congr_left
  intro k hk
  rw [List.mem_reverse, List.mem_range] at hk
  exact List.take_append_of_le_length (Nat.le_of_lt hk)
noncomputable def pg1 (K : List (List Str)) (w : List Str) : List (List Str) := (remW w).foldl addK K
/-- the pages of a book -/
noncomputable def pages (W : List (List Str)) : List (List Str) := W.foldl pg1 []
set_option tactic.hygienic true in
theorem mem_addK {K : List (List Str)} {u v : List Str} : v ∈ addK K u ↔ v ∈ K ∨ v = u := by
  unfold addK
  split
  · rename_i h
    exact ⟨.inl, fun q => q.elim id fun e => e ▸ h⟩
  · rw [List.mem_append, List.mem_singleton]
theorem mem_fold : ∀ (l K : List (List Str)) (v : List Str), v ∈ l.foldl addK K ↔ v ∈ K ∨ v ∈ l
  | [], K, v => by rw [List.foldl_nil]; exact ⟨.inl, fun q => q.elim id fun h => nomatch h⟩
  | u :: l, K, v => by rw [List.foldl_cons, mem_fold l, mem_addK, List.mem_cons, or_assoc]
theorem mem_remW {u w : List Str} : u ∈ remW w ↔ ∃ y, (u ++ [y]) <+: w := by
  unfold remW
  rw [List.mem_map]
  constructor
  · rintro ⟨k, hk, rfl⟩
    rw [List.mem_reverse, List.mem_range] at hk
    exact ⟨w[k], by rw [List.take_append_getElem hk]; exact List.take_prefix _ _⟩
  · rintro ⟨y, h⟩
    have hl := h.length_le
    rw [List.length_append, List.length_singleton] at hl
    refine ⟨u.length, by rw [List.mem_reverse, List.mem_range]; exact hl, ?_⟩
    exact (List.prefix_iff_eq_take.mp ((List.prefix_append u [y]).trans h)).symm
theorem mem_pg : ∀ (W K : List (List Str)) (u : List Str), u ∈ W.foldl pg1 K ↔ u ∈ K ∨ ∃ y, belowW W u y
  | [], K, u => by
    rw [List.foldl_nil]
    exact ⟨.inl, fun q => q.elim id fun ⟨_, w, h, _⟩ => nomatch h⟩
  | w :: W, K, u => by
    rw [List.foldl_cons, mem_pg W]
    unfold pg1
    rw [mem_fold, mem_remW]
    constructor
    · rintro ((h | ⟨y, h⟩) | ⟨y, w', h, h2⟩)
      · exact .inl h
      · exact .inr ⟨y, w, List.mem_cons_self, h⟩
      · exact .inr ⟨y, w', List.mem_cons_of_mem _ h, h2⟩
    · rintro (h | ⟨y, w', h, h2⟩)
      · exact .inl (.inl h)
      · rcases List.mem_cons.mp h with q | q
        · exact .inl (.inr ⟨y, q ▸ h2⟩)
        · exact .inr ⟨y, w', q, h2⟩
theorem mem_pages {W : List (List Str)} {u : List Str} : u ∈ pages W ↔ ∃ y, belowW W u y := by
  unfold pages
  rw [mem_pg]
  exact ⟨fun q => q.elim (fun h => nomatch h) id, .inr⟩
theorem setd_ok {base s : Sto} {es : List Page} {hid : List Str} {p : List Str → Str → Prop} {u : List Str} (B : BookS base s es (rowP hid p)) (hk : ∀ u y, p u y → u ∈ es.map Prod.fst) (hu : ∀ y ∈ u, y ∈ n4) (hl : es.length < 1000) :
    ∃ s1 es1 k, ME .dict (.own base.length) .setdefault [.str (pth u), .own s.length] (s ++ [.list []]) (.own k) s1 ∧ BookS base s1 es1 (rowP hid p) ∧ (u, k) ∈ es1 ∧ es1.length ≤ es.length + 1 ∧ (∀ v, v ∈ es.map Prod.fst → v ∈ es1.map Prod.fst) ∧ es1.map Prod.fst = addK (es.map Prod.fst) u := by
  have B1 := B.push (.list [])
  have hc : cap = 100000 := rfl
  have hl2 : (kvOf es).length < cap := by unfold kvOf; rw [List.length_map]; omega
  by_cases h : u ∈ es.map Prod.fst
  · have hadd : addK (es.map Prod.fst) u = es.map Prod.fst := if_pos h
    obtain ⟨⟨u', k⟩, he, rfl⟩ := List.mem_map.mp h
    have hh := look_hit B.nm B.keys he
    exact ⟨s ++ [.list []], es, k, m_setd B1.bk hl2 (fun v hv => ⟨Option.some.inj (hv.symm.trans hh), rfl⟩) (fun hn => nomatch hn.symm.trans hh), B1, he, Nat.le_succ _, fun _ h => h, hadd.symm⟩
  · have hR : rowP hid p u = [] := by
      unfold rowP
      rw [List.filter_eq_nil_iff]
      intro y _ q
      simp only [Bool.and_eq_true, decide_eq_true_eq] at q
      exact h (hk u y q.2)
    have hm : look (pth u) (kvOf es) = none := look_miss (fun y hy => (nm4 (hu y hy)).1) (fun e => AV.own e.2) B.nm h
    refine ⟨_, es ++ [(u, s.length)], s.length, m_setd B1.bk hl2 (fun v hv => nomatch hm.symm.trans hv) (fun _ => ⟨rfl, rfl⟩), B.page h hu hR, by simp, by simp, fun v hv => by rw [List.map_append]; exact List.mem_append_left _ hv, ?_⟩
    rw [List.map_append]
    exact (if_neg h).symm
theorem fm_map {α : Type} {g h : α → AV} {f : AV → Option AV} : ∀ (l : List α), (∀ a ∈ l, f (g a) = some (h a)) → (l.map g).filterMap f = l.map h
  | [], _ => rfl
  | a :: l, H => by
    rw [List.map_cons, List.filterMap_cons, H a List.mem_cons_self, fm_map l fun b hb => H b (List.mem_cons_of_mem _ hb)]; rfl
noncomputable def ltF (x : Str) (v : AV) : Option AV := match v with
  | .str y => some (.bool (ltS y x))
  | _ => none
theorem relA_back {s : Sto} {k : Nat} {o : AO} (h : s[k]? = some o) : relA (s.set k .busy) (some (k, o)) = s := by
  show (s.set k .busy).set k o = s
  rw [List.set_set]
  obtain ⟨hl, he⟩ := List.getElem?_eq_some_iff.mp h
  rw [← he]
  exact List.set_getElem_self hl
theorem ins_map {α β : Type} (f : α → β) (l : List α) (i : Nat) (x : α) : insAt (l.map f) i (f x) = (insAt l i x).map f := by
  unfold insAt
  rw [List.map_append, List.map_cons, List.map_take, List.map_drop]
theorem fz_book {base s : Sto} {es : List Page} {R : List Str → List Str} (B : BookS base s es R) : freeze s base.length 5 (.own base.length) = some (.dict (es.map fun e => (pth e.1, .list ((R e.1).map .str)))) := by
  show (if base.length < base.length then _ else _) = _
  rw [if_neg (Nat.lt_irrefl _), B.bk]
  show (freezeD (freeze s base.length 4) (kvOf es)).map AV.dict = _
  have key : ∀ l : List Page, (∀ e ∈ l, e ∈ es) → freezeD (freeze s base.length 4) (kvOf l) = some (l.map fun e => (pth e.1, AV.list ((R e.1).map .str))) := by
    intro l
    induction l with
    | nil => intro _; rfl
    | cons e l ih =>
      intro h
      have he := h e List.mem_cons_self
      have h1 : freeze s base.length 4 (.own e.2) = some (.list ((R e.1).map .str)) := by
        refine fz_own (Nat.le_of_lt (B.above e he)) (B.rows e he) ?_
        exact fzL_map fun a _ => rfl
      show (match freeze s base.length 4 (.own e.2), freezeD (freeze s base.length 4) (kvOf l) with
        | some v', some r' => some ((pth e.1, v') :: r')
        | _, _ => none) = _
      rw [h1, ih fun e he => h e (List.mem_cons_of_mem _ he)]
      rfl
  rw [key es fun _ h => h]
  rfl
end

noncomputable section
open PySem
section
variable {n : Nat} {σ : Sto}
theorem fn_book : fnAt 244 = some (dAt 36) := by kernel_rfl
/-- the frame of _law_book -/
structure BkE (E : AE) (hv : AV) (b : Nat) : Prop where
  sc : E.sc = (dAt 36).scope.names
  hid : E.get "hidden" = some hv
  book : E.get "book" = some (.own b)
inductive BkO (W : List (List Str)) (hv : AV) (hid : List Str) (base : Sto) (xs : List AV) (E : AE) (s : Sto) : Prop where
  | mk (dw rest : List (List Str)) (es : List Page) : W = dw ++ rest → xs = rest.map (fun w => AV.str (pth w)) → BkE E hv base.length → BookS base s es (rowP hid (belowW dw)) → (∀ u y, belowW dw u y → u ∈ es.map Prod.fst) → es.length ≤ 5 * dw.length → rest.foldl pg1 (es.map Prod.fst) = pages W → BkO W hv hid base xs E s
inductive BkI (dw : List (List Str)) (w : List Str) (hv : AV) (hid : List Str) (T : List (List Str)) (base : Sto) (m : Nat) (E : AE) (s : Sto) : Prop where
  | mk (v : List Str) (es : List Page) : v <+: w → v.length ≤ m → BkE E hv base.length → E.get "here" = some (.str (pth v)) → BookS base s es (rowP hid (partW dw w v)) → (∀ u y, partW dw w v u y → u ∈ es.map Prod.fst) → es.length + v.length ≤ 5 * dw.length + 5 → (remW v).foldl addK (es.map Prod.fst) = T → BkI dw w hv hid T base m E s
theorem c_book {W : List (List Str)} {hv : AV} {hid : List Str} (hW : ∀ w ∈ W, (∀ y ∈ w, y ∈ n4) ∧ w.length ≤ 5) (hl : W.length ≤ 100) (hh : lists σ hv = some (hid.map .str)) (hs : ∀ y ∈ hid, y ∈ n4) :
    CD ((n + 70)) 244 [.list (W.map fun w => .str (pth w)), hv] σ (AV.dict ((pages W).map fun u => (pth u, AV.list ((rowP hid (belowW W) u).map .str)))) := by
  classical
  have hc : cap = 100000 := rfl
  have hbl : (σ.map AO.lock).length = σ.length := List.length_map ..
  have hhl : lists (σ.map AO.lock) hv = some (hid.map .str) := lock_lists hh
  have hhok : ∀ y ∈ hid, PyData.strOk y = true := fun y hy => n4_ok (hs y hy)
  refine callD_intro (E := ?ze) rfl rfl fn_book ?_ ?_
  rotate_left
  · show bindP _ (_ :: _) _ _ = _
    walk_at "P.bind"
  · have hbl' := hbl.symm
    walk_at "P.as"
    refine wp_for (v := .list (W.map fun w => .str (pth w))) (σ1 := σ.map AO.lock ++ [AO.dict []]) (σ2 := σ.map AO.lock ++ [AO.dict []]) (xs := W.map fun w => .str (pth w)) (taken := none) ?zp ?z1 ?z2 (BkO W hv hid (σ.map AO.lock)) ?z3 ?zturn ?z4
    case zp => exact rfl
    case z1 => walk_at "P.ev"
    case z2 => exact src_list
    case z3 =>
      refine ⟨[], W, [], rfl, rfl, ⟨?_, ?_, ?_⟩, ⟨?_, ?_, ?_, ?_, ?_, ?_, ?_⟩, ?_, Nat.le_refl _, rfl⟩
      · walk_at "P.sc"
      · walk_at "P.get"
      · walk_at "P.get"
      · intro j hj; exact List.getElem?_append_left hj
      · exact sto_new
      · intro e h; cases h
      · intro e h; cases h
      · exact List.nodup_nil
      · exact List.nodup_nil
      · intro e h; cases h
      · rintro u y ⟨w, h, _⟩; cases h
    case zturn =>
      rintro v vs E s ⟨dw, rest, es, q0, q1, e, B, hk, hb, hf⟩
      cases rest with
      | nil => cases q1
      | cons w rest =>
        cases q1
        obtain ⟨hw1, hw2⟩ := hW w (by rw [q0]; simp)
        have hdl : dw.length < 100 := by rw [q0] at hl; simp at hl; (clear hw2 hb hbl' hbl hc; omega)
        obtain ⟨e1, e2, e3⟩ := e
        refine ⟨E.st "place" (.str (pth w)), bt_st (by walk_at "P.lc"), ?_⟩
        walk_at "P.as"
        obtain ⟨T, hT⟩ : ∃ T, T = pg1 (es.map Prod.fst) w := ⟨_, rfl⟩
        rw [List.foldl_cons, ← hT] at hf
        refine wp_while (BkI dw w hv hid T (σ.map AO.lock))
          (fun E s => ∃ es : List Page, BkE E hv (σ.map AO.lock).length ∧ BookS (σ.map AO.lock) s es (rowP hid (partW dw w [])) ∧ (∀ u y, partW dw w [] u y → u ∈ es.map Prod.fst) ∧ es.length ≤ 5 * dw.length + 5 ∧ es.map Prod.fst = T) (m := w.length) ?zturn2 ?zini ?zfin
        case zini =>
          refine ⟨w, es, List.prefix_refl w, by (clear hdl hw2 hb hbl' hbl hc hl; omega), ⟨?_, ?_, ?_⟩, ?_, B.same fun u => rowP_eq fun y _ => part_first, fun u y h => hk u y (part_first.mp h), by (clear hdl hbl' hbl hc hl; omega), hT.symm⟩
          · walk_at "P.sc"
          · walk_at "P.get"
          · walk_at "P.get"
          · walk_at "P.get"
        case zfin =>
          rintro E' s' ⟨es', f, B', hk', hb', hf'⟩
          apply wp_nil
          refine ⟨.inl rfl, dw ++ [w], rest, es', by rw [q0]; simp, rfl, f, B'.same fun u => rowP_eq fun y _ => part_last.symm, fun u y h => hk' u y (part_last.mpr h), by rw [List.length_append, List.length_singleton]; (clear hdl hw2 hb hbl' hbl hc hl; omega), by rw [hf']; exact hf⟩
        case zturn2 =>
          rintro m E s ⟨v, es, hv1, hv2, ⟨e1, e2, e3⟩, e4, B, hk, hb, hfv⟩
          have hvn : ∀ y ∈ v, y ∈ n4 := fun y hy => hw1 y (hv1.subset hy)
          have hv5 : v.length ≤ 5 := Nat.le_trans hv1.length_le hw2
          have hpl : (pth v).length ≤ cap := by
            have := pth_len fun y hy => (nm4 (hvn y hy)).2
            (clear hv5 hv2 hw2 hbl' hbl hl; omega)
          by_cases hv0 : v = []
          · subst hv0
            left
            refine ⟨?_, es, ⟨e1, e2, e3⟩, B, hk, by simp at hb; (clear hpl hv5 hv2 hdl hw2 hbl' hbl hc hl; omega), hfv⟩
            refine it_cast (b := decide (((pth []).length : Int) > 1)) ?_ (by kernel_rfl)
            walk_at "P.it"
          · right
            obtain ⟨u, x, rfl⟩ : ∃ u x, v = u ++ [x] := ⟨v.dropLast, v.getLast hv0, (List.dropLast_concat_getLast hv0).symm⟩
            have hx : x ∈ n4 := hvn x (by simp)
            have hun : ∀ y ∈ u, y ∈ n4 := fun y hy => hvn y (by simp [hy])
            rw [List.length_append, List.length_singleton] at hb hv2 hv5
            rw [remW_snoc, List.foldl_cons] at hfv
            refine ⟨?_, m - 1, by (clear hpl hv5 hb hdl hw2 hbl' hbl hc hl; omega), ?_⟩
            · refine it_cast (b := decide (((pth (u ++ [x])).length : Int) > 1)) ?_ ?_
              · walk_at "P.it"
              · rw [decide_eq_true]
                rw [ch_len, pth_snoc]
                have := (nm4 hx).1.1
                have : 0 < (ch x).length := List.length_pos_iff.mpr this
                simp; (clear hpl hv5 hb hv2 hdl hw2 hbl' hbl hc hl; omega)
            have hsp : ∀ m, CD ((m + 20)) 192 [.str (pth (u ++ [x]))] s (.tup [.str (pth u), .str x]) := by
              intro m
              have := c_split (n := m) (σ := s) hpl
              rw [head_pth (nm4 hx).1 fun y hy => (nm4 (hun y hy)).1, tail_pth (nm4 hx).1] at this
              exact this
            apply wp_tuple
            · intro _ _ _ h; cases h
            · apply ev_call
              · walk_at "P.ev"
              · exact rfl
              · walk_at "P.args"
              · exact call_d (hsp _)
            · show SETS (_ :: _ :: []) (_ :: _ :: []) _ _
              walk_at "P.setall"
            obtain ⟨s1, es1, k, hm, B1, hk1, hl1, hs1, hadd⟩ := setd_ok B hk hun (by (clear hpl hv5 hv2 hw2 hbl' hbl hc hl; omega))
            rw [← hadd] at hfv
            have hrow := B1.rows _ hk1
            simp only at hrow
            have hh1 : lists s1 hv = some (hid.map .str) := low_lists hhl B1.low
            have hr1 : lists s1 (.own k) = some ((rowP hid (partW dw w (u ++ [x])) u).map .str) := lists_own hrow
            have hrok : ∀ y ∈ rowP hid (partW dw w (u ++ [x])) u, PyData.strOk y = true := fun y hy => n4_ok (List.mem_filter.mp hy).1
            have ht := tr_own (σ := s1) hrow
            apply wp_assign
            · apply own_plain (fun _ _ => by kernel_rfl) rfl
              apply ev_meth
              · intro _ _; kernel_rfl
              · kernel_rfl
              · exact rfl
              · walk_at "P.ev"
              · exact ty_odict B.bk
              · apply evs_cons
                · exact rfl
                · walk_at "P.ev"
                · apply evs_cons
                  · exact rfl
                  · exact ev_empty
                  · exact evs_nil
              · exact hm
            · walk_at "P.lc"
            apply wp_if (σ1 := s1)
            · apply it_bool
              apply and_two
              · apply it_not
                apply it_val
                · intro _ _; kernel_rfl
                · apply ev_call
                  · walk_at "P.ev"
                  · exact rfl
                  · walk_at "P.args"
                  · exact call_d (c_contains hh1 (n4_ok hx) hhok)
                · exact tr_bool
              · apply it_not
                apply it_val
                · intro _ _; kernel_rfl
                · apply ev_call
                  · walk_at "P.ev"
                  · exact rfl
                  · walk_at "P.args"
                  · exact call_d (c_contains hr1 (n4_ok hx) hrok)
                · exact tr_bool
            · intro hq
              simp only [Bool.and_eq_true, Bool.not_eq_true'] at hq
              obtain ⟨hq1, hq2⟩ := hq
              have hR0 : rowP hid (partW dw w u) u = insAt (rowP hid (partW dw w (u ++ [x])) u) (cnt ((rowP hid (partW dw w (u ++ [x])) u).map fun y => ltS y x)).toNat x := by
                have hq3 := hq2
                unfold rowP at hq3 ⊢
                rw [mem_filt hx] at hq3
                rw [ins_n4 _ hx hq3]
                apply List.filter_congr
                intro y hy
                cases q : sq y x with
                | true =>
                  have : y = x := sq_eq q
                  subst this
                  rw [hq1, Bool.or_true]
                  simp only [Bool.not_false, Bool.true_and]
                  exact decide_eq_true ((part_step hv1).mpr (.inr ⟨rfl, rfl⟩))
                | false =>
                  rw [Bool.or_false]
                  congr 1
                  apply decide_eq_decide.mpr
                  rw [part_step hv1]
                  constructor
                  · rintro (h | ⟨_, h⟩)
                    · exact h
                    · rw [h, sq_refl] at q; cases q
                  · exact .inl
              have hcr := cnt_range ((rowP hid (partW dw w (u ++ [x])) u).map fun y => ltS y x)
              have hrl : (rowP hid (partW dw w (u ++ [x])) u).length ≤ 4 := filt_len _
              rw [List.length_map] at hcr
              apply wp_expr
              · apply ev_meth
                · intro _ _; kernel_rfl
                · kernel_rfl
                · exact rfl
                · walk_at "P.ev"
                · exact ty_list hrow
                · apply evs_cons
                  · exact rfl
                  · apply ev_call
                    · walk_at "P.ev"
                    · exact rfl
                    · apply args_cons
                      · exact rfl
                      · apply ev_comp
                        refine comp_rule (S := (dAt 36).scope.names) (v := .own k) (σ1 := s1) (σ2 := s1.set k .busy) (xs := (rowP hid (partW dw w (u ++ [x])) u).map .str) (taken := some (k, .list ((rowP hid (partW dw w (u ++ [x])) u).map .str))) (ltF x) ?zq1 ?zq2 ?zq3 ?zq4 ?zq5 ?zq6
                        case zq1 => walk_at "P.sc"
                        case zq2 => kernel_rfl
                        case zq3 => walk_at "P.ev"
                        case zq4 => exact src_own hrow
                        case zq5 => rw [List.length_map]; (clear hcr ht hl1 hpl hv5 hb hv2 hdl hw2 hbl' hbl hl; omega)
                        case zq6 =>
                          intro v hvm E1 f1 f2
                          obtain ⟨y, hy, rfl⟩ := List.mem_map.mp hvm
                          refine ⟨E1.st "one" (.str y), bt_st (isLC_of f1 (by kernel_rfl)), by rw [st_sc, f1], ?_, true, ifs_nil, (fun h => by cases h), fun _ => ⟨.bool (ltS y x), ?_, rfl⟩⟩
                          · rw [st_kap (by rw [f1]; kernel_rfl), f2]
                          · have gx : E1.get "name" = some (.str x) := by
                              refine get_kap f1 (by kernel_rfl) f2 ?_
                              refine kap_of (S := (dAt 36).scope.names) (by walk_at "P.sc") (by kernel_rfl) ?_
                              walk_at "P.get"
                            apply ev_call
                            · apply evp_name
                              refine get_ne (by kernel_rfl) ?_
                              exact get_glob f1 (by kernel_rfl) g_lt
                            · exact rfl
                            · apply args_cons
                              · exact rfl
                              · apply evp_name
                                exact get_hit (isLC_of f1 (by kernel_rfl))
                              · apply args_cons
                                · exact rfl
                                · apply evp_name
                                  exact get_ne (by kernel_rfl) gx
                                · exact args_nil
                            · exact call_d c_lt
                      · rw [relA_back hrow]
                        apply args_cons
                        · exact rfl
                        · walk_at "P.ev"
                        · exact args_nil
                    · have := c_countOf (n := n + 40) (σ := s1) (l := (rowP hid (partW dw w (u ++ [x])) u).map fun y => ltS y x) (by rw [List.length_map]; (clear hcr ht hl1 hpl hv5 hb hv2 hdl hw2 hbl' hbl hc hl; omega))
                      rw [List.map_map] at this
                      rw [fm_map (f := ltF x) (g := AV.str) (h := fun y => AV.bool (ltS y x)) _ fun _ _ => rfl]
                      apply call_d
                      exact this
                  · apply evs_cons
                    · exact rfl
                    · walk_at "P.ev"
                    · exact evs_nil
                · refine m_insert hrow ⟨hcr.1, ?_, ?_⟩
                  · rw [List.length_map]; exact hcr.2
                  · rw [List.length_map]; (clear hcr ht hl1 hpl hv5 hb hv2 hdl hw2 hbl' hbl hl; omega)
              rw [ins_map, ← hR0]
              apply wp_nil
              apply wp_nil
              refine ⟨.inl rfl, u, es1, (List.prefix_append u [x]).trans hv1, by (clear hrl hcr ht hl1 hpl hv5 hb hdl hw2 hbl' hbl hc hl; omega), ⟨?_, ?_, ?_⟩, ?_, B1.write (R' := rowP hid (partW dw w u)) hk1 fun v hvu => rowP_eq fun y _ => ?_, fun v y h => ?_, by (clear hrl hcr ht hpl hv5 hv2 hdl hw2 hbl' hbl hc hl; omega), hfv⟩
              · walk_at "P.sc"
              · walk_at "P.get"
              · walk_at "P.get"
              · walk_at "P.get"
              · rw [part_step hv1]
                constructor
                · rintro (h | ⟨h, _⟩)
                  · exact h
                  · exact absurd h hvu
                · exact .inl
              · rcases (part_step hv1).mp h with h | ⟨h, _⟩
                · exact hs1 v (hk v y h)
                · rw [h]; exact List.mem_map.mpr ⟨_, hk1, rfl⟩
            · intro hq
              apply wp_nil
              apply wp_nil
              have hsame : ∀ v, rowP hid (partW dw w u) v = rowP hid (partW dw w (u ++ [x])) v := by
                intro v
                unfold rowP
                apply List.filter_congr
                intro y hy
                by_cases q : v = u ∧ y = x
                · obtain ⟨rfl, rfl⟩ := q
                  rw [Bool.and_eq_false_iff] at hq
                  rcases hq with hq | hq
                  · simp only [Bool.not_eq_false'] at hq
                    rw [hq]; simp
                  · simp only [Bool.not_eq_false'] at hq
                    unfold rowP at hq
                    rw [mem_filt hx] at hq
                    rw [hq]
                    rw [Bool.and_eq_true] at hq
                    rw [hq.1, Bool.true_and]
                    exact decide_eq_true ((part_step hv1).mpr (.inr ⟨rfl, rfl⟩))
                · congr 1
                  apply decide_eq_decide.mpr
                  rw [part_step hv1]
                  constructor
                  · rintro (h | h)
                    · exact h
                    · exact absurd h q
                  · exact .inl
              refine ⟨.inl rfl, u, es1, (List.prefix_append u [x]).trans hv1, by (clear ht hl1 hpl hv5 hb hdl hw2 hbl' hbl hc hl; omega), ⟨?_, ?_, ?_⟩, ?_, B1.same hsame, fun v y h => ?_, by (clear ht hpl hv5 hv2 hdl hw2 hbl' hbl hc hl; omega), hfv⟩
              · walk_at "P.sc"
              · walk_at "P.get"
              · walk_at "P.get"
              · walk_at "P.get"
              · rcases (part_step hv1).mp h with h | ⟨h, _⟩
                · exact hs1 v (hk v y h)
                · rw [h]; exact List.mem_map.mpr ⟨_, hk1, rfl⟩
    case z4 =>
      rintro E' s' ⟨dw, rest, es, q0, q1, ⟨e1, e2, e3⟩, B, hk, hb, hf⟩
      have : rest = [] := by cases rest with
        | nil => rfl
        | cons _ _ => cases q1
      subst this
      rw [List.append_nil] at q0
      subst q0
      apply wp_ret
      · walk_at "P.ev"
      · have hz := fz_book B
        rw [hbl] at hz
        show freeze s' _ 5 (.own (σ.map AO.lock).length) = _
        rw [hbl, hz, ← hf, List.foldl_nil, List.map_map]
        rfl
end
end

noncomputable section
open PySem
section
variable {n : Nat} {E : AE} {σ σ1 σ2 : Sto} {v u : AV}
theorem ev_get {o a : Expr} {m : Str} {ap lp p : Pos} {kv : List (Str × AV)} {y : Str} (hs : ∀ (env : Env) (t : Sem Value), attributeBase o m env t = t) (h0 : (ap.endLine == p.line && decide ([a, .List [] lp].length < 30)) = true) (h1 : methName m = some .get)
    (hn : notStar a = true) (h2 : EV (n + 1) o E σ (.dict kv) σ1) (h4 : EV (n + 1) a E σ1 (.str y) σ2) : EV (n + 2) (.Call (.Attribute o m ap) [a, .List [] lp] [] p) E σ ((look y kv).getD (.list [])) σ2 :=
  ev_meth hs h0 h1 h2 ty_dict (evs_cons hn h4 (evs_cons rfl (ev_list evs_nil (by decide)) evs_nil)) m_get
end
/-- the rows of a tree: names in order, none below the fifth folder -/
structure Rows (R : List Str → List Str) : Prop where
  sub : ∀ u, ∃ P : Str → Bool, R u = n4.filter P
  deep : ∀ u, 5 ≤ u.length → R u = []
theorem Rows.n4 {R : List Str → List Str} (H : Rows R) {u : List Str} {x : Str} (h : x ∈ R u) : x ∈ n4 := by
  obtain ⟨P, e⟩ := H.sub u
  rw [e] at h
  exact (List.mem_filter.mp h).1
theorem Rows.four {R : List Str → List Str} (H : Rows R) (u : List Str) : (R u).length ≤ 4 := by
  obtain ⟨P, e⟩ := H.sub u
  rw [e]
  exact filt_len P
theorem n4_sorted : n4.Pairwise fun x y => ltS x y = true := by
  unfold n4
  refine .cons ?_ (.cons ?_ (.cons ?_ (.cons ?_ .nil)))
  · intro y hy
    simp only [List.mem_cons, List.mem_nil_iff, or_false] at hy
    rcases hy with rfl | rfl | rfl <;> kernel_rfl
  · intro y hy
    simp only [List.mem_cons, List.mem_nil_iff, or_false] at hy
    rcases hy with rfl | rfl <;> kernel_rfl
  · intro y hy
    simp only [List.mem_cons, List.mem_nil_iff, or_false] at hy
    rcases hy with rfl <;> kernel_rfl
  · intro y hy; cases hy
theorem ltS_asym {x y : Str} (hx : x ∈ n4) (hy : y ∈ n4) (h : ltS x y = true) : ltS y x = false ∧ x ≠ y := by
  have key : (n4.all fun x => n4.all fun y => !(ltS x y && ltS y x) && !(ltS x y && sq x y)) = true := by kernel_rfl
  have := all_of (all_of key x hx) y hy
  simp only [h, Bool.true_and, Bool.and_eq_true, Bool.not_eq_true'] at this
  exact ⟨this.1, fun e => by rw [e, sq_refl] at this; cases this.2⟩
theorem ltS_irr {x : Str} (hx : x ∈ n4) : ltS x x = false := by
  cases q : ltS x x with
  | false => rfl
  | true => exact absurd rfl (ltS_asym hx hx q).2
theorem ltS_tot {x y : Str} (hx : x ∈ n4) (hy : y ∈ n4) (h : x ≠ y) (h2 : ltS x y = false) : ltS y x = true := by
  have key : (n4.all fun x => n4.all fun y => ltS x y || ltS y x || sq x y) = true := by kernel_rfl
  have := all_of (all_of key x hx) y hy
  simp only [h2, sq_no h, Bool.false_or, Bool.or_false] at this
  exact this
theorem Rows.sorted {R : List Str → List Str} (H : Rows R) (u : List Str) : (R u).Pairwise fun x y => ltS x y = true := by
  obtain ⟨P, e⟩ := H.sub u
  rw [e]
  exact n4_sorted.filter P
noncomputable def more (R : List Str → List Str) (u : List Str) (x : Str) : Bool := (R u).any fun y => ltS x y
theorem more_of {R : List Str → List Str} (H : Rows R) {u pre rest : List Str} {x : Str} (h : R u = pre ++ x :: rest) : more R u x = !rest.isEmpty := by
  have hs := H.sorted u
  have hn : ∀ y ∈ R u, y ∈ Mine.n4 := fun y hy => H.n4 hy
  unfold more
  rw [h] at hs hn ⊢
  obtain ⟨h1, h2, h3⟩ := List.pairwise_append.mp hs
  have hx : x ∈ Mine.n4 := hn x (by simp)
  rw [List.any_append, List.any_cons, ltS_irr hx, Bool.false_or]
  have e1 : (pre.any fun y => ltS x y) = false := by
    rw [List.any_eq_false]
    intro y hy
    have := h3 y hy x (by simp)
    rw [(ltS_asym (hn y (by simp [hy])) hx this).1]; simp
  rw [e1, Bool.false_or]
  cases rest with
  | nil => rfl
  | cons y rest =>
    have := (List.pairwise_cons.mp h2).1 y (by simp)
    simp [this]
noncomputable def mark (R : List Str → List Str) (u : List Str) (x : Str) : Str := if more R u x then "| " else "  "
noncomputable def mark2 (R : List Str → List Str) (u : List Str) (x : Str) : Str := if more R u x then "+-" else "'-"
noncomputable def mk (R : List Str → List Str) (p : List Str) : List Str := (List.range p.length).map fun k => mark R (p.take k) (p.getD k "")
theorem mk_snoc (R : List Str → List Str) (u : List Str) (x : Str) : mk R (u ++ [x]) = mk R u ++ [mark R u x] := by
  unfold mk
  rw [List.length_append, List.length_singleton, List.range_succ, List.map_append]
  congr 1
  · apply List.map_congr_left
    intro k hk
    have hk : k < u.length := List.mem_range.mp hk
    rw [List.take_append_of_le_length (by omega)]
    congr 1
    simp [List.getD_eq_getElem?_getD, List.getElem?_append_left hk]
  · simp
noncomputable def lineOf (R : List Str → List Str) (p : List Str) : Str := Txt.join "" (mk R p.dropLast ++ [mark2 R p.dropLast (p.getLastD "")]) ++ p.getLastD ""
theorem line_snoc (R : List Str → List Str) (u : List Str) (x : Str) : lineOf R (u ++ [x]) = Txt.join "" (mk R u ++ [mark2 R u x]) ++ x := by
  unfold lineOf
  rw [List.dropLast_concat, List.getLastD_concat]
/-- all that lies below a folder, a folder ahead of what is in it -/
noncomputable def trav (R : List Str → List Str) : Nat → List Str → List (List Str)
  | 0, _ => []
  | d + 1, u => (R u).flatMap fun x => (u ++ [x]) :: trav R d (u ++ [x])
noncomputable def below (R : List Str → List Str) (u : List Str) : List (List Str) := trav R (5 - u.length) u
theorem below_eq {R : List Str → List Str} (H : Rows R) (u : List Str) : below R u = (R u).flatMap fun x => (u ++ [x]) :: below R (u ++ [x]) := by
  unfold below
  by_cases h : 5 ≤ u.length
  · rw [H.deep u h, show 5 - u.length = 0 by omega]; rfl
  · obtain ⟨d, hd⟩ : ∃ d, 5 - u.length = d + 1 := ⟨4 - u.length, by omega⟩
    rw [hd]
    show (R u).flatMap (fun x => (u ++ [x]) :: trav R d (u ++ [x])) = _
    congr 1
    funext x
    rw [List.length_append, List.length_singleton, show 5 - (u.length + 1) = d by (clear h; omega)]
noncomputable def cntB : Nat → Nat
  | 0 => 0
  | d + 1 => 4 * (1 + cntB d)
theorem trav_len {R : List Str → List Str} (H : Rows R) : ∀ (d : Nat) (u : List Str), (trav R d u).length ≤ cntB d
  | 0, _ => Nat.le_refl _
  | d + 1, u => by
    have key : ∀ l : List Str, (l.flatMap fun x => (u ++ [x]) :: trav R d (u ++ [x])).length ≤ l.length * (1 + cntB d) := by
      intro l
      induction l with
      | nil => simp
      | cons x l ih =>
        rw [List.flatMap_cons, List.length_append, List.length_cons, List.length_cons, Nat.succ_mul]
        have := trav_len H d (u ++ [x])
        omega
    have h4 := H.four u
    show (List.flatMap _ _).length ≤ 4 * (1 + cntB d)
    exact Nat.le_trans (key _) (Nat.mul_le_mul_right _ h4)
theorem below_len {R : List Str → List Str} (H : Rows R) : (below R []).length ≤ 1364 := trav_len H 5 []
/-- a folder on the pile: where it is, what is still to come, its iterator -/
structure Fr where
  u : List Str
  rest : List Str
  k : Nat
/-- the pile, the last folder first -/
inductive Stk (R : List Str → List Str) : List Fr → Prop
  | nil : Stk R []
  | one {r : List Str} {k : Nat} {pre : List Str} (h : R [] = pre ++ r) : Stk R [⟨[], r, k⟩]
  | cons {u rest r pre pre' : List Str} {x : Str} {k k' : Nat} {t : List Fr} (h : Stk R (⟨u, rest, k⟩ :: t)) (h1 : R u = pre ++ x :: rest) (h2 : R (u ++ [x]) = pre' ++ r) : Stk R (⟨u ++ [x], r, k'⟩ :: ⟨u, rest, k⟩ :: t)
noncomputable def fmark (f : Fr) : Str := if f.rest.isEmpty then "  " else "| "
theorem Stk.marks {R : List Str → List Str} (H : Rows R) : ∀ {f : Fr} {t : List Fr}, Stk R (f :: t) → t.reverse.map fmark = mk R f.u := by
  intro f t h
  generalize hl : f :: t = l at h
  induction h generalizing f t with
  | nil => cases hl
  | one h => cases hl; rfl
  | cons h h1 h2 ih =>
    cases hl
    rw [mk_snoc, List.reverse_cons, List.map_append, ih rfl]
    congr 1
    show [fmark _] = _
    unfold fmark mark
    rw [more_of H h1]
    congr 1
    cases List.isEmpty _ <;> rfl
theorem Stk.top {R : List Str → List Str} : ∀ {f : Fr} {t : List Fr}, Stk R (f :: t) → ∃ pre, R f.u = pre ++ f.rest := by
  intro f t h
  cases h with
  | one h => exact ⟨_, h⟩
  | cons h h1 h2 => exact ⟨_, h2⟩
theorem Stk.pop {R : List Str → List Str} : ∀ {f : Fr} {t : List Fr}, Stk R (f :: t) → Stk R t := by
  intro f t h
  cases h with
  | one h => exact .nil
  | cons h h1 h2 => exact h
/-- the folder's next name is taken -/
theorem Stk.take {R : List Str → List Str} {u r : List Str} {x : Str} {k k' : Nat} {t : List Fr} (h : Stk R (⟨u, x :: r, k⟩ :: t)) : Stk R (⟨u ++ [x], R (u ++ [x]), k'⟩ :: ⟨u, r, k⟩ :: t) := by
  obtain ⟨pre, h1⟩ := h.top
  refine .cons (pre := pre) (pre' := []) ?_ h1 rfl
  cases h with
  | one h => exact .one (pre := pre ++ [x]) (by simpa using h1)
  | cons h h2 h3 => exact .cons h h2 (pre' := pre ++ [x]) (by simpa using h1)
theorem Stk.nms {R : List Str → List Str} (H : Rows R) : ∀ {l : List Fr}, Stk R l → ∀ f ∈ l, ∀ y ∈ f.u, y ∈ Mine.n4 := by
  intro l h
  induction h with
  | nil => intro f h; cases h
  | one h => intro f hf; rw [List.mem_singleton.mp hf]; intro y hy; cases hy
  | cons h h1 h2 ih =>
    intro f hf
    rcases List.mem_cons.mp hf with rfl | hf
    · intro y hy
      rcases List.mem_append.mp hy with hy | hy
      · exact ih _ List.mem_cons_self y hy
      · rw [List.mem_singleton.mp hy]; exact H.n4 (u := _) (by rw [h1]; simp)
    · exact ih f hf
noncomputable def outS (R : List Str → List Str) : List Fr → List (List Str)
  | [] => []
  | f :: t => (f.rest.flatMap fun x => (f.u ++ [x]) :: below R (f.u ++ [x])) ++ outS R t
theorem out_take {R : List Str → List Str} (H : Rows R) {u r : List Str} {x : Str} {k k' : Nat} {t : List Fr} : outS R (⟨u, x :: r, k⟩ :: t) = (u ++ [x]) :: outS R (⟨u ++ [x], R (u ++ [x]), k'⟩ :: ⟨u, r, k⟩ :: t) := by
  show (List.flatMap _ (x :: r)) ++ _ = _ :: ((List.flatMap _ _) ++ ((List.flatMap _ _) ++ _))
  rw [List.flatMap_cons, below_eq H (u ++ [x])]
  simp
end

noncomputable section
open PySem
noncomputable def frV (f : Fr) : AV := .tup [.str (pth f.u), .own f.k]
/-- the store of the def that draws -/
structure DrS (b : Nat) (s : Sto) (st : List Fr) (ls : List AV) : Prop where
  lines : s[b]? = some (AO.list ls)
  pile : s[b + 2]? = some (AO.list (st.reverse.map frV))
  its : ∀ f ∈ st, ∃ t xs p, s[f.k]? = some (AO.iter t xs p) ∧ xs.drop p = f.rest.map AV.str
  adr : (st.map Fr.k).Nodup
  off : ∀ f ∈ st, f.k ≠ b ∧ f.k ≠ b + 2
theorem DrS.lt {b : Nat} {s : Sto} {st : List Fr} {ls : List AV} (D : DrS b s st ls) {f : Fr} (h : f ∈ st) : f.k < s.length := by
  obtain ⟨t, xs, p, h1, _⟩ := D.its f h
  exact (List.getElem?_eq_some_iff.mp h1).1
theorem DrS.ltb {b : Nat} {s : Sto} {st : List Fr} {ls : List AV} (D : DrS b s st ls) : b < s.length ∧ b + 2 < s.length := ⟨(List.getElem?_eq_some_iff.mp D.lines).1, (List.getElem?_eq_some_iff.mp D.pile).1⟩
/-- something more in the store -/
theorem DrS.push {b : Nat} {s : Sto} {st : List Fr} {ls : List AV} (D : DrS b s st ls) (o : AO) : DrS b (s ++ [o]) st ls where
  lines := sto_app D.lines
  pile := sto_app D.pile
  its := fun f h => by
    obtain ⟨t, xs, p, h1, h2⟩ := D.its f h
    exact ⟨t, xs, p, sto_app h1, h2⟩
  adr := D.adr
  off := D.off
/-- the last folder has no name more -/
theorem DrS.out {b : Nat} {s : Sto} {f : Fr} {st : List Fr} {ls : List AV} (D : DrS b s (f :: st) ls) (o : AO) : DrS b ((s.set f.k o).set (b + 2) (.list (st.reverse.map frV))) st ls where
  lines := by
    have := D.off f List.mem_cons_self
    rw [List.getElem?_set_ne (by (clear this; omega)), List.getElem?_set_ne this.1]; exact D.lines
  pile := List.getElem?_set_self (by rw [List.length_set]; exact D.ltb.2)
  its := fun g h => by
    obtain ⟨t, xs, p, h1, h2⟩ := D.its g (List.mem_cons_of_mem _ h)
    have h3 := D.off g (List.mem_cons_of_mem _ h)
    have h4 : f.k ≠ g.k := fun e => by
      have := D.adr
      rw [List.map_cons, List.nodup_cons] at this
      exact this.1 (by rw [e]; exact List.mem_map.mpr ⟨g, h, rfl⟩)
    refine ⟨t, xs, p, ?_, h2⟩
    rw [List.getElem?_set_ne (fun e => h3.2 e.symm), List.getElem?_set_ne h4]; exact h1
  adr := by
    have := D.adr
    rw [List.map_cons, List.nodup_cons] at this
    exact this.2
  off := fun g h => D.off g (List.mem_cons_of_mem _ h)
/-- the last folder gives its next name -/
theorem DrS.adv {b : Nat} {s : Sto} {u r : List Str} {x : Str} {k : Nat} {st : List Fr} {ls : List AV} (D : DrS b s (⟨u, x :: r, k⟩ :: st) ls) {t : Bool} {xs : List AV} {p : Nat} (h : s[k]? = some (AO.iter t xs p)) (hx : xs.drop p = (x :: r).map AV.str) :
    DrS b (s.set k (.iter t xs (p + 1))) (⟨u, r, k⟩ :: st) ls where
  lines := by
    have := D.off _ List.mem_cons_self
    rw [List.getElem?_set_ne this.1]; exact D.lines
  pile := by
    have := D.off _ List.mem_cons_self
    rw [List.getElem?_set_ne this.2, D.pile]
    simp [frV]
  its := fun g hg => by
    rcases List.mem_cons.mp hg with rfl | hg
    · refine ⟨t, xs, p + 1, List.getElem?_set_self (D.lt List.mem_cons_self), ?_⟩
      rw [← List.drop_drop, hx]; rfl
    · obtain ⟨t', xs', p', h1, h2⟩ := D.its g (List.mem_cons_of_mem _ hg)
      have h4 : k ≠ g.k := fun e => by
        have := D.adr
        rw [List.map_cons, List.nodup_cons] at this
        exact this.1 (by rw [show (Fr.mk u (x :: r) k).k = k from rfl, e]; exact List.mem_map.mpr ⟨g, hg, rfl⟩)
      exact ⟨t', xs', p', by rw [List.getElem?_set_ne h4]; exact h1, h2⟩
  adr := D.adr
  off := fun g hg => by
    rcases List.mem_cons.mp hg with rfl | hg
    · exact D.off ⟨u, x :: r, k⟩ List.mem_cons_self
    · exact D.off g (List.mem_cons_of_mem _ hg)
/-- a line more -/
theorem DrS.line {b : Nat} {s : Sto} {st : List Fr} {ls : List AV} (D : DrS b s st ls) (ls' : List AV) : DrS b (s.set b (.list ls')) st ls' where
  lines := List.getElem?_set_self D.ltb.1
  pile := by rw [List.getElem?_set_ne (by omega)]; exact D.pile
  its := fun f h => by
    obtain ⟨t, xs, p, h1, h2⟩ := D.its f h
    have := (D.off f h).1
    exact ⟨t, xs, p, by rw [List.getElem?_set_ne (by omega)]; exact h1, h2⟩
  adr := D.adr
  off := D.off
/-- a folder more -/
theorem DrS.more {b : Nat} {s : Sto} {st : List Fr} {ls : List AV} (D : DrS b s st ls) (u : List Str) (r : List Str) (t : Bool) :
    DrS b ((s ++ [AO.iter t (r.map AV.str) 0]).set (b + 2) (.list (st.reverse.map frV ++ [frV ⟨u, r, s.length⟩]))) (⟨u, r, s.length⟩ :: st) ls where
  lines := by rw [List.getElem?_set_ne (by omega)]; exact sto_app D.lines
  pile := by
    rw [List.getElem?_set_self (by have := D.ltb; rw [List.length_append]; omega)]
    simp
  its := fun f h => by
    rcases List.mem_cons.mp h with rfl | h
    · refine ⟨t, r.map AV.str, 0, ?_, rfl⟩
      have := D.ltb
      rw [List.getElem?_set_ne (by simp only; omega)]
      exact sto_new
    · obtain ⟨t, xs, p, h1, h2⟩ := D.its f h
      have := (D.off f h).2
      exact ⟨t, xs, p, by rw [List.getElem?_set_ne (by omega)]; exact sto_app h1, h2⟩
  adr := by
    rw [List.map_cons, List.nodup_cons]
    refine ⟨fun h => ?_, D.adr⟩
    obtain ⟨f, h1, h2⟩ := List.mem_map.mp h
    have := D.lt h1
    simp only at h2
    omega
  off := fun f h => by
    rcases List.mem_cons.mp h with rfl | h
    · have := D.ltb
      simp only; omega
    · exact D.off f h
/-- another object is not touched -/
theorem DrS.set {b : Nat} {s : Sto} {st : List Fr} {ls : List AV} (D : DrS b s st ls) {m : Nat} {o : AO} (h1 : m ≠ b) (h2 : m ≠ b + 2) (h3 : ∀ f ∈ st, f.k ≠ m) : DrS b (s.set m o) st ls where
  lines := by rw [List.getElem?_set_ne h1]; exact D.lines
  pile := by rw [List.getElem?_set_ne h2]; exact D.pile
  its := fun f h => by
    obtain ⟨t, xs, p, h4, h5⟩ := D.its f h
    exact ⟨t, xs, p, by rw [List.getElem?_set_ne (fun e => h3 f h e.symm)]; exact h4, h5⟩
  adr := D.adr
  off := D.off
theorem next_at {n : Nat} {s : Sto} {k : Nat} {t : Bool} {xs : List AV} {p : Nat} {v : AV} (h : s[k]? = some (AO.iter t xs p)) (hv : xs[p]? = some v) : CA n (.con (.builtin "next")) [.own k, .none] s v (s.set k (.iter t xs (p + 1))) := call_b (cb_next h hv)
theorem next_end {n : Nat} {s : Sto} {k : Nat} {t : Bool} {xs : List AV} {p : Nat} (h : s[k]? = some (AO.iter t xs p)) (hv : xs[p]? = none) : CA n (.con (.builtin "next")) [.own k, .none] s .none (s.set k .spent) := call_b (cb_stop h hv)
theorem len_own {n : Nat} {s : Sto} {k : Nat} {xs : List AV} (h : s[k]? = some (AO.list xs)) (hc : xs.length ≤ cap) : CA n (.con (.builtin "len")) [.own k] s (.int xs.length) s := call_b (cb_len (items_of (lists_own h)) hc)
theorem iter_of {n : Nat} {s : Sto} {c : Bool} {xs : List AV} : CA n (.con (.builtin "iter")) [if c then .tup xs else .list xs] s (.own s.length) (s ++ [.iter c xs 0]) := call_b cb_iter
theorem tup_of {n : Nat} {s : Sto} {xs : List AV} (h : xs.length ≤ cap) : CA n (.con (.type "tuple")) [.list xs] s (.tup xs) s := call_t (cb_tuple h)
theorem left_pos {xs : List AV} {p : Nat} {r : List Str} (h : xs.drop p = r.map AV.str) : decide ((((xs.length - p : Nat)) : Int) > 0) = !r.isEmpty := by
  have h1 := congrArg List.length h
  rw [List.length_drop, List.length_map] at h1
  rw [h1]
  cases r with
  | nil => rfl
  | cons a r =>
    rw [decide_eq_true (by rw [List.length_cons]; (clear h1; omega))]; rfl
/-- what the comprehension over the pile says of a folder -/
noncomputable def pileF (l : List Fr) (v : AV) : Option AV := match v with
  | .tup [_, .own k] => (l.find? fun f => Nat.beq f.k k).map fun f => .str (fmark f)
  | _ => none
theorem pileF_at : ∀ {l : List Fr}, (l.map Fr.k).Nodup → ∀ {f : Fr}, f ∈ l → pileF l (frV f) = some (.str (fmark f))
  | [], _, f, h => by cases h
  | g :: l, hd, f, h => by
    rw [List.map_cons, List.nodup_cons] at hd
    show ((g :: l).find? fun g => Nat.beq g.k f.k).map _ = _
    rcases List.mem_cons.mp h with rfl | h
    · rw [List.find?_cons_of_pos (by simp)]; rfl
    · have : Nat.beq g.k f.k = false := by
        cases q : Nat.beq g.k f.k with
        | false => rfl
        | true => exact absurd (List.mem_map.mpr ⟨f, h, (Nat.eq_of_beq_eq_true q).symm⟩) hd.1
      rw [List.find?_cons_of_neg (by rw [this]; simp)]
      exact pileF_at hd.2 h
end

noncomputable section
open PySem
section
variable {n : Nat} {σ : Sto}
theorem fn_drawn : fnAt 249 = some (dAt 37) := by kernel_rfl
/-- the frame of _law_drawn -/
structure DwE (E : AE) (kv : List (Str × AV)) (b : Nat) : Prop where
  sc : E.sc = (dAt 37).scope.names
  book : E.get "book" = some (.dict kv)
  lines : E.get "lines" = some (.own b)
  pile : E.get "pile" = some (.own (b + 2))
theorem len_empty : (Str.ofString "").length = 0 := by kernel_rfl
theorem marks_two {R : List Str → List Str} {u : List Str} {x : Str} : ∀ y ∈ mk R u ++ [mark2 R u x], y.length ≤ 2 := by
  intro y hy
  rcases List.mem_append.mp hy with h | h
  · unfold mk at h
    obtain ⟨k, _, rfl⟩ := List.mem_map.mp h
    unfold mark
    split <;> exact Nat.le_of_ble_eq_true rfl
  · rw [List.mem_singleton.mp h]
    unfold mark2
    split <;> exact Nat.le_of_ble_eq_true rfl
theorem join0_len {l : List Str} (h : ∀ x ∈ l, x.length ≤ 2) : (Txt.join "" l).length ≤ 2 * l.length := by
  have h1 := StrLaws.join_length_le "" l
  rw [← txt_join, len_empty] at h1
  have h2 := sum_le h
  omega
theorem joinOk0 {l : List Str} (h : ∀ x ∈ l, x.length ≤ 2) (hl : l.length ≤ 100) : JoinOk "" l = true := by
  unfold JoinOk
  rw [StrLaws.joinTotal, len_empty]
  have h2 := sum_le h
  have : ¬ (l.map (·.length)).sum + l.length * 0 > sizeLine := by rw [sizeLine_eq]; omega
  unfold Builtin.Str.tooLong
  simpa using this
inductive DwI (R : List Str → List Str) (kv : List (Str × AV)) (b : Nat) (m : Nat) (E : AE) (s : Sto) : Prop where
  | mk (hm : m ≤ 4999) (st : List Fr) (done : List (List Str)) : st.length + 2 * (outS R st).length ≤ m → Stk R st → DrS b s st (done.map fun p => AV.str (lineOf R p)) → done ++ outS R st = below R [] → DwE E kv b → DwI R kv b m E s
theorem c_drawn {R : List Str → List Str} (H : Rows R) {kv : List (Str × AV)} (hbk : ∀ u, (∀ y ∈ u, y ∈ n4) → (look (pth u) kv).getD (.list []) = .list ((R u).map .str)) :
    CD ((n + 70)) 249 [.dict kv] σ (.list ((below R []).map fun p => .str (lineOf R p))) := by
  have hc : cap = 100000 := rfl
  have hbl : (σ.map AO.lock).length = σ.length := List.length_map ..
  have hB := below_len H
  refine callD_intro (E := ?ze) rfl rfl fn_drawn ?_ ?_
  rotate_left
  · show bindP _ (_ :: _) _ _ = _
    walk_at "P.bind"
  rw [← hbl]
  generalize σ.map AO.lock = base
  walk_at "P.as"
  apply wp_assign
  · apply own_tups
    · apply evs_cons
      · exact rfl
      · with_reducible apply ev_tup
        · apply evs_cons
          · exact rfl
          · walk_at "P.ev"
          · apply evs_cons
            · exact rfl
            · apply ev_call
              · walk_at "P.ev"
              · exact rfl
              · apply args_cons
                · exact rfl
                · apply ev_get
                  · intro _ _; kernel_rfl
                  · kernel_rfl
                  · exact rfl
                  · exact rfl
                  · walk_at "P.ev"
                  · walk_at "P.ev"
                · exact args_nil
              · rw [show Str.ofString "/" = pth [] from by kernel_rfl, hbk [] (by intro y h; cases h)]
                exact iter_of (c := false)
            · exact evs_nil
        · exact Nat.le_of_ble_eq_true rfl
      · exact evs_nil
    · exact Nat.le_of_ble_eq_true rfl
  · walk_at "P.lc"
  refine wp_while (DwI R kv base.length)
    (fun E s => s[base.length]? = some (AO.list ((below R []).map fun p => AV.str (lineOf R p))) ∧ DwE E kv base.length) (m := 4999) ?zturn ?zini ?zfin
  case zini =>
    refine ⟨Nat.le_refl _, [⟨[], R [], base.length + 1⟩], [], ?_, .one (pre := []) rfl, ⟨?_, ?_, ?_, ?_, ?_⟩, ?_, ⟨?_, ?_, ?_, ?_⟩⟩
    · have e1 : outS R [⟨[], R [], base.length + 1⟩] = below R [] := by rw [below_eq H []]; simp [outS]
      rw [e1]
      simp; (clear hbl hc; omega)
    · exact sto_app (sto_app sto_new)
    · have : (base ++ [AO.list []] ++ [AO.iter false ((R []).map .str) 0]).length = base.length + 2 := by simp
      rw [← this]
      have e2 : (base ++ [AO.list []]).length = base.length + 1 := by simp
      show _ = some (AO.list [AV.tup [AV.str (pth []), AV.own (base.length + 1)]])
      rw [← e2]
      exact sto_new
    · intro f hf
      rw [List.mem_singleton.mp hf]
      refine ⟨false, (R []).map .str, 0, ?_, rfl⟩
      have e2 : (base ++ [AO.list []]).length = base.length + 1 := by simp
      rw [← e2]
      exact sto_app sto_new
    · simp
    · intro f hf
      rw [List.mem_singleton.mp hf]
      simp
    · rw [below_eq H []]; simp [outS]
    · walk_at "P.sc"
    · walk_at "P.get"
    · walk_at "P.get"
    · have e2 : (base ++ [AO.list []] ++ [AO.iter false ((R []).map .str) 0]).length = base.length + 2 := by simp
      rw [← e2]
      walk_at "P.get"
  case zfin =>
    rintro E s ⟨h1, ⟨e1, e2, e3, e4⟩⟩
    apply wp_ret
    · walk_at "P.ev"
    · exact fz_own (Nat.le_refl _) h1 (fzL_map fun _ _ => rfl)
  case zturn =>
    rintro m E s ⟨hm, st, done, hme, hst, D, hdone, ⟨e1, e2, e3, e4⟩⟩
    have hpl : (st.reverse.map frV).length = st.length := by simp
    have hlen : ∀ k, CA k (.con (.builtin "len")) [.own (base.length + 2)] s (.int (st.length : Int)) s := fun k => by
      have := len_own (n := k) D.pile (by rw [hpl]; (clear hpl hB hbl; omega))
      rw [hpl] at this; exact this
    have htest : ∀ k, IT (k + 60) (.Compare (.Call (.Name "len" ⟨307, 10, 307, 13⟩) [.Name "pile" ⟨307, 14, 307, 18⟩] [] ⟨307, 10, 307, 19⟩) [.Gt] [.Constant (.int 0) 0 ⟨307, 22, 307, 23⟩] ⟨307, 10, 307, 23⟩) E s (decide ((st.length : Int) > 0)) s := fun k => by
      with_reducible apply it_cmp
      · exact rfl
      · apply ev_call
        · walk_at "P.ev"
        · exact rfl
        · walk_at "P.args"
        · exact hlen _
      · walk_at "P.ev"
      · exact cmp_gt_int
    cases st with
    | nil =>
      left
      refine ⟨htest _, ?_, ⟨e1, e2, e3, e4⟩⟩
      have : done = below R [] := by simpa [outS] using hdone
      rw [← this]
      exact D.lines
    | cons f t =>
      right
      refine ⟨it_cast (htest _) (by simp), m - 1, by simp at hme; (clear hpl hm hB hbl hc; omega), ?_⟩
      obtain ⟨u, rest, k⟩ := f
      have hun : ∀ y ∈ u, y ∈ n4 := hst.nms H ⟨u, rest, k⟩ List.mem_cons_self
      have hrl : ∀ y ∈ u, y.length ≤ 2 := fun y hy => (nm4 (hun y hy)).2
      have hlast : lists s (.own (base.length + 2)) = some (t.reverse.map frV ++ [AV.tup [.str (pth u), .own k]]) := by
        rw [lists_own D.pile, List.reverse_cons, List.map_append]; rfl
      have htl : t.length < 5000 := by simp at hme; (clear hpl hB hbl hc; omega)
      have hit := it_last hlast (by simp; (clear hpl hme hm hB hbl hc; omega))
      apply wp_tuple
      · intro _ _ _ h; cases h
      · with_reducible apply ev_item
        · intro _ _ _ q; cases q
        · walk_at "P.ev"
        · walk_at "P.ev"
        · exact hit
      · show SETS (_ :: _ :: []) (_ :: _ :: []) _ _
        walk_at "P.setall"
      obtain ⟨tt, xs, p, hk1, hk2⟩ := D.its ⟨u, rest, k⟩ List.mem_cons_self
      simp only at hk1 hk2
      cases rest with
      | nil =>
        have hnone : xs[p]? = none := by
          have := congrArg List.length hk2
          rw [List.length_drop] at this
          simp at this
          exact List.getElem?_eq_none_iff.mpr (by (clear hpl hme htl hm hB hbl hc; omega))
        apply wp_assign
        · apply own_plain (fun _ _ => by kernel_rfl) rfl
          apply ev_call
          · walk_at "P.ev"
          · exact rfl
          · walk_at "P.args"
          · exact next_end hk1 hnone
        · walk_at "P.lc"
        apply wp_if
        · with_reducible apply it_cmp
          · exact rfl
          · walk_at "P.ev"
          · walk_at "P.ev"
          · exact cmp_is .nn
        · intro _
          apply wp_expr
          · apply ev_meth
            · intro _ _; kernel_rfl
            · kernel_rfl
            · exact rfl
            · walk_at "P.ev"
            · refine ty_list (xs := t.reverse.map frV ++ [frV ⟨u, [], k⟩]) ?_
              have := (D.off _ List.mem_cons_self).2
              rw [List.getElem?_set_ne this, D.pile, List.reverse_cons, List.map_append]; rfl
            · exact evs_nil
            · refine m_pop (xs := t.reverse.map frV) (v := frV ⟨u, [], k⟩) ?_ ?_
              · have := (D.off _ List.mem_cons_self).2
                rw [List.getElem?_set_ne this, D.pile, List.reverse_cons, List.map_append]; rfl
              · simp; (clear hpl hme hm hB hbl; omega)
          apply wp_nil
          apply wp_nil
          refine ⟨.inl rfl, by (clear hpl hme htl hB hbl hc; omega), t, done, ?_, hst.pop, D.out _, ?_, ⟨?_, ?_, ?_, ?_⟩⟩
          · have : (outS R (⟨u, [], k⟩ :: t)).length = (outS R t).length := by simp [outS]
            rw [this, List.length_cons] at hme
            (clear this hpl htl hm hB hbl hc; omega)
          · rw [← hdone]; simp [outS]
          · walk_at "P.sc"
          · walk_at "P.get"
          · walk_at "P.get"
          · walk_at "P.get"
        · intro h; cases h
      | cons x r =>
        have hsome : xs[p]? = some (.str x) := by
          have := congrArg List.head? hk2
          rw [List.head?_drop] at this
          exact this
        have hxR : x ∈ R u := by
          obtain ⟨pre, hp⟩ := hst.top
          rw [hp]; simp
        have hx : x ∈ n4 := H.n4 hxR
        have hu4 : u.length ≤ 4 := by
          by_cases q : 5 ≤ u.length
          · rw [H.deep u q] at hxR; cases hxR
          · (clear hpl hme htl hm hB hbl hc; omega)
        have D1 := D.adv hk1 hk2
        have hmore : more R u x = !r.isEmpty := by
          obtain ⟨pre, hp⟩ := hst.top
          exact more_of H hp
        have hup : (pth u).length ≤ cap := by
          have := pth_len hrl
          (clear hpl hme htl hm hB hbl; omega)
        have hjoin : ∀ k s, CD ((k + 20)) 185 [.str (pth u), .str x] s (.str (pth (u ++ [x]))) := fun k s => by
          have h1 := c_join (n := k) (σ := s) (x := pth u) (l := [x]) (by have := pth_len hrl; have := (nm4 hx).2; show _ + (x.length + 1 + 0) ≤ _; (clear hup hpl hme htl hm hB hbl; omega)) (by show 1 < _; decide)
          have h2 : jfold (pth u) [x] = pth (u ++ [x]) := jfold_pth (fun y hy => by rw [List.mem_singleton.mp hy]; exact (nm4 hx).1) fun y hy => (nm4 (hun y hy)).1
          rw [h2] at h1; exact h1
        have hnew : ∀ y ∈ u ++ [x], y ∈ n4 := fun y hy => by
          rcases List.mem_append.mp hy with h | h
          · exact hun y h
          · rw [List.mem_singleton.mp h]; exact hx
        apply wp_assign
        · apply own_plain (fun _ _ => by kernel_rfl) rfl
          apply ev_call
          · walk_at "P.ev"
          · exact rfl
          · walk_at "P.args"
          · exact next_at hk1 hsome
        · walk_at "P.lc"
        apply wp_if
        · with_reducible apply it_cmp
          · exact rfl
          · walk_at "P.ev"
          · walk_at "P.ev"
          · exact cmp_is (.sn x)
        · intro h; cases h
        · intro _
          generalize hs1 : s.set k (.iter tt xs (p + 1)) = s1 at D1 ⊢
          have hpile1 := D1.pile
          have hcutp : cutL ((⟨u, r, k⟩ :: t : List Fr).reverse.map frV) none (some (-1)) = t.reverse.map frV := by
            rw [cut_but, List.reverse_cons, List.map_append]
            exact List.dropLast_concat
          have hmk : (t.reverse.map fmark) = mk R u := hst.marks H
          apply wp_assign
          · apply own_comp
            refine comp_rule (S := (dAt 37).scope.names) (v := .list (t.reverse.map frV)) (σ1 := s1) (σ2 := s1) (xs := t.reverse.map frV) (taken := none) (pileF (⟨u, r, k⟩ :: t)) ?zq1 ?zq2 ?zq3 ?zq4 ?zq5 ?zq6
            case zq1 => walk_at "P.sc"
            case zq2 => kernel_rfl
            case zq3 =>
              rw [← hcutp]
              with_reducible apply ev_slice
              · walk_at "P.ev"
              · walk_at "P.opt"
              · walk_at "P.opt"
              · exact rfl
              · exact rfl
              · exact sl_list (lists_own hpile1) (by simp; (clear hup hu4 hpl hme hm hB hbl; omega))
            case zq4 => exact src_list
            case zq5 => simp; (clear hup hu4 hpl hme hm hB hbl; omega)
            case zq6 =>
              intro v hvm E1 f1 f2
              obtain ⟨g, hg, rfl⟩ := List.mem_map.mp hvm
              have hg2 : g ∈ (⟨u, r, k⟩ :: t : List Fr) := List.mem_cons_of_mem _ (List.mem_reverse.mp hg)
              obtain ⟨t3, xs3, p3, g1, g2⟩ := D1.its g hg2
              refine ⟨(E1.st "above" (.str (pth g.u))).st "one" (.own g.k), ?_, by rw [st_sc, st_sc, f1], ?_, true, ifs_nil, (fun h => by cases h), fun _ => ⟨.str (fmark g), ?_, pileF_at D1.adr hg2⟩⟩
              · refine .tup ?_
                show SETS (_ :: _ :: []) (_ :: _ :: []) _ _
                apply setAll_cons
                · exact isLC_of f1 (by kernel_rfl)
                · apply setAll_cons
                  · exact isLC_of (st_sc.trans f1) (by kernel_rfl)
                  · exact setAll_nil
              · rw [st_kap (by rw [st_sc, f1]; kernel_rfl), st_kap (by rw [f1]; kernel_rfl), f2]
              · have e0 : AV.str (fmark g) = if (!g.rest.isEmpty) then AV.str "| " else AV.str "  " := by
                  unfold fmark
                  cases g.rest.isEmpty <;> rfl
                rw [e0]
                apply ev_if
                · with_reducible apply it_cmp
                  · exact rfl
                  · apply ev_call
                    · apply evp_name
                      refine get_ne (by kernel_rfl) (get_ne (by kernel_rfl) ?_)
                      exact get_glob f1 (by kernel_rfl) g_length_hint
                    · exact rfl
                    · apply args_cons
                      · exact rfl
                      · apply evp_name
                        exact get_hit (isLC_of (st_sc.trans f1) (by kernel_rfl))
                      · apply args_cons
                        · exact rfl
                        · walk_at "P.ev"
                        · exact args_nil
                    · exact call_d (hint_at g1)
                  · walk_at "P.ev"
                  · exact cmp_gt_int.cast (left_pos g2)
                · intro _; walk_at "P.ev"
                · intro _; walk_at "P.ev"
          · walk_at "P.lc"
          have hf : (t.reverse.map frV).filterMap (pileF (⟨u, r, k⟩ :: t)) = (mk R u).map .str := by
            rw [fm_map (h := fun g => AV.str (fmark g)) _ fun g hg => pileF_at D1.adr (List.mem_cons_of_mem _ (List.mem_reverse.mp hg)), ← hmk, List.map_map]
            rfl
          rw [hf]
          change WP _ _ _ (s1 ++ [AO.list ((mk R u).map AV.str)]) _
          change WP _ _ (AE.st _ _ (AV.own s1.length)) _ _
          have e0 : (if (!r.isEmpty) then AV.str "+-" else AV.str "'-") = AV.str (mark2 R u x) := by
            unfold mark2
            rw [hmore]
            cases r.isEmpty <;> rfl
          obtain ⟨t3, xs3, p3, g1, g2⟩ := D1.its ⟨u, r, k⟩ List.mem_cons_self
          simp only at g1 g2
          have hmkl : (mk R u).length = u.length := by simp [mk]
          apply wp_expr
          · apply ev_meth
            · intro _ _; kernel_rfl
            · kernel_rfl
            · exact rfl
            · walk_at "P.ev"
            · exact ty_list sto_new
            · apply evs_cons
              · exact rfl
              · apply ev_if
                · with_reducible apply it_cmp
                  · exact rfl
                  · apply ev_call
                    · walk_at "P.ev"
                    · exact rfl
                    · walk_at "P.args"
                    · exact call_d (hint_at (sto_app g1))
                  · walk_at "P.ev"
                  · exact cmp_gt_int.cast (left_pos g2)
                · intro _; walk_at "P.ev"
                · intro _; walk_at "P.ev"
              · exact evs_nil
            · exact m_append sto_new (by rw [List.length_map]; (clear hup hpl hme htl hm hB hbl; omega))
          rw [e0, set_new]
          rw [show (mk R u).map AV.str ++ [AV.str (mark2 R u x)] = (mk R u ++ [mark2 R u x]).map AV.str by simp]
          have hm2 := marks_two (R := R) (u := u) (x := x)
          have hml : (mk R u ++ [mark2 R u x]).length ≤ 5 := by simp; (clear hup hpl hme htl hm hB hbl hc; omega)
          have hjl := join0_len hm2
          have hdl : done.length ≤ 1364 := by
            have := congrArg List.length hdone
            rw [List.length_append] at this
            (clear hjl hml hmkl hup hu4 hpl hme htl hm hbl hc; omega)
          apply wp_expr
          · apply ev_meth
            · intro _ _; kernel_rfl
            · kernel_rfl
            · exact rfl
            · walk_at "P.ev"
            · exact ty_list (sto_app D1.lines)
            · apply evs_cons
              · exact rfl
              · with_reducible apply ev_bin
                · apply ev_meth
                  · intro _ _; kernel_rfl
                  · kernel_rfl
                  · exact rfl
                  · walk_at "P.ev"
                  · exact ty_str
                  · walk_at "P.evs"
                  · exact m_join (lists_own sto_new) (joinOk0 hm2 (by (clear hdl hjl hmkl hup hu4 hpl hme htl hm hB hbl hc; omega)))
                · walk_at "P.ev"
                · exact bin_add_str (by have := (nm4 hx).2; (clear hdl hmkl hup hu4 hpl hme htl hm hB hbl; omega))
              · exact evs_nil
            · exact m_append (sto_app D1.lines) (by rw [List.length_map]; (clear hjl hml hmkl hup hu4 hpl hme htl hm hB hbl; omega))
          rw [← line_snoc]
          rw [show (done.map fun p => AV.str (lineOf R p)) ++ [AV.str (lineOf R (u ++ [x]))] = (done ++ [u ++ [x]]).map fun p => AV.str (lineOf R p) by simp]
          have D2 := (D1.push (AO.list ((mk R u ++ [mark2 R u x]).map AV.str))).line ((done ++ [u ++ [x]]).map fun p => AV.str (lineOf R p))
          generalize hs2 : (s1 ++ [AO.list ((mk R u ++ [mark2 R u x]).map AV.str)]).set base.length (AO.list ((done ++ [u ++ [x]]).map fun p => AV.str (lineOf R p))) = s2 at D2 ⊢
          apply wp_assign
          · apply own_plain (fun _ _ => by kernel_rfl) rfl
            apply ev_get
            · intro _ _; kernel_rfl
            · kernel_rfl
            · exact rfl
            · exact rfl
            · walk_at "P.ev"
            · apply ev_call
              · walk_at "P.ev"
              · exact rfl
              · walk_at "P.args"
              · exact call_d (hjoin _ _)
          · walk_at "P.lc"
          rw [hbk (u ++ [x]) hnew]
          have hR4 := H.four (u ++ [x])
          have hpile2 := D2.pile
          have hpl2 : ((⟨u, r, k⟩ :: t : List Fr).reverse.map frV).length ≤ 6000 := by simp; (clear hR4 hdl hjl hml hmkl hup hu4 hpl hme hm hB hbl hc; omega)
          apply wp_expr
          · apply ev_meth
            · intro _ _; kernel_rfl
            · kernel_rfl
            · exact rfl
            · walk_at "P.ev"
            · exact ty_list hpile2
            · apply evs_cons
              · exact rfl
              · with_reducible apply ev_tup
                · apply evs_cons
                  · exact rfl
                  · apply ev_call
                    · walk_at "P.ev"
                    · exact rfl
                    · walk_at "P.args"
                    · exact call_d (hjoin _ _)
                  · apply evs_cons
                    · exact rfl
                    · apply ev_call
                      · walk_at "P.ev"
                      · exact rfl
                      · apply args_cons
                        · exact rfl
                        · apply ev_if
                          · with_reducible apply it_cmp
                            · exact rfl
                            · with_reducible apply ev_bin
                              · apply ev_call
                                · walk_at "P.ev"
                                · exact rfl
                                · walk_at "P.args"
                                · exact len_own hpile2 (by (clear hR4 hdl hjl hml hmkl hup hu4 hpl hme htl hm hB hbl; omega))
                              · walk_at "P.ev"
                              · exact bin_mod (by decide)
                            · walk_at "P.ev"
                            · exact eq_data (rd_pd rfl) (rd_pd rfl) (by unfold PyData.depth; exact Nat.zero_le _)
                          · intro _
                            apply ev_call
                            · walk_at "P.ev"
                            · exact rfl
                            · walk_at "P.args"
                            · exact tup_of (by rw [List.length_map]; (clear hpl2 hdl hjl hml hmkl hup hu4 hpl hme htl hm hB hbl; omega))
                          · intro _; walk_at "P.ev"
                        · exact args_nil
                      · exact iter_of
                    · exact evs_nil
                · exact Nat.le_of_ble_eq_true rfl
              · exact evs_nil
            · exact m_append (sto_app hpile2) (by (clear hR4 hdl hjl hml hmkl hup hu4 hpl hme htl hm hB hbl; omega))
          apply wp_nil
          apply wp_nil
          refine ⟨.inl rfl, by (clear hpl2 hR4 hdl hjl hml hmkl hup hu4 hpl hme htl hB hbl hc; omega), ⟨u ++ [x], R (u ++ [x]), s2.length⟩ :: ⟨u, r, k⟩ :: t, done ++ [u ++ [x]], ?_, hst.take, D2.more (u ++ [x]) (R (u ++ [x])) _, ?_, ⟨?_, ?_, ?_, ?_⟩⟩
          · rw [out_take H (k' := s2.length)] at hme
            simp only [List.length_cons] at hme ⊢
            (clear hpl2 hR4 hdl hjl hml hmkl hup hu4 hpl htl hm hB hbl hc; omega)
          · rw [← hdone, out_take H (k' := s2.length)]; simp
          · walk_at "P.sc"
          · walk_at "P.get"
          · walk_at "P.get"
          · walk_at "P.get"
end
end

noncomputable section
open PySem
noncomputable def markSigns : Str := "+-|' "
theorem join0_ch (l : List Str) : ch (Txt.join "" l) = l.flatMap ch := by
  rw [txt_join]
  have e0 : ch (Str.ofString "") = [] := by kernel_rfl
  have key : ∀ l : List Str, ch (Str.join "" l) = l.flatMap ch := by
    intro l
    induction l with
    | nil => rfl
    | cons x l ih =>
      cases l with
      | nil => show ch x = _; simp
      | cons y r =>
        show ch (x ++ Str.ofString "" ++ Str.join "" (y :: r)) = _
        rw [ch_app, ch_app, e0, ih, List.append_nil]; rfl
  exact key l
theorem mark_sign {R : List Str → List Str} {u : List Str} {x : Str} : ∀ y ∈ mk R u ++ [mark2 R u x], (∀ c ∈ ch y, markSigns.cps.contains c = true) ∧ (ch y).length = 2 := by
  have key : ∀ y ∈ ([Str.ofString "| ", Str.ofString "  ", Str.ofString "+-", Str.ofString "'-"] : List Str), (∀ c ∈ ch y, markSigns.cps.contains c = true) ∧ (ch y).length = 2 := by
    have h : (([Str.ofString "| ", Str.ofString "  ", Str.ofString "+-", Str.ofString "'-"] : List Str).all fun y => (ch y).all (fun c => markSigns.cps.contains c) && Nat.beq (ch y).length 2) = true := by kernel_rfl
    intro y hy
    have := List.all_eq_true.mp h y hy
    rw [Bool.and_eq_true] at this
    exact ⟨List.all_eq_true.mp this.1, Nat.eq_of_beq_eq_true this.2⟩
  intro y hy
  apply key
  rcases List.mem_append.mp hy with h | h
  · unfold mk at h
    obtain ⟨k, _, rfl⟩ := List.mem_map.mp h
    unfold mark
    split <;> simp
  · rw [List.mem_singleton.mp h]
    unfold mark2
    split <;> simp
theorem n4_first {x : Str} (hx : x ∈ n4) : ∃ c t, ch x = c :: t ∧ markSigns.cps.contains c = false := by
  have h : (n4.all fun x => match ch x with | c :: _ => !markSigns.cps.contains c | [] => false) = true := by kernel_rfl
  have := List.all_eq_true.mp h x hx
  cases q : ch x with
  | nil => rw [q] at this; cases this
  | cons c t =>
    rw [q] at this
    exact ⟨c, t, rfl, by simpa using this⟩
theorem drop_signs {p : Nat → Bool} {a b : List Nat} (ha : ∀ c ∈ a, p c = true) (hb : ∃ c t, b = c :: t ∧ p c = false) : (a ++ b).dropWhile p = b := by
  induction a with
  | nil =>
    obtain ⟨c, t, rfl, h⟩ := hb
    rw [List.nil_append, List.dropWhile_cons_of_neg (by rw [h]; simp)]
  | cons d a ih =>
    rw [List.cons_append, List.dropWhile_cons_of_pos (ha d List.mem_cons_self)]
    exact ih fun c hc => ha c (List.mem_cons_of_mem _ hc)
theorem line_name {R : List Str → List Str} {u : List Str} {x : Str} (hx : x ∈ n4) : Txt.lstripChars (lineOf R (u ++ [x])) markSigns = x := by
  apply ch_ext
  rw [lstrip_ch, line_snoc, ch_app, join0_ch]
  refine drop_signs (fun c hc => ?_) (n4_first hx)
  obtain ⟨y, hy, hc⟩ := List.mem_flatMap.mp hc
  exact (mark_sign y hy).1 c hc
theorem flat_two : ∀ {l : List Str}, (∀ y ∈ l, (ch y).length = 2) → (l.flatMap ch).length = 2 * l.length
  | [], _ => rfl
  | y :: l, h => by
    rw [List.flatMap_cons, List.length_append, h y List.mem_cons_self, flat_two fun z hz => h z (List.mem_cons_of_mem _ hz), List.length_cons]
    omega
theorem line_len {R : List Str → List Str} {u : List Str} {x : Str} : (lineOf R (u ++ [x])).length = 2 * (u.length + 1) + x.length := by
  rw [ch_len, line_snoc, ch_app, join0_ch, List.length_append, flat_two fun y hy => (mark_sign y hy).2]
  simp [mk, ch_len]
/-- each place's folder lies on the way to the place before it -/
inductive RB : List Str → List (List Str) → Prop
  | nil {q : List Str} : RB q []
  | cons {q u : List Str} {x : Str} {l : List (List Str)} (h1 : u <+: q) (h2 : RB (u ++ [x]) l) : RB q ((u ++ [x]) :: l)
theorem rb_trav {R : List Str → List Str} : ∀ (d : Nat) (u q : List Str) (l : List (List Str)), u <+: q → (∀ q', u <+: q' → RB q' l) → RB q (trav R d u ++ l)
  | 0, u, q, l, h, k => k q h
  | d + 1, u, q, l, h, k => by
    have key : ∀ (xs : List Str) (q : List Str), u <+: q → RB q ((xs.flatMap fun x => (u ++ [x]) :: trav R d (u ++ [x])) ++ l) := by
      intro xs
      induction xs with
      | nil => intro q h; exact k q h
      | cons x xs ih =>
        intro q h
        rw [List.flatMap_cons, List.append_assoc, List.cons_append]
        refine .cons h ?_
        refine rb_trav d (u ++ [x]) (u ++ [x]) _ (List.prefix_refl _) fun q' hq' => ?_
        exact ih q' ((List.prefix_append u [x]).trans hq')
    exact key (R u) q h
theorem rb_below {R : List Str → List Str} : RB [] (below R []) := by
  have := rb_trav (R := R) 5 [] [] [] (List.prefix_refl _) fun _ _ => .nil
  rw [List.append_nil] at this
  exact this
theorem trav_mem {R : List Str → List Str} (H : Rows R) : ∀ (d : Nat) (u : List Str), ∀ p ∈ trav R d u, ∃ x r, p = u ++ x :: r ∧ (∀ y ∈ x :: r, y ∈ n4) ∧ (x :: r).length ≤ d ∧ x ∈ R u
  | 0, u, p, h => by cases h
  | d + 1, u, p, h => by
    obtain ⟨x, hx, h⟩ := List.mem_flatMap.mp (show p ∈ (R u).flatMap fun x => (u ++ [x]) :: trav R d (u ++ [x]) from h)
    rcases List.mem_cons.mp h with rfl | h
    · exact ⟨x, [], rfl, by intro y hy; rw [List.mem_singleton.mp hy]; exact H.n4 hx, by simp, hx⟩
    · obtain ⟨y, r, e, h1, h2, _⟩ := trav_mem H d (u ++ [x]) p h
      refine ⟨x, y :: r, by rw [e]; simp, ?_, by rw [List.length_cons]; omega, hx⟩
      intro z hz
      rcases List.mem_cons.mp hz with rfl | hz
      · exact H.n4 hx
      · exact h1 z hz
theorem below_nms {R : List Str → List Str} (H : Rows R) {p : List Str} (h : p ∈ below R []) : (∀ y ∈ p, y ∈ n4) ∧ p.length ≤ 5 ∧ p ≠ [] := by
  obtain ⟨x, r, e, h1, h2, _⟩ := trav_mem H 5 [] p h
  rw [e]
  exact ⟨h1, h2, by simp⟩
end

noncomputable section
open PySem
section
variable {n : Nat} {σ : Sto}
theorem fn_readback : fnAt 266 = some (dAt 40) := by kernel_rfl
theorem src_rng {j : Int} (h : -1000000 ≤ j ∧ j ≤ 1000000) : SRC (.rng 0 j 1) σ ((rngList 0 j 1).map .int) σ none := src_rng0 ⟨.inl rfl, by decide, by decide, h.1, h.2⟩
theorem rng_len {j : Int} : (rngList 0 j 1).length = j.toNat := by
  unfold rngList
  rw [if_pos rfl]
  simp
structure RkE (E : AE) (b : Nat) : Prop where
  sc : E.sc = (dAt 40).scope.names
  paths : E.get "paths" = some (.own b)
inductive RkI (R : List Str → List Str) (base : Sto) (xs : List AV) (E : AE) (s : Sto) : Prop where
  | mk (done rest : List (List Str)) (prev : List Str) : below R [] = done ++ rest → xs = rest.map (fun p => AV.str (lineOf R p)) → s = base ++ [AO.list (done.map fun p => AV.str (pth p))] → RB prev rest → RkE E base.length → E.get "here" = some (.str (pth prev)) → E.get "deep" = some (.int prev.length) → (∀ y ∈ prev, y ∈ n4) → prev.length ≤ 5 → RkI R base xs E s
set_option maxHeartbeats 1000000 in
theorem c_readback {R : List Str → List Str} (H : Rows R) :
    CD ((n + 70)) 266 [.list ((below R []).map fun p => .str (lineOf R p))] σ (.list ((below R []).map fun p => .str (pth p))) := by
  have hc : cap = 100000 := rfl
  have hbl : (σ.map AO.lock).length = σ.length := List.length_map ..
  have hB := below_len H
  refine callD_intro (E := ?ze) rfl rfl fn_readback ?_ ?_
  rotate_left
  · show bindP _ (_ :: _) _ _ = _
    walk_at "P.bind"
  rw [← hbl]
  generalize σ.map AO.lock = base
  walk_at "P.as"
  walk_at "P.as"
  walk_at "P.as"
  refine wp_for (v := .list ((below R []).map fun p => .str (lineOf R p))) (σ1 := base ++ [AO.list []]) (σ2 := base ++ [AO.list []]) (xs := (below R []).map fun p => .str (lineOf R p)) (taken := none) ?zp ?z1 ?z2 (RkI R base) ?z3 ?zturn ?z4
  case zp => exact rfl
  case z1 => walk_at "P.ev"
  case z2 => exact src_list
  case z3 =>
    refine ⟨[], below R [], [], rfl, rfl, rfl, rb_below, ⟨?_, ?_⟩, ?_, ?_, ?_, Nat.zero_le _⟩
    · walk_at "P.sc"
    · walk_at "P.get"
    · rw [show pth [] = Str.ofString "/" from by kernel_rfl]
      walk_at "P.get"
    · show _ = some (AV.int 0)
      walk_at "P.get"
    · intro y h; cases h
  case z4 =>
    rintro E s ⟨done, rest, prev, q0, q1, rfl, q3, ⟨e1, e2⟩, e3, e4, q4, q5⟩
    have : rest = [] := by cases rest with
      | nil => rfl
      | cons _ _ => cases q1
    subst this
    rw [List.append_nil] at q0
    apply wp_ret
    · walk_at "P.ev"
    · rw [q0]
      exact fz_own (Nat.le_refl _) sto_new (fzL_map fun _ _ => rfl)
  case zturn =>
    rintro v vs E s ⟨done, rest, prev, q0, q1, rfl, q3, ⟨e1, e2⟩, e3, e4, q4, q5⟩
    cases q3 with
    | nil => cases q1
    | @cons _ u x rest hu hrest =>
      cases q1
      have hp := below_nms H (p := u ++ [x]) (by rw [q0]; simp)
      have hx : x ∈ n4 := hp.1 x (by simp)
      have hun : ∀ y ∈ u, y ∈ n4 := fun y hy => hp.1 y (by simp [hy])
      have hul : u.length + 1 ≤ 5 := by have := hp.2.1; simpa using this
      have hxl : x.length ≤ cap := by have := (nm4 hx).2; (clear hul hp q5 hB hbl; omega)
      have hll : (lineOf R (u ++ [x])).length ≤ cap := by rw [line_len]; have := (nm4 hx).2; (clear hxl hp q5 hB hbl; omega)
      have hname : Txt.lstripChars (lineOf R (u ++ [x])) (Str.ofString "+-|' ") = x := line_name hx
      have hlev : Int.fdiv (((lineOf R (u ++ [x])).length : Int) - (x.length : Int)) 2 = ((u.length + 1 : Nat) : Int) := by
        rw [line_len]
        have : ((2 * (u.length + 1) + x.length : Nat) : Int) - (x.length : Int) = 2 * ((u.length + 1 : Nat) : Int) := by (clear hll hxl hul hp q5 hB hbl hc; omega)
        rw [this, Int.fdiv_eq_ediv_of_nonneg _ (by decide)]
        (clear this hll hxl hul hp q5 hB hbl hc; omega)
      have hpre := hu.length_le
      refine ⟨E.st "line" (.str (lineOf R (u ++ [x]))), bt_st (by walk_at "P.lc"), ?_⟩
      walk_at "P.as"
      rw [hname]
      walk_at "P.as"
      rw [hlev]
      have hj : (prev.length : Int) + 1 - ((u.length + 1 : Nat) : Int) = ((prev.length - u.length : Nat) : Int) := by (clear hlev hll hxl hul hp q5 hB hbl hc; omega)
      refine wp_for (v := .rng 0 ((prev.length - u.length : Nat) : Int) 1) (σ1 := base ++ [AO.list (done.map fun p => AV.str (pth p))]) (σ2 := base ++ [AO.list (done.map fun p => AV.str (pth p))]) (xs := (rngList 0 ((prev.length - u.length : Nat) : Int) 1).map .int) (taken := none) ?yp ?y1 ?y2
        (fun xs E s => s = base ++ [AO.list (done.map fun p => AV.str (pth p))] ∧ RkE E base.length ∧ E.get "name" = some (.str x) ∧ E.get "level" = some (.int ((u.length + 1 : Nat) : Int)) ∧ E.get "here" = some (.str (pth (prev.take (u.length + xs.length)))) ∧ u.length + xs.length ≤ prev.length) ?y3 ?yturn ?y4
      case yp => exact rfl
      case y1 =>
        rw [← hj]
        walk_at "P.ev"
      case y2 => exact src_rng (by (clear hj hpre hlev hll hxl hul hp hB hbl hc; omega))
      case y3 =>
        have hl : ((rngList 0 ((prev.length - u.length : Nat) : Int) 1).map AV.int).length = prev.length - u.length := by rw [List.length_map, rng_len]; (clear hj hpre hlev hll hxl hul hp q5 hB hbl hc; omega)
        refine ⟨rfl, ⟨?_, ?_⟩, ?_, ?_, ?_, ?_⟩
        · walk_at "P.sc"
        · walk_at "P.get"
        · walk_at "P.get"
        · walk_at "P.get"
        · rw [hl, List.take_of_length_le (by (clear hl hj hpre hlev hll hxl hul hp q5 hB hbl hc; omega))]
          walk_at "P.get"
        · rw [hl]; (clear hl hj hlev hll hxl hul hp q5 hB hbl hc; omega)
      case yturn =>
        rintro w ws E s ⟨rfl, ⟨f1, f2⟩, f3, f4, f5, f6⟩
        rw [List.length_cons] at f5 f6
        refine ⟨E.st "step" w, bt_st (by walk_at "P.lc"), ?_⟩
        have hlt : u.length + ws.length < prev.length := by (clear hj hpre hlev hll hxl hul hp q5 hB hbl hc; omega)
        have htk : prev.take (u.length + (ws.length + 1)) = prev.take (u.length + ws.length) ++ [prev[u.length + ws.length]] := by
          rw [← Nat.add_assoc, List.take_add_one, List.getElem?_eq_getElem hlt]; rfl
        have hn1 : ∀ y ∈ prev.take (u.length + ws.length), Nm y := fun y hy => (nm4 (q4 y (List.mem_of_mem_take hy))).1
        have hn2 : Nm prev[u.length + ws.length] := (nm4 (q4 _ (List.getElem_mem hlt))).1
        have hdir : ∀ k s, CD ((k + 20)) 206 [.str (pth (prev.take (u.length + (ws.length + 1))))] s (.str (pth (prev.take (u.length + ws.length)))) := fun k s => by
          have hl : (pth (prev.take (u.length + (ws.length + 1)))).length ≤ cap := by
            have := pth_len (l := prev.take (u.length + (ws.length + 1))) fun y hy => (nm4 (q4 y (List.mem_of_mem_take hy))).2
            have := List.length_take_le (u.length + (ws.length + 1)) prev
            have h6 : (prev.take (u.length + (ws.length + 1))).length ≤ prev.length := by rw [List.length_take]; (clear this f6 hj hpre hlev hll hxl hul hp q5 hB hbl hc; omega)
            (clear h6 hj hpre hlev hll hxl hul hp hB hbl; omega)
          have := c_dirname (n := k) (σ := s) hl
          rw [htk, head_pth hn2 hn1] at this
          rw [htk]; exact this
        apply wp_assign
        · apply own_plain (fun _ _ => by kernel_rfl) rfl
          apply ev_call
          · walk_at "P.ev"
          · exact rfl
          · walk_at "P.args"
          · exact call_d (hdir _ _)
        · walk_at "P.lc"
        apply wp_nil
        refine ⟨.inl rfl, rfl, ⟨?_, ?_⟩, ?_, ?_, ?_, by (clear hj hpre hlev hll hxl hul hp q5 hB hbl hc; omega)⟩
        · walk_at "P.sc"
        · walk_at "P.get"
        · walk_at "P.get"
        · walk_at "P.get"
        · walk_at "P.get"
      case y4 =>
        rintro E s ⟨rfl, ⟨f1, f2⟩, f3, f4, f5, f6⟩
        have hut : prev.take u.length = u := (List.prefix_iff_eq_take.mp hu).symm
        rw [List.length_nil, Nat.add_zero, hut] at f5
        change WP _ _ _ (base ++ [AO.list (done.map fun p => AV.str (pth p))]) _
        have hjoin : ∀ k s, CD ((k + 20)) 185 [.str (pth u), .str x] s (.str (pth (u ++ [x]))) := fun k s => by
          have h1 := c_join (n := k) (σ := s) (x := pth u) (l := [x]) (by have := pth_len (fun y hy => (nm4 (hun y hy)).2); have := (nm4 hx).2; show _ + (x.length + 1 + 0) ≤ _; (clear f6 hj hpre hlev hll hxl hp q5 hB hbl; omega)) (by show 1 < _; decide)
          have h2 : jfold (pth u) [x] = pth (u ++ [x]) := jfold_pth (fun y hy => by rw [List.mem_singleton.mp hy]; exact (nm4 hx).1) fun y hy => (nm4 (hun y hy)).1
          rw [h2] at h1; exact h1
        apply wp_assign
        · apply own_plain (fun _ _ => by kernel_rfl) rfl
          apply ev_call
          · walk_at "P.ev"
          · exact rfl
          · walk_at "P.args"
          · exact call_d (hjoin _ _)
        · walk_at "P.lc"
        walk_at "P.as"
        have hdl : done.length < cap := by
          have := congrArg List.length q0
          rw [List.length_append] at this
          (clear f6 hj hpre hlev hll hxl hul hp q5 hbl; omega)
        apply wp_expr
        · apply ev_meth
          · intro _ _; kernel_rfl
          · kernel_rfl
          · exact rfl
          · walk_at "P.ev"
          · exact ty_list sto_new
          · walk_at "P.evs"
          · exact m_append sto_new (by rw [List.length_map]; exact hdl)
        rw [set_new]
        apply wp_nil
        refine ⟨.inl rfl, done ++ [u ++ [x]], rest, u ++ [x], by rw [q0]; simp, rfl, by simp, hrest, ⟨?_, ?_⟩, ?_, ?_, hp.1, hp.2.1⟩
        · walk_at "P.sc"
        · walk_at "P.get"
        · walk_at "P.get"
        · rw [List.length_append, List.length_singleton]
          walk_at "P.get"
end
end

noncomputable section
open PySem
noncomputable def N4 (p : List Str) : Prop := ∀ y ∈ p, y ∈ n4
theorem N4.tl {x : Str} {p : List Str} (h : N4 (x :: p)) : x ∈ n4 ∧ N4 p := ⟨h x List.mem_cons_self, fun y hy => h y (List.mem_cons_of_mem _ hy)⟩
theorem ltS_trans {x y z : Str} (hx : x ∈ n4) (hy : y ∈ n4) (hz : z ∈ n4) (h1 : ltS x y = true) (h2 : ltS y z = true) : ltS x z = true := by
  have key : (n4.all fun x => n4.all fun y => n4.all fun z => !(ltS x y && ltS y z) || ltS x z) = true := by kernel_rfl
  have := all_of (all_of (all_of key x hx) y hy) z hz
  simp only [h1, h2, Bool.and_true, Bool.not_true, Bool.false_or] at this
  exact this
theorem ltL_cons {x y : Str} {p q : List Str} : ltL (x :: p) (y :: q) = if sq x y then ltL p q else ltS x y := rfl
theorem ltL_irr : ∀ p : List Str, ltL p p = false
  | [] => rfl
  | x :: p => by rw [ltL_cons, sq_refl, if_pos rfl, ltL_irr p]
theorem ltL_trans : ∀ {p q r : List Str}, N4 p → N4 q → N4 r → ltL p q = true → ltL q r = true → ltL p r = true
  | [], [], _, _, _, _, h, _ => by cases h
  | [], y :: q, [], _, _, _, _, h => by cases h
  | [], y :: q, z :: r, _, _, _, _, _ => rfl
  | x :: p, [], _, _, _, _, h, _ => by cases h
  | x :: p, y :: q, [], _, _, _, _, h => by cases h
  | x :: p, y :: q, z :: r, hp, hq, hr, h1, h2 => by
    obtain ⟨hx, hp2⟩ := hp.tl
    obtain ⟨hy, hq2⟩ := hq.tl
    obtain ⟨hz, hr2⟩ := hr.tl
    rw [ltL_cons] at h1 h2 ⊢
    cases q1 : sq x y with
    | true =>
      have e := sq_eq q1
      subst e
      rw [q1, if_pos rfl] at h1
      cases q2 : sq x z with
      | true =>
        rw [q2, if_pos rfl] at h2
        rw [if_pos rfl]
        exact ltL_trans hp2 hq2 hr2 h1 h2
      | false =>
        rw [q2] at h2
        exact h2
    | false =>
      rw [q1] at h1
      have h1 : ltS x y = true := h1
      cases q2 : sq y z with
      | true =>
        have e := sq_eq q2
        subst e
        rw [q1]
        exact h1
      | false =>
        rw [q2] at h2
        have h3 := ltS_trans hx hy hz h1 h2
        rw [sq_no (ltS_asym hx hz h3).2]
        exact h3
theorem ltL_tot : ∀ {p q : List Str}, N4 p → N4 q → p ≠ q → ltL p q = false → ltL q p = true
  | [], [], _, _, h, _ => absurd rfl h
  | [], y :: q, _, _, _, h => by cases h
  | x :: p, [], _, _, _, _ => rfl
  | x :: p, y :: q, hp, hq, hn, h => by
    obtain ⟨hx, hp2⟩ := hp.tl
    obtain ⟨hy, hq2⟩ := hq.tl
    rw [ltL_cons] at h ⊢
    cases q1 : sq x y with
    | true =>
      have e := sq_eq q1
      subst e
      rw [sq_refl, if_pos rfl]
      rw [q1, if_pos rfl] at h
      exact ltL_tot hp2 hq2 (fun e => hn (by rw [e])) h
    | false =>
      have hne : x ≠ y := fun e => by rw [e, sq_refl] at q1; cases q1
      rw [q1] at h
      rw [sq_no (Ne.symm hne)]
      exact ltS_tot hx hy hne h
theorem ltL_asym {p q : List Str} (hp : N4 p) (hq : N4 q) (h : ltL p q = true) : ltL q p = false := by
  cases h2 : ltL q p with
  | false => rfl
  | true =>
    have := ltL_trans hp hq hp h h2
    rw [ltL_irr] at this
    cases this
theorem ltL_pre : ∀ (u p q : List Str), ltL (u ++ p) (u ++ q) = ltL p q
  | [], _, _ => rfl
  | x :: u, p, q => by
    show (if sq x x then ltL (u ++ p) (u ++ q) else ltS x x) = _
    rw [sq_refl, if_pos rfl, ltL_pre u p q]
noncomputable abbrev Srt (l : List (List Str)) : Prop := l.Pairwise fun p q => ltL p q = true
theorem srt_eq : ∀ {l m : List (List Str)}, Srt l → Srt m → (∀ p ∈ l, N4 p) → (∀ p, p ∈ l ↔ p ∈ m) → l = m
  | [], [], _, _, _, _ => rfl
  | [], b :: m, _, _, _, h => by have := (h b).mpr List.mem_cons_self; cases this
  | a :: l, [], _, _, _, h => by have := (h a).mp List.mem_cons_self; cases this
  | a :: l, b :: m, hl, hm, hn, h => by
    obtain ⟨l1, l2⟩ := List.pairwise_cons.mp hl
    obtain ⟨m1, m2⟩ := List.pairwise_cons.mp hm
    have ha := (h a).mp List.mem_cons_self
    have hb := (h b).mpr List.mem_cons_self
    have e : a = b := by
      rcases List.mem_cons.mp ha with e | ha
      · exact e
      · rcases List.mem_cons.mp hb with e | hb
        · exact e.symm
        · have h1 := m1 a ha
          have h2 := ltL_asym (hn a List.mem_cons_self) (hn b (List.mem_cons_of_mem _ hb)) (l1 b hb)
          rw [h1] at h2; cases h2
    subst e
    congr 1
    refine srt_eq l2 m2 (fun p hp => hn p (List.mem_cons_of_mem _ hp)) fun p => ?_
    constructor
    · intro hp
      rcases List.mem_cons.mp ((h p).mp (List.mem_cons_of_mem _ hp)) with e | h2
      · have := l1 p hp
        rw [e, ltL_irr] at this; cases this
      · exact h2
    · intro hp
      rcases List.mem_cons.mp ((h p).mpr (List.mem_cons_of_mem _ hp)) with e | h2
      · have := m1 p hp
        rw [e, ltL_irr] at this; cases this
      · exact h2
theorem mem_insL {p x : List Str} : ∀ {l : List (List Str)}, p ∈ insL x l ↔ p = x ∨ p ∈ l
  | [] => by simp [insL]
  | y :: r => by
    unfold insL
    split
    · simp
    · rw [List.mem_cons, mem_insL, List.mem_cons]
      constructor
      · rintro (h | h | h)
        · exact .inr (.inl h)
        · exact .inl h
        · exact .inr (.inr h)
      · rintro (h | h | h)
        · exact .inr (.inl h)
        · exact .inl h
        · exact .inr (.inr h)
theorem srt_insL {x : List Str} (hx : N4 x) : ∀ {l : List (List Str)}, Srt l → (∀ p ∈ l, N4 p) → x ∉ l → Srt (insL x l)
  | [], _, _, _ => List.pairwise_singleton _ _
  | y :: r, hs, hn, hm => by
    obtain ⟨h1, h2⟩ := List.pairwise_cons.mp hs
    unfold insL
    cases q : ltL x y with
    | true =>
      rw [if_pos rfl]
      refine List.pairwise_cons.mpr ⟨fun p hp => ?_, hs⟩
      rcases List.mem_cons.mp hp with rfl | hp
      · exact q
      · exact ltL_trans hx (hn y List.mem_cons_self) (hn p (List.mem_cons_of_mem _ hp)) q (h1 p hp)
    | false =>
      rw [if_neg (by simp)]
      have hne : x ≠ y := fun e => hm (by rw [e]; exact List.mem_cons_self)
      refine List.pairwise_cons.mpr ⟨fun p hp => ?_, srt_insL hx h2 (fun p hp => hn p (List.mem_cons_of_mem _ hp)) fun h => hm (List.mem_cons_of_mem _ h)⟩
      rcases mem_insL.mp hp with rfl | hp
      · exact ltL_tot hx (hn y List.mem_cons_self) hne q
      · exact h1 p hp
theorem mem_sortL {p : List Str} : ∀ {l : List (List Str)}, p ∈ sortL l ↔ p ∈ l
  | [] => Iff.rfl
  | x :: r => by
    show p ∈ insL x (sortL r) ↔ _
    rw [mem_insL, mem_sortL, List.mem_cons]
theorem srt_sortL : ∀ {l : List (List Str)}, l.Nodup → (∀ p ∈ l, N4 p) → Srt (sortL l)
  | [], _, _ => .nil
  | x :: r, hd, hn => by
    rw [List.nodup_cons] at hd
    exact srt_insL (hn x List.mem_cons_self) (srt_sortL hd.2 fun p hp => hn p (List.mem_cons_of_mem _ hp)) (fun p hp => hn p (List.mem_cons_of_mem _ (mem_sortL.mp hp))) fun h => hd.1 (mem_sortL.mp h)
/-- the walk through the tree is in order -/
theorem srt_trav {R : List Str → List Str} (H : Rows R) : ∀ (d : Nat) (u : List Str), Srt (trav R d u)
  | 0, _ => .nil
  | d + 1, u => by
    have key : ∀ xs : List Str, (∀ x ∈ xs, x ∈ n4) → xs.Pairwise (fun x y => ltS x y = true) → Srt (xs.flatMap fun x => (u ++ [x]) :: trav R d (u ++ [x])) := by
      intro xs
      induction xs with
      | nil => intro _ _; exact .nil
      | cons x xs ih =>
        intro hn hp
        obtain ⟨h1, h2⟩ := List.pairwise_cons.mp hp
        have hx := hn x List.mem_cons_self
        rw [List.flatMap_cons]
        unfold Srt
        rw [List.pairwise_append]
        have form : ∀ z, ∀ p ∈ (u ++ [z]) :: trav R d (u ++ [z]), ∃ r, p = u ++ z :: r := by
          intro z p hp
          rcases List.mem_cons.mp hp with rfl | hp
          · exact ⟨[], rfl⟩
          · obtain ⟨y, r, e, _⟩ := trav_mem H d (u ++ [z]) p hp
            exact ⟨y :: r, by rw [e]; simp⟩
        refine ⟨List.pairwise_cons.mpr ⟨fun p hp => ?_, srt_trav H d (u ++ [x])⟩, ih (fun y hy => hn y (List.mem_cons_of_mem _ hy)) h2, fun p hp q hq => ?_⟩
        · obtain ⟨y, r, e, _⟩ := trav_mem H d (u ++ [x]) p hp
          rw [e]
          have := ltL_pre (u ++ [x]) [] (y :: r)
          rw [List.append_nil] at this
          rw [this]; rfl
        · obtain ⟨y, hy, hq⟩ := List.mem_flatMap.mp hq
          obtain ⟨r, rfl⟩ := form x p hp
          obtain ⟨r', rfl⟩ := form y q hq
          rw [ltL_pre, ltL_cons, sq_no (ltS_asym hx (hn y (List.mem_cons_of_mem _ hy)) (h1 y hy)).2]
          exact h1 y hy
    exact key (R u) (fun x hx => H.n4 hx) (H.sorted u)
theorem mem_row {hid : List Str} {p : List Str → Str → Prop} {u : List Str} {x : Str} : x ∈ rowP hid p u ↔ x ∈ n4 ∧ x ∉ hid ∧ p u x := by
  classical
  unfold rowP
  rw [List.mem_filter, Bool.and_eq_true, decide_eq_true_eq, Bool.not_eq_true']
  constructor
  · rintro ⟨h1, h2, h3⟩
    exact ⟨h1, (fun h => by rw [memS_iff.mpr h] at h2; cases h2), h3⟩
  · rintro ⟨h1, h2, h3⟩
    refine ⟨h1, ?_, h3⟩
    cases q : memS x hid with
    | false => rfl
    | true => exact absurd (memS_iff.mp q) h2
theorem rows_of {W : List (List Str)} (hid : List Str) (hW : ∀ w ∈ W, w.length ≤ 5) : Rows (rowP hid (belowW W)) where
  sub := fun u => ⟨_, rfl⟩
  deep := fun u hu => by
    rw [List.eq_nil_iff_forall_not_mem]
    intro x hx
    obtain ⟨_, _, w, hw, h⟩ := mem_row.mp hx
    have h1 := h.length_le
    have h2 := hW w hw
    rw [List.length_append, List.length_singleton] at h1
    omega
theorem mem_trav {W : List (List Str)} {hid : List Str} (hW : ∀ w ∈ W, w.length ≤ 5) : ∀ (d : Nat) (u q : List Str), q ≠ [] → q.length ≤ d → ((u ++ q) ∈ trav (rowP hid (belowW W)) d u ↔ (∀ y ∈ q, y ∈ n4 ∧ y ∉ hid) ∧ ∃ w ∈ W, (u ++ q) <+: w)
  | 0, u, q, hq, h => absurd (List.eq_nil_of_length_eq_zero (Nat.le_zero.mp h)) hq
  | d + 1, u, [], hq, _ => absurd rfl hq
  | d + 1, u, x :: r, _, hl => by
    rw [List.length_cons] at hl
    have e : ∀ y, u ++ x :: y = (u ++ [x]) ++ y := fun y => by simp
    show (u ++ x :: r) ∈ (rowP hid (belowW W) u).flatMap (fun x => (u ++ [x]) :: trav (rowP hid (belowW W)) d (u ++ [x])) ↔ _
    rw [List.mem_flatMap]
    constructor
    · rintro ⟨y, hy, h⟩
      obtain ⟨y1, y2, y3⟩ := mem_row.mp hy
      rcases List.mem_cons.mp h with e | h
      · have e2 := List.append_cancel_left e
        cases e2
        exact ⟨fun z hz => by rw [List.mem_singleton.mp hz]; exact ⟨y1, y2⟩, y3⟩
      · obtain ⟨z, r', e2, _⟩ := trav_mem (rows_of hid hW) d (u ++ [y]) _ h
        have e3 : x :: r = y :: z :: r' := by
          rw [List.append_assoc] at e2
          exact List.append_cancel_left e2
        cases e3
        rw [e (z :: r')] at h
        have := (mem_trav hW d (u ++ [x]) (z :: r') (by simp) (by simpa using hl)).mp h
        rw [← e (z :: r')] at this
        refine ⟨fun z hz => ?_, this.2⟩
        rcases List.mem_cons.mp hz with rfl | hz
        · exact ⟨y1, y2⟩
        · exact this.1 z hz
    · rintro ⟨h1, w, hw, h2⟩
      have hx := h1 x List.mem_cons_self
      refine ⟨x, mem_row.mpr ⟨hx.1, hx.2, w, hw, ?_⟩, ?_⟩
      · refine List.IsPrefix.trans ?_ h2
        exact ⟨r, by simp⟩
      · cases r with
        | nil => exact List.mem_cons_self
        | cons z r =>
          refine List.mem_cons_of_mem _ ?_
          rw [e (z :: r)]
          refine (mem_trav hW d (u ++ [x]) (z :: r) (by simp) (by simpa using hl)).mpr ⟨fun y hy => h1 y (List.mem_cons_of_mem _ hy), w, hw, ?_⟩
          rw [← e (z :: r)]; exact h2
theorem mem_below {W : List (List Str)} {hid : List Str} (hW : ∀ w ∈ W, (∀ y ∈ w, y ∈ n4) ∧ w.length ≤ 5) {p : List Str} : p ∈ below (rowP hid (belowW W)) [] ↔ p ≠ [] ∧ (∀ y ∈ p, y ∉ hid) ∧ ∃ w ∈ W, p <+: w := by
  have hW2 : ∀ w ∈ W, w.length ≤ 5 := fun w hw => (hW w hw).2
  have key : p ≠ [] → p.length ≤ 5 → (p ∈ below (rowP hid (belowW W)) [] ↔ (∀ y ∈ p, y ∈ n4 ∧ y ∉ hid) ∧ ∃ w ∈ W, p <+: w) := fun h1 h2 => by
    have := mem_trav (hid := hid) hW2 5 [] p h1 h2
    exact this
  constructor
  · intro h
    have hb := below_nms (rows_of hid hW2) h
    have := (key hb.2.2 hb.2.1).mp h
    exact ⟨hb.2.2, fun y hy => (this.1 y hy).2, this.2⟩
  · rintro ⟨h1, h2, w, hw, h3⟩
    have hl := h3.length_le
    have := (hW w hw).2
    exact (key h1 (by (clear key; omega))).mpr ⟨fun y hy => ⟨(hW w hw).1 y (h3.subset hy), h2 y hy⟩, w, hw, h3⟩
/-- the places that are kept, in order, are the walk through the tree -/
theorem kept_eq {W : List (List Str)} {hid : List Str} (hW : ∀ w ∈ W, (∀ y ∈ w, y ∈ n4) ∧ w.length ≤ 5) {K : List (List Str)} (hd : K.Nodup) (hK : ∀ p, p ∈ K ↔ p ≠ [] ∧ (∀ y ∈ p, y ∉ hid) ∧ ∃ w ∈ W, p <+: w) : sortL K = below (rowP hid (belowW W)) [] := by
  have hn : ∀ p ∈ K, N4 p := fun p hp => by
    obtain ⟨_, _, w, hw, h3⟩ := (hK p).mp hp
    exact fun y hy => (hW w hw).1 y (h3.subset hy)
  refine srt_eq (srt_sortL hd hn) (srt_trav (rows_of hid fun w hw => (hW w hw).2) 5 []) (fun p hp => hn p (mem_sortL.mp hp)) fun p => ?_
  rw [mem_sortL, hK, mem_below hW]
end

noncomputable section
open PySem
theorem depthAll_strs : ∀ l : List Str, PyData.depthAll (l.map PyData.str) ≤ 1
  | [] => by simp [PyData.depthAll]
  | x :: l => by
    have := depthAll_strs l
    rw [List.map_cons]
    simp only [PyData.depthAll, PyData.depth]
    omega
theorem depth_row (l : List Str) : (PyData.list (l.map PyData.str)).depth ≤ 9 := by
  have := depthAll_strs l
  simp only [PyData.depth]
  omega
theorem pd_row {l : List Str} (h : N4 l) : toPD (.list (l.map AV.str)) = some (.list (l.map PyData.str)) := by
  unfold toPD
  rw [toPDs_map l fun y hy => n4_ok (h y hy)]; rfl
theorem pd_rows : ∀ {K : List (List Str)}, (∀ p ∈ K, N4 p) → toPDs (K.map fun p => AV.list (p.map AV.str)) = some (K.map fun p => PyData.list (p.map PyData.str))
  | [], _ => rfl
  | p :: K, h => by
    rw [List.map_cons]
    unfold toPDs
    rw [pd_row (h p List.mem_cons_self), pd_rows fun q hq => h q (List.mem_cons_of_mem _ hq)]
    rfl
theorem eqv_strs : ∀ (p q : List Str), PyData.eqvAll (p.map PyData.str) (q.map PyData.str) = decide (p = q)
  | [], [] => by simp [PyData.eqvAll]
  | [], y :: q => by simp [PyData.eqvAll]
  | x :: p, [] => by simp [PyData.eqvAll]
  | x :: p, y :: q => by
    rw [List.map_cons, List.map_cons]
    unfold PyData.eqvAll
    rw [eqv_strs p q]
    unfold PyData.eqv
    by_cases h : x = y
    · subst h; simp
    · simp [h]
theorem eqv_rows (p q : List Str) : PyData.eqv (.list (p.map PyData.str)) (.list (q.map PyData.str)) = decide (p = q) := by
  unfold PyData.eqv
  exact eqv_strs p q
theorem in_rows {p : List Str} {K : List (List Str)} : ((K.map fun p => PyData.list (p.map PyData.str)).any fun y => PyData.eqv y (.list (p.map PyData.str))) = decide (p ∈ K) := by
  rw [List.any_map, Bool.eq_iff_iff, List.any_eq_true, decide_eq_true_eq]
  constructor
  · rintro ⟨q, hq, h⟩
    have h : PyData.eqv (.list (q.map PyData.str)) (.list (p.map PyData.str)) = true := h
    rw [eqv_rows, decide_eq_true_eq] at h
    rw [← h]; exact hq
  · intro h
    exact ⟨p, h, by show PyData.eqv _ _ = true; rw [eqv_rows]; simp⟩
theorem notin_rows {σ : Sto} {v : AV} {p : List Str} {K : List (List Str)} (h : lists σ v = some (K.map fun p => AV.list (p.map AV.str))) (hp : N4 p) (hK : ∀ q ∈ K, N4 q) : CO σ .NotIn (.list (p.map AV.str)) v (!decide (p ∈ K)) :=
  (notin_data (pd_row hp) h (pd_rows hK) (depth_row p)).cast (by rw [in_rows])
theorem eq_rows {σ : Sto} {p q : List Str} (hp : N4 p) (hq : N4 q) : CO σ .Eq (.list (p.map AV.str)) (.list (q.map AV.str)) (decide (p = q)) := (eq_data (rd_pd (pd_row hp)) (rd_pd (pd_row hq)) (depth_row p)).cast (eqv_rows ..)
theorem rowss_eqv {P Q : List (List Str)} : (PyData.list (P.map fun p => PyData.list (p.map PyData.str))).depth ≤ 9 ∧ PyData.eqv (.list (P.map fun p => PyData.list (p.map PyData.str))) (.list (Q.map fun p => PyData.list (p.map PyData.str))) = decide (P = Q) := by
  have dep : ∀ P : List (List Str), PyData.depthAll (P.map fun p => PyData.list (p.map PyData.str)) ≤ 3 := by
    intro P
    induction P with
    | nil => simp [PyData.depthAll]
    | cons p P ih =>
      have := depthAll_strs p
      rw [List.map_cons]
      simp only [PyData.depthAll, PyData.depth]
      omega
  have eqs : ∀ P Q : List (List Str), PyData.eqvAll (P.map fun p => PyData.list (p.map PyData.str)) (Q.map fun p => PyData.list (p.map PyData.str)) = decide (P = Q) := by
    intro P
    induction P with
    | nil => intro Q; cases Q <;> simp [PyData.eqvAll]
    | cons p P ih =>
      intro Q
      cases Q with
      | nil => simp [PyData.eqvAll]
      | cons q Q =>
        rw [List.map_cons, List.map_cons]
        unfold PyData.eqvAll
        rw [ih Q, eqv_rows]
        by_cases h : p = q
        · subst h; simp
        · simp [h]
  refine ⟨by have := dep P; simp only [PyData.depth]; omega, ?_⟩
  unfold PyData.eqv
  exact eqs P Q
theorem eq_rowss {σ : Sto} {u v : AV} {P Q : List (List Str)} (hu : lists σ u = some (P.map fun p => AV.list (p.map AV.str))) (hv : lists σ v = some (Q.map fun p => AV.list (p.map AV.str))) (hP : ∀ p ∈ P, N4 p) (hQ : ∀ p ∈ Q, N4 p) : CO σ .Eq u v (decide (P = Q)) :=
  (eq_data (rd_list hu (pd_rows hP)) (rd_list hv (pd_rows hQ)) (rowss_eqv (Q := Q)).1).cast rowss_eqv.2
theorem rng_up {L : Nat} : (rngList 1 ((L : Int) + 1) 1).map AV.int = (List.range' 1 L).map fun k : Nat => AV.int (k : Int) := by
  unfold rngList
  rw [if_pos rfl, show ((L : Int) + 1 - 1).toNat = L by omega, List.range'_eq_map_range, List.map_map, List.map_map]
  apply List.map_congr_left
  intro k _
  show AV.int (1 + (k : Int)) = AV.int ((1 + k : Nat) : Int)
  rw [Int.natCast_add]; rfl
theorem cut_rows {w : List Str} {k : Nat} : cutL (w.map AV.str) none (some (k : Int)) = (w.take k).map AV.str := by
  rw [cut_take, List.map_take]
theorem src_rng1 {σ : Sto} {i j : Int} (h : -1000000 ≤ i ∧ i ≤ 1000000 ∧ -1000000 ≤ j ∧ j ≤ 1000000) : SRC (.rng i j 1) σ ((rngList i j 1).map .int) σ none := src_rng0 ⟨.inl rfl, h⟩
theorem fm_keep {f : AV → Option AV} {q : Str → Bool} : ∀ {l : List Str}, (∀ y ∈ l, f (.str y) = if q y then some (.str y) else none) → (l.map AV.str).filterMap f = (l.filter q).map AV.str
  | [], _ => rfl
  | x :: l, H => by
    rw [List.map_cons, List.filterMap_cons, H x List.mem_cons_self, fm_keep fun y hy => H y (List.mem_cons_of_mem _ hy)]
    cases h : q x with
    | true => rw [List.filter_cons_of_pos h]; rfl
    | false => rw [List.filter_cons_of_neg (by rw [h]; simp)]; rfl
theorem len_map {n : Nat} {σ : Sto} {α : Type} {f : α → AV} {l : List α} (h : (l.map f).length ≤ cap) : CA n (.con (.builtin "len")) [.list (l.map f)] σ (.int (l.length : Int)) σ := by
  have h := cb_len (σ := σ) (v := .list (l.map f)) rfl h
  rw [List.length_map] at h
  exact call_b h
noncomputable def keepF (q : Str → Bool) (v : AV) : Option AV := match v with
  | .str y => if q y then some (.str y) else none
  | _ => none
end

noncomputable section
open PySem
section
variable {n : Nat} {σ : Sto}
theorem fn_kept : fnAt 254 = some (dAt 38) := by kernel_rfl
structure KpE (E : AE) (hv : AV) (b : Nat) : Prop where
  sc : E.sc = (dAt 38).scope.names
  hid : E.get "hidden" = some hv
  kept : E.get "kept" = some (.own b)
noncomputable def inK (hid : List Str) (dw : List (List Str)) (w : List Str) (i : Nat) (p : List Str) : Prop := p ≠ [] ∧ (∀ y ∈ p, y ∉ hid) ∧ ((∃ w ∈ dw, p <+: w) ∨ (p <+: w ∧ p.length ≤ i))
inductive KpO (W : List (List Str)) (hv : AV) (hid : List Str) (base : Sto) (xs : List AV) (E : AE) (s : Sto) : Prop where
  | mk (dw rest K : List (List Str)) : W = dw ++ rest → xs = rest.map (fun w => AV.list (w.map AV.str)) → s = base ++ [AO.list (K.map fun p => AV.list (p.map AV.str))] → KpE E hv base.length → K.Nodup → (∀ p, p ∈ K ↔ inK hid dw [] 0 p) → K.length ≤ 5 * dw.length → KpO W hv hid base xs E s
inductive KpI (dw : List (List Str)) (w : List Str) (hv : AV) (hid : List Str) (base : Sto) (xs : List AV) (E : AE) (s : Sto) : Prop where
  | mk (i : Nat) (K : List (List Str)) : i ≤ w.length → xs = (List.range' (i + 1) (w.length - i)).map (fun k : Nat => AV.int (k : Int)) → s = base ++ [AO.list (K.map fun p => AV.list (p.map AV.str))] → KpE E hv base.length → E.get "walk" = some (.list (w.map .str)) → K.Nodup → (∀ p, p ∈ K ↔ inK hid dw w i p) → K.length ≤ 5 * dw.length + i → KpI dw w hv hid base xs E s
set_option maxHeartbeats 1000000 in
theorem c_kept {W : List (List Str)} {hv : AV} {hid : List Str} (hW : ∀ w ∈ W, (∀ y ∈ w, y ∈ n4) ∧ w.length ≤ 5) (hl : W.length ≤ 12) (hh : lists σ hv = some (hid.map .str)) (hs : ∀ y ∈ hid, y ∈ n4) :
    CD ((n + 70)) 254 [.list (W.map fun w => .list (w.map .str)), hv] σ (.list ((below (rowP hid (belowW W)) []).map fun p => .list (p.map .str))) := by
  have hc : cap = 100000 := rfl
  have hbl : (σ.map AO.lock).length = σ.length := List.length_map ..
  have hhl : lists (σ.map AO.lock) hv = some (hid.map .str) := lock_lists hh
  have hhok : ∀ y ∈ hid, PyData.strOk y = true := fun y hy => n4_ok (hs y hy)
  refine callD_intro (E := ?ze) rfl rfl fn_kept ?_ ?_
  rotate_left
  · show bindP _ (_ :: _) _ _ = _
    walk_at "P.bind"
  rw [← hbl]
  generalize σ.map AO.lock = base at hhl ⊢
  have low : ∀ ls : List AV, lists (base ++ [AO.list ls]) hv = some (hid.map .str) := fun ls => low_lists hhl fun j hj => List.getElem?_append_left hj
  walk_at "P.as"
  refine wp_for (v := .list (W.map fun w => .list (w.map .str))) (σ1 := base ++ [AO.list []]) (σ2 := base ++ [AO.list []]) (xs := W.map fun w => .list (w.map .str)) (taken := none) ?zp ?z1 ?z2 (KpO W hv hid base) ?z3 ?zturn ?z4
  case zp => exact rfl
  case z1 => walk_at "P.ev"
  case z2 => exact src_list
  case z3 =>
    refine ⟨[], W, [], rfl, rfl, rfl, ⟨?_, ?_, ?_⟩, List.nodup_nil, fun p => ⟨fun h => (by cases h), ?_⟩, Nat.le_refl _⟩
    · walk_at "P.sc"
    · walk_at "P.get"
    · walk_at "P.get"
    · rintro ⟨h1, _, ⟨w, h, _⟩ | ⟨h, h2⟩⟩
      · cases h
      · exact absurd (List.eq_nil_of_length_eq_zero (Nat.le_zero.mp h2)) h1
  case z4 =>
    rintro E s ⟨dw, rest, K, q0, q1, rfl, ⟨e1, e2, e3⟩, hd, hK, hKl⟩
    have : rest = [] := by cases rest with
      | nil => rfl
      | cons _ _ => cases q1
    subst this
    rw [List.append_nil] at q0
    subst q0
    change WP _ _ E (base ++ [AO.list (K.map fun p => AV.list (p.map AV.str))]) _
    apply wp_expr
    · apply ev_meth
      · intro _ _; kernel_rfl
      · kernel_rfl
      · exact rfl
      · walk_at "P.ev"
      · exact ty_list sto_new
      · exact evs_nil
      · exact m_sort sto_new (by (clear hbl hc; omega))
    rw [set_new]
    apply wp_ret
    · walk_at "P.ev"
    · rw [kept_eq hW hd fun p => (hK p).trans ⟨fun h => ⟨h.1, h.2.1, h.2.2.elim id fun h2 => absurd (List.eq_nil_of_length_eq_zero (Nat.le_zero.mp h2.2)) h.1⟩, fun h => ⟨h.1, h.2.1, .inl h.2.2⟩⟩]
      exact fz_own (Nat.le_refl _) sto_new (fzL_map fun p _ => fz_list (fzL_map fun _ _ => rfl))
  case zturn =>
    rintro v vs E s ⟨dw, rest, K, q0, q1, rfl, ⟨e1, e2, e3⟩, hd, hK, hKl⟩
    cases rest with
    | nil => cases q1
    | cons w rest =>
      cases q1
      obtain ⟨hw1, hw2⟩ := hW w (by rw [q0]; simp)
      have hdl : dw.length + 1 ≤ 12 := by
        have := congrArg List.length q0
        rw [List.length_append, List.length_cons] at this
        (clear hw2 hKl hbl hc; omega)
      have hwl : (w.map AV.str).length ≤ cap := by rw [List.length_map]; (clear hdl hKl hbl hl; omega)
      refine ⟨E.st "walk" (.list (w.map .str)), bt_st (by walk_at "P.lc"), ?_⟩
      refine wp_for (v := .rng 1 ((w.length : Int) + 1) 1) (σ1 := base ++ [AO.list (K.map fun p => AV.list (p.map AV.str))]) (σ2 := base ++ [AO.list (K.map fun p => AV.list (p.map AV.str))]) (xs := (List.range' 1 w.length).map fun k : Nat => AV.int (k : Int)) (taken := none) ?yp ?y1 ?y2
        (KpI dw w hv hid base) ?y3 ?yturn ?y4
      case yp => exact rfl
      case y1 =>
        have hlen : ∀ k s, CA k (.con (.builtin "len")) [.list (w.map .str)] s (.int (w.length : Int)) s := fun k s => len_map hwl
        apply ev_call
        · walk_at "P.ev"
        · exact rfl
        · apply args_cons
          · exact rfl
          · walk_at "P.ev"
          · apply args_cons
            · exact rfl
            · with_reducible apply ev_bin
              · apply ev_call
                · walk_at "P.ev"
                · exact rfl
                · walk_at "P.args"
                · exact hlen _ _
              · walk_at "P.ev"
              · exact bin_add_int
            · exact args_nil
        · walk_at "P.call"
      case y2 => rw [← rng_up]; exact src_rng1 (by (clear hwl hdl hKl hbl hc hl; omega))
      case y3 =>
        refine ⟨0, K, Nat.zero_le _, rfl, rfl, ⟨?_, ?_, ?_⟩, ?_, hd, fun p => (hK p).trans ?_, hKl⟩
        · walk_at "P.sc"
        · walk_at "P.get"
        · walk_at "P.get"
        · walk_at "P.get"
        · have none_of : ∀ w : List Str, p ≠ [] → ¬ (p <+: w ∧ p.length ≤ 0) := fun w h h2 => h (List.eq_nil_of_length_eq_zero (Nat.le_zero.mp h2.2))
          exact ⟨fun h => ⟨h.1, h.2.1, h.2.2.elim .inl fun h2 => absurd h2 (none_of _ h.1)⟩, fun h => ⟨h.1, h.2.1, h.2.2.elim .inl fun h2 => absurd h2 (none_of _ h.1)⟩⟩
      case y4 =>
        rintro E s ⟨i, K, hi, q2, rfl, ⟨e1, e2, e3⟩, e4, hd, hK, hKl⟩
        have hil : w.length - i = 0 := by
          cases q : w.length - i with
          | zero => rfl
          | succ m => rw [q] at q2; cases q2
        apply wp_nil
        refine ⟨.inl rfl, dw ++ [w], rest, K, by rw [q0]; simp, rfl, rfl, ⟨e1, e2, e3⟩, hd, fun p => (hK p).trans ?_, by rw [List.length_append, List.length_singleton]; (clear hil hwl hdl hbl hc hl; omega)⟩
        constructor
        · rintro ⟨h1, h2, ⟨w', h3, h4⟩ | ⟨h3, h4⟩⟩
          · exact ⟨h1, h2, .inl ⟨w', by simp [h3], h4⟩⟩
          · exact ⟨h1, h2, .inl ⟨w, by simp, h3⟩⟩
        · rintro ⟨h1, h2, ⟨w', h3, h4⟩ | ⟨h3, h4⟩⟩
          · rcases List.mem_append.mp h3 with h3 | h3
            · exact ⟨h1, h2, .inl ⟨w', h3, h4⟩⟩
            · rw [List.mem_singleton.mp h3] at h4
              have := h4.length_le
              exact ⟨h1, h2, .inr ⟨h4, by (clear hKl hi hwl hdl hw2 hbl hc hl; omega)⟩⟩
          · exact absurd (List.eq_nil_of_length_eq_zero (Nat.le_zero.mp h4)) h1
      case yturn =>
        rintro v vs E s ⟨i, K, hi, q2, rfl, ⟨e1, e2, e3⟩, e4, hd, hK, hKl⟩
        cases hm : w.length - i with
        | zero => rw [hm] at q2; cases q2
        | succ m =>
          rw [hm, List.range'_succ, List.map_cons] at q2
          obtain ⟨rfl, rfl⟩ := List.cons.inj q2
          have hKn : ∀ p ∈ K, N4 p := fun p hp => by
            obtain ⟨_, _, ⟨w', h3, h4⟩ | ⟨h3, _⟩⟩ := (hK p).mp hp
            · exact fun y hy => (hW w' (by rw [q0]; simp [h3])).1 y (h4.subset hy)
            · exact fun y hy => hw1 y (h3.subset hy)
          have hpn : N4 (w.take (i + 1)) := fun y hy => hw1 y (List.mem_of_mem_take hy)
          have hpl : (w.take (i + 1)).length = i + 1 := by rw [List.length_take]; (clear hKl hi hwl hdl hw2 hbl hc hl; omega)
          refine ⟨E.st "k" (.int ((i + 1 : Nat) : Int)), bt_st (by walk_at "P.lc"), ?_⟩
          have hsl : ∀ s, SL s (.list (w.map .str)) none (some ((i + 1 : Nat) : Int)) (.list ((w.take (i + 1)).map .str)) := fun s => by
            refine (sl_list lists_tree hwl).cast ?_
            rw [cut_rows]
          apply wp_if (σ1 := base ++ [AO.list (K.map fun p => AV.list (p.map AV.str))])
          · apply it_bool
            apply and_two
            · with_reducible apply it_cmp
              · exact rfl
              · with_reducible apply ev_slice
                · walk_at "P.ev"
                · walk_at "P.opt"
                · walk_at "P.opt"
                · exact rfl
                · exact rfl
                · exact hsl _
              · walk_at "P.ev"
              · exact notin_rows (lists_own sto_new) hpn hKn
            · with_reducible apply it_cmp
              · exact rfl
              · apply ev_comp
                refine comp_rule (S := (dAt 38).scope.names) (v := .list ((w.take (i + 1)).map .str)) (σ1 := base ++ [AO.list (K.map fun p => AV.list (p.map AV.str))]) (σ2 := base ++ [AO.list (K.map fun p => AV.list (p.map AV.str))]) (xs := (w.take (i + 1)).map .str) (taken := none) (keepF fun y => memS y hid) ?xq1 ?xq2 ?xq3 ?xq4 ?xq5 ?xq6
                case xq1 => walk_at "P.sc"
                case xq2 => kernel_rfl
                case xq3 =>
                  with_reducible apply ev_slice
                  · walk_at "P.ev"
                  · walk_at "P.opt"
                  · walk_at "P.opt"
                  · exact rfl
                  · exact rfl
                  · exact hsl _
                case xq4 => exact src_list
                case xq5 => rw [List.length_map]; (clear hm hKl hwl hdl hbl hl; omega)
                case xq6 =>
                  intro v hvm E1 f1 f2
                  obtain ⟨y, hy, rfl⟩ := List.mem_map.mp hvm
                  have gx : E1.get "hidden" = some hv := by
                    refine get_kap f1 (by kernel_rfl) f2 ?_
                    refine kap_of (S := (dAt 38).scope.names) (by walk_at "P.sc") (by kernel_rfl) ?_
                    walk_at "P.get"
                  refine ⟨E1.st "name" (.str y), bt_st (isLC_of f1 (by kernel_rfl)), by rw [st_sc, f1], ?_, memS y hid, ?_, fun h => ?_, fun h => ⟨.str y, ?_, ?_⟩⟩
                  · rw [st_kap (by rw [f1]; kernel_rfl), f2]
                  · apply ifs_one
                    with_reducible apply it_cmp
                    · exact rfl
                    · apply evp_name
                      exact get_hit (isLC_of f1 (by kernel_rfl))
                    · apply evp_name
                      exact get_ne (by kernel_rfl) gx
                    · exact in_strs (low _) (n4_ok (hpn y hy)) hhok
                  · show (if memS y hid then _ else _) = _
                    rw [h]; rfl
                  · apply evp_name
                    exact get_hit (isLC_of f1 (by kernel_rfl))
                  · show (if memS y hid then _ else _) = _
                    rw [h]; rfl
              · exact ev_list evs_nil (Nat.le_of_ble_eq_true rfl)
              · rw [fm_keep (q := fun y => memS y hid) fun y _ => rfl]
                exact eq_rows (q := []) (fun y hy => hpn y (List.mem_filter.mp hy).1) fun y hy => by cases hy
          · intro hq
            rw [Bool.and_eq_true, Bool.not_eq_true', decide_eq_false_iff_not, decide_eq_true_eq] at hq
            obtain ⟨hq1, hq2⟩ := hq
            have hq3 : ∀ y ∈ w.take (i + 1), y ∉ hid := fun y hy hyh => by
              have := List.filter_eq_nil_iff.mp hq2 y hy
              exact this (memS_iff.mpr hyh)
            apply wp_expr
            · apply ev_meth
              · intro _ _; kernel_rfl
              · kernel_rfl
              · exact rfl
              · walk_at "P.ev"
              · exact ty_list sto_new
              · apply evs_cons
                · exact rfl
                · with_reducible apply ev_slice
                  · walk_at "P.ev"
                  · walk_at "P.opt"
                  · walk_at "P.opt"
                  · exact rfl
                  · exact rfl
                  · exact hsl _
                · exact evs_nil
              · exact m_append sto_new (by rw [List.length_map]; (clear hpl hm hwl hbl hl; omega))
            rw [set_new]
            apply wp_nil
            apply wp_nil
            refine ⟨.inl rfl, i + 1, K ++ [w.take (i + 1)], by (clear hpl hKl hi hwl hdl hw2 hbl hc hl; omega), by rw [show w.length - (i + 1) = m by (clear hpl hKl hi hwl hdl hw2 hbl hc hl; omega)], by simp, ⟨?_, ?_, ?_⟩, ?_, ?_, fun p => ?_, by rw [List.length_append, List.length_singleton]; (clear hpl hm hi hwl hdl hw2 hbl hc hl; omega)⟩
            · walk_at "P.sc"
            · walk_at "P.get"
            · walk_at "P.get"
            · walk_at "P.get"
            · rw [List.nodup_append]
              exact ⟨hd, by simp, fun a ha b hb => by rw [List.mem_singleton.mp hb]; intro e; exact hq1 (e ▸ ha)⟩
            · rw [List.mem_append, hK, List.mem_singleton]
              constructor
              · rintro (⟨h1, h2, h3 | ⟨h3, h4⟩⟩ | h)
                · exact ⟨h1, h2, .inl h3⟩
                · exact ⟨h1, h2, .inr ⟨h3, by (clear hpl hm hKl hi hwl hdl hw2 hbl hc hl; omega)⟩⟩
                · rw [h]
                  exact ⟨(fun e => by rw [e] at hpl; cases hpl), hq3, .inr ⟨List.take_prefix _ _, by (clear hm hKl hi hwl hdl hw2 hbl hc hl; omega)⟩⟩
              · rintro ⟨h1, h2, h3 | ⟨h3, h4⟩⟩
                · exact .inl ⟨h1, h2, .inl h3⟩
                · by_cases q : p.length ≤ i
                  · exact .inl ⟨h1, h2, .inr ⟨h3, q⟩⟩
                  · right
                    rw [List.prefix_iff_eq_take.mp h3, show p.length = i + 1 by (clear hpl hm hKl hi hwl hdl hw2 hbl hc hl; omega)]
          · intro hq
            apply wp_nil
            apply wp_nil
            refine ⟨.inl rfl, i + 1, K, by (clear hpl hKl hi hwl hdl hw2 hbl hc hl; omega), by rw [show w.length - (i + 1) = m by (clear hpl hKl hi hwl hdl hw2 hbl hc hl; omega)], rfl, ⟨?_, ?_, ?_⟩, ?_, hd, fun p => ?_, by (clear hpl hm hi hwl hdl hw2 hbl hc hl; omega)⟩
            · walk_at "P.sc"
            · walk_at "P.get"
            · walk_at "P.get"
            · walk_at "P.get"
            · rw [hK]
              constructor
              · rintro ⟨h1, h2, h3 | ⟨h3, h4⟩⟩
                · exact ⟨h1, h2, .inl h3⟩
                · exact ⟨h1, h2, .inr ⟨h3, by (clear hpl hm hKl hi hwl hdl hw2 hbl hc hl; omega)⟩⟩
              · rintro ⟨h1, h2, h3 | ⟨h3, h4⟩⟩
                · exact ⟨h1, h2, .inl h3⟩
                · by_cases q : p.length ≤ i
                  · exact ⟨h1, h2, .inr ⟨h3, q⟩⟩
                  · have e : p = w.take (i + 1) := by rw [List.prefix_iff_eq_take.mp h3, show p.length = i + 1 by (clear hpl hm hKl hi hwl hdl hw2 hbl hc hl; omega)]
                    rw [Bool.and_eq_false_iff] at hq
                    rcases hq with hq | hq
                    · rw [Bool.not_eq_false', decide_eq_true_eq, ← e, hK] at hq
                      exact hq
                    · rw [decide_eq_false_iff_not] at hq
                      refine absurd (List.filter_eq_nil_iff.mpr fun y hy hyh => ?_) hq
                      exact h2 y (e ▸ hy) (memS_iff.mp hyh)
end
end

noncomputable section
open PySem
/-- what comes behind a place with the same names but the last -/
noncomputable def later (post : List (List Str)) (p : List Str) (j : Nat) : List (List Str) := post.filter fun one => decide (one.length = j + 1) && decide (one.dropLast = p.take j)
theorem more_iff {W : List (List Str)} {hid : List Str} (hW : ∀ w ∈ W, (∀ y ∈ w, y ∈ n4) ∧ w.length ≤ 5) {pre post : List (List Str)} {p : List Str} (h : below (rowP hid (belowW W)) [] = pre ++ p :: post) {j : Nat} (hj : j < p.length) :
    later post p j ≠ [] ↔ more (rowP hid (belowW W)) (p.take j) (p[j]) = true := by
  have H := rows_of hid fun w hw => (hW w hw).2
  have hs : Srt (below (rowP hid (belowW W)) []) := srt_trav H 5 []
  have hn : ∀ q ∈ below (rowP hid (belowW W)) [], N4 q := fun q hq => (below_nms H hq).1
  have hp : p ∈ below (rowP hid (belowW W)) [] := by rw [h]; simp
  obtain ⟨hp1, hp2, w0, hw0, hp3⟩ := (mem_below hW).mp hp
  have split : p = p.take j ++ p[j] :: p.drop (j + 1) := by
    rw [← List.drop_eq_getElem_cons hj, List.take_append_drop]
  rw [h] at hs
  unfold Srt at hs
  obtain ⟨s1, s2, s3⟩ := List.pairwise_append.mp hs
  obtain ⟨s4, s5⟩ := List.pairwise_cons.mp s2
  have hzn : p[j] ∈ n4 := hn p hp _ (List.getElem_mem hj)
  unfold later more
  rw [List.any_eq_true]
  constructor
  · intro hne
    obtain ⟨one, ho⟩ := List.exists_mem_of_ne_nil _ hne
    obtain ⟨ho1, ho2⟩ := List.mem_filter.mp ho
    rw [Bool.and_eq_true, decide_eq_true_eq, decide_eq_true_eq] at ho2
    have hone : one ≠ [] := fun e => by rw [e] at ho2; cases ho2.1
    obtain ⟨y, e⟩ : ∃ y, one = p.take j ++ [y] := ⟨one.getLast hone, by rw [← ho2.2]; exact (List.dropLast_concat_getLast hone).symm⟩
    have hoB : one ∈ below (rowP hid (belowW W)) [] := by rw [h]; simp [ho1]
    obtain ⟨_, h2, w, hw, h3⟩ := (mem_below hW).mp hoB
    have hy : y ∈ n4 := hn one hoB y (by rw [e]; simp)
    refine ⟨y, mem_row.mpr ⟨hy, h2 y (by rw [e]; simp), w, hw, by rw [← e]; exact h3⟩, ?_⟩
    have hlt := s4 one ho1
    rw [split, e, ltL_pre, ltL_cons] at hlt
    cases q : sq p[j] y with
    | true =>
      rw [q, if_pos rfl] at hlt
      cases hd : p.drop (j + 1) with
      | nil => rw [hd] at hlt; cases hlt
      | cons a b => rw [hd] at hlt; cases hlt
    | false =>
      rw [q] at hlt
      exact hlt
  · rintro ⟨y, hy, hlt⟩
    obtain ⟨y1, y2, w, hw, h3⟩ := mem_row.mp hy
    have hoB : p.take j ++ [y] ∈ below (rowP hid (belowW W)) [] := by
      refine (mem_below hW).mpr ⟨by simp, fun z hz => ?_, w, hw, h3⟩
      rcases List.mem_append.mp hz with hz | hz
      · exact hp2 z (List.mem_of_mem_take hz)
      · rw [List.mem_singleton.mp hz]; exact y2
    have hlt2 : ltL p (p.take j ++ [y]) = true := by
      conv => lhs; arg 1; rw [split]
      rw [ltL_pre, ltL_cons, sq_no (ltS_asym hzn y1 hlt).2]
      exact hlt
    have hpost : p.take j ++ [y] ∈ post := by
      have hoB2 := hoB
      rw [h] at hoB2
      rcases List.mem_append.mp hoB2 with h4 | h4
      · have e1 := s3 _ h4 p List.mem_cons_self
        have e2 := ltL_asym (hn p hp) (hn _ hoB) hlt2
        rw [e1] at e2; cases e2
      · rcases List.mem_cons.mp h4 with h4 | h4
        · rw [h4, ltL_irr] at hlt2; cases hlt2
        · exact h4
    intro he
    have := List.filter_eq_nil_iff.mp he _ hpost
    apply this
    rw [Bool.and_eq_true, decide_eq_true_eq, decide_eq_true_eq]
    refine ⟨?_, List.dropLast_concat⟩
    rw [List.length_append, List.length_singleton, List.length_take]
    omega
theorem ne_rowss {σ : Sto} {u v : AV} {P Q : List (List Str)} (hu : lists σ u = some (P.map fun p => AV.list (p.map AV.str))) (hv : lists σ v = some (Q.map fun p => AV.list (p.map AV.str))) (hP : ∀ p ∈ P, N4 p) (hQ : ∀ p ∈ Q, N4 p) : CO σ .NotEq u v (!decide (P = Q)) :=
  (ne_data (rd_list hu (pd_rows hP)) (rd_list hv (pd_rows hQ)) (rowss_eqv (Q := Q)).1).cast (by rw [rowss_eqv.2])
theorem sto_mid {base g : Sto} {o : AO} : (base ++ o :: g)[base.length]? = some o := by simp
theorem set_mid {base g : Sto} {o q : AO} : (base ++ o :: g).set base.length q = base ++ q :: g := by
  rw [List.set_append_right _ _ (Nat.le_refl _)]; simp
theorem lists_new {σ : Sto} {xs : List AV} : lists (σ ++ [.list xs]) (.own σ.length) = some xs := lists_own sto_new
/-- the marks of a line, one by one -/
noncomputable def lineMarks (R : List Str → List Str) (u : List Str) (x : Str) : List Str := mk R u ++ [mark2 R u x]
theorem marks_at {R : List Str → List Str} {u : List Str} {x : Str} {j : Nat} (hj : j < (u ++ [x]).length) : (lineMarks R u x)[j]? = some (if j = u.length then mark2 R ((u ++ [x]).take j) ((u ++ [x])[j]) else mark R ((u ++ [x]).take j) ((u ++ [x])[j])) := by
  unfold lineMarks
  have hl : (mk R u).length = u.length := by simp [mk]
  rw [List.length_append, List.length_singleton] at hj
  by_cases h : j = u.length
  · subst h
    rw [if_pos rfl, List.getElem?_append_right (by (clear hj; omega)), hl]
    simp
  · rw [if_neg h, List.getElem?_append_left (by omega)]
    have h2 : j < u.length := by (clear hl; omega)
    unfold mk
    rw [List.getElem?_map, List.getElem?_range h2]
    simp [List.take_append_of_le_length (Nat.le_of_lt h2), List.getElem_append_left h2, List.getD_eq_getElem?_getD, List.getElem?_eq_getElem h2]
theorem keep_rows {f : AV → Option AV} {q : List Str → Bool} : ∀ {l : List (List Str)}, (∀ p ∈ l, f (.list (p.map .str)) = if q p then some (.list (p.map .str)) else none) → (l.map fun p => AV.list (p.map AV.str)).filterMap f = (l.filter q).map fun p => AV.list (p.map AV.str)
  | [], _ => rfl
  | x :: l, H => by
    rw [List.map_cons, List.filterMap_cons, H x List.mem_cons_self, keep_rows fun y hy => H y (List.mem_cons_of_mem _ hy)]
    cases h : q x with
    | true => rw [List.filter_cons_of_pos h]; rfl
    | false => rw [List.filter_cons_of_neg (by rw [h]; simp)]; rfl
noncomputable def rowF (q : List Str → Bool) (v : AV) : Option AV := match v with
  | .list xs => match strsOf xs with
    | some p => if q p then some v else none
    | none => none
  | _ => none
theorem rowF_at {q : List Str → Bool} {p : List Str} : rowF q (.list (p.map .str)) = if q p then some (.list (p.map .str)) else none := by
  unfold rowF
  simp only [strsOf_map]
theorem eq_ints {σ : Sto} {i j : Int} : CO σ .Eq (.int i) (.int j) (decide (i = j)) := (eq_data (rd_pd rfl) (rd_pd rfl) (by unfold PyData.depth; exact Nat.zero_le _)).cast (by unfold PyData.eqv; rfl)
end

noncomputable section
open PySem
section
variable {n : Nat} {σ : Sto}
theorem fn_lines : fnAt 259 = some (dAt 39) := by kernel_rfl
noncomputable abbrev rowsV (B : List (List Str)) : AV := .list (B.map fun p => AV.list (p.map AV.str))
structure LnE (E : AE) (B : List (List Str)) (b : Nat) : Prop where
  sc : E.sc = (dAt 39).scope.names
  kept : E.get "kept" = some (rowsV B)
  lines : E.get "lines" = some (.own b)
inductive LnO (R : List Str → List Str) (B : List (List Str)) (base : Sto) (xs : List AV) (E : AE) (s : Sto) : Prop where
  | mk (i : Nat) (g : Sto) : i ≤ B.length → xs = (List.range' i (B.length - i)).map (fun k : Nat => AV.int (k : Int)) → s = base ++ AO.list ((B.take i).map fun p => AV.str (lineOf R p)) :: g → LnE E B base.length → LnO R B base xs E s
inductive LnI (R : List Str → List Str) (B : List (List Str)) (u : List Str) (x : Str) (i : Nat) (base : Sto) (xs : List AV) (E : AE) (s : Sto) : Prop where
  | mk (j : Nat) (acc : Str) (g : Sto) : j ≤ (u ++ [x]).length → xs = (List.range' (j + 1) ((u ++ [x]).length - j)).map (fun k : Nat => AV.int (k : Int)) → s = base ++ AO.list ((B.take i).map fun p => AV.str (lineOf R p)) :: g → LnE E B base.length → E.get "i" = some (.int ((i : Nat) : Int)) → E.get "marks" = some (.str acc) → ch acc = ((lineMarks R u x).take j).flatMap ch → LnI R B u x i base xs E s
set_option maxHeartbeats 2000000 in
theorem c_lines {W : List (List Str)} {hid : List Str} (hW : ∀ w ∈ W, (∀ y ∈ w, y ∈ n4) ∧ w.length ≤ 5) :
    CD ((n + 70)) 259 [rowsV (below (rowP hid (belowW W)) [])] σ (.list ((below (rowP hid (belowW W)) []).map fun p => .str (lineOf (rowP hid (belowW W)) p))) := by
  have hc : cap = 100000 := rfl
  have H := rows_of hid fun w hw => (hW w hw).2
  have hbl : (σ.map AO.lock).length = σ.length := List.length_map ..
  have hBl := below_len H
  have hBn : ∀ q ∈ below (rowP hid (belowW W)) [], N4 q ∧ q.length ≤ 5 ∧ q ≠ [] := fun q hq => below_nms H hq
  have hmore := fun {pre post : List (List Str)} {p : List Str} h {j : Nat} hj => more_iff (hid := hid) hW (pre := pre) (post := post) (p := p) h (j := j) hj
  generalize hR : rowP hid (belowW W) = R at H hBl hBn hmore ⊢
  generalize hB : below R [] = B at hBl hBn hmore ⊢
  have hBm : (B.map fun p => AV.list (p.map AV.str)).length ≤ cap := by rw [List.length_map]; (clear hbl; omega)
  have hlenB : ∀ k s, CA k (.con (.builtin "len")) [rowsV B] s (.int (B.length : Int)) s := fun k s => len_map hBm
  refine callD_intro (E := ?ze) rfl rfl fn_lines ?_ ?_
  rotate_left
  · show bindP _ (_ :: _) _ _ = _
    walk_at "P.bind"
  rw [← hbl]
  generalize σ.map AO.lock = base
  walk_at "P.as"
  refine wp_for (v := .rng 0 (B.length : Int) 1) (σ1 := base ++ [AO.list []]) (σ2 := base ++ [AO.list []]) (xs := (rngList 0 (B.length : Int) 1).map .int) (taken := none) ?zp ?z1 ?z2 (LnO R B base) ?z3 ?zturn ?z4
  case zp => exact rfl
  case z1 =>
    apply ev_call
    · walk_at "P.ev"
    · exact rfl
    · apply args_cons
      · exact rfl
      · apply ev_call
        · walk_at "P.ev"
        · exact rfl
        · walk_at "P.args"
        · exact hlenB _ _
      · exact args_nil
    · walk_at "P.call"
  case z2 => exact src_rng (by (clear hBm hbl hc; omega))
  case z3 =>
    refine ⟨0, [], Nat.zero_le _, ?_, rfl, ⟨?_, ?_, ?_⟩⟩
    · unfold rngList
      rw [if_pos rfl, show ((B.length : Int) - 0).toNat = B.length by (clear hBm hBl hbl hc; omega), List.map_map, Nat.sub_zero, ← List.range_eq_range']
      apply List.map_congr_left
      intro k _
      show AV.int (0 + (k : Int)) = AV.int (k : Int)
      rw [Int.zero_add]
    · walk_at "P.sc"
    · walk_at "P.get"
    · walk_at "P.get"
  case z4 =>
    rintro E s ⟨i, g, hi, q1, rfl, ⟨e1, e2, e3⟩⟩
    have hil : B.length - i = 0 := by
      cases q : B.length - i with
      | zero => rfl
      | succ m => rw [q] at q1; cases q1
    apply wp_ret
    · walk_at "P.ev"
    · rw [List.take_of_length_le (by (clear hi hBm hBl hbl hc; omega))]
      exact fz_own (Nat.le_refl _) sto_mid (fzL_map fun _ _ => rfl)
  case zturn =>
    rintro v vs E s ⟨i, g, hi, q1, rfl, ⟨e1, e2, e3⟩⟩
    cases hm : B.length - i with
    | zero => rw [hm] at q1; cases q1
    | succ m =>
      rw [hm, List.range'_succ, List.map_cons] at q1
      obtain ⟨rfl, rfl⟩ := List.cons.inj q1
      have hib : i < B.length := by (clear hi hBm hBl hbl hc; omega)
      have hsplit : B = B.take i ++ B[i] :: B.drop (i + 1) := by rw [← List.drop_eq_getElem_cons hib, List.take_append_drop]
      have hpB : B[i] ∈ B := List.getElem_mem hib
      obtain ⟨hp1, hp2, hp3⟩ := hBn _ hpB
      have htake : B.take (i + 1) = B.take i ++ [B[i]] := by rw [List.take_add_one, List.getElem?_eq_getElem hib]; rfl
      have hitem : ∀ s, IV s (rowsV B) ((i : Nat) : Int) (.list (B[i].map AV.str)) := fun s => by
        refine it_at rfl (by (clear hp2 hm hi hBm hBl hbl hc; omega)) (by (clear hp2 hm hBm hbl hc; omega)) ?_
        rw [Int.toNat_natCast, List.getElem?_map, List.getElem?_eq_getElem hib]; rfl
      have hmo := fun {j : Nat} hj => hmore hsplit (j := j) hj
      generalize hpg : B[i] = p at hp1 hp2 hp3 htake hitem hmo
      obtain ⟨u, x, rfl⟩ : ∃ u x, p = u ++ [x] := ⟨p.dropLast, p.getLast hp3, (List.dropLast_concat_getLast hp3).symm⟩
      have hux : (u ++ [x]).length = u.length + 1 := by simp
      have hx : x ∈ n4 := hp1 x (by simp)
      have hlenp : ∀ k s, CA k (.con (.builtin "len")) [.list ((u ++ [x]).map .str)] s (.int (((u ++ [x]).length : Nat) : Int)) s := fun k s => len_map (by rw [List.length_map]; (clear hux hm hi hBm hBl hbl; omega))
      have hml2 : ∀ y ∈ lineMarks R u x, (ch y).length = 2 := fun y hy => (mark_sign y hy).2
      have hmll : (lineMarks R u x).length = u.length + 1 := by simp [lineMarks, mk]
      refine ⟨E.st "i" (.int ((i : Nat) : Int)), bt_st (by walk_at "P.lc"), ?_⟩
      walk_at "P.as"
      refine wp_for (v := .rng 1 (((u ++ [x]).length : Int) + 1) 1) (σ1 := base ++ AO.list ((B.take i).map fun p => AV.str (lineOf R p)) :: g) (σ2 := base ++ AO.list ((B.take i).map fun p => AV.str (lineOf R p)) :: g) (xs := (List.range' 1 (u ++ [x]).length).map fun k : Nat => AV.int (k : Int)) (taken := none) ?yp ?y1 ?y2
        (LnI R B u x i base) ?y3 ?yturn ?y4
      case yp => exact rfl
      case y1 =>
        apply ev_call
        · walk_at "P.ev"
        · exact rfl
        · apply args_cons
          · exact rfl
          · walk_at "P.ev"
          · apply args_cons
            · exact rfl
            · with_reducible apply ev_bin
              · apply ev_call
                · walk_at "P.ev"
                · exact rfl
                · apply args_cons
                  · exact rfl
                  · with_reducible apply ev_item
                    · intro _ _ _ q; cases q
                    · walk_at "P.ev"
                    · walk_at "P.ev"
                    · exact hitem _
                  · exact args_nil
                · exact hlenp _ _
              · walk_at "P.ev"
              · exact bin_add_int
            · exact args_nil
        · walk_at "P.call"
      case y2 => rw [← rng_up]; exact src_rng1 (by (clear hmll hux hm hi hBm hBl hbl hc; omega))
      case y3 =>
        refine ⟨0, "", g, Nat.zero_le _, rfl, rfl, ⟨?_, ?_, ?_⟩, ?_, ?_, rfl⟩
        · walk_at "P.sc"
        · walk_at "P.get"
        · walk_at "P.get"
        · walk_at "P.get"
        · walk_at "P.get"
      case y4 =>
        rintro E s ⟨j, acc, g, hj, q2, rfl, ⟨e1, e2, e3⟩, e4, e5, hacc⟩
        have hjl : (u ++ [x]).length - j = 0 := by
          cases q : (u ++ [x]).length - j with
          | zero => rfl
          | succ m => rw [q] at q2; cases q2
        rw [List.take_of_length_le (by (clear hj hp2 hm hi hBm hBl hbl hc; omega))] at hacc
        change WP _ _ E (base ++ AO.list ((B.take i).map fun p => AV.str (lineOf R p)) :: g) _
        have hline : acc ++ x = lineOf R (u ++ [x]) := by
          apply ch_ext
          rw [ch_app, hacc, line_snoc, ch_app, join0_ch]; rfl
        have hal : acc.length ≤ 10 := by
          rw [ch_len, hacc, flat_two hml2, hmll]; (clear hjl hj hmll hm hi hBm hBl hbl hc; omega)
        apply wp_expr
        · apply ev_meth
          · intro _ _; kernel_rfl
          · kernel_rfl
          · exact rfl
          · walk_at "P.ev"
          · exact ty_list sto_mid
          · apply evs_cons
            · exact rfl
            · with_reducible apply ev_bin
              · walk_at "P.ev"
              · with_reducible apply ev_item
                · intro _ _ _ q; cases q
                · with_reducible apply ev_item
                  · intro _ _ _ q; cases q
                  · walk_at "P.ev"
                  · walk_at "P.ev"
                  · exact hitem _
                · walk_at "P.ev"
                · refine it_last (xs := u.map AV.str) (w := .str x) ?_ (by rw [List.length_map]; (clear hal hjl hj hmll hm hi hBm hBl hbl hc; omega))
                  rw [List.map_append]; rfl
              · exact bin_add_str (by have := (nm4 hx).2; (clear hjl hj hmll hux hp2 hm hi hBm hBl hbl; omega))
            · exact evs_nil
          · exact m_append sto_mid (by rw [List.length_map, List.length_take]; (clear hal hjl hj hmll hux hp2 hm hi hBm hbl; omega))
        rw [set_mid, hline]
        apply wp_nil
        refine ⟨.inl rfl, i + 1, g, by (clear hal hjl hj hmll hux hp2 hi hBm hBl hbl hc; omega), by rw [show B.length - (i + 1) = m by (clear hal hjl hj hmll hux hp2 hi hBm hBl hbl hc; omega)], ?_, ⟨e1, e2, e3⟩⟩
        rw [htake, List.map_append]; rfl
      case yturn =>
        rintro v vs E s ⟨j, acc, g, hj, q2, rfl, ⟨e1, e2, e3⟩, e4, e5, hacc⟩
        cases hm2 : (u ++ [x]).length - j with
        | zero => rw [hm2] at q2; cases q2
        | succ m2 =>
          rw [hm2, List.range'_succ, List.map_cons] at q2
          obtain ⟨rfl, rfl⟩ := List.cons.inj q2
          have hjp : j < (u ++ [x]).length := by (clear hj hmll hux hp2 hm hi hBm hBl hbl hc; omega)
          have hmj := hmo hjp
          have hmk := marks_at (R := R) (u := u) (x := x) hjp
          have hal : acc.length ≤ 10 := by
            rw [ch_len, hacc, flat_two fun y hy => hml2 y (List.mem_of_mem_take hy), List.length_take, hmll]; (clear hm2 hj hmll hm hi hBm hBl hbl hc; omega)
          have hdn : ∀ p ∈ B.drop (i + 1), N4 p ∧ p.length ≤ 5 ∧ p ≠ [] := fun p hp => hBn p (List.mem_of_mem_drop hp)
          have hsl1 : ∀ s, SL s (rowsV B) (some ((i : Nat) + 1 : Int)) none (rowsV (B.drop (i + 1))) := fun s => by
            refine (sl_list lists_tree hBm).cast ?_
            rw [show ((i : Nat) + 1 : Int) = ((i + 1 : Nat) : Int) by (clear hal hm2 hj hmll hux hp2 hm hi hBm hBl hbl hc; omega), cut_drop, ← List.map_drop]
          have hsl2 : ∀ s, SL s (.list ((u ++ [x]).map .str)) none (some (((j + 1 : Nat) : Int) - 1)) (.list (((u ++ [x]).take j).map .str)) := fun s => by
            refine (sl_list lists_tree (by rw [List.length_map]; (clear hal hm2 hj hmll hux hm hi hBm hBl hbl; omega))).cast ?_
            rw [show (((j + 1 : Nat) : Int) - 1) = ((j : Nat) : Int) by (clear hal hm2 hj hmll hux hp2 hm hi hBm hBl hbl hc; omega), cut_rows]
          refine ⟨E.st "k" (.int ((j + 1 : Nat) : Int)), bt_st (by walk_at "P.lc"), ?_⟩
          generalize hS : base ++ AO.list ((B.take i).map fun p => AV.str (lineOf R p)) :: g = S
          apply wp_assign
          · apply own_comp
            refine comp_rule (S := (dAt 39).scope.names) (v := rowsV (B.drop (i + 1))) (σ1 := S) (σ2 := S) (xs := (B.drop (i + 1)).map fun p => AV.list (p.map AV.str)) (taken := none) (rowF fun one => decide (one.length = j + 1) && decide (one.dropLast = (u ++ [x]).take j)) ?xq1 ?xq2 ?xq3 ?xq4 ?xq5 ?xq6
            case xq1 => walk_at "P.sc"
            case xq2 => kernel_rfl
            case xq3 =>
              with_reducible apply ev_slice
              · walk_at "P.ev"
              · walk_at "P.opt"
              · walk_at "P.opt"
              · exact rfl
              · exact rfl
              · exact hsl1 _
            case xq4 => exact src_list
            case xq5 => rw [List.length_map, List.length_drop]; (clear hal hm2 hj hmll hux hp2 hm hi hBm hbl; omega)
            case xq6 =>
              intro v hvm E1 f1 f2
              obtain ⟨q, hq, rfl⟩ := List.mem_map.mp hvm
              obtain ⟨hq1, hq2, hq3⟩ := hdn q hq
              have gk : E1.get "k" = some (.int ((j + 1 : Nat) : Int)) := by
                refine get_kap f1 (by kernel_rfl) f2 ?_
                refine kap_of (S := (dAt 39).scope.names) (by walk_at "P.sc") (by kernel_rfl) ?_
                walk_at "P.get"
              have gi : E1.get "i" = some (.int ((i : Nat) : Int)) := by
                refine get_kap f1 (by kernel_rfl) f2 ?_
                refine kap_of (S := (dAt 39).scope.names) (by walk_at "P.sc") (by kernel_rfl) ?_
                walk_at "P.get"
              have gK : E1.get "kept" = some (rowsV B) := by
                refine get_kap f1 (by kernel_rfl) f2 ?_
                refine kap_of (S := (dAt 39).scope.names) (by walk_at "P.sc") (by kernel_rfl) ?_
                walk_at "P.get"
              have hqm : (q.map AV.str).length ≤ cap := by rw [List.length_map]; (clear hal hm2 hj hmll hux hp2 hm hi hBm hBl hbl; omega)
              have hsl3 : ∀ s, SL s (.list (q.map .str)) none (some (-1)) (.list (q.dropLast.map .str)) := fun s => (sl_list lists_tree hqm).cast (by rw [cut_but, ← List.map_dropLast])
              refine ⟨E1.st "one" (.list (q.map .str)), bt_st (isLC_of f1 (by kernel_rfl)), by rw [st_sc, f1], ?_, (decide (q.length = j + 1) && decide (q.dropLast = (u ++ [x]).take j)), ?_, fun h => ?_, fun h => ⟨.list (q.map .str), ?_, ?_⟩⟩
              · rw [st_kap (by rw [f1]; kernel_rfl), f2]
              · apply ifs_one
                apply it_bool
                apply and_two
                · refine it_cast (b := decide ((q.length : Int) = ((j + 1 : Nat) : Int))) ?_ (by rw [Bool.eq_iff_iff, decide_eq_true_eq, decide_eq_true_eq]; (clear hqm hq2 hal hm2 hj hmll hux hp2 hm hi hBm hBl hbl hc; omega))
                  with_reducible apply it_cmp
                  · exact rfl
                  · apply ev_call
                    · apply evp_name
                      refine get_ne (by kernel_rfl) ?_
                      exact get_glob f1 (by kernel_rfl) g_len
                    · exact rfl
                    · apply args_cons
                      · exact rfl
                      · apply evp_name
                        exact get_hit (isLC_of f1 (by kernel_rfl))
                      · exact args_nil
                    · exact len_map hqm
                  · apply evp_name
                    exact get_ne (by kernel_rfl) gk
                  · exact eq_ints
                · with_reducible apply it_cmp
                  · exact rfl
                  · with_reducible apply ev_slice
                    · apply evp_name
                      exact get_hit (isLC_of f1 (by kernel_rfl))
                    · walk_at "P.opt"
                    · walk_at "P.opt"
                    · exact rfl
                    · exact rfl
                    · exact hsl3 _
                  · with_reducible apply ev_slice
                    · with_reducible apply ev_item
                      · intro _ _ _ q; cases q
                      · apply evp_name
                        exact get_ne (by kernel_rfl) gK
                      · apply evp_name
                        exact get_ne (by kernel_rfl) gi
                      · exact hitem _
                    · walk_at "P.opt"
                    · with_reducible apply opt_some
                      with_reducible apply ev_bin
                      · apply evp_name
                        exact get_ne (by kernel_rfl) gk
                      · walk_at "P.ev"
                      · exact bin_sub_int
                    · exact rfl
                    · exact rfl
                    · exact hsl2 _
                  · exact eq_rows (fun y hy => hq1 y (List.dropLast_subset _ hy)) fun y hy => hp1 y (List.mem_of_mem_take hy)
              · rw [rowF_at, h]; rfl
              · apply evp_name
                exact get_hit (isLC_of f1 (by kernel_rfl))
              · rw [rowF_at, h]; rfl
          · walk_at "P.lc"
          rw [keep_rows (q := fun one => decide (one.length = j + 1) && decide (one.dropLast = (u ++ [x]).take j)) fun p _ => rowF_at]
          change WP _ _ (AE.st _ _ (AV.own S.length)) (S ++ [AO.list ((later (B.drop (i + 1)) (u ++ [x]) j).map fun p => AV.list (p.map AV.str))]) _
          have hne : ∀ v, v = AV.list [] → CO (S ++ [AO.list ((later (B.drop (i + 1)) (u ++ [x]) j).map fun p => AV.list (p.map AV.str))]) .NotEq (.own S.length) v (more R ((u ++ [x]).take j) ((u ++ [x])[j])) := by
            rintro v rfl
            refine (ne_rowss (P := later (B.drop (i + 1)) (u ++ [x]) j) (Q := []) lists_new rfl (fun p hp => (hdn p (List.mem_filter.mp hp).1).1) fun p hp => by cases hp).cast ?_
            cases hb : more R ((u ++ [x]).take j) ((u ++ [x])[j]) with
            | true =>
              rw [hb] at hmj
              rw [decide_eq_false (hmj.mpr rfl)]; rfl
            | false =>
              rw [hb] at hmj
              have : later (B.drop (i + 1)) (u ++ [x]) j = [] := Classical.byContradiction fun h => by cases hmj.mp h
              rw [decide_eq_true this]; rfl
          have fin : ∀ (z : Str), (lineMarks R u x)[j]? = some z → ch (acc ++ z) = ((lineMarks R u x).take (j + 1)).flatMap ch := fun z hz => by
            rw [ch_app, hacc, List.take_add_one, hz, List.flatMap_append]
            simp
          have hz2 : ∀ z, (lineMarks R u x)[j]? = some z → acc.length + z.length ≤ cap := fun z hz => by
            have := hml2 z (List.mem_of_getElem? hz)
            rw [← ch_len] at this
            (clear hm2 hj hmll hux hp2 hm hi hBm hBl hbl; omega)
          apply wp_if
          · with_reducible apply it_cmp
            · exact rfl
            · walk_at "P.ev"
            · apply ev_call
              · walk_at "P.ev"
              · exact rfl
              · apply args_cons
                · exact rfl
                · with_reducible apply ev_item
                  · intro _ _ _ q; cases q
                  · walk_at "P.ev"
                  · walk_at "P.ev"
                  · exact hitem _
                · exact args_nil
              · exact hlenp _ _
            · exact eq_ints
          · intro hq
            rw [decide_eq_true_eq] at hq
            have hju : j = u.length := by (clear hal hm2 hj hmll hp2 hm hi hBm hBl hbl hc; omega)
            rw [if_pos hju] at hmk
            have ez : (if more R ((u ++ [x]).take j) ((u ++ [x])[j]) then AV.str "+-" else AV.str "'-") = AV.str (mark2 R ((u ++ [x]).take j) ((u ++ [x])[j])) := by
              unfold mark2
              cases more R ((u ++ [x]).take j) ((u ++ [x])[j]) <;> rfl
            apply wp_aug (u := AV.str (mark2 R ((u ++ [x]).take j) ((u ++ [x])[j])))
            · walk_at "P.get"
            · rw [← ez]
              apply ev_if
              · with_reducible apply it_cmp
                · exact rfl
                · walk_at "P.ev"
                · exact ev_list evs_nil (Nat.le_of_ble_eq_true rfl)
                · exact hne _ rfl
              · intro _; walk_at "P.ev"
              · intro _; walk_at "P.ev"
            · exact aug_str (hz2 _ hmk)
            · walk_at "P.lc"
            apply wp_nil
            apply wp_nil
            refine ⟨.inl rfl, j + 1, acc ++ _, g ++ [AO.list ((later (B.drop (i + 1)) (u ++ [x]) j).map fun p => AV.list (p.map AV.str))], by (clear hju hq hal hj hmll hux hp2 hm hi hBm hBl hbl hc; omega), by rw [show (u ++ [x]).length - (j + 1) = m2 by (clear hju hq hal hj hmll hux hp2 hm hi hBm hBl hbl hc; omega)], by rw [← hS]; simp, ⟨?_, ?_, ?_⟩, ?_, ?_, fin _ hmk⟩
            · walk_at "P.sc"
            · walk_at "P.get"
            · walk_at "P.get"
            · walk_at "P.get"
            · walk_at "P.get"
          · intro hq
            rw [decide_eq_false_iff_not] at hq
            have hju : ¬ j = u.length := by (clear hal hm2 hj hmll hp2 hm hi hBm hBl hbl hc; omega)
            rw [if_neg hju] at hmk
            have ez : (if more R ((u ++ [x]).take j) ((u ++ [x])[j]) then AV.str "| " else AV.str "  ") = AV.str (mark R ((u ++ [x]).take j) ((u ++ [x])[j])) := by
              unfold mark
              cases more R ((u ++ [x]).take j) ((u ++ [x])[j]) <;> rfl
            apply wp_aug (u := AV.str (mark R ((u ++ [x]).take j) ((u ++ [x])[j])))
            · walk_at "P.get"
            · rw [← ez]
              apply ev_if
              · with_reducible apply it_cmp
                · exact rfl
                · walk_at "P.ev"
                · exact ev_list evs_nil (Nat.le_of_ble_eq_true rfl)
                · exact hne _ rfl
              · intro _; walk_at "P.ev"
              · intro _; walk_at "P.ev"
            · exact aug_str (hz2 _ hmk)
            · walk_at "P.lc"
            apply wp_nil
            apply wp_nil
            refine ⟨.inl rfl, j + 1, acc ++ _, g ++ [AO.list ((later (B.drop (i + 1)) (u ++ [x]) j).map fun p => AV.list (p.map AV.str))], by (clear hju hq hal hj hmll hux hp2 hm hi hBm hBl hbl hc; omega), by rw [show (u ++ [x]).length - (j + 1) = m2 by (clear hju hq hal hj hmll hux hp2 hm hi hBm hBl hbl hc; omega)], by rw [← hS]; simp, ⟨?_, ?_, ?_⟩, ?_, ?_, fin _ hmk⟩
            · walk_at "P.sc"
            · walk_at "P.get"
            · walk_at "P.get"
            · walk_at "P.get"
            · walk_at "P.get"
end
end

noncomputable section
open PySem
section
variable {n : Nat} {E : AE} {σ : Sto}
theorem eb_and2 {a b : Expr} {es : List Expr} {s t : Bool} (h1 : EV n a E σ (.bool s) σ) (h2 : s = true → EB n .And (b :: es) E σ (.bool t) σ) : EB n .And (a :: b :: es) E σ (.bool (s && t)) σ := by
  cases s
  · exact eb_and_f h1 tr_bool
  · rw [Bool.true_and]; exact eb_and_t h1 tr_bool (h2 rfl)
theorem eb_or2 {a b : Expr} {es : List Expr} {s t : Bool} (h1 : EV n a E σ (.bool s) σ) (h2 : s = false → EB n .Or (b :: es) E σ (.bool t) σ) : EB n .Or (a :: b :: es) E σ (.bool (s || t)) σ := by
  cases s
  · rw [Bool.false_or]; exact eb_or_f h1 tr_bool (h2 rfl)
  · exact eb_or_t h1 tr_bool
theorem fn_takes : fnAt 232 = some (dAt 34) := by kernel_rfl
theorem pd_strs {l : List Str} (h : ∀ y ∈ l, PyData.strOk y = true) : toPD (.list (l.map AV.str)) = some (.list (l.map PyData.str)) := by
  unfold toPD
  rw [toPDs_map _ h]; rfl
theorem eq_strs {p q : List Str} (hp : ∀ y ∈ p, PyData.strOk y = true) (hq : ∀ y ∈ q, PyData.strOk y = true) : CO σ .Eq (.list (p.map AV.str)) (.list (q.map AV.str)) (decide (p = q)) :=
  (eq_data (rd_pd (pd_strs hp)) (rd_pd (pd_strs hq)) (depth_row p)).cast (eqv_rows ..)
theorem item_first {x : Str} (h : x.length ≠ 0) : IV σ (.str x) 0 (.str (Txt.item x 0)) := by
  refine iv_str (j := 0) (by decide) ?_
  unfold seqIndex?
  simp
  omega
theorem c_takes : ∀ (k : Nat) (row : List Str) (x : Str), row.length + x.length ≤ k → k ≤ 50 → (∀ y ∈ row, PyData.strOk y = true) → ∀ N, 40 + 10 * k ≤ N → ∀ σ, ∃ b, CD N 232 [.list (row.map .str), .str x] σ (.bool b) := by
  intro k
  induction k with
  | zero =>
    intro row x h _ hr N hN σ
    have : row = [] := List.eq_nil_of_length_eq_zero (by (clear hN; omega))
    subst this
    obtain ⟨M, rfl⟩ : ∃ M, N = M + 30 := ⟨N - 30, by (clear h; omega)⟩
    refine ⟨sq x "", ?_⟩
    refine callD_intro (E := ?ze0) rfl rfl fn_takes ?_ ?_
    rotate_left
    · show bindP _ (_ :: _) _ _ = _
      walk_at "P.bind"
    apply wp_if (c := true)
    · with_reducible apply it_cmp
      · exact rfl
      · walk_at "P.ev"
      · walk_at "P.ev"
      · exact eq_strs (p := []) (q := []) hr (by intro y h; cases h)
    · intro _
      apply wp_ret
      · walk_at "P.ev"
      · rfl
    · intro h; cases h
  | succ k ih =>
    intro row x h hk hr N hN σ
    have hc : cap = 100000 := rfl
    obtain ⟨M, rfl⟩ : ∃ M, N = M + 30 := ⟨N - 30, by (clear hc hk h; omega)⟩
    cases row with
    | nil =>
      refine ⟨sq x "", ?_⟩
      refine callD_intro (E := ?ze1) rfl rfl fn_takes ?_ ?_
      rotate_left
      · show bindP _ (_ :: _) _ _ = _
        walk_at "P.bind"
      apply wp_if (c := true)
      · with_reducible apply it_cmp
        · exact rfl
        · walk_at "P.ev"
        · walk_at "P.ev"
        · exact eq_strs (p := []) (q := []) hr (by intro y h; cases h)
      · intro _
        apply wp_ret
        · walk_at "P.ev"
        · rfl
      · intro h; cases h
    | cons r rs =>
      rw [List.length_cons] at h
      have hrs : ∀ y ∈ rs, PyData.strOk y = true := fun y hy => hr y (List.mem_cons_of_mem _ hy)
      have hxl : x.length ≤ cap := by (clear hN; omega)
      have hrl : ((r :: rs).map AV.str).length ≤ cap := by rw [List.length_map, List.length_cons]; (clear hxl hN; omega)
      have hx0 : sq x "" = false → x.length ≠ 0 := fun h e => by
        have : ch x = [] := List.eq_nil_of_length_eq_zero e
        rw [sq_ch.mpr (by rw [this]; kernel_rfl)] at h; cases h
      have hsl : ∀ s, SL s (.list ((r :: rs).map .str)) (some 1) none (.list (rs.map .str)) := fun s => by
        refine (sl_list lists_tree hrl).cast ?_
        rw [show (1 : Int) = ((1 : Nat) : Int) from rfl, cut_drop, ← List.map_drop]; rfl
      have hsx : x.length ≠ 0 → (Txt.slice x (some 1) none).length + 1 ≤ x.length := fun h0 => by
        have : ch (Txt.slice x (some 1) none) = (ch x).drop 1 := by rw [show (1 : Int) = ((1 : Nat) : Int) from rfl, sl_drop]
        rw [ch_len, this, List.length_drop, ch_len]
        rw [ch_len] at h0
        (clear hx0 hrl hxl h hN hc hk; omega)
      have hi0 : ∀ s, IV s (.list ((r :: rs).map .str)) 0 (.str r) := fun s => it_at (i := 0) rfl (by (clear hsx hx0 hrl hxl h hN hc hk; omega)) (by (clear hsx hx0 hrl hxl h hN hc hk; omega)) rfl
      have hnil : ∀ s, CO s .Eq (.list ((r :: rs).map .str)) (.list []) false := fun s => by
        exact (eq_strs (q := []) hr (by intro y h; cases h)).cast rfl
      cases hstar : sq r "*" with
      | true =>
        obtain ⟨bA, hA⟩ := ih rs x (by (clear hsx hx0 hrl hxl hN hc hk; omega)) (by (clear hsx hx0 hrl hxl h hN hc; omega)) hrs (M + 24) (by (clear hsx hx0 hrl hxl h hc hk; omega)) (σ.map AO.lock)
        obtain ⟨bC, hC⟩ : ∃ b, x.length ≠ 0 → CD ((M + 23)) 232 [.list ((r :: rs).map .str), .str (Txt.slice x (some 1) none)] (σ.map AO.lock) (.bool b) := by
          by_cases h0 : x.length = 0
          · exact ⟨false, fun h => absurd h0 h⟩
          · obtain ⟨b, hb⟩ := ih (r :: rs) (Txt.slice x (some 1) none) (by have := hsx h0; rw [List.length_cons]; (clear this hx0 hrl hxl hN hc hk; omega)) (by (clear h0 hsx hx0 hrl hxl h hN hc; omega)) hr (M + 23) (by (clear h0 hsx hx0 hrl hxl h hc hk; omega)) (σ.map AO.lock)
            exact ⟨b, fun _ => hb⟩
        refine ⟨bA || (!sq x "" && bC), ?_⟩
        refine callD_intro (E := ?ze2) rfl rfl fn_takes ?_ ?_
        rotate_left
        · show bindP _ (_ :: _) _ _ = _
          walk_at "P.bind"
        apply wp_if (c := false)
        · with_reducible apply it_cmp
          · exact rfl
          · walk_at "P.ev"
          · walk_at "P.ev"
          · exact hnil _
        · intro h; cases h
        · intro _
          apply wp_nil
          apply wp_if (c := true)
          · rw [← hstar]
            with_reducible apply it_cmp
            · exact rfl
            · with_reducible apply ev_item
              · intro _ _ _ q; cases q
              · walk_at "P.ev"
              · walk_at "P.ev"
              · exact hi0 _
            · walk_at "P.ev"
            · exact cmp_eq_str
          · intro _
            apply wp_ret
            · apply ev_bool
              apply eb_or2
              · apply ev_call
                · walk_at "P.ev"
                · exact rfl
                · apply args_cons
                  · exact rfl
                  · with_reducible apply ev_slice
                    · walk_at "P.ev"
                    · walk_at "P.opt"
                    · walk_at "P.opt"
                    · exact rfl
                    · exact rfl
                    · exact hsl _
                  · walk_at "P.args"
                · exact call_d hA
              · intro _
                apply eb_one
                apply ev_bool
                apply eb_and2
                · walk_at "P.ev"
                · intro hq
                  apply eb_one
                  apply ev_call
                  · walk_at "P.ev"
                  · exact rfl
                  · walk_at "P.args"
                  · exact call_d (hC (hx0 (by simpa using hq)))
            · rfl
          · intro h; cases h
      | false =>
        obtain ⟨bC, hC⟩ : ∃ b, x.length ≠ 0 → CD ((M + 26)) 232 [.list (rs.map .str), .str (Txt.slice x (some 1) none)] (σ.map AO.lock) (.bool b) := by
          by_cases h0 : x.length = 0
          · exact ⟨false, fun h => absurd h0 h⟩
          · obtain ⟨b, hb⟩ := ih rs (Txt.slice x (some 1) none) (by have := hsx h0; (clear this hx0 hrl hxl hN hc hk; omega)) (by (clear h0 hsx hx0 hrl hxl h hN hc; omega)) hrs (M + 26) (by (clear h0 hsx hx0 hrl hxl h hc hk; omega)) (σ.map AO.lock)
            exact ⟨b, fun _ => hb⟩
        refine ⟨!sq x "" && (Txt.contains r (Txt.item x 0) && bC), ?_⟩
        refine callD_intro (E := ?ze3) rfl rfl fn_takes ?_ ?_
        rotate_left
        · show bindP _ (_ :: _) _ _ = _
          walk_at "P.bind"
        apply wp_if (c := false)
        · with_reducible apply it_cmp
          · exact rfl
          · walk_at "P.ev"
          · walk_at "P.ev"
          · exact hnil _
        · intro h; cases h
        · intro _
          apply wp_nil
          apply wp_if (c := false)
          · rw [← hstar]
            with_reducible apply it_cmp
            · exact rfl
            · with_reducible apply ev_item
              · intro _ _ _ q; cases q
              · walk_at "P.ev"
              · walk_at "P.ev"
              · exact hi0 _
            · walk_at "P.ev"
            · exact cmp_eq_str
          · intro h; cases h
          · intro _
            apply wp_nil
            apply wp_ret
            · apply ev_bool
              apply eb_and2
              · walk_at "P.ev"
              · intro hq
                have h0 := hx0 (by simpa using hq)
                apply eb_and2
                · with_reducible apply ev_cmp
                  · exact rfl
                  · with_reducible apply ev_item
                    · intro _ _ _ q; cases q
                    · walk_at "P.ev"
                    · walk_at "P.ev"
                    · exact item_first h0
                  · with_reducible apply ev_item
                    · intro _ _ _ q; cases q
                    · walk_at "P.ev"
                    · walk_at "P.ev"
                    · exact hi0 _
                  · exact cmp_in_str
                · intro _
                  apply eb_one
                  apply ev_call
                  · walk_at "P.ev"
                  · exact rfl
                  · apply args_cons
                    · exact rfl
                    · with_reducible apply ev_slice
                      · walk_at "P.ev"
                      · walk_at "P.opt"
                      · walk_at "P.opt"
                      · exact rfl
                      · exact rfl
                      · exact hsl _
                    · walk_at "P.args"
                  · exact call_d (hC h0)
            · rfl
end
end

noncomputable section
open PySem
section
variable {n : Nat} {σ : Sto}
theorem fn_pattern : fnAt 220 = some (dAt 32) := by kernel_rfl
noncomputable def pItems : List (Str × Option Str) := [("*", some "*"), ("?", some "ab"), ("a", some "a"), ("[!a]", some "b"), ("[b-aa]", some "a"), ("[b-a]", some ""), ("", none)]
noncomputable def pV (p : Str × Option Str) : AV := .tup [.str p.1, match p.2 with
  | some s => .str s
  | none => .none]
noncomputable def pAt (i : Int) : Str × Option Str := pItems.getD i.toNat ("", none)
noncomputable def pstep (a : Str × List Str) (p : Str × Option Str) : Str × List Str := (a.1 ++ p.1, match p.2 with
  | none => a.2
  | some s => if (!sq s "*" || !decide (cutL a.2 (some (-1)) none = [Str.ofString "*"])) = true then a.2 ++ [s] else a.2)
noncomputable def pfold (a : Str × List Str) : List (Str × Option Str) → Str × List Str
  | [] => a
  | p :: l => pfold (pstep a p) l
noncomputable def digits (x : Int) : List (Str × Option Str) := [pAt (Int.fmod x 7), pAt (Int.fmod (Int.fdiv x 7) 7), pAt (Int.fmod (Int.fdiv x 49) 7)]
noncomputable def patOf (x : Int) : Str × List Str := pfold ("", []) (digits x)
noncomputable def pOk (p : Str × Option Str) : Bool := Nat.ble p.1.length 6 && match p.2 with
  | some s => PyData.strOk s
  | none => true
theorem pItems_ok : pItems.all pOk = true := by kernel_rfl
theorem pAt_mem {i : Int} (h : 0 ≤ i ∧ i < 7) : pItems[i.toNat]? = some (pAt i) ∧ pAt i ∈ pItems := by
  have hl : i.toNat < pItems.length := by show i.toNat < 7; omega
  have : pItems[i.toNat]? = some (pAt i) := by
    unfold pAt
    rw [List.getD_eq_getElem?_getD, List.getElem?_eq_getElem hl]; rfl
  exact ⟨this, List.mem_of_getElem? this⟩
theorem p_item {s : Sto} {b : Nat} {i : Int} (hb : s[b]? = some (.list (pItems.map pV))) (h : 0 ≤ i ∧ i < 7) : IV s (.own b) i (pV (pAt i)) := by
  refine it_at (items_of (lists_own hb)) h.1 (by omega) ?_
  rw [List.getElem?_map, (pAt_mem h).1]; rfl
theorem cut_map {α β : Type} (f : α → β) (l : List α) (a b : Option Int) : cutL (l.map f) a b = (cutL l a b).map f := by
  unfold cutL
  rw [List.length_map, List.map_filterMap]
  congr 1
  funext i
  rw [List.getElem?_map]
theorem digits_in (x : Int) : ∀ p ∈ digits x, p ∈ pItems := by
  intro p hp
  unfold digits at hp
  simp only [List.mem_cons, List.mem_nil_iff, or_false] at hp
  rcases hp with rfl | rfl | rfl <;> exact (pAt_mem (fmod_range _ 7 (by decide))).2
theorem ne_strs {σ : Sto} {v : AV} {p q : List Str} (hv : v = .list (q.map AV.str)) (hp : ∀ y ∈ p, PyData.strOk y = true) (hq : ∀ y ∈ q, PyData.strOk y = true) : CO σ .NotEq (.list (p.map AV.str)) v (!decide (p = q)) := by
  subst hv
  exact (ne_data (rd_pd (pd_strs hp)) (rd_pd (pd_strs hq)) (depth_row p)).cast (by rw [eqv_rows])
theorem cut_mem {α : Type} {l : List α} {a b : Option Int} {x : α} (h : x ∈ cutL l a b) : x ∈ l := by
  unfold cutL at h
  obtain ⟨i, _, hi⟩ := List.mem_filterMap.mp h
  exact List.mem_of_getElem? hi
inductive PtI (x : Int) (base : Sto) (xs : List AV) (E : AE) (s : Sto) : Prop where
  | mk (rest : List (Str × Option Str)) (t : Str) (l : List Str) : xs = rest.map pV → (∀ p ∈ rest, p ∈ pItems) → pfold (t, l) rest = patOf x → s = base ++ [AO.list (pItems.map pV)] ++ [AO.list (l.map .str)] → E.sc = (dAt 32).scope.names → E.get "told" = some (.own (base.length + 1)) → E.get "text" = some (.str t) → t.length + 6 * rest.length ≤ 100 → l.length + rest.length ≤ 100 → (∀ y ∈ l, PyData.strOk y = true) → PtI x base xs E s
set_option maxHeartbeats 1000000 in
theorem c_pattern {x : Int} : CD ((n + 70)) 220 [.int x] σ (.tup [.str (patOf x).1, .list ((patOf x).2.map .str)]) := by
  have hc : cap = 100000 := rfl
  have hbl : (σ.map AO.lock).length = σ.length := List.length_map ..
  refine callD_intro (E := ?ze) rfl rfl fn_pattern ?_ ?_
  rotate_left
  · show bindP _ (_ :: _) _ _ = _
    walk_at "P.bind"
  rw [← hbl]
  generalize σ.map AO.lock = base
  show WP (n + 68 + 2) (_ :: _) _ _ _
  refine wp_assign (v := .own base.length) (σ1 := base ++ [AO.list (pItems.map pV)]) ?_ ?_ ?_
  · refine own_tups (vs := [.tup [.str "*", .str "*"], .tup [.str "?", .str "ab"], .tup [.str "a", .str "a"], .tup [.str "[!a]", .str "b"], .tup [.str "[b-aa]", .str "a"], .tup [.str "[b-a]", .str ""], .tup [.str "", .none]]) ?_ ?_
    · walk_at "P.evs"
    · exact Nat.le_of_ble_eq_true rfl
  · walk_at "P.lc"
  change WP _ _ _ (base ++ [AO.list (pItems.map pV)]) _
  walk_at "P.as"
  walk_at "P.as"
  have e1 : (base ++ [AO.list (pItems.map pV)]).length = base.length + 1 := by simp
  rw [e1]
  have hb0 : (base ++ [AO.list (pItems.map pV)] ++ [AO.list []])[base.length]? = some (AO.list (pItems.map pV)) := by simp
  refine wp_for (v := .list ((digits x).map pV)) (σ1 := base ++ [AO.list (pItems.map pV)] ++ [AO.list []]) (σ2 := base ++ [AO.list (pItems.map pV)] ++ [AO.list []]) (xs := (digits x).map pV) (taken := none) ?zp ?z1 ?z2 (PtI x base) ?z3 ?zturn ?z4
  case zp => exact rfl
  case z1 =>
    with_reducible apply ev_list
    · show EVS _ (_ :: _ :: _ :: []) _ _ [_, _, _] _
      apply evs_cons
      · exact rfl
      · with_reducible apply ev_item
        · intro _ _ _ q; cases q
        · walk_at "P.ev"
        · walk_at "P.ev"
        · exact p_item hb0 (fmod_range _ 7 (by decide))
      · apply evs_cons
        · exact rfl
        · with_reducible apply ev_item
          · intro _ _ _ q; cases q
          · walk_at "P.ev"
          · walk_at "P.ev"
          · exact p_item hb0 (fmod_range _ 7 (by decide))
        · apply evs_cons
          · exact rfl
          · with_reducible apply ev_item
            · intro _ _ _ q; cases q
            · walk_at "P.ev"
            · walk_at "P.ev"
            · exact p_item hb0 (fmod_range _ 7 (by decide))
          · exact evs_nil
    · exact Nat.le_of_ble_eq_true rfl
  case z2 => exact src_list
  case z3 =>
    refine ⟨digits x, "", [], rfl, digits_in x, rfl, rfl, ?_, ?_, ?_, ?_, ?_, ?_⟩
    · walk_at "P.sc"
    · walk_at "P.get"
    · walk_at "P.get"
    · show (Str.ofString "").length + 6 * 3 ≤ 100
      rw [len_empty]; (clear e1 hbl hc; omega)
    · show 0 + 3 ≤ 100
      (clear e1 hbl hc; omega)
    · intro y h; cases h
  case z4 =>
    rintro E s ⟨rest, t, l, q1, q2, q3, rfl, e1, e2, e3, q4, q5, q6⟩
    have : rest = [] := by cases rest with
      | nil => rfl
      | cons _ _ => cases q1
    subst this
    have q3 : (t, l) = patOf x := q3
    rw [← q3]
    apply wp_ret
    · walk_at "P.ev"
    · apply fz_tup
      refine fzL_cons rfl (fzL_cons (fz_own (Nat.le_succ _) ?_ (fzL_map fun _ _ => rfl)) fzL_nil)
      have : (base ++ [AO.list (pItems.map pV)]).length = base.length + 1 := by simp
      rw [← this]
      exact sto_new
  case zturn =>
    rintro v vs E s ⟨rest, t, l, q1, q2, q3, rfl, e1, e2, e3, q4, q5, q6⟩
    cases rest with
    | nil => cases q1
    | cons p rest =>
      cases q1
      obtain ⟨piece, signs⟩ := p
      have hpo := List.all_eq_true.mp pItems_ok _ (q2 _ List.mem_cons_self)
      unfold pOk at hpo
      rw [Bool.and_eq_true] at hpo
      have hp6 : piece.length ≤ 6 := Nat.le_of_ble_eq_true hpo.1
      rw [List.length_cons] at q4 q5
      have hl1 : (base ++ [AO.list (pItems.map pV)]).length = base.length + 1 := by simp
      have hold : ∀ ls, (base ++ [AO.list (pItems.map pV)] ++ [AO.list ls])[base.length + 1]? = some (AO.list ls) := fun ls => by
        rw [← hl1]; exact sto_new
      have hset : ∀ ls ls', (base ++ [AO.list (pItems.map pV)] ++ [AO.list ls]).set (base.length + 1) (AO.list ls') = base ++ [AO.list (pItems.map pV)] ++ [AO.list ls'] := fun ls ls' => by
        rw [← hl1]; exact set_new
      have htl : t.length + piece.length ≤ cap := by (clear hl1 q5 hbl; omega)
      cases signs with
      | none =>
        refine ⟨(E.st "piece" (.str piece)).st "signs" .none, ?_, ?_⟩
        · refine .tup ?_
          show SETS (_ :: _ :: []) (_ :: _ :: []) _ _
          walk_at "P.setall"
        apply wp_aug
        · walk_at "P.get"
        · walk_at "P.ev"
        · exact aug_str htl
        · walk_at "P.lc"
        apply wp_if (c := false) (σ1 := base ++ [AO.list (pItems.map pV)] ++ [AO.list (l.map .str)])
        · apply it_bool
          apply and_f
          with_reducible apply it_cmp
          · exact rfl
          · walk_at "P.ev"
          · walk_at "P.ev"
          · exact cmp_isn .nn
        · intro h; cases h
        · intro _
          apply wp_nil
          apply wp_nil
          refine ⟨.inl rfl, rest, t ++ piece, l, rfl, fun p hp => q2 p (List.mem_cons_of_mem _ hp), q3, rfl, ?_, ?_, ?_, by rw [strLen_append]; (clear htl hl1 q5 hbl hc; omega), by (clear htl hl1 hp6 q4 hbl hc; omega), q6⟩
          · walk_at "P.sc"
          · walk_at "P.get"
          · walk_at "P.get"
      | some sg =>
        have hsg : PyData.strOk sg = true := hpo.2
        refine ⟨(E.st "piece" (.str piece)).st "signs" (.str sg), ?_, ?_⟩
        · refine .tup ?_
          show SETS (_ :: _ :: []) (_ :: _ :: []) _ _
          walk_at "P.setall"
        apply wp_aug
        · walk_at "P.get"
        · walk_at "P.ev"
        · exact aug_str htl
        · walk_at "P.lc"
        have hsl1 : SL (base ++ [AO.list (pItems.map pV)] ++ [AO.list (l.map .str)]) (.own (base.length + 1)) (some (-1)) none (.list ((cutL l (some (-1)) none).map .str)) := (sl_list (lists_own (hold _)) (by rw [List.length_map]; (clear htl hl1 hp6 q4 hbl; omega))).cast (by rw [cut_map])
        apply wp_if (c := !sq sg "*" || !decide (cutL l (some (-1)) none = [Str.ofString "*"])) (σ1 := base ++ [AO.list (pItems.map pV)] ++ [AO.list (l.map .str)])
        · apply it_bool
          apply and_t
          · with_reducible apply it_cmp
            · exact rfl
            · walk_at "P.ev"
            · walk_at "P.ev"
            · exact cmp_isn (.sn sg)
          · apply and_t1
            apply it_bool
            apply or_two
            · walk_at "P.it"
            · with_reducible apply it_cmp
              · exact rfl
              · with_reducible apply ev_slice
                · walk_at "P.ev"
                · walk_at "P.opt"
                · walk_at "P.opt"
                · exact rfl
                · exact rfl
                · exact hsl1
              · walk_at "P.ev"
              · refine ne_strs (q := [Str.ofString "*"]) rfl (fun y hy => q6 y (cut_mem hy)) ?_
                intro y hy
                rw [List.mem_singleton.mp hy]; kernel_rfl
        · intro hq
          apply wp_expr
          · apply ev_meth
            · intro _ _; kernel_rfl
            · kernel_rfl
            · exact rfl
            · walk_at "P.ev"
            · exact ty_list (hold _)
            · walk_at "P.evs"
            · exact m_append (hold _) (by rw [List.length_map]; (clear htl hl1 hp6 q4 hbl; omega))
          rw [hset]
          apply wp_nil
          apply wp_nil
          refine ⟨.inl rfl, rest, t ++ piece, l ++ [sg], rfl, fun p hp => q2 p (List.mem_cons_of_mem _ hp), ?_, by simp, ?_, ?_, ?_, by rw [strLen_append]; (clear htl hl1 q5 hbl hc; omega), by rw [List.length_append, List.length_singleton]; (clear htl hl1 hp6 q4 hbl hc; omega), ?_⟩
          · rw [← q3]
            show _ = pfold (pstep (t, l) (piece, some sg)) rest
            unfold pstep
            simp only
            rw [if_pos hq]
          · walk_at "P.sc"
          · walk_at "P.get"
          · walk_at "P.get"
          · intro y hy
            rcases List.mem_append.mp hy with h | h
            · exact q6 y h
            · rw [List.mem_singleton.mp h]; exact hsg
        · intro hq
          apply wp_nil
          apply wp_nil
          refine ⟨.inl rfl, rest, t ++ piece, l, rfl, fun p hp => q2 p (List.mem_cons_of_mem _ hp), ?_, rfl, ?_, ?_, ?_, by rw [strLen_append]; (clear htl hl1 q5 hbl hc; omega), by (clear htl hl1 hp6 q4 hbl hc; omega), q6⟩
          · rw [← q3]
            show _ = pfold (pstep (t, l) (piece, some sg)) rest
            unfold pstep
            simp only
            rw [if_neg (by rw [hq]; simp)]
          · walk_at "P.sc"
          · walk_at "P.get"
          · walk_at "P.get"
end
end

noncomputable section
open PySem
/-- what _law_read says of a part -/
noncomputable def readA (v : AV) : Option Str := match v with
  | .none => some "*"
  | .str y => if sq y "." then some "ab" else if sq y "(?!)" then some "" else if sq y "a" then some "a" else if sq y "[^a]" then some "b" else if sq y "[a]" then some "a" else none
  | _ => none
noncomputable def readAll : List AV → Option (List Str)
  | [] => some []
  | v :: l => match readA v, readAll l with
    | some y, some r => some (y :: r)
    | _, _ => none
/-- the items that have signs -/
noncomputable def items6 : List (Str × Option Str) := [("*", some "*"), ("?", some "ab"), ("a", some "a"), ("[!a]", some "b"), ("[b-aa]", some "a"), ("[b-a]", some "")]
noncomputable def full (p : Str × Option Str) : Bool := p.2.isSome
theorem app_empty (t : Str) : t ++ Str.ofString "" = t := by
  apply ch_ext
  rw [ch_app, show ch (Str.ofString "") = [] from by kernel_rfl, List.append_nil]
theorem full6 {p : Str × Option Str} (h : p ∈ pItems) : (full p = true ∧ p ∈ items6) ∨ (full p = false ∧ p = ((Str.ofString "", none) : Str × Option Str)) := by
  unfold pItems at h
  simp only [List.mem_cons, List.mem_nil_iff, or_false] at h
  rcases h with rfl | rfl | rfl | rfl | rfl | rfl | rfl
  · exact .inl ⟨rfl, .head _⟩
  · exact .inl ⟨rfl, .tail _ (.head _)⟩
  · exact .inl ⟨rfl, .tail _ (.tail _ (.head _))⟩
  · exact .inl ⟨rfl, .tail _ (.tail _ (.tail _ (.head _)))⟩
  · exact .inl ⟨rfl, .tail _ (.tail _ (.tail _ (.tail _ (.head _))))⟩
  · exact .inl ⟨rfl, .tail _ (.tail _ (.tail _ (.tail _ (.tail _ (.head _)))))⟩
  · exact .inr ⟨rfl, rfl⟩
theorem pfold_full : ∀ {ds : List (Str × Option Str)} {a : Str × List Str}, (∀ p ∈ ds, p ∈ pItems) → pfold a ds = pfold a (ds.filter full)
  | [], _, _ => rfl
  | p :: ds, a, h => by
    have ih : ∀ b, pfold b ds = pfold b (ds.filter full) := fun b => pfold_full fun q hq => h q (List.mem_cons_of_mem _ hq)
    rcases full6 (h p List.mem_cons_self) with ⟨e, _⟩ | ⟨e, e2⟩
    · rw [List.filter_cons_of_pos e]
      exact ih _
    · rw [List.filter_cons_of_neg (by rw [e]; simp)]
      subst e2
      show pfold (pstep a (Str.ofString "", none)) ds = _
      rw [ih]
      have : pstep a (Str.ofString "", none) = a := by
        unfold pstep
        simp only
        rw [app_empty]
      rw [this]
/-- what _translate makes of an item -/
noncomputable def addPart (res : List AV) (p : Str × Option Str) : List AV := match p.2 with
  | none => res
  | some s => if sq p.1 "*" then (match res.getLast? with
      | some .none => res
      | _ => res ++ [.none]) else res ++ [if sq p.1 "?" then .str "." else if sq p.1 "a" then .str "a" else if sq p.1 "[!a]" then .str "[^a]" else if sq s "" then .str "(?!)" else .str "[a]"]
noncomputable def partsA (res : List AV) : List (Str × Option Str) → List AV
  | [] => res
  | p :: l => partsA (addPart res p) l
noncomputable def rdOk (ds : List (Str × Option Str)) : Bool := match readAll (partsA [] ds) with
  | some m => eqS m (pfold ("", []) ds).2
  | none => false
noncomputable def rdAll : Nat → List (Str × Option Str) → Bool
  | 0, ds => rdOk ds
  | k + 1, ds => rdOk ds && items6.all fun p => rdAll k (ds ++ [p])
theorem rd_all : rdAll 3 [] = true := by kernel_rfl
theorem rd_in : ∀ (k : Nat) (ds es : List (Str × Option Str)), rdAll k ds = true → es.length ≤ k → (∀ p ∈ es, p ∈ items6) → rdOk (ds ++ es) = true
  | 0, ds, es, h, hl, _ => by
    cases List.eq_nil_of_length_eq_zero (Nat.le_zero.mp hl)
    rw [List.append_nil]; exact h
  | k + 1, ds, es, h, hl, hm => by
    rw [rdAll, Bool.and_eq_true] at h
    cases es with
    | nil => rw [List.append_nil]; exact h.1
    | cons p es =>
      have h2 := List.all_eq_true.mp h.2 p (hm p List.mem_cons_self)
      have := rd_in k (ds ++ [p]) es h2 (Nat.le_of_succ_le_succ hl) fun q hq => hm q (List.mem_cons_of_mem _ hq)
      rw [List.append_assoc] at this
      exact this
theorem read_parts {ds : List (Str × Option Str)} (hl : ds.length ≤ 3) (hm : ∀ p ∈ ds, p ∈ items6) : readAll (partsA [] ds) = some (pfold ("", []) ds).2 := by
  have h := rd_in 3 [] ds rd_all hl hm
  rw [List.nil_append] at h
  unfold rdOk at h
  cases q : readAll (partsA [] ds) with
  | none => rw [q] at h; exact nomatch h
  | some m => rw [q] at h; rw [eqS_eq h]
/-- the signs of a pattern -/
noncomputable def txt (ds : List (Str × Option Str)) : List Nat := ds.flatMap fun p => ch p.1
theorem pfold_txt : ∀ (ds : List (Str × Option Str)) (a : Str × List Str), ch (pfold a ds).1 = ch a.1 ++ txt ds
  | [], a => by show _ = ch a.1 ++ []; rw [List.append_nil]; rfl
  | p :: ds, a => by
    show ch (pfold (pstep a p) ds).1 = ch a.1 ++ (ch p.1 ++ txt ds)
    rw [pfold_txt ds, ← List.append_assoc]
    congr 1
    exact ch_app _ _
end

noncomputable section
open PySem
section
variable {n : Nat} {σ : Sto} {t : Str} {p q : Nat} {E : AE} {b : Nat} {x : Str} {v : AV} {c : Nat} {res : List AV} {g : Sto} {base : Sto}
theorem iv_ch (h : (ch t)[p]? = some c) (hl : t.length ≤ cap) : IV σ (.str t) (p : Int) (.str ⟨#[c]⟩) := by
  have hc : cap = 100000 := rfl
  have hlt : p < t.length := (List.getElem?_eq_some_iff.mp h).1
  have hs : seqIndex? (p : Int) t.length = some p := by
    unfold seqIndex?
    simp
    (clear hc hl; omega)
  have := iv_str (σ := σ) (x := t) (i := (p : Int)) (j := p) (by omega) hs
  have e : Txt.item t (p : Int) = ⟨#[c]⟩ := by
    unfold Txt.item Txt.charAt
    rw [hs]
    rw [Option.bind_some, ← Array.getElem?_toList, show t.cps.toList[p]? = some c from h]
    rfl
  rw [e] at this
  exact this
theorem sl_ch {y : Str} (h : ((ch t).drop p).take (q - p) = ch y) : Txt.slice t (some (p : Int)) (some (q : Int)) = y := ch_ext (sl_mid.trans h)
theorem lt_nat {m : Nat} (h : p < m) : CO σ .Lt (.int (p : Int)) (.int (m : Int)) true := cmp_lt_int.cast (decide_eq_true (by omega))
theorem inc_nat : BO σ .Add (.int (p : Int)) (.int 1) (.int ((p + 1 : Nat) : Int)) := bin_add_int
theorem inc2_nat : BO σ .Add (.int (p : Int)) (.int 2) (.int ((p + 2 : Nat) : Int)) := bin_add_int
theorem inc3_nat : BO σ .Add (.int (p : Int)) (.int 3) (.int ((p + 3 : Nat) : Int)) := bin_add_int
theorem from_nat {m : Nat} : fromIndex m (p : Int) = p := by
  unfold fromIndex
  rw [if_neg (by omega)]
  omega
theorem find_here (h : (ch t)[p]? = some 45) (hq : p < q) (hl : q ≤ t.length) : findV t "-" (p : Int) (q : Int) = (p : Int) := by
  have hs : Builtin.Str.subAt t "-" p = true := by
    rw [sub_ch, show (Str.ofString "-").length = 1 by kernel_rfl, show ch (Str.ofString "-") = [45] by kernel_rfl]
    obtain ⟨hlt, he⟩ := List.getElem?_eq_some_iff.mp h
    rw [List.drop_eq_getElem_cons hlt, he]
    rfl
  have full : ∀ (l : List Nat) (st : Array Nat × Nat), ¬ st.1.size < 1 → (forIn l st (StrLaws.occBody t "-" q 1)).run = st := by
    intro l
    induction l with
    | nil => intro st _; rfl
    | cons i l ih =>
      intro st hst
      rw [List.forIn_cons]
      have e : StrLaws.occBody t "-" q 1 i st = pure (ForInStep.yield st) := by
        unfold StrLaws.occBody
        rw [if_neg (fun h => hst h.1.1.1)]
      rw [e]
      exact ih st hst
  unfold findV
  rw [from_nat, from_nat, Nat.min_eq_left hl, StrLaws.occ_eq]
  obtain ⟨m, hm⟩ : ∃ m, q + 1 - p = m + 1 := ⟨q - p, by (clear hl; omega)⟩
  rw [hm, List.range'_succ, List.forIn_cons]
  have e : StrLaws.occBody t "-" q 1 p (#[], p) = pure (ForInStep.yield (#[p], p + 1)) := by
    unfold StrLaws.occBody
    rw [if_pos ⟨⟨⟨Nat.zero_lt_one, Nat.le_refl _⟩, hq⟩, hs⟩]
    rfl
  rw [e]
  show (match ((forIn _ (#[p], p + 1) (StrLaws.occBody t "-" q 1)).run).fst.toList with | k :: _ => (k : Int) | [] => -1) = _
  rw [full _ (#[p], p + 1) (Nat.lt_irrefl 1)]
theorem find_not (hq : q ≤ p) (hl : q ≤ t.length) : findV t "-" (p : Int) (q : Int) = -1 := by
  unfold findV
  rw [from_nat, from_nat, Nat.min_eq_left hl]
  have : Builtin.Str.occurrences t "-" p q 1 = [] := by
    rw [StrLaws.occ_eq]
    have hm : q + 1 - p = 0 ∨ (q + 1 - p = 1 ∧ q = p) := by (clear hl; omega)
    rcases hm with hm | ⟨hm, rfl⟩
    · rw [hm]; rfl
    · rw [hm]
      show (forIn [q] (#[], q) (StrLaws.occBody t "-" q 1)).run.fst.toList = []
      rw [List.forIn_cons]
      have e : StrLaws.occBody t "-" q 1 q (#[], q) = pure (ForInStep.yield (#[], q)) := by
        unfold StrLaws.occBody
        rw [if_neg (fun h => by have := h.1.2; rw [show (Str.ofString "-").length = 1 by kernel_rfl] at this; (clear h hm hq hl; omega))]
      rw [e]
      rfl
  rw [this]
noncomputable abbrev k0 : Str × Option Str := ("*", some "*")
noncomputable abbrev k1 : Str × Option Str := ("?", some "ab")
noncomputable abbrev k2 : Str × Option Str := ("a", some "a")
noncomputable abbrev k3 : Str × Option Str := ("[!a]", some "b")
noncomputable abbrev k4 : Str × Option Str := ("[b-aa]", some "a")
noncomputable abbrev k5 : Str × Option Str := ("[b-a]", some "")
/-- the frame of _translate -/
structure TrE (E : AE) (t : Str) (b p : Nat) : Prop where
  sc : E.sc = (dAt 12).scope.names
  tr : E.tr = true
  pat : E.get "pat" = some (.str t)
  star : E.get "STAR" = some .none
  qm : E.get "QUESTION_MARK" = some (.str ".")
  res : E.get "res" = some (.own b)
  add : E.get "add" = some (.own (b + 1))
  n : E.get "n" = some (.int (t.length : Int))
  i : E.get "i" = some (.int (p : Int))
noncomputable def freeN (x : Str) : Bool := !sq x "pat" && !sq x "STAR" && !sq x "QUESTION_MARK" && !sq x "res" && !sq x "add" && !sq x "n"
theorem freeN_ok (h : freeN x = true) : sq x "pat" = false ∧ sq x "STAR" = false ∧ sq x "QUESTION_MARK" = false ∧ sq x "res" = false ∧ sq x "add" = false ∧ sq x "n" = false := by
  unfold freeN at h
  simp only [Bool.and_eq_true, Bool.not_eq_true'] at h
  obtain ⟨⟨⟨⟨⟨h1, h2⟩, h3⟩, h4⟩, h5⟩, h6⟩ := h
  exact ⟨h1, h2, h3, h4, h5, h6⟩
theorem TrE.st (h : TrE E t b p) (hx : (freeN x && !sq x "i") = true) : TrE (E.st x v) t b p := by
  rw [Bool.and_eq_true, Bool.not_eq_true'] at hx
  obtain ⟨h1, h2, h3, h4, h5, h6⟩ := freeN_ok hx.1
  exact ⟨sc_st h.sc, st_tr.trans h.tr, get_ne h1 h.pat, get_ne h2 h.star, get_ne h3 h.qm, get_ne h4 h.res, get_ne h5 h.add, get_ne h6 h.n, get_ne hx.2 h.i⟩
theorem TrE.sti (h : TrE E t b p) : TrE (E.st "i" (.int (q : Int))) t b q := by
  obtain ⟨h1, h2, h3, h4, h5, h6⟩ := freeN_ok (x := "i") (by kernel_rfl)
  exact ⟨sc_st h.sc, st_tr.trans h.tr, get_ne h1 h.pat, get_ne h2 h.star, get_ne h3 h.qm, get_ne h4 h.res, get_ne h5 h.add, get_ne h6 h.n, get_hit (isLC_of h.sc (by kernel_rfl))⟩
/-- its store -/
noncomputable abbrev trS (base : Sto) (res : List AV) (g : Sto) : Sto := base ++ AO.list res :: AO.meth base.length :: g
theorem trS_res : (trS base res g)[base.length]? = some (AO.list res) := by simp [trS]
theorem trS_add : (trS base res g)[base.length + 1]? = some (AO.meth base.length) := by simp [trS]
theorem trS_set {r : List AV} : (trS base res g).set base.length (.list r) = trS base r g := by
  show (base ++ _).set _ _ = _
  rw [List.set_append_right _ _ (Nat.le_refl _), Nat.sub_self]; rfl
theorem trS_app {o : AO} : trS base res g ++ [o] = trS base res (g ++ [o]) := by simp [trS]
/-- add(v) -/
theorem tr_add (hc : res.length < cap) : CA n (.own (base.length + 1)) [v] (trS base res g) .none (trS base (res ++ [v]) g) := by
  have h := call_m (n := n) (v := v) (trS_add (base := base) (res := res) (g := g)) trS_res hc
  rw [trS_set] at h
  exact h
/-- one turn: the index is at q, the parts are res -/
noncomputable def TurnQ (t : Str) (base : Sto) (q : Nat) (res : List AV) (f : AF) (E : AE) (s : Sto) : Prop := (f = .next ∨ f = .cont) ∧ ∃ g, TrE E t base.length q ∧ s = trS base res g
end
noncomputable def blocks : Stmt → List Stmt × List Stmt
  | .If _ b e _ => (b, e)
  | .While _ b _ _ => (b, [])
  | _ => ([], [])
noncomputable def nthS (k : Nat) (l : List Stmt) : Stmt := l.getD k (.Pass ⟨0, 0, 0, 0⟩)
noncomputable def trBody : List Stmt := (blocks (nthS 3 (dAt 12).body)).1
local macro_rules | `(tactic| walk_at "P.call") => `(tactic| (with_reducible refine tr_add (by walk_at "P.len")))
local macro_rules | `(tactic| walk_at "P.bin") => `(tactic| with_reducible first | exact inc_nat | exact inc2_nat | exact inc3_nat)
section
variable {n : Nat} {t : Str} {p : Nat} {E : AE} {res : List AV} {g base : Sto}
theorem turn_star (h : TrE E t base.length p) (hc : (ch t)[p]? = some 42) (hl : t.length ≤ cap) (hr : res.length < 50) (hv : ∀ v ∈ res, v = .none ∨ ∃ x, v = .str x) :
    WP (n + 40) trBody E (trS base res g) (TurnQ t base (p + 1) (addPart res k0)) := by
  have hi := iv_ch (σ := trS base res g) hc hl
  obtain ⟨e1, e2, e3, e4, e5, e6, e7, e8, e9⟩ := id h
  have hrl : res.length < cap := by have : cap = 100000 := rfl; (clear hl; omega)
  have fin : ∀ {r : List AV}, r = addPart res k0 → TurnQ t base (p + 1) (addPart res k0) .next ((E.st "c" (.str ⟨#[42]⟩)).st "i" (.int ((p + 1 : Nat) : Int))) (trS base r g) := fun e => ⟨.inl rfl, g, (h.st (by kernel_rfl)).sti, by rw [e]⟩
  show WP (n + 38 + 2) (_ :: _) _ _ _
  walk_at "P.as"
  walk_at "P.as"
  apply wp_if (c := true) (σ1 := trS base res g)
  · refine it_cast (b := sq ⟨#[42]⟩ "*") ?_ (by kernel_rfl)
    walk_at "P.it"
  · intro _
    rcases List.eq_nil_or_concat res with rfl | ⟨xs, v, e⟩
    · apply wp_if (c := true) (σ1 := trS base [] g)
      · apply it_bool
        apply or_t
        exact it_not (b := false) (it_val (fun _ _ => by kernel_rfl) (evp_name (by walk_at "P.get")) (tr_own trS_res (Nat.zero_le _)))
      · intro _
        apply wp_expr
        · walk_at "P.ev"
        apply wp_nil
        apply wp_nil
        apply wp_nil
        exact fin rfl
      · intro h; cases h
    · rw [List.concat_eq_append] at e
      have hlast : IV (trS base res g) (.own base.length) (-1) v := it_last (xs := xs) (w := v) (by rw [lists_own trS_res, e]) (by rw [e] at hr; simp at hr; (clear hrl hl; omega))
      have hne : TR (trS base res g) (.own base.length) true := (tr_own trS_res (Nat.le_of_lt hrl)).cast (by rw [e]; simp)
      obtain ⟨cc, h1, h2, h3⟩ : ∃ cc, CO (trS base res g) .IsNot v .none cc ∧ (cc = true → TurnQ t base (p + 1) (addPart res k0) .next ((E.st "c" (.str ⟨#[42]⟩)).st "i" (.int ((p + 1 : Nat) : Int))) (trS base (res ++ [.none]) g)) ∧
          (cc = false → TurnQ t base (p + 1) (addPart res k0) .next ((E.st "c" (.str ⟨#[42]⟩)).st "i" (.int ((p + 1 : Nat) : Int))) (trS base res g)) := by
        rcases hv v (by rw [e]; simp) with rfl | ⟨x, rfl⟩
        · exact ⟨_, cmp_isn .nn, (fun h => nomatch h), fun _ => fin (by rw [e]; simp [addPart, k0, sq_refl])⟩
        · exact ⟨_, cmp_isn (.sn x), (fun _ => fin (by rw [e]; simp [addPart, k0, sq_refl])), fun h => nomatch h⟩
      apply wp_if (c := cc) (σ1 := trS base res g)
      · apply it_bool
        apply or_f
        · exact it_not (b := true) (it_val (fun _ _ => by kernel_rfl) (evp_name (by walk_at "P.get")) hne)
        · apply or_t1
          with_reducible apply it_cmp
          · exact rfl
          · with_reducible apply ev_item
            · intro _ _ _ q; cases q
            · walk_at "P.ev"
            · walk_at "P.ev"
            · exact hlast
          · walk_at "P.ev"
          · exact h1
      · intro hcc
        apply wp_expr
        · walk_at "P.ev"
        apply wp_nil
        apply wp_nil
        apply wp_nil
        exact h2 hcc
      · intro hcc
        apply wp_nil
        apply wp_nil
        apply wp_nil
        exact h3 hcc
  · intro h; cases h
theorem turn_any (h : TrE E t base.length p) (hc : (ch t)[p]? = some 63) (hl : t.length ≤ cap) (hr : res.length < 50) :
    WP (n + 40) trBody E (trS base res g) (TurnQ t base (p + 1) (addPart res k1)) := by
  have hi := iv_ch (σ := trS base res g) hc hl
  obtain ⟨e1, e2, e3, e4, e5, e6, e7, e8, e9⟩ := id h
  have hrl : res.length < cap := by have : cap = 100000 := rfl; (clear hl; omega)
  show WP (n + 38 + 2) (_ :: _) _ _ _
  walk_at "P.as"
  walk_at "P.as"
  apply wp_if (c := false) (σ1 := trS base res g)
  · refine it_cast (b := sq ⟨#[63]⟩ "*") ?_ (by kernel_rfl)
    walk_at "P.it"
  · intro h; cases h
  · intro _
    apply wp_if (c := true) (σ1 := trS base res g)
    · refine it_cast (b := sq ⟨#[63]⟩ "?") ?_ (by kernel_rfl)
      walk_at "P.it"
    · intro _
      apply wp_expr
      · walk_at "P.ev"
      apply wp_nil
      apply wp_nil
      apply wp_nil
      exact ⟨.inl rfl, g, (h.st (by kernel_rfl)).sti, rfl⟩
    · intro h; cases h
theorem turn_a (h : TrE E t base.length p) (hc : (ch t)[p]? = some 97) (hl : t.length ≤ cap) (hr : res.length < 50) :
    WP (n + 40) trBody E (trS base res g) (TurnQ t base (p + 1) (addPart res k2)) := by
  have hi := iv_ch (σ := trS base res g) hc hl
  obtain ⟨e1, e2, e3, e4, e5, e6, e7, e8, e9⟩ := id h
  have hrl : res.length < cap := by have : cap = 100000 := rfl; (clear hl; omega)
  show WP (n + 38 + 2) (_ :: _) _ _ _
  walk_at "P.as"
  walk_at "P.as"
  apply wp_if (c := false) (σ1 := trS base res g)
  · refine it_cast (b := sq ⟨#[97]⟩ "*") ?_ (by kernel_rfl)
    walk_at "P.it"
  · intro h; cases h
  · intro _
    apply wp_if (c := false) (σ1 := trS base res g)
    · refine it_cast (b := sq ⟨#[97]⟩ "?") ?_ (by kernel_rfl)
      walk_at "P.it"
    · intro h; cases h
    · intro _
      apply wp_if (c := false) (σ1 := trS base res g)
      · refine it_cast (b := sq ⟨#[97]⟩ "[") ?_ (by kernel_rfl)
        walk_at "P.it"
      · intro h; cases h
      · intro _
        apply wp_expr
        · apply ev_call
          · walk_at "P.ev"
          · exact rfl
          · apply args_cons
            · exact rfl
            · apply ev_call
              · apply evp_name
                refine get_ne (by kernel_rfl) (get_ne (by kernel_rfl) ?_)
                exact get_glob e1 (by kernel_rfl) (v := Value.ref 84) (by kernel_rfl)
              · exact rfl
              · walk_at "P.args"
              · exact call_d c_escape
            · exact args_nil
          · walk_at "P.call"
        apply wp_nil
        apply wp_nil
        apply wp_nil
        apply wp_nil
        exact ⟨.inl rfl, g, (h.st (by kernel_rfl)).sti, rfl⟩
/-- the loop that seeks the closing bracket -/
theorem seek {j K b : Nat} {σ : Sto} {Q : AF → AE → Sto → Prop} {ss : List Stmt} {p1 p2 p3 p4 p5 p6 p7 p8 p9 p10 p11 p12 p13 p14 p15 : Pos} {q1 q2 : Nat} (hT : TrE E t b p) (hj : E.get "j" = some (.int (j : Int))) (hl : t.length ≤ cap) (hK : ∀ m, m < K → ∃ c, (ch t)[j + m]? = some c ∧ sq ⟨#[c]⟩ "]" = false) (hE : (ch t)[j + K]? = some 93)
    (next : ∀ E', TrE E' t b p → E'.get "j" = some (.int ((j + K : Nat) : Int)) → WP (n + 20 + 2) ss E' σ Q) :
    WP (n + 20 + 2) (.While (.BoolOp .And [.Compare (.Name "j" p1) [.Lt] [.Name "n" p2] p3, .Compare (.Subscript (.Name "pat" p4) (.Name "j" p5) p6) [.NotEq] [.Constant (.str "]") q1 p7] p8] p9) [.Assign [.Name "j" p10] (.BinOp (.Name "j" p11) .Add (.Constant (.int 1) q2 p12) p13) p14] [] p15 :: ss) E σ Q := by
  have test : ∀ {E' : AE} {m c : Nat} {cc : Bool}, TrE E' t b p → E'.get "j" = some (.int (m : Int)) → (ch t)[m]? = some c → (!sq ⟨#[c]⟩ "]") = cc →
      IT (n + 20) (.BoolOp .And [.Compare (.Name "j" p1) [.Lt] [.Name "n" p2] p3, .Compare (.Subscript (.Name "pat" p4) (.Name "j" p5) p6) [.NotEq] [.Constant (.str "]") q1 p7] p8] p9) E' σ cc σ := fun {E' m c cc} h1 h2 h3 h4 => by
    have hi := iv_ch (σ := σ) h3 hl
    have e3 := h1.pat
    have e8 := h1.n
    have hm : m < t.length := (List.getElem?_eq_some_iff.mp h3).1
    refine it_cast (b := true && !sq ⟨#[c]⟩ "]") ?_ h4
    apply it_bool
    apply and_two
    · with_reducible apply it_cmp
      · exact rfl
      · walk_at "P.ev"
      · walk_at "P.ev"
      · exact lt_nat hm
    · walk_at "P.it"
  refine wp_while (fun m E' s => s = σ ∧ m ≤ K ∧ TrE E' t b p ∧ E'.get "j" = some (.int ((j + (K - m) : Nat) : Int))) (fun E' s => s = σ ∧ TrE E' t b p ∧ E'.get "j" = some (.int ((j + K : Nat) : Int))) (m := K) ?_ ⟨rfl, Nat.le_refl _, hT, by rw [Nat.sub_self]; exact hj⟩ ?_
  · rintro m E' s ⟨rfl, hm, h1, h2⟩
    cases m with
    | zero => exact .inl ⟨test h1 h2 hE (by kernel_rfl), rfl, h1, h2⟩
    | succ m =>
      obtain ⟨c, h3, h4⟩ := hK (K - (m + 1)) (by (clear hl; omega))
      refine .inr ⟨test h1 h2 h3 (by rw [h4]; rfl), m, rfl, ?_⟩
      have f1 := h1.sc
      walk_at "P.as"
      apply wp_nil
      refine ⟨.inl rfl, rfl, Nat.le_of_succ_le hm, h1.st (by kernel_rfl), ?_⟩
      rw [show j + (K - m) = j + (K - (m + 1)) + 1 by (clear hl; omega)]
      exact get_hit (isLC_of h1.sc (by kernel_rfl))
  · rintro E' s ⟨rfl, h1, h2⟩
    exact next E' h1 h2
end
/-- the block of a bracket, its part for a closed one, the end of that -/
noncomputable def trB : List Stmt := (blocks (nthS 0 (blocks (nthS 0 (blocks (nthS 2 trBody)).2)).2)).1
noncomputable def trE : List Stmt := (blocks (nthS 4 trB)).2
noncomputable def trTail : List Stmt := trE.drop 2
/-- what a bracket's inside becomes -/
inductive Stuff : Str → Str → Prop where
  | neg : Stuff "!a" "[^a]"
  | one : Stuff "a" "[a]"
  | no : Stuff "" "(?!)"
section
variable {n : Nat} {t : Str} {p : Nat} {E : AE} {res : List AV} {g base : Sto}
theorem tail_ok {j : Nat} {x y : Str} (h : TrE E t base.length p) (hj : E.get "j" = some (.int (j : Int))) (hs : E.get "stuff" = some (.str x)) (hr : res.length < 50) (hy : Stuff x y) :
    WP (n + 32) trTail E (trS base res g) fun f E' s => f = .next ∧ TrE E' t base.length (j + 1) ∧ s = trS base (res ++ [.str y]) g := by
  obtain ⟨e1, e2, e3, e4, e5, e6, e7, e8, e9⟩ := id h
  have hrl : res.length < cap := by have : cap = 100000 := rfl; omega
  have hx : x = "a" ∨ x = "" ∨ x = "!a" := by
    cases hy
    · exact .inr (.inr rfl)
    · exact .inl rfl
    · exact .inr (.inl rfl)
  show WP (n + 30 + 2) (_ :: _) _ _ _
  apply wp_assign
  · apply own_plain (fun _ _ => by kernel_rfl) rfl
    apply ev_sub e2
    · kernel_rfl
    · kernel_rfl
    · exact get_glob e1 (by kernel_rfl) (v := Value.ref 72) (by kernel_rfl)
    · exact hx
    · exact rfl
    · exact evp_name hs
  · walk_at "P.lc"
  walk_at "P.as"
  have hT : ∀ {v : AV}, TrE (((E.st "stuff" (.str x)).st "i" (.int ((j + 1 : Nat) : Int))).st "stuff" v) t base.length (j + 1) := ((h.st (by kernel_rfl)).sti).st (by kernel_rfl)
  have hT0 : TrE ((E.st "stuff" (.str x)).st "i" (.int ((j + 1 : Nat) : Int))) t base.length (j + 1) := (h.st (by kernel_rfl)).sti
  cases hy
  case no =>
    apply wp_if (c := true) (σ1 := trS base res g)
    · refine it_cast (b := !decide ((Str.ofString "").length ≠ 0)) ?_ (by kernel_rfl)
      exact it_not (it_val (fun _ _ => by kernel_rfl) (evp_name (by walk_at "P.get")) (tr_str (by walk_at "P.len")))
    · intro _
      apply wp_expr
      · walk_at "P.ev"
      apply wp_nil
      apply wp_nil
      exact ⟨rfl, hT0, rfl⟩
    · intro h; cases h
  case neg =>
    apply wp_if (c := false) (σ1 := trS base res g)
    · refine it_cast (b := !decide ((Str.ofString "!a").length ≠ 0)) ?_ (by kernel_rfl)
      exact it_not (it_val (fun _ _ => by kernel_rfl) (evp_name (by walk_at "P.get")) (tr_str (by walk_at "P.len")))
    · intro h; cases h
    · intro _
      apply wp_if (c := false) (σ1 := trS base res g)
      · refine it_cast (b := sq "!a" "!") ?_ (by kernel_rfl)
        walk_at "P.it"
      · intro h; cases h
      · intro _
        have hi : IV (trS base res g) (.str "!a") 0 (.str "!") := iv_ch (t := "!a") (p := 0) (c := 33) (by kernel_rfl) (by walk_at "P.len")
        apply wp_if (c := true) (σ1 := trS base res g)
        · refine it_cast (b := sq "!" "!") ?_ (by kernel_rfl)
          walk_at "P.it"
        · intro _
          walk_at "P.as"
          apply wp_nil
          apply wp_expr
          · apply ev_call
            · walk_at "P.ev"
            · exact rfl
            · apply args_cons
              · exact rfl
              · apply ev_fstr
                · walk_at "P.ev"
                · exact Nat.le_of_ble_eq_true (by kernel_rfl)
              · exact args_nil
            · walk_at "P.call"
          apply wp_nil
          apply wp_nil
          apply wp_nil
          refine ⟨rfl, hT, ?_⟩
          congr 4
        · intro h; cases h
  case one =>
    apply wp_if (c := false) (σ1 := trS base res g)
    · refine it_cast (b := !decide ((Str.ofString "a").length ≠ 0)) ?_ (by kernel_rfl)
      exact it_not (it_val (fun _ _ => by kernel_rfl) (evp_name (by walk_at "P.get")) (tr_str (by walk_at "P.len")))
    · intro h; cases h
    · intro _
      apply wp_if (c := false) (σ1 := trS base res g)
      · refine it_cast (b := sq "a" "!") ?_ (by kernel_rfl)
        walk_at "P.it"
      · intro h; cases h
      · intro _
        have hi : IV (trS base res g) (.str "a") 0 (.str "a") := iv_ch (t := "a") (p := 0) (c := 97) (by kernel_rfl) (by walk_at "P.len")
        apply wp_if (c := false) (σ1 := trS base res g)
        · refine it_cast (b := sq "a" "!") ?_ (by kernel_rfl)
          walk_at "P.it"
        · intro h; cases h
        · intro _
          apply wp_if (c := false) (σ1 := trS base res g)
          · with_reducible apply it_cmp
            · exact rfl
            · walk_at "P.ev"
            · walk_at "P.ev"
            · exact (in_tup (d := .str "a") (f := [.str "^", .str "["]) (by kernel_rfl) (by kernel_rfl) (by unfold PyData.depth; exact Nat.zero_le _)).cast (by kernel_rfl)
          · intro h; cases h
          · intro _
            apply wp_nil
            apply wp_nil
            apply wp_expr
            · apply ev_call
              · walk_at "P.ev"
              · exact rfl
              · apply args_cons
                · exact rfl
                · apply ev_fstr
                  · walk_at "P.ev"
                  · exact Nat.le_of_ble_eq_true (by kernel_rfl)
                · exact args_nil
              · walk_at "P.call"
            apply wp_nil
            apply wp_nil
            apply wp_nil
            refine ⟨rfl, hT0, ?_⟩
            congr 4
theorem at_of {l post : List Nat} (hx : (ch t).drop p = l ++ post) {m : Nat} (hm : m < l.length) : (ch t)[p + m]? = l[m]? := by
  rw [← List.getElem?_drop, hx, List.getElem?_append_left hm]
theorem sl_of_drop {l post : List Nat} (hx : (ch t).drop p = l ++ post) {y : Str} {a k : Nat} (h : (l.drop a).take k = ch y) (hk : a + k ≤ l.length) : Txt.slice t (some ((p + a : Nat) : Int)) (some ((p + a + k : Nat) : Int)) = y := by
  refine sl_ch ?_
  rw [Nat.add_sub_cancel_left, ← List.drop_drop, hx, List.drop_append_of_le_length (by omega), List.take_append_of_le_length (by rw [List.length_drop]; omega)]
  exact h
/-- the test of one sign behind the bracket -/
theorem it_sign {k : Nat} {σ : Sto} {m c : Nat} {cc : Bool} {z : Str} {p1 p2 p3 p4 p5 p6 p7 p8 : Pos} {q1 : Nat} (hT : TrE E t base.length p) (hj : E.get "j" = some (.int (m : Int))) (hl : t.length ≤ cap) (h3 : (ch t)[m]? = some c) (h4 : sq ⟨#[c]⟩ z = cc) :
    IT (k + 20) (.BoolOp .And [.Compare (.Name "j" p1) [.Lt] [.Name "n" p2] p3, .Compare (.Subscript (.Name "pat" p4) (.Name "j" p5) p6) [.Eq] [.Constant (.str z) q1 p7] p8] p8) E σ cc σ := by
  have hi := iv_ch (σ := σ) h3 hl
  have e3 := hT.pat
  have e8 := hT.n
  have hm : m < t.length := (List.getElem?_eq_some_iff.mp h3).1
  refine it_cast (b := true && sq ⟨#[c]⟩ z) ?_ h4
  apply it_bool
  apply and_two
  · with_reducible apply it_cmp
    · exact rfl
    · walk_at "P.ev"
    · walk_at "P.ev"
    · exact lt_nat hm
  · walk_at "P.it"
theorem turn_not {post : List Nat} (h : TrE E t base.length p) (hx : (ch t).drop p = [91, 33, 97, 93] ++ post) (hl : t.length ≤ cap) (hr : res.length < 50) :
    WP (n + 60) trBody E (trS base res g) (TurnQ t base (p + 4) (addPart res k3)) := by
  have c0 : (ch t)[p]? = some 91 := at_of hx (m := 0) (by decide)
  have c1 : (ch t)[p + 1]? = some 33 := at_of hx (m := 1) (by decide)
  have c2 : (ch t)[p + 2]? = some 97 := at_of hx (m := 2) (by decide)
  have c3 : (ch t)[p + 3]? = some 93 := at_of hx (m := 3) (by decide)
  have hsl : Txt.slice t (some ((p + 1 : Nat) : Int)) (some ((p + 3 : Nat) : Int)) = "!a" := sl_of_drop hx (a := 1) (k := 2) (by kernel_rfl) (by decide)
  have hi := iv_ch (σ := trS base res g) c0 hl
  obtain ⟨e1, e2, e3, e4, e5, e6, e7, e8, e9⟩ := id h
  have hn3 : p + 3 < t.length := (List.getElem?_eq_some_iff.mp c3).1
  show WP (n + 58 + 2) (_ :: _) _ _ _
  walk_at "P.as"
  walk_at "P.as"
  apply wp_if (c := false) (σ1 := trS base res g)
  · refine it_cast (b := sq ⟨#[91]⟩ "*") ?_ (by kernel_rfl)
    walk_at "P.it"
  · intro h; cases h
  intro _
  apply wp_if (c := false) (σ1 := trS base res g)
  · refine it_cast (b := sq ⟨#[91]⟩ "?") ?_ (by kernel_rfl)
    walk_at "P.it"
  · intro h; cases h
  intro _
  apply wp_if (c := true) (σ1 := trS base res g)
  · refine it_cast (b := sq ⟨#[91]⟩ "[") ?_ (by kernel_rfl)
    walk_at "P.it"
  · intro _
    walk_at "P.as"
    have hT1 : TrE (((E.st "c" (.str ⟨#[91]⟩)).st "i" (.int ((p + 1 : Nat) : Int))).st "j" (.int ((p + 1 : Nat) : Int))) t base.length (p + 1) := ((h.st (by kernel_rfl)).sti).st (by kernel_rfl)
    apply wp_if (c := true) (σ1 := trS base res g)
    · exact it_sign hT1 (by walk_at "P.get") hl c1 (by kernel_rfl)
    · intro _
      walk_at "P.as"
      have hT2 := hT1.st (x := "j") (v := .int ((p + 1 + 1 : Nat) : Int)) (by kernel_rfl)
      apply wp_nil
      apply wp_if (c := false) (σ1 := trS base res g)
      · exact it_sign hT2 (by walk_at "P.get") hl c2 (by kernel_rfl)
      · intro h; cases h
      intro _
      apply wp_nil
      refine seek (j := p + 2) (K := 1) hT2 (by walk_at "P.get") hl (fun m hm => ?_) c3 fun E3 hT3 hj3 => ?_
      · obtain rfl : m = 0 := by (clear hn3 hr hl; omega)
        exact ⟨97, c2, by kernel_rfl⟩
      clear e1 e2 e3 e4 e5 e6 e7 e8 e9 hT2 hT1
      obtain ⟨e1, e2, e3, e4, e5, e6, e7, e8, e9⟩ := id hT3
      apply wp_if (c := false) (σ1 := trS base res g)
      · refine it_cast (b := decide (((p + 2 + 1 : Nat) : Int) ≥ (t.length : Int))) ?_ (decide_eq_false (by (clear hr hl; omega)))
        with_reducible apply it_cmp
        · exact rfl
        · walk_at "P.ev"
        · walk_at "P.ev"
        · exact cmp_ge_int
      · intro h; cases h
      intro _
      apply wp_assign
      · apply own_plain (fun _ _ => by kernel_rfl) rfl
        walk_at "P.ev"
      · walk_at "P.lc"
      rw [hsl]
      apply wp_if (c := true) (σ1 := trS base res g)
      · refine it_cast (b := !Txt.contains "!a" "-") ?_ (by kernel_rfl)
        with_reducible apply it_cmp
        · exact rfl
        · walk_at "P.ev"
        · walk_at "P.ev"
        · exact cmp_notin_str
      · intro _
        apply wp_assign
        · apply own_plain (fun _ _ => by kernel_rfl) rfl
          apply ev_meth
          · intro _ _; kernel_rfl
          · kernel_rfl
          · exact rfl
          · walk_at "P.ev"
          · exact ty_str
          · walk_at "P.evs"
          · exact m_replace0 (by kernel_rfl)
        · walk_at "P.lc"
        apply wp_nil
        have hT4 := hT3.st (x := "stuff") (v := .str "!a") (by kernel_rfl)
        refine wp_mono (tail_ok (n := n + 20) (hT4.st (x := "stuff") (v := .str "!a") (by kernel_rfl)) (get_ne (by kernel_rfl) (get_ne (by kernel_rfl) hj3)) (get_hit (isLC_of hT4.sc (by kernel_rfl))) hr .neg) ?_
        rintro f E4 s ⟨rfl, q1, rfl⟩
        apply wp_nil
        apply wp_nil
        apply wp_nil
        apply wp_nil
        exact ⟨.inl rfl, g, q1, by kernel_rfl⟩
      · intro h; cases h
    · intro h; cases h
  · intro h; cases h
end
end

noncomputable section
open PySem
local macro_rules | `(tactic| walk_at "P.call") => `(tactic| (with_reducible refine tr_add (by walk_at "P.len")))
local macro_rules | `(tactic| walk_at "P.bin") => `(tactic| with_reducible first | exact inc_nat | exact inc2_nat | exact inc3_nat)
/-- a bracket with a range -/
inductive Rng : List Nat → Nat → Str → Str → Str → Str → Prop where
  | two : Rng [97] 4 "b-aa" "aa" "a" "[a]"
  | one : Rng [] 3 "b-a" "a" "" "(?!)"
section
variable {n : Nat} {t : Str} {p : Nat} {E : AE} {res : List AV} {g base : Sto}
/-- what holds of a range's texts -/
structure RngF (mid : List Nat) (K : Nat) (st c2 x : Str) : Prop where
  k : K = 3 + mid.length
  le : K ≤ 4
  est : ([98, 45, 97] ++ mid) = ch st
  ec2 : (97 :: mid) = ch c2
  dash : Txt.contains st "-" = true
  first : (ch c2)[0]? = some 97
  cut : Txt.slice "b" none (some (-1)) ++ Txt.slice c2 (some 1) none = x
  all : ∀ c ∈ mid, c = 97
  len : c2.length ≤ 2
theorem rngF {mid : List Nat} {K : Nat} {st c2 x y : Str} (h : Rng mid K st c2 x y) : RngF mid K st c2 x := by
  cases h
  · exact ⟨rfl, by decide, by kernel_rfl, by kernel_rfl, by kernel_rfl, by kernel_rfl, by kernel_rfl, by simp, Nat.le_of_ble_eq_true (by kernel_rfl)⟩
  · exact ⟨rfl, by decide, by kernel_rfl, by kernel_rfl, by kernel_rfl, by kernel_rfl, by kernel_rfl, by simp, Nat.le_of_ble_eq_true (by kernel_rfl)⟩
theorem rng_tame {mid : List Nat} {K : Nat} {st c2 x y : Str} (h : Rng mid K st c2 x y) : Tame x ∧ Stuff x y := by
  cases h
  · exact ⟨tame (.inl rfl), .one⟩
  · exact ⟨tame (.inr rfl), .no⟩
/-- the frame while a range is cut -/
structure RgE (E : AE) (t : Str) (b p j c : Nat) : Prop where
  tr : TrE E t b p
  j : E.get "j" = some (.int (j : Int))
  chunks : E.get "chunks" = some (.own c)
theorem RgE.st {b j c : Nat} {x : Str} {v : AV} (h : RgE E t b p j c) (h1 : (freeN x && !sq x "i") = true) (h2 : sq x "j" = false) (h3 : sq x "chunks" = false) : RgE (E.st x v) t b p j c := ⟨h.tr.st h1, get_ne h2 h.j, get_ne h3 h.chunks⟩
theorem RgE.sti {b j c q : Nat} (h : RgE E t b p j c) : RgE (E.st "i" (.int (q : Int))) t b q j c := ⟨h.tr.sti, get_ne (by kernel_rfl) h.j, get_ne (by kernel_rfl) h.chunks⟩
/-- the part for a closed bracket -/
theorem range_ok {post mid : List Nat} {K : Nat} {st c2 x y : Str} (hr : Rng mid K st c2 x y) (h : TrE E t base.length (p + 1)) (hj : E.get "j" = some (.int ((p + 1 + K : Nat) : Int))) (hx : (ch t).drop p = (91 :: 98 :: 45 :: 97 :: mid ++ [93]) ++ post) (hl : t.length ≤ cap) (hres : res.length < 50) :
    WP (n + 52) trE E (trS base res g) fun f E' s => f = .next ∧ ∃ g, TrE E' t base.length (p + 1 + K + 1) ∧ s = trS base (res ++ [.str y]) g := by
  have F := rngF hr
  have hc : cap = 100000 := rfl
  have hK := F.k
  have hlen : (91 :: 98 :: 45 :: 97 :: mid ++ [93]).length = K + 2 := by simp; (clear hc hres hl; omega)
  have c1 : (ch t)[p + 1]? = some 98 := at_of hx (m := 1) (by rw [hlen]; (clear hlen hK hc hres hl; omega))
  have c2' : (ch t)[p + 2]? = some 45 := at_of hx (m := 2) (by rw [hlen]; (clear hlen hc hres hl; omega))
  have cE : (ch t)[p + 1 + K]? = some 93 := by
    have := at_of hx (m := 1 + K) (by rw [hlen]; (clear hlen hK hc hres hl; omega))
    rw [← Nat.add_assoc] at this
    rw [this, hK]
    simp [show 1 + (3 + mid.length) = mid.length + 4 by (clear hlen hK hc hres hl; omega)]
  have hn : p + 1 + K < t.length := (List.getElem?_eq_some_iff.mp cE).1
  have s1 : Txt.slice t (some ((p + 1 : Nat) : Int)) (some ((p + 1 + K : Nat) : Int)) = st := sl_of_drop hx (a := 1) (k := K) (by rw [← F.est, hK]; simp [show 3 + mid.length = mid.length + 3 by (clear hn hlen hK hc hres hl; omega)]) (by rw [hlen]; (clear hn hlen hK hc hres hl; omega))
  have s2 : Txt.slice t (some ((p + 1 : Nat) : Int)) (some ((p + 2 : Nat) : Int)) = "b" := sl_of_drop hx (a := 1) (k := 1) (by show [98] = _; kernel_rfl) (by rw [hlen]; (clear hn hlen hK hc hres hl; omega))
  have s3 : Txt.slice t (some ((p + 3 : Nat) : Int)) (some ((p + 1 + K : Nat) : Int)) = c2 := by
    have := sl_of_drop hx (y := c2) (a := 3) (k := 1 + mid.length) (by rw [← F.ec2]; simp [show 1 + mid.length = mid.length + 1 by (clear hn hlen hK hc hres hl; omega)]) (by rw [hlen]; (clear hn hlen hc hres hl; omega))
    rw [show p + 3 + (1 + mid.length) = p + 1 + K by (clear hn hlen hc hres hl; omega)] at this
    exact this
  have f1 : findV t "-" ((p + 2 : Nat) : Int) ((p + 1 + K : Nat) : Int) = ((p + 2 : Nat) : Int) := find_here c2' (by (clear hn hlen hc hres hl; omega)) (by (clear hlen hK hc hres hl; omega))
  have f2 : findV t "-" ((p + 5 : Nat) : Int) ((p + 1 + K : Nat) : Int) = -1 := find_not (by have := F.le; (clear f1 hn hlen hK hc hres hl; omega)) (by (clear f1 hlen hK hc hres hl; omega))
  obtain ⟨e1, e2, e3, e4, e5, e6, e7, e8, e9⟩ := id h
  have hbl : base.length < (trS base res g).length := by simp [trS]
  show WP (n + 50 + 2) (_ :: _) _ _ _
  apply wp_assign
  · apply own_plain (fun _ _ => by kernel_rfl) rfl
    walk_at "P.ev"
  · walk_at "P.lc"
  rw [s1]
  apply wp_if (c := false) (σ1 := trS base res g)
  · refine it_cast (b := !Txt.contains st "-") ?_ (by rw [F.dash]; rfl)
    with_reducible apply it_cmp
    · exact rfl
    · walk_at "P.ev"
    · walk_at "P.ev"
    · exact cmp_notin_str
  · intro h; cases h
  intro _
  walk_at "P.as"
  obtain ⟨L, hL⟩ : ∃ L, L = (trS base res g).length := ⟨_, rfl⟩
  rw [← hL]
  have hi := iv_ch (σ := trS base res g ++ [AO.list []]) c1 hl
  apply wp_assign (v := .int ((p + 2 : Nat) : Int)) (σ1 := trS base res g ++ [AO.list []])
  · apply own_plain (fun _ _ => by kernel_rfl) rfl
    apply ev_iff
    · refine it_cast (σ1 := trS base res g ++ [AO.list []]) (b := sq ⟨#[98]⟩ "!") ?_ (by kernel_rfl)
      walk_at "P.it"
    · walk_at "P.ev"
  · walk_at "P.lc"
  have hat : ∀ o, (trS base res g ++ [o])[L]? = some o := fun o => by rw [hL]; exact sto_new
  have hset : ∀ o q, (trS base res g ++ [o]).set L q = trS base res g ++ [q] := fun o q => by rw [hL]; exact set_new
  have hR1 : RgE (((E.st "stuff" (.str st)).st "chunks" (.own L)).st "k" (.int ((p + 2 : Nat) : Int))) t base.length (p + 1) (p + 1 + K) L :=
    ⟨((h.st (by kernel_rfl)).st (by kernel_rfl)).st (by kernel_rfl), get_ne (by kernel_rfl) (get_ne (by kernel_rfl) (get_ne (by kernel_rfl) hj)), get_ne (by kernel_rfl) (get_hit (isLC_of (h.st (x := "stuff") (v := .str st) (by kernel_rfl)).sc (by kernel_rfl)))⟩
  refine wp_whileB (fun m E s => (m = 1 ∧ RgE E t base.length (p + 1) (p + 1 + K) L ∧ E.get "k" = some (.int ((p + 2 : Nat) : Int)) ∧ s = trS base res g ++ [AO.list []]) ∨ (m = 0 ∧ RgE E t base.length (p + 3) (p + 1 + K) L ∧ E.get "k" = some (.int ((p + 5 : Nat) : Int)) ∧ s = trS base res g ++ [AO.list [.str "b"]]))
    (fun E s => RgE E t base.length (p + 3) (p + 1 + K) L ∧ s = trS base res g ++ [AO.list [.str "b"]]) (m := 1) ?turn (.inl ⟨rfl, hR1, by walk_at "P.get", rfl⟩) ?fin
  case turn =>
    rintro m E s (⟨rfl, hR, hk, rfl⟩ | ⟨rfl, hR, hk, rfl⟩)
    · right
      obtain ⟨e1, e2, e3, e4, e5, e6, e7, e8, e9⟩ := hR.tr
      have ej := hR.j
      have ec := hR.chunks
      refine ⟨it_val (fun _ _ => by kernel_rfl) (evp_const rfl) tr_bool, ?_⟩
      apply wp_assign
      · apply own_plain (fun _ _ => by kernel_rfl) rfl
        apply ev_meth
        · intro _ _; kernel_rfl
        · kernel_rfl
        · exact rfl
        · walk_at "P.ev"
        · exact ty_str
        · walk_at "P.evs"
        · exact m_find
      · walk_at "P.lc"
      rw [f1]
      apply wp_if (c := false) (σ1 := trS base res g ++ [AO.list []])
      · refine it_cast (b := decide (((p + 2 : Nat) : Int) < 0)) ?_ (decide_eq_false (by (clear hL hbl f2 f1 hn hlen hK hc hres hl; omega)))
        walk_at "P.it"
      · intro h; cases h
      intro _
      apply wp_nil
      apply wp_expr
      · apply ev_meth
        · intro _ _; kernel_rfl
        · kernel_rfl
        · exact rfl
        · walk_at "P.ev"
        · exact ty_list (hat _)
        · walk_at "P.evs"
        · exact m_append (hat _) (by show 0 < cap; (clear hL hbl f2 f1 hn hlen hK hres hl; omega))
      rw [s2, hset]
      walk_at "P.as"
      walk_at "P.as"
      apply wp_nil
      refine .inl ⟨.inl rfl, 0, rfl, .inr ⟨rfl, ?_, ?_, rfl⟩⟩
      · exact ((hR.st (by kernel_rfl) (by kernel_rfl) (by kernel_rfl)).sti (q := p + 3)).st (by kernel_rfl) (by kernel_rfl) (by kernel_rfl)
      · show AE.get (AE.st _ _ (.int ((p + 5 : Nat) : Int))) _ = _
        walk_at "P.get"
    · right
      obtain ⟨e1, e2, e3, e4, e5, e6, e7, e8, e9⟩ := hR.tr
      have ej := hR.j
      have ec := hR.chunks
      refine ⟨it_val (fun _ _ => by kernel_rfl) (evp_const rfl) tr_bool, ?_⟩
      apply wp_assign
      · apply own_plain (fun _ _ => by kernel_rfl) rfl
        apply ev_meth
        · intro _ _; kernel_rfl
        · kernel_rfl
        · exact rfl
        · walk_at "P.ev"
        · exact ty_str
        · walk_at "P.evs"
        · exact m_find
      · walk_at "P.lc"
      rw [f2]
      apply wp_if (c := true) (σ1 := trS base res g ++ [AO.list [.str "b"]])
      · refine it_cast (b := decide ((-1 : Int) < 0)) ?_ (by kernel_rfl)
        walk_at "P.it"
      · intro _
        apply wp_brk
        exact .inr ⟨rfl, hR.st (by kernel_rfl) (by kernel_rfl) (by kernel_rfl), rfl⟩
      · intro h; cases h
  case fin =>
    rintro E s ⟨hR, rfl⟩
    obtain ⟨e1, e2, e3, e4, e5, e6, e7, e8, e9⟩ := hR.tr
    have ej := hR.j
    have ec := hR.chunks
    apply wp_assign
    · apply own_plain (fun _ _ => by kernel_rfl) rfl
      walk_at "P.ev"
    · walk_at "P.lc"
    rw [s3]
    have hc2 : c2.length ≤ cap := by have := F.len; (clear hL hbl f2 f1 hn hlen hK hres hl; omega)
    apply wp_if (c := true) (σ1 := trS base res g ++ [AO.list [.str "b"]])
    · refine it_cast (b := decide (c2.length ≠ 0)) ?_ (decide_eq_true (by rw [ch_len, ← F.ec2]; simp))
      walk_at "P.it"
    rotate_left
    · intro h; cases h
    intro _
    apply wp_expr
    · apply ev_meth
      · intro _ _; kernel_rfl
      · kernel_rfl
      · exact rfl
      · walk_at "P.ev"
      · exact ty_list (hat _)
      · walk_at "P.evs"
      · exact m_append (hat _) (by show 1 < cap; (clear hc2 hL hbl f2 f1 hn hlen hK hres hl; omega))
    rw [hset]
    apply wp_nil
    have hR3 := hR.st (x := "chunk") (v := .str c2) (by kernel_rfl) (by kernel_rfl) (by kernel_rfl)
    generalize E.st "chunk" (.str c2) = E at hR3
    clear ec ej e1 e2 e3 e4 e5 e6 e7 e8 e9 hR
    obtain ⟨e1, e2, e3, e4, e5, e6, e7, e8, e9⟩ := hR3.tr
    have ej := hR3.j
    have ec := hR3.chunks
    refine wp_for (v := .rng 1 0 (-1)) (σ1 := trS base res g ++ [AO.list [.str "b", .str c2]]) (σ2 := trS base res g ++ [AO.list [.str "b", .str c2]]) (xs := [.int 1]) (taken := none) ?zp ?z1 ?z2 (fun xs E s => RgE E t base.length (p + 3) (p + 1 + K) L ∧ ((xs = [.int 1] ∧ s = trS base res g ++ [AO.list [.str "b", .str c2]]) ∨ (xs = [] ∧ s = trS base res g ++ [AO.list [.str x]])))
      ⟨hR3, .inl ⟨rfl, rfl⟩⟩ ?zturn ?z4
    case zp => exact rfl
    case z1 =>
      apply ev_call
      · walk_at "P.ev"
      · exact rfl
      · apply args_cons
        · exact rfl
        · with_reducible apply ev_bin
          · apply ev_call
            · walk_at "P.ev"
            · exact rfl
            · walk_at "P.args"
            · exact len_own (hat _) (by show 2 ≤ cap; (clear hc2 hL hbl f2 f1 hn hlen hK hres hl; omega))
          · walk_at "P.ev"
          · exact bin_sub_int
        · walk_at "P.args"
      · exact call_t cb_range3
    case z2 => exact src_rng0 (lo := 1) (hi := 0) (st := -1) (by decide)
    case zturn =>
      rintro v vs E s ⟨hR, ⟨q, rfl⟩ | ⟨q, _⟩⟩
      rotate_left
      · cases q
      cases q
      obtain ⟨e1, e2, e3, e4, e5, e6, e7, e8, e9⟩ := hR.tr
      have ej := hR.j
      have ec := hR.chunks
      refine ⟨E.st "k" (.int 1), bt_st (by walk_at "P.lc"), ?_⟩
      have hR4 := hR.st (x := "k") (v := .int 1) (by kernel_rfl) (by kernel_rfl) (by kernel_rfl)
      have i0 : IV (trS base res g ++ [AO.list [.str "b", .str c2]]) (.own L) ((1 : Int) - 1) (.str "b") := iv_items (j := 0) (items_of (lists_own (hat _))) (by decide) (by kernel_rfl) rfl
      have i1 : IV (trS base res g ++ [AO.list [.str "b", .str c2]]) (.own L) (1 : Int) (.str c2) := iv_items (j := 1) (items_of (lists_own (hat _))) (by decide) (by kernel_rfl) rfl
      have b1 : IV (trS base res g ++ [AO.list [.str "b", .str c2]]) (.str "b") (-1) (.str "b") := (iv_str (x := "b") (j := 0) (by decide) (by kernel_rfl)).cast (congrArg AV.str (by kernel_rfl))
      have c0 : IV (trS base res g ++ [AO.list [.str "b", .str c2]]) (.str c2) 0 (.str ⟨#[97]⟩) := iv_ch (p := 0) F.first hc2
      apply wp_if (c := true) (σ1 := trS base res g ++ [AO.list [.str "b", .str c2]])
      · refine it_cast (b := ltS ⟨#[97]⟩ "b") ?_ (by kernel_rfl)
        with_reducible apply it_cmp
        · exact rfl
        · with_reducible apply ev_item
          · intro _ _ _ q; cases q
          · with_reducible apply ev_item
            · intro _ _ _ q; cases q
            · walk_at "P.ev"
            · with_reducible apply ev_bin
              · walk_at "P.ev"
              · walk_at "P.ev"
              · exact bin_sub_int
            · exact i0
          · walk_at "P.ev"
          · exact b1
        · with_reducible apply ev_item
          · intro _ _ _ q; cases q
          · with_reducible apply ev_item
            · intro _ _ _ q; cases q
            · walk_at "P.ev"
            · walk_at "P.ev"
            · exact i1
          · walk_at "P.ev"
          · exact c0
        · exact cmp_gt_str
      · intro _
        refine wp_setitem (v := .str x) (σ1 := trS base res g ++ [AO.list [.str "b", .str c2]]) (σ2 := trS base res g ++ [AO.list [.str "b", .str c2]]) (j := 1 - 1) (m := L) (xs := [.str "b", .str c2]) (fun _ _ => by kernel_rfl) ?_ ?_ ?_ (hat _) ⟨by decide, by show (1 : Int) - 1 < 2; decide, Nat.le_of_ble_eq_true rfl⟩ ?_
        · rw [← F.cut]
          with_reducible apply ev_bin
          · with_reducible apply ev_slice
            · with_reducible apply ev_item
              · intro _ _ _ q; cases q
              · walk_at "P.ev"
              · with_reducible apply ev_bin
                · walk_at "P.ev"
                · walk_at "P.ev"
                · exact bin_sub_int
              · exact i0
            · walk_at "P.opt"
            · walk_at "P.opt"
            · exact rfl
            · exact rfl
            · exact sl_str (Nat.le_of_ble_eq_true (by kernel_rfl))
          · with_reducible apply ev_slice
            · with_reducible apply ev_item
              · intro _ _ _ q; cases q
              · walk_at "P.ev"
              · walk_at "P.ev"
              · exact i1
            · walk_at "P.opt"
            · walk_at "P.opt"
            · exact rfl
            · exact rfl
            · exact sl_str hc2
          · refine bin_add_str ?_
            have h1 := Txt.slice_le "b" none (some (-1))
            have h2 := Txt.slice_le c2 (some 1) none
            have h3 : (Str.ofString "b").length = 1 := by kernel_rfl
            have := F.len
            (clear hc2 hL hbl f2 f1 hn hlen hK hres hl; omega)
        · walk_at "P.get"
        · with_reducible apply ev_bin
          · walk_at "P.ev"
          · walk_at "P.ev"
          · exact bin_sub_int
        rw [hset]
        show WP _ _ _ (trS base res g ++ [AO.list [.str x, .str c2]]) _
        refine wp_delitem (σ2 := trS base res g ++ [AO.list [.str x, .str c2]]) (j := 1) (m := L) (q := 1) (xs := [.str x, .str c2]) ?_ ?_ (hat _) ⟨Nat.le_of_ble_eq_true rfl, by decide, by decide⟩ (by kernel_rfl) ?_
        · walk_at "P.get"
        · walk_at "P.ev"
        rw [hset]
        apply wp_nil
        apply wp_nil
        exact ⟨.inl rfl, hR4, .inr ⟨rfl, rfl⟩⟩
      · intro h; cases h
    case z4 =>
      rintro E s ⟨hR, ⟨q, _⟩ | ⟨_, rfl⟩⟩
      · cases q
      obtain ⟨e1, e2, e3, e4, e5, e6, e7, e8, e9⟩ := hR.tr
      have ej := hR.j
      have ec := hR.chunks
      show WP _ _ E (trS base res g ++ [AO.list [.str x]]) _
      apply wp_assign (v := .str x) (σ1 := trS base res g ++ [AO.list [.str x]])
      · apply own_plain (fun _ _ => by kernel_rfl) rfl
        apply ev_joingen (v := .own L) (by kernel_rfl) (by kernel_rfl) (by kernel_rfl) (by kernel_rfl) (by kernel_rfl) (by kernel_rfl) e2 (by kernel_rfl) (rng_tame hr).1
        · exact lists_own (hat _)
        · walk_at "P.ev"
      · walk_at "P.lc"
      apply wp_nil
      have hR4 := hR.st (x := "stuff") (v := .str x) (by kernel_rfl) (by kernel_rfl) (by kernel_rfl)
      rw [trS_app]
      refine wp_mono (tail_ok (n := n + 20) hR4.tr hR4.j (get_hit (isLC_of e1 (by kernel_rfl))) hres (rng_tame hr).2) ?_
      rintro f E4 s ⟨rfl, q1, rfl⟩
      exact ⟨rfl, _, q1, rfl⟩
end
end

noncomputable section
open PySem
local macro_rules | `(tactic| walk_at "P.call") => `(tactic| (with_reducible refine tr_add (by walk_at "P.len")))
local macro_rules | `(tactic| walk_at "P.bin") => `(tactic| with_reducible first | exact inc_nat | exact inc2_nat | exact inc3_nat)
section
variable {n : Nat} {σ : Sto} {t : Str} {p : Nat} {E : AE} {res : List AV} {g base : Sto}
theorem turn_rng {post mid : List Nat} {K : Nat} {st c2 x y : Str} (hr : Rng mid K st c2 x y) (h : TrE E t base.length p) (hx : (ch t).drop p = (91 :: 98 :: 45 :: 97 :: mid ++ [93]) ++ post) (hl : t.length ≤ cap) (hres : res.length < 50) :
    WP (n + 60) trBody E (trS base res g) (TurnQ t base (p + 1 + K + 1) (res ++ [.str y])) := by
  have F := rngF hr
  have hK := F.k
  have hlen : (91 :: 98 :: 45 :: 97 :: mid ++ [93]).length = K + 2 := by simp; (clear hres hl; omega)
  have c0 : (ch t)[p]? = some 91 := at_of hx (m := 0) (by rw [hlen]; (clear hlen hK hres hl; omega))
  have c1 : (ch t)[p + 1]? = some 98 := at_of hx (m := 1) (by rw [hlen]; (clear hlen hK hres hl; omega))
  have cE : (ch t)[p + 1 + K]? = some 93 := by
    have := at_of hx (m := 1 + K) (by rw [hlen]; (clear hlen hK hres hl; omega))
    rw [← Nat.add_assoc] at this
    rw [this, hK]
    simp [show 1 + (3 + mid.length) = mid.length + 4 by (clear hlen hK hres hl; omega)]
  have cM : ∀ m, m < K → ∃ c, (ch t)[p + 1 + m]? = some c ∧ sq ⟨#[c]⟩ "]" = false := fun m hm => by
    have h1 := at_of hx (m := 1 + m) (by rw [hlen]; (clear hlen hK hres hl; omega))
    rw [← Nat.add_assoc] at h1
    have hm2 : m < (98 :: 45 :: 97 :: mid).length := by simp; (clear hlen hres hl; omega)
    refine ⟨(98 :: 45 :: 97 :: mid)[m], ?_, ?_⟩
    · rw [h1, Nat.add_comm 1 m, ← List.getElem?_eq_getElem hm2]
      show ((98 :: 45 :: 97 :: mid) ++ [93])[m]? = _
      exact List.getElem?_append_left hm2
    · have hmem : (98 :: 45 :: 97 :: mid)[m] ∈ (98 :: 45 :: 97 :: mid) := List.getElem_mem hm2
      rcases List.mem_cons.mp hmem with q | q
      · rw [q]; kernel_rfl
      rcases List.mem_cons.mp q with q | q
      · rw [q]; kernel_rfl
      rcases List.mem_cons.mp q with q | q
      · rw [q]; kernel_rfl
      · rw [F.all _ q]; kernel_rfl
  have hn : p + 1 + K < t.length := (List.getElem?_eq_some_iff.mp cE).1
  have hi := iv_ch (σ := trS base res g) c0 hl
  obtain ⟨e1, e2, e3, e4, e5, e6, e7, e8, e9⟩ := id h
  show WP (n + 58 + 2) (_ :: _) _ _ _
  walk_at "P.as"
  walk_at "P.as"
  apply wp_if (c := false) (σ1 := trS base res g)
  · refine it_cast (b := sq ⟨#[91]⟩ "*") ?_ (by kernel_rfl)
    walk_at "P.it"
  · intro h; cases h
  intro _
  apply wp_if (c := false) (σ1 := trS base res g)
  · refine it_cast (b := sq ⟨#[91]⟩ "?") ?_ (by kernel_rfl)
    walk_at "P.it"
  · intro h; cases h
  intro _
  apply wp_if (c := true) (σ1 := trS base res g)
  · refine it_cast (b := sq ⟨#[91]⟩ "[") ?_ (by kernel_rfl)
    walk_at "P.it"
  · intro _
    walk_at "P.as"
    have hT1 : TrE (((E.st "c" (.str ⟨#[91]⟩)).st "i" (.int ((p + 1 : Nat) : Int))).st "j" (.int ((p + 1 : Nat) : Int))) t base.length (p + 1) := ((h.st (by kernel_rfl)).sti).st (by kernel_rfl)
    apply wp_if (c := false) (σ1 := trS base res g)
    · exact it_sign hT1 (by walk_at "P.get") hl c1 (by kernel_rfl)
    · intro h; cases h
    intro _
    apply wp_nil
    apply wp_if (c := false) (σ1 := trS base res g)
    · exact it_sign hT1 (by walk_at "P.get") hl c1 (by kernel_rfl)
    · intro h; cases h
    intro _
    apply wp_nil
    refine seek (j := p + 1) (K := K) hT1 (by walk_at "P.get") hl cM cE fun E3 hT3 hj3 => ?_
    clear e1 e2 e3 e4 e5 e6 e7 e8 e9 hT1
    obtain ⟨e1, e2, e3, e4, e5, e6, e7, e8, e9⟩ := id hT3
    apply wp_if (c := false) (σ1 := trS base res g)
    · refine it_cast (b := decide (((p + 1 + K : Nat) : Int) ≥ (t.length : Int))) ?_ (decide_eq_false (by (clear hlen hK hres hl; omega)))
      with_reducible apply it_cmp
      · exact rfl
      · walk_at "P.ev"
      · walk_at "P.ev"
      · exact cmp_ge_int
    · intro h; cases h
    intro _
    refine wp_mono (range_ok (n := n) hr hT3 hj3 hx hl hres) ?_
    rintro f E4 s ⟨rfl, g', q1, rfl⟩
    apply wp_nil
    apply wp_nil
    apply wp_nil
    apply wp_nil
    exact ⟨.inl rfl, g', q1, rfl⟩
  · intro h; cases h
theorem addPart_len (res : List AV) (k : Str × Option Str) : (addPart res k).length ≤ res.length + 1 := by
  unfold addPart
  split
  · omega
  · split
    · split <;> simp
    · simp
noncomputable def plainV (v : AV) : Prop := v = .none ∨ ∃ x, v = .str x
theorem addPart_plain {res : List AV} {k : Str × Option Str} (h : ∀ v ∈ res, plainV v) : ∀ v ∈ addPart res k, plainV v := by
  have one : ∀ {w : AV}, plainV w → ∀ v ∈ res ++ [w], plainV v := fun hw v hv => by
    rcases List.mem_append.mp hv with q | q
    · exact h v q
    · rw [List.mem_singleton.mp q]; exact hw
  unfold addPart
  split
  · exact h
  · split
    · split
      · exact h
      · exact one (.inl rfl)
    · refine one (.inr ?_)
      split
      · exact ⟨_, rfl⟩
      split
      · exact ⟨_, rfl⟩
      split
      · exact ⟨_, rfl⟩
      split <;> exact ⟨_, rfl⟩
/-- one turn, whatever the item -/
theorem turn {k : Str × Option Str} {post : List Nat} (hk : k ∈ items6) (h : TrE E t base.length p) (hx : (ch t).drop p = ch k.1 ++ post) (hl : t.length ≤ cap) (hr : res.length < 50) (hv : ∀ v ∈ res, plainV v) :
    WP (n + 60) trBody E (trS base res g) (TurnQ t base (p + (ch k.1).length) (addPart res k)) := by
  unfold items6 at hk
  simp only [List.mem_cons, List.mem_nil_iff, or_false] at hk
  rcases hk with rfl | rfl | rfl | rfl | rfl | rfl
  · exact turn_star (n := n + 20) h (at_of hx (m := 0) (Nat.le_of_ble_eq_true (by kernel_rfl))) hl hr hv
  · exact turn_any (n := n + 20) h (at_of hx (m := 0) (Nat.le_of_ble_eq_true (by kernel_rfl))) hl hr
  · exact turn_a (n := n + 20) h (at_of hx (m := 0) (Nat.le_of_ble_eq_true (by kernel_rfl))) hl hr
  · exact turn_not h (post := post) hx hl hr
  · exact turn_rng .two h (post := post) hx hl hr
  · exact turn_rng .one h (post := post) hx hl hr
theorem fn_translate : fnAt 91 = some (dAt 12) := by kernel_rfl
theorem parts_snoc : ∀ (ds : List (Str × Option Str)) (res : List AV) (k : Str × Option Str), partsA res (ds ++ [k]) = addPart (partsA res ds) k
  | [], _, _ => rfl
  | d :: ds, res, k => parts_snoc ds (addPart res d) k
theorem parts_len : ∀ (ds : List (Str × Option Str)) (res : List AV), (partsA res ds).length ≤ res.length + ds.length
  | [], _ => Nat.le_refl _
  | d :: ds, res => by
    have := parts_len ds (addPart res d)
    have := addPart_len res d
    rw [List.length_cons]
    show (partsA (addPart res d) ds).length ≤ _
    omega
theorem parts_plain : ∀ (ds : List (Str × Option Str)) (res : List AV), (∀ v ∈ res, plainV v) → ∀ v ∈ partsA res ds, plainV v
  | [], _, h => h
  | d :: ds, res, h => parts_plain ds (addPart res d) (addPart_plain h)
theorem fz_plain {m : Nat} : ∀ {l : List AV}, (∀ v ∈ l, plainV v) → freezeL (freeze σ m 4) l = some l
  | [], _ => fzL_nil
  | v :: l, h => by
    refine fzL_cons ?_ (fz_plain fun w hw => h w (List.mem_cons_of_mem _ hw))
    rcases h v List.mem_cons_self with rfl | ⟨x, rfl⟩
    · exact fz_none
    · exact fz_str
/-- _translate -/
theorem c_translate {ds : List (Str × Option Str)} (hm : ∀ d ∈ ds, d ∈ items6) (hd : ds.length ≤ 3) (ht : ch t = txt ds) (hl : t.length ≤ cap) : CD (n + 70) 91 [.str t, .none, .str "."] σ (.list (partsA [] ds)) := by
  have hbl : (σ.map AO.lock).length = σ.length := List.length_map ..
  refine callD_intro (E := ?ze) rfl rfl fn_translate ?_ ?_
  rotate_left
  · show bindP _ (_ :: _) _ _ = _
    walk_at "P.bind"
  rw [← hbl]
  generalize σ.map AO.lock = base
  walk_at "P.as"
  apply wp_assign
  · apply own_plain (fun _ _ => by kernel_rfl) rfl
    apply ev_app
    · walk_at "P.get"
    · exact sto_new
  · walk_at "P.lc"
  rw [show (base ++ [AO.list []]).length = base.length + 1 by simp, show base ++ [AO.list []] ++ [AO.meth base.length] = trS base [] [] by simp [trS]]
  apply wp_swap
  · kernel_rfl
  · walk_at "P.ev"
  refine wp_while (fun m E s => ∃ (done rest : List (Str × Option Str)) (g : Sto), ds = done ++ rest ∧ rest.length = m ∧ TrE E t base.length (txt done).length ∧ s = trS base (partsA [] done) g)
    (fun E s => ∃ g : Sto, TrE E t base.length t.length ∧ s = trS base (partsA [] ds) g) (m := ds.length) ?zturn ⟨[], ds, [], rfl, rfl, ?zini, rfl⟩ ?zfin
  case zini =>
    refine ⟨?_, rfl, ?_, ?_, ?_, ?_, ?_, ?_, ?_⟩
    · walk_at "P.sc"
    · walk_at "P.get"
    · walk_at "P.get"
    · walk_at "P.get"
    · walk_at "P.get"
    · walk_at "P.get"
    · walk_at "P.get"
    · show _ = some (AV.int 0)
      walk_at "P.get"
  case zturn =>
    rintro m E s ⟨done, rest, g, q0, rfl, hT, rfl⟩
    have e8 := hT.n
    have e9 := hT.i
    have hct : ch t = txt done ++ txt rest := by rw [ht, q0]; exact List.flatMap_append
    have test : ∀ {cc : Bool}, decide (((txt done).length : Int) < (t.length : Int)) = cc → IT (n + 68) (.Compare (.Name "i" ⟨55, 10, 55, 11⟩) [.Lt] [.Name "n" ⟨55, 14, 55, 15⟩] ⟨55, 10, 55, 15⟩) E (trS base (partsA [] done) g) cc (trS base (partsA [] done) g) := fun h => by
      refine it_cast ?_ h
      walk_at "P.it"
    cases rest with
    | nil =>
      left
      rw [List.append_nil] at q0
      have hlen : t.length = (txt done).length := by rw [ch_len, hct]; show (txt done ++ []).length = _; rw [List.append_nil]
      refine ⟨test (decide_eq_false (by (clear hbl hl hd; omega))), g, ?_, by rw [q0]⟩
      rw [hlen]; exact hT
    | cons k rest =>
      right
      have hk := hm k (by rw [q0]; simp)
      have hdr : (ch t).drop (txt done).length = ch k.1 ++ txt rest := by
        rw [hct, List.drop_left]; rfl
      have hpos : 0 < (ch k.1).length := by
        unfold items6 at hk
        simp only [List.mem_cons, List.mem_nil_iff, or_false] at hk
        rcases hk with rfl | rfl | rfl | rfl | rfl | rfl <;> exact Nat.le_of_ble_eq_true (by kernel_rfl)
      have hlt : (txt done).length < t.length := by
        have := congrArg List.length hdr
        rw [List.length_drop, List.length_append] at this
        rw [ch_len]
        (clear hbl hl hd; omega)
      have hdl : done.length ≤ 3 := by rw [q0] at hd; simp at hd; (clear hlt hpos hbl hl; omega)
      have hpl := parts_len done []
      refine ⟨test (decide_eq_true (by (clear hpl hdl hpos hbl hl hd; omega))), rest.length, rfl, ?_⟩
      refine wp_mono (turn (n := n + 8) hk hT hdr hl (by rw [List.length_nil] at hpl; (clear hlt hpos hbl hl hd; omega)) (parts_plain done [] fun v h => nomatch h)) ?_
      rintro f E' s ⟨h1, g', h2, h3⟩
      refine ⟨h1, done ++ [k], rest, g', by rw [q0]; simp, rfl, ?_, ?_⟩
      · rw [show txt (done ++ [k]) = txt done ++ ch k.1 by unfold txt; rw [List.flatMap_append]; simp, List.length_append]
        exact h2
      · rw [parts_snoc]; exact h3
  case zfin =>
    rintro E s ⟨g, hT, rfl⟩
    obtain ⟨e1, e2, e3, e4, e5, e6, e7, e8, e9⟩ := hT
    apply wp_assert
    · refine it_cast (σ1 := trS base (partsA [] ds) g) (b := decide ((t.length : Int) = (t.length : Int))) ?_ (decide_eq_true rfl)
      with_reducible apply it_cmp
      · exact rfl
      · walk_at "P.ev"
      · walk_at "P.ev"
      · exact eq_ints
    apply wp_ret
    · walk_at "P.ev"
    · exact fz_own (Nat.le_refl _) trS_res (fz_plain (parts_plain ds [] fun v h => nomatch h))
/-- the law's patterns -/
theorem tr_all {x : Int} : CD (n + 70) 91 [.str (patOf x).1, .none, .str "."] σ (.list (partsA [] ((digits x).filter full))) ∧ readAll (partsA [] ((digits x).filter full)) = some (patOf x).2 := by
  have e : patOf x = pfold ("", []) ((digits x).filter full) := pfold_full (digits_in x)
  have hm : ∀ p ∈ (digits x).filter full, p ∈ items6 := fun p hp => by
    obtain ⟨h1, h2⟩ := List.mem_filter.mp hp
    rcases full6 (digits_in x p h1) with ⟨_, h⟩ | ⟨h, _⟩
    · exact h
    · rw [h] at h2; cases h2
  have hl : ((digits x).filter full).length ≤ 3 := List.length_filter_le _ _
  rw [e]
  generalize (digits x).filter full = ds at hm hl
  have hch : ch (pfold ("", []) ds).1 = txt ds := pfold_txt ds ("", [])
  refine ⟨c_translate hm hl hch ?_, read_parts hl hm⟩
  have key : ∀ l : List (Str × Option Str), (∀ p ∈ l, p ∈ items6) → (txt l).length ≤ 6 * l.length := by
    intro l
    induction l with
    | nil => intro _; exact Nat.le_refl _
    | cons k l ih =>
      intro h
      have h1 := ih fun q hq => h q (List.mem_cons_of_mem _ hq)
      have hk := h k List.mem_cons_self
      have h2 : (ch k.1).length ≤ 6 := by
        unfold items6 at hk
        simp only [List.mem_cons, List.mem_nil_iff, or_false] at hk
        rcases hk with rfl | rfl | rfl | rfl | rfl | rfl <;> exact Nat.le_of_ble_eq_true (by kernel_rfl)
      show (ch k.1 ++ txt l).length ≤ _
      rw [List.length_append, List.length_cons]
      (clear ih hl; omega)
  have := key ds hm
  have hc : cap = 100000 := rfl
  rw [ch_len, hch]
  omega
end
end

noncomputable section
open PySem
section
variable {n : Nat} {σ : Sto}
theorem fn_read : fnAt 225 = some (dAt 33) := by kernel_rfl
theorem rd0 : CD (n + 40) 225 [.none] σ (.str "*") := by
  refine callD_intro (E := ?ze) rfl rfl fn_read ?_ ?_
  rotate_left
  · show bindP _ (_ :: _) _ _ = _
    walk_at "P.bind"
  apply wp_if (c := true)
  · with_reducible apply it_cmp
    · exact rfl
    · walk_at "P.ev"
    · walk_at "P.ev"
    · exact cmp_is .nn
  · intro _
    apply wp_ret
    · walk_at "P.ev"
    · rfl
  · intro h; cases h
theorem rds {z y : Str} (hl : z.length ≤ 4) (h : (sq z "." = true ∧ y = "ab") ∨ (sq z "." = false ∧ sq z "(?!)" = true ∧ y = "") ∨ (sq z "." = false ∧ sq z "(?!)" = false ∧ (ch z)[0]? = some 97 ∧ y = z) ∨
    (sq z "." = false ∧ sq z "(?!)" = false ∧ (ch z)[0]? = some 91 ∧ (ch z)[1]? = some 94 ∧ Txt.slice z (some 2) (some (-1)) = "a" ∧ y = "b") ∨ (sq z "." = false ∧ sq z "(?!)" = false ∧ (ch z)[0]? = some 91 ∧ (ch z)[1]? = some 97 ∧ Txt.slice z (some 1) (some (-1)) = "a" ∧ y = "a")) : CD (n + 40) 225 [.str z] σ (.str y) := by
  have hc : cap = 100000 := rfl
  have hzl : z.length ≤ cap := by omega
  refine callD_intro (E := ?ze) rfl rfl fn_read ?_ ?_
  rotate_left
  · show bindP _ (_ :: _) _ _ = _
    walk_at "P.bind"
  generalize hB : σ.map AO.lock = base
  apply wp_if (c := false) (σ1 := base)
  · with_reducible apply it_cmp
    · exact rfl
    · walk_at "P.ev"
    · walk_at "P.ev"
    · exact cmp_is (.sn z)
  · intro h; cases h
  intro _
  apply wp_nil
  apply wp_if (c := sq z ".") (σ1 := base)
  · walk_at "P.it"
  · intro q
    apply wp_ret
    · walk_at "P.ev"
    · rcases h with ⟨_, h⟩ | ⟨h, _⟩ | ⟨h, _⟩ | ⟨h, _⟩ | ⟨h, _⟩
      · rw [h]; rfl
      all_goals (rw [h] at q; cases q)
  intro q1
  apply wp_nil
  apply wp_if (c := sq z "(?!)") (σ1 := base)
  · walk_at "P.it"
  · intro q
    apply wp_ret
    · walk_at "P.ev"
    · rcases h with ⟨h, _⟩ | ⟨_, _, h⟩ | ⟨_, h, _⟩ | ⟨_, h, _⟩ | ⟨_, h, _⟩
      · rw [h] at q1; cases q1
      · rw [h]; rfl
      all_goals (rw [h] at q; cases q)
  intro q2
  apply wp_nil
  have h : ((ch z)[0]? = some 97 ∧ y = z) ∨ ((ch z)[0]? = some 91 ∧ (ch z)[1]? = some 94 ∧ Txt.slice z (some 2) (some (-1)) = "a" ∧ y = "b") ∨ ((ch z)[0]? = some 91 ∧ (ch z)[1]? = some 97 ∧ Txt.slice z (some 1) (some (-1)) = "a" ∧ y = "a") := by
    rcases h with ⟨h, _⟩ | ⟨_, h, _⟩ | ⟨_, _, h⟩ | ⟨_, _, h⟩ | ⟨_, _, h⟩
    · rw [h] at q1; cases q1
    · rw [h] at q2; cases q2
    · exact .inl h
    · exact .inr (.inl h)
    · exact .inr (.inr h)
  have c0 : ∃ c, (ch z)[0]? = some c ∧ (c = 97 ∨ c = 91) := by
    rcases h with ⟨h, _⟩ | ⟨h, _⟩ | ⟨h, _⟩
    · exact ⟨_, h, .inl rfl⟩
    · exact ⟨_, h, .inr rfl⟩
    · exact ⟨_, h, .inr rfl⟩
  obtain ⟨c, hc0, hcc⟩ := c0
  have hi0 : IV base (.str z) 0 (.str ⟨#[c]⟩) := iv_ch (p := 0) hc0 hzl
  apply wp_if (c := !sq ⟨#[c]⟩ "[") (σ1 := base)
  · walk_at "P.it"
  · intro q
    apply wp_ret
    · walk_at "P.ev"
    · rcases h with ⟨h, e⟩ | ⟨h, _⟩ | ⟨h, _⟩
      · rw [e]; rfl
      all_goals (cases Option.some.inj (h.symm.trans hc0); rw [show sq ⟨#[91]⟩ "[" = true by kernel_rfl] at q; cases q)
  intro q3
  apply wp_nil
  have h : ((ch z)[1]? = some 94 ∧ Txt.slice z (some 2) (some (-1)) = "a" ∧ y = "b") ∨ ((ch z)[1]? = some 97 ∧ Txt.slice z (some 1) (some (-1)) = "a" ∧ y = "a") := by
    rcases h with ⟨h, _⟩ | ⟨_, h⟩ | ⟨_, h⟩
    · cases Option.some.inj (h.symm.trans hc0)
      rw [show sq ⟨#[97]⟩ "[" = false by kernel_rfl] at q3; cases q3
    · exact .inl h
    · exact .inr h
  rcases h with ⟨h1, h2, rfl⟩ | ⟨h1, h2, rfl⟩
  · have hi1 : IV base (.str z) 1 (.str ⟨#[94]⟩) := iv_ch (p := 1) h1 hzl
    apply wp_if (c := true) (σ1 := base)
    · refine it_cast (σ1 := base) (b := sq ⟨#[94]⟩ "^") ?_ (by kernel_rfl)
      walk_at "P.it"
    · intro _
      apply wp_ret (v := .str (Txt.join "" ["b"])) (σ1 := base)
      · apply ev_meth
        · intro _ _; kernel_rfl
        · kernel_rfl
        · exact rfl
        · walk_at "P.ev"
        · exact ty_str
        · apply evs_cons
          · exact rfl
          · apply ev_comp
            refine comp_rule (S := (dAt 33).scope.names) (v := .str "ab") (σ1 := base) (σ2 := base) (xs := ("ab" : Str).cps.toList.map fun c => .str ⟨#[c]⟩) (taken := none) (keepF fun y => !Txt.contains "a" y) ?xq1 ?xq2 ?xq3 ?xq4 ?xq5 ?xq6
            case xq1 => walk_at "P.sc"
            case xq2 => kernel_rfl
            case xq3 => walk_at "P.ev"
            case xq4 => exact src_str
            case xq5 => exact Nat.le_of_ble_eq_true (by kernel_rfl)
            case xq6 =>
              intro v hvm E1 f1 f2
              obtain ⟨d, hd, rfl⟩ := List.mem_map.mp hvm
              have gx : E1.get "part" = some (.str z) := by
                refine get_kap f1 (by kernel_rfl) f2 ?_
                refine kap_of (S := (dAt 33).scope.names) (by walk_at "P.sc") (by kernel_rfl) ?_
                walk_at "P.get"
              have gl : ∀ s, SL s (.str z) (some 2) (some (-1)) (.str "a") := fun s => (sl_str hzl).cast (by rw [h2])
              refine ⟨E1.st "one" (.str ⟨#[d]⟩), bt_st (isLC_of f1 (by kernel_rfl)), by rw [st_sc, f1], ?_, !Txt.contains "a" ⟨#[d]⟩, ?_, fun h => ?_, fun h => ⟨.str ⟨#[d]⟩, ?_, ?_⟩⟩
              · rw [st_kap (by rw [f1]; kernel_rfl), f2]
              · apply ifs_one
                with_reducible apply it_cmp
                · exact rfl
                · apply evp_name
                  exact get_hit (isLC_of f1 (by kernel_rfl))
                · with_reducible apply ev_slice
                  · apply evp_name
                    exact get_ne (by kernel_rfl) gx
                  · walk_at "P.opt"
                  · walk_at "P.opt"
                  · exact rfl
                  · exact rfl
                  · exact gl _
                · exact cmp_notin_str
              · show (if (!Txt.contains "a" ⟨#[d]⟩) = true then _ else _) = _
                rw [h]; rfl
              · apply evp_name
                exact get_hit (isLC_of f1 (by kernel_rfl))
              · show (if (!Txt.contains "a" ⟨#[d]⟩) = true then _ else _) = _
                rw [h]; rfl
          · exact evs_nil
        · exact m_join (l := ["b"]) (by kernel_rfl) (by kernel_rfl)
      · show some (AV.str (Txt.join "" ["b"])) = some (AV.str "b")
        kernel_rfl
    · intro h; cases h
  · have hi1 : IV base (.str z) 1 (.str ⟨#[97]⟩) := iv_ch (p := 1) h1 hzl
    apply wp_if (c := false) (σ1 := base)
    · refine it_cast (σ1 := base) (b := sq ⟨#[97]⟩ "^") ?_ (by kernel_rfl)
      walk_at "P.it"
    · intro h; cases h
    · intro _
      apply wp_nil
      apply wp_ret (v := .str (Txt.join "" ["a"])) (σ1 := base)
      · apply ev_meth
        · intro _ _; kernel_rfl
        · kernel_rfl
        · exact rfl
        · walk_at "P.ev"
        · exact ty_str
        · apply evs_cons
          · exact rfl
          · apply ev_comp
            refine comp_rule (S := (dAt 33).scope.names) (v := .str "ab") (σ1 := base) (σ2 := base) (xs := ("ab" : Str).cps.toList.map fun c => .str ⟨#[c]⟩) (taken := none) (keepF fun y => Txt.contains "a" y) ?yq1 ?yq2 ?yq3 ?yq4 ?yq5 ?yq6
            case yq1 => walk_at "P.sc"
            case yq2 => kernel_rfl
            case yq3 => walk_at "P.ev"
            case yq4 => exact src_str
            case yq5 => exact Nat.le_of_ble_eq_true (by kernel_rfl)
            case yq6 =>
              intro v hvm E1 f1 f2
              obtain ⟨d, hd, rfl⟩ := List.mem_map.mp hvm
              have gx : E1.get "part" = some (.str z) := by
                refine get_kap f1 (by kernel_rfl) f2 ?_
                refine kap_of (S := (dAt 33).scope.names) (by walk_at "P.sc") (by kernel_rfl) ?_
                walk_at "P.get"
              have gl : ∀ s, SL s (.str z) (some 1) (some (-1)) (.str "a") := fun s => (sl_str hzl).cast (by rw [h2])
              refine ⟨E1.st "one" (.str ⟨#[d]⟩), bt_st (isLC_of f1 (by kernel_rfl)), by rw [st_sc, f1], ?_, Txt.contains "a" ⟨#[d]⟩, ?_, fun h => ?_, fun h => ⟨.str ⟨#[d]⟩, ?_, ?_⟩⟩
              · rw [st_kap (by rw [f1]; kernel_rfl), f2]
              · apply ifs_one
                with_reducible apply it_cmp
                · exact rfl
                · apply evp_name
                  exact get_hit (isLC_of f1 (by kernel_rfl))
                · with_reducible apply ev_slice
                  · apply evp_name
                    exact get_ne (by kernel_rfl) gx
                  · walk_at "P.opt"
                  · walk_at "P.opt"
                  · exact rfl
                  · exact rfl
                  · exact gl _
                · exact cmp_in_str
              · show (if Txt.contains "a" ⟨#[d]⟩ = true then _ else _) = _
                rw [h]; rfl
              · apply evp_name
                exact get_hit (isLC_of f1 (by kernel_rfl))
              · show (if Txt.contains "a" ⟨#[d]⟩ = true then _ else _) = _
                rw [h]; rfl
          · exact evs_nil
        · exact m_join (l := ["a"]) (by kernel_rfl) (by kernel_rfl)
      · show some (AV.str (Txt.join "" ["a"])) = some (AV.str "a")
        kernel_rfl
set_option tactic.hygienic true in
theorem rd_at {v : AV} {y : Str} (h : readA v = some y) : CD (n + 40) 225 [v] σ (.str y) := by
  unfold readA at h
  cases v with
  | none => cases h; exact rd0
  | str z =>
    simp only at h
    split at h
    · rename_i q; cases h; rw [sq_eq q]; exact rds (Nat.le_of_ble_eq_true (by kernel_rfl)) (.inl ⟨by kernel_rfl, rfl⟩)
    · split at h
      · rename_i q; cases h; rw [sq_eq q]; exact rds (Nat.le_of_ble_eq_true (by kernel_rfl)) (.inr (.inl ⟨by kernel_rfl, by kernel_rfl, rfl⟩))
      · split at h
        · rename_i q; cases h; rw [sq_eq q]; exact rds (Nat.le_of_ble_eq_true (by kernel_rfl)) (.inr (.inr (.inl ⟨by kernel_rfl, by kernel_rfl, by kernel_rfl, rfl⟩)))
        · split at h
          · rename_i q; cases h; rw [sq_eq q]; exact rds (Nat.le_of_ble_eq_true (by kernel_rfl)) (.inr (.inr (.inr (.inl ⟨by kernel_rfl, by kernel_rfl, by kernel_rfl, by kernel_rfl, by kernel_rfl, rfl⟩))))
          · split at h
            · rename_i q; cases h; rw [sq_eq q]; exact rds (Nat.le_of_ble_eq_true (by kernel_rfl)) (.inr (.inr (.inr (.inr ⟨by kernel_rfl, by kernel_rfl, by kernel_rfl, by kernel_rfl, by kernel_rfl, rfl⟩))))
            · cases h
  | _ => cases h
end
noncomputable def readF (v : AV) : Option AV := (readA v).map .str
theorem read_map : ∀ {l : List AV} {m : List Str}, readAll l = some m → l.filterMap readF = m.map .str ∧ ∀ v ∈ l, ∃ y, readA v = some y
  | [], m, h => by cases h; exact ⟨rfl, fun v h => (by cases h)⟩
  | v :: l, m, h => by
    unfold readAll at h
    cases hv : readA v with
    | none => rw [hv] at h; cases h
    | some y =>
      rw [hv] at h
      cases hl : readAll l with
      | none => rw [hl] at h; cases h
      | some r =>
        rw [hl] at h
        cases h
        obtain ⟨h1, h2⟩ := read_map hl
        refine ⟨?_, fun w hw => ?_⟩
        · rw [List.filterMap_cons, show readF v = some (.str y) from by unfold readF; rw [hv]; rfl, h1]; rfl
        · rcases List.mem_cons.mp hw with rfl | hw
          · exact ⟨y, hv⟩
          · exact h2 w hw
/-- what of the four names the pattern takes -/
noncomputable def takesQ (told : List Str) (y : Str) : Bool := open Classical in if h : ∃ b, CD 96 232 [.list (told.map .str), .str y] [] (.bool b) then h.choose else false
theorem takes_at {told : List Str} {y : Str} (ht : told.length ≤ 3) (hok : ∀ z ∈ told, PyData.strOk z = true) (hy : y.length ≤ 2) : CD 96 232 [.list (told.map .str), .str y] [] (.bool (takesQ told y)) := by
  have h := c_takes 5 told y (by omega) (by (clear hy ht; omega)) hok 96 (by (clear hy ht; omega)) []
  unfold takesQ
  rw [dif_pos h]
  exact h.choose_spec
theorem pfold_ok : ∀ {ds : List (Str × Option Str)} {a : Str × List Str}, (∀ p ∈ ds, p ∈ pItems) → (∀ z ∈ a.2, PyData.strOk z = true) → (∀ z ∈ (pfold a ds).2, PyData.strOk z = true) ∧ (pfold a ds).2.length ≤ a.2.length + ds.length
  | [], a, _, h => ⟨h, by simp [pfold]⟩
  | p :: ds, a, hd, h => by
    have hp := List.all_eq_true.mp pItems_ok _ (hd p List.mem_cons_self)
    have step : (∀ z ∈ (pstep a p).2, PyData.strOk z = true) ∧ (pstep a p).2.length ≤ a.2.length + 1 := by
      obtain ⟨p1, p2⟩ := p
      unfold pOk at hp
      rw [Bool.and_eq_true] at hp
      unfold pstep
      cases p2 with
      | none => exact ⟨h, Nat.le_succ _⟩
      | some s =>
        simp only
        split
        · refine ⟨fun z hz => ?_, by simp⟩
          rcases List.mem_append.mp hz with q | q
          · exact h z q
          · rw [List.mem_singleton.mp q]; exact hp.2
        · exact ⟨h, Nat.le_succ _⟩
    obtain ⟨h1, h2⟩ := pfold_ok (ds := ds) (a := pstep a p) (fun q hq => hd q (List.mem_cons_of_mem _ hq)) step.1
    refine ⟨h1, ?_⟩
    show (pfold (pstep a p) ds).2.length ≤ _
    rw [List.length_cons]
    have := step.2
    (clear this; omega)
theorem told_ok (x : Int) : (∀ z ∈ (patOf x).2, PyData.strOk z = true) ∧ (patOf x).2.length ≤ 3 := by
  have h := pfold_ok (ds := digits x) (a := ("", [])) (digits_in x) fun z hz => by cases hz
  exact ⟨h.1, h.2⟩
/-- texts of plain signs -/
theorem ok_ch {x : Str} : PyData.strOk x = true ↔ ∀ c ∈ ch x, c < 0x110000 := by
  unfold PyData.strOk
  rw [← Array.all_toList, List.all_eq_true]
  constructor
  · intro h c hc; simpa using h c hc
  · intro h c hc; simpa using h c hc
theorem line_ok {R : List Str → List Str} {u : List Str} {x : Str} (hx : x ∈ n4) : PyData.strOk (lineOf R (u ++ [x])) = true := by
  rw [ok_ch, line_snoc, ch_app, join0_ch]
  intro c hc
  rcases List.mem_append.mp hc with h | h
  · obtain ⟨y, hy, hc⟩ := List.mem_flatMap.mp h
    have hs := (mark_sign y hy).1 c hc
    have hm : ∀ d ∈ ch markSigns, d < 0x110000 := ok_ch.mp (by kernel_rfl)
    refine hm c ?_
    have : c ∈ markSigns.cps := by simpa using hs
    exact Array.mem_toList_iff.mpr this
  · exact ok_ch.mp (n4_ok hx) c h
theorem pth_ok {p : List Str} (hp : ∀ y ∈ p, y ∈ n4) : PyData.strOk (pth p) = true := by
  rw [ok_ch]
  intro c hc
  by_cases hn : p = []
  · rw [hn, pth_nil] at hc
    rw [List.mem_singleton.mp hc]; omega
  · rw [pth_ch hn] at hc
    obtain ⟨y, hy, hc⟩ := List.mem_flatMap.mp hc
    rcases List.mem_cons.mp hc with rfl | hc
    · omega
    · exact ok_ch.mp (n4_ok (hp y hy)) c hc
end

noncomputable section
open PySem
section
theorem fn_law : fnAt 271 = some (dAt 41) := by kernel_rfl
theorem sum_ints : ∀ l : List Int, ∃ i, sumI (l.map AV.int) = some i
  | [] => ⟨0, rfl⟩
  | a :: l => by
    obtain ⟨i, h⟩ := sum_ints l
    exact ⟨a + i, by rw [List.map_cons]; show (sumI (l.map AV.int)).map (a + ·) = _; rw [h]; rfl⟩
noncomputable def pathF (v : AV) : Option AV := match v with
  | .list xs => (strsOf xs).map fun p => .str (pth p)
  | _ => none
theorem pathF_at {p : List Str} : pathF (.list (p.map .str)) = some (.str (pth p)) := by
  unfold pathF
  simp only [strsOf_map]
  rfl
set_option maxHeartbeats 1000000 in
theorem law_true {script : List Int} (hl : script.length ≤ 63) : CD 100 271 [.list (script.map .int)] [] (.bool true) := by
  have hc : cap = 100000 := rfl
  obtain ⟨i, hi⟩ := sum_ints (script.take 6)
  have hsl : ∀ s, SL s (.list (script.map .int)) none (some 6) (.list ((script.take 6).map .int)) := fun s => by
    refine (sl_list lists_tree (by rw [List.length_map]; omega)).cast ?_
    rw [show (6 : Int) = ((6 : Nat) : Int) from rfl, cut_take, List.map_take]
  obtain ⟨parts, hp1, hp2⟩ : ∃ parts, (∀ m s, CD (m + 70) 91 [.str (patOf (i + 316)).1, .none, .str "."] s (.list parts)) ∧ readAll parts = some (patOf (i + 316)).2 := ⟨_, fun m s => (tr_all (n := m) (σ := s)).1, (tr_all (n := 0) (σ := [])).2⟩
  obtain ⟨hp3, hp4⟩ := read_map hp2
  obtain ⟨ht1, ht2⟩ := told_ok (i + 316)
  have hpl : parts.length ≤ 3 := by
    have := congrArg List.length hp3
    have h2 : (parts.filterMap readF).length = parts.length := by
      have : ∀ l : List AV, (∀ v ∈ l, ∃ y, readA v = some y) → (l.filterMap readF).length = l.length := by
        intro l
        induction l with
        | nil => intro _; rfl
        | cons v l ih =>
          intro h
          obtain ⟨y, hy⟩ := h v List.mem_cons_self
          rw [List.filterMap_cons, show readF v = some (.str y) from by unfold readF; rw [hy]; rfl]
          simp only [List.length_cons]
          rw [ih fun w hw => h w (List.mem_cons_of_mem _ hw)]
      exact this parts hp4
    rw [h2, List.length_map] at this
    (clear h2 hc hl; omega)
  generalize htold : (patOf (i + 316)).2 = told at ht1 ht2 hp3 hp2
  generalize htext : (patOf (i + 316)).1 = text at hp1
  have hpat : ∀ k s, CD ((k + 70)) 220 [.int (i + 316)] s (.tup [.str text, .list (told.map .str)]) := fun k s => by
    have := c_pattern (n := k) (σ := s) (x := i + 316)
    rw [htold, htext] at this
    exact this
  let hid : List Str := n4.filter (takesQ told)
  let nums : List Int := script.take 6 ++ [435, 514, 98, 108]
  let W : List (List Str) := nums.map walkOf
  have hnl : nums.length ≤ 10 := by
    show (script.take 6 ++ [435, 514, 98, 108]).length ≤ 10
    rw [List.length_append, List.length_take]
    simp; (clear ht2 hpl hc hl; omega)
  have hWl : W.length ≤ 10 := by show (nums.map walkOf).length ≤ 10; rw [List.length_map]; exact hnl
  have hW : ∀ w ∈ W, (∀ y ∈ w, y ∈ n4) ∧ w.length ≤ 5 := fun w hw => by
    obtain ⟨x, _, rfl⟩ := List.mem_map.mp hw
    exact walk_ok x
  have hhid : ∀ y ∈ hid, y ∈ n4 := fun y hy => (List.mem_filter.mp hy).1
  have hlists : lists [AO.list (hid.map .str)] (.own 0) = some (hid.map .str) := rfl
  have hb1 := fun k => c_book (n := k) (σ := [AO.list (hid.map .str)]) hW (by (clear hnl ht2 hpl hc hl; omega)) hlists hhid
  let es : List Page := (pages W).map fun u => (u, 0)
  have hef : es.map Prod.fst = pages W := by show ((pages W).map fun u => (u, 0)).map Prod.fst = _; rw [List.map_map]; exact List.map_id _
  have hb2 : ∀ e ∈ es, ∀ y ∈ e.1, y ∈ n4 := fun e he y hy => by
    have h1 : e.1 ∈ pages W := by rw [← hef]; exact List.mem_map.mpr ⟨e, he, rfl⟩
    obtain ⟨z, w, hw, hp⟩ := mem_pages.mp h1
    exact (hW w hw).1 y (((List.prefix_append e.1 [z]).trans hp).subset hy)
  have hb3 : ∀ u y, belowW W u y → u ∈ es.map Prod.fst := fun u y h => by rw [hef]; exact mem_pages.mpr ⟨y, h⟩
  have HR : Rows (rowP hid (belowW W)) := rows_of hid fun w hw => (hW w hw).2
  have hbk : ∀ u, (∀ y ∈ u, y ∈ n4) → (look (pth u) ((pages W).map fun u => (pth u, AV.list ((rowP hid (belowW W) u).map .str)))).getD (.list []) = .list ((rowP hid (belowW W) u).map .str) := by
    intro u hu
    rw [← hef, List.map_map, show ((fun u => (pth u, AV.list ((rowP hid (belowW W) u).map .str))) ∘ Prod.fst : Page → Str × AV) = fun e => (pth e.1, AV.list ((rowP hid (belowW W) e.1).map .str)) from rfl]
    by_cases h : u ∈ es.map Prod.fst
    · rw [look_tree (fun u => AV.list ((rowP hid (belowW W) u).map .str)) (fun e he y hy => (nm4 (hb2 e he y hy)).1) h]; rfl
    · rw [look_miss (fun y hy => (nm4 (hu y hy)).1) (fun e => AV.list ((rowP hid (belowW W) e.1).map .str)) (fun e he y hy => (nm4 (hb2 e he y hy)).1) h]
      have : rowP hid (belowW W) u = [] := by
        rw [List.eq_nil_iff_forall_not_mem]
        intro x hx
        exact h (hb3 u x (mem_row.mp hx).2.2)
      rw [this]; rfl
  have hdrawn := fun k => c_drawn (n := k) (σ := [AO.list (hid.map .str)]) HR hbk
  have hkept := fun k => c_kept (n := k) (σ := [AO.list (hid.map .str)]) hW (by (clear hnl ht2 hpl hc hl; omega)) hlists hhid
  have hlines := fun k => c_lines (n := k) (σ := [AO.list (hid.map .str)]) (hid := hid) hW
  have hread := fun k => c_readback (n := k) (σ := [AO.list (hid.map .str)]) HR
  have hBn : ∀ p ∈ below (rowP hid (belowW W)) [], N4 p ∧ p.length ≤ 5 ∧ p ≠ [] := fun p hp => below_nms HR hp
  have hBl := below_len HR
  generalize hB : below (rowP hid (belowW W)) [] = B at hdrawn hkept hlines hread hBn hBl
  refine callD_intro (n := 100) (E := ?ze) rfl rfl fn_law ?_ ?_
  rotate_left
  · show bindP _ (_ :: _) _ _ = _
    walk_at "P.bind"
  show WP 100 _ _ [] _
  apply wp_tuple
  · intro _ _ _ h; cases h
  · apply ev_call
    · walk_at "P.ev"
    · exact rfl
    · apply args_cons
      · exact rfl
      · with_reducible apply ev_bin
        · apply ev_call
          · walk_at "P.ev"
          · exact rfl
          · apply args_cons
            · exact rfl
            · with_reducible apply ev_slice
              · walk_at "P.ev"
              · walk_at "P.opt"
              · walk_at "P.opt"
              · exact rfl
              · exact rfl
              · exact hsl _
            · exact args_nil
          · exact call_b (cb_sum lists_tree hi)
        · walk_at "P.ev"
        · exact bin_add_int
      · exact args_nil
    · exact call_d (hpat _ _)
  · show SETS (_ :: _ :: []) (_ :: _ :: []) _ _
    walk_at "P.setall"
  apply wp_if (c := false) (σ1 := [])
  · with_reducible apply it_cmp
    · exact rfl
    · apply ev_comp
      refine comp_rule (S := (dAt 41).scope.names) (v := .list parts) (σ1 := []) (σ2 := []) (xs := parts) (taken := none) readF ?xq1 ?xq2 ?xq3 ?xq4 ?xq5 ?xq6
      case xq1 => walk_at "P.sc"
      case xq2 => kernel_rfl
      case xq3 =>
        apply ev_call
        · walk_at "P.ev"
        · exact rfl
        · walk_at "P.args"
        · exact call_d (hp1 _ _)
      case xq4 => exact src_list
      case xq5 => (clear hBl hWl hnl ht2 hl; omega)
      case xq6 =>
        intro v hvm E1 f1 f2
        obtain ⟨y, hy⟩ := hp4 v hvm
        refine ⟨E1.st "part" v, bt_st (isLC_of f1 (by kernel_rfl)), by rw [st_sc, f1], ?_, true, ifs_nil, (fun h => by cases h), fun _ => ⟨.str y, ?_, by unfold readF; rw [hy]; rfl⟩⟩
        · rw [st_kap (by rw [f1]; kernel_rfl), f2]
        · apply ev_call
          · apply evp_name
            refine get_ne (by kernel_rfl) ?_
            exact get_glob f1 (by kernel_rfl) g_law_read
          · exact rfl
          · apply args_cons
            · exact rfl
            · apply evp_name
              exact get_hit (isLC_of f1 (by kernel_rfl))
            · exact args_nil
          · exact call_d (rd_at hy)
    · change EV _ _ _ [] _ _
      walk_at "P.ev"
    · rw [hp3]
      exact (ne_strs (q := told) rfl ht1 ht1).cast (by simp)
  · intro h; cases h
  · intro _
    apply wp_nil
    apply wp_assign
    · apply own_comp
      refine comp_rule (S := (dAt 41).scope.names) (v := .list (n4.map .str)) (σ1 := []) (σ2 := []) (xs := n4.map .str) (taken := none) (keepF (takesQ told)) ?yq1 ?yq2 ?yq3 ?yq4 ?yq5 ?yq6
      case yq1 => walk_at "P.sc"
      case yq2 => kernel_rfl
      case yq3 =>
        show EV _ _ _ _ (.list [.str "a", .str "ab", .str "b", .str "ba"]) _
        walk_at "P.ev"
      case yq4 => exact src_list
      case yq5 => exact Nat.le_of_ble_eq_true rfl
      case yq6 =>
        intro v hvm E1 f1 f2
        obtain ⟨y, hy, rfl⟩ := List.mem_map.mp hvm
        have gt : E1.get "told" = some (.list (told.map .str)) := by
          refine get_kap f1 (by kernel_rfl) f2 ?_
          refine kap_of (S := (dAt 41).scope.names) (by walk_at "P.sc") (by kernel_rfl) ?_
          walk_at "P.get"
        refine ⟨E1.st "name" (.str y), bt_st (isLC_of f1 (by kernel_rfl)), by rw [st_sc, f1], ?_, takesQ told y, ?_, fun h => ?_, fun h => ⟨.str y, ?_, ?_⟩⟩
        · rw [st_kap (by rw [f1]; kernel_rfl), f2]
        · apply ifs_one
          apply it_val
          · intro _ _; kernel_rfl
          · apply ev_call
            · apply evp_name
              refine get_ne (by kernel_rfl) ?_
              exact get_glob f1 (by kernel_rfl) g_law_takes
            · exact rfl
            · apply args_cons
              · exact rfl
              · apply evp_name
                exact get_ne (by kernel_rfl) gt
              · apply args_cons
                · exact rfl
                · apply evp_name
                  exact get_hit (isLC_of f1 (by kernel_rfl))
                · exact args_nil
            · exact call_d (takes_at ht2 ht1 (nm4 hy).2)
          · exact tr_bool
        · show (if takesQ told y then _ else _) = _
          rw [h]; rfl
        · apply evp_name
          exact get_hit (isLC_of f1 (by kernel_rfl))
        · show (if takesQ told y then _ else _) = _
          rw [h]; rfl
    · walk_at "P.lc"
    rw [fm_keep (q := takesQ told) fun y _ => rfl]
    change WP _ _ (AE.st _ _ (AV.own 0)) [AO.list (hid.map .str)] _
    apply wp_tuple
    · intro _ _ _ h; cases h
    · apply ev_call
      · walk_at "P.ev"
      · exact rfl
      · apply args_cons
        · exact rfl
        · with_reducible apply ev_bin
          · with_reducible apply ev_slice
            · walk_at "P.ev"
            · walk_at "P.opt"
            · walk_at "P.opt"
            · exact rfl
            · exact rfl
            · exact hsl _
          · walk_at "P.ev"
          · refine cat_lists lists_tree lists_tree ?_
            rw [List.length_map, List.length_take]
            show _ + 4 ≤ cap
            (clear hBl hWl hnl ht2 hpl hl; omega)
        · exact args_nil
      · rw [show (script.take 6).map AV.int ++ [AV.int 435, AV.int 514, AV.int 98, AV.int 108] = nums.map AV.int by show _ = (script.take 6 ++ [435, 514, 98, 108]).map AV.int; rw [List.map_append]; rfl]
        exact call_d (c_places2 (by (clear hBl hWl ht2 hpl hc hl; omega)))
    · show SETS (_ :: _ :: []) (_ :: _ :: []) _ _
      walk_at "P.setall"
    apply wp_assign
    · apply own_plain (fun _ _ => by kernel_rfl) rfl
      apply ev_call
      · walk_at "P.ev"
      · exact rfl
      · walk_at "P.args"
      · exact call_d (hkept _)
    · walk_at "P.lc"
    apply wp_assign
    · apply own_plain (fun _ _ => by kernel_rfl) rfl
      apply ev_call
      · walk_at "P.ev"
      · exact rfl
      · apply args_cons
        · exact rfl
        · apply ev_call
          · walk_at "P.ev"
          · exact rfl
          · walk_at "P.args"
          · exact call_d (hb1 _)
        · exact args_nil
      · exact call_d (hdrawn _)
    · walk_at "P.lc"
    have eL : (B.map fun p => AV.str (lineOf (rowP hid (belowW W)) p)) = (B.map (lineOf (rowP hid (belowW W)))).map AV.str := by rw [List.map_map]; rfl
    have eP : (B.map fun p => AV.str (pth p)) = (B.map pth).map AV.str := by rw [List.map_map]; rfl
    have okL : ∀ y ∈ B.map (lineOf (rowP hid (belowW W))), PyData.strOk y = true := fun y hy => by
      obtain ⟨p, hp, rfl⟩ := List.mem_map.mp hy
      obtain ⟨p1, p2, p3⟩ := hBn p hp
      have e : p = p.dropLast ++ [p.getLast p3] := (List.dropLast_concat_getLast p3).symm
      rw [e]
      exact line_ok (p1 _ (List.getLast_mem p3))
    have okP : ∀ y ∈ B.map pth, PyData.strOk y = true := fun y hy => by
      obtain ⟨p, hp, rfl⟩ := List.mem_map.mp hy
      exact pth_ok (hBn p hp).1
    apply wp_if (c := false) (σ1 := [AO.list (hid.map .str)])
    · with_reducible apply it_cmp
      · exact rfl
      · walk_at "P.ev"
      · apply ev_call
        · walk_at "P.ev"
        · exact rfl
        · walk_at "P.args"
        · exact call_d (hlines _)
      · rw [eL]
        exact (ne_strs (q := B.map (lineOf (rowP hid (belowW W)))) rfl okL okL).cast (by simp)
    · intro h; cases h
    · intro _
      apply wp_nil
      apply wp_ret (v := .bool true)
      · with_reducible apply ev_cmp
        · exact rfl
        · apply ev_call
          · walk_at "P.ev"
          · exact rfl
          · walk_at "P.args"
          · exact call_d (hread _)
        · apply ev_comp
          refine comp_rule (S := (dAt 41).scope.names) (v := rowsV B) (σ1 := [AO.list (hid.map .str)]) (σ2 := [AO.list (hid.map .str)]) (xs := B.map fun p => AV.list (p.map AV.str)) (taken := none) pathF ?wq1 ?wq2 ?wq3 ?wq4 ?wq5 ?wq6
          case wq1 => walk_at "P.sc"
          case wq2 => kernel_rfl
          case wq3 => walk_at "P.ev"
          case wq4 => exact src_list
          case wq5 => rw [List.length_map]; (clear hWl hnl ht2 hpl hl; omega)
          case wq6 =>
            intro v hvm E1 f1 f2
            obtain ⟨p, hp, rfl⟩ := List.mem_map.mp hvm
            obtain ⟨p1, p2, p3⟩ := hBn p hp
            have hp2 : ∀ y ∈ p, y.length ≤ 2 := fun y hy => (nm4 (p1 y hy)).2
            refine ⟨E1.st "walk" (.list (p.map .str)), bt_st (isLC_of f1 (by kernel_rfl)), by rw [st_sc, f1], ?_, true, ifs_nil, (fun h => by cases h), fun _ => ⟨.str (pth p), ?_, pathF_at⟩⟩
            · rw [st_kap (by rw [f1]; kernel_rfl), f2]
            · with_reducible apply ev_bin
              · walk_at "P.ev"
              · apply ev_meth
                · intro _ _; kernel_rfl
                · kernel_rfl
                · exact rfl
                · walk_at "P.ev"
                · exact ty_str
                · apply evs_cons
                  · exact rfl
                  · apply evp_name
                    exact get_hit (isLC_of f1 (by kernel_rfl))
                  · exact evs_nil
                · exact m_join lists_tree (joinOk_of hp2 (by (clear hBl hWl hnl ht2 hpl hc hl; omega)))
              · exact bin_add_str (by rw [len_slash]; have := join_len hp2; (clear hBl hWl hnl ht2 hpl hl; omega))
        · rw [eP, fm_map (f := pathF) (g := fun p : List Str => AV.list (p.map AV.str)) (h := fun p => AV.str (pth p)) _ fun p _ => pathF_at, eP]
          exact (eq_strs okP okP).cast (by simp)
      · rfl
end
end

noncomputable section
open PySem PySem.W PyProof.Rows
open PySem.Sem (wp)
theorem map_get {α β : Type} {f g : α → β} {l : List α} (e : l.map f = l.map g) : ∀ a ∈ l, f a = g a := List.map_inj_left.mp e
theorem ns_hide {h : Heap} {P a : Addr} {m : Str → Option Value} (n : h.Ns a m) (hne : a ≠ P) : (hideAll h [P]).Ns a m :=
  let ⟨o, es, ep, e, r⟩ := n; ⟨o, es, ep, hideAll_get _ e (fun q => hne (List.mem_singleton.mp q)), r⟩
section
variable {K : Frag} {w : World} {h₁ : Heap} {mg mb : Str → Option Value}
set_option tactic.hygienic true in
theorem base_of {h : Heap} (B : TopK K) (X : K.In h) (G : h.Ns mainGlobals mg) (Gb : h.Ns builtinsNs mb) (hl : h.NoLimit) (hbt : ∀ x : Str, x ≠ "__name__" → mb x = bootBuiltins x)
    (hba : h.BuiltinsAt mg tabA) : Base w h := by
  have hname : ∀ x v, look x globs = some v → mg x = some v ∨ (mg x = none ∧ mb x = some v) := by
    intro x v e
    have hm := look_mem e
    have e1 : nameView K x = some v := map_get B.names _ hm
    have e2 : x ≠ "__name__" := by
      have := List.all_eq_true.mp globs_noName _ hm
      intro q
      subst q
      simp at this
    unfold nameView at e1
    split at e1
    · rename_i q
      cases e1
      exact .inl (mg_of X G q)
    · rename_i q
      exact .inr ⟨mg_none_of X G q, (hbt x e2).trans e1⟩
    · exact nomatch e1
  obtain ⟨x1, x2, x3, _⟩ := B.ex
  refine ⟨hl, ⟨mg, mb, G, Gb, hname, ⟨mg_none_of X G x1, (hbt _ (by decide)).trans (by rfl), mg_none_of X G x2, (hbt _ (by decide)).trans (by rfl)⟩, mg_of X G x3, hba⟩, ?_, ?_, ⟨_, _, X _ _ B.o60⟩, codeHd_of_K X B.cd, ⟨_, _, X _ _ B.o72⟩, X _ _ B.o71, ?_⟩
  · intro a fn hf h67
    have hm : a ∈ fnAddrs := by
      have h := hf
      unfold fnAt at h
      cases q : nameAt a globs with
      | none => rw [q] at h; cases h
      | some n =>
        obtain ⟨_, hm⟩ := nameAt_mem q
        exact fnAddr_mem h67 (fun q => by have := fnAt_72; rw [← q, hf] at this; cases this) hm
    have e := map_get B.fns a hm
    unfold fnWant at e
    rw [hf] at e
    obtain ⟨o, fd, c1, c2, c3, c4, c5, c6, c7, c8, c9, c10, c11⟩ := fnView_ok X e
    refine ⟨o, fd, c1, c2, c3, c4, c5, c6, c7, c8, c9, c10, fun q => ?_⟩
    rw [c11 q, q]
    rfl
  · have e := B.f67
    unfold fnWantD at e
    rw [fnAt_67] at e
    obtain ⟨o, fd, c1, c2, c3, c4, c5, c6, c7, c8, c9, c10, _⟩ := fnView_ok X e
    exact ⟨o, fd, c1, c2, c3, c4, c5, c6, c7, c8, c9, c10, fun q => nomatch q⟩
  · obtain ⟨es, n, hl, hk⟩ := mapView_ok B.map.1 B.map.2
    have key : ∀ e ∈ es, ∃ k t, e.key = .int k t ∧ e.hash = hashInt k ∧ (k == 97) = false := fun e he => by
      have h := List.all_eq_true.mp hk e (Array.mem_toList_iff.mpr he)
      unfold entOk at h
      cases q : e.key with
      | int k t =>
        rw [q] at h
        have h := Bool.and_eq_true_iff.mp h
        exact ⟨k, t, rfl, beq_iff_eq.mp h.1, (Bool.not_eq_true' _).mp h.2⟩
      | _ => rw [q] at h; exact nomatch h
    refine ⟨_, ⟨_, es, n, X _ _ hl, ⟨rfl, rfl, rfl⟩, rfl, fun e he => ?_, fun _ => rfl⟩, ?_⟩
    · obtain ⟨k, t, q, h1, _⟩ := key e he
      exact ⟨k, by rw [q]; exact beq_self_eq_true k, h1⟩
    · unfold findBy
      rw [Array.find?_eq_none.mpr]
      · rfl
      · intro e he
        obtain ⟨k, t, q, _, h2⟩ := key e he
        rw [q]
        intro z
        exact Bool.false_ne_true (h2.symm.trans z)
/-- the heap of the law's start, the table hidden -/
theorem base_top (B : TopK K) (X : K.In h₁) (G : h₁.Ns mainGlobals mg) (Gb : h₁.Ns builtinsNs mb) (hl : h₁.NoLimit) (hbt : ∀ x : Str, x ≠ "__name__" → mb x = bootBuiltins x)
    (hba : h₁.BuiltinsAt mg tabA) : Base w (hideAll h₁ [tabA]) := by
  refine base_of B (fun a o e => hideAll_get _ (X a o e) fun q => ?_) (ns_hide G (by decide)) (ns_hide Gb (by decide)) ?_ hbt ?_
  · rw [List.mem_singleton.mp q, B.no86] at e; cases e
  · obtain ⟨mc, h1, h2⟩ := hl; exact ⟨mc, ns_hide h1 (by decide), h2⟩
  · obtain ⟨bm, o, h1, h2, h3, h4, h5, h6⟩ := hba
    exact ⟨bm, o, h1, h2, h3, h4, hideAll_get _ h5 (fun q => h4 (List.mem_singleton.mp q)), h6⟩
end
end

noncomputable section
open PySem PySem.W PyProof.Rows
open PySem.Sem (wp)
section
variable {P : Params} {h : Heap} {z : ZM} {ι : Nat → Addr} {n : Nat}
theorem vrs_of_well : ∀ {ns : List Int} {vs : List Value}, WellAll P h vs (ofPys (ns.map PyData.int)) → VRs P z ι n vs (ns.map AV.int)
  | [], vs, W => by
    rw [List.map_nil, ofPys] at W
    cases W
    exact .nil
  | k :: ns, vs, W => by
    rw [List.map_cons, ofPys, ofPy] at W
    cases W with
    | cons h1 h2 =>
      cases h1 with
      | int i t => exact .cons (.int k t) (vrs_of_well h2)
end
section
variable {K : Frag} {w : World} {s₁ : Shared} {mg mb : Str → Option Value}
set_option tactic.hygienic true in
theorem law_walk (B : TopK K) (X : K.In s₁.heap) (h86 : s₁.heap.get? tabA = some (tabObj #[])) (G : s₁.heap.Ns mainGlobals mg) (Gb : s₁.heap.Ns builtinsNs mb) (hl : s₁.heap.NoLimit) (hbt : ∀ x : Str, x ≠ "__name__" → mb x = bootBuiltins x)
    (hbm : ∃ bm ob, mg "__builtins__" = some (.ref bm) ∧ bm ≠ builtinsNs ∧ s₁.heap.get? bm = some ob ∧ ob.cls = .type "module" ∧ ob.dict = some builtinsNs ∧ ob.data = .plain)
    (hg : s₁.gens = #[]) {l : Addr} {ns : List Int} (W : Well w.params s₁.heap (.ref l) (ofPy (PyData.list (ns.map PyData.int)))) (hr : ns.length ≤ 63) :
    wpAny (MD w) callerA (call (.ref 271) [.ref l]) (fun v s' => v = .bool true ∧ OldK s₁.heap s'.heap ∧ s'.os = s₁.os ∧ AllBare s'.gens) NoE s₁ := by
  have hba : s₁.heap.BuiltinsAt mg tabA := by
    obtain ⟨bm, ob, h1, h2, h3, h4, h5, h6⟩ := hbm
    refine ⟨bm, ob, h1, h2, ?_, ?_, h3, h4, h5, h6⟩
    · intro q
      obtain ⟨o, es, ep, e1, e2, _⟩ := G
      rw [← q, h3] at e1; cases e1
      rw [h6] at e2; cases e2
    · intro q
      rw [q, h86] at h3; cases h3
      cases h4
  have hB : Base w (hideAll s₁.heap [tabA]) := base_top B X G Gb hl hbt hba
  have hne : ∀ {b o}, s₁.heap.get? b = some o → b ≠ tabA → (hideAll s₁.heap [tabA]).get? b = some o := fun e q => hideAll_get _ e fun m => q (List.mem_singleton.mp m)
  have S : SR w.params ⟨hideAll s₁.heap [tabA], []⟩ (hideAll s₁.heap [tabA]).get? (fun _ => 0) [] s₁.heap :=
    { base := fun _ _ e => e
      fz := fun _ _ e => of_hideAll _ e
      own := fun k ao e => by simp at e
      off := fun k e => absurd e (Nat.not_lt_zero _)
      inj := fun j k e => absurd e (Nat.not_lt_zero _)
      tab := ⟨⟨#[], trivial⟩, h86⟩
      taboff := ⟨hideAll_none _ (.head _), fun k e => absurd e (Nat.not_lt_zero _)⟩
      g3 := by
        obtain ⟨o, es, ep, e1, _⟩ := G
        exact ⟨o, hne e1 (by decide)⟩
      hi := fun k e => absurd e (Nat.not_lt_zero _)
      frs := fun v hv => nomatch hv }
  have R : Room ⟨hideAll s₁.heap [tabA], []⟩ (100 + 2 + 1) callerA := ⟨rfl, by decide, by decide, rfl⟩
  rw [ofPy] at W
  cases W with
  | list h1 h2 =>
    rename_i vs
    have hlt : l ≠ tabA := fun q => by rw [q, h86] at h1; cases h1
    have rs : VRs w.params (hideAll s₁.heap [tabA]).get? (fun _ => 0) ([] : Sto).length [.ref l] [.list (ns.map AV.int)] := .cons (.list (k := 0) (hne h1 hlt) (vrs_of_well h2)) .nil
    let k : Mine.K [] := ⟨w, ⟨hideAll s₁.heap [tabA], []⟩, _, fun _ => 0, s₁, hB, S⟩
    refine (law_true hr).2 k R rs fun x v r => ?_
    refine ⟨r.bool_el (C := fun v => v = .bool true) rfl, ⟨fun b o e => ?_, fun b o e => ?_⟩, x.d.1, x.d.2 (.of_eq hg)⟩
    · by_cases hb : b = tabA
      · subst hb
        rw [h86] at e; cases e
        obtain ⟨ps, hp⟩ := x.S.tab
        exact .inr (.inl ⟨((codeHd_of_K X B.cd).tab h86).isCodeTable, rfl, #[], ps.1, rfl, by rw [Array.empty_append]; exact hp⟩)
      · exact .inl (x.S.fz _ _ (x.S.base _ _ (hne e hb)))
    · by_cases hb : b = tabA
      · subst hb
        obtain ⟨ps, hp⟩ := x.S.tab
        exact ⟨_, hp⟩
      · exact ⟨o, x.S.fz _ _ (x.S.base _ _ (hne e hb))⟩
end
end

noncomputable section
set_option tactic.hygienic true
set_option hygiene true
open PySem PySem.W PyProof.Rows
set_option maxRecDepth 100000 in
set_option maxHeartbeats 4000000 in
theorem final : PySem.Challenge.rw_qw0055_01.Holds := by
  refine holds_law Mine.said fun hs => ?_
  obtain ⟨d, kwd, e1, e2, e3, e4⟩ := Mine.def_all
  refine holds_open (d := d) (kwd := kwd) (r := Mine.rowV) (q := Mine.qV) (loose := Mine.looseV) (Xt := Mine.xtV) (XP := XL Mine.qV []) (Yf := Mine.seenS) (Ya := fun _ => Mine.wantS) (YP := Mine.saysS) (N := 5686) ?hl Mine.says_of Mine.says_keeps
    (fun s e => xl_of s (Bool.and_eq_true_iff.mp e).1) XL.keeps e1 e2 e3 (fun s e => recFacts_of (Bool.and_eq_true_iff.mp e).2) (by rfl) hs Mine.okV Mine.bareV ?hw ?hc
  case hl => with_reducible exact Mine.left_row
  case hw => w_witness2
  case hc =>
    intro w s₀ s₁ mg mb G Y fa o pm cd doc dV kV ho hd hcd hD hmg hg args vals as hpre hlay hrd hwl hlo
    obtain ⟨K, B, KX, h86⟩ := Y
    refine Ground.open G ?_
    intro T _ _ _ _
    rw [e4] at hmg
    have hk := mg_of KX T.g B.ex.2.2.2
    have hk2 := hmg.symm.trans hk
    have hfa : fa = 271 := PySem.Value.ref.inj (Option.some.inj hk2)
    subst hfa
    have TG := T.g
    have TB := T.b
    have TN := T.nolimit
    have TX := T.builtins
    have TM := T.bmain
    clear ho hd hcd hD hmg e1 e2 e3 e4 hs G T
    wrow_args hpre hlay hrd hwl hlo
    rename Well _ _ _ _ => W
    rename (¬ _ < _) => hlen
    refine wpAny_mono (Mine.law_walk B KX h86 TG TB TN TX TM hg W (by omega)) (fun v s' p => ?_) fun _ _ x => x.elim
    obtain ⟨rfl, p1, p2, p3⟩ := p
    refine ⟨.inl ⟨.bool true, .bool true, [], rfl, raisesW_false (by wrow_none_raised), .bool true, ?_, fun _ => ⟨List.nodup_nil, fun a h => nomatch h⟩⟩, p1, p2, p3⟩
    wrow_post
end

end Mine

theorem PySem.Challenge.cw_qw0055_01_holds : PySem.Challenge.rw_qw0055_01.Holds :=
  Mine.final
