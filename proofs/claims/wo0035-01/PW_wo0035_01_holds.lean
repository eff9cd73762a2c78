import PyProof.Rows.All
import Wide.All
import OpenK.AllK
import Wide.FinOn
import KE.KBits
import KE.IntBitsLaws
import KE.KRevSl
import PySem.Challenge.RW_wo0035_01
open PySem PySem.W PySem.Calls PyProof.Rows
set_option Elab.async false
set_option maxRecDepth 100000
set_option linter.unusedVariables false
set_option linter.unusedSectionVars false
set_option linter.unusedSimpArgs false
set_option maxHeartbeats 8000000
namespace Mine
local macro_rules | `(tactic| omega) => `(tactic| first | lia | omega +splitDisjunctions)
theorem and3 {p0 p1 p2 p : Prop} (h : p0 ∧ p1 ∧ p2) (k : p0 → p1 → p2 → p) : p := k h.1 h.2.1 h.2.2
theorem and4 {p0 p1 p2 p3 p : Prop} (h : p0 ∧ p1 ∧ p2 ∧ p3) (k : p0 → p1 → p2 → p3 → p) : p := and3 h.2 (k h.1)
theorem and5 {p0 p1 p2 p3 p4 p : Prop} (h : p0 ∧ p1 ∧ p2 ∧ p3 ∧ p4) (k : p0 → p1 → p2 → p3 → p4 → p) : p := and4 h.2 (k h.1)
theorem and6 {p0 p1 p2 p3 p4 p5 p : Prop} (h : p0 ∧ p1 ∧ p2 ∧ p3 ∧ p4 ∧ p5) (k : p0 → p1 → p2 → p3 → p4 → p5 → p) : p := and5 h.2 (k h.1)
theorem and7 {p0 p1 p2 p3 p4 p5 p6 p : Prop} (h : p0 ∧ p1 ∧ p2 ∧ p3 ∧ p4 ∧ p5 ∧ p6) (k : p0 → p1 → p2 → p3 → p4 → p5 → p6 → p) : p := and6 h.2 (k h.1)
theorem and8 {p0 p1 p2 p3 p4 p5 p6 p7 p : Prop} (h : p0 ∧ p1 ∧ p2 ∧ p3 ∧ p4 ∧ p5 ∧ p6 ∧ p7) (k : p0 → p1 → p2 → p3 → p4 → p5 → p6 → p7 → p) : p := and7 h.2 (k h.1)
theorem and9 {p0 p1 p2 p3 p4 p5 p6 p7 p8 p : Prop} (h : p0 ∧ p1 ∧ p2 ∧ p3 ∧ p4 ∧ p5 ∧ p6 ∧ p7 ∧ p8) (k : p0 → p1 → p2 → p3 → p4 → p5 → p6 → p7 → p8 → p) : p := and8 h.2 (k h.1)
theorem and10 {p0 p1 p2 p3 p4 p5 p6 p7 p8 p9 p : Prop} (h : p0 ∧ p1 ∧ p2 ∧ p3 ∧ p4 ∧ p5 ∧ p6 ∧ p7 ∧ p8 ∧ p9) (k : p0 → p1 → p2 → p3 → p4 → p5 → p6 → p7 → p8 → p9 → p) : p := and9 h.2 (k h.1)
theorem and11 {p0 p1 p2 p3 p4 p5 p6 p7 p8 p9 p10 p : Prop} (h : p0 ∧ p1 ∧ p2 ∧ p3 ∧ p4 ∧ p5 ∧ p6 ∧ p7 ∧ p8 ∧ p9 ∧ p10) (k : p0 → p1 → p2 → p3 → p4 → p5 → p6 → p7 → p8 → p9 → p10 → p) : p := and10 h.2 (k h.1)
theorem and12 {p0 p1 p2 p3 p4 p5 p6 p7 p8 p9 p10 p11 p : Prop} (h : p0 ∧ p1 ∧ p2 ∧ p3 ∧ p4 ∧ p5 ∧ p6 ∧ p7 ∧ p8 ∧ p9 ∧ p10 ∧ p11) (k : p0 → p1 → p2 → p3 → p4 → p5 → p6 → p7 → p8 → p9 → p10 → p11 → p) : p := and11 h.2 (k h.1)
theorem and13 {p0 p1 p2 p3 p4 p5 p6 p7 p8 p9 p10 p11 p12 p : Prop} (h : p0 ∧ p1 ∧ p2 ∧ p3 ∧ p4 ∧ p5 ∧ p6 ∧ p7 ∧ p8 ∧ p9 ∧ p10 ∧ p11 ∧ p12) (k : p0 → p1 → p2 → p3 → p4 → p5 → p6 → p7 → p8 → p9 → p10 → p11 → p12 → p) : p := and12 h.2 (k h.1)
local macro_rules
  | `(tactic| rintro $ps*) => do
    let tup (p : Lean.Syntax) : Option (Array Lean.Syntax) := do
      let mut q := p
      for _ in [0:10] do
        if q.isOfKind `Lean.Parser.Tactic.rcasesPat.tuple then break
        let cs := q.getArgs.filter fun c => c.isIdent || c.isAtom || c.getNumArgs > 0
        if cs.size == 1 then q := cs[0]!
      if q.isOfKind `Lean.Parser.Tactic.rcasesPat.tuple then some (q.getArg 1).getSepArgs else none
    for i in [0:ps.size] do
      match tup ps[i]!.raw with
      | some qs =>
        if qs.size < 3 || qs.size > 24 then continue
        let qs : Lean.TSyntaxArray `Lean.Parser.Tactic.rcasesPatLo := qs.map fun x => ⟨x⟩
        let y ← `(rintroPat| hyp)
        let before := (ps.extract 0 i).push y
        let after := ps.extract (i + 1) ps.size
        if after.isEmpty then return (← `(tactic| (rintro $before*; obtain ⟨$qs,*⟩ := hyp)))
        else return (← `(tactic| (rintro $before*; obtain ⟨$qs,*⟩ := hyp; rintro $after*)))
      | none => pure ()
    Lean.Macro.throwUnsupported
local macro_rules
  | `(tactic| obtain ⟨$ps,*⟩ := $e) => do
    let ps := ps.getElems
    if ps.size < 3 || ps.size > 24 then Lean.Macro.throwUnsupported
    let leaf (p : Lean.Syntax) : Option Lean.Syntax := do
      let mut q := p
      for _ in [0:8] do
        if q.isIdent then break
        let cs := q.getArgs.filter fun c => c.isIdent || c.isAtom || c.getNumArgs > 0
        if cs.size == 1 then q := cs[0]!
      if q.isIdent && q.getId != `rfl then some q else none
    let mut xs : Array Lean.Term := #[]
    let mut post : Array (Lean.TSyntax `tactic) := #[]
    let mut k := 0
    for p in ps do
      match leaf p.raw with
      | some x => xs := xs.push ⟨x⟩
      | none =>
        let y := Lean.mkIdent (Lean.Name.mkSimple s!"ob{k}")
        xs := xs.push y
        post := post.push (← `(tactic| rcases $y:term with $p:rcasesPatLo))
      k := k + 1
    let lem := Lean.mkIdent (`Mine ++ Lean.Name.mkSimple s!"and{ps.size}")
    let x0 := xs[0]!
    let rest := ps.extract 1 ps.size
    let cl ← match e with
      | `(term| $x:ident) => `(tactic| try clear $x)
      | _ => `(tactic| skip)
    post := post.push (← `(tactic| skip))
    match leaf ps[0]!.raw with
    | some _ =>
      `(tactic| first | (refine $lem $e fun $xs* => ?_; $cl; $[$post];*) | (refine Exists.elim $e fun $x0 hh => ?_; $cl; obtain ⟨$rest,*⟩ := hh) | rcases $e:term with ⟨$ps,*⟩)
    | none =>
      `(tactic| first | (refine $lem $e fun $xs* => ?_; $cl; $[$post];*) | rcases $e:term with ⟨$ps,*⟩)

/-- abstract values -/
inductive V where
  | none | bool (b : Bool) | int (i : Int) | str (s : Str) | bytes (b : Array UInt8)
  | tup (xs : List V) | ref (a : Addr) | typ (n : String) | bi (id : String)

/-- abstract heap objects -/
inductive HO where
  | lst (xs : List V)
  | cell (v : Option V)
  | raw (o : Obj)
  | dct (kvs : List (Str × V))
  | rng (a b c : Int)

abbrev Led := List (Addr × Obj)
abbrev Hp := Addr → Option HO
abbrev Loc := List (Str × V)

structure St where
  loc : Loc
  hp : Hp

def lk : Loc → Str → Option V
  | [], _ => none
  | (y, v) :: r, x => if x = y then some v else lk r x
theorem mem_of_lk : ∀ {l : Loc} {x : Str} {v : V}, lk l x = some v → (x, v) ∈ l
  | (y, u) :: r, x, v, h => by
    unfold lk at h
    split at h
    · rename_i e; subst e; cases h; exact .head _
    · exact .tail _ (mem_of_lk h)

abbrev tupO (vs : List Value) (n : Nat) : Obj := { cls := .type "tuple", data := .seq vs.toArray n }
abbrev lstO (vs : List Value) (n : Nat) : Obj := { cls := .type "list", data := .seq vs.toArray n }

mutual
inductive Rep (W : Led) : V → Value → Prop
  | none : Rep W .none .none
  | bool (b : Bool) : Rep W (.bool b) (.bool b)
  | int (i : Int) (t : Tok) : Rep W (.int i) (.int i t)
  | str (s : Str) (t : Tok) : Rep W (.str s) (.str s t)
  | bytes (b : Array UInt8) (t : Tok) : Rep W (.bytes b) (.bytes b t)
  | ref (a : Addr) : Rep W (.ref a) (.ref a)
  | typ (n : String) : Rep W (.typ n) (.type n)
  | bi (n : String) : Rep W (.bi n) (.builtin n)
  | tup {xs : List V} {vs : List Value} {a : Addr} {n : Nat} : (a, tupO vs n) ∈ W → Reps W xs vs → Rep W (.tup xs) (.ref a)
inductive Reps (W : Led) : List V → List Value → Prop
  | nil : Reps W [] []
  | cons {x : V} {v : Value} {xs : List V} {vs : List Value} : Rep W x v → Reps W xs vs → Reps W (x :: xs) (v :: vs)
end
@[elab_as_elim] theorem Rep.eInt {W : Led} {i : Int} {motive : Value → Prop} {u : Value} (h : Rep W (.int i) u) (k : ∀ t, motive (.int i t)) : motive u := by cases h; exact k _
@[elab_as_elim] theorem Rep.eStr {W : Led} {i : Str} {motive : Value → Prop} {u : Value} (h : Rep W (.str i) u) (k : ∀ t, motive (.str i t)) : motive u := by cases h; exact k _
@[elab_as_elim] theorem Rep.eBytes {W : Led} {i : Array UInt8} {motive : Value → Prop} {u : Value} (h : Rep W (.bytes i) u) (k : ∀ t, motive (.bytes i t)) : motive u := by cases h; exact k _
@[elab_as_elim] theorem Rep.eRef {W : Led} {i : Addr} {motive : Value → Prop} {u : Value} (h : Rep W (.ref i) u) (k : motive (.ref i)) : motive u := by cases h; exact k
@[elab_as_elim] theorem Rep.eBool {W : Led} {i : Bool} {motive : Value → Prop} {u : Value} (h : Rep W (.bool i) u) (k : motive (.bool i)) : motive u := by cases h; exact k
@[elab_as_elim] theorem Rep.eNone {W : Led} {motive : Value → Prop} {u : Value} (h : Rep W .none u) (k : motive .none) : motive u := by cases h; exact k
@[elab_as_elim] theorem Rep.eTyp {W : Led} {i : String} {motive : Value → Prop} {u : Value} (h : Rep W (.typ i) u) (k : motive (.type i)) : motive u := by cases h; exact k
@[elab_as_elim] theorem Rep.eBi {W : Led} {i : String} {motive : Value → Prop} {u : Value} (h : Rep W (.bi i) u) (k : motive (.builtin i)) : motive u := by cases h; exact k
@[elab_as_elim] theorem Reps.eNil {W : Led} {motive : List Value → Prop} {us : List Value} (h : Reps W [] us) (k : motive []) : motive us := by cases h; exact k
@[elab_as_elim] theorem Reps.eCons {W : Led} {x : V} {xs : List V} {motive : List Value → Prop} {us : List Value} (h : Reps W (x :: xs) us) (k : ∀ v vs, Rep W x v → Reps W xs vs → motive (v :: vs)) : motive us := by
  cases h with
  | cons h1 h2 => exact k _ _ h1 h2

theorem Rep.mono {W W' : Led} (hw : ∀ p ∈ W, p ∈ W') {x : V} {v : Value} (h : Rep W x v) : Rep W' x v :=
  Rep.rec (motive_1 := fun x v _ => Rep W' x v) (motive_2 := fun xs vs _ => Reps W' xs vs) .none .bool .int .str .bytes .ref .typ .bi (fun hm _ ih => .tup (hw _ hm) ih) .nil (fun _ _ a b => .cons a b) h
theorem Reps.mono {W W' : Led} (hw : ∀ p ∈ W, p ∈ W') {xs : List V} {vs : List Value} (h : Reps W xs vs) : Reps W' xs vs :=
  Reps.rec (motive_1 := fun x v _ => Rep W' x v) (motive_2 := fun xs vs _ => Reps W' xs vs) .none .bool .int .str .bytes .ref .typ .bi (fun hm _ ih => .tup (hw _ hm) ih) .nil (fun _ _ a b => .cons a b) h
theorem Reps.length {W : Led} {xs : List V} {vs : List Value} (h : Reps W xs vs) : vs.length = xs.length := by
  induction xs generalizing vs with
  | nil => exact Reps.eNil h rfl
  | cons x xs ih => exact Reps.eCons h fun _ _ _ r => congrArg (· + 1) (ih r)
theorem Reps.append {W : Led} {xs ys : List V} {vs us : List Value} (h : Reps W xs vs) (h' : Reps W ys us) : Reps W (xs ++ ys) (vs ++ us) := by
  induction xs generalizing vs with
  | nil => exact Reps.eNil h h'
  | cons x xs ih => exact Reps.eCons h fun _ _ a r => .cons a (ih r)
theorem Reps.get {W : Led} {xs : List V} {vs : List Value} (h : Reps W xs vs) (i : Nat) (x : V) (e : xs[i]? = some x) : ∃ v, vs[i]? = some v ∧ Rep W x v := by
  induction xs generalizing vs i with
  | nil => cases e
  | cons y xs ih =>
    refine Reps.eCons h fun v vs a r => ?_
    cases i with
    | zero => exact ⟨v, rfl, by rw [← Option.some.inj e]; exact a⟩
    | succ i => exact ih r i e
theorem Reps.set {W : Led} {xs : List V} {vs : List Value} (i : Nat) {x : V} {v : Value} (h : Reps W xs vs) (r : Rep W x v) : Reps W (xs.set i x) (vs.set i v) := by
  induction xs generalizing vs i with
  | nil => exact Reps.eNil h .nil
  | cons y xs ih =>
    refine Reps.eCons h fun u vs a rs => ?_
    cases i with
    | zero => exact .cons r rs
    | succ i => exact .cons a (ih i rs)
theorem Reps.drop {W : Led} {xs : List V} {vs : List Value} (i : Nat) (h : Reps W xs vs) : Reps W (xs.drop i) (vs.drop i) := by
  induction xs generalizing vs i with
  | nil => rw [List.drop_nil]; exact Reps.eNil h (by rw [List.drop_nil]; exact .nil)
  | cons y xs ih =>
    cases i with
    | zero => exact h
    | succ i => exact Reps.eCons h fun u vs a rs => ih i rs
theorem Reps.reverse {W : Led} {xs : List V} {vs : List Value} (h : Reps W xs vs) : Reps W xs.reverse vs.reverse := by
  suffices ∀ {xs : List V} {vs : List Value} {ys : List V} {us : List Value}, Reps W xs vs → Reps W ys us → Reps W (xs.reverse ++ ys) (vs.reverse ++ us) by
    simpa using this h .nil
  intro xs vs ys us h
  induction xs generalizing vs ys us with
  | nil => intro h'; cases h; simpa using h'
  | cons x xs ih =>
    cases h with
    | cons a r =>
      intro h'
      have := ih r (ys := x :: ys) (us := _ :: us) (.cons a h')
      simpa [List.append_assoc] using this
theorem Reps.replicate {W : Led} {x : V} {v : Value} (h : Rep W x v) : ∀ n : Nat, Reps W (List.replicate n x) (List.replicate n v)
  | 0 => .nil
  | n + 1 => .cons h (Reps.replicate h n)

/-- what an object of the heap shows -/
def RepH (W : Led) : HO → Obj → Prop
  | .lst xs, o => ∃ vs n, o = lstO vs n ∧ Reps W xs vs
  | .cell v, o => ∃ u, o.data = .cell u ∧ (match v with | none => u = none | some x => ∃ y, u = some y ∧ Rep W x y)
  | .raw o', o => o = o'
  | .rng a b c, o => ∃ t u v, o = { cls := .type "range", dict := none, data := .fields #[.int a t, .int b u, .int c v], slots := #[] }
  | .dct kvs, o => ∃ es n, o = { cls := .type "dict", data := .dict es n } ∧ List.map (fun e => e.1) kvs = (es.toList.map fun e => match e.key with | .str k _ => k | _ => Str.empty) ∧
      (∀ e ∈ es.toList, ∃ k t, e.key = .str k t) ∧ Reps W (kvs.map (·.2)) (es.toList.map (·.val))

theorem RepH.mono {W W' : Led} (hw : ∀ p ∈ W, p ∈ W') {x : HO} {o : Obj} (h : RepH W x o) : RepH W' x o := by
  cases x with
  | lst xs => obtain ⟨vs, n, e, r⟩ := h; exact ⟨vs, n, e, r.mono hw⟩
  | cell v =>
    obtain ⟨u, e, r⟩ := h
    refine ⟨u, e, ?_⟩
    cases v with
    | none => exact r
    | some x => obtain ⟨y, e, r⟩ := r; exact ⟨y, e, r.mono hw⟩
  | raw o' => exact h
  | rng a b c => exact h
  | dct kvs => obtain ⟨es, n, e, a, b, r⟩ := h; exact ⟨es, n, e, a, b, r.mono hw⟩

/-- the program's surroundings -/
structure GE where
  prog : Program
  w : World
  mg : Str → Option Value
  mb : Str → Option Value

def defOf (p : Program) (f : Str) : Option (Arguments × List Stmt × Scope) :=
  p.main.body.findSome? fun st => match st with
    | .FunctionDef n a b _ _ _ sc _ _ _ => if n = f then some (a, b, sc) else none
    | _ => none

def biNames : List Str := ["len", "list", "range", "divmod", "reversed", "sorted", "max", "sum", "bytes", "set", "IndexError"]

/-- the defs of the top that hold a def: code record and its table -/
def nestTab : List (Str × Addr × Addr) := [("_int2digits", 34, 30), ("_digits2int", 41, 37)]

structure TopOk (G : GE) (h : Heap) : Prop where
  nest : ∀ f ps bd sc c P, nestTab.lookup f = some (c, P) → defOf G.prog f = some (ps, bd, sc) → CodeHd h c P ∧ ∃ a o pm doc, G.mg f = some (.ref a) ∧ h.get? a = some o ∧ o.data = .func (docDef f ps bd sc pm (.ref c) doc) ∧ h.CodeRec (.ref c) f
  lib : ∃ p loose mean, Top p loose mean G.mg G.mb h
  g : h.Ns mainGlobals G.mg
  b : h.Ns builtinsNs G.mb
  nolimit : h.NoLimit
  builtins : ∀ x : Str, x ≠ "__name__" → G.mb x = bootBuiltins x
  fn : ∀ f ps bd sc, defOf G.prog f = some (ps, bd, sc) → ∃ a o pm cd doc, G.mg f = some (.ref a) ∧ h.get? a = some o ∧ o.data = .func (docDef f ps bd sc pm cd doc) ∧ h.CodeRec cd f
  free : ∀ x ∈ biNames, G.mg x = none

theorem TopOk.keeps {G : GE} {h h' : Heap} (T : TopOk G h) (hk : ∀ b o, h.get? b = some o → h'.get? b = some o) : TopOk G h' where
  nest := fun f ps bd sc c P hn hd => let ⟨h0, a, o, pm, doc, h1, h2, h3, h4⟩ := T.nest f ps bd sc c P hn hd; ⟨h0.keeps hk, a, o, pm, doc, h1, hk _ _ h2, h3, h4.keeps hk⟩
  lib := let ⟨p, l, m, T⟩ := T.lib; ⟨p, l, m, T.keeps hk⟩
  g := T.g.keeps hk
  b := T.b.keeps hk
  nolimit := T.nolimit.keeps hk
  builtins := T.builtins
  fn := fun f ps bd sc hd => let ⟨a, o, pm, cd, doc, h1, h2, h3, h4⟩ := T.fn f ps bd sc hd; ⟨a, o, pm, cd, doc, h1, hk _ _ h2, h3, h4.keeps hk⟩
  free := T.free

/-- one activation: of a def, or of a comprehension within one -/
structure Act (sc : Scope) where
  A : Around
  g : Heap
  base : Heap
  outer : List Env
  fenv : Env
  FL : Addr
  L : Addr
  qual : Str
  func : Option Addr
  cd : Value
  cl : List (Str × Addr)
  kw : Led
  fz : Option ((Str → Option Value) × Led)

@[reducible] def Act.env {sc : Scope} (C : Act sc) : Env :=
  { scope := sc, locals := C.L, globals := mainGlobals, cells := C.cl, qual := C.qual, func := C.func, code := C.cd, frame := some C.FL, builtins := builtinsNs }

structure Act.Ok (G : GE) {sc : Scope} (C : Act sc) : Prop where
  frames : C.A.frames = some (C.fenv :: C.outer)
  fframe : C.fenv.frame = some C.FL
  fkind : C.fenv.scope.kind = .function
  kind : sc.kind = .function
  below : ∃ A₀, Below A₀ C.base C.outer C.g
  handled : C.A.handled = none
  top : TopOk G C.g
  depth : C.A.depth ≤ 600
  units : C.A.units ≤ 6000

/-- what a name holds -/
def Val {sc : Scope} (C : Act sc) (W Cc : Led) (ml : Str → Option Value) (x : Str) (v : V) : Prop :=
  (sc.names.lookup x = some .local → ∃ u, ml x = some u ∧ Rep W v u) ∧
  (sc.names.lookup x = some .cell → ∃ c ob u, C.cl.lookup x = some c ∧ (c, ob) ∈ Cc ∧ ob.data = .cell (some u) ∧ Rep W v u)
theorem Val.mono {sc : Scope} {C : Act sc} {W W' Cc : Led} {ml : Str → Option Value} {x : Str} {v : V} (hw : ∀ p ∈ W, p ∈ W') (h : Val C W Cc ml x v) : Val C W' Cc ml x v :=
  ⟨fun k => let ⟨u, e, r⟩ := h.1 k; ⟨u, e, r.mono hw⟩, fun k => let ⟨c, ob, u, e1, e2, e3, r⟩ := h.2 k; ⟨c, ob, u, e1, e2, e3, r.mono hw⟩⟩

structure RelX {sc : Scope} (C : Act sc) (P W : Led) (σ : St) (h : Heap) (mf ml : Str → Option Value) (D Cc : Led) : Prop where
  F : Fr C.g C.FL h mf
  ns : h.Ns C.L ml
  N : News C.g C.FL h ((D ++ Cc) ++ (P ++ W))
  nd : ((D ++ Cc).map (·.1)).Nodup
  ap : ∀ p ∈ D ++ Cc, ∀ q ∈ P ++ W, p.1 ≠ q.1
  pw : ∀ p ∈ P, ∀ q ∈ W, p.1 ≠ q.1
  pnd : (P.map (·.1)).Nodup
  kw : ∀ p ∈ C.kw, p ∈ W
  isc : ∀ p ∈ Cc, ∃ u, p.2.data = .cell u
  fix : ∀ z, C.fz = some z → mf = z.1 ∧ Cc = z.2
  left : C.L = C.FL → C.fz = none
  own : C.L = C.FL ∨ (C.L ≠ C.FL ∧ C.g.get? C.L = none ∧ ∀ p ∈ (D ++ Cc) ++ (P ++ W), p.1 ≠ C.L)
  cells : ∀ x c, sc.names.lookup x = some .cell → C.cl.lookup x = some c → ∃ ob u, (c, ob) ∈ Cc ∧ ob.data = .cell u
  inj : ∀ x y c, sc.names.lookup x = some .cell → sc.names.lookup y = some .cell → C.cl.lookup x = some c → C.cl.lookup y = some c → x = y
  loc : ∀ x v, lk σ.loc x = some v → Val C W Cc ml x v
  hp : ∀ a o, σ.hp a = some o → ∃ ob, (a, ob) ∈ D ∧ RepH W o ob

inductive Rel {sc : Scope} (C : Act sc) (P W : Led) (σ : St) (h : Heap) : Prop
  | mk (mf ml : Str → Option Value) (D Cc : Led) (R : RelX C P W σ h mf ml D Cc) : Rel C P W σ h

inductive Post {sc : Scope} (C : Act sc) (P W : Led) (s : Shared) (Q : V → St → Prop) (u : Value) (s' : Shared) : Prop
  | mk (v : V) (σ' : St) (W' : Led) (h : Heap) (tk : Nat) (e : s' = { s with heap := h, toks := tk }) (w : ∀ p ∈ W, p ∈ W') (r : Rep W' v u) (R : Rel C P W' σ' h) (q : Q v σ') : Post C P W s Q u s'

inductive PostB {sc : Scope} (C : Act sc) (P W : Led) (s : Shared) (Q : Bool → St → Prop) (b : Bool) (s' : Shared) : Prop
  | mk (σ' : St) (W' : Led) (h : Heap) (tk : Nat) (e : s' = { s with heap := h, toks := tk }) (w : ∀ p ∈ W, p ∈ W') (R : Rel C P W' σ' h) (q : Q b σ') : PostB C P W s Q b s'

inductive PostU {sc : Scope} (C : Act sc) (P W : Led) (s : Shared) (Q : St → Prop) (u : Unit) (s' : Shared) : Prop
  | mk (σ' : St) (W' : Led) (h : Heap) (tk : Nat) (e : s' = { s with heap := h, toks := tk }) (w : ∀ p ∈ W, p ∈ W') (R : Rel C P W' σ' h) (q : Q σ') : PostU C P W s Q u s'

inductive PostL {sc : Scope} (C : Act sc) (P W : Led) (s : Shared) (Q : List V → St → Prop) (us : List Value) (s' : Shared) : Prop
  | mk (vs : List V) (σ' : St) (W' : Led) (h : Heap) (tk : Nat) (e : s' = { s with heap := h, toks := tk }) (w : ∀ p ∈ W, p ∈ W') (r : Reps W' vs us) (R : Rel C P W' σ' h) (q : Q vs σ') : PostL C P W s Q us s'

inductive Fl where
  | next | brk | cont | ret (v : V)

def RepF (W : Led) : Fl → Flow → Prop
  | .next, .next => True
  | .brk, .brk => True
  | .cont, .cont => True
  | .ret v, .ret u => Rep W v u
  | _, _ => False

inductive PostS {sc : Scope} (C : Act sc) (P W : Led) (s : Shared) (Q : Fl → St → Prop) (f : Flow) (s' : Shared) : Prop
  | mk (fl : Fl) (σ' : St) (W' : Led) (h : Heap) (tk : Nat) (e : s' = { s with heap := h, toks := tk }) (w : ∀ p ∈ W, p ∈ W') (r : RepF W' fl f) (R : Rel C P W' σ' h) (q : Q fl σ') : PostS C P W s Q f s'

abbrev NoE : Value → Shared → Prop := fun _ _ => False

section
variable (G : GE) {sc : Scope} (C : Act sc)
/-- an expression's tree -/
def Ev (t : Sem Value) (σ : St) (Q : V → St → Prop) : Prop :=
  ∀ P W s, Rel C P W σ s.heap → wpAny (model G.prog G.w) C.A t (Post C P W s Q) NoE s
def Bx (t : Sem Bool) (σ : St) (Q : Bool → St → Prop) : Prop :=
  ∀ P W s, Rel C P W σ s.heap → wpAny (model G.prog G.w) C.A t (PostB C P W s Q) NoE s
def Sx (t : Sem Flow) (σ : St) (Q : Fl → St → Prop) : Prop :=
  ∀ P W s, Rel C P W σ s.heap → wpAny (model G.prog G.w) C.A t (PostS C P W s Q) NoE s
def Ls (t : Sem (List Value)) (σ : St) (Q : List V → St → Prop) : Prop :=
  ∀ P W s, Rel C P W σ s.heap → wpAny (model G.prog G.w) C.A t (PostL C P W s Q) NoE s
/-- a tree that takes a value, two, three, a list -/
def F1 (f : Value → Sem Value) (x : V) (σ : St) (Q : V → St → Prop) : Prop :=
  ∀ P W s u, Rel C P W σ s.heap → Rep W x u → wpAny (model G.prog G.w) C.A (f u) (Post C P W s Q) NoE s
def F2 (f : Value → Value → Sem Value) (x y : V) (σ : St) (Q : V → St → Prop) : Prop :=
  ∀ P W s u v, Rel C P W σ s.heap → Rep W x u → Rep W y v → wpAny (model G.prog G.w) C.A (f u v) (Post C P W s Q) NoE s
def FL (f : List Value → Sem Value) (xs : List V) (σ : St) (Q : V → St → Prop) : Prop :=
  ∀ P W s us, Rel C P W σ s.heap → Reps W xs us → wpAny (model G.prog G.w) C.A (f us) (Post C P W s Q) NoE s
def B1 (f : Value → Sem Bool) (x : V) (σ : St) (Q : Bool → St → Prop) : Prop :=
  ∀ P W s u, Rel C P W σ s.heap → Rep W x u → wpAny (model G.prog G.w) C.A (f u) (PostB C P W s Q) NoE s
def U1 (f : Value → Sem Unit) (x : V) (σ : St) (Q : St → Prop) : Prop :=
  ∀ P W s u, Rel C P W σ s.heap → Rep W x u → wpAny (model G.prog G.w) C.A (f u) (PostU C P W s Q) NoE s
end

/-! ## going on -/
section
variable {G : GE} {sc : Scope} {C : Act sc} {P W W' : Led} {s : Shared} {h : Heap} {tk : Nat}

theorem Post.trans {Q : V → St → Prop} {u : Value} {s' : Shared} (hw : ∀ p ∈ W, p ∈ W') (H : Post C P W' { s with heap := h, toks := tk } Q u s') : Post C P W s Q u s' := by
  obtain ⟨v, σ', W₂, h₂, tk₂, rfl, hw₂, r, R, q⟩ := H
  exact ⟨v, σ', W₂, h₂, tk₂, rfl, fun p hp => hw₂ p (hw p hp), r, R, q⟩
theorem PostB.trans {Q : Bool → St → Prop} {u : Bool} {s' : Shared} (hw : ∀ p ∈ W, p ∈ W') (H : PostB C P W' { s with heap := h, toks := tk } Q u s') : PostB C P W s Q u s' := by
  obtain ⟨σ', W₂, h₂, tk₂, rfl, hw₂, R, q⟩ := H
  exact ⟨σ', W₂, h₂, tk₂, rfl, fun p hp => hw₂ p (hw p hp), R, q⟩
theorem PostS.trans {Q : Fl → St → Prop} {u : Flow} {s' : Shared} (hw : ∀ p ∈ W, p ∈ W') (H : PostS C P W' { s with heap := h, toks := tk } Q u s') : PostS C P W s Q u s' := by
  obtain ⟨v, σ', W₂, h₂, tk₂, rfl, hw₂, r, R, q⟩ := H
  exact ⟨v, σ', W₂, h₂, tk₂, rfl, fun p hp => hw₂ p (hw p hp), r, R, q⟩

/-- the end of a step: the state's ledger, seen anew -/
theorem Post.here {Q : V → St → Prop} {v : V} {u : Value} {σ : St} (R : Rel C P W σ h) (r : Rep W v u) (q : Q v σ) : Post C P W s Q u { s with heap := h, toks := tk } :=
  ⟨v, σ, W, h, tk, rfl, fun _ hp => hp, r, R, q⟩
theorem Post.here' {Q : V → St → Prop} {v : V} {u : Value} {σ : St} (R : Rel C P W σ s.heap) (r : Rep W v u) (q : Q v σ) : Post C P W s Q u s :=
  ⟨v, σ, W, s.heap, s.toks, rfl, fun _ hp => hp, r, R, q⟩
theorem PostB.here' {Q : Bool → St → Prop} {b : Bool} {σ : St} (R : Rel C P W σ s.heap) (q : Q b σ) : PostB C P W s Q b s :=
  ⟨σ, W, s.heap, s.toks, rfl, fun _ hp => hp, R, q⟩

theorem Ev.mono {t : Sem Value} {σ : St} {Q Q' : V → St → Prop} (H : Ev G C t σ Q) (hq : ∀ v σ', Q v σ' → Q' v σ') : Ev G C t σ Q' :=
  fun P W s R => wpAny_mono (H P W s R) (fun _ _ ⟨v, σ', W', h, tk, e, w, r, R', q⟩ => ⟨v, σ', W', h, tk, e, w, r, R', hq _ _ q⟩) fun _ _ x => x
theorem Bx.mono {t : Sem Bool} {σ : St} {Q Q' : Bool → St → Prop} (H : Bx G C t σ Q) (hq : ∀ v σ', Q v σ' → Q' v σ') : Bx G C t σ Q' :=
  fun P W s R => wpAny_mono (H P W s R) (fun _ _ ⟨σ', W', h, tk, e, w, R', q⟩ => ⟨σ', W', h, tk, e, w, R', hq _ _ q⟩) fun _ _ x => x
theorem Sx.mono {t : Sem Flow} {σ : St} {Q Q' : Fl → St → Prop} (H : Sx G C t σ Q) (hq : ∀ v σ', Q v σ' → Q' v σ') : Sx G C t σ Q' :=
  fun P W s R => wpAny_mono (H P W s R) (fun _ _ ⟨v, σ', W', h, tk, e, w, r, R', q⟩ => ⟨v, σ', W', h, tk, e, w, r, R', hq _ _ q⟩) fun _ _ x => x

/-- a tree, then what is wanted of its value -/
theorem wp_seq1 {t : Sem Value} {P W : Led} {s : Shared} {Q : V → St → Prop} {R : Value → Shared → Prop}
    (H : wpAny (model G.prog G.w) C.A t (Post C P W s Q) NoE s)
    (k : ∀ v u σ' W' h tk, (∀ p ∈ W, p ∈ W') → Rep W' v u → Rel C P W' σ' h → Q v σ' → R u { s with heap := h, toks := tk }) :
    wpAny (model G.prog G.w) C.A t R NoE s :=
  wpAny_mono H (fun u s₁ ⟨v, σ', W', h, tk, e, w, r, R', q⟩ => by subst e; exact k v u σ' W' h tk w r R' q) fun _ _ x => x
theorem wp_seqB {t : Sem Bool} {P W : Led} {s : Shared} {Q : Bool → St → Prop} {R : Bool → Shared → Prop}
    (H : wpAny (model G.prog G.w) C.A t (PostB C P W s Q) NoE s)
    (k : ∀ b σ' W' h tk, (∀ p ∈ W, p ∈ W') → Rel C P W' σ' h → Q b σ' → R b { s with heap := h, toks := tk }) :
    wpAny (model G.prog G.w) C.A t R NoE s :=
  wpAny_mono H (fun u s₁ ⟨σ', W', h, tk, e, w, R', q⟩ => by subst e; exact k u σ' W' h tk w R' q) fun _ _ x => x
theorem wp_seqL {t : Sem (List Value)} {P W : Led} {s : Shared} {Q : List V → St → Prop} {R : List Value → Shared → Prop}
    (H : wpAny (model G.prog G.w) C.A t (PostL C P W s Q) NoE s)
    (k : ∀ v u σ' W' h tk, (∀ p ∈ W, p ∈ W') → Reps W' v u → Rel C P W' σ' h → Q v σ' → R u { s with heap := h, toks := tk }) :
    wpAny (model G.prog G.w) C.A t R NoE s :=
  wpAny_mono H (fun u s₁ ⟨v, σ', W', h, tk, e, w, r, R', q⟩ => by subst e; exact k v u σ' W' h tk w r R' q) fun _ _ x => x
theorem wp_seqS {t : Sem Flow} {P W : Led} {s : Shared} {Q : Fl → St → Prop} {R : Flow → Shared → Prop}
    (H : wpAny (model G.prog G.w) C.A t (PostS C P W s Q) NoE s)
    (k : ∀ v u σ' W' h tk, (∀ p ∈ W, p ∈ W') → RepF W' v u → Rel C P W' σ' h → Q v σ' → R u { s with heap := h, toks := tk }) :
    wpAny (model G.prog G.w) C.A t R NoE s :=
  wpAny_mono H (fun u s₁ ⟨v, σ', W', h, tk, e, w, r, R', q⟩ => by subst e; exact k v u σ' W' h tk w r R' q) fun _ _ x => x
end

/-! ## the abstract state -/
def updH (hp : Hp) (a : Addr) (o : HO) : Hp := fun b => if b = a then some o else hp b
abbrev setL (m : Loc) (x : Str) (v : V) : Loc := (x, v) :: m
@[simp] theorem updH_same (hp : Hp) (a : Addr) (o : HO) : updH hp a o a = some o := by simp [updH]
theorem updH_ne {hp : Hp} {a b : Addr} {o : HO} (h : b ≠ a) : updH hp a o b = hp b := by simp [updH, h]
@[simp] theorem setL_same (m : Loc) (x : Str) (v : V) : lk (setL m x v) x = some v := by simp [lk]
theorem setL_ne {m : Loc} {x y : Str} {v : V} (h : y ≠ x) : lk (setL m x v) y = lk m y := by simp [lk, h]

section
variable {sc : Scope} {C : Act sc} {P W : Led} {σ : St} {h : Heap} {x : Str}

/-- less known -/
structure St.le (σ' σ : St) : Prop where
  loc : ∀ x v, lk σ'.loc x = some v → lk σ.loc x = some v
  hp : ∀ a o, σ'.hp a = some o → σ.hp a = some o
theorem St.le.refl (σ : St) : St.le σ σ := ⟨fun _ _ e => e, fun _ _ e => e⟩
theorem loc_le {l' l : Loc} (h : ∀ p ∈ l', lk l p.1 = some p.2) : ∀ x v, lk l' x = some v → lk l x = some v := fun x v e => h _ (mem_of_lk e)
theorem hp_refl {hp : Hp} : ∀ a o, hp a = some o → hp a = some o := fun _ _ e => e
theorem hp_fresh {hp' hp : Hp} {b : Addr} {o : HO} (h : ∀ a o, hp' a = some o → hp a = some o) (hb : hp b = none) : ∀ a o', hp' a = some o' → updH hp b o a = some o' := fun a o' e => by
  have := h a o' e
  by_cases q : a = b
  · subst q; rw [hb] at this; cases this
  · rw [updH_ne q]; exact this
theorem hp_upd {hp' hp : Hp} {b : Addr} {o : HO} (h : ∀ a o, hp' a = some o → hp a = some o) : ∀ a o', updH hp' b o a = some o' → updH hp b o a = some o' := fun a o' e => by
  by_cases q : a = b
  · subst q; rw [updH_same] at e ⊢; exact e
  · rw [updH_ne q] at e ⊢; exact h a o' e
theorem updH_idem (hp : Hp) (a : Addr) (o o' : HO) : updH (updH hp a o) a o' = updH hp a o' := by
  funext b; unfold updH; split <;> rfl
/-- part of the state forgotten -/
theorem Rel.sub {σ' : St} (R : Rel C P W σ h) (hl : ∀ x v, lk σ'.loc x = some v → lk σ.loc x = some v) (hh : ∀ a o, σ'.hp a = some o → σ.hp a = some o) : Rel C P W σ' h := by
  obtain ⟨mf, ml, D, Cc, R⟩ := R
  exact ⟨mf, ml, D, Cc, { R with loc := fun x v e => R.loc x v (hl x v e), hp := fun a o e => R.hp a o (hh a o e) }⟩
theorem Rel.le {σ' : St} (R : Rel C P W σ h) (l : St.le σ' σ) : Rel C P W σ' h := R.sub l.loc l.hp

theorem Ns.push' {h : Heap} {a : Addr} {m : Str → Option Value} (n : h.Ns a m) (o : Obj) : (h.push o).Ns a m := n.keeps fun b ob e => Heap.get?_push_of_some _ e

/-- an object put beside -/
theorem RelX.push {mf ml : Str → Option Value} {D Cc : Led} (R : RelX C P W σ h mf ml D Cc) (o : Obj) : RelX C P W σ (h.push o) mf ml D Cc :=
  { R with F := R.F.push _, ns := Ns.push' R.ns o, N := fun p hp => ⟨Heap.get?_push_of_some _ (R.N p hp).1, (R.N p hp).2⟩ }
theorem RelX.lt {mf ml : Str → Option Value} {D Cc : Led} (R : RelX C P W σ h mf ml D Cc) : ∀ p ∈ (D ++ Cc) ++ (P ++ W), p.1 < h.objs.size := fun p hp => Heap.lt_size (R.N p hp).1
theorem RelX.fresh {mf ml : Str → Option Value} {D Cc : Led} (R : RelX C P W σ h mf ml D Cc) {o : Obj} (hf : o.isFreed = false) :
    (h.push o).get? h.objs.size = some o ∧ h.objs.size ≠ C.FL ∧ C.g.get? h.objs.size = none := by
  have := News.push R.F (news := []) News.nil o hf (h.objs.size, o) (.head _)
  exact this
theorem RelX.newL {mf ml : Str → Option Value} {D Cc : Led} (R : RelX C P W σ h mf ml D Cc) : h.objs.size ≠ C.L := Nat.ne_of_gt R.ns.lt

theorem Rel.tuple (R : Rel C P W σ h) {vs : List Value} {n : Nat} : ∃ W', (∀ p ∈ W, p ∈ W') ∧ (h.objs.size, tupO vs n) ∈ W' ∧ Rel C P W' σ (h.push (tupO vs n)) := by
  obtain ⟨mf, ml, D, Cc, R⟩ := R
  have hw : ∀ p ∈ W, p ∈ (h.objs.size, tupO vs n) :: W := fun _ hp => .tail _ hp
  have R' := R.push (tupO vs n)
  have fr := R.fresh (o := tupO vs n) rfl
  have sp : ∀ p ∈ (D ++ Cc) ++ (P ++ ((h.objs.size, tupO vs n) :: W)), p = (h.objs.size, tupO vs n) ∨ p ∈ (D ++ Cc) ++ (P ++ W) := fun p hp => by
    rcases List.mem_append.mp hp with hp | hp
    · exact .inr (List.mem_append_left _ hp)
    · rcases List.mem_append.mp hp with hp | hp
      · exact .inr (List.mem_append_right _ (List.mem_append_left _ hp))
      · rcases List.mem_cons.mp hp with hp | hp
        · exact .inl hp
        · exact .inr (List.mem_append_right _ (List.mem_append_right _ hp))
  refine ⟨(h.objs.size, tupO vs n) :: W, hw, .head _, mf, ml, D, Cc, { R' with kw := fun p hp => hw p (R.kw p hp), N := fun p hp => ?_, ap := fun p hp q hq => ?_, pw := fun p hp q hq => ?_, own := ?_, loc := fun x v e => (R.loc x v e).mono hw, hp := fun a o e => let ⟨ob, hm, r⟩ := R.hp a o e; ⟨ob, hm, r.mono hw⟩ }⟩
  · rcases sp p hp with rfl | hp
    · exact fr
    · exact R'.N p hp
  · rcases sp q (List.mem_append_right _ hq) with rfl | hq'
    · exact Nat.ne_of_lt (R.lt p (List.mem_append_left _ hp))
    · rcases List.mem_append.mp hq with hq | hq
      · exact R.ap p hp q (List.mem_append_left _ hq)
      · rcases List.mem_cons.mp hq with rfl | hq
        · exact Nat.ne_of_lt (R.lt p (List.mem_append_left _ hp))
        · exact R.ap p hp q (List.mem_append_right _ hq)
  · rcases List.mem_cons.mp hq with rfl | hq
    · exact Nat.ne_of_lt (R.lt p (List.mem_append_right _ (List.mem_append_left _ hp)))
    · exact R.pw p hp q hq
  · refine R.own.imp id fun ⟨h1, h2, h3⟩ => ⟨h1, h2, fun p hp => ?_⟩
    rcases sp p hp with rfl | hp
    · exact R.newL
    · exact h3 p hp

theorem Rel.alloc (R : Rel C P W σ h) {o : HO} {ob : Obj} (r : RepH W o ob) (hf : ob.isFreed = false) :
    σ.hp h.objs.size = none ∧ Rel C P W ⟨σ.loc, updH σ.hp h.objs.size o⟩ (h.push ob) := by
  obtain ⟨mf, ml, D, Cc, R⟩ := R
  have R' := R.push ob
  refine ⟨?_, mf, ml, (h.objs.size, ob) :: D, Cc, { R' with N := fun p hp => ?_, nd := ?_, ap := fun p hp q hq => ?_, own := ?_, loc := R.loc, hp := fun a o' e => ?_ }⟩
  · cases e : σ.hp h.objs.size with
    | none => rfl
    | some o' => obtain ⟨ob', hm, _⟩ := R.hp _ _ e; exact absurd (R.lt _ (List.mem_append_left _ (List.mem_append_left _ hm))) (Nat.lt_irrefl _)
  · rcases List.mem_cons.mp hp with rfl | hp
    · exact R.fresh hf
    · exact R'.N p hp
  · rw [List.cons_append, List.map_cons, List.nodup_cons]
    refine ⟨fun hm => ?_, R.nd⟩
    obtain ⟨p, hp', e⟩ := List.mem_map.mp hm
    exact absurd (R.lt p (List.mem_append_left _ hp')) (by rw [e]; exact Nat.lt_irrefl _)
  · rcases List.mem_cons.mp hp with rfl | hp
    · exact (Nat.ne_of_lt (R.lt q (List.mem_append_right _ hq))).symm
    · exact R.ap p hp q hq
  · refine R.own.imp id fun ⟨h1, h2, h3⟩ => ⟨h1, h2, fun p hp => ?_⟩
    rcases List.mem_cons.mp hp with rfl | hp
    · exact R.newL
    · exact h3 p hp
  · by_cases ha : a = h.objs.size
    · subst ha
      rw [show (St.mk σ.loc (updH σ.hp h.objs.size o)).hp h.objs.size = some o from updH_same ..] at e
      cases e
      exact ⟨ob, .head _, r⟩
    · rw [show (St.mk σ.loc (updH σ.hp h.objs.size o)).hp a = σ.hp a from updH_ne ha] at e
      obtain ⟨ob', hm, r'⟩ := R.hp a o' e
      exact ⟨ob', .tail _ hm, r'⟩

/-- a ledger with one entry turned -/
def putD (a : Addr) (ob : Obj) (D : Led) : Led := D.map fun p => if p.1 = a then (a, ob) else p
theorem putD_keys (a : Addr) (ob : Obj) (D : Led) : (putD a ob D).map (·.1) = D.map (·.1) := by
  unfold putD
  rw [List.map_map]
  refine List.map_congr_left fun p _ => ?_
  simp only [Function.comp]
  split
  · rename_i e; exact e.symm
  · rfl
theorem mem_putD {a : Addr} {ob : Obj} {D : Led} {p : Addr × Obj} (h : p ∈ putD a ob D) : p = (a, ob) ∨ (p ∈ D ∧ p.1 ≠ a) := by
  obtain ⟨q, hq, rfl⟩ := List.mem_map.mp h
  by_cases e : q.1 = a
  · exact .inl (if_pos e)
  · rw [if_neg e]; exact .inr ⟨hq, e⟩
theorem putD_of {a : Addr} {ob : Obj} {D : Led} {p : Addr × Obj} (h : p ∈ D) (e : p.1 ≠ a) : p ∈ putD a ob D := List.mem_map.mpr ⟨p, h, if_neg e⟩
theorem putD_self {a : Addr} {ob ob' : Obj} {D : Led} (h : (a, ob') ∈ D) : (a, ob) ∈ putD a ob D := List.mem_map.mpr ⟨_, h, if_pos rfl⟩
theorem putD_append (a : Addr) (ob : Obj) (D E : Led) : putD a ob (D ++ E) = putD a ob D ++ putD a ob E := List.map_append

/-- one object of the ledger turned in the heap -/
theorem RelX.change {mf ml : Str → Option Value} {D Cc : Led} (R : RelX C P W σ h mf ml D Cc) {a : Addr} {ob ob' : Obj} {h' : Heap} (hm : (a, ob) ∈ D ++ Cc) (hs : Heap.SameBut a h h') (hg : h'.get? a = some ob') :
    Fr C.g C.FL h' mf ∧ h'.Ns C.L ml ∧ News C.g C.FL h' ((putD a ob' D ++ putD a ob' Cc) ++ (P ++ W)) ∧ ((putD a ob' D ++ putD a ob' Cc).map (·.1)).Nodup ∧ (∀ p ∈ putD a ob' D ++ putD a ob' Cc, ∀ q ∈ P ++ W, p.1 ≠ q.1) ∧
      (C.L = C.FL ∨ (C.L ≠ C.FL ∧ C.g.get? C.L = none ∧ ∀ p ∈ (putD a ob' D ++ putD a ob' Cc) ++ (P ++ W), p.1 ≠ C.L)) := by
  have hN := R.N (a, ob) (List.mem_append_left _ hm)
  have hLa : a ≠ C.L := by
    rcases R.own with e | ⟨_, _, e⟩
    · rw [e]; exact hN.2.1
    · exact e _ (List.mem_append_left _ hm)
  have mem : ∀ p ∈ putD a ob' D ++ putD a ob' Cc, p = (a, ob') ∨ (p ∈ D ++ Cc ∧ p.1 ≠ a) := fun p hp => by
    rw [← putD_append] at hp; exact mem_putD hp
  refine ⟨⟨R.F.ns.sameBut hs (Ne.symm hN.2.1), fun b o e => (hs.2 b fun q => ?_).trans (R.F.keep b o e), R.F.above⟩, R.ns.sameBut hs (Ne.symm hLa), fun p hp => ?_, ?_, fun p hp q hq => ?_, ?_⟩
  · rw [q, hN.2.2] at e; cases e
  · rcases List.mem_append.mp hp with hp | hp
    · rcases mem p hp with rfl | ⟨hp, hne⟩
      · exact ⟨hg, hN.2⟩
      · have := R.N p (List.mem_append_left _ hp)
        exact ⟨(hs.2 _ hne).trans this.1, this.2⟩
    · have := R.N p (List.mem_append_right _ hp)
      exact ⟨(hs.2 _ (fun q => R.ap _ hm p hp q.symm)).trans this.1, this.2⟩
  · rw [← putD_append, putD_keys]; exact R.nd
  · rcases mem p hp with rfl | ⟨hp, hne⟩
    · exact R.ap (a, ob) hm q hq
    · exact R.ap p hp q hq
  · refine R.own.imp id fun ⟨h1, h2, h3⟩ => ⟨h1, h2, fun p hp => ?_⟩
    rcases List.mem_append.mp hp with hp | hp
    · rcases mem p hp with rfl | ⟨hp, hne⟩
      · exact hLa
      · exact h3 p (List.mem_append_left _ hp)
    · exact h3 p (List.mem_append_right _ hp)

theorem nodup_apart {D Cc : Led} (nd : ((D ++ Cc).map (·.1)).Nodup) : ∀ p ∈ D, ∀ q ∈ Cc, p.1 ≠ q.1 := by
  rw [List.map_append, List.nodup_append] at nd
  exact fun p hp q hq => nd.2.2 _ (List.mem_map_of_mem hp) _ (List.mem_map_of_mem hq)
theorem putD_off {a : Addr} {ob : Obj} : ∀ {D : Led}, (∀ p ∈ D, p.1 ≠ a) → putD a ob D = D
  | [], _ => rfl
  | p :: D, h => by
    unfold putD
    rw [List.map_cons, if_neg (h p (.head _))]
    exact congrArg (p :: ·) (putD_off fun q hq => h q (.tail _ hq))

/-- an abstract object turned -/
theorem Rel.change (R : Rel C P W σ h) {a : Addr} {o₀ o : HO} (e₀ : σ.hp a = some o₀) {h' : Heap} {ob' : Obj} (hs : Heap.SameBut a h h') (hg : h'.get? a = some ob') (r : RepH W o ob') :
    Rel C P W ⟨σ.loc, updH σ.hp a o⟩ h' := by
  obtain ⟨mf, ml, D, Cc, R⟩ := R
  obtain ⟨ob, hm, _⟩ := R.hp a o₀ e₀
  obtain ⟨F, ns, N, nd, ap, own⟩ := R.change (List.mem_append_left _ hm) hs hg
  have off : putD a ob' Cc = Cc := putD_off fun p hp e => nodup_apart R.nd (a, ob) hm p hp e.symm
  rw [off] at N nd ap own
  refine ⟨mf, ml, putD a ob' D, Cc, { F := F, ns := ns, N := N, nd := nd, ap := ap, pw := R.pw, pnd := R.pnd, kw := R.kw, isc := R.isc, fix := R.fix, left := R.left, own := own, cells := R.cells, inj := R.inj, loc := R.loc, hp := fun b o' e => ?_ }⟩
  by_cases hb : b = a
  · subst hb
    rw [show (St.mk σ.loc (updH σ.hp b o)).hp b = some o from updH_same ..] at e
    cases e
    exact ⟨ob', putD_self hm, r⟩
  · rw [show (St.mk σ.loc (updH σ.hp a o)).hp b = σ.hp b from updH_ne hb] at e
    obtain ⟨ob₂, hm', r'⟩ := R.hp b o' e
    exact ⟨ob₂, putD_of hm' hb, r'⟩
theorem Rel.at (R : Rel C P W σ h) {a : Addr} {o : HO} (e : σ.hp a = some o) : ∃ ob, h.get? a = some ob ∧ RepH W o ob := by
  obtain ⟨mf, ml, D, Cc, R⟩ := R
  obtain ⟨ob, hm, r⟩ := R.hp a o e
  exact ⟨ob, (R.N _ (List.mem_append_left _ (List.mem_append_left _ hm))).1, r⟩
theorem Rel.list (R : Rel C P W σ h) {a : Addr} {xs : List V} (e : σ.hp a = some (.lst xs)) : ∃ vs n, h.get? a = some (lstO vs n) ∧ Reps W xs vs := by
  obtain ⟨ob, hg, vs, n, rfl, r⟩ := R.at e
  exact ⟨vs, n, hg, r⟩
theorem Rel.isList (R : Rel C P W σ h) {a : Addr} {xs : List V} (e : σ.hp a = some (.lst xs)) : ∃ vs, h.IsList a vs.toArray ∧ Reps W xs vs := by
  obtain ⟨vs, n, hg, r⟩ := R.list e
  exact ⟨vs, ⟨_, hg, rfl, n, rfl⟩, r⟩
theorem Rel.tup (R : Rel C P W σ h) {vs : List Value} {a : Addr} {n : Nat} (hm : (a, tupO vs n) ∈ W) : h.get? a = some (tupO vs n) := by
  obtain ⟨mf, ml, D, Cc, R⟩ := R
  exact (R.N _ (List.mem_append_right _ (List.mem_append_right _ hm))).1
theorem Rel.isTuple (R : Rel C P W σ h) {vs : List Value} {a : Addr} {n : Nat} (hm : (a, tupO vs n) ∈ W) : h.IsTuple a vs.toArray := ⟨_, R.tup hm, rfl, n, rfl⟩
theorem Rel.keep (R : Rel C P W σ h) : ∀ b o, C.g.get? b = some o → h.get? b = some o := by
  obtain ⟨mf, ml, D, Cc, R⟩ := R
  exact R.F.keep
theorem Rel.top {G : GE} (R : Rel C P W σ h) (O : C.Ok G) : TopOk G h := O.top.keeps R.keep
/-- a local name -/
theorem Rel.local (R : Rel C P W σ h) {x : Str} {v : V} (e : lk σ.loc x = some v) (hx : sc.names.lookup x = some .local) : ∃ ml u, h.Ns C.L ml ∧ ml x = some u ∧ Rep W v u := by
  obtain ⟨mf, ml, D, Cc, R⟩ := R
  obtain ⟨u, hu, r⟩ := (R.loc x v e).1 hx
  exact ⟨ml, u, R.ns, hu, r⟩
theorem Rel.cell (R : Rel C P W σ h) {x : Str} {v : V} (e : lk σ.loc x = some v) (hx : sc.names.lookup x = some .cell) : ∃ c u, C.cl.lookup x = some c ∧ h.IsCell c (some u) ∧ Rep W v u := by
  obtain ⟨mf, ml, D, Cc, R⟩ := R
  obtain ⟨c, ob, u, hc, hm, hd, r⟩ := (R.loc x v e).2 hx
  exact ⟨c, u, hc, ⟨ob, (R.N _ (List.mem_append_left _ (List.mem_append_right _ hm))).1, hd⟩, r⟩

/-- a local name stored -/
theorem Rel.storeL (R : Rel C P W σ h) (hx : sc.names.lookup x = some .local) : ∃ ml, h.Ns C.L ml ∧ ∀ (h' : Heap) (v : V) (u : Value), h'.Ns C.L (fun y => if y = x then some u else ml y) → Heap.SameBut C.L h h' → Rep W v u → Rel C P W ⟨setL σ.loc x v, σ.hp⟩ h' := by
  obtain ⟨mf, ml, D, Cc, R⟩ := R
  refine ⟨ml, R.ns, fun h' v u hn hs r => ?_⟩
  have newsL : ∀ p ∈ (D ++ Cc) ++ (P ++ W), p.1 ≠ C.L := fun p hp => by
    rcases R.own with e | ⟨_, _, e⟩
    · rw [e]; exact (R.N p hp).2.1
    · exact e p hp
  have hF : ∃ mf', Fr C.g C.FL h' mf' ∧ ∀ z, C.fz = some z → mf' = z.1 ∧ Cc = z.2 := by
    by_cases q : C.L = C.FL
    · refine ⟨_, ⟨q ▸ hn, fun b o e => (hs.2 b (by rw [q]; exact Nat.ne_of_lt (Nat.lt_of_lt_of_le (Heap.lt_size e) R.F.above))).trans (R.F.keep b o e), R.F.above⟩, fun z hz => by rw [R.left q] at hz; cases hz⟩
    · obtain ⟨_, h2, _⟩ := R.own.resolve_left q
      refine ⟨mf, ⟨R.F.ns.sameBut hs (Ne.symm q), fun b o e => (hs.2 b (fun z => by rw [z, h2] at e; cases e)).trans (R.F.keep b o e), R.F.above⟩, R.fix⟩
  obtain ⟨mf', F', fx⟩ := hF
  refine ⟨mf', _, D, Cc, { R with F := F', fix := fx, ns := hn, N := fun p hp => ⟨(hs.2 _ (newsL p hp)).trans (R.N p hp).1, (R.N p hp).2⟩, loc := fun y w e => ?_ }⟩
  · by_cases hy : y = x
    · subst hy
      rw [show lk (St.mk (setL σ.loc y v) σ.hp).loc y = some v from setL_same ..] at e
      cases e
      exact ⟨fun _ => ⟨u, by simp, r⟩, fun k => by rw [hx] at k; cases k⟩
    · rw [show lk (St.mk (setL σ.loc x v) σ.hp).loc y = lk σ.loc y from setL_ne hy] at e
      refine ⟨fun k => ?_, (R.loc y w e).2⟩
      obtain ⟨u', hu', r'⟩ := (R.loc y w e).1 k
      exact ⟨u', by simp [hy, hu'], r'⟩
/-- a cell name stored -/
theorem Rel.storeC (R : Rel C P W σ h) {c : Addr} (hz : C.fz = none) (hx : sc.names.lookup x = some .cell) (hc : C.cl.lookup x = some c) : ∃ u₀, h.IsCell c u₀ ∧ ∀ (h' : Heap) (v : V) (u : Value), h'.IsCell c (some u) → Heap.SameBut c h h' → Rep W v u → Rel C P W ⟨setL σ.loc x v, σ.hp⟩ h' := by
  obtain ⟨mf, ml, D, Cc, R⟩ := R
  obtain ⟨ob, u₀, hm, hd⟩ := R.cells x c hx hc
  refine ⟨u₀, ⟨ob, (R.N _ (List.mem_append_left _ (List.mem_append_right _ hm))).1, hd⟩, fun h' v u hn hs r => ?_⟩
  obtain ⟨ob', hg, hd'⟩ := hn
  obtain ⟨F, ns, N, nd, ap, own⟩ := R.change (List.mem_append_right _ hm) hs hg
  have off : putD c ob' D = D := putD_off fun p hp e => nodup_apart R.nd p hp (c, ob) hm e
  rw [off] at N nd ap own
  refine ⟨mf, ml, D, putD c ob' Cc, { F := F, ns := ns, N := N, nd := nd, ap := ap, pw := R.pw, pnd := R.pnd, kw := R.kw, isc := fun p hp => (mem_putD hp).elim (fun e => e ▸ ⟨_, hd'⟩) fun e => R.isc p e.1, fix := fun z h => (by rw [hz] at h; cases h), left := R.left, own := own, inj := R.inj, hp := R.hp, cells := fun y d hy hd₂ => ?_, loc := fun y w e => ?_ }⟩
  · obtain ⟨ob₂, u₂, hm₂, hd₃⟩ := R.cells y d hy hd₂
    by_cases q : d = c
    · subst q; exact ⟨ob', _, putD_self hm, hd'⟩
    · exact ⟨ob₂, u₂, putD_of hm₂ q, hd₃⟩
  · by_cases hy : y = x
    · subst hy
      rw [show lk (St.mk (setL σ.loc y v) σ.hp).loc y = some v from setL_same ..] at e
      cases e
      exact ⟨fun k => (by rw [hx] at k; cases k), fun _ => ⟨c, ob', u, hc, putD_self hm, hd', r⟩⟩
    · rw [show lk (St.mk (setL σ.loc x v) σ.hp).loc y = lk σ.loc y from setL_ne hy] at e
      refine ⟨(R.loc y w e).1, fun k => ?_⟩
      obtain ⟨d, ob₂, u₂, hd₂, hm₂, hd₃, r₂⟩ := (R.loc y w e).2 k
      refine ⟨d, ob₂, u₂, hd₂, putD_of hm₂ (fun q => ?_), hd₃, r₂⟩
      simp only at q
      subst q
      exact hy (R.inj y x d k hx hd₂ hc)

/-- pins -/
theorem Rel.pin (R : Rel C P W σ h) {o : Obj} (hf : o.isFreed = false) : Rel C ((h.objs.size, o) :: P) W σ (h.push o) := by
  obtain ⟨mf, ml, D, Cc, R⟩ := R
  have R' := R.push o
  have sp : ∀ p ∈ (D ++ Cc) ++ (((h.objs.size, o) :: P) ++ W), p = (h.objs.size, o) ∨ p ∈ (D ++ Cc) ++ (P ++ W) := fun p hp => by
    rcases List.mem_append.mp hp with hp | hp
    · exact .inr (List.mem_append_left _ hp)
    · rw [List.cons_append] at hp
      rcases List.mem_cons.mp hp with hp | hp
      · exact .inl hp
      · exact .inr (List.mem_append_right _ hp)
  refine ⟨mf, ml, D, Cc, { R' with N := fun p hp => ?_, ap := fun p hp q hq => ?_, pw := fun p hp q hq => ?_, pnd := ?_, own := ?_, loc := R.loc, hp := R.hp }⟩
  · rcases sp p hp with rfl | hp
    · exact R.fresh hf
    · exact R'.N p hp
  · rw [List.cons_append] at hq
    rcases List.mem_cons.mp hq with rfl | hq
    · exact Nat.ne_of_lt (R.lt p (List.mem_append_left _ hp))
    · exact R.ap p hp q hq
  · rcases List.mem_cons.mp hp with rfl | hp
    · exact (Nat.ne_of_lt (R.lt q (List.mem_append_right _ (List.mem_append_right _ hq)))).symm
    · exact R.pw p hp q hq
  · rw [List.map_cons, List.nodup_cons]
    refine ⟨fun hm => ?_, R.pnd⟩
    obtain ⟨p, hp', e⟩ := List.mem_map.mp hm
    exact absurd (R.lt p (List.mem_append_right _ (List.mem_append_left _ hp'))) (by rw [e]; exact Nat.lt_irrefl _)
  · refine R.own.imp id fun ⟨h1, h2, h3⟩ => ⟨h1, h2, fun p hp => ?_⟩
    rcases sp p hp with rfl | hp
    · exact R.newL
    · exact h3 p hp
theorem Rel.pinned {q : Addr × Obj} (R : Rel C (q :: P) W σ h) : h.get? q.1 = some q.2 := by
  obtain ⟨mf, ml, D, Cc, R⟩ := R
  exact (R.N q (List.mem_append_right _ (List.mem_append_left _ (.head _)))).1
theorem Rel.pinsub {P' : Led} (hl : List.Sublist P' P) (R : Rel C P W σ h) : Rel C P' W σ h := by
  obtain ⟨mf, ml, D, Cc, R⟩ := R
  have hP : ∀ p ∈ P', p ∈ P := fun p hp => hl.subset hp
  have sub : ∀ p ∈ P' ++ W, p ∈ P ++ W := fun p hp => (List.mem_append.mp hp).elim (fun h => List.mem_append_left _ (hP p h)) fun h => List.mem_append_right _ h
  have sub2 : ∀ p ∈ (D ++ Cc) ++ (P' ++ W), p ∈ (D ++ Cc) ++ (P ++ W) := fun p hp => (List.mem_append.mp hp).elim (fun h => List.mem_append_left _ h) fun h => List.mem_append_right _ (sub p h)
  exact ⟨mf, ml, D, Cc, { R with N := fun p hp => R.N p (sub2 p hp), ap := fun p hp q hq => R.ap p hp q (sub q hq), pw := fun p hp q hq => R.pw p (hP p hp) q hq, pnd := R.pnd.sublist (hl.map _), own := R.own.imp id fun ⟨h1, h2, h3⟩ => ⟨h1, h2, fun p hp => h3 p (sub2 p hp)⟩ }⟩
theorem Rel.unpin {q : Addr × Obj} (R : Rel C (q :: P) W σ h) : Rel C P W σ h := R.pinsub (List.sublist_cons_self _ _)
/-- a pin turned: no other entry lies at its address -/
theorem Rel.repin {I : Addr} {o o' : Obj} {h' : Heap} (R : Rel C ((I, o) :: P) W σ h) (hs : Heap.ExtBut I h h') (hg : h'.get? I = some o') : Rel C ((I, o') :: P) W σ h' := by
  obtain ⟨mf, ml, D, Cc, R⟩ := R
  have hN := R.N (I, o) (List.mem_append_right _ (List.mem_append_left _ (.head _)))
  have hI : ∀ p ∈ P ++ W, p.1 ≠ I := fun p hp => by
    rcases List.mem_append.mp hp with hp | hp
    · have := R.pnd
      rw [List.map_cons, List.nodup_cons] at this
      exact fun e => this.1 (List.mem_map.mpr ⟨p, hp, e⟩)
    · exact (R.pw (I, o) (.head _) p hp).symm
  have hD : ∀ p ∈ D ++ Cc, p.1 ≠ I := fun p hp => R.ap p hp (I, o) (List.mem_append_left _ (.head _))
  have hLI : I ≠ C.L := by
    rcases R.own with e | ⟨_, _, e⟩
    · rw [e]; exact hN.2.1
    · exact e (I, o) (List.mem_append_right _ (List.mem_append_left _ (.head _)))
  refine ⟨mf, ml, D, Cc, { R with F := ⟨R.F.ns.at' (fun o e => hs _ o (Ne.symm hN.2.1) e), fun b ob e => hs b ob (fun q => ?_) (R.F.keep b ob e), R.F.above⟩, ns := R.ns.at' (fun o e => hs _ o (Ne.symm hLI) e), N := fun p hp => ?_, ap := fun p hp q hq => ?_, pw := fun p hp q hq => ?_, pnd := R.pnd, own := ?_ }⟩
  · rw [q, hN.2.2] at e; cases e
  · rcases List.mem_append.mp hp with hp | hp
    · exact ⟨hs _ _ (hD p hp) (R.N p (List.mem_append_left _ hp)).1, (R.N p (List.mem_append_left _ hp)).2⟩
    · rw [List.cons_append] at hp
      rcases List.mem_cons.mp hp with rfl | hp
      · exact ⟨hg, hN.2⟩
      · have := R.N p (List.mem_append_right _ (by rw [List.cons_append]; exact .tail _ hp))
        exact ⟨hs _ _ (hI p hp) this.1, this.2⟩
  · rw [List.cons_append] at hq
    rcases List.mem_cons.mp hq with rfl | hq
    · exact hD p hp
    · exact R.ap p hp q (by rw [List.cons_append]; exact .tail _ hq)
  · rcases List.mem_cons.mp hp with rfl | hp
    · exact R.pw (I, o) (.head _) q hq
    · exact R.pw p (.tail _ hp) q hq
  · refine R.own.imp id fun ⟨h1, h2, h3⟩ => ⟨h1, h2, fun p hp => ?_⟩
    rcases List.mem_append.mp hp with hp | hp
    · exact h3 p (List.mem_append_left _ hp)
    · rw [List.cons_append] at hp
      rcases List.mem_cons.mp hp with rfl | hp
      · exact hLI
      · exact h3 p (List.mem_append_right _ (by rw [List.cons_append]; exact .tail _ hp))

/-- an abstract object taken out, and pinned -/
theorem Rel.topin (R : Rel C P W σ h) {a : Addr} {o : Obj} (e₀ : σ.hp a = some (.raw o)) : Rel C ((a, o) :: P) W ⟨σ.loc, fun b => if b = a then none else σ.hp b⟩ h := by
  obtain ⟨mf, ml, D, Cc, R⟩ := R
  obtain ⟨ob, hm, rfl⟩ := R.hp a _ e₀
  have nodupD : ((D ++ Cc).map (·.1)).Nodup := R.nd
  have sub : ∀ p ∈ D.filter (fun p => p.1 != a) ++ Cc, p ∈ D ++ Cc := fun p hp => (List.mem_append.mp hp).elim (fun h => List.mem_append_left _ (List.mem_filter.mp h).1) fun h => List.mem_append_right _ h
  have ne : ∀ p ∈ D.filter (fun p => p.1 != a) ++ Cc, p.1 ≠ a := fun p hp => by
    rcases List.mem_append.mp hp with hp | hp
    · simpa using (List.mem_filter.mp hp).2
    · exact fun e => nodup_apart R.nd (a, ob) hm p hp e.symm
  refine ⟨mf, ml, D.filter (fun p => p.1 != a), Cc, { R with N := fun p hp => ?_, nd := ?_, ap := fun p hp q hq => ?_, pw := fun p hp q hq => ?_, pnd := ?_, own := ?_, hp := fun b o e => ?_ }⟩
  · rcases List.mem_append.mp hp with hp | hp
    · exact R.N p (List.mem_append_left _ (sub p hp))
    · rw [List.cons_append] at hp
      rcases List.mem_cons.mp hp with rfl | hp
      · exact R.N _ (List.mem_append_left _ (List.mem_append_left _ hm))
      · exact R.N p (List.mem_append_right _ hp)
  · refine R.nd.sublist (List.Sublist.map _ ?_)
    exact List.Sublist.append List.filter_sublist (List.Sublist.refl _)
  · rw [List.cons_append] at hq
    rcases List.mem_cons.mp hq with rfl | hq
    · exact ne p hp
    · exact R.ap p (sub p hp) q hq
  · rcases List.mem_cons.mp hp with rfl | hp
    · exact R.ap (a, ob) (List.mem_append_left _ hm) q (List.mem_append_right _ hq)
    · exact R.pw p hp q hq
  · rw [List.map_cons, List.nodup_cons]
    refine ⟨fun h => ?_, R.pnd⟩
    obtain ⟨p, hp, e⟩ := List.mem_map.mp h
    exact R.ap (a, ob) (List.mem_append_left _ hm) p (List.mem_append_left _ hp) e.symm
  · refine R.own.imp id fun ⟨h1, h2, h3⟩ => ⟨h1, h2, fun p hp => ?_⟩
    rcases List.mem_append.mp hp with hp | hp
    · exact h3 p (List.mem_append_left _ (sub p hp))
    · rw [List.cons_append] at hp
      rcases List.mem_cons.mp hp with rfl | hp
      · exact h3 (a, ob) (List.mem_append_left _ (List.mem_append_left _ hm))
      · exact h3 p (List.mem_append_right _ hp)
  · by_cases hb : b = a
    · simp [hb] at e
    · simp only [hb, if_false] at e
      obtain ⟨ob', hm', r⟩ := R.hp b o e
      exact ⟨ob', List.mem_filter.mpr ⟨hm', by simpa using hb⟩, r⟩
/-- the pin let go while its object turns -/
theorem Rel.letgo {I : Addr} {o : Obj} {h' : Heap} (R : Rel C ((I, o) :: P) W σ h) (hs : Heap.ExtBut I h h') : Rel C P W σ h' := by
  obtain ⟨mf, ml, D, Cc, R⟩ := R
  have hN := R.N (I, o) (List.mem_append_right _ (List.mem_append_left _ (.head _)))
  have hLI : I ≠ C.L := by
    rcases R.own with e | ⟨_, _, e⟩
    · rw [e]; exact hN.2.1
    · exact e (I, o) (List.mem_append_right _ (List.mem_append_left _ (.head _)))
  have ne : ∀ p ∈ (D ++ Cc) ++ (P ++ W), p.1 ≠ I := fun p hp => by
    rcases List.mem_append.mp hp with hp | hp
    · exact R.ap p hp (I, o) (List.mem_append_left _ (.head _))
    · rcases List.mem_append.mp hp with hp | hp
      · have := R.pnd
        rw [List.map_cons, List.nodup_cons] at this
        exact fun e => this.1 (List.mem_map.mpr ⟨p, hp, e⟩)
      · exact (R.pw (I, o) (.head _) p hp).symm
  have sub : ∀ p ∈ (D ++ Cc) ++ (P ++ W), p ∈ (D ++ Cc) ++ ((I, o) :: P ++ W) := fun p hp => (List.mem_append.mp hp).elim (fun h => List.mem_append_left _ h) fun h => List.mem_append_right _ (.tail _ h)
  have pnd' : (P.map (·.1)).Nodup := by have := R.pnd; rw [List.map_cons, List.nodup_cons] at this; exact this.2
  exact ⟨mf, ml, D, Cc, { R with F := ⟨R.F.ns.at' (fun o e => hs _ o (Ne.symm hN.2.1) e), fun b ob e => hs b ob (fun q => by rw [q, hN.2.2] at e; cases e) (R.F.keep b ob e), R.F.above⟩, ns := R.ns.at' (fun o e => hs _ o (Ne.symm hLI) e), N := fun p hp => ⟨hs _ _ (ne p hp) (R.N p (sub p hp)).1, (R.N p (sub p hp)).2⟩, ap := fun p hp q hq => R.ap p hp q (.tail _ hq), pw := fun p hp q hq => R.pw p (.tail _ hp) q hq, pnd := pnd', own := R.own.imp id fun ⟨h1, h2, h3⟩ => ⟨h1, h2, fun p hp => h3 p (sub p hp)⟩ }⟩
end
section
variable {G : GE} {sc : Scope} {C : Act sc} {σ : St}

/-! ## expressions -/
theorem ev_seq {t : Sem Value} {Q : V → St → Prop} {f : Value → Sem Value} {t' : Sem Value}
    (e : ∀ P W s, Rel C P W σ s.heap → wpAny (model G.prog G.w) C.A t (fun u s₁ => wpAny (model G.prog G.w) C.A (f u) (Post C P W s Q) NoE s₁) NoE s → wpAny (model G.prog G.w) C.A t' (Post C P W s Q) NoE s)
    (h : Ev G C t σ (fun a σ₁ => F1 G C f a σ₁ Q)) : Ev G C t' σ Q := fun P W s R =>
  e P W s R (wp_seq1 (h P W s R) fun v u σ' W' h tk w r R' q => wpAny_mono (q P W' _ _ R' r) (fun _ _ p => p.trans w) fun _ _ x => x)

theorem Ev_BinOp {l r : Expr} {op : Operator} {pos : Pos} {Q : V → St → Prop}
    (h : Ev G C (eval l C.env) σ (fun a σ₁ => Ev G C (eval r C.env) σ₁ (fun b σ₂ => F2 G C (binaryOp op) a b σ₂ Q))) :
    Ev G C (eval (.BinOp l op r pos) C.env) σ Q := fun P W s R => by
  refine wpAny_BinOp (wp_seq1 (h P W s R) fun a u σ₁ W₁ h₁ tk₁ w₁ ra R₁ q₁ => ?_)
  refine wp_seq1 (q₁ P W₁ _ R₁) fun b v σ₂ W₂ h₂ tk₂ w₂ rb R₂ q₂ => ?_
  exact wpAny_mono (q₂ P W₂ _ _ _ R₂ (ra.mono w₂) rb) (fun _ _ p => (p.trans w₂).trans w₁) fun _ _ x => x

theorem Ev_Compare1 {l r : Expr} {op : CmpOp} {pos : Pos} {Q : V → St → Prop}
    (hm : behindInMarks op r = false)
    (h : Ev G C (eval l C.env) σ (fun a σ₁ => Ev G C (eval r C.env) σ₁ (fun b σ₂ => F2 G C (compareOp op) a b σ₂ Q))) :
    Ev G C (eval (.Compare l [op] [r] pos) C.env) σ Q := fun P W s R => by
  refine wpAny_Compare1 (wp_seq1 (h P W s R) fun a u σ₁ W₁ h₁ tk₁ w₁ ra R₁ q₁ => ?_) hm
  refine wp_seq1 (q₁ P W₁ _ R₁) fun b v σ₂ W₂ h₂ tk₂ w₂ rb R₂ q₂ => ?_
  exact wpAny_mono (q₂ P W₂ _ _ _ R₂ (ra.mono w₂) rb) (fun _ _ p => (p.trans w₂).trans w₁) fun _ _ x => x

theorem Bx_Compare1 {l r : Expr} {op : CmpOp} {pos : Pos} {Q : Bool → St → Prop} {whole : Sem Value}
    (hm : behindInMarks op r = false)
    (h : Ev G C (eval l C.env) σ (fun a σ₁ => Ev G C (eval r C.env) σ₁ (fun b σ₂ => F2 G C (compareOp op) a b σ₂ (fun c σ₃ => B1 G C truthy c σ₃ Q)))) :
    Bx G C (isTrue (.Compare l [op] [r] pos) C.env whole) σ Q := fun P W s R => by
  refine wpAny_isTrue_Compare1 (wp_seq1 (h P W s R) fun a u σ₁ W₁ h₁ tk₁ w₁ ra R₁ q₁ => ?_) hm
  refine wp_seq1 (q₁ P W₁ _ R₁) fun b v σ₂ W₂ h₂ tk₂ w₂ rb R₂ q₂ => ?_
  refine wp_seq1 (q₂ P W₂ _ _ _ R₂ (ra.mono w₂) rb) fun c z σ₃ W₃ h₃ tk₃ w₃ rc R₃ q₃ => ?_
  exact wpAny_mono (q₃ P W₃ _ _ R₃ rc) (fun _ _ p => ((p.trans w₃).trans w₂).trans w₁) fun _ _ x => x

theorem Bx_plain {e : Expr} {whole : Sem Value} {Q : Bool → St → Prop}
    (he : isTrue e C.env whole = (do let v ← whole; standAt e.pos; holding [v] (truthy v)))
    (h : Ev G C whole σ (fun a σ₁ => B1 G C truthy a σ₁ Q)) : Bx G C (isTrue e C.env whole) σ Q := fun P W s R => by
  refine isTrue_plain (wp_seq1 (h P W s R) fun a u σ₁ W₁ h₁ tk₁ w₁ ra R₁ q₁ => ?_) he
  exact wpAny_mono (q₁ P W₁ _ _ R₁ ra) (fun _ _ p => p.trans w₁) fun _ _ x => x

theorem Ev_UnaryOp {e : Expr} {op : UnaryOp} {pos : Pos} {Q : V → St → Prop} (h : Ev G C (eval e C.env) σ (fun a σ₁ => F1 G C (unaryOp op) a σ₁ Q)) :
    Ev G C (eval (.UnaryOp op e pos) C.env) σ Q := ev_seq (fun P W s R H => UnaryOp_ H) h

theorem Ev_IfExp {test body orelse : Expr} {pos : Pos} {Q : V → St → Prop}
    (h : Bx G C (isTrue test C.env (eval test C.env)) σ (fun b σ₁ => if b then Ev G C (eval body C.env) σ₁ Q else Ev G C (eval orelse C.env) σ₁ Q)) :
    Ev G C (eval (.IfExp test body orelse pos) C.env) σ Q := fun P W s R => by
  refine IfExp_ (wpAny_mono (h P W s R) (fun b s' ⟨σ', W', h', tk, e, w, R', q⟩ => ?_) fun _ _ x => x)
  subst e
  cases b <;> exact wpAny_mono (q P W' _ R') (fun _ _ p => p.trans w) fun _ _ x => x

/-- constants -/
theorem Ev_int {i : Int} {k : Nat} {pos : Pos} {Q : V → St → Prop} (h : Q (.int i) σ) : Ev G C (eval (.Constant (.int i) k pos) C.env) σ Q := fun P W s R =>
  wpAny_Constant_int (Post.here R (.int i _) h)
theorem Ev_str {x : Str} {k : Nat} {pos : Pos} {Q : V → St → Prop} (h : Q (.str x) σ) : Ev G C (eval (.Constant (.str x) k pos) C.env) σ Q := fun P W s R =>
  Constant_str (Post.here R (.str x _) h)
theorem Ev_none {k : Nat} {pos : Pos} {Q : V → St → Prop} (h : Q .none σ) : Ev G C (eval (.Constant .none k pos) C.env) σ Q := fun P W s R =>
  Constant_none (Post.here' R .none h)

/-- names -/
theorem Ev_local {x : Str} {pos : Pos} {v : V} {Q : V → St → Prop} (hk : sc.kind = .function) (hx : sc.names.lookup x = some .local) (hd : (x == ("__debug__" : Str)) = false)
    (hv : lk σ.loc x = some v) (h : Q v σ) : Ev G C (eval (.Name x pos) C.env) σ Q := fun P W s R => by
  obtain ⟨ml, u, hn, hu, r⟩ := R.local hv hx
  exact wpAny_Name (wpAny_loadName_local hk hx hn hu (Post.here' R r h)) hd
theorem Ev_cell {x : Str} {pos : Pos} {v : V} {Q : V → St → Prop} (hk : sc.kind = .function) (hx : sc.names.lookup x = some .cell) (hd : (x == ("__debug__" : Str)) = false)
    (hv : lk σ.loc x = some v) (h : Q v σ) : Ev G C (eval (.Name x pos) C.env) σ Q := fun P W s R => by
  obtain ⟨c, u, hc, hu, r⟩ := R.cell hv hx
  exact wpAny_Name (wpAny_loadName_cell hk hx hc hu (Post.here' R r h)) hd
theorem Ev_global {x : Str} {pos : Pos} {a : Addr} {Q : V → St → Prop} (O : C.Ok G) (hx : sc.names.lookup x = some .globalImplicit) (hd : (x == ("__debug__" : Str)) = false)
    (hv : G.mg x = some (.ref a)) (h : Q (.ref a) σ) : Ev G C (eval (.Name x pos) C.env) σ Q := fun P W s R =>
  Name_function_global O.kind hx (loadGlobal_global (env := C.env) (R.top O).g hv (Post.here' R (.ref a) h)) hd
theorem Ev_globalI {x : Str} {pos : Pos} {i : Int} {t : Tok} {Q : V → St → Prop} (O : C.Ok G) (hx : sc.names.lookup x = some .globalImplicit) (hd : (x == ("__debug__" : Str)) = false)
    (hv : G.mg x = some (.int i t)) (h : Q (.int i) σ) : Ev G C (eval (.Name x pos) C.env) σ Q := fun P W s R =>
  Name_function_global O.kind hx (loadGlobal_global (env := C.env) (R.top O).g hv (Post.here' R (.int i t) h)) hd
theorem Ev_builtin {x : Str} {pos : Pos} {n : String} {Q : V → St → Prop} (O : C.Ok G) (hx : sc.names.lookup x = some .globalImplicit) (hd : (x == ("__debug__" : Str)) = false)
    (hn : (x == ("__name__" : Str)) = false) (hf : biNames.contains x = true) (hv : bootBuiltins x = some (.builtin n)) (h : Q (.bi n) σ) : Ev G C (eval (.Name x pos) C.env) σ Q := fun P W s R =>
  Name_function_global O.kind hx (loadGlobal_builtin (env := C.env) (R.top O).g (O.top.free x (List.contains_iff_mem.mp hf)) (R.top O).b (((R.top O).builtins x (by simpa using hn)).trans hv) (Post.here' R (.bi n) h)) hd
theorem Ev_type {x : Str} {pos : Pos} {n : String} {Q : V → St → Prop} (O : C.Ok G) (hx : sc.names.lookup x = some .globalImplicit) (hd : (x == ("__debug__" : Str)) = false)
    (hn : (x == ("__name__" : Str)) = false) (hf : biNames.contains x = true) (hv : bootBuiltins x = some (.type n)) (h : Q (.typ n) σ) : Ev G C (eval (.Name x pos) C.env) σ Q := fun P W s R =>
  Name_function_global O.kind hx (loadGlobal_builtin (env := C.env) (R.top O).g (O.top.free x (List.contains_iff_mem.mp hf)) (R.top O).b (((R.top O).builtins x (by simpa using hn)).trans hv) (Post.here' R (.typ n) h)) hd
/-! ## statements -/
theorem Sx_nil {Q : Fl → St → Prop} (h : Q .next σ) : Sx G C (execs [] C.env) σ Q := fun P W s R =>
  wpAny_execs_nil ⟨.next, σ, W, s.heap, s.toks, rfl, fun _ hp => hp, trivial, R, h⟩
def thenS (G : GE) {sc : Scope} (C : Act sc) (rest : List Stmt) (Q : Fl → St → Prop) (f : Fl) (σ : St) : Prop := match f with
  | .next => Sx G C (execs rest C.env) σ Q
  | f => Q f σ
theorem thenS_next {rest : List Stmt} {Q : Fl → St → Prop} (h : Sx G C (execs rest C.env) σ Q) : thenS G C rest Q .next σ := h
theorem thenS_ret {rest : List Stmt} {Q : Fl → St → Prop} {v : V} (h : Q (.ret v) σ) : thenS G C rest Q (.ret v) σ := h
theorem thenS_brk {rest : List Stmt} {Q : Fl → St → Prop} (h : Q .brk σ) : thenS G C rest Q .brk σ := h
theorem Sx_cons {st : Stmt} {rest : List Stmt} {Q : Fl → St → Prop}
    (h : Sx G C (exec st C.env) σ (thenS G C rest Q)) : Sx G C (execs (st :: rest) C.env) σ Q := fun P W s R => by
  refine wpAny_execs_cons (wpAny_mono (h P W s R) (fun f s' ⟨fl, σ', W', h', tk, e, w, r, R', q⟩ => ?_) fun _ _ x => x)
  subst e
  cases f with
  | next => cases fl with
    | next => exact wpAny_mono (q P W' _ R') (fun _ _ p => p.trans w) fun _ _ x => x
    | _ => exact r.elim
  | brk => cases fl with
    | brk => exact ⟨.brk, σ', W', h', tk, rfl, w, r, R', q⟩
    | _ => exact r.elim
  | cont => cases fl with
    | cont => exact ⟨.cont, σ', W', h', tk, rfl, w, r, R', q⟩
    | _ => exact r.elim
  | ret u => cases fl with
    | ret v => exact ⟨.ret v, σ', W', h', tk, rfl, w, r, R', q⟩
    | _ => exact r.elim
theorem Sx_Return {e : Expr} {pos : Pos} {Q : Fl → St → Prop} (h : Ev G C (eval e C.env) σ (fun v σ' => Q (.ret v) σ')) : Sx G C (exec (.Return (some e) pos) C.env) σ Q := fun P W s R =>
  wpAny_Return_some (wpAny_mono (h P W s R) (fun u s' ⟨v, σ', W', h', tk, e, w, r, R', q⟩ => ⟨.ret v, σ', W', h', tk, e, w, r, R', q⟩) fun _ _ x => x)
theorem Sx_ReturnNone {pos : Pos} {Q : Fl → St → Prop} (h : Q (.ret .none) σ) : Sx G C (exec (.Return none pos) C.env) σ Q := fun P W s R =>
  wpAny_Return_none ⟨.ret .none, σ, W, s.heap, s.toks, rfl, fun _ hp => hp, .none, R, h⟩
theorem Sx_Break {pos : Pos} {Q : Fl → St → Prop} (h : Q .brk σ) : Sx G C (exec (.Break pos) C.env) σ Q := fun P W s R =>
  (fun _ _ _ => ⟨.brk, σ, W, s.heap, s.toks, rfl, fun _ hp => hp, trivial, R, h⟩)
theorem Sx_If {test : Expr} {body orelse : List Stmt} {pos : Pos} {Q : Fl → St → Prop}
    (h : Bx G C (isTrue test C.env (eval test C.env)) σ (fun b σ₁ => if b then Sx G C (execs body C.env) σ₁ Q else Sx G C (execs orelse C.env) σ₁ Q)) :
    Sx G C (exec (.If test body orelse pos) C.env) σ Q := fun P W s R => by
  refine wpAny_If (wpAny_mono (h P W s R) (fun b s' ⟨σ', W', h', tk, e, w, R', q⟩ => ?_) fun _ _ x => x)
  subst e
  cases b <;> exact wpAny_mono (q P W' _ R') (fun _ _ p => p.trans w) fun _ _ x => x

theorem store_local {P W : Led} {s : Shared} {x : Str} {v : V} {u : Value} {α : Unit → Shared → Prop} (hk : sc.kind = .function) (hx : sc.names.lookup x = some .local) (R : Rel C P W σ s.heap) (r : Rep W v u)
    (h : ∀ h' tk, Rel C P W ⟨setL σ.loc x v, σ.hp⟩ h' → α () { s with heap := h', toks := tk }) :
    wpAny (model G.prog G.w) C.A (storeName C.env x u) α NoE s := by
  obtain ⟨ml, hn, k⟩ := R.storeL hx
  exact wpAny_storeName_local hx hn (fun h' hn' hs => h h' _ (k h' v u hn' hs r)) (by show (sc.kind == .class || (sc.kind == .module && C.L != mainGlobals)) = false; rw [hk]; rfl)
theorem store_cell {P W : Led} {s : Shared} {x : Str} {c : Addr} {v : V} {u : Value} {α : Unit → Shared → Prop} (hk : sc.kind = .function) (hz : C.fz = none) (hx : sc.names.lookup x = some .cell) (hc : C.cl.lookup x = some c) (R : Rel C P W σ s.heap) (r : Rep W v u)
    (h : ∀ h' tk, Rel C P W ⟨setL σ.loc x v, σ.hp⟩ h' → α () { s with heap := h', toks := tk }) :
    wpAny (model G.prog G.w) C.A (storeName C.env x u) α NoE s := by
  obtain ⟨u₀, hn, k⟩ := R.storeC hz hx hc
  exact wpAny_storeName_cell hk hx hc hn fun h' hn' hs => h h' s.toks (k h' v u hn' hs r)
/-- the names that the activation can store -/
def Storable (C : Act sc) (x : Str) : Prop := sc.names.lookup x = some .local ∨ (C.fz = none ∧ sc.names.lookup x = some .cell ∧ ∃ c, C.cl.lookup x = some c)
theorem Storable.loc {x : Str} (h : sc.names.lookup x = some .local) : Storable C x := .inl h
theorem store_any {P W : Led} {s : Shared} {x : Str} {v : V} {u : Value} {α : Unit → Shared → Prop} (hk : sc.kind = .function) (hx : Storable C x) (R : Rel C P W σ s.heap) (r : Rep W v u)
    (h : ∀ h' tk, Rel C P W ⟨setL σ.loc x v, σ.hp⟩ h' → α () { s with heap := h', toks := tk }) :
    wpAny (model G.prog G.w) C.A (storeName C.env x u) α NoE s := by
  rcases hx with hx | ⟨hz, hx, c, hc⟩
  · exact store_local hk hx R r h
  · exact store_cell hk hz hx hc R r h
theorem load_any {P W : Led} {s : Shared} {x : Str} {v : V} {α : Value → Shared → Prop} (hk : sc.kind = .function) (hx : Storable C x) (hv : lk σ.loc x = some v) (R : Rel C P W σ s.heap)
    (h : ∀ u, Rep W v u → α u s) : wpAny (model G.prog G.w) C.A (loadName C.env x) α NoE s := by
  rcases hx with hx | ⟨hz, hx, c, hc⟩
  · obtain ⟨ml, u, hn, hu, r⟩ := R.local hv hx
    exact wpAny_loadName_local hk hx hn hu (h u r)
  · obtain ⟨c, u, hc, hu, r⟩ := R.cell hv hx
    exact wpAny_loadName_cell hk hx hc hu (h u r)

theorem Sx_Assign {x : Str} {px pos : Pos} {e : Expr} {Q : Fl → St → Prop} (hk : sc.kind = .function) (hx : Storable C x) (hs : swapsWith e (some (.Name x px)) pos.line C.env = pure false)
    (h : Ev G C (eval e C.env) σ (fun v σ' => Q .next ⟨setL σ'.loc x v, σ'.hp⟩)) : Sx G C (exec (.Assign [.Name x px] e pos) C.env) σ Q := fun P W s R => by
  refine wpAny_Assign_Name (wp_seq1 (h P W s R) fun v u σ' W' h' tk w r R' q => ?_) hs
  exact store_any hk hx R' r fun h'' tk' R'' => ⟨.next, _, W', h'', tk', rfl, w, trivial, R'', q⟩

theorem Sx_AugAssign {x : Str} {px pos : Pos} {op : Operator} {e : Expr} {v : V} {Q : Fl → St → Prop} (hk : sc.kind = .function) (hx : Storable C x) (hv : lk σ.loc x = some v)
    (h : Ev G C (eval e C.env) σ (fun b σ₁ => F2 G C (inplaceOp op) v b σ₁ (fun r σ₂ => Q .next ⟨setL σ₂.loc x r, σ₂.hp⟩))) : Sx G C (exec (.AugAssign (.Name x px) op e pos) C.env) σ Q := fun P W s R => by
  refine wpAny_AugAssign_Name (load_any hk hx hv R fun u r => ?_)
  refine wp_seq1 (h P W s R) fun b u₁ σ₁ W₁ h₁ tk₁ w₁ r₁ R₁ q₁ => ?_
  refine wp_seq1 (q₁ P W₁ _ _ _ R₁ (r.mono w₁) r₁) fun b₂ u₂ σ₂ W₂ h₂ tk₂ w₂ r₂ R₂ q₂ => ?_
  exact store_any hk hx R₂ r₂ fun h'' tk' R'' => ⟨.next, _, W₂, h'', tk', rfl, fun p hp => w₂ p (w₁ p hp), trivial, R'', q₂⟩

end
section
variable {G : GE} {sc : Scope} {C : Act sc} {σ : St} {a b : Int}

/-! ## ints -/
theorem add_ii {Q : V → St → Prop} (h : Q (.int (a + b)) σ) : F2 G C (binaryOp .Add) (.int a) (.int b) σ Q := fun P W s u v R hu hv => by
  (first | refine Rep.eInt hu fun _ => ?_ | refine Rep.eRef hu ?_ | refine Reps.eNil hu ?_ | refine Rep.eStr hu fun _ => ?_ | refine Rep.eBytes hu fun _ => ?_ | refine Rep.eBool hu ?_ | refine Rep.eNone hu ?_ | refine Rep.eTyp hu ?_ | refine Rep.eBi hu ?_ | cases hu); (first | refine Rep.eInt hv fun _ => ?_ | refine Rep.eRef hv ?_ | refine Reps.eNil hv ?_ | refine Rep.eStr hv fun _ => ?_ | refine Rep.eBytes hv fun _ => ?_ | refine Rep.eBool hv ?_ | refine Rep.eNone hv ?_ | refine Rep.eTyp hv ?_ | refine Rep.eBi hv ?_ | cases hv); exact PyProof.Rows.add_int (Post.here R (.int _ _) h)
theorem sub_ii {Q : V → St → Prop} (h : Q (.int (a - b)) σ) : F2 G C (binaryOp .Sub) (.int a) (.int b) σ Q := fun P W s u v R hu hv => by
  (first | refine Rep.eInt hu fun _ => ?_ | refine Rep.eRef hu ?_ | refine Reps.eNil hu ?_ | refine Rep.eStr hu fun _ => ?_ | refine Rep.eBytes hu fun _ => ?_ | refine Rep.eBool hu ?_ | refine Rep.eNone hu ?_ | refine Rep.eTyp hu ?_ | refine Rep.eBi hu ?_ | cases hu); (first | refine Rep.eInt hv fun _ => ?_ | refine Rep.eRef hv ?_ | refine Reps.eNil hv ?_ | refine Rep.eStr hv fun _ => ?_ | refine Rep.eBytes hv fun _ => ?_ | refine Rep.eBool hv ?_ | refine Rep.eNone hv ?_ | refine Rep.eTyp hv ?_ | refine Rep.eBi hv ?_ | cases hv); exact PyProof.Rows.sub_int (Post.here R (.int _ _) h)
theorem mul_ii {Q : V → St → Prop} (hm : IntMulOk a b) (h : Q (.int (a * b)) σ) : F2 G C (binaryOp .Mult) (.int a) (.int b) σ Q := fun P W s u v R hu hv => by
  (first | refine Rep.eInt hu fun _ => ?_ | refine Rep.eRef hu ?_ | refine Reps.eNil hu ?_ | refine Rep.eStr hu fun _ => ?_ | refine Rep.eBytes hu fun _ => ?_ | refine Rep.eBool hu ?_ | refine Rep.eNone hu ?_ | refine Rep.eTyp hu ?_ | refine Rep.eBi hu ?_ | cases hu); (first | refine Rep.eInt hv fun _ => ?_ | refine Rep.eRef hv ?_ | refine Reps.eNil hv ?_ | refine Rep.eStr hv fun _ => ?_ | refine Rep.eBytes hv fun _ => ?_ | refine Rep.eBool hv ?_ | refine Rep.eNone hv ?_ | refine Rep.eTyp hv ?_ | refine Rep.eBi hv ?_ | cases hv); exact PyProof.Rows.mul_int (Post.here R (.int _ _) h) hm
theorem floordiv_ii {Q : V → St → Prop} (hb : b ≠ 0) (hp : Builtin.divisionGoesByPylong a b = false) (h : Q (.int (a.fdiv b)) σ) : F2 G C (binaryOp .FloorDiv) (.int a) (.int b) σ Q := fun P W s u v R hu hv => by
  (first | refine Rep.eInt hu fun _ => ?_ | refine Rep.eRef hu ?_ | refine Reps.eNil hu ?_ | refine Rep.eStr hu fun _ => ?_ | refine Rep.eBytes hu fun _ => ?_ | refine Rep.eBool hu ?_ | refine Rep.eNone hu ?_ | refine Rep.eTyp hu ?_ | refine Rep.eBi hu ?_ | cases hu); (first | refine Rep.eInt hv fun _ => ?_ | refine Rep.eRef hv ?_ | refine Reps.eNil hv ?_ | refine Rep.eStr hv fun _ => ?_ | refine Rep.eBytes hv fun _ => ?_ | refine Rep.eBool hv ?_ | refine Rep.eNone hv ?_ | refine Rep.eTyp hv ?_ | refine Rep.eBi hv ?_ | cases hv); exact PyProof.Rows.floordiv_int hb (Post.here R (.int _ _) h) (.inl hp)
theorem mod_ii {Q : V → St → Prop} (hb : b ≠ 0) (h : Q (.int (a.fmod b)) σ) : F2 G C (binaryOp .Mod) (.int a) (.int b) σ Q := fun P W s u v R hu hv => by
  (first | refine Rep.eInt hu fun _ => ?_ | refine Rep.eRef hu ?_ | refine Reps.eNil hu ?_ | refine Rep.eStr hu fun _ => ?_ | refine Rep.eBytes hu fun _ => ?_ | refine Rep.eBool hu ?_ | refine Rep.eNone hu ?_ | refine Rep.eTyp hu ?_ | refine Rep.eBi hu ?_ | cases hu); (first | refine Rep.eInt hv fun _ => ?_ | refine Rep.eRef hv ?_ | refine Reps.eNil hv ?_ | refine Rep.eStr hv fun _ => ?_ | refine Rep.eBytes hv fun _ => ?_ | refine Rep.eBool hv ?_ | refine Rep.eNone hv ?_ | refine Rep.eTyp hv ?_ | refine Rep.eBi hv ?_ | cases hv); exact PyProof.Rows.mod_int hb (Post.here R (.int _ _) h)
theorem pow_ii {Q : V → St → Prop} (hb : 0 ≤ b) (hsz : (Builtin.Int.intBits a : Int) * b ≤ 2 ^ 27) (h : Q (.int (a ^ b.toNat)) σ) : F2 G C (binaryOp .Pow) (.int a) (.int b) σ Q := fun P W s u v R hu hv => by
  (first | refine Rep.eInt hu fun _ => ?_ | refine Rep.eRef hu ?_ | refine Reps.eNil hu ?_ | refine Rep.eStr hu fun _ => ?_ | refine Rep.eBytes hu fun _ => ?_ | refine Rep.eBool hu ?_ | refine Rep.eNone hu ?_ | refine Rep.eTyp hu ?_ | refine Rep.eBi hu ?_ | cases hu); (first | refine Rep.eInt hv fun _ => ?_ | refine Rep.eRef hv ?_ | refine Reps.eNil hv ?_ | refine Rep.eStr hv fun _ => ?_ | refine Rep.eBytes hv fun _ => ?_ | refine Rep.eBool hv ?_ | refine Rep.eNone hv ?_ | refine Rep.eTyp hv ?_ | refine Rep.eBi hv ?_ | cases hv); exact PyProof.Rows.pow_int hb hsz (Post.here R (.int _ _) h)
theorem lshift_ii {Q : V → St → Prop} (hb : 0 ≤ b) (hsz : (Builtin.Int.intBits a : Int) + b ≤ 2 ^ 27) (h : Q (.int (a * 2 ^ b.toNat)) σ) : F2 G C (binaryOp .LShift) (.int a) (.int b) σ Q := fun P W s u v R hu hv => by
  (first | refine Rep.eInt hu fun _ => ?_ | refine Rep.eRef hu ?_ | refine Reps.eNil hu ?_ | refine Rep.eStr hu fun _ => ?_ | refine Rep.eBytes hu fun _ => ?_ | refine Rep.eBool hu ?_ | refine Rep.eNone hu ?_ | refine Rep.eTyp hu ?_ | refine Rep.eBi hu ?_ | cases hu); (first | refine Rep.eInt hv fun _ => ?_ | refine Rep.eRef hv ?_ | refine Reps.eNil hv ?_ | refine Rep.eStr hv fun _ => ?_ | refine Rep.eBytes hv fun _ => ?_ | refine Rep.eBool hv ?_ | refine Rep.eNone hv ?_ | refine Rep.eTyp hv ?_ | refine Rep.eBi hv ?_ | cases hv); exact PyProof.Rows.lshift_int hb hsz (Post.here R (.int _ _) h)
theorem rshift_ii {Q : V → St → Prop} (hb : 0 ≤ b) (h : Q (.int (a.fdiv (2 ^ b.toNat))) σ) : F2 G C (binaryOp .RShift) (.int a) (.int b) σ Q := fun P W s u v R hu hv => by
  (first | refine Rep.eInt hu fun _ => ?_ | refine Rep.eRef hu ?_ | refine Reps.eNil hu ?_ | refine Rep.eStr hu fun _ => ?_ | refine Rep.eBytes hu fun _ => ?_ | refine Rep.eBool hu ?_ | refine Rep.eNone hu ?_ | refine Rep.eTyp hu ?_ | refine Rep.eBi hu ?_ | cases hu); (first | refine Rep.eInt hv fun _ => ?_ | refine Rep.eRef hv ?_ | refine Reps.eNil hv ?_ | refine Rep.eStr hv fun _ => ?_ | refine Rep.eBytes hv fun _ => ?_ | refine Rep.eBool hv ?_ | refine Rep.eNone hv ?_ | refine Rep.eTyp hv ?_ | refine Rep.eBi hv ?_ | cases hv); exact PyProof.Rows.rshift_int hb (Post.here R (.int _ _) h)
theorem and_ii {Q : V → St → Prop} (h : Q (.int (Builtin.bitAnd a b)) σ) : F2 G C (binaryOp .BitAnd) (.int a) (.int b) σ Q := fun P W s u v R hu hv => by
  (first | refine Rep.eInt hu fun _ => ?_ | refine Rep.eRef hu ?_ | refine Reps.eNil hu ?_ | refine Rep.eStr hu fun _ => ?_ | refine Rep.eBytes hu fun _ => ?_ | refine Rep.eBool hu ?_ | refine Rep.eNone hu ?_ | refine Rep.eTyp hu ?_ | refine Rep.eBi hu ?_ | cases hu); (first | refine Rep.eInt hv fun _ => ?_ | refine Rep.eRef hv ?_ | refine Reps.eNil hv ?_ | refine Rep.eStr hv fun _ => ?_ | refine Rep.eBytes hv fun _ => ?_ | refine Rep.eBool hv ?_ | refine Rep.eNone hv ?_ | refine Rep.eTyp hv ?_ | refine Rep.eBi hv ?_ | cases hv); exact PyProof.Rows.and_int (Post.here R (.int _ _) h)
theorem or_ii {Q : V → St → Prop} (h : Q (.int (Builtin.bitOr a b)) σ) : F2 G C (binaryOp .BitOr) (.int a) (.int b) σ Q := fun P W s u v R hu hv => by
  (first | refine Rep.eInt hu fun _ => ?_ | refine Rep.eRef hu ?_ | refine Reps.eNil hu ?_ | refine Rep.eStr hu fun _ => ?_ | refine Rep.eBytes hu fun _ => ?_ | refine Rep.eBool hu ?_ | refine Rep.eNone hu ?_ | refine Rep.eTyp hu ?_ | refine Rep.eBi hu ?_ | cases hu); (first | refine Rep.eInt hv fun _ => ?_ | refine Rep.eRef hv ?_ | refine Reps.eNil hv ?_ | refine Rep.eStr hv fun _ => ?_ | refine Rep.eBytes hv fun _ => ?_ | refine Rep.eBool hv ?_ | refine Rep.eNone hv ?_ | refine Rep.eTyp hv ?_ | refine Rep.eBi hv ?_ | cases hv); exact PyProof.Rows.or_int (Post.here R (.int _ _) h)
theorem xor_ii {Q : V → St → Prop} (h : Q (.int (Builtin.bitXor a b)) σ) : F2 G C (binaryOp .BitXor) (.int a) (.int b) σ Q := fun P W s u v R hu hv => by
  (first | refine Rep.eInt hu fun _ => ?_ | refine Rep.eRef hu ?_ | refine Reps.eNil hu ?_ | refine Rep.eStr hu fun _ => ?_ | refine Rep.eBytes hu fun _ => ?_ | refine Rep.eBool hu ?_ | refine Rep.eNone hu ?_ | refine Rep.eTyp hu ?_ | refine Rep.eBi hu ?_ | cases hu); (first | refine Rep.eInt hv fun _ => ?_ | refine Rep.eRef hv ?_ | refine Reps.eNil hv ?_ | refine Rep.eStr hv fun _ => ?_ | refine Rep.eBytes hv fun _ => ?_ | refine Rep.eBool hv ?_ | refine Rep.eNone hv ?_ | refine Rep.eTyp hv ?_ | refine Rep.eBi hv ?_ | cases hv); exact PyProof.Rows.xor_int (Post.here R (.int _ _) h)
theorem iadd_ii {Q : V → St → Prop} (h : Q (.int (a + b)) σ) : F2 G C (inplaceOp .Add) (.int a) (.int b) σ Q := fun P W s u v R hu hv => by
  (first | refine Rep.eInt hu fun _ => ?_ | refine Rep.eRef hu ?_ | refine Reps.eNil hu ?_ | refine Rep.eStr hu fun _ => ?_ | refine Rep.eBytes hu fun _ => ?_ | refine Rep.eBool hu ?_ | refine Rep.eNone hu ?_ | refine Rep.eTyp hu ?_ | refine Rep.eBi hu ?_ | cases hu); (first | refine Rep.eInt hv fun _ => ?_ | refine Rep.eRef hv ?_ | refine Reps.eNil hv ?_ | refine Rep.eStr hv fun _ => ?_ | refine Rep.eBytes hv fun _ => ?_ | refine Rep.eBool hv ?_ | refine Rep.eNone hv ?_ | refine Rep.eTyp hv ?_ | refine Rep.eBi hv ?_ | cases hv); exact PyProof.Rows.iadd_int (Post.here R (.int _ _) h)
theorem isub_ii {Q : V → St → Prop} (h : Q (.int (a - b)) σ) : F2 G C (inplaceOp .Sub) (.int a) (.int b) σ Q := fun P W s u v R hu hv => by
  (first | refine Rep.eInt hu fun _ => ?_ | refine Rep.eRef hu ?_ | refine Reps.eNil hu ?_ | refine Rep.eStr hu fun _ => ?_ | refine Rep.eBytes hu fun _ => ?_ | refine Rep.eBool hu ?_ | refine Rep.eNone hu ?_ | refine Rep.eTyp hu ?_ | refine Rep.eBi hu ?_ | cases hu); (first | refine Rep.eInt hv fun _ => ?_ | refine Rep.eRef hv ?_ | refine Reps.eNil hv ?_ | refine Rep.eStr hv fun _ => ?_ | refine Rep.eBytes hv fun _ => ?_ | refine Rep.eBool hv ?_ | refine Rep.eNone hv ?_ | refine Rep.eTyp hv ?_ | refine Rep.eBi hv ?_ | cases hv); exact PyProof.Rows.isub_int (Post.here R (.int _ _) h)
theorem imul_ii {Q : V → St → Prop} (hm : IntMulOk a b) (h : Q (.int (a * b)) σ) : F2 G C (inplaceOp .Mult) (.int a) (.int b) σ Q := fun P W s u v R hu hv => by
  (first | refine Rep.eInt hu fun _ => ?_ | refine Rep.eRef hu ?_ | refine Reps.eNil hu ?_ | refine Rep.eStr hu fun _ => ?_ | refine Rep.eBytes hu fun _ => ?_ | refine Rep.eBool hu ?_ | refine Rep.eNone hu ?_ | refine Rep.eTyp hu ?_ | refine Rep.eBi hu ?_ | cases hu); (first | refine Rep.eInt hv fun _ => ?_ | refine Rep.eRef hv ?_ | refine Reps.eNil hv ?_ | refine Rep.eStr hv fun _ => ?_ | refine Rep.eBytes hv fun _ => ?_ | refine Rep.eBool hv ?_ | refine Rep.eNone hv ?_ | refine Rep.eTyp hv ?_ | refine Rep.eBi hv ?_ | cases hv); exact PyProof.Rows.imul_int (Post.here R (.int _ _) h) hm
theorem ilshift_ii {Q : V → St → Prop} (hb : 0 ≤ b) (hsz : (Builtin.Int.intBits a : Int) + b ≤ 2 ^ 27) (h : Q (.int (a * 2 ^ b.toNat)) σ) : F2 G C (inplaceOp .LShift) (.int a) (.int b) σ Q := fun P W s u v R hu hv => by
  (first | refine Rep.eInt hu fun _ => ?_ | refine Rep.eRef hu ?_ | refine Reps.eNil hu ?_ | refine Rep.eStr hu fun _ => ?_ | refine Rep.eBytes hu fun _ => ?_ | refine Rep.eBool hu ?_ | refine Rep.eNone hu ?_ | refine Rep.eTyp hu ?_ | refine Rep.eBi hu ?_ | cases hu); (first | refine Rep.eInt hv fun _ => ?_ | refine Rep.eRef hv ?_ | refine Reps.eNil hv ?_ | refine Rep.eStr hv fun _ => ?_ | refine Rep.eBytes hv fun _ => ?_ | refine Rep.eBool hv ?_ | refine Rep.eNone hv ?_ | refine Rep.eTyp hv ?_ | refine Rep.eBi hv ?_ | cases hv); exact PyProof.Rows.ilshift_int hb hsz (Post.here R (.int _ _) h)
theorem irshift_ii {Q : V → St → Prop} (hb : 0 ≤ b) (h : Q (.int (a.fdiv (2 ^ b.toNat))) σ) : F2 G C (inplaceOp .RShift) (.int a) (.int b) σ Q := fun P W s u v R hu hv => by
  (first | refine Rep.eInt hu fun _ => ?_ | refine Rep.eRef hu ?_ | refine Reps.eNil hu ?_ | refine Rep.eStr hu fun _ => ?_ | refine Rep.eBytes hu fun _ => ?_ | refine Rep.eBool hu ?_ | refine Rep.eNone hu ?_ | refine Rep.eTyp hu ?_ | refine Rep.eBi hu ?_ | cases hu); (first | refine Rep.eInt hv fun _ => ?_ | refine Rep.eRef hv ?_ | refine Reps.eNil hv ?_ | refine Rep.eStr hv fun _ => ?_ | refine Rep.eBytes hv fun _ => ?_ | refine Rep.eBool hv ?_ | refine Rep.eNone hv ?_ | refine Rep.eTyp hv ?_ | refine Rep.eBi hv ?_ | cases hv); exact PyProof.Rows.irshift_int hb (Post.here R (.int _ _) h)
theorem neg_i {Q : V → St → Prop} (h : Q (.int (-a)) σ) : F1 G C (unaryOp .USub) (.int a) σ Q := fun P W s u R hu => by
  (first | refine Rep.eInt hu fun _ => ?_ | refine Rep.eRef hu ?_ | refine Reps.eNil hu ?_ | refine Rep.eStr hu fun _ => ?_ | refine Rep.eBytes hu fun _ => ?_ | refine Rep.eBool hu ?_ | refine Rep.eNone hu ?_ | refine Rep.eTyp hu ?_ | refine Rep.eBi hu ?_ | cases hu); exact PyProof.Rows.neg_int (Post.here R (.int _ _) h)

theorem eq_ii {Q : V → St → Prop} (h : Q (.bool (a == b)) σ) : F2 G C (compareOp .Eq) (.int a) (.int b) σ Q := fun P W s u v R hu hv => by
  (first | refine Rep.eInt hu fun _ => ?_ | refine Rep.eRef hu ?_ | refine Reps.eNil hu ?_ | refine Rep.eStr hu fun _ => ?_ | refine Rep.eBytes hu fun _ => ?_ | refine Rep.eBool hu ?_ | refine Rep.eNone hu ?_ | refine Rep.eTyp hu ?_ | refine Rep.eBi hu ?_ | cases hu); (first | refine Rep.eInt hv fun _ => ?_ | refine Rep.eRef hv ?_ | refine Reps.eNil hv ?_ | refine Rep.eStr hv fun _ => ?_ | refine Rep.eBytes hv fun _ => ?_ | refine Rep.eBool hv ?_ | refine Rep.eNone hv ?_ | refine Rep.eTyp hv ?_ | refine Rep.eBi hv ?_ | cases hv); exact PyProof.Rows.eq_int (Post.here' R (.bool _) h)
theorem ne_ii {Q : V → St → Prop} (h : Q (.bool (a != b)) σ) : F2 G C (compareOp .NotEq) (.int a) (.int b) σ Q := fun P W s u v R hu hv => by
  (first | refine Rep.eInt hu fun _ => ?_ | refine Rep.eRef hu ?_ | refine Reps.eNil hu ?_ | refine Rep.eStr hu fun _ => ?_ | refine Rep.eBytes hu fun _ => ?_ | refine Rep.eBool hu ?_ | refine Rep.eNone hu ?_ | refine Rep.eTyp hu ?_ | refine Rep.eBi hu ?_ | cases hu); (first | refine Rep.eInt hv fun _ => ?_ | refine Rep.eRef hv ?_ | refine Reps.eNil hv ?_ | refine Rep.eStr hv fun _ => ?_ | refine Rep.eBytes hv fun _ => ?_ | refine Rep.eBool hv ?_ | refine Rep.eNone hv ?_ | refine Rep.eTyp hv ?_ | refine Rep.eBi hv ?_ | cases hv); exact PyProof.Rows.ne_int (Post.here' R (.bool _) h)
theorem lt_ii {Q : V → St → Prop} (h : Q (.bool (decide (a < b))) σ) : F2 G C (compareOp .Lt) (.int a) (.int b) σ Q := fun P W s u v R hu hv => by
  (first | refine Rep.eInt hu fun _ => ?_ | refine Rep.eRef hu ?_ | refine Reps.eNil hu ?_ | refine Rep.eStr hu fun _ => ?_ | refine Rep.eBytes hu fun _ => ?_ | refine Rep.eBool hu ?_ | refine Rep.eNone hu ?_ | refine Rep.eTyp hu ?_ | refine Rep.eBi hu ?_ | cases hu); (first | refine Rep.eInt hv fun _ => ?_ | refine Rep.eRef hv ?_ | refine Reps.eNil hv ?_ | refine Rep.eStr hv fun _ => ?_ | refine Rep.eBytes hv fun _ => ?_ | refine Rep.eBool hv ?_ | refine Rep.eNone hv ?_ | refine Rep.eTyp hv ?_ | refine Rep.eBi hv ?_ | cases hv); exact PyProof.Rows.lt_int (Post.here' R (.bool _) h)
theorem gt_ii {Q : V → St → Prop} (h : Q (.bool (decide (b < a))) σ) : F2 G C (compareOp .Gt) (.int a) (.int b) σ Q := fun P W s u v R hu hv => by
  (first | refine Rep.eInt hu fun _ => ?_ | refine Rep.eRef hu ?_ | refine Reps.eNil hu ?_ | refine Rep.eStr hu fun _ => ?_ | refine Rep.eBytes hu fun _ => ?_ | refine Rep.eBool hu ?_ | refine Rep.eNone hu ?_ | refine Rep.eTyp hu ?_ | refine Rep.eBi hu ?_ | cases hu); (first | refine Rep.eInt hv fun _ => ?_ | refine Rep.eRef hv ?_ | refine Reps.eNil hv ?_ | refine Rep.eStr hv fun _ => ?_ | refine Rep.eBytes hv fun _ => ?_ | refine Rep.eBool hv ?_ | refine Rep.eNone hv ?_ | refine Rep.eTyp hv ?_ | refine Rep.eBi hv ?_ | cases hv); exact PyProof.Rows.gt_int (Post.here' R (.bool _) h)
theorem le_ii {Q : V → St → Prop} (h : Q (.bool (decide (a ≤ b))) σ) : F2 G C (compareOp .LtE) (.int a) (.int b) σ Q := fun P W s u v R hu hv => by
  (first | refine Rep.eInt hu fun _ => ?_ | refine Rep.eRef hu ?_ | refine Reps.eNil hu ?_ | refine Rep.eStr hu fun _ => ?_ | refine Rep.eBytes hu fun _ => ?_ | refine Rep.eBool hu ?_ | refine Rep.eNone hu ?_ | refine Rep.eTyp hu ?_ | refine Rep.eBi hu ?_ | cases hu); (first | refine Rep.eInt hv fun _ => ?_ | refine Rep.eRef hv ?_ | refine Reps.eNil hv ?_ | refine Rep.eStr hv fun _ => ?_ | refine Rep.eBytes hv fun _ => ?_ | refine Rep.eBool hv ?_ | refine Rep.eNone hv ?_ | refine Rep.eTyp hv ?_ | refine Rep.eBi hv ?_ | cases hv); exact PyProof.Rows.le_int (Post.here' R (.bool _) h)
theorem truthy_b {c : Bool} {Q : Bool → St → Prop} (h : Q c σ) : B1 G C truthy (.bool c) σ Q := fun P W s u R hu => by
  (first | refine Rep.eInt hu fun _ => ?_ | refine Rep.eRef hu ?_ | refine Reps.eNil hu ?_ | refine Rep.eStr hu fun _ => ?_ | refine Rep.eBytes hu fun _ => ?_ | refine Rep.eBool hu ?_ | refine Rep.eNone hu ?_ | refine Rep.eTyp hu ?_ | refine Rep.eBi hu ?_ | cases hu); exact wpAny_truthy_bool (PostB.here' R h)

/-! ## displays, calls -/
theorem Ls_nil {pos : Pos} {Q : List V → St → Prop} (h : Q [] σ) : Ls G C (spliced (backTo pos (starEach [] C.env))) σ Q := fun P W s R =>
  spliced_nil ⟨[], σ, W, s.heap, s.toks, rfl, fun _ hp => hp, .nil, R, h⟩
theorem Ls_cons {e : Expr} {rest : List Expr} {pos : Pos} {Q : List V → St → Prop} (he : starEach (e :: rest) C.env = (false, eval e C.env) :: starEach rest C.env)
    (h : Ev G C (eval e C.env) σ (fun v σ₁ => Ls G C (spliced (backTo pos (starEach rest C.env))) σ₁ (fun vs σ₂ => Q (v :: vs) σ₂))) :
    Ls G C (spliced (backTo pos (starEach (e :: rest) C.env))) σ Q := fun P W s R => by
  rw [he]
  refine spliced_cons (wp_seq1 (h P W s R) fun v u σ₁ W₁ h₁ tk₁ w₁ r₁ R₁ q₁ => ?_)
  refine wp_seqL (q₁ P W₁ _ R₁) fun vs us σ₂ W₂ h₂ tk₂ w₂ r₂ R₂ q₂ => ?_
  exact ⟨v :: vs, σ₂, W₂, h₂, tk₂, rfl, fun p hp => w₂ p (w₁ p hp), .cons (r₁.mono w₂) r₂, R₂, q₂⟩

def mkTup (Q : V → St → Prop) (vs : List V) (σ : St) : Prop := vs.length ≤ 1000000 ∧ Q (.tup vs) σ
theorem mkTup_i {Q : V → St → Prop} {vs : List V} (h1 : vs.length ≤ 1000000) (h : Q (.tup vs) σ) : mkTup Q vs σ := ⟨h1, h⟩
theorem Ev_Tuple {es : List Expr} {k : Nat} {pos : Pos} {Q : V → St → Prop}
    (h : Ls G C (spliced (backTo pos (starEach es C.env))) σ (mkTup Q)) : Ev G C (eval (.Tuple es k pos) C.env) σ Q := fun P W s R => by
  refine Tuple_ (wp_seqL (h P W s R) fun vs us σ₁ W₁ h₁ tk₁ w₁ r₁ R₁ q₁ => ?_)
  obtain ⟨W₂, w₂, hm, R₂⟩ := R₁.tuple (vs := us) (n := 0)
  exact wpAny_newObj_type ⟨.tup vs, σ₁, W₂, _, _, rfl, fun p hp => w₂ p (w₁ p hp), .tup hm (r₁.mono w₂), R₂, q₁.2⟩
    (by show us.toArray.size ≤ sizeLine; rw [List.size_toArray, r₁.length, sizeLine_eq]; have := q₁.1; omega)
def mkLst (Q : V → St → Prop) (vs : List V) (σ : St) : Prop := vs.length ≤ 1000000 ∧ ∀ l, σ.hp l = none → Q (.ref l) ⟨σ.loc, updH σ.hp l (.lst vs)⟩
theorem mkLst_i {Q : V → St → Prop} {vs : List V} (h1 : vs.length ≤ 1000000) (h : ∀ l, σ.hp l = none → Q (.ref l) ⟨σ.loc, updH σ.hp l (.lst vs)⟩) : mkLst Q vs σ := ⟨h1, h⟩
theorem Ev_List {es : List Expr} {pos : Pos} {Q : V → St → Prop}
    (h : Ls G C (spliced (backTo pos (starEach es C.env))) σ (mkLst Q)) : Ev G C (eval (.List es pos) C.env) σ Q := fun P W s R => by
  refine List_ (wp_seqL (h P W s R) fun vs us σ₁ W₁ h₁ tk₁ w₁ r₁ R₁ q₁ => ?_)
  obtain ⟨hn, R₂⟩ := R₁.alloc (o := .lst vs) (ob := lstO us 0) ⟨us, 0, rfl, r₁⟩ rfl
  exact wpAny_newObj_type ⟨.ref _, _, W₁, _, _, rfl, w₁, .ref _, R₂, q₁.2 _ hn⟩
    (by show us.toArray.size ≤ sizeLine; rw [List.size_toArray, r₁.length, sizeLine_eq]; have := q₁.1; omega)

/-- a call of a plain name -/
theorem Ev_Call {f : Expr} {args : List Expr} {pos : Pos} {Q : V → St → Prop}
    (he : eval (.Call f args [] pos) C.env = (do callWith pos (← eval f C.env) [] (backTo pos (starEach args C.env)) []))
    (h : Ev G C (eval f C.env) σ (fun g σ₁ => F1 G C (fun fv => callWith pos fv [] (backTo pos (starEach args C.env)) []) g σ₁ Q)) :
    Ev G C (eval (.Call f args [] pos) C.env) σ Q :=
  ev_seq (f := fun fv => callWith pos fv [] (backTo pos (starEach args C.env)) []) (fun P W s R H => by rw [he]; exact wpAny_bind H) h

theorem callWith_bi {n : String} {e : Expr} {args : List Expr} {pos : Pos} {Q : V → St → Prop}
    (he : starEach (e :: args) C.env = (false, eval e C.env) :: starEach args C.env) (hplain : (backTo pos (starEach args C.env)).any (·.1) = false)
    (h : Ls G C (spliced (backTo pos (starEach (e :: args) C.env))) σ (fun vs σ₁ => FL G C (fun us => call (.builtin n) us) vs σ₁ Q)) :
    F1 G C (fun fv => callWith pos fv [] (backTo pos (starEach (e :: args) C.env)) []) (.bi n) σ Q := fun P W s u R hu => by
  (first | refine Rep.eInt hu fun _ => ?_ | refine Rep.eRef hu ?_ | refine Reps.eNil hu ?_ | refine Rep.eStr hu fun _ => ?_ | refine Rep.eBytes hu fun _ => ?_ | refine Rep.eBool hu ?_ | refine Rep.eNone hu ?_ | refine Rep.eTyp hu ?_ | refine Rep.eBi hu ?_ | cases hu)
  refine callWith_method1 (first := []) (wp_seqL (h P W s R) fun vs us σ₁ W₁ h₁ tk₁ w₁ r₁ R₁ q₁ => ?_) he hplain
  exact wpAny_mono (q₁ P W₁ _ _ R₁ r₁) (fun _ _ p => p.trans w₁) fun _ _ x => x

theorem callWith_ty {n : String} {e : Expr} {args : List Expr} {pos : Pos} {Q : V → St → Prop}
    (he : starEach (e :: args) C.env = (false, eval e C.env) :: starEach args C.env) (hplain : (backTo pos (starEach args C.env)).any (·.1) = false)
    (h : Ls G C (spliced (backTo pos (starEach (e :: args) C.env))) σ (fun vs σ₁ => FL G C (fun us => call (.type n) us) vs σ₁ Q)) :
    F1 G C (fun fv => callWith pos fv [] (backTo pos (starEach (e :: args) C.env)) []) (.typ n) σ Q := fun P W s u R hu => by
  (first | refine Rep.eInt hu fun _ => ?_ | refine Rep.eRef hu ?_ | refine Reps.eNil hu ?_ | refine Rep.eStr hu fun _ => ?_ | refine Rep.eBytes hu fun _ => ?_ | refine Rep.eBool hu ?_ | refine Rep.eNone hu ?_ | refine Rep.eTyp hu ?_ | refine Rep.eBi hu ?_ | cases hu)
  refine PyProof.Rows.callWith_type1 (wp_seqL (h P W s R) fun vs us σ₁ W₁ h₁ tk₁ w₁ r₁ R₁ q₁ => ?_) he hplain
  exact wpAny_mono (q₁ P W₁ _ _ R₁ r₁) (fun _ _ p => p.trans w₁) fun _ _ x => x

/-- a call of a def that the heap knows at every place of the walk -/
theorem callWith_fn {a : Addr} {e : Expr} {args : List Expr} {pos : Pos} {Q : V → St → Prop} 
    (he : starEach (e :: args) C.env = (false, eval e C.env) :: starEach args C.env) (hplain : (backTo pos (starEach args C.env)).any (·.1) = false)
    (h : Ls G C (spliced (backTo pos (starEach (e :: args) C.env))) σ (fun vs σ₁ => (∀ P W h, Rel C P W σ₁ h → ∃ o fd, h.get? a = some o ∧ o.data = .func fd) ∧ FL G C (fun us => call (.ref a) us) vs σ₁ Q)) :
    F1 G C (fun fv => callWith pos fv [] (backTo pos (starEach (e :: args) C.env)) []) (.ref a) σ Q := fun P W s u R hu => by
  (first | refine Rep.eInt hu fun _ => ?_ | refine Rep.eRef hu ?_ | refine Reps.eNil hu ?_ | refine Rep.eStr hu fun _ => ?_ | refine Rep.eBytes hu fun _ => ?_ | refine Rep.eBool hu ?_ | refine Rep.eNone hu ?_ | refine Rep.eTyp hu ?_ | refine Rep.eBi hu ?_ | cases hu)
  have key : ∀ (h : Heap), (∃ o fd, h.get? a = some o ∧ o.data = .func fd) → ∃ k, (k = Keeper.frame ∨ k = Keeper.machine ∨ k = Keeper.boundFrame) ∧ Looks (model G.prog G.w) h (keeperOf (.ref a)) k := by
    rintro h ⟨⟨oc, od, odt, osl⟩, fd, hg, hd⟩
    simp only at hd; subst hd
    exact ⟨.frame, .inl rfl, (Looks.ld (part := none) hg).andThen .now⟩
  have he' := he
  refine callWith_of (P := fun h => ∃ o fd, h.get? a = some o ∧ o.data = .func fd) ?_ key ?_
  · rw [he]; show ((false || (backTo pos (starEach args C.env)).any (·.1)) || false) = false; rw [hplain]; rfl
  · rw [he]
    refine evalArgs_plain ?_
    have h' := h P W s R
    rw [he] at h'
    refine wp_seqL h' fun vs us σ₁ W₁ h₁ tk₁ w₁ r₁ R₁ q₁ => ⟨q₁.1 P W₁ _ R₁, ?_⟩
    exact wpAny_mono (q₁.2 P W₁ _ _ R₁ r₁) (fun _ _ p => p.trans w₁) fun _ _ x => x

end
theorem lsv0 {P : List Value → Prop} {us : List Value} (h : us.length = 0) (k : P []) : P us := by rw [List.length_eq_zero_iff.mp h]; exact k
theorem lsvS {n : Nat} {P : List Value → Prop} {us : List Value} (h : us.length = n + 1) (k : ∀ a t, t.length = n → P (a :: t)) : P us := by
  cases us with
  | nil => cases h
  | cons a t => exact k a t (Nat.succ.inj h)
theorem lsv1 {P : List Value → Prop} {us : List Value} (h : us.length = 1) (k : ∀ x1, P [x1]) : P us := lsvS (n := 0) h fun x1 t ht => lsv0 (P := fun t => P (x1 :: t)) ht (k x1)
theorem lsv2 {P : List Value → Prop} {us : List Value} (h : us.length = 2) (k : ∀ x1 x2, P [x1, x2]) : P us := lsvS (n := 1) h fun x1 t ht => lsv1 (P := fun t => P (x1 :: t)) ht (k x1)
theorem lsv3 {P : List Value → Prop} {us : List Value} (h : us.length = 3) (k : ∀ x1 x2 x3, P [x1, x2, x3]) : P us := lsvS (n := 2) h fun x1 t ht => lsv2 (P := fun t => P (x1 :: t)) ht (k x1)
theorem lsv4 {P : List Value → Prop} {us : List Value} (h : us.length = 4) (k : ∀ x1 x2 x3 x4, P [x1, x2, x3, x4]) : P us := lsvS (n := 3) h fun x1 t ht => lsv3 (P := fun t => P (x1 :: t)) ht (k x1)
theorem lsv5 {P : List Value → Prop} {us : List Value} (h : us.length = 5) (k : ∀ x1 x2 x3 x4 x5, P [x1, x2, x3, x4, x5]) : P us := lsvS (n := 4) h fun x1 t ht => lsv4 (P := fun t => P (x1 :: t)) ht (k x1)
theorem lsv6 {P : List Value → Prop} {us : List Value} (h : us.length = 6) (k : ∀ x1 x2 x3 x4 x5 x6, P [x1, x2, x3, x4, x5, x6]) : P us := lsvS (n := 5) h fun x1 t ht => lsv5 (P := fun t => P (x1 :: t)) ht (k x1)
theorem lsb1 {fd} {ns : List Str} {us : List Value} (h : us.length = 1) (k : ∀ x1, bindArgs fd ⟨[x1], []⟩ = pure (ns.zip [x1])) : bindArgs fd ⟨us, []⟩ = pure (ns.zip us) := lsv1 (P := fun us => bindArgs fd ⟨us, []⟩ = pure (ns.zip us)) h k
theorem lsb2 {fd} {ns : List Str} {us : List Value} (h : us.length = 2) (k : ∀ x1 x2, bindArgs fd ⟨[x1, x2], []⟩ = pure (ns.zip [x1, x2])) : bindArgs fd ⟨us, []⟩ = pure (ns.zip us) := lsv2 (P := fun us => bindArgs fd ⟨us, []⟩ = pure (ns.zip us)) h k
theorem lsb3 {fd} {ns : List Str} {us : List Value} (h : us.length = 3) (k : ∀ x1 x2 x3, bindArgs fd ⟨[x1, x2, x3], []⟩ = pure (ns.zip [x1, x2, x3])) : bindArgs fd ⟨us, []⟩ = pure (ns.zip us) := lsv3 (P := fun us => bindArgs fd ⟨us, []⟩ = pure (ns.zip us)) h k
theorem lsb4 {fd} {ns : List Str} {us : List Value} (h : us.length = 4) (k : ∀ x1 x2 x3 x4, bindArgs fd ⟨[x1, x2, x3, x4], []⟩ = pure (ns.zip [x1, x2, x3, x4])) : bindArgs fd ⟨us, []⟩ = pure (ns.zip us) := lsv4 (P := fun us => bindArgs fd ⟨us, []⟩ = pure (ns.zip us)) h k
theorem lsb5 {fd} {ns : List Str} {us : List Value} (h : us.length = 5) (k : ∀ x1 x2 x3 x4 x5, bindArgs fd ⟨[x1, x2, x3, x4, x5], []⟩ = pure (ns.zip [x1, x2, x3, x4, x5])) : bindArgs fd ⟨us, []⟩ = pure (ns.zip us) := lsv5 (P := fun us => bindArgs fd ⟨us, []⟩ = pure (ns.zip us)) h k
theorem lsb6 {fd} {ns : List Str} {us : List Value} (h : us.length = 6) (k : ∀ x1 x2 x3 x4 x5 x6, bindArgs fd ⟨[x1, x2, x3, x4, x5, x6], []⟩ = pure (ns.zip [x1, x2, x3, x4, x5, x6])) : bindArgs fd ⟨us, []⟩ = pure (ns.zip us) := lsv6 (P := fun us => bindArgs fd ⟨us, []⟩ = pure (ns.zip us)) h k
/-- what a call of the function at `a` gives back -/
def CallOk (G : GE) (a : Addr) (dep : Nat) (args : List V) (hp : Hp) (Q : V → Hp → Prop) : Prop :=
  ∀ (sc : Scope) (C : Act sc), C.Ok G → C.A.depth + dep ≤ 600 → C.A.units + 8 * dep ≤ 6000 → ∀ loc, FL G C (fun us => call (.ref a) us) args ⟨loc, hp⟩ (fun v σ' => σ'.loc = loc ∧ Q v σ'.hp)
/-- .. and of the top's def of that name -/
def FnOk (G : GE) (f : Str) (dep : Nat) (args : List V) (hp : Hp) (Q : V → Hp → Prop) : Prop := ∀ a, G.mg f = some (.ref a) → CallOk G a dep args hp Q

def retOf (Q : V → Hp → Prop) (fl : Fl) (σ : St) : Prop := match fl with
  | .ret v => Q v σ.hp
  | .next => Q .none σ.hp
  | _ => False

theorem nodup_rev {α : Type} {l : List α} (h : l.Nodup) : l.reverse.Nodup := by
  unfold List.Nodup at h ⊢
  rw [List.pairwise_reverse]
  exact h.imp fun q => q.symm

theorem lookup_binds {names : List Str} {us : List Value} : ∀ {xs : List V} {W : Led}, Reps W xs us → names.length = xs.length → names.Nodup → ∀ x v, lk (names.zip xs) x = some v → ∃ u, (names.zip us).reverse.lookup x = some u ∧ Rep W v u := by
  intro xs W h
  have key : ∀ (names : List Str) (xs : List V) (us : List Value), Reps W xs us → names.length = xs.length → names.Nodup → ∀ x v, lk (names.zip xs) x = some v → ∃ u, (x, u) ∈ names.zip us ∧ Rep W v u := by
    intro names xs us h
    induction h using Reps.rec (motive_1 := fun _ _ _ => True) generalizing names with
    | nil => intro _ _ x v e; simp [lk] at e
    | cons hx hr _ ih =>
      intro hl nd x v e
      cases names with
      | nil => simp at hl
      | cons n names =>
        simp only [List.zip_cons_cons, lk] at e
        split at e
        · rename_i q; cases e; subst q; exact ⟨_, .head _, hx⟩
        · obtain ⟨u, hm, r⟩ := ih names (by simpa using hl) (List.nodup_cons.mp nd).2 x v e
          exact ⟨u, .tail _ hm, r⟩
    | _ => trivial
  intro hl nd x v e
  obtain ⟨u, hm, r⟩ := key names xs us h hl nd x v e
  refine ⟨u, ?_, r⟩
  have nd' : ((names.zip us).reverse.map (·.1)).Nodup := by
    rw [List.map_reverse, List.map_fst_zip (by rw [h.length]; omega)]; exact nodup_rev nd
  have look : ∀ (l : List (Str × Value)), (l.map (·.1)).Nodup → (x, u) ∈ l → l.lookup x = some u := by
    intro l
    induction l with
    | nil => intro _ h; cases h
    | cons p l ih =>
      intro nd h
      obtain ⟨y, w⟩ := p
      rw [List.lookup_cons]
      rw [List.map_cons, List.nodup_cons] at nd
      rcases List.mem_cons.mp h with h2 | h2
      · cases h2; simp
      · have hne : (x == y) = false := by
          rw [beq_eq_false_iff_ne]; intro q; subst q; exact nd.1 (List.mem_map.mpr ⟨(x, u), h2, rfl⟩)
        simp only [hne]; exact ih nd.2 h2
  exact look _ nd' (List.mem_reverse.mpr hm)

theorem zip_bindL {W : Led} {kindOf : Str → Option NameKind} : ∀ {names : List Str} {xs : List V} {us : List Value}, Reps W xs us → names.Nodup → ∀ (m cm : Str → Option Value) (x : Str),
    (x ∉ names → bindL kindOf (names.zip us) m x = m x ∧ bindC kindOf (names.zip us) cm x = cm x) ∧
    (∀ v, lk (names.zip xs) x = some v → (kindOf x = some .local → ∃ u, bindL kindOf (names.zip us) m x = some u ∧ Rep W v u) ∧ (kindOf x ≠ some .local → ∃ u, bindC kindOf (names.zip us) cm x = some u ∧ Rep W v u)) := by
  intro names xs us h nd
  induction names generalizing xs us with
  | nil => intro m cm x; exact ⟨fun _ => ⟨rfl, rfl⟩, fun v e => by cases xs <;> simp [lk] at e⟩
  | cons n names ih =>
    intro m cm x
    rw [List.nodup_cons] at nd
    cases h with
    | nil => exact ⟨fun _ => ⟨rfl, rfl⟩, fun v e => by simp [lk] at e⟩
    | @cons y u xs us hy r =>
      have ih' := ih r nd.2 (if kindOf n = some .local then fun y => if y = n then some u else m y else m) (if kindOf n = some .local then cm else fun y => if y = n then some u else cm y) x
      refine ⟨fun hx => ?_, fun v e => ?_⟩
      · have hn : x ≠ n := fun q => hx (by rw [q]; exact .head _)
        obtain ⟨e1, e2⟩ := ih'.1 fun q => hx (.tail _ q)
        refine ⟨e1.trans ?_, e2.trans ?_⟩
        · by_cases k : kindOf n = some .local
          · rw [if_pos k]; exact if_neg hn
          · rw [if_neg k]
        · by_cases k : kindOf n = some .local
          · rw [if_pos k]
          · rw [if_neg k]; exact if_neg hn
      · simp only [List.zip_cons_cons, lk] at e
        by_cases q : x = n
        · rw [if_pos q] at e; cases e; subst q
          obtain ⟨e1, e2⟩ := ih'.1 nd.1
          refine ⟨fun k => ⟨u, e1.trans ?_, hy⟩, fun k => ⟨u, e2.trans ?_, hy⟩⟩
          · rw [if_pos k]; exact if_pos rfl
          · rw [if_neg k]; exact if_pos rfl
        · rw [if_neg q] at e
          exact ih'.2 v e

theorem cellsFrom_lt : ∀ (names : List (Str × NameKind)) (n : Nat) (acc : List (Str × Addr)), (∀ p ∈ acc, p.2 < n) → (acc.map (·.2)).Nodup → ∀ lo, lo ≤ n → (∀ p ∈ acc, lo ≤ p.2) →
    ((cellsFrom n names acc).map (·.2)).Nodup ∧ ∀ p ∈ cellsFrom n names acc, lo ≤ p.2
  | [], n, acc, _, h2, lo, _, h3 => ⟨h2, h3⟩
  | (x, k) :: r, n, acc, h1, h2, lo, hlo, h3 => by
    unfold cellsFrom
    split
    · refine cellsFrom_lt r (n + 1) ((x, n) :: acc) ?_ ?_ lo (by omega) ?_
      · intro p hp
        rcases List.mem_cons.mp hp with rfl | hp
        · exact Nat.lt_succ_self n
        · exact Nat.lt_succ_of_lt (h1 p hp)
      · rw [List.map_cons, List.nodup_cons]
        refine ⟨fun hm => ?_, h2⟩
        obtain ⟨p, hp, e⟩ := List.mem_map.mp hm
        exact absurd (h1 p hp) (by rw [show p.2 = n from e]; exact Nat.lt_irrefl _)
      · intro p hp
        rcases List.mem_cons.mp hp with rfl | hp
        · exact hlo
        · exact h3 p hp
    · exact cellsFrom_lt r n acc h1 h2 lo hlo h3
theorem CellsAre.get {cm : Str → Option Value} : ∀ {cs : List (Str × Addr)} {cells : Led}, CellsAre cm cs cells → ∀ n c, (n, c) ∈ cs → ∃ o, (c, o) ∈ cells ∧ o.data = .cell (cm n)
  | _, _, .nil, _, _, h => nomatch h
  | _, _, .cons hd r, n, c, h => by
    rcases List.mem_cons.mp h with h | h
    · cases h; exact ⟨_, .head _, hd⟩
    · obtain ⟨o, hm, e⟩ := CellsAre.get r n c h; exact ⟨o, .tail _ hm, e⟩
theorem CellsAre.keys {cm : Str → Option Value} : ∀ {cs : List (Str × Addr)} {cells : Led}, CellsAre cm cs cells → cells.map (·.1) = cs.map (·.2)
  | _, _, .nil => rfl
  | _, _, .cons _ r => by simp [CellsAre.keys r]
theorem CellsAre.isc {cm : Str → Option Value} : ∀ {cs : List (Str × Addr)} {cells : Led}, CellsAre cm cs cells → ∀ p ∈ cells, ∃ u, p.2.data = .cell u
  | _, _, .nil, _, h => nomatch h
  | _, _, .cons hd r, p, h => by
    rcases List.mem_cons.mp h with rfl | h
    · exact ⟨_, hd⟩
    · exact CellsAre.isc r p h
theorem mem_of_lookup' {α : Type} : ∀ {l : List (Str × α)} {x : Str} {a : α}, l.lookup x = some a → (x, a) ∈ l
  | (y, b) :: l, x, a, h => by
    rw [List.lookup_cons] at h
    by_cases q : (x == y) = true
    · rw [q] at h; cases h; rw [eq_of_beq q]; exact .head _
    · rw [Bool.not_eq_true] at q; rw [q] at h; exact .tail _ (mem_of_lookup' h)
theorem Ns_unique {h : Heap} {a : Addr} {m m' : Str → Option Value} (x : h.Ns a m) (y : h.Ns a m') : m = m' := by
  obtain ⟨o, es, ep, h1, h2, _, h3⟩ := x
  obtain ⟨o', es', ep', h1', h2', _, h3'⟩ := y
  rw [h1] at h1'; cases h1'
  rw [h2] at h2'; cases h2'
  exact funext fun n => (h3 n).symm.trans (h3' n)

/-- a def's own activation -/
inductive OwnCl {sc : Scope} (C : Act sc) : Prop
  | mk (hz : C.fz = none ∧ C.L = C.FL) (L' : Nat) (e : C.cl = cellsFrom (L' + 1) sc.names []) : OwnCl C

section
variable {G : GE} {a : Addr} {dep : Nat} {args : List V} {hp : Hp} {Q : V → Hp → Prop}

/-- the ledger that a callee is handed: the caller's heap, and all else of the caller's pinned -/
theorem RelX.hand {sc : Scope} {C : Act sc} {P W : Led} {σ : St} {h : Heap} {mf ml : Str → Option Value} {D Cc : Led} (R : RelX C P W σ h mf ml D Cc) :
    ∃ Pc : Led, News C.g C.FL h (D ++ (Pc ++ W)) ∧ (∀ p ∈ D, ∀ q ∈ Pc ++ W, p.1 ≠ q.1) ∧ (∀ p ∈ Pc, ∀ q ∈ W, p.1 ≠ q.1) ∧ (Pc.map (·.1)).Nodup ∧ (D.map (·.1)).Nodup ∧
      ∀ (W' D' : Led) (h' : Heap) (σ' : St), (∀ p ∈ W, p ∈ W') → Fr C.g C.FL h' mf → News C.g C.FL h' (D' ++ (Pc ++ W')) → (D'.map (·.1)).Nodup → (∀ p ∈ D', ∀ q ∈ Pc ++ W', p.1 ≠ q.1) → (∀ p ∈ Pc, ∀ q ∈ W', p.1 ≠ q.1) →
        (∀ a o, σ'.hp a = some o → ∃ ob, (a, ob) ∈ D' ∧ RepH W' o ob) → Rel C P W' ⟨σ.loc, σ'.hp⟩ h' := by
  have dC : ∀ p ∈ D, ∀ q ∈ Cc, p.1 ≠ q.1 := nodup_apart R.nd
  have ndD : (D.map (·.1)).Nodup := by have := R.nd; rw [List.map_append, List.nodup_append] at this; exact this.1
  have ndC : (Cc.map (·.1)).Nodup := by have := R.nd; rw [List.map_append, List.nodup_append] at this; exact this.2.1
  obtain ⟨oL, es, ep, hL, hLd, hLk, hLf⟩ := id R.ns
  by_cases q : C.L = C.FL
  · refine ⟨Cc ++ P, fun p hp => R.N p ?_, fun p hp r hr => ?_, fun p hp r hr => ?_, ?_, ndD, fun W' D' h' σ' hw F' N' nd' ap' pw' hh => ?_⟩
    · simp only [List.mem_append] at hp ⊢; rcases hp with hp | (hp | hp) | hp <;> simp [hp]
    · simp only [List.mem_append] at hr
      rcases hr with (hr | hr) | hr
      · exact dC p hp r hr
      · exact R.ap p (List.mem_append_left _ hp) r (List.mem_append_left _ hr)
      · exact R.ap p (List.mem_append_left _ hp) r (List.mem_append_right _ hr)
    · rcases List.mem_append.mp hp with hp | hp
      · exact R.ap p (List.mem_append_right _ hp) r (List.mem_append_right _ hr)
      · exact R.pw p hp r hr
    · rw [List.map_append, List.nodup_append]
      refine ⟨ndC, R.pnd, fun a ha b hb => ?_⟩
      obtain ⟨p, hp, rfl⟩ := List.mem_map.mp ha
      obtain ⟨r, hr, rfl⟩ := List.mem_map.mp hb
      exact R.ap p (List.mem_append_right _ hp) r (List.mem_append_left _ hr)
    · have eml : ml = mf := Ns_unique (q ▸ R.ns) R.F.ns
      refine ⟨mf, ml, D', Cc, { F := F', ns := by rw [q, eml]; exact F'.ns, N := fun p hp => N' p (by simp only [List.mem_append] at hp ⊢; rcases hp with (hp | hp) | (hp | hp) <;> simp [hp]), nd := ?_, ap := fun p hp r hr => ?_, pw := fun p hp r hr => pw' p (List.mem_append_right _ hp) r hr, pnd := R.pnd, kw := fun p hp => hw p (R.kw p hp), isc := R.isc, fix := R.fix, left := R.left, own := .inl q, cells := R.cells, inj := R.inj, loc := fun x v e => (R.loc x v e).mono hw, hp := hh }⟩
      · rw [List.map_append, List.nodup_append]
        refine ⟨nd', ndC, fun a ha b hb => ?_⟩
        obtain ⟨p, hp, rfl⟩ := List.mem_map.mp ha
        obtain ⟨r, hr, rfl⟩ := List.mem_map.mp hb
        exact ap' p hp r (List.mem_append_left _ (List.mem_append_left _ hr))
      · rcases List.mem_append.mp hp with hp | hp
        · rcases List.mem_append.mp hr with hr | hr
          · exact ap' p hp r (List.mem_append_left _ (List.mem_append_right _ hr))
          · exact ap' p hp r (List.mem_append_right _ hr)
        · rcases List.mem_append.mp hr with hr | hr
          · exact R.ap p (List.mem_append_right _ hp) r (List.mem_append_left _ hr)
          · exact pw' p (List.mem_append_left _ hp) r hr
  · obtain ⟨_, hgL, hall⟩ := R.own.resolve_left q
    have hLn : (C.L, oL) ∉ D := fun hm => hall _ (List.mem_append_left _ (List.mem_append_left _ hm)) rfl
    refine ⟨(C.L, oL) :: (Cc ++ P), fun p hp => ?_, fun p hp r hr => ?_, fun p hp r hr => ?_, ?_, ndD, fun W' D' h' σ' hw F' N' nd' ap' pw' hh => ?_⟩
    · simp only [List.mem_append, List.mem_cons] at hp
      rcases hp with hp | (rfl | hp | hp) | hp
      · exact R.N p (by simp [hp])
      · exact ⟨hL, q, hgL⟩
      · exact R.N p (by simp [hp])
      · exact R.N p (by simp [hp])
      · exact R.N p (by simp [hp])
    · simp only [List.mem_append, List.mem_cons] at hr
      rcases hr with (rfl | hr | hr) | hr
      · exact hall p (by simp [hp])
      · exact dC p hp r hr
      · exact R.ap p (List.mem_append_left _ hp) r (List.mem_append_left _ hr)
      · exact R.ap p (List.mem_append_left _ hp) r (List.mem_append_right _ hr)
    · simp only [List.mem_append, List.mem_cons] at hp
      rcases hp with rfl | hp | hp
      · exact (hall r (by simp [hr])).symm
      · exact R.ap p (List.mem_append_right _ hp) r (List.mem_append_right _ hr)
      · exact R.pw p hp r hr
    · rw [List.map_cons, List.nodup_cons]
      refine ⟨fun hm => ?_, ?_⟩
      · obtain ⟨p, hp, e⟩ := List.mem_map.mp hm
        refine hall p ?_ e
        simp only [List.mem_append] at hp ⊢
        rcases hp with hp | hp <;> simp [hp]
      · rw [List.map_append, List.nodup_append]
        refine ⟨ndC, R.pnd, fun a ha b hb => ?_⟩
        obtain ⟨p, hp, rfl⟩ := List.mem_map.mp ha
        obtain ⟨r, hr, rfl⟩ := List.mem_map.mp hb
        exact R.ap p (List.mem_append_right _ hp) r (List.mem_append_left _ hr)
    · have hL' := (N' (C.L, oL) (List.mem_append_right _ (List.mem_append_left _ (.head _)))).1
      refine ⟨mf, ml, D', Cc, { F := F', ns := ⟨oL, es, ep, hL', hLd, hLk, hLf⟩, N := fun p hp => N' p (by simp only [List.mem_append, List.mem_cons] at hp ⊢; rcases hp with (hp | hp) | (hp | hp) <;> simp [hp]), nd := ?_, ap := fun p hp r hr => ?_, pw := fun p hp r hr => pw' p (.tail _ (List.mem_append_right _ hp)) r hr, pnd := R.pnd, kw := fun p hp => hw p (R.kw p hp), isc := R.isc, fix := R.fix, left := R.left, own := .inr ⟨q, hgL, fun p hp => ?_⟩, cells := R.cells, inj := R.inj, loc := fun x v e => (R.loc x v e).mono hw, hp := hh }⟩
      · rw [List.map_append, List.nodup_append]
        refine ⟨nd', ndC, fun a ha b hb => ?_⟩
        obtain ⟨p, hp, rfl⟩ := List.mem_map.mp ha
        obtain ⟨r, hr, rfl⟩ := List.mem_map.mp hb
        exact ap' p hp r (List.mem_append_left _ (.tail _ (List.mem_append_left _ hr)))
      · rcases List.mem_append.mp hp with hp | hp
        · rcases List.mem_append.mp hr with hr | hr
          · exact ap' p hp r (List.mem_append_left _ (.tail _ (List.mem_append_right _ hr)))
          · exact ap' p hp r (List.mem_append_right _ hr)
        · rcases List.mem_append.mp hr with hr | hr
          · exact R.ap p (List.mem_append_right _ hp) r (List.mem_append_left _ hr)
          · exact pw' p (.tail _ (List.mem_append_left _ hp)) r hr
      · simp only [List.mem_append] at hp
        rcases hp with (hp | hp) | (hp | hp)
        · exact ap' p hp (C.L, oL) (List.mem_append_left _ (.head _))
        · exact hall p (by simp [hp])
        · exact hall p (by simp [hp])
        · exact (pw' (C.L, oL) (.head _) p hp).symm

/-- what a callee's end means for the caller -/
theorem leave_to {sc sc' : Scope} {C : Act sc} {C' : Act sc'} {P W Pc : Led} {loc : Loc} {h : Heap} {mf : Str → Option Value} {s : Shared} {tk : Nat}
    (back : ∀ (W' D' : Led) (h' : Heap) (σ' : St), (∀ p ∈ W, p ∈ W') → Fr C.g C.FL h' mf → News C.g C.FL h' (D' ++ (Pc ++ W')) → (D'.map (·.1)).Nodup → (∀ p ∈ D', ∀ q ∈ Pc ++ W', p.1 ≠ q.1) → (∀ p ∈ Pc, ∀ q ∈ W', p.1 ≠ q.1) →
        (∀ a o, σ'.hp a = some o → ∃ ob, (a, ob) ∈ D' ∧ RepH W' o ob) → Rel C P W' ⟨loc, σ'.hp⟩ h')
    {R : Result → Shared → Prop} (hR : ∀ (v : V) (u : Value) (σ' : St) (W' : Led) (h' : Heap) (tk' : Nat), (∀ p ∈ W, p ∈ W') → Rep W' v u → Rel C P W' ⟨loc, σ'.hp⟩ h' → Q v σ'.hp → R (.ok (.ret u)) { s with heap := h', toks := tk' })
    {fl : Flow} {s' : Shared} (H : PostS C' Pc W { s with heap := h, toks := tk } (retOf Q) fl s') :
    LeaveK C.g C.FL mf C'.g R (match (generalizing := false) fl with | .ret v => v | _ => .none) s' := by
  obtain ⟨fl', σ', W', h', tk', e, w, r, R₂, q⟩ := H
  subst e
  obtain ⟨mm₂, ml₂, D₂, Cc₂, R₂⟩ := R₂
  have nd₂ : (D₂.map (·.1)).Nodup := by have := R₂.nd; rw [List.map_append, List.nodup_append] at this; exact this.1
  refine ⟨C'.FL, mm₂, D₂ ++ (Pc ++ W'), R₂.F, fun p hp => R₂.N p (by simp only [List.mem_append] at hp ⊢; rcases hp with hp | hp | hp <;> simp [hp]), fun Fc Nc => ?_⟩
  have RC := back W' D₂ h' σ' w Fc Nc nd₂ (fun p hp q hq => R₂.ap p (List.mem_append_left _ hp) q hq) R₂.pw R₂.hp
  cases fl with
  | ret u => cases fl' with
    | ret v => exact hR v u σ' W' h' tk' w r RC q
    | _ => exact r.elim
  | next => cases fl' with
    | next => exact hR .none .none σ' W' h' tk' w .none RC q
    | _ => exact r.elim
  | brk => cases fl' with
    | brk => exact q.elim
    | _ => exact r.elim
  | cont => cases fl' with
    | cont => exact q.elim
    | _ => exact r.elim

/-- the call of a plain function object, cells of its own or none -/
theorem FL_cells {sc : Scope} {C : Act sc} {loc : Loc} (O : C.Ok G) (hd : C.A.depth + (dep + 1) ≤ 600) (hu : C.A.units + 8 * (dep + 1) ≤ 6000) {name qual : Str} {params : Arguments} {body : List Stmt} {scope : Scope} {dV kV doc pm cdv ct : Value} {an : Option Addr} (names : List Str)
    (hfun : ∀ P W h, Rel C P W ⟨loc, hp⟩ h → ∃ fo, h.get? a = some fo ∧ fo.data = .func (fnX name qual params body scope [] dV kV doc pm an cdv ct) ∧ h.CodeRec cdv qual)
    (hbind : ∀ us : List Value, us.length = args.length → bindArgs (fnX name qual params body scope [] dV kV doc pm an cdv ct) ⟨us, []⟩ = pure (names.zip us))
    (hn : names.length = args.length) (nd : names.Nodup) (hloc : (names.all fun x => scope.names.lookup x == some .local || scope.names.lookup x == some .cell) = true)
    (hnd : ((cellsFrom 0 scope.names []).map (·.1)).Nodup) (hco : scope.isCoroutine = false) (hgen : scope.isGenerator = false) (hk : scope.kind = .function)
    (hbody : ∀ C' : Act scope, C'.Ok G → OwnCl C' → (C'.L = C'.FL ∧ C'.env = envX qual scope C'.FL a cdv C'.cl) → C'.A.depth + dep ≤ 600 → C'.A.units + 8 * dep ≤ 6000 → Sx G C' (execs body C'.env) ⟨names.zip args, hp⟩ (retOf Q)) :
    FL G C (fun us => call (.ref a) us) args ⟨loc, hp⟩ (fun v σ' => σ'.loc = loc ∧ Q v σ'.hp) := by
  intro P W s us R hus
  obtain ⟨fo, hg, hdat, hcode⟩ := hfun P W _ R
  have T := O.top
  obtain ⟨mf, ml, D, Cc, R⟩ := R
  obtain ⟨Pc, N, ap, pw, pnd, ndD, back⟩ := R.hand
  obtain ⟨A₀, B⟩ := O.below
  have hkind : ((names.zip us).all fun y => scope.names.lookup y.1 == some .local || scope.names.lookup y.1 == some .cell) = true := by
    rw [List.all_eq_true] at hloc ⊢
    exact fun y hy => hloc _ (List.of_mem_zip hy).1
  refine wpAny_call (callX_cells B R.F N T.nolimit O.frames O.fframe O.fkind hg hdat hcode (by have := O.depth; show C.A.depth < 1000; omega)
    (BindsTo.of_eq (hbind us (by rw [hus.length]))) (kindsX hkind) hnd (fun g L' h₁ tk cells FG F' N' Y B' st lt => ?_) hco hgen hk)
  let C' : Act scope := ⟨C.A.deeper (envOfC qual scope L' a cdv), g, C.base, C.fenv :: C.outer, envOfC qual scope L' a cdv, L', L', qual ++ ".<locals>.", some a, cdv, cellsFrom (L' + 1) scope.names [], [], none⟩
  have O' : C'.Ok G := ⟨Around.frames_deeper O.frames, rfl, hk, hk, ⟨_, B'⟩, O.handled, T.keeps st, by show C.A.depth + 1 ≤ 600; omega, by show C.A.units + 3 ≤ 6000; omega⟩
  obtain ⟨cnd, clo⟩ := cellsFrom_lt scope.names (L' + 1) [] (by simp) (by simp) (L' + 1) (Nat.le_refl _) (by simp)
  have key : ∀ p ∈ cells, L' + 1 ≤ p.1 := fun p hp => by
    have : p.1 ∈ cells.map (·.1) := List.mem_map_of_mem hp
    rw [CellsAre.keys Y] at this
    obtain ⟨q, hq, e⟩ := List.mem_map.mp this
    rw [← e]; exact clo q hq
  have low : ∀ p ∈ D ++ (Pc ++ W), ∀ q ∈ cells, p.1 ≠ q.1 := fun p hp q hq => by
    have h1 : @LT.lt Nat _ p.1 L' := lt p hp
    have h2 : @LE.le Nat _ (L' + 1) q.1 := key q hq
    exact Nat.ne_of_lt (by omega)
  have R' : Rel C' Pc W ⟨names.zip args, hp⟩ h₁ := ⟨_, _, D, cells, { F := F', ns := F'.ns, N := fun p hp => N' p (by simp only [List.mem_append] at hp ⊢; rcases hp with (hp | hp) | (hp | hp) <;> simp [hp]), nd := ?_, ap := fun p hp q hq => ?_, pw := pw, pnd := pnd, kw := fun _ h => (nomatch h), isc := CellsAre.isc Y, fix := fun _ h => (nomatch h), left := fun _ => rfl, own := .inl rfl, cells := fun x c e hc => ?_, inj := fun x y c _ _ ex ey => ?_, loc := fun x v e => ⟨fun k => ?_, fun k => ?_⟩, hp := R.hp }⟩
  · refine wpAny_mono (hbody C' O' ⟨⟨rfl, rfl⟩, _, rfl⟩ ⟨rfl, rfl⟩ (by show C.A.depth + 1 + dep ≤ 600; omega) (by show C.A.units + 3 + 8 * dep ≤ 6000; omega) Pc W _ R') (fun fl s' H => ?_) (fun _ _ x => x.elim)
    exact leave_to (C := C) (C' := C') (loc := loc) (R := fun r s' => match r with | .ok (.ret v) => Post C P W s (fun v σ' => σ'.loc = loc ∧ Q v σ'.hp) v s' | .ok _ => False | .error e => NoE e s') back (fun v u σ' W' h' tk' w r RC q => ⟨v, ⟨loc, σ'.hp⟩, W', h', tk', rfl, w, r, RC, rfl, q⟩) H
  · rw [List.map_append, List.nodup_append]
    refine ⟨ndD, by rw [CellsAre.keys Y]; exact cnd, fun a ha b hb => ?_⟩
    obtain ⟨p, hp, rfl⟩ := List.mem_map.mp ha
    obtain ⟨q, hq, rfl⟩ := List.mem_map.mp hb
    exact low p (List.mem_append_left _ hp) q hq
  · rcases List.mem_append.mp hp with hp | hp
    · exact ap p hp q hq
    · exact (low q (List.mem_append_right _ hq) p hp).symm
  · obtain ⟨o, hm, hd⟩ := CellsAre.get Y x c (mem_of_lookup' hc)
    exact ⟨o, _, hm, hd⟩
  · have hx := mem_of_lookup' ex
    have hy := mem_of_lookup' ey
    by_cases q : x = y
    · exact q
    · exfalso
      have inj : ∀ (l : List (Str × Addr)), (l.map (·.2)).Nodup → (x, c) ∈ l → (y, c) ∈ l → False := by
        intro l
        induction l with
        | nil => intro _ h; cases h
        | cons p l ih =>
          intro nd h1 h2
          rw [List.map_cons, List.nodup_cons] at nd
          rcases List.mem_cons.mp h1 with h1 | h1
          · rcases List.mem_cons.mp h2 with h2 | h2
            · rw [← h1] at h2; exact q (congrArg Prod.fst h2).symm
            · exact nd.1 (List.mem_map.mpr ⟨_, h2, by rw [← h1]⟩)
          · rcases List.mem_cons.mp h2 with h2 | h2
            · exact nd.1 (List.mem_map.mpr ⟨_, h1, by rw [← h2]⟩)
            · exact ih nd.2 h1 h2
      exact inj _ cnd hx hy
  · exact ((zip_bindL (kindOf := C'.env.kindOf) hus nd (fun _ => none) (fun _ => none) x).2 v e).1 k
  · obtain ⟨u, hu, r⟩ := ((zip_bindL (kindOf := C'.env.kindOf) hus nd (fun _ => none) (fun _ => none) x).2 v e).2 (by show scope.names.lookup x ≠ _; rw [k]; simp)
    have hsome := cellsFrom_some (x := x) scope.names (L' + 1) [] (.inl k)
    obtain ⟨c, hc⟩ := Option.isSome_iff_exists.mp hsome
    obtain ⟨o, hm, hd⟩ := CellsAre.get Y x c (mem_of_lookup' hc)
    exact ⟨c, o, u, hc, hm, hd.trans (congrArg _ hu), r⟩

/-- a def of the top -/
theorem FnOk.of {f : Str} {params : Arguments} {body : List Stmt} {scope : Scope} (names : List Str) (hdef : defOf G.prog f = some (params, body, scope))
    (hbind : ∀ (pm cd doc : Value) (us : List Value), us.length = args.length → bindArgs (docDef f params body scope pm cd doc) ⟨us, []⟩ = pure (names.zip us))
    (hn : names.length = args.length) (nd : names.Nodup) (hloc : (names.all fun x => scope.names.lookup x == some .local || scope.names.lookup x == some .cell) = true)
    (hnd : ((cellsFrom 0 scope.names []).map (·.1)).Nodup) (hco : scope.isCoroutine = false) (hgen : scope.isGenerator = false) (hk : scope.kind = .function)
    (hbody : ∀ C' : Act scope, C'.Ok G → OwnCl C' → C'.A.depth + dep ≤ 600 → C'.A.units + 8 * dep ≤ 6000 → Sx G C' (execs body C'.env) ⟨names.zip args, hp⟩ (retOf Q)) :
    FnOk G f (dep + 1) args hp Q := by
  intro a ha sc C O hd hu loc
  obtain ⟨a', o, pm, cd, doc, h1, h2, h3, h4⟩ := O.top.fn f params body scope hdef
  rw [ha] at h1; cases h1
  refine FL_cells O hd hu (name := f) (qual := f) (params := params) (body := body) (scope := scope) (dV := .none) (kV := .none) (doc := doc) (pm := pm) (cdv := cd) (ct := .none) (an := none) names ?_ (hbind pm cd doc) hn nd hloc hnd hco hgen hk (fun C' O' h1 _ => hbody C' O' h1)
  intro P W h R
  exact ⟨o, R.keep _ _ h2, h3, h4.keeps R.keep⟩

/-- .. that holds a def -/
theorem FnOk.ofN {f : Str} {params : Arguments} {body : List Stmt} {scope : Scope} {c P : Addr} (names : List Str) (hnest : nestTab.lookup f = some (c, P)) (hdef : defOf G.prog f = some (params, body, scope))
    (hbind : ∀ (pm cd doc : Value) (us : List Value), us.length = args.length → bindArgs (docDef f params body scope pm cd doc) ⟨us, []⟩ = pure (names.zip us))
    (hn : names.length = args.length) (nd : names.Nodup) (hloc : (names.all fun x => scope.names.lookup x == some .local || scope.names.lookup x == some .cell) = true)
    (hnd : ((cellsFrom 0 scope.names []).map (·.1)).Nodup) (hco : scope.isCoroutine = false) (hgen : scope.isGenerator = false) (hk : scope.kind = .function)
    (hbody : ∀ C' : Act scope, C'.Ok G → OwnCl C' → (C'.L = C'.FL ∧ ∃ a, C'.env = envX f scope C'.FL a (.ref c) C'.cl) → CodeHd C'.g c P → C'.A.depth + dep ≤ 600 → C'.A.units + 8 * dep ≤ 6000 → Sx G C' (execs body C'.env) ⟨names.zip args, hp⟩ (retOf Q)) :
    FnOk G f (dep + 1) args hp Q := by
  intro a ha sc C O hd hu loc
  obtain ⟨h0, a', o, pm, doc, h1, h2, h3, h4⟩ := O.top.nest f params body scope c P hnest hdef
  rw [ha] at h1; cases h1
  refine FL_cells O hd hu (name := f) (qual := f) (params := params) (body := body) (scope := scope) (dV := .none) (kV := .none) (doc := doc) (pm := pm) (cdv := .ref c) (ct := .none) (an := none) names ?_ (hbind pm (.ref c) doc) hn nd hloc hnd hco hgen hk (fun C' O' h1 h2 => hbody C' O' h1 ⟨h2.1, a, h2.2⟩ (O'.top.nest f params body scope c P hnest hdef).1)
  intro P W h R
  exact ⟨o, R.keep _ _ h2, h3, h4.keeps R.keep⟩

theorem retOf_ret {Q : V → Hp → Prop} {v : V} {σ : St} (h : Q v σ.hp) : retOf Q (.ret v) σ := h
theorem retOf_next {Q : V → Hp → Prop} {σ : St} (h : Q .none σ.hp) : retOf Q .next σ := h

theorem ite_d {p : Prop} [Decidable p] {A B : Prop} (h1 : p → A) (h2 : ¬ p → B) : if (decide p) = true then A else B := by
  by_cases h : p
  · rw [if_pos (decide_eq_true h)]; exact h1 h
  · rw [if_neg (by simpa using h)]; exact h2 h
theorem ite_beq {a b : Int} {A B : Prop} (h1 : a = b → A) (h2 : a ≠ b → B) : if (a == b) = true then A else B := by
  by_cases h : a = b
  · rw [if_pos (by simpa using h)]; exact h1 h
  · rw [if_neg (by simpa using h)]; exact h2 h
theorem ite_bne {a b : Int} {A B : Prop} (h1 : a ≠ b → A) (h2 : a = b → B) : if (a != b) = true then A else B := by
  by_cases h : a = b
  · rw [if_neg (by simpa using h)]; exact h2 h
  · rw [if_pos (by simpa using h)]; exact h1 h
theorem ite_f {A B : Prop} (h : B) : if false = true then A else B := by simpa using h

end

theorem Storable.cell {sc : Scope} {C : Act sc} {x : Str} (hc : OwnCl C) (hx : sc.names.lookup x = some .cell) : Storable C x := by
  obtain ⟨⟨hz, _⟩, L', e⟩ := hc
  obtain ⟨c, h⟩ := Option.isSome_iff_exists.mp (cellsFrom_some (x := x) sc.names (L' + 1) [] (.inl hx))
  exact .inr ⟨hz, hx, c, by rw [e]; exact h⟩
local macro_rules | `(tactic| lcg_off) => `(tactic| first | exact Storable.loc (by kernel_rfl!) | exact Storable.cell (by assumption) (by kernel_rfl!))
local macro_rules | `(tactic| kp_flats) => `(tactic| first | exact Nat.le_of_ble_eq_true rfl | (simp; omega))
local macro_rules | `(tactic| kas_types) => `(tactic| first | assumption | omega | decide)

local macro_rules | `(tactic| tb_rel) => `(tactic| with_reducible (first
  | refine thenS_next ?_
  | refine thenS_ret ?_
  | refine thenS_brk ?_
  | refine thenS_cont ?_
  | refine retOf_ret ?_
  | refine retOf_next ?_
  | refine Sx_nil ?_
  | refine Sx_cons ?_
  | refine Sx_Return ?_
  | refine Sx_ReturnNone ?_
  | refine Sx_Break ?_
  | refine Sx_If ?_
  | refine Sx_Assign (by with_unfolding_all rfl) (by lcg_off) (by with_unfolding_all rfl) ?_
  | refine Sx_AugAssign (by with_unfolding_all rfl) (by lcg_off) (by with_unfolding_all rfl) ?_
  | refine Ev_int ?_
  | refine Ev_str ?_
  | refine Ev_bool ?_
  | refine Ev_none ?_
  | refine Ev_local (by with_unfolding_all rfl) (by kernel_rfl!) (by kernel_rfl!) (by with_unfolding_all rfl) ?_
  | refine Ev_cell (by with_unfolding_all rfl) (by kernel_rfl!) (by kernel_rfl!) (by with_unfolding_all rfl) ?_
  | refine Ev_BinOp ?_
  | refine Ev_UnaryOp ?_
  | refine Ev_IfExp ?_
  | refine Ev_Compare1 (by with_unfolding_all rfl) ?_
  | refine Bx_Compare1 (by with_unfolding_all rfl) ?_
  | refine Bx_not ?_
  | refine Bx_and_nil ?_
  | refine Bx_or_nil ?_
  | refine Bx_and ?_
  | refine Bx_or ?_
  | refine Bx_plain (by with_unfolding_all rfl) ?_
  | refine Ls_nil ?_
  | refine Ls_cons (by with_unfolding_all rfl) ?_
  | refine Ev_Tuple ?_
  | refine Ev_List ?_
  | refine truthy_b ?_
  | (refine mkTup_i ?_ ?_; · kp_flats)
  | (refine mkLst_i ?pyk (fun _ _ => ?_); (case pyk => kp_flats))
  | refine eq_ii ?_ | refine ne_ii ?_ | refine lt_ii ?_ | refine gt_ii ?_ | refine le_ii ?_ | refine ge_ii ?_
  | refine add_ii ?_ | refine sub_ii ?_ | refine iadd_ii ?_ | refine isub_ii ?_ | refine neg_i ?_ | refine and_ii ?_ | refine or_ii ?_ | refine xor_ii ?_
  | (refine mul_ii ?_ ?_; · kas_types)
  | refine ite_d (fun _ => ?_) (fun _ => ?_)
  | refine ite_beq (fun _ => ?_) (fun _ => ?_)
  | refine ite_bne (fun _ => ?_) (fun _ => ?_)
  | refine ite_t ?_
  | refine ite_f ?_))
section
variable {G : GE} {sc : Scope} {C : Act sc} {σ : St}

/-- what a loop's turn must leave -/
def loopW (I : Nat → St → Prop) (n : Nat) (Q : Fl → St → Prop) : Fl → St → Prop := fun fl σ => match fl with
  | .next | .cont => ∃ m σ', m < n ∧ St.le σ' σ ∧ I m σ'
  | .brk => Q .next σ
  | .ret v => Q (.ret v) σ
theorem loopW_next {I : Nat → St → Prop} {n : Nat} {Q : Fl → St → Prop} (m : Nat) (σ' : St) (h1 : m < n) (h2 : St.le σ' σ) (h3 : I m σ') : loopW I n Q .next σ := ⟨m, σ', h1, h2, h3⟩
theorem loopW_ret {I : Nat → St → Prop} {n : Nat} {Q : Fl → St → Prop} {v : V} (h : Q (.ret v) σ) : loopW I n Q (.ret v) σ := h
theorem loopW_brk {I : Nat → St → Prop} {n : Nat} {Q : Fl → St → Prop} (h : Q .next σ) : loopW I n Q .brk σ := h

theorem wp_anyE {α : Type} {M : Model} {A : Around} {t : Sem α} {Q : α → Shared → Prop} {E : Value → Shared → Prop} {s : Shared} (h : wpAny M A t Q NoE s) : wpAny M A t Q E s :=
  wpAny_mono h (fun _ _ x => x) fun _ _ x => x.elim

inductive WhileI {sc : Scope} (C : Act sc) (P W : Led) (s : Shared) (I : Nat → St → Prop) (n : Nat) (s' : Shared) : Prop
  | mk (σ' : St) (W' : Led) (h : Heap) (tk : Nat) (e : s' = { s with heap := h, toks := tk }) (w : ∀ p ∈ W, p ∈ W') (R : Rel C P W' σ' h) (q : I n σ') : WhileI C P W s I n s'
theorem Sx_While {test : Expr} {body orelse : List Stmt} {pos : Pos} {Q : Fl → St → Prop} (I : Nat → St → Prop) (n : Nat) (σ0 : St) (le0 : St.le σ0 σ) (h0 : I n σ0)
    (turn : ∀ n σ, I n σ → Bx G C (isTrue test C.env (eval test C.env)) σ (fun b σ₁ => if b then Sx G C (execs body C.env) σ₁ (loopW I n Q) else Sx G C (execs orelse C.env) σ₁ Q)) :
    Sx G C (exec (.While test body orelse pos) C.env) σ Q := fun P W s R => by
  refine wpAny_While (codeAny_whileLoop (WhileI C P W s I) ?_ n ⟨σ0, W, s.heap, s.toks, rfl, fun _ h => h, R.le le0, h0⟩)
  rintro n s' ⟨σ₁, W₁, h₁, tk₁, rfl, w₁, R₁, hI⟩
  refine wp_anyE (wp_seqB (turn n σ₁ hI P W₁ _ R₁) fun b σ₂ W₂ h₂ tk₂ w₂ R₂ q₂ => ?_)
  cases b with
  | true =>
    simp only [if_true] at q₂ ⊢
    refine wp_anyE (wp_seqS (q₂ P W₂ _ R₂) fun fl f σ₃ W₃ h₃ tk₃ w₃ r₃ R₃ q₃ => ?_)
    have w : ∀ p ∈ W, p ∈ W₃ := fun p hp => w₃ p (w₂ p (w₁ p hp))
    cases f with
    | next => cases fl with
      | next => obtain ⟨m, σ', hm, hl, hI'⟩ := q₃; exact ⟨m, hm, σ', W₃, h₃, tk₃, rfl, w, R₃.le hl, hI'⟩
      | _ => exact r₃.elim
    | cont => cases fl with
      | cont => obtain ⟨m, σ', hm, hl, hI'⟩ := q₃; exact ⟨m, hm, σ', W₃, h₃, tk₃, rfl, w, R₃.le hl, hI'⟩
      | _ => exact r₃.elim
    | brk => cases fl with
      | brk => exact ⟨.next, σ₃, W₃, h₃, tk₃, rfl, w, trivial, R₃, q₃⟩
      | _ => exact r₃.elim
    | ret u => cases fl with
      | ret v => exact ⟨.ret v, σ₃, W₃, h₃, tk₃, rfl, w, r₃, R₃, q₃⟩
      | _ => exact r₃.elim
  | false =>
    simp only [Bool.false_eq_true, if_false] at q₂ ⊢
    exact wp_anyE (wp_seqS (q₂ P W₂ _ R₂) fun fl f σ₃ W₃ h₃ tk₃ w₃ r₃ R₃ q₃ => ⟨fl, σ₃, W₃, h₃, tk₃, rfl, fun p hp => w₃ p (w₂ p (w₁ p hp)), r₃, R₃, q₃⟩)

/-! ## iterators -/
structure Itr (G : GE) {sc : Scope} (C : Act sc) (W₀ : Led) (items : List V) (dep : St → Prop) (st : Nat → Obj → Prop) : Prop where
  next : ∀ i P W σ (s : Shared) I o x (α : Option Value → Shared → Prop), (∀ p ∈ W₀, p ∈ W) → Rel C ((I, o) :: P) W σ s.heap → dep σ → st i o → items[i]? = some x →
    (∀ u o' h' tk, st (i + 1) o' → Rep W x u → Rel C ((I, o') :: P) W σ h' → α (some u) { s with heap := h', toks := tk }) → wpAny (model G.prog G.w) C.A (pyNext (.ref I)) α NoE s
  done : ∀ P W σ (s : Shared) I o (α : Option Value → Shared → Prop), (∀ p ∈ W₀, p ∈ W) → Rel C ((I, o) :: P) W σ s.heap → dep σ → st items.length o →
    (∀ h' tk, Rel C P W σ h' → α none { s with heap := h', toks := tk }) → wpAny (model G.prog G.w) C.A (pyNext (.ref I)) α NoE s
  again : ∀ i P W σ (s : Shared) I o (α : Value → Shared → Prop), Rel C ((I, o) :: P) W σ s.heap → st i o → α (.ref I) s → wpAny (model G.prog G.w) C.A (pyIter (.ref I)) α NoE s

/-- what `iter` of a value walks through -/
def IterV2 (G : GE) {sc : Scope} (C : Act sc) (sn : Scope) (x : V) (σ σ' : St) (items : List V) (dep : St → Prop) : Prop :=
  ∀ P W (s : Shared) u, Rel C P W σ s.heap → Rep W x u → ∃ st, (∀ Cn : Act sn, Cn.Ok G → Itr G Cn W items dep st) ∧
    ∀ (α : Value → Shared → Prop), (∀ I o h' tk, st 0 o → Rel C ((I, o) :: P) W σ' h' → α (.ref I) { s with heap := h', toks := tk }) → wpAny (model G.prog G.w) C.A (pyIter u) α NoE s

abbrev IterV (G : GE) {sc : Scope} (C : Act sc) (x : V) (σ σ' : St) (items : List V) (dep : St → Prop) : Prop := IterV2 G C sc x σ σ' items dep

section
variable {sn : Scope}
abbrev listIt (l : Addr) (i : Nat) (o : Obj) : Prop := o.cls = .type "list_iterator" ∧ o.data = .fields #[.ref l, .int i 0]
theorem iter_list2 (O : C.Ok G) {l : Addr} {xs : List V} (e : σ.hp l = some (.lst xs)) : IterV2 G C sn (.ref l) σ σ xs (fun σ => σ.hp l = some (.lst xs)) := fun P W s u R r => by
  cases r
  refine ⟨listIt l, fun Cn On => ⟨?_, ?_, ?_⟩, fun α k => ?_⟩
  · intro i P W σ s I o x α hw R hd hst hx k
    obtain ⟨vs, hl, rs⟩ := R.isList hd
    obtain ⟨v, hv, rv⟩ := rs.get i x hx
    have hit : s.heap.IsListIter I l i := ⟨o, R.pinned, hst⟩
    refine wpAny_pyNext_list_item hit hl (x := v) (by simpa using hv) fun h' hit' hs => ?_
    obtain ⟨o', ho', hc'⟩ := hit'
    exact k v o' h' s.toks hc' rv (R.repin hs.extBut ho')
  · intro P W σ s I o α hw R hd hst k
    obtain ⟨vs, hl, rs⟩ := R.isList hd
    have hit : s.heap.IsListIter I l xs.length := ⟨o, R.pinned, hst⟩
    refine wpAny_pyNext_list_end On.handled hit hl (by simp [rs.length]) fun h' he => ?_
    exact k h' s.toks (R.letgo he)
  · intro i P W σ s I o α R hst k
    exact wpAny_pyIter_listiter (i := i) (l := l) ⟨o, R.pinned, hst⟩ k
  · obtain ⟨vs, hl, rs⟩ := R.isList e
    exact wpAny_pyIter_list hl (k _ _ _ s.toks ⟨rfl, rfl⟩ (R.pin rfl))

abbrev tupIt (a : Addr) (i : Nat) (o : Obj) : Prop := o.cls = .type "tuple_iterator" ∧ o.data = .fields #[.ref a, .int i 0]
/-- the ints of a range -/
def rangeL (a c : Int) (n : Nat) : List V := (List.range n).map fun (i : Nat) => V.int (a + (i : Int) * c)
theorem rangeL_get {a c : Int} {n i : Nat} {x : V} (h : (rangeL a c n)[i]? = some x) : i < n ∧ x = .int (a + i * c) := by
  unfold rangeL at h
  rw [List.getElem?_map] at h
  by_cases q : i < n
  · rw [List.getElem?_range q] at h; exact ⟨q, by simpa using h.symm⟩
  · rw [List.getElem?_eq_none (by simpa using q)] at h; cases h
theorem rangeL_length (a c : Int) (n : Nat) : (rangeL a c n).length = n := by simp [rangeL]
abbrev rngIt (a c : Int) (n : Nat) (i : Nat) (o : Obj) : Prop := o = { cls := .type "range_iterator", dict := none, data := .fields #[rawInt (a + i * c), rawInt ((n : Int) - i), rawInt c], slots := #[] }
theorem iter_rng2 (O : C.Ok G) {l : Addr} {a b c : Int} {n : Nat} (e : σ.hp l = some (.rng a b c)) (hsmall : Builtin.Range.small a b c = true) (hn : Builtin.Range.rangeSize a b c = (n : Int)) :
    IterV2 G C sn (.ref l) σ σ (rangeL a c n) (fun _ => True) := fun P W s u R r => by
  cases r
  refine ⟨rngIt a c n, fun Cn On => ⟨?_, ?_, ?_⟩, fun α k => ?_⟩
  · intro i P W σ s I o x α hw R hd hst hx k
    obtain ⟨hi, rfl⟩ := rangeL_get hx
    subst hst
    have hit : IsRangeIter s.heap I (a + i * c) ((n : Int) - i) c := R.pinned
    refine wpAny_pyNext_range_item hit (by omega) fun h' hit' hs => ?_
    have e1 : a + (i : Int) * c + c = a + ((i + 1 : Nat) : Int) * c := by rw [Int.natCast_succ, Int.add_mul, Int.one_mul, Int.add_assoc]
    have e2 : (n : Int) - i - 1 = (n : Int) - ((i + 1 : Nat) : Int) := by omega
    rw [e1, e2] at hit'
    exact k _ _ h' _ rfl (.int _ _) (R.repin hs.extBut hit')
  · intro P W σ s I o α hw R hd hst k
    rw [rangeL_length] at hst
    subst hst
    have hit : IsRangeIter s.heap I (a + n * c) ((n : Int) - n) c := R.pinned
    refine wpAny_pyNext_range_end On.handled hit (by omega) fun h' he => ?_
    exact k h' s.toks (R.letgo he)
  · intro i P W σ s I o α R hst k
    subst hst
    exact wpAny_pyIter_rangeiter (R.pinned : IsRangeIter s.heap I _ _ _) k
  · obtain ⟨ob, hg, t, u, v, rfl⟩ := R.at e
    refine wpAny_pyIter_range hg hsmall ?_
    rw [hn]
    refine k _ _ _ s.toks ?_ (R.pin rfl)
    simp [rngIt]

abbrev revIt (l : Addr) (n : Nat) (i : Nat) (o : Obj) : Prop := i ≤ n ∧ o.cls = .type "list_reverseiterator" ∧ o.data = .fields #[.ref l, rawInt ((n : Int) - 1 - i)]
theorem iter_rev2 (O : C.Ok G) {r l : Addr} {xs : List V} (e : σ.hp r = some (.raw (revObj l ((xs.length : Int) - 1)))) :
    IterV2 G C sn (.ref r) σ ⟨σ.loc, fun b => if b = r then none else σ.hp b⟩ xs.reverse (fun σ => σ.hp l = some (.lst xs)) := fun P W s u R rr => by
  cases rr
  refine ⟨revIt l xs.length, fun Cn On => ⟨?_, ?_, ?_⟩, fun α k => ?_⟩
  · intro i P W σ s I o x α hw R hd hst hx k
    obtain ⟨vs, hl, rs⟩ := R.isList hd
    have hi : i < xs.length := by
      have : i < xs.reverse.length := by
        rcases Nat.lt_or_ge i xs.reverse.length with h | h
        · exact h
        · rw [List.getElem?_eq_none h] at hx; cases hx
      simpa using this
    have hx' : xs[xs.length - 1 - i]? = some x := by rw [← hx, List.getElem?_reverse hi]
    obtain ⟨v, hv, rv⟩ := rs.get _ x hx'
    have hit : s.heap.IsRevIter I l ((xs.length - 1 - i : Nat) : Int) := ⟨o, R.pinned, hst.2.1, by rw [hst.2.2, show (xs.length : Int) - 1 - (i : Int) = ((xs.length - 1 - i : Nat) : Int) by omega]⟩
    refine wpAny_pyNext_rev_item hit hl (x := v) (by simpa using hv) fun h' hit' hs => ?_
    obtain ⟨o', ho', hc', hd'⟩ := hit'
    exact k v o' h' s.toks ⟨hi, hc', by rw [hd', show ((xs.length - 1 - i : Nat) : Int) - 1 = (xs.length : Int) - 1 - ((i + 1 : Nat) : Int) by omega]⟩ rv (R.repin hs.extBut ho')
  · intro P W σ s I o α hw R hd hst k
    have hit : s.heap.IsRevIter I l (-1) := ⟨o, R.pinned, hst.2.1, by rw [hst.2.2, List.length_reverse, show (xs.length : Int) - 1 - (xs.length : Int) = -1 by omega]⟩
    refine wpAny_pyNext_rev_end On.handled hit fun h' he => ?_
    exact k h' s.toks (R.letgo he)
  · intro i P W σ s I o α R hst k
    exact wpAny_pyIter_revIter ⟨o, R.pinned, hst.2⟩ k
  · have R' := R.topin e
    have hit : s.heap.IsRevIter r l ((xs.length : Int) - 1) := ⟨_, R'.pinned, rfl, rfl⟩
    exact wpAny_pyIter_revIter hit (k r _ s.heap s.toks ⟨Nat.zero_le _, rfl, by show (revObj _ _).data = _; unfold revObj; simp⟩ R')

end
theorem iter_list (O : C.Ok G) {l : Addr} {xs : List V} (e : σ.hp l = some (.lst xs)) : IterV G C (.ref l) σ σ xs (fun σ => σ.hp l = some (.lst xs)) := iter_list2 O e
theorem iter_rng (O : C.Ok G) {l : Addr} {a b c : Int} {n : Nat} (e : σ.hp l = some (.rng a b c)) (hsmall : Builtin.Range.small a b c = true) (hn : Builtin.Range.rangeSize a b c = (n : Int)) :
    IterV G C (.ref l) σ σ (rangeL a c n) (fun _ => True) := iter_rng2 O e hsmall hn
theorem iter_rev (O : C.Ok G) {r l : Addr} {xs : List V} (e : σ.hp r = some (.raw (revObj l ((xs.length : Int) - 1)))) :
    IterV G C (.ref r) σ ⟨σ.loc, fun b => if b = r then none else σ.hp b⟩ xs.reverse (fun σ => σ.hp l = some (.lst xs)) := iter_rev2 O e
/-- a turn of a for must leave .. -/
def loopF (I : Nat → St → Prop) (i : Nat) (Q : Fl → St → Prop) : Fl → St → Prop := fun fl σ => match fl with
  | .next | .cont => ∃ σ', St.le σ' σ ∧ I (i + 1) σ'
  | .brk => Q .next σ
  | .ret v => Q (.ret v) σ
theorem loopF_next {I : Nat → St → Prop} {i : Nat} {Q : Fl → St → Prop} (σ' : St) (h2 : St.le σ' σ) (h3 : I (i + 1) σ') : loopF I i Q .next σ := ⟨σ', h2, h3⟩
/-- the loop's plan: items, what they hang on, an invariant -/
structure Plan (G : GE) {sc : Scope} (C : Act sc) (x : Str) (body : List Stmt) (Q : Fl → St → Prop) (v : V) (σ : St) where
  σ' : St
  items : List V
  dep : St → Prop
  it : IterV G C v σ σ' items dep
  I : Nat → St → Prop
  σ0 : St
  le0 : St.le σ0 σ'
  h0 : I 0 σ0
  hdep : ∀ i σ, I i σ → dep σ
  turn : ∀ i y σ, items[i]? = some y → I i σ → Sx G C (execs body C.env) ⟨setL σ.loc x y, σ.hp⟩ (loopF I i Q)
  done : ∀ σ, I items.length σ → Q .next σ

inductive ForI {sc : Scope} (C : Act sc) (P W₁ : Led) (s : Shared) (a : Addr) (st : Nat → Obj → Prop) (I : Nat → St → Prop) (len n : Nat) (s' : Shared) : Prop
  | mk (i : Nat) (σ' : St) (W' : Led) (o : Obj) (h : Heap) (tk : Nat) (e : s' = { s with heap := h, toks := tk }) (w : ∀ p ∈ W₁, p ∈ W') (R : Rel C ((a, o) :: P) W' σ' h) (hst : st i o) (q : I i σ') (hi : i ≤ len) (hn : n = len - i) : ForI C P W₁ s a st I len n s'
theorem Sx_For (O : C.Ok G) {x : Str} {px pos : Pos} {iter : Expr} {body : List Stmt} {Q : Fl → St → Prop} (hx : Storable C x)
    (hs : ∀ x, foldedSetIterable iter C.env x = pure x)
    (h : Ev G C (eval iter C.env) σ (fun v σ₁ => Nonempty (Plan G C x body Q v σ₁))) :
    Sx G C (exec (.For (.Name x px) iter body [] pos) C.env) σ Q := fun P W s R => by
  refine wpAny_For (wp_seq1 (h P W s R) fun v u σ₁ W₁ h₁ tk₁ w₁ rv R₁ q₁ => ?_) hs
  obtain ⟨pl⟩ := q₁
  obtain ⟨st, T, start⟩ := pl.it P W₁ { s with heap := h₁, toks := tk₁ } u R₁ rv
  have T := T C O
  refine start _ fun I o h₂ tk₂ hst R₂ => ?_
  refine codeAny_forLoop (ForI C P W₁ s I st pl.I pl.items.length) ?_ _
    ⟨0, pl.σ0, W₁, o, h₂, tk₂, rfl, fun _ h => h, R₂.le pl.le0, hst, pl.h0, Nat.zero_le _, rfl⟩
  rintro n s' ⟨i, σ₂, W₂, o₂, h₃, tk₃, rfl, w₂, R₃, hst₂, hI, hi, rfl⟩
  rcases Nat.lt_or_ge i pl.items.length with hlt | hge
  · refine wp_anyE (T.next i P W₂ σ₂ _ I o₂ pl.items[i] _ w₂ R₃ (pl.hdep i σ₂ hI) hst₂ (by simp [hlt]) fun u₂ o₃ h₄ tk₄ hst₃ ru R₄ => ?_)
    show wpAny _ _ (assign (.Name x px) C.env u₂) _ _ _
    refine wp_anyE (wpAny_bind (wpAny_standAt (wpAny_bindName (store_any O.kind hx R₄ ru fun h₅ tk₅ R₅ => ?_))))
    refine wp_anyE (wp_seqS (pl.turn i pl.items[i] σ₂ (by simp [hlt]) hI _ _ _ R₅) fun fl f σ₃ W₃ h₆ tk₆ w₃ r₃ R₆ q₃ => ?_)
    have w : ∀ p ∈ W₁, p ∈ W₃ := fun p hp => w₃ p (w₂ p hp)
    cases f with
    | next => cases fl with
      | next => obtain ⟨σ', hl, hI'⟩ := q₃; exact ⟨_, by omega, i + 1, σ', W₃, o₃, h₆, tk₆, rfl, w, R₆.le hl, hst₃, hI', hlt, rfl⟩
      | _ => exact r₃.elim
    | cont => cases fl with
      | cont => obtain ⟨σ', hl, hI'⟩ := q₃; exact ⟨_, by omega, i + 1, σ', W₃, o₃, h₆, tk₆, rfl, w, R₆.le hl, hst₃, hI', hlt, rfl⟩
      | _ => exact r₃.elim
    | brk => cases fl with
      | brk => exact ⟨.next, σ₃, W₃, h₆, tk₆, rfl, fun p hp => w p (w₁ p hp), trivial, R₆.unpin, q₃⟩
      | _ => exact r₃.elim
    | ret u => cases fl with
      | ret v => exact ⟨.ret v, σ₃, W₃, h₆, tk₆, rfl, fun p hp => w p (w₁ p hp), r₃, R₆.unpin, q₃⟩
      | _ => exact r₃.elim
  · have hin : i = pl.items.length := by omega
    subst hin
    refine wp_anyE (T.done P W₂ σ₂ _ I o₂ _ w₂ R₃ (pl.hdep _ σ₂ hI) hst₂ fun h₄ tk₄ R₄ => ?_)
    exact wpAny_execs_nil ⟨.next, σ₂, W₂, h₄, tk₄, rfl, fun p hp => w₂ p (w₁ p hp), trivial, R₄, pl.done σ₂ hI⟩
end
local macro_rules | `(tactic| tb_rel) => `(tactic| with_reducible (first | refine loopW_ret ?_ | refine loopW_brk ?_ | refine loopF_ret ?_ | refine loopF_brk ?_))
section
variable {G : GE} {sc : Scope} {C : Act sc} {σ : St}

/-! ## items -/
theorem Ev_Subscript {value slice : Expr} {pos : Pos} {Q : V → St → Prop}
    (h : Ev G C (eval value C.env) σ (fun o σ₁ => Ev G C (eval slice C.env) σ₁ (fun i σ₂ => F2 G C (subscriptTail value slice) o i σ₂ Q))) :
    Ev G C (eval (.Subscript value slice pos) C.env) σ Q := fun P W s R => by
  refine Subscript_ (wp_seq1 (h P W s R) fun a u σ₁ W₁ h₁ tk₁ w₁ ra R₁ q₁ => ?_)
  refine wp_seq1 (q₁ P W₁ _ R₁) fun b v σ₂ W₂ h₂ tk₂ w₂ rb R₂ q₂ => ?_
  exact wpAny_mono (q₂ P W₂ _ _ _ R₂ (ra.mono w₂) rb) (fun _ _ p => (p.trans w₂).trans w₁) fun _ _ x => x

theorem get_list {l : Addr} {k : Int} {xs : List V} {v : V} {Q : V → St → Prop} (e : σ.hp l = some (.lst xs)) (h0 : 0 ≤ k) (h1 : k < 2 ^ 63) (hv : xs[k.toNat]? = some v) (h : Q v σ) :
    F2 G C getItem (.ref l) (.int k) σ Q := fun P W s u w R hu hw => by
  (first | refine Rep.eInt hu fun _ => ?_ | refine Rep.eRef hu ?_ | refine Reps.eNil hu ?_ | refine Rep.eStr hu fun _ => ?_ | refine Rep.eBytes hu fun _ => ?_ | refine Rep.eBool hu ?_ | refine Rep.eNone hu ?_ | refine Rep.eTyp hu ?_ | refine Rep.eBi hu ?_ | cases hu); (first | refine Rep.eInt hw fun _ => ?_ | refine Rep.eRef hw ?_ | refine Reps.eNil hw ?_ | refine Rep.eStr hw fun _ => ?_ | refine Rep.eBytes hw fun _ => ?_ | refine Rep.eBool hw ?_ | refine Rep.eNone hw ?_ | refine Rep.eTyp hw ?_ | refine Rep.eBi hw ?_ | cases hw)
  obtain ⟨vs, hl, rs⟩ := R.isList e
  obtain ⟨y, hy, ry⟩ := rs.get _ _ hv
  exact wpAny_getItem_list hl h0 h1 (by simpa using hy) (Post.here' R ry h)
theorem get_list_neg {l : Addr} {k : Int} {xs : List V} {v : V} {Q : V → St → Prop} (e : σ.hp l = some (.lst xs)) (h0 : k < 0) (h1 : -(xs.length : Int) ≤ k) (h2 : -(2 ^ 63) ≤ k) (hv : xs[(k + xs.length).toNat]? = some v) (h : Q v σ) :
    F2 G C getItem (.ref l) (.int k) σ Q := fun P W s u w R hu hw => by
  cases hu; cases hw
  obtain ⟨vs, hl, rs⟩ := R.isList e
  obtain ⟨y, hy, ry⟩ := rs.get _ _ hv
  have hz : (vs.toArray.size : Int) = xs.length := by simp [rs.length]
  exact wpAny_getItem_list_neg hl h0 (by rw [hz]; exact h1) h2 (by rw [hz]; simpa using hy) (Post.here' R ry h)
theorem sub_list {value slice : Expr} {l : Addr} {k : Int} {xs : List V} {v : V} {Q : V → St → Prop} (hs : ∀ o i, subscripted slice false o i = operate [o, i] (getItem o i)) (e : σ.hp l = some (.lst xs)) (h0 : 0 ≤ k) (h1 : k < 2 ^ 63) (hv : xs[k.toNat]? = some v) (h : Q v σ) :
    F2 G C (subscriptTail value slice) (.ref l) (.int k) σ Q := fun P W s u w R hu hw => by
  have g := get_list (G := G) (C := C) e h0 h1 hv h P W s u w R hu hw
  cases hu; cases hw
  obtain ⟨vs, hl, rs⟩ := R.isList e
  exact tail_any hl.typeIs slot_list_getitem.lookup g (hs _ _)
theorem sub_list_neg {value slice : Expr} {l : Addr} {k : Int} {xs : List V} {v : V} {Q : V → St → Prop} (hs : ∀ o i, subscripted slice false o i = operate [o, i] (getItem o i)) (e : σ.hp l = some (.lst xs)) (h0 : k < 0) (h1 : -(xs.length : Int) ≤ k) (h2 : -(2 ^ 63) ≤ k) (hv : xs[(k + xs.length).toNat]? = some v) (h : Q v σ) :
    F2 G C (subscriptTail value slice) (.ref l) (.int k) σ Q := fun P W s u w R hu hw => by
  have g := get_list_neg (G := G) (C := C) e h0 h1 h2 hv h P W s u w R hu hw
  cases hu; cases hw
  obtain ⟨vs, hl, rs⟩ := R.isList e
  exact tail_any hl.typeIs slot_list_getitem.lookup g (hs _ _)
theorem sub_tup {value slice : Expr} {k : Int} {xs : List V} {v : V} {Q : V → St → Prop} (hs : ∀ o i, subscripted slice false o i = operate [o, i] (getItem o i)) (h0 : 0 ≤ k) (h1 : k < 2 ^ 63) (hv : xs[k.toNat]? = some v) (h : Q v σ) :
    F2 G C (subscriptTail value slice) (.tup xs) (.int k) σ Q := fun P W s u w R hu hw => by
  (first | refine Rep.eInt hw fun _ => ?_ | refine Rep.eRef hw ?_ | refine Reps.eNil hw ?_ | refine Rep.eStr hw fun _ => ?_ | refine Rep.eBytes hw fun _ => ?_ | refine Rep.eBool hw ?_ | refine Rep.eNone hw ?_ | refine Rep.eTyp hw ?_ | refine Rep.eBi hw ?_ | cases hw)
  cases hu with
  | @tup _ vs a n hm rs =>
    obtain ⟨y, hy, ry⟩ := rs.get _ _ hv
    have hl : k.toNat < vs.length := by
      rcases Nat.lt_or_ge k.toNat vs.length with q | q
      · exact q
      · rw [List.getElem?_eq_none q] at hy; cases hy
    have hsq : seqIndex? k vs.toArray.size = some k.toNat := by
      have hk : ¬ k < 0 := by omega
      simp only [seqIndex?, hk, if_false, List.size_toArray]
      rw [if_pos (by rw [Bool.and_eq_true, decide_eq_true_eq, decide_eq_true_eq]; omega)]
    have ht := R.isTuple hm
    exact tail_any ht.typeIs PyProof.Rows.slot_tuple_getitem.lookup (PyProof.Rows.getItem_tuple ht (by omega) h1 hsq (by simpa using hy) (Post.here' R ry h)) (hs _ _)
theorem sub_bytes {value slice : Expr} {k : Int} {b : Array UInt8} {Q : V → St → Prop} (hs : ∀ o i, subscripted slice false o i = operate [o, i] (getItem o i)) (hfit : b.size ≤ 1000000) (h0 : 0 ≤ k) (h1 : k < b.size) (h : Q (.int (b.toList.getD k.toNat 0).toNat) σ) :
    F2 G C (subscriptTail value slice) (.bytes b) (.int k) σ Q := fun P W s u w R hu hw => by
  (first | refine Rep.eInt hw fun _ => ?_ | refine Rep.eRef hw ?_ | refine Reps.eNil hw ?_ | refine Rep.eStr hw fun _ => ?_ | refine Rep.eBytes hw fun _ => ?_ | refine Rep.eBool hw ?_ | refine Rep.eNone hw ?_ | refine Rep.eTyp hw ?_ | refine Rep.eBi hw ?_ | cases hw); (first | refine Rep.eInt hu fun _ => ?_ | refine Rep.eRef hu ?_ | refine Reps.eNil hu ?_ | refine Rep.eStr hu fun _ => ?_ | refine Rep.eBytes hu fun _ => ?_ | refine Rep.eBool hu ?_ | refine Rep.eNone hu ?_ | refine Rep.eTyp hu ?_ | refine Rep.eBi hu ?_ | cases hu)
  rename_i tk tb
  have e : b = b.toList.toArray := by simp
  have key : ∀ (l : List UInt8), b = l.toArray → wpAny (model G.prog G.w) C.A (getItem (.bytes b tb) (.int k tk)) (Post C P W s Q) NoE s := by
    intro l hl
    subst hl
    exact PySem.W.getItem_bytes (by simp at hfit; omega) h0 (by simpa using h1) (Post.here R (.int _ _) (by simpa using h))
  exact tail_any (typeIs_bytes s b _) FB.slot_bytes_getitem.lookup (key _ e) (hs _ _)
theorem sub_str {value slice : Expr} {k : Int} {x : Str} {c : Nat} {Q : V → St → Prop} (hs : ∀ o i, subscripted slice false o i = operate [o, i] (getItem o i)) (h0 : 0 ≤ k) (h1 : k < 2 ^ 63) (hv : x.cps[k.toNat]? = some c) (h : Q (.str ⟨#[c]⟩) σ) :
    F2 G C (subscriptTail value slice) (.str x) (.int k) σ Q := fun P W s u w R hu hw => by
  (first | refine Rep.eInt hw fun _ => ?_ | refine Rep.eRef hw ?_ | refine Reps.eNil hw ?_ | refine Rep.eStr hw fun _ => ?_ | refine Rep.eBytes hw fun _ => ?_ | refine Rep.eBool hw ?_ | refine Rep.eNone hw ?_ | refine Rep.eTyp hw ?_ | refine Rep.eBi hw ?_ | cases hw); (first | refine Rep.eInt hu fun _ => ?_ | refine Rep.eRef hu ?_ | refine Reps.eNil hu ?_ | refine Rep.eStr hu fun _ => ?_ | refine Rep.eBytes hu fun _ => ?_ | refine Rep.eBool hu ?_ | refine Rep.eNone hu ?_ | refine Rep.eTyp hu ?_ | refine Rep.eBi hu ?_ | cases hu)
  have hl : k.toNat < x.cps.size := by
    rcases Nat.lt_or_ge k.toNat x.cps.size with q | q
    · exact q
    · rw [Array.getElem?_eq_none q] at hv; (first | refine Rep.eInt hv fun _ => ?_ | refine Rep.eRef hv ?_ | refine Reps.eNil hv ?_ | refine Rep.eStr hv fun _ => ?_ | refine Rep.eBytes hv fun _ => ?_ | refine Rep.eBool hv ?_ | refine Rep.eNone hv ?_ | refine Rep.eTyp hv ?_ | refine Rep.eBi hv ?_ | cases hv)
  have hsq : seqIndex? k x.length = some k.toNat := by
    have hk : ¬ k < 0 := by omega
    simp only [seqIndex?, hk, if_false, Str.length]
    rw [if_pos (by rw [Bool.and_eq_true, decide_eq_true_eq, decide_eq_true_eq]; omega)]
  refine tail_any (typeIs_str s x _) PyProof.Rows.slot_str_getitem.lookup (PySem.P.getItem_str (by simp; omega) (by rw [hsq]; exact hv) (Post.here R (.str _ _) h)) (hs _ _)

/-! ## stores -/
theorem meets_setitem (l : Addr) (items : Array Value) (n : Nat) (x : Int) (u : Tok) (y : Value) (k : Nat) (hc0 : Builtin.List.listFitsIndex x = true) (hk : x = Int.ofNat k) (z : Value) (hz : items[k]? = some z) :
    Meets (Builtin.«list.__setitem__» ⟨[.ref l, .int x u, y], []⟩) (fun A R s => s.heap.get? l = some { cls := .type "list", dict := none, data := .seq items n, slots := #[] } ∧ R (.ok (.ret .none)) { s with heap := s.heap.update l (Obj.mapSeq (·.setIfInBounds k y)) }) :=
  .of_wp fun prog w A R s h => by
    obtain ⟨hp, g, d, tk, os⟩ := s; obtain ⟨hl, h⟩ := h
    have hf : ¬ (!Builtin.List.listFitsIndex x) = true := by simp [hc0]
    have f1 := AutoSeq1.idx_int
    wp_walk using wpAny_loadPart' hl
    rw [if_neg hf]
    wp_walk using wpAny_loadPart' hl
    clear hf hc0
    subst hk
    dsimp only
    refine wpAny_bind (wpAny_seqItemAt hl rfl ?_)
    refine wpAny_pure ?_
    simp only [hz, Option.map_some]
    refine wpAny_bind (wpAny_setSeqItemAt hl rfl ?_)
    exact wpAny_pure ⟨_, rfl, h⟩
theorem set_list {P W : Led} {s : Shared} {l : Addr} {k : Int} {t : Tok} {xs : List V} {v : V} {u : Value} {α : Unit → Shared → Prop} (R : Rel C P W σ s.heap) (e : σ.hp l = some (.lst xs)) (h0 : 0 ≤ k) (h1 : k < 2 ^ 63) (hk : k < xs.length) (r : Rep W v u)
    (h : ∀ h' tk, Rel C P W ⟨σ.loc, updH σ.hp l (.lst (xs.set k.toNat v))⟩ h' → α () { s with heap := h', toks := tk }) :
    wpAny (model G.prog G.w) C.A (setItem (.ref l) (.int k t) u) α NoE s := by
  obtain ⟨vs, n, ho, rs⟩ := R.list e
  have hl : s.heap.IsList l vs.toArray := ⟨_, ho, rfl, n, rfl⟩
  have fits := fitsIndex_of h0 h1
  have hj : k.toNat < vs.toArray.size := by simp only [List.size_toArray, rs.length]; omega
  have fin : α () { s with heap := s.heap.update l (Obj.mapSeq (·.setIfInBounds k.toNat u)) } :=
    h _ s.toks (R.change e (Heap.SameBut.update ..) (Heap.get?_update_self _ ho rfl) ⟨vs.set k.toNat u, n, by simp [Obj.mapSeq, lstO], rs.set k.toNat r⟩)
  have hk' : k = Int.ofNat k.toNat := by show k = ((k.toNat : Nat) : Int); omega
  have hz := Array.getElem?_eq_getElem hj
  unfold setItem
  refine wpAny_holding ?_
  refine wpAny_bind (wpAny_sequenceKey hl.typeIs (by decide) ?_)
  refine wpAny_bind (wpAny_callSpecial?_slot (name := Str.ofString "__setitem__") hl.typeIs slot_list_setitem
    (call_meets slot_list_setitem hl.typeIs entry_list_setitem (args_list_setitem _ _ _) (meets_setitem l vs.toArray n k t u k.toNat fits hk' _ hz) ⟨ho, ?_⟩))
  exact wpAny_pure fin

def atSub (P : Addr → Int → List V → Prop) (ov iv : V) (σ : St) : Prop := ∃ l k xs, ov = .ref l ∧ iv = .int k ∧ σ.hp l = some (.lst xs) ∧ 0 ≤ k ∧ k < 2 ^ 63 ∧ k < xs.length ∧ P l k xs
theorem atSub_i {P : Addr → Int → List V → Prop} {l : Addr} {k : Int} {xs : List V} (e : σ.hp l = some (.lst xs)) (h0 : 0 ≤ k) (h1 : k < 2 ^ 63) (h2 : k < xs.length) (h : P l k xs) : atSub P (.ref l) (.int k) σ := ⟨l, k, xs, rfl, rfl, e, h0, h1, h2, h⟩
theorem Sx_AssignSub {o i e : Expr} {pos' pos : Pos} {Q : Fl → St → Prop} (hs : swapsWith e (some (.Subscript o i pos')) pos.line C.env = pure false)
    (h : Ev G C (eval e C.env) σ (fun v σ₁ => Ev G C (eval o C.env) σ₁ (fun ov σ₂ => Ev G C (eval i C.env) σ₂ (fun iv σ₃ =>
      atSub (fun l k xs => Q .next ⟨σ₃.loc, updH σ₃.hp l (.lst (xs.set k.toNat v))⟩) ov iv σ₃)))) :
    Sx G C (exec (.Assign [.Subscript o i pos'] e pos) C.env) σ Q := fun P W s R => by
  refine wpAny_Assign_Subscript (wp_seq1 (h P W s R) fun v u σ₁ W₁ h₁ tk₁ w₁ rv R₁ q₁ => ?_) hs
  refine wp_seq1 (q₁ P W₁ _ R₁) fun ov uo σ₂ W₂ h₂ tk₂ w₂ ro R₂ q₂ => ?_
  refine wp_seq1 (q₂ P W₂ _ R₂) fun iv ui σ₃ W₃ h₃ tk₃ w₃ ri R₃ q₃ => ?_
  obtain ⟨l, k, xs, rfl, rfl, e, h0, h1, h2, q⟩ := q₃
  cases ro; cases ri
  refine set_list R₃ e h0 h1 h2 ((rv.mono w₂).mono w₃) fun h' tk' R' => ?_
  exact ⟨.next, _, W₃, h', tk', rfl, fun p hp => w₃ p (w₂ p (w₁ p hp)), trivial, R', q⟩

theorem Sx_AugSub {o i e : Expr} {op : Operator} {pos' pos : Pos} {Q : Fl → St → Prop} (ha : ∀ ov iv new, augStore i ov iv new = (do holding [new, ov, iv] (setItem ov iv new); release [new, ov, iv] []; pure .next))
    (h : Ev G C (eval o C.env) σ (fun ov σ₂ => Ev G C (eval i C.env) σ₂ (fun iv σ₃ =>
      atSub (fun l k xs => ∀ old, xs[k.toNat]? = some old →
        Ev G C (eval e C.env) σ₃ (fun v σ₄ => F2 G C (inplaceOp op) old v σ₄ (fun new σ₅ => atSub (fun l k ys => Q .next ⟨σ₅.loc, updH σ₅.hp l (.lst (ys.set k.toNat new))⟩) (.ref l) (.int k) σ₅))) ov iv σ₃))) :
    Sx G C (exec (.AugAssign (.Subscript o i pos') op e pos) C.env) σ Q := fun P W s R => by
  refine wpAny_AugAssign_Subscript_any ?_ ha
  refine wp_seq1 (h P W s R) fun ov uo σ₂ W₂ h₂ tk₂ w₂ ro R₂ q₂ => ?_
  refine wp_seq1 (q₂ P W₂ _ R₂) fun iv ui σ₃ W₃ h₃ tk₃ w₃ ri R₃ q₃ => ?_
  obtain ⟨l, k, xs, rfl, rfl, e, h0, h1, hk, q⟩ := q₃
  cases ro; cases ri
  have h2 : xs[k.toNat]? = some xs[k.toNat] := by simp
  have q := q _ h2
  obtain ⟨vs, hl, rs⟩ := R₃.isList e
  obtain ⟨y, hy, ry⟩ := rs.get _ _ h2
  refine wpAny_getItem_list hl h0 h1 (by simpa using hy) ?_
  refine wp_seq1 (q P W₃ _ R₃) fun v u σ₄ W₄ h₄ tk₄ w₄ rv R₄ q₄ => ?_
  refine wp_seq1 (q₄ P W₄ _ _ _ R₄ (ry.mono w₄) rv) fun new un σ₅ W₅ h₅ tk₅ w₅ rn R₅ q₅ => ?_
  obtain ⟨l', k', ys, e1, e2, e₅, _, _, hk, q⟩ := q₅
  cases e1; cases e2
  refine set_list R₅ e₅ h0 h1 hk rn fun h' tk' R' => ?_
  exact ⟨.next, _, W₅, h', tk', rfl, fun p hp => w₅ p (w₄ p (w₃ p (w₂ p hp))), trivial, R', q⟩

/-! ## built-ins -/
theorem len_list {l : Addr} {xs : List V} {Q : V → St → Prop} (e : σ.hp l = some (.lst xs)) (hz : xs.length ≤ 1000000) (h : Q (.int xs.length) σ) : FL G C (fun us => call (.builtin "len") us) [.ref l] σ Q := fun P W s us R hu => by
  cases hu with
  | cons h1 h2 => (first | refine Rep.eInt h1 fun _ => ?_ | refine Rep.eRef h1 ?_ | refine Reps.eNil h1 ?_ | refine Rep.eStr h1 fun _ => ?_ | refine Rep.eBytes h1 fun _ => ?_ | refine Rep.eBool h1 ?_ | refine Rep.eNone h1 ?_ | refine Rep.eTyp h1 ?_ | refine Rep.eBi h1 ?_ | cases h1); (first | refine Rep.eInt h2 fun _ => ?_ | refine Rep.eRef h2 ?_ | refine Reps.eNil h2 ?_ | refine Rep.eStr h2 fun _ => ?_ | refine Rep.eBytes h2 fun _ => ?_ | refine Rep.eBool h2 ?_ | refine Rep.eNone h2 ?_ | refine Rep.eTyp h2 ?_ | refine Rep.eBi h2 ?_ | cases h2); obtain ⟨vs, hl, rs⟩ := R.isList e; exact call_len_list hl (by simp [rs.length]; omega) (Post.here R (by simpa [rs.length] using Rep.int (W := W) (xs.length : Int) _) h)
theorem len_s {x : Str} {Q : V → St → Prop} (hz : x.length ≤ 1000000) (h : Q (.int x.length) σ) : FL G C (fun us => call (.builtin "len") us) [.str x] σ Q := fun P W s us R hu => by
  cases hu with
  | cons h1 h2 => (first | refine Rep.eInt h1 fun _ => ?_ | refine Rep.eRef h1 ?_ | refine Reps.eNil h1 ?_ | refine Rep.eStr h1 fun _ => ?_ | refine Rep.eBytes h1 fun _ => ?_ | refine Rep.eBool h1 ?_ | refine Rep.eNone h1 ?_ | refine Rep.eTyp h1 ?_ | refine Rep.eBi h1 ?_ | cases h1); (first | refine Rep.eInt h2 fun _ => ?_ | refine Rep.eRef h2 ?_ | refine Reps.eNil h2 ?_ | refine Rep.eStr h2 fun _ => ?_ | refine Rep.eBytes h2 fun _ => ?_ | refine Rep.eBool h2 ?_ | refine Rep.eNone h2 ?_ | refine Rep.eTyp h2 ?_ | refine Rep.eBi h2 ?_ | cases h2); exact PySem.P.len_str (by omega) (Post.here R (.int _ _) h)
theorem range1 {n : Int} {Q : V → St → Prop} (h : ∀ l, σ.hp l = none → Q (.ref l) ⟨σ.loc, updH σ.hp l (.rng 0 n 1)⟩) : FL G C (fun us => call (.type "range") us) [.int n] σ Q := fun P W s us R hu => by
  refine Reps.eCons hu fun _ _ h1 h2 => ?_
  focus
    (first | refine Rep.eInt h1 fun _ => ?_ | refine Rep.eRef h1 ?_ | refine Reps.eNil h1 ?_ | refine Rep.eStr h1 fun _ => ?_ | refine Rep.eBytes h1 fun _ => ?_ | refine Rep.eBool h1 ?_ | refine Rep.eNone h1 ?_ | refine Rep.eTyp h1 ?_ | refine Rep.eBi h1 ?_ | cases h1); (first | refine Rep.eInt h2 fun _ => ?_ | refine Rep.eRef h2 ?_ | refine Reps.eNil h2 ?_ | refine Rep.eStr h2 fun _ => ?_ | refine Rep.eBytes h2 fun _ => ?_ | refine Rep.eBool h2 ?_ | refine Rep.eNone h2 ?_ | refine Rep.eTyp h2 ?_ | refine Rep.eBi h2 ?_ | cases h2)
    obtain ⟨hn, R'⟩ := R.alloc (o := .rng 0 n 1) ⟨_, _, _, rfl⟩ rfl
    exact call_range_1 (Post.here R' (.ref _) (h _ hn))
theorem range2 {a b : Int} {Q : V → St → Prop} (h : ∀ l, σ.hp l = none → Q (.ref l) ⟨σ.loc, updH σ.hp l (.rng a b 1)⟩) : FL G C (fun us => call (.type "range") us) [.int a, .int b] σ Q := fun P W s us R hu => by
  refine Reps.eCons hu fun _ _ h1 h2 => ?_
  focus
    (first | refine Rep.eInt h1 fun _ => ?_ | refine Rep.eRef h1 ?_ | refine Reps.eNil h1 ?_ | refine Rep.eStr h1 fun _ => ?_ | refine Rep.eBytes h1 fun _ => ?_ | refine Rep.eBool h1 ?_ | refine Rep.eNone h1 ?_ | refine Rep.eTyp h1 ?_ | refine Rep.eBi h1 ?_ | cases h1)
    refine Reps.eCons h2 fun _ _ h2 h3 => ?_
    focus
      (first | refine Rep.eInt h2 fun _ => ?_ | refine Rep.eRef h2 ?_ | refine Reps.eNil h2 ?_ | refine Rep.eStr h2 fun _ => ?_ | refine Rep.eBytes h2 fun _ => ?_ | refine Rep.eBool h2 ?_ | refine Rep.eNone h2 ?_ | refine Rep.eTyp h2 ?_ | refine Rep.eBi h2 ?_ | cases h2); (first | refine Rep.eInt h3 fun _ => ?_ | refine Rep.eRef h3 ?_ | refine Reps.eNil h3 ?_ | refine Rep.eStr h3 fun _ => ?_ | refine Rep.eBytes h3 fun _ => ?_ | refine Rep.eBool h3 ?_ | refine Rep.eNone h3 ?_ | refine Rep.eTyp h3 ?_ | refine Rep.eBi h3 ?_ | cases h3)
      obtain ⟨hn, R'⟩ := R.alloc (o := .rng a b 1) ⟨_, _, _, rfl⟩ rfl
      exact call_range_2 (Post.here R' (.ref _) (h _ hn))
theorem reversed_list {l : Addr} {xs : List V} {Q : V → St → Prop} (e : σ.hp l = some (.lst xs)) (h : ∀ r, σ.hp r = none → Q (.ref r) ⟨σ.loc, updH σ.hp r (.raw (revObj l ((xs.length : Int) - 1)))⟩) : FL G C (fun us => call (.type "reversed") us) [.ref l] σ Q := fun P W s us R hu => by
  refine Reps.eCons hu fun _ _ h1 h2 => ?_
  focus
    (first | refine Rep.eInt h1 fun _ => ?_ | refine Rep.eRef h1 ?_ | refine Reps.eNil h1 ?_ | refine Rep.eStr h1 fun _ => ?_ | refine Rep.eBytes h1 fun _ => ?_ | refine Rep.eBool h1 ?_ | refine Rep.eNone h1 ?_ | refine Rep.eTyp h1 ?_ | refine Rep.eBi h1 ?_ | cases h1); (first | refine Rep.eInt h2 fun _ => ?_ | refine Rep.eRef h2 ?_ | refine Reps.eNil h2 ?_ | refine Rep.eStr h2 fun _ => ?_ | refine Rep.eBytes h2 fun _ => ?_ | refine Rep.eBool h2 ?_ | refine Rep.eNone h2 ?_ | refine Rep.eTyp h2 ?_ | refine Rep.eBi h2 ?_ | cases h2)
    obtain ⟨vs, hl, rs⟩ := R.isList e
    obtain ⟨hn, R'⟩ := R.alloc (o := .raw (revObj l ((xs.length : Int) - 1))) rfl rfl
    refine call_reversed_list hl ?_
    rw [show (vs.toArray.size : Int) = xs.length by simp [rs.length]]
    exact Post.here R' (.ref _) (h _ hn)
theorem divmod_ii {a b : Int} {Q : V → St → Prop} (hb : b ≠ 0) (hp : Builtin.divisionGoesByPylong a b = false) (h : Q (.tup [.int (a.fdiv b), .int (a.fmod b)]) σ) : FL G C (fun us => call (.builtin "divmod") us) [.int a, .int b] σ Q := fun P W s us R hu => by
  refine Reps.eCons hu fun _ _ h1 h2 => ?_
  focus
    (first | refine Rep.eInt h1 fun _ => ?_ | refine Rep.eRef h1 ?_ | refine Reps.eNil h1 ?_ | refine Rep.eStr h1 fun _ => ?_ | refine Rep.eBytes h1 fun _ => ?_ | refine Rep.eBool h1 ?_ | refine Rep.eNone h1 ?_ | refine Rep.eTyp h1 ?_ | refine Rep.eBi h1 ?_ | cases h1)
    refine Reps.eCons h2 fun _ _ h2 h3 => ?_
    focus
      (first | refine Rep.eInt h2 fun _ => ?_ | refine Rep.eRef h2 ?_ | refine Reps.eNil h2 ?_ | refine Rep.eStr h2 fun _ => ?_ | refine Rep.eBytes h2 fun _ => ?_ | refine Rep.eBool h2 ?_ | refine Rep.eNone h2 ?_ | refine Rep.eTyp h2 ?_ | refine Rep.eBi h2 ?_ | cases h2); (first | refine Rep.eInt h3 fun _ => ?_ | refine Rep.eRef h3 ?_ | refine Reps.eNil h3 ?_ | refine Rep.eStr h3 fun _ => ?_ | refine Rep.eBytes h3 fun _ => ?_ | refine Rep.eBool h3 ?_ | refine Rep.eNone h3 ?_ | refine Rep.eTyp h3 ?_ | refine Rep.eBi h3 ?_ | cases h3)
      obtain ⟨W', w, hm, R'⟩ := R.tuple (vs := [.int (a.fdiv b) s.toks, .int (a.fmod b) (s.toks + 1)]) (n := 0)
      exact PyProof.Rows.divmod_int hb ⟨_, σ, W', _, _, rfl, w, .tup hm (.cons (.int _ _) (.cons (.int _ _) .nil)), R', h⟩ (.inl hp)

/-! ## methods -/
/-- `o.name(args)`: the method found on the value, then called with it ahead -/
def M1 (G : GE) {sc : Scope} (C : Act sc) (name : Str) (pl : Sem Bool) (f : Value → List Value → Sem Value) (x : V) (σ : St) (Q : V → St → Prop) : Prop :=
  ∀ P W s u, Rel C P W σ s.heap → Rep W x u → wpAny (model G.prog G.w) C.A (getMethod u name pl) (fun fx s₁ => wpAny (model G.prog G.w) C.A (f fx.1 fx.2) (Post C P W s Q) NoE s₁) NoE s
theorem Ev_Method {o : Expr} {name : Str} {apos pos : Pos} {args : List Expr} {pl : Sem Bool} {Q : V → St → Prop}
    (he : eval (.Call (.Attribute o name apos) args [] pos) C.env = (do
      let ov ← eval o C.env
      standAt apos.atName
      let (f, first) ← holding [ov] (getMethod ov name pl)
      callWith pos f first (backTo pos (starEach args C.env)) []))
    (h : Ev G C (eval o C.env) σ (fun v σ₁ => M1 G C name pl (fun f first => callWith pos f first (backTo pos (starEach args C.env)) []) v σ₁ Q)) :
    Ev G C (eval (.Call (.Attribute o name apos) args [] pos) C.env) σ Q := fun P W s R =>
  MethodCall_ (pl := pl) (wp_seq1 (h P W s R) fun v u σ₁ W₁ h₁ tk₁ w₁ rv R₁ q₁ =>
    wpAny_mono (q₁ P W₁ _ u R₁ rv) (fun fx s₂ h₂ => wpAny_mono h₂ (fun _ _ p => p.trans w₁) fun _ _ x => x) fun _ _ x => x) he

end
section
variable {G : GE} {sc : Scope} {C : Act sc} {σ : St}

/-- the library's rules over frames and ledgers, at the service of the relation -/
theorem Rel.viaNews {P W : Led} {h : Heap} (R : Rel C P W σ h) : ∃ mf news, Fr C.g C.FL h mf ∧ News C.g C.FL h news ∧ (∀ p ∈ news, p.1 < h.objs.size) ∧
    (∀ h', Fr C.g C.FL h' mf → News C.g C.FL h' news → Rel C P W σ h') ∧
    (∀ h' a ob o, Fr C.g C.FL h' mf → News C.g C.FL h' ((a, ob) :: news) → (∀ p ∈ news, p.1 ≠ a) → RepH W o ob → σ.hp a = none ∧ Rel C P W ⟨σ.loc, updH σ.hp a o⟩ h') := by
  obtain ⟨mf, ml, D, Cc, R⟩ := R
  obtain ⟨Pc, N, ap, pw, pnd, ndD, back⟩ := R.hand
  refine ⟨mf, D ++ (Pc ++ W), R.F, N, fun p hp => Heap.lt_size (N p hp).1, fun h' F' N' => back W D h' σ (fun _ h => h) F' N' ndD ap pw R.hp, fun h' a ob o F' N' hne r => ⟨?_, ?_⟩⟩
  · cases e : σ.hp a with
    | none => rfl
    | some o' => obtain ⟨ob', hm, _⟩ := R.hp _ _ e; exact absurd rfl (hne _ (List.mem_append_left _ hm))
  · refine back W ((a, ob) :: D) h' ⟨σ.loc, updH σ.hp a o⟩ (fun _ h => h) F' N' ?_ (fun p hp q hq => ?_) pw fun b o' e => ?_
    · rw [List.map_cons, List.nodup_cons]
      refine ⟨fun hm => ?_, ndD⟩
      obtain ⟨p, hp, e⟩ := List.mem_map.mp hm
      exact hne p (List.mem_append_left _ hp) e
    · rcases List.mem_cons.mp hp with rfl | hp
      · exact (hne q (List.mem_append_right _ hq)).symm
      · exact ap p hp q hq
    · by_cases hb : b = a
      · subst hb
        rw [show (St.mk σ.loc (updH σ.hp b o)).hp b = some o from updH_same ..] at e
        cases e
        exact ⟨ob, .head _, r⟩
      · rw [show (St.mk σ.loc (updH σ.hp a o)).hp b = σ.hp b from updH_ne hb] at e
        obtain ⟨ob', hm, r'⟩ := R.hp b o' e
        exact ⟨ob', .tail _ hm, r'⟩
theorem repH_mapSeq {W : Led} {vs us : List Value} {n : Nat} {f : Array Value → Array Value} {ys : List V} (e : f vs.toArray = us.toArray) (r : Reps W ys us) : RepH W (.lst ys) (Obj.mapSeq f (lstO vs n)) := by
  refine ⟨us, if (f vs.toArray).size == vs.toArray.size then n else n + 1, ?_, r⟩
  simp only [Obj.mapSeq, lstO, e]
theorem append_toArray' (a b : List Value) : a.toArray ++ b.toArray = (a ++ b).toArray := by simp

/-! ## methods of built-in values -/
theorem Rel.typeIs_of {P W : Led} {s : Shared} {x : V} {u : Value} {T : String} (R : Rel C P W σ s.heap) (r : Rep W x u)
    (h : (∃ l xs, x = .ref l ∧ σ.hp l = some (.lst xs) ∧ T = "list") ∨ (∃ i, x = .int i ∧ T = "int") ∨ (∃ y, x = .str y ∧ T = "str")) :
    s.TypeIs u T ∧ ∀ a, u = .ref a → ∃ o, s.heap.get? a = some o ∧ o.dict = none := by
  rcases h with ⟨l, xs, rfl, e, rfl⟩ | ⟨i, rfl, rfl⟩ | ⟨y, rfl, rfl⟩
  · cases r
    obtain ⟨vs, n, hg, rs⟩ := R.list e
    exact ⟨⟨_, hg, rfl⟩, fun a q => by cases q; exact ⟨_, hg, rfl⟩⟩
  · cases r; exact ⟨typeIs_int s i _, fun a q => by cases q⟩
  · cases r; exact ⟨typeIs_str s y _, fun a q => by cases q⟩

theorem M1_0 {name : Str} {id T : String} {pl : Sem Bool} {pos : Pos} {x : V} {Q : V → St → Prop} (slot : Slot T name id) (pa : PlainAttrs T) (hty : typeOf (.builtin id) = pure (.type "method_descriptor"))
    (hT : (∃ l xs, x = .ref l ∧ σ.hp l = some (.lst xs) ∧ T = "list") ∨ (∃ i, x = .int i ∧ T = "int") ∨ (∃ y, x = .str y ∧ T = "str"))
    (h : FL G C (fun us => call (.builtin id) us) [x] σ Q) : M1 G C name pl (fun f first => callWith pos f first (backTo pos (starEach [] C.env)) []) x σ Q := fun P W s u R r => by
  obtain ⟨t, d⟩ := R.typeIs_of r hT
  refine getMethod_builtin t pa slot hty d ?_
  exact callWith_method0 (h P W s [u] R (.cons r .nil))
theorem M1_n {name : Str} {id T : String} {pl : Sem Bool} {pos : Pos} {x : V} {e : Expr} {args : List Expr} {Q : V → St → Prop} (slot : Slot T name id) (pa : PlainAttrs T) (hty : typeOf (.builtin id) = pure (.type "method_descriptor"))
    (hT : (∃ l xs, x = .ref l ∧ σ.hp l = some (.lst xs) ∧ T = "list") ∨ (∃ i, x = .int i ∧ T = "int") ∨ (∃ y, x = .str y ∧ T = "str"))
    (he : starEach (e :: args) C.env = (false, eval e C.env) :: starEach args C.env) (hplain : (backTo pos (starEach args C.env)).any (·.1) = false)
    (h : Ls G C (spliced (backTo pos (starEach (e :: args) C.env))) σ (fun vs σ₁ => FL G C (fun us => call (.builtin id) us) (x :: vs) σ₁ Q)) :
    M1 G C name pl (fun f first => callWith pos f first (backTo pos (starEach (e :: args) C.env)) []) x σ Q := fun P W s u R r => by
  obtain ⟨t, d⟩ := R.typeIs_of r hT
  refine getMethod_builtin t pa slot hty d ?_
  refine callWith_method1 (wp_seqL (h P W s R) fun vs us σ₁ W₁ h₁ tk₁ w₁ r₁ R₁ q₁ => ?_) he hplain
  exact wpAny_mono (q₁ P W₁ _ _ R₁ (.cons (r.mono w₁) r₁)) (fun _ _ p => p.trans w₁) fun _ _ x => x

/-- an expression statement that yields no object -/
theorem Sx_Expr {e : Expr} {pos : Pos} {Q : Fl → St → Prop} (hi : interactive C.env = false) (hs : swapsWith e none pos.line C.env = pure false)
    (h : Ev G C (eval e C.env) σ (fun v σ' => v = .none ∧ Q .next σ')) : Sx G C (exec (.Expr e pos) C.env) σ Q := fun P W s R => by
  refine wpAny_Expr (wp_seq1 (h P W s R) fun v u σ₁ W₁ h₁ tk₁ w₁ r₁ R₁ q₁ => ?_) hi hs
  obtain ⟨rfl, q⟩ := q₁
  cases r₁
  exact ⟨.next, σ₁, W₁, h₁, tk₁, rfl, w₁, trivial, R₁, q⟩

theorem bit_length_i {i : Int} {Q : V → St → Prop} (h : Q (.int (Builtin.Int.intBits i)) σ) : FL G C (fun us => call (.builtin "int.bit_length") us) [.int i] σ Q := fun P W s us R hu => by
  cases hu with
  | cons h1 h2 => (first | refine Rep.eInt h1 fun _ => ?_ | refine Rep.eRef h1 ?_ | refine Reps.eNil h1 ?_ | refine Rep.eStr h1 fun _ => ?_ | refine Rep.eBytes h1 fun _ => ?_ | refine Rep.eBool h1 ?_ | refine Rep.eNone h1 ?_ | refine Rep.eTyp h1 ?_ | refine Rep.eBi h1 ?_ | cases h1); (first | refine Rep.eInt h2 fun _ => ?_ | refine Rep.eRef h2 ?_ | refine Reps.eNil h2 ?_ | refine Rep.eStr h2 fun _ => ?_ | refine Rep.eBytes h2 fun _ => ?_ | refine Rep.eBool h2 ?_ | refine Rep.eNone h2 ?_ | refine Rep.eTyp h2 ?_ | refine Rep.eBi h2 ?_ | cases h2); exact call_int_bit_length (Post.here R (.int _ _) h)

theorem append_l {l : Addr} {xs : List V} {v : V} {Q : V → St → Prop} (e : σ.hp l = some (.lst xs)) (hz : xs.length ≤ 1000000) (h : Q .none ⟨σ.loc, updH σ.hp l (.lst (xs ++ [v]))⟩) :
    FL G C (fun us => call (.builtin "list.append") us) [.ref l, v] σ Q := fun P W s us R hu => by
  refine Reps.eCons hu fun _ _ h1 h2 => ?_
  focus
    (first | refine Rep.eInt h1 fun _ => ?_ | refine Rep.eRef h1 ?_ | refine Reps.eNil h1 ?_ | refine Rep.eStr h1 fun _ => ?_ | refine Rep.eBytes h1 fun _ => ?_ | refine Rep.eBool h1 ?_ | refine Rep.eNone h1 ?_ | refine Rep.eTyp h1 ?_ | refine Rep.eBi h1 ?_ | cases h1)
    cases h2 with
    | @cons _ u _ _ h2 h3 =>
      (first | refine Rep.eInt h3 fun _ => ?_ | refine Rep.eRef h3 ?_ | refine Reps.eNil h3 ?_ | refine Rep.eStr h3 fun _ => ?_ | refine Rep.eBytes h3 fun _ => ?_ | refine Rep.eBool h3 ?_ | refine Rep.eNone h3 ?_ | refine Rep.eTyp h3 ?_ | refine Rep.eBi h3 ?_ | cases h3)
      obtain ⟨vs, n, ho, rs⟩ := R.list e
      refine wpAny_list_append_plain ⟨n, ho⟩ (fun h' ⟨n', ho'⟩ hs => ?_) (by show vs.toArray.size ≤ sizeLine; rw [List.size_toArray, rs.length, sizeLine_eq]; omega)
      exact Post.here (tk := s.toks) (R.change (o := .lst (xs ++ [v])) e hs ho' ⟨vs ++ [u], n', by simp [lstO], rs.append (.cons h2 .nil)⟩) .none h
theorem extend_l {l b : Addr} {xs ys : List V} {Q : V → St → Prop} (e : σ.hp l = some (.lst xs)) (e2 : σ.hp b = some (.lst ys)) (hz : xs.length + ys.length ≤ 1000000) (h : Q .none ⟨σ.loc, updH σ.hp l (.lst (xs ++ ys))⟩) :
    FL G C (fun us => call (.builtin "list.extend") us) [.ref l, .ref b] σ Q := fun P W s us R hu => by
  refine Reps.eCons hu fun _ _ h1 h2 => ?_
  focus
    (first | refine Rep.eInt h1 fun _ => ?_ | refine Rep.eRef h1 ?_ | refine Reps.eNil h1 ?_ | refine Rep.eStr h1 fun _ => ?_ | refine Rep.eBytes h1 fun _ => ?_ | refine Rep.eBool h1 ?_ | refine Rep.eNone h1 ?_ | refine Rep.eTyp h1 ?_ | refine Rep.eBi h1 ?_ | cases h1)
    refine Reps.eCons h2 fun _ _ h2 h3 => ?_
    focus
      (first | refine Rep.eInt h2 fun _ => ?_ | refine Rep.eRef h2 ?_ | refine Reps.eNil h2 ?_ | refine Rep.eStr h2 fun _ => ?_ | refine Rep.eBytes h2 fun _ => ?_ | refine Rep.eBool h2 ?_ | refine Rep.eNone h2 ?_ | refine Rep.eTyp h2 ?_ | refine Rep.eBi h2 ?_ | cases h2); (first | refine Rep.eInt h3 fun _ => ?_ | refine Rep.eRef h3 ?_ | refine Reps.eNil h3 ?_ | refine Rep.eStr h3 fun _ => ?_ | refine Rep.eBytes h3 fun _ => ?_ | refine Rep.eBool h3 ?_ | refine Rep.eNone h3 ?_ | refine Rep.eTyp h3 ?_ | refine Rep.eBi h3 ?_ | cases h3)
      obtain ⟨vs, n, ho, rs⟩ := R.list e
      obtain ⟨vs2, n2, ho2, rs2⟩ := R.list e2
      have l1 := rs.length
      have l2 := rs2.length
      refine call_meets PySem.F.slot_list_extend ⟨_, ho, rfl⟩ PySem.F.entry_list_extend (PySem.F.args_list_extend_2 _ _) (AutoSeq1.list_extend_list_list_0 l vs.toArray n b vs2.toArray n2 ?_ ?_ ?_) ⟨ho, ho2, ?_⟩
      · simp only [List.size_toArray, Builtin.List.listTooLong, Bool.and_eq_true, decide_eq_true_eq, not_and]; intro _; rw [sizeLine_eq]; omega
      · rw [List.size_toArray, sizeLine_eq]; omega
      · rw [List.size_toArray, List.size_toArray, sizeLine_eq]; omega
      · refine Post.here (tk := s.toks) (R.change (o := .lst (xs ++ ys)) e (Heap.SameBut.update s.heap l (Obj.mapSeq fun x => x ++ vs2.toArray)) (Heap.get?_update_self _ ho rfl) (repH_mapSeq (append_toArray' vs vs2) (rs.append rs2))) .none h
theorem reverse_l {l : Addr} {xs : List V} {Q : V → St → Prop} (e : σ.hp l = some (.lst xs)) (hz : xs.length ≤ 1000000) (h : Q .none ⟨σ.loc, updH σ.hp l (.lst xs.reverse)⟩) :
    FL G C (fun us => call (.builtin "list.reverse") us) [.ref l] σ Q := fun P W s us R hu => by
  refine Reps.eCons hu fun _ _ h1 h2 => ?_
  focus
    (first | refine Rep.eInt h1 fun _ => ?_ | refine Rep.eRef h1 ?_ | refine Reps.eNil h1 ?_ | refine Rep.eStr h1 fun _ => ?_ | refine Rep.eBytes h1 fun _ => ?_ | refine Rep.eBool h1 ?_ | refine Rep.eNone h1 ?_ | refine Rep.eTyp h1 ?_ | refine Rep.eBi h1 ?_ | cases h1); (first | refine Rep.eInt h2 fun _ => ?_ | refine Rep.eRef h2 ?_ | refine Reps.eNil h2 ?_ | refine Rep.eStr h2 fun _ => ?_ | refine Rep.eBytes h2 fun _ => ?_ | refine Rep.eBool h2 ?_ | refine Rep.eNone h2 ?_ | refine Rep.eTyp h2 ?_ | refine Rep.eBi h2 ?_ | cases h2)
    obtain ⟨vs, n, ho, rs⟩ := R.list e
    have l1 := rs.length
    refine call_meets PySem.F.slot_list_reverse ⟨_, ho, rfl⟩ PySem.F.entry_list_reverse (PySem.F.args_list_reverse_1 _) (AutoSeq1.list_reverse_list_0 l vs.toArray n (by rw [List.size_toArray, sizeLine_eq]; omega)) ⟨ho, ?_⟩
    refine Post.here (tk := s.toks) (R.change (o := .lst xs.reverse) e (Heap.SameBut.update s.heap l (Obj.mapSeq fun x => x.reverse)) (Heap.get?_update_self _ ho rfl) (repH_mapSeq (by simp) rs.reverse)) .none h
theorem repeat_list (items : List Value) : ∀ n : Nat, List.foldl (fun (x1 x2 : Array Value) => x1 ++ x2) #[] (List.replicate n items.toArray) = (List.replicate n items).flatten.toArray := by
  suffices ∀ (n : Nat) (a : List Value), List.foldl (fun (x1 x2 : Array Value) => x1 ++ x2) a.toArray (List.replicate n items.toArray) = (a ++ (List.replicate n items).flatten).toArray from fun n => by simpa using this n []
  intro n
  induction n with
  | zero => intro a; simp
  | succ n ih => intro a; rw [List.replicate_succ, List.foldl_cons, append_toArray', ih]; simp [List.replicate_succ]
/-- `[v] * n` -/
theorem mul_l1 {l : Addr} {v : V} {n : Int} {Q : V → St → Prop} (e : σ.hp l = some (.lst [v])) (hz : n ≤ 1000000) (h0 : 0 ≤ n) (h : ∀ r, σ.hp r = none → Q (.ref r) ⟨σ.loc, updH σ.hp r (.lst (List.replicate n.toNat v))⟩) :
    F2 G C (binaryOp .Mult) (.ref l) (.int n) σ Q := fun P W s u w R hu hw => by
  (first | refine Rep.eInt hu fun _ => ?_ | refine Rep.eRef hu ?_ | refine Reps.eNil hu ?_ | refine Rep.eStr hu fun _ => ?_ | refine Rep.eBytes hu fun _ => ?_ | refine Rep.eBool hu ?_ | refine Rep.eNone hu ?_ | refine Rep.eTyp hu ?_ | refine Rep.eBi hu ?_ | cases hu); (first | refine Rep.eInt hw fun _ => ?_ | refine Rep.eRef hw ?_ | refine Reps.eNil hw ?_ | refine Rep.eStr hw fun _ => ?_ | refine Rep.eBytes hw fun _ => ?_ | refine Rep.eBool hw ?_ | refine Rep.eNone hw ?_ | refine Rep.eTyp hw ?_ | refine Rep.eBi hw ?_ | cases hw)
  obtain ⟨vs, k, ho, rs⟩ := R.list e
  cases rs with
  | @cons _ y _ _ hy r =>
    cases r
    obtain ⟨mf, news, F, N, lt, _, back⟩ := R.viaNews
    refine PyProof.Rows.mul_list F N ho (by omega) (by omega) (by simp; omega) fun h' F' N' => ?_
    have hne : ∀ p ∈ news, p.1 ≠ s.heap.objs.size := fun p hp => Nat.ne_of_lt (lt p hp)
    obtain ⟨hn, R'⟩ := back h' _ _ (.lst (List.replicate n.toNat v)) F' N' hne ⟨List.replicate n.toNat y, 0, by
      have : ([y].toArray.isEmpty = true) = False := by simp
      simp only [lstO, this, if_false]
      rw [repeat_list]
      simp, Reps.replicate hy _⟩
    exact Post.here (tk := s.toks) R' (.ref _) (h _ hn)
end
theorem upd_other {hp : Hp} {l r : Addr} {o o' : HO} (hr : hp r = none) (e : hp l = some o) : updH hp r o' l = some o := by
  rw [updH_ne (fun q => by rw [q, hr] at e; cases e)]; exact e
theorem upd_ne' {hp : Hp} {l r : Addr} {o o' : HO} (hr : l ≠ r) (e : hp l = some o) : updH hp r o' l = some o := by
  rw [updH_ne hr]; exact e
theorem ne_of_none {hp : Hp} {l r : Addr} {o : HO} (hr : hp r = none) (e : hp l = some o) : l ≠ r := fun q => by rw [q, hr] at e; cases e
theorem range_up {a b : Int} (ha : -1000000000 ≤ a) (ha' : a ≤ 1000000000) (hb : -1000000000 ≤ b) (hb' : b ≤ 1000000000) : Builtin.Range.small a b 1 = true ∧ Builtin.Range.rangeSize a b 1 = ((b - a).toNat : Int) := by
  refine ⟨?_, rangeSize_nat a b⟩
  unfold Builtin.Range.small Builtin.Range.rangeFitsLong
  rw [rangeSize_nat]
  simp only [Bool.and_eq_true, decide_eq_true_eq, Bool.or_eq_true, beq_iff_eq]
  refine ⟨⟨⟨⟨?_, ?_⟩, ?_⟩, ?_⟩, ?_⟩ <;> first | omega | (right; simp; omega)
theorem mulOk_left {a b : Int} (h : a.natAbs < 2 ^ 63) : IntMulOk a b := by
  apply IntMulOk.of_left
  unfold Builtin.Int.intBits
  split
  · omega
  · rename_i q
    have : a.natAbs ≠ 0 := by intro e; apply q; simp; omega
    have := (Nat.log2_lt this).mpr h
    omega
theorem IntMulOk.comm' {a b : Int} (h : IntMulOk a b) : IntMulOk b a := by
  unfold IntMulOk at *; rw [Int.add_comm, Bool.and_comm (decide (Builtin.Int.intBits b > _))]; exact h

local macro_rules | `(tactic| kbo_bools) => `(tactic| first | assumption | exact updH_same _ _ _ | (refine upd_other (by assumption) ?_; kbo_bools) | (refine upd_ne' (by first | assumption | (apply Ne.symm; assumption)) ?_; kbo_bools))
local macro_rules | `(tactic| kct_strs) => `(tactic| first | exact hp_refl | (refine hp_upd ?_; kct_strs) | (refine hp_fresh ?_ (by assumption); kct_strs))
/-- fewer locals: each by a look -/
local macro_rules | `(tactic| tlg_ne) => `(tactic| (refine loc_le ?_; (repeat (refine List.forall_mem_cons.mpr ⟨by with_unfolding_all rfl, ?_⟩)); exact List.forall_mem_nil _))

local macro_rules | `(tactic| kas_types) => `(tactic| first | assumption | omega | decide | exact mulOk_left (by first | decide | omega) | exact IntMulOk.comm' (mulOk_left (by first | decide | omega)))

theorem isList_of {σ : St} {l : Addr} {xs : List V} (e : σ.hp l = some (.lst xs)) : (∃ l' xs', V.ref l = .ref l' ∧ σ.hp l' = some (.lst xs') ∧ "list" = "list") ∨ (∃ i, V.ref l = .int i ∧ "list" = "int") ∨ (∃ y, V.ref l = .str y ∧ "list" = "str") := .inl ⟨l, xs, rfl, e, rfl⟩

local macro_rules | `(tactic| tb_start) => `(tactic| ((with_reducible (first
  | tb_rel
  | refine Ev_builtin (by assumption) (by kernel_rfl!) (by kernel_rfl!) (by kernel_rfl!) (by kernel_rfl!) (by with_unfolding_all rfl) ?_
  | refine Ev_type (by assumption) (by kernel_rfl!) (by kernel_rfl!) (by kernel_rfl!) (by kernel_rfl!) (by with_unfolding_all rfl) ?_
  | refine Ev_Call (by with_unfolding_all rfl) ?_
  | refine callWith_bi (by with_unfolding_all rfl) (by with_unfolding_all rfl) ?_
  | refine callWith_ty (by with_unfolding_all rfl) (by with_unfolding_all rfl) ?_
  | refine Ev_Subscript ?_
  | refine Ev_Method (by with_unfolding_all rfl) ?_
  | (refine len_list (by kbo_bools) ?_ ?_; · kas_types)
  | refine range1 (fun _ _ => ?_)
  | refine range2 (fun _ _ => ?_)
  | (refine mul_l1 (by kbo_bools) ?pyk ?pyl (fun _ _ => ?_); (case pyk => kas_types); (case pyl => kas_types))
  | (refine divmod_ii ?_ ?_ ?_; · kas_types; · kas_types)
  | refine M1_n (T := "list") (name := Str.ofString "append") (id := "list.append") PySem.F.slot_list_append PySem.F.plainAttrs_list PySem.F.type_list_append (isList_of (by kbo_bools)) (by with_unfolding_all rfl) (by with_unfolding_all rfl) ?_
  | (refine append_l (by kbo_bools) ?_ ?_; · kas_types)
  | refine Sx_AssignSub (by with_unfolding_all rfl) ?_
  | refine Sx_AugSub (by intro _ _ _; with_unfolding_all rfl) ?_
  | refine Sx_Expr (by with_unfolding_all rfl) (by with_unfolding_all rfl) ?_)) <;> (try dsimp only)))
theorem St.le_of {l l' : Loc} {h h' : Hp} (hl : ∀ x v, lk l' x = some v → lk l x = some v) (hh : ∀ a o, h' a = some o → h a = some o) : St.le ⟨l', h'⟩ ⟨l, h⟩ := ⟨hl, hh⟩
local macro_rules | `(tactic| k_places) => `(tactic| (refine St.le_of ?_ ?_; (tlg_ne); kct_strs))
section
variable {G : GE} {sc : Scope} {C : Act sc} {σ : St}

/-- a try whose body runs through -/
theorem Sx_Try {body : List Stmt} {handlers : List ExceptHandler} {pos : Pos} {Q : Fl → St → Prop} (h : Sx G C (execs body C.env) σ Q) :
    Sx G C (exec (.Try body handlers [] [] pos) C.env) σ Q := fun P W s R => by
  show wpAny _ _ (do standAt pos; tryStmt false (execs body C.env) handlers (execs [] C.env) [] C.env) _ _ _
  refine wpAny_bind (wpAny_standAt ?_)
  unfold tryStmt
  simp only [List.isEmpty_nil, if_true]
  refine wpAny_bind (wpAny_attempt (wpAny_mono (h P W s R) (fun f s₁ p => ?_) fun _ _ x => x.elim))
  cases f <;> first | exact wpAny_pure p | exact wpAny_execs_nil p

/-! ## chained comparisons -/
theorem Bx_Compare2 {l m r : Expr} {o1 o2 : CmpOp} {pos : Pos} {Q : Bool → St → Prop} {whole : Sem Value}
    (hm : behindInMarks o2 r = false)
    (h : Ev G C (eval l C.env) σ (fun a σ₁ => Ev G C (eval m C.env) σ₁ (fun b σ₂ => F2 G C (compareOp o1) a b σ₂ (fun c σ₃ => B1 G C truthy c σ₃ (fun t σ₄ =>
      if t then Ev G C (eval r C.env) σ₄ (fun d σ₅ => F2 G C (compareOp o2) b d σ₅ (fun e σ₆ => B1 G C truthy e σ₆ Q)) else Q false σ₄))))) :
    Bx G C (isTrue (.Compare l [o1, o2] [m, r] pos) C.env whole) σ Q := fun P W s R => by
  have e : isTrue (.Compare l [o1, o2] [m, r] pos) C.env whole = (do testChain pos (← eval l C.env) [o1, o2] [eval m C.env, markedBehindIn o2 r (eval r C.env)]) := rfl
  rw [e, markedBehindIn_of_false hm]
  refine wpAny_bind (wp_seq1 (h P W s R) fun a u σ₁ W₁ h₁ tk₁ w₁ ra R₁ q₁ => ?_)
  unfold testChain
  refine wpAny_bind (wpAny_holding (wp_seq1 (q₁ P W₁ _ R₁) fun b v σ₂ W₂ h₂ tk₂ w₂ rb R₂ q₂ => wpAny_bind (wpAny_standAt (wpAny_bind (wpAny_holding ?_)))))
  refine wp_seq1 (q₂ P W₂ _ _ _ R₂ (ra.mono w₂) rb) fun c z σ₃ W₃ h₃ tk₃ w₃ rc R₃ q₃ => ?_
  refine wpAny_bind (wpAny_releaseD (wpAny_bind (wpAny_holding ?_)))
  refine wp_seqB (q₃ P W₃ _ _ R₃ rc) fun t σ₄ W₄ h₄ tk₄ w₄ R₄ q₄ => ?_
  have w : ∀ p ∈ W, p ∈ W₄ := fun p hp => w₄ p (w₃ p (w₂ p (w₁ p hp)))
  cases t with
  | false => exact wpAny_pure ⟨σ₄, W₄, h₄, tk₄, rfl, w, R₄, q₄⟩
  | true =>
    simp only [if_true] at q₄ ⊢
    unfold testChain
    refine wpAny_bind (wpAny_holding (wp_seq1 (q₄ P W₄ _ R₄) fun d y σ₅ W₅ h₅ tk₅ w₅ rd R₅ q₅ => wpAny_bind (wpAny_standAt (wpAny_bind ?_))))
    refine PyProof.Rows.wpAny_operate' (wp_seq1 (q₅ P W₅ _ _ _ R₅ ((rb.mono w₃).mono w₄ |>.mono w₅) rd) fun e x σ₆ W₆ h₆ tk₆ w₆ re R₆ q₆ => wpAny_holding ?_)
    exact wpAny_mono (q₆ P W₆ _ _ R₆ re) (fun _ _ p => ((p.trans w₆).trans w₅).trans w) fun _ _ x => x

theorem truthy_i {i : Int} {Q : Bool → St → Prop} (h : Q (i != 0) σ) : B1 G C truthy (.int i) σ Q := fun P W s u R hu => by
  (first | refine Rep.eInt hu fun _ => ?_ | refine Rep.eRef hu ?_ | refine Reps.eNil hu ?_ | refine Rep.eStr hu fun _ => ?_ | refine Rep.eBytes hu fun _ => ?_ | refine Rep.eBool hu ?_ | refine Rep.eNone hu ?_ | refine Rep.eTyp hu ?_ | refine Rep.eBi hu ?_ | cases hu); exact PyProof.Rows.truthy_int (PostB.here' R h)
theorem ite_bool {b : Bool} {X Y : Prop} (h1 : b = true → X) (h2 : b = false → Y) : if b = true then X else Y := by
  cases b
  · simpa using h2 rfl
  · simpa using h1 rfl

/-! ## a call of the top's def, by its contract -/
def callPost (G : GE) {sc : Scope} (C : Act sc) (f : Str) (Q : V → St → Prop) (vs : List V) (σ : St) : Prop :=
  ∃ Qf : V → Hp → Prop, (∀ a, G.mg f = some (.ref a) → FL G C (fun us => call (.ref a) us) vs σ (fun v σ' => σ'.loc = σ.loc ∧ Qf v σ'.hp)) ∧ ∀ r hp', Qf r hp' → Q r ⟨σ.loc, hp'⟩
theorem callPost_i (O : C.Ok G) {f : Str} {Q : V → St → Prop} {vs : List V} {loc : Loc} {hp : Hp} {dep : Nat} {Qf : V → Hp → Prop} (hf : FnOk G f dep vs hp Qf) (hd : C.A.depth + dep ≤ 600) (hu : C.A.units + 8 * dep ≤ 6000)
    (h : ∀ r hp', Qf r hp' → Q r ⟨loc, hp'⟩) : callPost G C f Q vs ⟨loc, hp⟩ := ⟨Qf, fun a ha => hf a ha sc C O hd hu loc, h⟩
theorem Ev_CallFn (O : C.Ok G) {f : Str} {fp pos : Pos} {e : Expr} {args : List Expr} {Q : V → St → Prop} {ps : Arguments} {bd : List Stmt} {fs : Scope}
    (hx : sc.names.lookup f = some .globalImplicit) (hd : (f == ("__debug__" : Str)) = false) (hdef : defOf G.prog f = some (ps, bd, fs))
    (he : starEach (e :: args) C.env = (false, eval e C.env) :: starEach args C.env) (hplain : (backTo pos (starEach args C.env)).any (·.1) = false)
    (h : Ls G C (spliced (backTo pos (starEach (e :: args) C.env))) σ (callPost G C f Q)) :
    Ev G C (eval (.Call (.Name f fp) (e :: args) [] pos) C.env) σ Q := by
  obtain ⟨a, o, pm, cd, doc, h1, h2, h3, h4⟩ := O.top.fn f ps bd fs hdef
  refine Ev_Call rfl (Ev_global O hx hd h1 (callWith_fn he hplain ?_))
  intro P W s R
  refine wpAny_mono (h P W s R) (fun us s₁ ⟨vs, σ₁, W₁, h₁, tk₁, e, w, r, R₁, q⟩ => ⟨vs, σ₁, W₁, h₁, tk₁, e, w, r, R₁, fun P' W' h' R' => ⟨o, _, R'.keep _ _ h2, h3⟩, ?_⟩) fun _ _ x => x
  obtain ⟨Qf, hf, k⟩ := q
  obtain ⟨loc₁, hp₁⟩ := σ₁
  refine fun P' W' s' us' R' r' => wpAny_mono (hf a h1 P' W' s' us' R' r') (fun v s₂ ⟨v', σ₂, W₂, h₂, tk₂, e₂, w₂, r₂, R₂, hl, q₂⟩ => ?_) fun _ _ x => x
  obtain ⟨loc₂, hp₂⟩ := σ₂
  simp only at hl q₂
  subst hl
  exact ⟨v', _, W₂, h₂, tk₂, e₂, w₂, r₂, R₂, k _ _ q₂⟩
end
local macro_rules | `(tactic| kat_tups) => `(tactic| (refine Ev_CallFn (by assumption) (by kernel_rfl!) (by kernel_rfl!) (by with_unfolding_all rfl) (by with_unfolding_all rfl) (by with_unfolding_all rfl) ?_))
local macro_rules | `(tactic| tb_rel) => `(tactic| with_reducible (first
  | refine Sx_Try ?_
  | refine Bx_Compare2 (by with_unfolding_all rfl) ?_
  | refine truthy_i ?_))
section
variable {G : GE} {sc : Scope} {C : Act sc} {σ : St}

theorem Rel.extBut {P W : Led} {h h' : Heap} (R : Rel C P W σ h) (hs : Heap.ExtBut h.objs.size h h') : Rel C P W σ h' := by
  obtain ⟨mf, news, F, N, lt, back, _⟩ := R.viaNews
  exact back h' (F.extBut hs (Nat.le_refl _)) fun p hp => ⟨hs _ _ (Nat.ne_of_lt (lt p hp)) (N p hp).1, (N p hp).2⟩

def asPair (Q : V → V → St → Prop) (v : V) (σ : St) : Prop := ∃ a b, v = .tup [a, b] ∧ Q a b σ
theorem asPair_i {Q : V → V → St → Prop} {a b : V} (h : Q a b σ) : asPair Q (.tup [a, b]) σ := ⟨a, b, rfl, h⟩
theorem Sx_Pair (O : C.Ok G) {x y : Str} {px py tp pos : Pos} {k : Nat} {e : Expr} {Q : Fl → St → Prop} (hx : Storable C x) (hy : Storable C y)
    (hs : swapsWithSole [.Tuple [.Name x px, .Name y py] k tp] e pos.line C.env = pure false)
    (hw : swappedStores [.Tuple [.Name x px, .Name y py] k tp] e C.env = pure none)
    (h : Ev G C (eval e C.env) σ (asPair fun a b σ' => Q .next ⟨setL (setL σ'.loc x a) y b, σ'.hp⟩)) :
    Sx G C (exec (.Assign [.Tuple [.Name x px, .Name y py] k tp] e pos) C.env) σ Q := fun P W s R => by
  refine Assign_Tuple (wp_seq1 (h P W s R) fun v u σ₁ W₁ h₁ tk₁ w₁ rv R₁ q₁ => ?_) hs hw
  obtain ⟨a, b, rfl, q⟩ := q₁
  cases rv with
  | @tup _ vs t n hm rs =>
    cases rs with
    | @cons _ va _ _ ra rs =>
      cases rs with
      | @cons _ vb _ _ rb rs =>
        cases rs
        refine assign_Tuple_tuple (items := #[va, vb]) O.handled (R₁.isTuple hm) rfl rfl fun h' he => ?_
        have R₂ := R₁.extBut he
        show wpAny _ _ (assignInOrder [assign (.Name x px) C.env, assign (.Name y py) C.env] [va, vb]) _ _ _
        refine wpAny_bind (wpAny_holding (assign_Name (store_any (s := { s with heap := h', toks := tk₁ }) O.kind hx R₂ ra fun h₃ tk₃ R₃ => ?_)))
        refine wpAny_bind (wpAny_holding (assign_Name (store_any (s := { s with heap := h₃, toks := tk₃ }) O.kind hy R₃ rb fun h₄ tk₄ R₄ => ?_)))
        exact wpAny_pure ⟨.next, _, W₁, h₄, tk₄, rfl, w₁, trivial, R₄, q⟩
theorem Sx_PairS (O : C.Ok G) {x y : Str} {px py tp pos : Pos} {k : Nat} {e : Expr} {Q : Fl → St → Prop} (hx : Storable C x) (hy : Storable C y)
    (hs : swapsWithSole [.Tuple [.Name x px, .Name y py] k tp] e pos.line C.env = pure false)
    (hw : swappedStores [.Tuple [.Name x px, .Name y py] k tp] e C.env = pure (some [x, y]))
    (h : Ev G C (eval e C.env) σ (asPair fun a b σ' => Q .next ⟨setL (setL σ'.loc y b) x a, σ'.hp⟩)) :
    Sx G C (exec (.Assign [.Tuple [.Name x px, .Name y py] k tp] e pos) C.env) σ Q := fun P W s R => by
  refine Assign_Tuple_swapped (names := [x, y]) (wp_seq1 (h P W s R) fun v u σ₁ W₁ h₁ tk₁ w₁ rv R₁ q₁ => ?_) hs hw
  obtain ⟨a, b, rfl, q⟩ := q₁
  cases rv with
  | @tup _ vs t n hm rs =>
    cases rs with
    | @cons _ va _ _ ra rs =>
      cases rs with
      | @cons _ vb _ _ rb rs =>
        cases rs
        refine unpackItems_tuple (items := #[va, vb]) O.handled (R₁.isTuple hm) fun h' he => ?_
        have R₂ := R₁.extBut he
        show wpAny _ _ (assignInOrder [bindName C.env y, bindName C.env x] [vb, va]) _ _ _
        refine wpAny_bind (wpAny_holding (bindName_ (store_any (s := { s with heap := h', toks := tk₁ }) O.kind hy R₂ rb fun h₃ tk₃ R₃ => ?_)))
        refine wpAny_bind (wpAny_holding (bindName_ (store_any (s := { s with heap := h₃, toks := tk₃ }) O.kind hx R₃ ra fun h₄ tk₄ R₄ => ?_)))
        exact wpAny_pure ⟨.next, _, W₁, h₄, tk₄, rfl, w₁, trivial, R₄, q⟩

theorem eq_ss {x y : Str} {Q : V → St → Prop} (h : Q (.bool (x == y)) σ) : F2 G C (compareOp .Eq) (.str x) (.str y) σ Q := fun P W s u v R hu hv => by
  (first | refine Rep.eInt hu fun _ => ?_ | refine Rep.eRef hu ?_ | refine Reps.eNil hu ?_ | refine Rep.eStr hu fun _ => ?_ | refine Rep.eBytes hu fun _ => ?_ | refine Rep.eBool hu ?_ | refine Rep.eNone hu ?_ | refine Rep.eTyp hu ?_ | refine Rep.eBi hu ?_ | cases hu); (first | refine Rep.eInt hv fun _ => ?_ | refine Rep.eRef hv ?_ | refine Reps.eNil hv ?_ | refine Rep.eStr hv fun _ => ?_ | refine Rep.eBytes hv fun _ => ?_ | refine Rep.eBool hv ?_ | refine Rep.eNone hv ?_ | refine Rep.eTyp hv ?_ | refine Rep.eBi hv ?_ | cases hv); exact PyProof.Rows.eq_str (Post.here' R (.bool _) h)
end
local macro_rules | `(tactic| tb_rel) => `(tactic| with_reducible (first
  | kat_tups
  | refine Sx_Pair (by assumption) (by lcg_off) (by lcg_off) (by with_unfolding_all rfl) (by with_unfolding_all rfl) ?_
  | refine Sx_PairS (by assumption) (by lcg_off) (by lcg_off) (by with_unfolding_all rfl) (by with_unfolding_all rfl) ?_
  | refine asPair_i ?_
  | refine eq_ss ?_
  | refine ne_ss ?_))
theorem and_low (k : Nat) : ∀ (x y : Int), 0 ≤ y → y < 2 ^ k → Builtin.bitAnd (x * 2 ^ k) y = 0 := by
  induction k with
  | zero =>
    intro x y h0 h1
    have : y = 0 := by simp at h1; omega
    subst this
    exact bitAnd_zero _
  | succ k ih =>
    intro x y h0 h1
    rw [kbt_halves]
    have e : x * 2 ^ (k + 1) = 2 * (x * 2 ^ k) := by rw [Int.pow_succ, ← Int.mul_assoc, Int.mul_comm]
    rw [e, Int.mul_ediv_cancel_left _ (by decide), ih x (y / 2) (by omega) (by rw [Int.pow_succ] at h1; omega)]
    have : (2 * (x * 2 ^ k)) % 2 = 0 := Int.mul_emod_right _ _
    simp [this]
theorem or_low {k : Nat} {x y : Int} (h0 : 0 ≤ y) (h1 : y < 2 ^ k) : Builtin.bitOr (x * 2 ^ k) y = x * 2 ^ k + y := by
  rw [bitOr_and, and_low k x y h0 h1]; omega
theorem and_high (k : Nat) : ∀ a : Int, Builtin.bitAnd a (a / 2 ^ k * 2 ^ k) = a / 2 ^ k * 2 ^ k := by
  induction k with
  | zero => intro a; simp; exact bitAnd_self a
  | succ k ih =>
    intro a
    have e : a / 2 ^ (k + 1) * 2 ^ (k + 1) = 2 * (a / 2 / 2 ^ k * 2 ^ k) := by
      rw [Int.ediv_ediv_of_nonneg (by decide), Int.pow_succ, Int.mul_comm ((2 : Int) ^ k) 2]
      rw [Int.mul_left_comm]
    rw [kbt_halves, e, Int.mul_ediv_cancel_left _ (by decide), ih]
    have : (2 * (a / 2 / 2 ^ k * 2 ^ k)) % 2 = 0 := Int.mul_emod_right _ _
    simp [this]
theorem xor_high {k : Nat} {a : Int} : Builtin.bitXor a (a / 2 ^ k * 2 ^ k) = a % 2 ^ k := by
  have e := Int.mul_ediv_add_emod a (2 ^ k)
  rw [Int.mul_comm] at e
  rw [bitXor_and, and_high]; omega

section
variable {G : GE} {sc : Scope} {C : Act sc} {σ : St}
theorem lshift_n {a : Int} {k : Nat} (m : Nat) {Q : V → St → Prop} (hm : a.natAbs < 2 ^ m) (hk : m + k ≤ 2 ^ 27) (h : Q (.int (a * 2 ^ k)) σ) : F2 G C (binaryOp .LShift) (.int a) (.int k) σ Q :=
  lshift_ii (by omega) (by have := intBits_le_iff.mpr hm; omega) (by rw [Int.toNat_natCast]; exact h)
theorem ilshift_n {a : Int} {k : Nat} (m : Nat) {Q : V → St → Prop} (hm : a.natAbs < 2 ^ m) (hk : m + k ≤ 2 ^ 27) (h : Q (.int (a * 2 ^ k)) σ) : F2 G C (inplaceOp .LShift) (.int a) (.int k) σ Q :=
  ilshift_ii (by omega) (by have := intBits_le_iff.mpr hm; omega) (by rw [Int.toNat_natCast]; exact h)
theorem rshift_n {a : Int} {k : Nat} {Q : V → St → Prop} (h : Q (.int (a / 2 ^ k)) σ) : F2 G C (binaryOp .RShift) (.int a) (.int k) σ Q :=
  rshift_ii (by omega) (by rw [Int.toNat_natCast, Int.fdiv_eq_ediv_of_nonneg _ (Int.le_of_lt (kbt_pos k))]; exact h)
theorem irshift_n {a : Int} {k : Nat} {Q : V → St → Prop} (h : Q (.int (a / 2 ^ k)) σ) : F2 G C (inplaceOp .RShift) (.int a) (.int k) σ Q :=
  irshift_ii (by omega) (by rw [Int.toNat_natCast, Int.fdiv_eq_ediv_of_nonneg _ (Int.le_of_lt (kbt_pos k))]; exact h)

/-- two branches that go on alike -/
def joinQ (M : St → Prop) : Fl → St → Prop := fun fl σ => fl = .next ∧ ∃ σ', St.le σ' σ ∧ M σ'
theorem Sx_IfJoin {test : Expr} {body orelse rest : List Stmt} {pos : Pos} {Q : Fl → St → Prop} (M : St → Prop)
    (h : Bx G C (isTrue test C.env (eval test C.env)) σ (fun b σ₁ => if b then Sx G C (execs body C.env) σ₁ (joinQ M) else Sx G C (execs orelse C.env) σ₁ (joinQ M)))
    (k : ∀ σ, M σ → Sx G C (execs rest C.env) σ Q) : Sx G C (execs (.If test body orelse pos :: rest) C.env) σ Q := by
  refine Sx_cons (Sx.mono (Sx_If h) ?_)
  rintro fl σ' ⟨rfl, σ'', hl, hM⟩
  exact fun P W s R => k σ'' hM P W s (R.le hl)
theorem joinQ_i {M : St → Prop} (σ' : St) (h1 : St.le σ' σ) (h2 : M σ') : joinQ M .next σ := ⟨rfl, σ', h1, h2⟩
end
local macro_rules | `(tactic| lsm_bools) => `(tactic| ((fail_if_success (with_reducible refine Sx_IfJoin (fun _ => True) ?_ ?_)); tb_start))
theorem isInt_of {σ : St} {i : Int} : (∃ l' xs', V.int i = .ref l' ∧ σ.hp l' = some (.lst xs') ∧ "int" = "list") ∨ (∃ j, V.int i = .int j ∧ "int" = "int") ∨ (∃ y, V.int i = .str y ∧ "int" = "str") := .inr (.inl ⟨i, rfl, rfl⟩)
local macro_rules | `(tactic| tb_rel) => `(tactic| with_reducible (first
  | refine M1_0 (T := "int") (name := Str.ofString "bit_length") (id := "int.bit_length") slot_int_bit_length PySem.F.plainAttrs_int PySem.F.type_int_bit_length isInt_of ?_
  | refine M1_0 (T := "list") (name := Str.ofString "reverse") (id := "list.reverse") PySem.F.slot_list_reverse PySem.F.plainAttrs_list PySem.F.type_list_reverse (isList_of (by kbo_bools)) ?_
  | refine M1_n (T := "list") (name := Str.ofString "extend") (id := "list.extend") PySem.F.slot_list_extend PySem.F.plainAttrs_list PySem.F.type_list_extend (isList_of (by kbo_bools)) (by with_unfolding_all rfl) (by with_unfolding_all rfl) ?_
  | refine bit_length_i ?_
  | refine rshift_n ?_
  | refine irshift_n ?_))
theorem ibits_le {x : Int} {m : Nat} (h0 : 0 ≤ x) (h : x < 2 ^ m) : Builtin.Int.intBits x ≤ m := intBits_le_iff.mpr (by
  have : ((x.natAbs : Nat) : Int) < ((2 ^ m : Nat) : Int) := by rw [kbt_cast]; omega
  omega)
theorem natAbs_lt {x : Int} {m : Nat} (h0 : 0 ≤ x) (h : x < 2 ^ m) : x.natAbs < 2 ^ m := intBits_le_iff.mp (ibits_le h0 h)
theorem ibits_ge {x : Int} {m : Nat} (h0 : 0 ≤ x) (h : Builtin.Int.intBits x ≤ m) : x < 2 ^ m := by
  have := intBits_le_iff.mp h
  have : ((x.natAbs : Nat) : Int) < ((2 ^ m : Nat) : Int) := by omega
  rw [kbt_cast] at this; omega
theorem ibits_eq {x : Int} {m : Nat} (hm : 0 < m) (h0 : 2 ^ (m - 1) ≤ x) (h : x < 2 ^ m) : Builtin.Int.intBits x = m := by
  have hp := kbt_pos (m - 1)
  have h1 := ibits_le (x := x) (m := m) (by omega) h
  rcases Nat.lt_or_ge (Builtin.Int.intBits x) m with q | q
  · have := ibits_ge (x := x) (m := m - 1) (by omega) (by omega)
    omega
  · omega
theorem ibits_spec {x : Int} (h : 0 < x) : 0 < Builtin.Int.intBits x ∧ 2 ^ (Builtin.Int.intBits x - 1) ≤ x ∧ x < 2 ^ (Builtin.Int.intBits x) := by
  have h1 := ibits_ge (x := x) (m := Builtin.Int.intBits x) (by omega) (Nat.le_refl _)
  have h2 : 0 < Builtin.Int.intBits x := by
    rcases Nat.eq_zero_or_pos (Builtin.Int.intBits x) with q | q
    · rw [q] at h1; simp at h1; omega
    · exact q
  refine ⟨h2, ?_, h1⟩
  by_cases q : x < 2 ^ (Builtin.Int.intBits x - 1)
  · have := ibits_le (x := x) (m := Builtin.Int.intBits x - 1) (by omega) q
    omega
  · omega
theorem noPylong {a b : Int} {n : Nat} (hb : Builtin.Int.intBits b = n) (h : Builtin.Int.intBits a ≤ n + 4000) : Builtin.divisionGoesByPylong a b = false := by
  unfold Builtin.divisionGoesByPylong
  unfold Builtin.Int.intBits at hb h
  dsimp only
  rw [Bool.and_eq_false_iff]
  right
  rw [decide_eq_false_iff_not]
  by_cases ha : (a == 0) = true
  · simp only [ha, if_true]; omega
  · by_cases hb0 : (b == 0) = true
    · rw [Bool.not_eq_true] at ha
      rw [ha] at h ⊢
      rw [hb0] at hb ⊢
      simp only [Bool.false_eq_true, if_true, if_false] at hb h ⊢
      omega
    · rw [Bool.not_eq_true] at ha hb0
      rw [ha] at h ⊢
      rw [hb0] at hb ⊢
      simp only [Bool.false_eq_true, if_false] at hb h ⊢
      omega
theorem Rep.mono' {W W' : Led} (hw : ∀ a vs n, (a, tupO vs n) ∈ W → (a, tupO vs n) ∈ W') {x : V} {v : Value} (h : Rep W x v) : Rep W' x v :=
  Rep.rec (motive_1 := fun x v _ => Rep W' x v) (motive_2 := fun xs vs _ => Reps W' xs vs) .none .bool .int .str .bytes .ref .typ .bi (fun hm _ ih => .tup (hw _ _ _ hm) ih) .nil (fun _ _ a b => .cons a b) h
theorem Reps.mono' {W W' : Led} (hw : ∀ a vs n, (a, tupO vs n) ∈ W → (a, tupO vs n) ∈ W') {xs : List V} {vs : List Value} (h : Reps W xs vs) : Reps W' xs vs :=
  Reps.rec (motive_1 := fun x v _ => Rep W' x v) (motive_2 := fun xs vs _ => Reps W' xs vs) .none .bool .int .str .bytes .ref .typ .bi (fun hm _ ih => .tup (hw _ _ _ hm) ih) .nil (fun _ _ a b => .cons a b) h
theorem RepH.mono' {W W' : Led} (hw : ∀ a vs n, (a, tupO vs n) ∈ W → (a, tupO vs n) ∈ W') {x : HO} {o : Obj} (h : RepH W x o) : RepH W' x o := by
  cases x with
  | lst xs => obtain ⟨vs, n, e, r⟩ := h; exact ⟨vs, n, e, r.mono' hw⟩
  | cell v =>
    obtain ⟨u, e, r⟩ := h
    refine ⟨u, e, ?_⟩
    cases v with
    | none => exact r
    | some x => obtain ⟨y, e, r⟩ := r; exact ⟨y, e, r.mono' hw⟩
  | raw o' => exact h
  | rng a b c => exact h
  | dct kvs => obtain ⟨es, n, e, a, b, r⟩ := h; exact ⟨es, n, e, a, b, r.mono' hw⟩

/-- a cell that is frozen -/
def KV {sc : Scope} (C : Act sc) (c : Addr) (v : V) : Prop := ∃ ob u, (c, ob) ∈ C.kw ∧ ob.data = .cell (some u) ∧ Rep C.kw v u

section
variable {G : GE} {sc : Scope} {C : Act sc} {σ : St}

theorem Ev_freeK {x : Str} {pos : Pos} {c : Addr} {v : V} {Q : V → St → Prop} (hk : sc.kind = .function) (hx : sc.names.lookup x = some .free) (hd : (x == ("__debug__" : Str)) = false) (hn : (x == ("__classdict__" : Str)) = false)
    (hc : C.cl.lookup x = some c) (hv : KV C c v) (h : Q v σ) : Ev G C (eval (.Name x pos) C.env) σ Q := fun P W s R => by
  obtain ⟨ob, u, hm, hd', r⟩ := hv
  have R₀ := R
  obtain ⟨mf, ml, D, Cc, R⟩ := R
  have hmW := R.kw _ hm
  exact wpAny_Name (wpAny_loadName_free hk hx hc ⟨ob, (R.N _ (List.mem_append_right _ (List.mem_append_right _ hmW))).1, hd'⟩ (Post.here' R₀ (r.mono R.kw) h) hn) hd

variable {a : Addr} {dep : Nat} {args : List V} {hp : Hp} {Q : V → Hp → Prop}
/-- a closure's call: the caller's own cells stand still meanwhile -/
theorem FL_closK {loc : Loc} (O : C.Ok G) (hL : C.L = C.FL) (hd : C.A.depth + (dep + 1) ≤ 600) (hu : C.A.units + 8 * (dep + 1) ≤ 6000) {name qual : Str} {params : Arguments} {body : List Stmt} {scope : Scope} {cl : List (Str × Addr)} {dV kV doc pm cdv ct : Value} {an : Option Addr} (names : List Str)
    (hfun : ∀ P W h, Rel C P W ⟨loc, hp⟩ h → ∃ fo, h.get? a = some fo ∧ fo.data = .func (fnX name qual params body scope cl dV kV doc pm an cdv ct) ∧ h.CodeRec cdv qual)
    (hbind : ∀ us : List Value, us.length = args.length → bindArgs (fnX name qual params body scope cl dV kV doc pm an cdv ct) ⟨us, []⟩ = pure (names.zip us))
    (hn : names.length = args.length) (nd : names.Nodup) (hloc : ∀ x ∈ names, scope.names.lookup x = some .local)
    (hcell : ∀ x ∈ scope.names, x.2 ≠ .cell) (hco : scope.isCoroutine = false) (hgen : scope.isGenerator = false) (hk : scope.kind = .function)
    (hbody : ∀ C' : Act scope, C'.Ok G → C'.cl = cl → C'.L = C'.FL → (∀ x c v, lk loc x = some v → sc.names.lookup x = some .cell → C.cl.lookup x = some c → KV C' c v) → (∀ c v, KV C c v → KV C' c v) →
      C'.A.depth + dep ≤ 600 → C'.A.units + 8 * dep ≤ 6000 → Sx G C' (execs body C'.env) ⟨names.zip args, hp⟩ (retOf Q)) :
    FL G C (fun us => call (.ref a) us) args ⟨loc, hp⟩ (fun v σ' => σ'.loc = loc ∧ Q v σ'.hp) := by
  intro P W s us R hus
  obtain ⟨fo, hg, hdat, hcode⟩ := hfun P W _ R
  have T := O.top
  obtain ⟨mf, ml, D, Cc, R⟩ := R
  have dC : ∀ p ∈ D, ∀ q ∈ Cc, p.1 ≠ q.1 := nodup_apart R.nd
  have ndD : (D.map (·.1)).Nodup := by have := R.nd; rw [List.map_append, List.nodup_append] at this; exact this.1
  have ndC : (Cc.map (·.1)).Nodup := by have := R.nd; rw [List.map_append, List.nodup_append] at this; exact this.2.1
  have N : News C.g C.FL s.heap (D ++ (P ++ (Cc ++ W))) := fun p hp => R.N p (by simp only [List.mem_append] at hp ⊢; rcases hp with hp | hp | hp | hp <;> simp [hp])
  obtain ⟨A₀, B⟩ := O.below
  refine wpAny_call (callX_plain (cl := cl) B R.F N T.nolimit O.frames O.fframe O.fkind hg hdat hcode (by have := O.depth; show C.A.depth < 1000; omega)
    (BindsTo.of_eq (hbind us (by rw [hus.length]))) (fun y hy => hloc _ (List.of_mem_zip hy).1) (fun g L' h₁ FG F' N' B' st lt => ?_) hcell hco hgen hk)
  let C' : Act scope := ⟨C.A.deeper (envX qual scope L' a cdv cl), g, C.base, C.fenv :: C.outer, envX qual scope L' a cdv cl, L', L', qual ++ ".<locals>.", some a, cdv, cl, Cc ++ W, none⟩
  have O' : C'.Ok G := ⟨Around.frames_deeper O.frames, rfl, hk, hk, ⟨_, B'⟩, O.handled, T.keeps st, by show C.A.depth + 1 ≤ 600; omega, by show C.A.units + 3 ≤ 6000; omega⟩
  have nocell : ∀ x, scope.names.lookup x ≠ some .cell := fun x e => hcell _ (mem_of_lookup' e) rfl
  have wr : ∀ p ∈ W, p ∈ Cc ++ W := fun p hp => List.mem_append_right _ hp
  have R' : Rel C' P (Cc ++ W) ⟨names.zip args, hp⟩ h₁ := ⟨_, _, D, [], { F := F', ns := F'.ns, N := fun p hp => N' p (by simpa using hp), nd := by simpa using ndD, ap := fun p hp q hq => ?_, pw := fun p hp q hq => ?_, pnd := R.pnd, kw := fun _ h => h, isc := fun _ h => (nomatch h), fix := fun _ h => (nomatch h), left := fun _ => rfl, own := .inl rfl, cells := fun x c e => absurd e (nocell x), inj := fun x y c e => absurd e (nocell x), loc := fun x v e => ⟨fun _ => lookup_binds (hus.mono wr) hn nd x v e, fun k => absurd k (nocell x)⟩, hp := fun a o e => let ⟨ob, hm, r⟩ := R.hp a o e; ⟨ob, hm, r.mono wr⟩ }⟩
  · refine wpAny_mono (hbody C' O' rfl rfl (fun x c v e hx hc => ?_) (fun c v ⟨ob, u, hm, hd, r⟩ => ⟨ob, u, wr _ (R.kw _ hm), hd, (r.mono R.kw).mono wr⟩) (by show C.A.depth + 1 + dep ≤ 600; omega) (by show C.A.units + 3 + 8 * dep ≤ 6000; omega) P (Cc ++ W) _ R') (fun fl s' H => ?_) (fun _ _ x => x.elim)
    · obtain ⟨c', ob, u, hc', hm, hd, r⟩ := (R.loc x v e).2 hx
      rw [hc] at hc'; cases hc'
      exact ⟨ob, u, List.mem_append_left _ hm, hd, r.mono wr⟩
    · obtain ⟨fl', σ', W', h', tk', e, w, r, R₂, q⟩ := H
      subst e
      obtain ⟨mm₂, ml₂, D₂, Cc₂, R₂⟩ := R₂
      have nd₂ : (D₂.map (·.1)).Nodup := by have := R₂.nd; rw [List.map_append, List.nodup_append] at this; exact this.1
      refine ⟨C'.FL, mm₂, D₂ ++ (P ++ W'), R₂.F, fun p hp => R₂.N p (by simp only [List.mem_append] at hp ⊢; rcases hp with hp | hp | hp <;> simp [hp]), fun Fc Nc => ?_⟩
      let Wf := W'.filter fun p => !(Cc.map (·.1)).contains p.1
      have inf : ∀ p, p ∈ Wf ↔ p ∈ W' ∧ ∀ q ∈ Cc, q.1 ≠ p.1 := fun p => by
        show p ∈ W'.filter _ ↔ _
        rw [List.mem_filter]
        refine and_congr_right fun _ => ?_
        rw [Bool.not_eq_true', ← Bool.not_eq_true, List.contains_iff_mem, List.mem_map]
        exact ⟨fun k q hq e => k ⟨q, hq, e⟩, fun k ⟨q, hq, e⟩ => k q hq e⟩
      have wf : ∀ p ∈ W, p ∈ Wf := fun p hp => (inf p).mpr ⟨w p (wr p hp), fun q hq => R.ap q (List.mem_append_right _ hq) p (List.mem_append_right _ hp)⟩
      have tf : ∀ b vs n, (b, tupO vs n) ∈ W' → (b, tupO vs n) ∈ Wf := fun b vs n hb => (inf _).mpr ⟨hb, fun q hq e => by
        have h1 := (Nc q (List.mem_append_right _ (List.mem_append_right _ (w q (List.mem_append_left _ hq))))).1
        have h2 := (Nc _ (List.mem_append_right _ (List.mem_append_right _ hb))).1
        rw [e] at h1
        obtain ⟨u, hu⟩ := R.isc q hq
        rw [h1] at h2
        rw [Option.some.inj h2] at hu
        cases hu⟩
      have eml : ml = mf := Ns_unique (hL ▸ R.ns) R.F.ns
      have RC : Rel C P Wf ⟨loc, σ'.hp⟩ h' := by
        refine ⟨mf, ml, D₂, Cc, { F := Fc, ns := by rw [hL, eml]; exact Fc.ns, N := fun p hp => Nc p ?_, nd := ?_, ap := fun p hp r hr => ?_, pw := fun p hp r hr => R₂.pw p hp r ((inf r).mp hr).1, pnd := R.pnd, kw := fun p hp => wf p (R.kw p hp), isc := R.isc, fix := R.fix, left := R.left, own := .inl hL, cells := R.cells, inj := R.inj, loc := fun x v e => (R.loc x v e).mono wf, hp := fun b o e => let ⟨ob, hm, r⟩ := R₂.hp b o e; ⟨ob, hm, r.mono' tf⟩ }⟩
        · simp only [List.mem_append] at hp ⊢
          rcases hp with (hp | hp) | (hp | hp)
          · exact .inl hp
          · exact .inr (.inr (w p (List.mem_append_left _ hp)))
          · exact .inr (.inl hp)
          · exact .inr (.inr ((inf p).mp hp).1)
        · rw [List.map_append, List.nodup_append]
          refine ⟨nd₂, ndC, fun a ha b hb => ?_⟩
          obtain ⟨p, hp, rfl⟩ := List.mem_map.mp ha
          obtain ⟨r, hr, rfl⟩ := List.mem_map.mp hb
          exact R₂.ap p (List.mem_append_left _ hp) r (List.mem_append_right _ (w r (List.mem_append_left _ hr)))
        · rcases List.mem_append.mp hp with hp | hp
          · rcases List.mem_append.mp hr with hr | hr
            · exact R₂.ap p (List.mem_append_left _ hp) r (List.mem_append_left _ hr)
            · exact R₂.ap p (List.mem_append_left _ hp) r (List.mem_append_right _ ((inf r).mp hr).1)
          · rcases List.mem_append.mp hr with hr | hr
            · exact R.ap p (List.mem_append_right _ hp) r (List.mem_append_left _ hr)
            · exact ((inf r).mp hr).2 p hp
      cases fl with
      | ret u => cases fl' with
        | ret v => exact ⟨v, ⟨loc, σ'.hp⟩, Wf, h', tk', rfl, wf, r.mono' tf, RC, rfl, q⟩
        | _ => exact r.elim
      | next => cases fl' with
        | next => exact ⟨.none, ⟨loc, σ'.hp⟩, Wf, h', tk', rfl, wf, .none, RC, rfl, q⟩
        | _ => exact r.elim
      | brk => cases fl' with
        | brk => exact q.elim
        | _ => exact r.elim
      | cont => cases fl' with
        | cont => exact q.elim
        | _ => exact r.elim
  · simp only [List.append_nil, List.mem_append] at hp hq
    rcases hq with hq | hq | hq
    · exact R.ap p (List.mem_append_left _ hp) q (List.mem_append_left _ hq)
    · exact dC p hp q hq
    · exact R.ap p (List.mem_append_left _ hp) q (List.mem_append_right _ hq)
  · rcases List.mem_append.mp hq with hq | hq
    · exact (R.ap q (List.mem_append_right _ hq) p (List.mem_append_left _ hp)).symm
    · exact R.pw p hp q hq
end
section
variable {G : GE} {sc : Scope} {C : Act sc} {σ : St}

/-- one object turned, another come to light -/
theorem Rel.nest {P W : Led} {h : Heap} (R : Rel C P W σ h) {a : Addr} {o₀ o : HO} {ob' : Obj} {c' : Addr} {oc : Obj} {h' : Heap} (e₀ : σ.hp a = some o₀) (hs : Heap.ExtBut a h h') (hg : h'.get? a = some ob') (r : RepH W o ob')
    (hc : h.objs.size ≤ c') (hoc : h'.get? c' = some oc) : σ.hp c' = none ∧ c' ≠ a ∧ Rel C P W ⟨σ.loc, updH (updH σ.hp a o) c' (.raw oc)⟩ h' := by
  obtain ⟨mf, ml, D, Cc, R⟩ := R
  obtain ⟨ob, hm, _⟩ := R.hp a o₀ e₀
  have hN := R.N (a, ob) (List.mem_append_left _ (List.mem_append_left _ hm))
  have hLa : a ≠ C.L := by
    rcases R.own with e | ⟨_, _, e⟩
    · rw [e]; exact hN.2.1
    · exact e _ (List.mem_append_left _ (List.mem_append_left _ hm))
  have lt : ∀ p ∈ (D ++ Cc) ++ (P ++ W), p.1 ≠ c' := fun p hp e => absurd (R.lt p hp) (by rw [e]; exact Nat.not_lt.mpr hc)
  have hca : c' ≠ a := fun e => lt _ (List.mem_append_left _ (List.mem_append_left _ hm)) e.symm
  have hcL : c' ≠ C.L := fun e => absurd R.ns.lt (by rw [← e]; exact Nat.not_lt.mpr hc)
  have hcF : c' ≠ C.FL := fun e => absurd R.F.ns.lt (by rw [← e]; exact Nat.not_lt.mpr hc)
  have hcg : C.g.get? c' = none := by
    cases q : C.g.get? c' with
    | none => rfl
    | some o => exact absurd (Heap.lt_size (R.F.keep _ _ q)) (Nat.not_lt.mpr hc)
  have hnone : σ.hp c' = none := by
    cases e : σ.hp c' with
    | none => rfl
    | some o' => obtain ⟨ob', hm, _⟩ := R.hp _ _ e; exact absurd rfl (lt _ (List.mem_append_left _ (List.mem_append_left _ hm)))
  have offC : ∀ p ∈ Cc, p.1 ≠ a := fun p hp e => nodup_apart R.nd (a, ob) hm p hp e.symm
  refine ⟨hnone, hca, mf, ml, (c', oc) :: putD a ob' D, Cc, { F := ⟨R.F.ns.at' (fun o e => hs _ o (Ne.symm hN.2.1) e), fun b o e => hs b o (fun q => by rw [q, hN.2.2] at e; cases e) (R.F.keep b o e), R.F.above⟩, ns := R.ns.at' (fun o e => hs _ o (Ne.symm hLa) e), N := fun p hp => ?_, nd := ?_, ap := fun p hp q hq => ?_, pw := R.pw, pnd := R.pnd, kw := R.kw, isc := R.isc, fix := R.fix, left := R.left, own := ?_, cells := R.cells, inj := R.inj, loc := R.loc, hp := fun b o' e => ?_ }⟩
  · rcases List.mem_append.mp hp with hp | hp
    · rcases List.mem_append.mp hp with hp | hp
      · rcases List.mem_cons.mp hp with rfl | hp
        · exact ⟨hoc, hcF, hcg⟩
        · rcases mem_putD hp with rfl | ⟨hp, hne⟩
          · exact ⟨hg, hN.2⟩
          · have := R.N p (List.mem_append_left _ (List.mem_append_left _ hp))
            exact ⟨hs _ _ hne this.1, this.2⟩
      · have := R.N p (List.mem_append_left _ (List.mem_append_right _ hp))
        exact ⟨hs _ _ (offC p hp) this.1, this.2⟩
    · have := R.N p (List.mem_append_right _ hp)
      exact ⟨hs _ _ (fun q => R.ap _ (List.mem_append_left _ hm) p hp q.symm) this.1, this.2⟩
  · rw [List.cons_append, List.map_cons, List.nodup_cons]
    refine ⟨fun hm' => ?_, ?_⟩
    · obtain ⟨p, hp, e⟩ := List.mem_map.mp hm'
      rcases List.mem_append.mp hp with hp | hp
      · rcases mem_putD hp with rfl | ⟨hp, _⟩
        · exact hca e.symm
        · exact lt p (List.mem_append_left _ (List.mem_append_left _ hp)) e
      · exact lt p (List.mem_append_left _ (List.mem_append_right _ hp)) e
    · rw [List.map_append, putD_keys, ← List.map_append]; exact R.nd
  · rcases List.mem_append.mp hp with hp | hp
    · rcases List.mem_cons.mp hp with rfl | hp
      · exact (lt q (List.mem_append_right _ hq)).symm
      · rcases mem_putD hp with rfl | ⟨hp, hne⟩
        · exact R.ap (a, ob) (List.mem_append_left _ hm) q hq
        · exact R.ap p (List.mem_append_left _ hp) q hq
    · exact R.ap p (List.mem_append_right _ hp) q hq
  · refine R.own.imp id fun ⟨h1, h2, h3⟩ => ⟨h1, h2, fun p hp => ?_⟩
    rcases List.mem_append.mp hp with hp | hp
    · rcases List.mem_append.mp hp with hp | hp
      · rcases List.mem_cons.mp hp with rfl | hp
        · exact hcL
        · rcases mem_putD hp with rfl | ⟨hp, hne⟩
          · exact hLa
          · exact h3 p (List.mem_append_left _ (List.mem_append_left _ hp))
      · exact h3 p (List.mem_append_left _ (List.mem_append_right _ hp))
    · exact h3 p (List.mem_append_right _ hp)
  · by_cases hb : b = c'
    · subst hb
      rw [show (St.mk σ.loc (updH (updH σ.hp a o) b (.raw oc))).hp b = some (.raw oc) from updH_same ..] at e
      cases e
      exact ⟨oc, .head _, rfl⟩
    · rw [show (St.mk σ.loc (updH (updH σ.hp a o) c' (.raw oc))).hp b = updH σ.hp a o b from updH_ne hb] at e
      by_cases hba : b = a
      · subst hba
        rw [updH_same] at e; cases e
        exact ⟨ob', .tail _ (putD_self hm), r⟩
      · rw [updH_ne hba] at e
        obtain ⟨ob₂, hm₂, r₂⟩ := R.hp b o' e
        exact ⟨ob₂, .tail _ (putD_of hm₂ hba), r₂⟩

/-- a code record that lies in the heap -/
def CodeV (hp : Hp) (c' : Addr) (qual : Str) : Prop := ∃ oc vs t, hp c' = some (.raw oc) ∧ oc.data = .fields vs ∧ vs[1]? = some (.str qual t)
/-- the table of a code record: empty, or with the one def's own record -/
def TabV (hp : Hp) (P : Addr) (pos : Pos) (qual : Str) : Prop := hp P = some (.raw (tabObj #[])) ∨ ∃ c', hp P = some (.raw (tabObj #[rawInt pos.line, rawInt pos.col, .ref c'])) ∧ CodeV hp c' qual
theorem CodeV.mono {hp hp' : Hp} {c' : Addr} {qual : Str} (h : CodeV hp c' qual) (k : ∀ o, hp c' = some o → hp' c' = some o) : CodeV hp' c' qual :=
  let ⟨oc, vs, t, e, r⟩ := h; ⟨oc, vs, t, k _ e, r⟩
theorem TabV.mono {hp hp' : Hp} {P : Addr} {pos : Pos} {qual : Str} (h : TabV hp P pos qual) (k : ∀ a o, hp a = some o → hp' a = some o) : TabV hp' P pos qual := by
  rcases h with h | ⟨c', h, x⟩
  · exact .inl (k _ _ h)
  · exact .inr ⟨c', k _ _ h, x.mono (k _)⟩

theorem TabV.upd {hp : Hp} {P t : Addr} {pos : Pos} {qual : Str} {o : HO} (h : TabV hp P pos qual) (h1 : P ≠ t) (h2 : ∀ c, CodeV hp c qual → c ≠ t) : TabV (updH hp t o) P pos qual := by
  rcases h with h | ⟨c', h, x⟩
  · exact .inl (upd_ne' h1 h)
  · exact .inr ⟨c', upd_ne' h1 h, x.mono fun o e => upd_ne' (h2 _ x) e⟩
theorem CodeV.notlst {hp : Hp} {c t : Addr} {qual : Str} {xs : List V} (h : CodeV hp c qual) (e : hp t = some (.lst xs)) : c ≠ t := fun q => by
  subst q; obtain ⟨_, _, _, e', _⟩ := h; rw [e] at e'; cases e'
theorem TabV.updl {hp : Hp} {P t : Addr} {pos : Pos} {qual : Str} {o : HO} {xs : List V} (h : TabV hp P pos qual) (e : hp t = some (.lst xs)) : TabV (updH hp t o) P pos qual :=
  h.upd (fun q => by subst q; rcases h with h | ⟨_, h, _⟩ <;> (rw [e] at h; cases h)) fun c x => x.notlst e
theorem Sx_Def (O : C.Ok G) {name qual cn : Str} {params : Arguments} {body : List Stmt} {scope : Scope} {pos : Pos} {c P a : Addr} {clos : List (Str × Addr)} {Q : Fl → St → Prop}
    (henv : C.env = envX cn sc C.FL a (.ref c) C.cl) (hC : CodeHd C.g c P) (hx : Storable C name) (hclos : closureFor scope C.env = pure clos) (hq : qualnameIn C.env name name = qual)
    (hd0 : params.defaults = []) (hk0 : params.kw_defaults = []) (ha : annTrees params none C.env = []) (hP : TabV σ.hp P pos qual)
    (h : ∀ f c' doc pm ctv hp', σ.hp f = none → f ≠ P → (∀ b o, b ≠ P → σ.hp b = some o → hp' b = some o) → hp' P = some (.raw (tabObj #[rawInt pos.line, rawInt pos.col, .ref c'])) → CodeV hp' c' qual →
      hp' f = some (.raw (fnMade name qual params body scope clos doc pm c' ctv)) → Q .next ⟨setL σ.loc name (.ref f), hp'⟩) :
    Sx G C (exec (.FunctionDef name params body [] none [] scope none name pos) C.env) σ Q := fun P' W s R => by
  refine nestDef_K hd0 hk0 ha ?_
  rw [hq]
  have T := R.top O
  obtain ⟨_, _, _, T⟩ := T.lib
  obtain ⟨bm, ob, b1, b2, b3, b4, b5, b6⟩ := T.bmain
  have hcode : C.env.code = .ref c := by rw [henv]
  have hCk : CodeHd s.heap c P := hC.keeps R.keep
  have getP : ∀ ps : Array Value, σ.hp P = some (.raw (tabObj ps)) → s.heap.get? P = some (tabObj ps) := fun ps e => by
    obtain ⟨o, hg, r⟩ := R.at e
    rw [hg]; exact congrArg some r
  have noP : ∀ ps : Array Value, σ.hp P = some (.raw (tabObj ps)) → bm ≠ P ∧ mainGlobals ≠ P := fun ps e => by
    refine ⟨fun q => ?_, fun q => ?_⟩
    · rw [q, getP ps e] at b3; cases b3; cases b4
    · obtain ⟨o, es, ep, e', hd, _⟩ := T.g
      rw [q, getP ps e] at e'; cases e'; cases hd
  have bat : ∀ ps : Array Value, σ.hp P = some (.raw (tabObj ps)) → s.heap.BuiltinsAt G.mg P := fun ps e =>
    have hbG : bm ≠ mainGlobals := fun q => by
      obtain ⟨o, es, ep, e', hd, _⟩ := T.g
      rw [q, e'] at b3; cases b3; rw [hd] at b6; cases b6
    ⟨bm, ob, b1, b2, hbG, (noP ps e).1, b3, b4, b5, b6⟩
  rcases hP with e | ⟨c', e, hcv⟩
  · refine makeFunction_K hclos rfl T.g hcode hCk (getP _ e) trivial rfl (noP _ e).2 (bat _ e) fun c' ctv doc h' tk hx' hge hlt hrec htb => ?_
    obtain ⟨c₂, oc, vs, t, e2, hoc, hd, hv⟩ := hrec
    cases e2
    obtain ⟨n1, n2, R₁⟩ := R.nest (o := .raw (tabObj (#[] ++ #[rawInt pos.line, rawInt pos.col, .ref c']))) e hx' htb rfl hge hoc
    obtain ⟨n3, R₂⟩ := R₁.alloc (o := .raw (fnMade name qual params body scope clos doc ((G.mg "__name__").getD .none) c' ctv)) rfl rfl
    have fc : h'.objs.size ≠ c' := (Nat.ne_of_lt hlt).symm
    have n3' : updH (updH σ.hp P (.raw (tabObj (#[] ++ #[rawInt pos.line, rawInt pos.col, .ref c'])))) c' (.raw oc) h'.objs.size = none := n3
    rw [updH_ne fc] at n3'
    have fP : h'.objs.size ≠ P := fun q => by rw [q, updH_same] at n3'; cases n3'
    rw [updH_ne fP] at n3'
    refine store_any (s := { s with heap := h'.push _, toks := tk }) O.kind hx R₂ (.ref _) fun h'' tk' R'' => ?_
    refine ⟨.next, _, W, h'', tk', rfl, fun _ h => h, trivial, R'', h h'.objs.size c' doc _ ctv _ n3' fP (fun b o hb e => ?_) ?_ ⟨oc, vs, t, ?_, hd, hv⟩ (updH_same ..)⟩
    · have h1 : b ≠ h'.objs.size := fun q => by rw [q, n3'] at e; cases e
      have h2 : b ≠ c' := fun q => by rw [q, n1] at e; cases e
      show updH _ _ _ b = _
      rw [updH_ne h1]
      show updH _ _ _ b = _
      rw [updH_ne h2, updH_ne hb]; exact e
    · show updH _ _ _ P = _
      rw [updH_ne fP.symm]
      show updH _ _ _ P = _
      rw [updH_ne n2.symm, updH_same]; simp
    · show updH _ _ _ c' = _
      rw [updH_ne fc.symm]
      exact updH_same ..
  · refine makeFunction_hit (cv := .ref c') hclos rfl T.g hcode hCk (getP _ e) trivial (by simp [codeAmong, rawInt]) (bat _ e) fun ctv doc h' tk hk hsz => ?_
    have R₁ : Rel C P' W σ h' := by
      obtain ⟨mf, news, F, N, lt, back, _⟩ := R.viaNews
      exact back h' ⟨F.ns.keeps hk, fun b o e => hk b o (F.keep b o e), F.above⟩ fun p hp => ⟨hk _ _ (N p hp).1, (N p hp).2⟩
    obtain ⟨n3, R₂⟩ := R₁.alloc (o := .raw (fnMade name qual params body scope clos doc ((G.mg "__name__").getD .none) c' ctv)) rfl rfl
    refine store_any (s := { s with heap := h'.push _, toks := tk }) O.kind hx R₂ (.ref _) fun h'' tk' R'' => ?_
    have old : ∀ b o, σ.hp b = some o → updH σ.hp h'.objs.size (.raw (fnMade name qual params body scope clos doc ((G.mg "__name__").getD .none) c' ctv)) b = some o := fun b o e => upd_other n3 e
    exact ⟨.next, _, W, h'', tk', rfl, fun _ h => h, trivial, R'', h h'.objs.size c' doc _ ctv _ n3 (ne_of_none n3 e).symm (fun b o _ e => old b o e) (old _ _ e) (hcv.mono (old _)) (updH_same ..)⟩

/-- a closure's call, the function object in the heap -/
theorem callWith_cl {a : Addr} {e : Expr} {args : List Expr} {pos : Pos} {Q : V → St → Prop}
    (he : starEach (e :: args) C.env = (false, eval e C.env) :: starEach args C.env) (hplain : (backTo pos (starEach args C.env)).any (·.1) = false)
    (h : Ls G C (spliced (backTo pos (starEach (e :: args) C.env))) σ (fun vs σ₁ => (∃ name qual params body scope cl doc pm c' ctv, σ₁.hp a = some (.raw (fnMade name qual params body scope cl doc pm c' ctv))) ∧ FL G C (fun us => call (.ref a) us) vs σ₁ Q)) :
    F1 G C (fun fv => callWith pos fv [] (backTo pos (starEach (e :: args) C.env)) []) (.ref a) σ Q :=
  callWith_fn he hplain fun P W s R => wpAny_mono (h P W s R) (fun us s₁ ⟨vs, σ₁, W₁, h₁, tk₁, e, w, r, R₁, ⟨n, q, ps, b, sc', cl, doc, pm, c', ct, hf⟩, k⟩ =>
    ⟨vs, σ₁, W₁, h₁, tk₁, e, w, r, R₁, fun P' W' h' R' => (by obtain ⟨o, hg, r⟩ := R'.at hf; exact ⟨o, _, hg, by rw [show o = _ from r]⟩), k⟩) fun _ _ x => x
end
section
variable {G : GE}

/-- what the activation holds in that cell while a closure runs -/
def CellNow {sc : Scope} (C : Act sc) (loc : Loc) (p : Addr × V) : Prop := KV C p.1 p.2 ∨ ∃ x, lk loc x = some p.2 ∧ sc.names.lookup x = some .cell ∧ C.cl.lookup x = some p.1

def RecOk (G : GE) (f : Addr) (KVs : List (Addr × V)) (Pre : Nat → List V → Hp → (V → Hp → Prop) → Prop) (k : Nat) : Prop :=
  ∀ args hp Q, Pre k args hp Q → ∀ (sc : Scope) (C : Act sc), C.Ok G → C.L = C.FL → ∀ loc, (∀ p ∈ KVs, CellNow C loc p) → C.A.depth + (k + 1) ≤ 600 → C.A.units + 8 * (k + 1) ≤ 6000 →
    FL G C (fun us => call (.ref f) us) args ⟨loc, hp⟩ (fun v σ' => σ'.loc = loc ∧ Q v σ'.hp)

theorem FL_rec {f : Addr} {name qual : Str} {params : Arguments} {body : List Stmt} {scope : Scope} {cl : List (Str × Addr)} {doc pm ctv : Value} {c' : Addr} (names : List Str) (KVs : List (Addr × V))
    (Pre : Nat → List V → Hp → (V → Hp → Prop) → Prop)
    (hfn : ∀ k args hp Q, Pre k args hp Q → hp f = some (.raw (fnMade name qual params body scope cl doc pm c' ctv)) ∧ CodeV hp c' qual ∧ names.length = args.length)
    (hbind : ∀ us : List Value, us.length = names.length → bindArgs (fnX name qual params body scope cl .none .none doc pm none (.ref c') ctv) ⟨us, []⟩ = pure (names.zip us))
    (nd : names.Nodup) (hloc : ∀ x ∈ names, scope.names.lookup x = some .local)
    (hcell : ∀ x ∈ scope.names, x.2 ≠ .cell) (hco : scope.isCoroutine = false) (hgen : scope.isGenerator = false) (hk : scope.kind = .function)
    (step : ∀ k args hp Q, Pre k args hp Q → (∀ k', k' < k → RecOk G f KVs Pre k') →
      ∀ C' : Act scope, C'.Ok G → C'.cl = cl → C'.L = C'.FL → (∀ p ∈ KVs, KV C' p.1 p.2) → C'.A.depth + k ≤ 600 → C'.A.units + 8 * k ≤ 6000 → Sx G C' (execs body C'.env) ⟨names.zip args, hp⟩ (retOf Q)) :
    ∀ k, RecOk G f KVs Pre k := by
  intro k
  induction k using Nat.strongRecOn with
  | ind k ih =>
    intro args hp Q hpre sc C O hL loc hkv hd hu
    obtain ⟨h1, ⟨oc, vs, t, h2, h3, h4⟩, hlen⟩ := hfn k args hp Q hpre
    refine FL_closK O hL hd hu (name := name) (qual := qual) (params := params) (body := body) (scope := scope) (cl := cl) (dV := .none) (kV := .none) (doc := doc) (pm := pm) (cdv := .ref c') (ct := ctv) (an := none) names ?_
      (fun us h => hbind us (h.trans hlen.symm)) hlen nd hloc hcell hco hgen hk fun C' O' hcl hL' hown hold hd' hu' => ?_
    · intro P W h R
      obtain ⟨o, hg, r⟩ := R.at h1
      obtain ⟨o2, hg2, r2⟩ := R.at h2
      refine ⟨o, hg, ?_, c', o2, vs, t, rfl, hg2, ?_, h4⟩
      · rw [show o = _ from r]
      · rw [show o2 = _ from r2]; exact h3
    · refine step k args hp Q hpre ih C' O' hcl hL' (fun p hp => ?_) hd' hu'
      rcases hkv p hp with h | ⟨x, e, hx, hc⟩
      · exact hold _ _ h
      · exact hown x p.1 p.2 e hx hc

section
variable {sc : Scope} {C : Act sc} {σ : St}
theorem FL_use {f : List Value → Sem Value} {args : List V} {loc : Loc} {hp : Hp} {Q : V → Hp → Prop} {Q2 : V → St → Prop} (h : FL G C f args ⟨loc, hp⟩ (fun v σ' => σ'.loc = loc ∧ Q v σ'.hp)) (k : ∀ v hp', Q v hp' → Q2 v ⟨loc, hp'⟩) : FL G C f args ⟨loc, hp⟩ Q2 :=
  fun P W s us R r => wpAny_mono (h P W s us R r) (fun _ _ ⟨v, ⟨loc', hp'⟩, W', h', tk, e, w, r, R', q1, q2⟩ => ⟨v, _, W', h', tk, e, w, r, R', by simp only at q1 q2; subst q1; exact k _ _ q2⟩) fun _ _ x => x
theorem FL_useE {f : List Value → Sem Value} {args : List V} {loc : Loc} {hp hp₀ : Hp} {v₀ : V} {Q2 : V → St → Prop} (h : FL G C f args ⟨loc, hp⟩ (fun v σ' => σ'.loc = loc ∧ (v = v₀ ∧ σ'.hp = hp₀))) (k : Q2 v₀ ⟨loc, hp₀⟩) : FL G C f args ⟨loc, hp⟩ Q2 :=
  FL_use (Q := fun v hp' => v = v₀ ∧ hp' = hp₀) h fun v hp' ⟨e1, e2⟩ => by subst e1 e2; exact k
theorem FL_useEq {f : List Value → Sem Value} {args : List V} {loc : Loc} {hp : Hp} {v₀ : V} {Q2 : V → St → Prop} (h : FL G C f args ⟨loc, hp⟩ (fun v σ' => σ'.loc = loc ∧ (v = v₀ ∧ σ'.hp = hp))) (k : Q2 v₀ ⟨loc, hp⟩) : FL G C f args ⟨loc, hp⟩ Q2 :=
  FL_use (Q := fun v hp' => v = v₀ ∧ hp' = hp) h fun v hp' ⟨e1, e2⟩ => by subst e1 e2; exact k
theorem truthy_list {l : Addr} {xs : List V} {Q : Bool → St → Prop} (e : σ.hp l = some (.lst xs)) (hz : xs.length ≤ 1000000) (h : Q (decide (0 < xs.length)) σ) : B1 G C truthy (.ref l) σ Q := fun P W s u R hu => by
  cases hu
  obtain ⟨vs, hl, rs⟩ := R.isList e
  refine wpAny_truthy_list hl (by rw [List.size_toArray, rs.length]; omega) ?_
  rw [show (!vs.toArray.isEmpty) = decide (0 < xs.length) by rw [← rs.length]; cases vs <;> simp]
  exact ⟨σ, W, s.heap, _, rfl, fun _ h => h, R, h⟩
end
end
local macro_rules | `(tactic| tb_rel) => `(tactic| with_reducible (first
  | (refine truthy_list (by kbo_bools) ?_ ?_; · kas_types)
  | refine callWith_cl (by with_unfolding_all rfl) (by with_unfolding_all rfl) ?_))
def capt (cl : List (Str × Addr)) (loc : Loc) : Loc := cl.filterMap fun p => (lk loc p.1).map fun v => (p.1, v)
theorem lk_capt {loc : Loc} {x : Str} {v : V} : ∀ {cl : List (Str × Addr)}, lk (capt cl loc) x = some v → lk loc x = some v ∧ ∃ c, cl.lookup x = some c
  | [], h => by simp [capt, lk] at h
  | (y, c) :: cl, h => by
    unfold capt at h
    rw [List.filterMap_cons] at h
    rw [List.lookup_cons]
    by_cases q : x = y
    · subst q
      simp only [beq_self_eq_true]
      refine ⟨?_, c, rfl⟩
      cases e : lk loc x with
      | some u => simp only [e, Option.map_some, lk, if_true] at h; exact h
      | none =>
        simp only [e, Option.map_none] at h
        have := (lk_capt (cl := cl) h).1
        rw [e] at this; cases this
    · have hb : (x == y) = false := by rw [beq_eq_false_iff_ne]; exact q
      simp only [hb]
      cases e : lk loc y with
      | some u => simp only [e, Option.map_some, lk, if_neg q] at h; exact lk_capt (cl := cl) h
      | none => simp only [e, Option.map_none] at h; exact lk_capt (cl := cl) h

section
variable {G : GE} {sc : Scope} {C : Act sc} {σ : St}

def cAct (C : Act sc) (scope : Scope) (cl : List (Str × Addr)) (Lc : Addr) (mf : Str → Option Value) (Cc : Led) : Act (relabel scope C.env) :=
  ⟨C.A, C.g, C.base, C.outer, C.fenv, C.FL, Lc, C.qual, none, C.cd, cl, C.kw, some (mf, Cc)⟩
theorem cAct_ok (O : C.Ok G) {scope : Scope} (hk : scope.kind = .function) (cl : List (Str × Addr)) (Lc : Addr) (mf : Str → Option Value) (Cc : Led) : (cAct C scope cl Lc mf Cc).Ok G :=
  ⟨O.frames, O.fframe, O.fkind, hk, O.below, O.handled, O.top, O.depth, O.units⟩

theorem comp_enter {P W : Led} {h h' : Heap} {mf ml : Str → Option Value} {D Cc : Led} {scope : Scope} {cl : List (Str × Addr)} {Lc : Addr} (R : RelX C P W σ h mf ml D Cc) (hL : C.L = C.FL)
    (hcl : ∀ p ∈ cl, C.cl.lookup p.1 = some p.2 ∧ sc.names.lookup p.1 = some .cell ∧ (relabel scope C.env).names.lookup p.1 = some .cell)
    (hn : h'.Ns Lc (fun _ => none)) (hlc : h.objs.size ≤ Lc) (hext : ∀ b o, h.get? b = some o → h'.get? b = some o) :
    Rel (cAct C scope cl Lc mf Cc) P W ⟨capt cl σ.loc, σ.hp⟩ h' := by
  have lt : ∀ p ∈ (D ++ Cc) ++ (P ++ W), p.1 ≠ Lc := fun p hp e => absurd (R.lt p hp) (by rw [e]; exact Nat.not_lt.mpr hlc)
  have hLc : Lc ≠ C.FL := fun e => absurd R.F.ns.lt (by rw [← e]; exact Nat.not_lt.mpr hlc)
  have hg : C.g.get? Lc = none := by
    cases q : C.g.get? Lc with
    | none => rfl
    | some o => exact absurd (Heap.lt_size (R.F.keep _ _ q)) (Nat.not_lt.mpr hlc)
  refine ⟨mf, fun _ => none, D, Cc, { F := ⟨R.F.ns.keeps hext, fun b o e => hext b o (R.F.keep b o e), R.F.above⟩, ns := hn, N := fun p hp => ⟨hext _ _ (R.N p hp).1, (R.N p hp).2⟩, nd := R.nd, ap := R.ap, pw := R.pw, pnd := R.pnd, kw := R.kw, isc := R.isc, fix := fun z hz => (by cases hz; exact ⟨rfl, rfl⟩), left := fun e => absurd e hLc, own := .inr ⟨hLc, hg, lt⟩, cells := fun x c hx hc => ?_, inj := fun x y c hx hy hcx hcy => ?_, loc := fun x v e => ?_, hp := R.hp }⟩
  · obtain ⟨h1, h2, _⟩ := hcl _ (mem_of_lookup' hc)
    exact R.cells x c h2 h1
  · obtain ⟨h1, h2, _⟩ := hcl _ (mem_of_lookup' hcx)
    obtain ⟨g1, g2, _⟩ := hcl _ (mem_of_lookup' hcy)
    exact R.inj x y c h2 g2 h1 g1
  · obtain ⟨e1, c, hc⟩ := lk_capt e
    obtain ⟨h1, h2, h3⟩ := hcl _ (mem_of_lookup' hc)
    refine ⟨fun k => (by rw [h3] at k; cases k), fun _ => ?_⟩
    obtain ⟨c', ob, u, g1, g2, g3, g4⟩ := (R.loc x v e1).2 h2
    rw [h1] at g1; cases g1
    exact ⟨c, ob, u, hc, g2, g3, g4⟩

theorem comp_leave {P P' W W' : Led} {h h' : Heap} {mf ml : Str → Option Value} {D Cc : Led} {scope : Scope} {cl : List (Str × Addr)} {Lc : Addr} {σ' : St} (R : RelX C P W σ h mf ml D Cc) (hL : C.L = C.FL) (hw : ∀ p ∈ W, p ∈ W')
    (R' : Rel (cAct C scope cl Lc mf Cc) P' W' σ' h') : ∃ oL, Rel C ((Lc, oL) :: P') W' ⟨σ.loc, σ'.hp⟩ h' ∧ ∃ m, h'.Ns Lc m := by
  obtain ⟨mf', ml', D', Cc', R'⟩ := R'
  obtain ⟨e1, e2⟩ := R'.fix _ rfl
  dsimp only at e1 e2
  subst e1 e2
  obtain ⟨oL, es, ep, g1, g2, g3, g4⟩ := id R'.ns
  have own := R'.own.resolve_left fun e => absurd (R'.left e) (by show some _ ≠ none; simp)
  have eml : ml = mf' := Ns_unique (hL ▸ R.ns) R.F.ns
  have g1' : h'.get? Lc = some oL := g1
  have sp : ∀ p ∈ (D' ++ Cc') ++ (((Lc, oL) :: P') ++ W'), p = (Lc, oL) ∨ p ∈ (D' ++ Cc') ++ (P' ++ W') := fun p hp => by
    rcases List.mem_append.mp hp with hp | hp
    · exact .inr (List.mem_append_left _ hp)
    · rw [List.cons_append] at hp
      rcases List.mem_cons.mp hp with hp | hp
      · exact .inl hp
      · exact .inr (List.mem_append_right _ hp)
  refine ⟨oL, ⟨mf', ml, D', Cc', { F := R'.F, ns := by rw [hL, eml]; exact R'.F.ns, N := fun p hp => ?_, nd := R'.nd, ap := fun p hp q hq => ?_, pw := fun p hp q hq => ?_, pnd := ?_, kw := R'.kw, isc := R'.isc, fix := fun z hz => (by rw [R.left hL] at hz; cases hz), left := R.left, own := .inl hL, cells := R.cells, inj := R.inj, loc := fun x v e => (R.loc x v e).mono hw, hp := R'.hp }⟩, _, R'.ns⟩
  · rcases sp p hp with rfl | hp
    · exact ⟨g1', own.1, own.2.1⟩
    · exact R'.N p hp
  · rw [List.cons_append] at hq
    rcases List.mem_cons.mp hq with rfl | hq
    · exact own.2.2 p (List.mem_append_left _ hp)
    · exact R'.ap p hp q hq
  · rcases List.mem_cons.mp hp with rfl | hp
    · exact (own.2.2 q (List.mem_append_right _ (List.mem_append_right _ hq))).symm
    · exact R'.pw p hp q hq
  · rw [List.map_cons, List.nodup_cons]
    refine ⟨fun hm => ?_, R'.pnd⟩
    obtain ⟨p, hp, e⟩ := List.mem_map.mp hm
    exact own.2.2 p (List.mem_append_right _ (List.mem_append_left _ hp)) e

/-- a pin laid into the heap's ledger -/
theorem Rel.unpinTo {P W : Led} {h : Heap} {a : Addr} {o : Obj} {ho : HO} (R : Rel C ((a, o) :: P) W σ h) (r : RepH W ho o) : σ.hp a = none ∧ Rel C P W ⟨σ.loc, updH σ.hp a ho⟩ h := by
  obtain ⟨mf, ml, D, Cc, R⟩ := R
  have hne : ∀ p ∈ D ++ Cc, p.1 ≠ a := fun p hp => R.ap p hp (a, o) (List.mem_append_left _ (.head _))
  have pnd := R.pnd
  rw [List.map_cons, List.nodup_cons] at pnd
  have hnone : σ.hp a = none := by
    cases e : σ.hp a with
    | none => rfl
    | some o' => obtain ⟨ob', hm, _⟩ := R.hp _ _ e; exact absurd rfl (hne _ (List.mem_append_left _ hm))
  have sub : ∀ p ∈ ((a, o) :: D ++ Cc) ++ (P ++ W), p ∈ (D ++ Cc) ++ ((a, o) :: P ++ W) := fun p hp => by
    simp only [List.mem_append, List.mem_cons] at hp ⊢
    rcases hp with ((hp | hp) | hp) | hp | hp <;> simp [hp]
  refine ⟨hnone, mf, ml, (a, o) :: D, Cc, { R with N := fun p hp => R.N p (sub p hp), nd := ?_, ap := fun p hp q hq => ?_, pw := fun p hp q hq => R.pw p (.tail _ hp) q hq, pnd := pnd.2, own := R.own.imp id fun ⟨h1, h2, h3⟩ => ⟨h1, h2, fun p hp => h3 p (sub p hp)⟩, loc := R.loc, hp := fun b o' e => ?_ }⟩
  · rw [List.cons_append, List.map_cons, List.nodup_cons]
    refine ⟨fun hm => ?_, R.nd⟩
    obtain ⟨p, hp, e⟩ := List.mem_map.mp hm
    exact hne p hp e
  · rcases List.mem_cons.mp hp with rfl | hp
    · rcases List.mem_append.mp hq with hq | hq
      · exact fun e => pnd.1 (List.mem_map.mpr ⟨q, hq, e.symm⟩)
      · exact R.pw (a, o) (.head _) q hq
    · exact R.ap p hp q (List.mem_append.mpr ((List.mem_append.mp hq).imp (.tail _) id))
  · by_cases hb : b = a
    · subst hb
      rw [show (St.mk σ.loc (updH σ.hp b ho)).hp b = some ho from updH_same ..] at e
      cases e
      exact ⟨o, .head _, r⟩
    · rw [show (St.mk σ.loc (updH σ.hp a ho)).hp b = σ.hp b from updH_ne hb] at e
      obtain ⟨ob', hm, r'⟩ := R.hp b o' e
      exact ⟨ob', .tail _ hm, r'⟩
theorem Rel.swap {P W : Led} {h : Heap} {p q : Addr × Obj} (R : Rel C (p :: q :: P) W σ h) : Rel C (q :: p :: P) W σ h := by
  obtain ⟨mf, ml, D, Cc, R⟩ := R
  have sub : ∀ r ∈ q :: p :: P, r ∈ p :: q :: P := fun r hr => by simp only [List.mem_cons] at hr ⊢; rcases hr with h | h | h <;> simp [h]
  have sub2 : ∀ r ∈ (q :: p :: P) ++ W, r ∈ (p :: q :: P) ++ W := fun r hr => List.mem_append.mpr ((List.mem_append.mp hr).imp (sub r) id)
  have sub3 : ∀ r ∈ (D ++ Cc) ++ ((q :: p :: P) ++ W), r ∈ (D ++ Cc) ++ ((p :: q :: P) ++ W) := fun r hr => List.mem_append.mpr ((List.mem_append.mp hr).imp id (sub2 r))
  refine ⟨mf, ml, D, Cc, { R with N := fun r hr => R.N r (sub3 r hr), ap := fun a ha b hb => R.ap a ha b (sub2 b hb), pw := fun a ha b hb => R.pw a (sub a ha) b hb, pnd := ?_, own := R.own.imp id fun ⟨h1, h2, h3⟩ => ⟨h1, h2, fun r hr => h3 r (sub3 r hr)⟩ }⟩
  have := R.pnd
  simp only [List.map_cons, List.nodup_cons, List.mem_cons, not_or] at this ⊢
  exact ⟨⟨Ne.symm this.1.1, this.2.1⟩, this.1.2, this.2.2⟩

/-- tests, then the element -/
def CT (G : GE) {sc : Scope} (C : Act sc) (ifs : List Expr) (elt : Expr) (σ : St) (K : Option V → St → Prop) : Prop := match ifs with
  | [] => Ev G C (eval elt C.env) σ (fun v σ₁ => K (some v) σ₁)
  | [c] => Bx G C (isTrue c C.env (eval c C.env)) σ (fun b σ₁ => if b then Ev G C (eval elt C.env) σ₁ (fun v σ₂ => K (some v) σ₂) else K none σ₁)
  | _ => False

theorem CT_cases {ifs : List Expr} {elt : Expr} {K : Option V → St → Prop} (h : CT G C ifs elt σ K) : (ifs = [] ∧ Ev G C (eval elt C.env) σ (fun v σ₁ => K (some v) σ₁)) ∨
    ∃ c, ifs = [c] ∧ Bx G C (isTrue c C.env (eval c C.env)) σ (fun b σ₁ => if b then Ev G C (eval elt C.env) σ₁ (fun v σ₂ => K (some v) σ₂) else K none σ₁) := by
  match ifs, h with
  | [], h => exact .inl ⟨rfl, h⟩
  | [c], h => exact .inr ⟨c, rfl, h⟩
  | _ :: _ :: _, h => exact h.elim
theorem wpAny_tests {A : Around} {E : Value → Shared → Prop} {s : Shared} {env : Env} {ifs : List Expr} {Q : Bool → Shared → Prop} {prog : Program} {w : World}
    (h : (ifs = [] ∧ Q true s) ∨ ∃ c, ifs = [c] ∧ wpAny (model prog w) A (isTrue c env (eval c env)) Q E s) :
    wpAny (model prog w) A (forIn ifs true fun c r => if r = true then do let ok ← isTrue c env (eval c env); pure (ForInStep.yield ok) else pure (ForInStep.yield r)) Q E s := by
  rcases h with ⟨rfl, h⟩ | ⟨c, rfl, h⟩
  · exact wpAny_tests_nil h
  · exact wpAny_tests_one h

structure CPlan (G : GE) {sc : Scope} (C : Act sc) (scope : Scope) (cl : List (Str × Addr)) (x : Str) (ifs : List Expr) (elt : Expr) (Q : List V → St → Prop) (v : V) (σ : St) where
  hp' : Hp
  items : List V
  dep : St → Prop
  it : IterV2 G C (relabel scope C.env) v σ ⟨σ.loc, hp'⟩ items dep
  small : items.length ≤ 1000000
  I : Nat → List V → St → Prop
  σ0 : St
  le0 : St.le σ0 ⟨capt cl σ.loc, hp'⟩
  h0 : I 0 [] σ0
  hdep : ∀ i acc σ, I i acc σ → dep σ
  turn : ∀ C' : Act (relabel scope C.env), C'.Ok G → C'.A = C.A → C'.cl = cl → ∀ i y acc σ, items[i]? = some y → I i acc σ → CT G C' ifs elt ⟨setL σ.loc x y, σ.hp⟩ (fun o σ₁ => ∃ σ₂, St.le σ₂ σ₁ ∧ I (i + 1) (acc ++ o.toList) σ₂)
  done : ∀ acc σ₂, I items.length acc σ₂ → Q acc ⟨σ.loc, σ₂.hp⟩

inductive CompI {sc : Scope} (C : Act sc) (P W₁ : Led) (s : Shared) (a d : Addr) (st : Nat → Obj → Prop) (I : Nat → List V → St → Prop) (len k : Nat) (s' : Shared) : Prop
  | mk (i : Nat) (acc : List V) (σ' : St) (W' : Led) (vs : List Value) (n : Nat) (o : Obj) (h : Heap) (tk : Nat) (e : s' = { s with heap := h, toks := tk }) (w : ∀ p ∈ W₁, p ∈ W') (R : Rel C ((a, o) :: (d, lstO vs n) :: P) W' σ' h)
      (rs : Reps W' acc vs) (hst : st i o) (q : I i acc σ') (hi : i ≤ len) (ha : acc.length ≤ i) (hk : k = len + 1 - i) : CompI C P W₁ s a d st I len k s'
theorem comp_core (O : C.Ok G) (hL : C.L = C.FL) {elt iter : Expr} {x : Str} {px pos pos' : Pos} {ifs : List Expr} {scope : Scope} {cl : List (Str × Addr)} {use : Option (Value → Sem Unit)} {Qv : Value → Shared → Prop} {Qp : List V → St → Prop}
    (hclos : closureFor scope C.env = pure cl) (hcl : ∀ p ∈ cl, C.cl.lookup p.1 = some p.2 ∧ sc.names.lookup p.1 = some .cell ∧ (relabel scope C.env).names.lookup p.1 = some .cell)
    (hcell : ∀ y ∈ scope.names, y.2 ≠ .cell) (hkind : scope.kind = .function) (hnames : ∀ y ∈ scope.names, y.2 = .local → scope.names.lookup y.1 = some .local) (hx : (relabel scope C.env).names.lookup x = some .local)
    (hs : ∀ x, foldedSetIterable iter C.env x = pure x) {P W : Led} {s : Shared} (R : Rel C P W σ s.heap)
    (h : Ev G C (eval iter C.env) σ (fun v σ₁ => Nonempty (CPlan G C scope cl x ifs elt Qp v σ₁)))
    (fin : ∀ (acc : List V) (l Lc : Addr) (oL : Obj) (σ' : St) (W' : Led) (h' : Heap) (tk : Nat), (∀ p ∈ W, p ∈ W') → σ'.hp l = none → Qp acc σ' → Rel C ((Lc, oL) :: P) W' ⟨σ'.loc, updH σ'.hp l (.lst acc)⟩ h' → (∃ m, h'.Ns Lc m) →
      compPost (model G.prog G.w) C.A NoE use Qv (.ref l) Lc (.ok .next) { s with heap := h', toks := tk }) :
    wpAny (model G.prog G.w) C.A (comprehension (.ListComp elt [⟨.Name x px, iter, ifs, 0⟩] scope pos) scope C.env pos' (newList []) false (eval iter C.env) use) Qv NoE s := by
  refine wpAny_comprehension_free (use := use) rfl hs hclos hkind hnames (wp_seq1 (h P W s R) fun v u σ₁ W₁ h₁ tk₁ w₁ rv R₁ q₁ => ?_)
  obtain ⟨pl⟩ := q₁
  obtain ⟨st, T, start⟩ := pl.it P W₁ { s with heap := h₁, toks := tk₁ } u R₁ rv
  refine start _ fun I o h₂ tk₂ hst R₂ => ?_
  refine wpAny_newObj_type (wpAny_newFunctionEnv hcell (by intro y hy; simp at hy) (fun h₃ hns hsb => ?_) hkind)
  dsimp only at hns hsb ⊢
  have R₃ := R₂.pin (o := lstO [] 0) rfl
  obtain ⟨d, hd⟩ : ∃ d, d = h₂.objs.size := ⟨_, rfl⟩
  generalize hH2 : h₂.push { cls := .type "list", dict := none, data := .seq ([] : List Value).toArray } = H2 at hns hsb ⊢
  have R₃ : Rel C ((d, lstO [] 0) :: (I, o) :: P) W₁ ⟨σ₁.loc, pl.hp'⟩ H2 := by rw [hd, ← hH2]; exact R₃
  rw [← hd]
  obtain ⟨Lc, hLc⟩ : ∃ Lc, Lc = H2.objs.size := ⟨_, rfl⟩
  rw [← hLc] at hns hsb ⊢
  obtain ⟨mf, ml, D, Cc, RX⟩ := R₃
  have Rc := comp_enter (scope := scope) (cl := cl) RX hL hcl (h' := h₃) (by simpa using hns) (Nat.le_of_eq hLc.symm) (fun b ob e => hsb.extBut b ob (by rw [hLc]; exact Nat.ne_of_lt (Heap.lt_size e)) (Heap.get?_push_of_some _ e))
  have O' := cAct_ok (G := G) O hkind cl Lc mf Cc
  have hk' : (relabel scope C.env).kind = .function := hkind
  have T' := T (cAct C scope cl Lc mf Cc) O'
  have loop : ∀ (o : Obj) (s₃ : Shared), (∃ W' h tk, s₃ = { s with heap := h, toks := tk } ∧ (∀ p ∈ W₁, p ∈ W') ∧ Rel (cAct C scope cl Lc mf Cc) ((I, o) :: (d, lstO [] 0) :: P) W' pl.σ0 h) → st 0 o →
      codeAny (model G.prog G.w) C.A (.compLoop (.ListComp elt [⟨.Name x px, iter, ifs, 0⟩] scope pos) 0 (.ref I) (.ref d) (cAct C scope cl Lc mf Cc).env) (compPost (model G.prog G.w) C.A NoE use Qv (.ref d) Lc) s₃ := by
    rintro o s₃ ⟨W', h, tk, rfl, w', R'⟩ hst
    refine codeAny_compLoop_tests (CompI (cAct C scope cl Lc mf Cc) P W₁ s I d st pl.I pl.items.length) ?_ _
      ⟨0, [], pl.σ0, W', [], 0, o, h, tk, rfl, w', R', .nil, hst, pl.h0, Nat.zero_le _, Nat.le_refl _, rfl⟩
    rintro k s' ⟨i, acc, σ₂, W₂, vs, n, o₂, h₄, tk₄, rfl, w₂, R₂, rs, hst₂, hI, hi, hacc, rfl⟩
    rcases Nat.lt_or_ge i pl.items.length with hlt | hge
    · refine wp_anyE (T'.next i _ W₂ σ₂ _ I o₂ pl.items[i] _ w₂ R₂ (pl.hdep i acc σ₂ hI) hst₂ (by simp [hlt]) fun u₂ o₃ h₅ tk₅ hst₃ ru R₅ => ?_)
      show wpAny _ _ (assign (.Name x px) (cAct C scope cl Lc mf Cc).env u₂) _ _ _
      refine wp_anyE (wpAny_bind (wpAny_standAt (wpAny_bindName (store_any (G := G) (C := cAct C scope cl Lc mf Cc) (s := { s with heap := h₅, toks := tk₅ }) hk' (.inl hx) R₅ ru fun h₆ tk₆ R₆ => ?_))))
      have turn := pl.turn (cAct C scope cl Lc mf Cc) O' rfl rfl i pl.items[i] acc σ₂ (by simp [hlt]) hI
      have app : ∀ (v : V) (u : Value) (σ₃ : St) (W₃ : Led) (h₇ : Heap) (tk₇ : Nat), (∀ p ∈ W₂, p ∈ W₃) → Rep W₃ v u → Rel (cAct C scope cl Lc mf Cc) ((I, o₃) :: (d, lstO vs n) :: P) W₃ σ₃ h₇ → (∃ σ₄, St.le σ₄ σ₃ ∧ pl.I (i + 1) (acc ++ [v]) σ₄) →
          wpAny (model G.prog G.w) C.A (call (.builtin "list.append") [.ref d, u]) (fun _ s₅ => ∃ m, m < pl.items.length + 1 - i ∧ CompI (cAct C scope cl Lc mf Cc) P W₁ s I d st pl.I pl.items.length m s₅) NoE { s with heap := h₇, toks := tk₇ } := by
        rintro v u σ₃ W₃ h₇ tk₇ w₃ rv R₇ ⟨σ₄, le₄, hI₄⟩
        have R₈ := R₇.swap
        refine wpAny_list_append_plain ⟨n, R₈.pinned⟩ (fun h' ⟨n', ho'⟩ hs => ?_) (by show vs.toArray.size ≤ sizeLine; rw [List.size_toArray, rs.length, sizeLine_eq]; have := pl.small; omega)
        refine ⟨pl.items.length + 1 - (i + 1), by omega, i + 1, acc ++ [v], σ₄, W₃, vs ++ [u], n', o₃, h', tk₇, rfl, fun p hp => w₃ p (w₂ p hp), ?_, (rs.mono w₃).append (.cons rv .nil), hst₃, hI₄, hlt, by simp; omega, rfl⟩
        exact (((R₈.repin (o' := lstO (vs ++ [u]) n') hs.extBut (by rw [ho']; simp [lstO])).swap).le le₄)
      refine wpAny_tests ?_
      rcases CT_cases turn with ⟨e, turn⟩ | ⟨c, e, turn⟩
      · refine .inl ⟨e, ?_⟩
        simp only [if_true]
        refine wp_anyE (wp_seq1 (C := cAct C scope cl Lc mf Cc) (turn _ W₂ _ R₆) fun v u σ₃ W₃ h₇ tk₇ w₃ rv R₇ q => ?_)
        exact wp_anyE (app v u σ₃ W₃ h₇ tk₇ w₃ rv R₇ q)
      · refine .inr ⟨c, e, wp_anyE (wp_seqB (C := cAct C scope cl Lc mf Cc) (turn _ W₂ _ R₆) fun b σ₃ W₃ h₇ tk₇ w₃ R₇ q => ?_)⟩
        cases b with
        | true =>
          simp only [if_true] at q ⊢
          refine wp_anyE (wp_seq1 (C := cAct C scope cl Lc mf Cc) (q _ W₃ _ R₇) fun v u σ₄ W₄ h₈ tk₈ w₄ rv R₈ q => ?_)
          exact wp_anyE (app v u σ₄ W₄ h₈ tk₈ (fun p hp => w₄ p (w₃ p hp)) rv R₈ q)
        | false =>
          simp only [Bool.false_eq_true, if_false] at q ⊢
          obtain ⟨σ₄, le₄, hI₄⟩ := q
          exact ⟨pl.items.length + 1 - (i + 1), by omega, i + 1, acc, σ₄, W₃, vs, n, o₃, h₇, tk₇, rfl, fun p hp => w₃ p (w₂ p hp), R₇.le le₄, rs.mono w₃, hst₃, by simpa using hI₄, hlt, by omega, rfl⟩
    · have hin : i = pl.items.length := by omega
      subst hin
      refine wp_anyE (T'.done _ W₂ σ₂ _ I o₂ _ w₂ R₂ (pl.hdep _ acc σ₂ hI) hst₂ fun h₅ tk₅ R₅ => ?_)
      obtain ⟨oL, RL, hm⟩ := comp_leave RX hL w₂ R₅
      obtain ⟨hn, RL⟩ := RL.swap.unpinTo (ho := .lst acc) ⟨vs, n, rfl, rs⟩
      exact fin acc d Lc oL ⟨σ₁.loc, σ₂.hp⟩ W₂ h₅ tk₅ (fun p hp => w₂ p (w₁ p hp)) hn (pl.done acc σ₂ hI) RL hm
  refine codeAny_compStart_list ?_ ?_
  · exact loop o _ ⟨W₁, h₃, _, rfl, fun _ h => h, (Rc.swap).le pl.le0⟩ hst
  · refine wp_anyE (T'.again 0 _ W₁ ⟨capt cl σ₁.loc, pl.hp'⟩ _ I o _ Rc.swap hst ?_)
    exact loop o _ ⟨W₁, h₃, _, rfl, fun _ h => h, (Rc.swap).le pl.le0⟩ hst

def compQ (Q : V → St → Prop) (acc : List V) (σ : St) : Prop := ∀ l, σ.hp l = none → Q (.ref l) ⟨σ.loc, updH σ.hp l (.lst acc)⟩
theorem Ev_ListComp (O : C.Ok G) (hL : C.L = C.FL) {elt iter : Expr} {x : Str} {px pos : Pos} {ifs : List Expr} {scope : Scope} {cl : List (Str × Addr)} {Q : V → St → Prop}
    (hclos : closureFor scope C.env = pure cl) (hcl : ∀ p ∈ cl, C.cl.lookup p.1 = some p.2 ∧ sc.names.lookup p.1 = some .cell ∧ (relabel scope C.env).names.lookup p.1 = some .cell)
    (hcell : ∀ y ∈ scope.names, y.2 ≠ .cell) (hkind : scope.kind = .function) (hnames : ∀ y ∈ scope.names, y.2 = .local → scope.names.lookup y.1 = some .local) (hx : (relabel scope C.env).names.lookup x = some .local)
    (hs : ∀ x, foldedSetIterable iter C.env x = pure x)
    (h : Ev G C (eval iter C.env) σ (fun v σ₁ => Nonempty (CPlan G C scope cl x ifs elt (compQ Q) v σ₁))) :
    Ev G C (eval (.ListComp elt [⟨.Name x px, iter, ifs, 0⟩] scope pos) C.env) σ Q := fun P W s R => by
  rw [eval_ListComp]
  refine comp_core O hL (use := none) hclos hcl hcell hkind hnames hx hs R h fun acc l Lc oL σ' W' h' tk w hn q R' hm => ?_
  obtain ⟨m, hm⟩ := hm
  refine ⟨m, hm, fun h'' hs'' => ?_⟩
  exact ⟨.ref l, _, W', h'', tk, rfl, w, .ref _, R'.letgo hs''.extBut, q l hn⟩
/-- the comprehension's value stored before its variables go -/
theorem Sx_AssignComp (O : C.Ok G) (hL : C.L = C.FL) {elt iter : Expr} {x y : Str} {px py pos spos : Pos} {ifs : List Expr} {scope : Scope} {cl : List (Str × Addr)} {Q : Fl → St → Prop}
    (hsw : swapsWith (.ListComp elt [⟨.Name x px, iter, ifs, 0⟩] scope pos) (some (.Name y py)) spos.line C.env = pure true) (hy : Storable C y)
    (hclos : closureFor scope C.env = pure cl) (hcl : ∀ p ∈ cl, C.cl.lookup p.1 = some p.2 ∧ sc.names.lookup p.1 = some .cell ∧ (relabel scope C.env).names.lookup p.1 = some .cell)
    (hcell : ∀ y ∈ scope.names, y.2 ≠ .cell) (hkind : scope.kind = .function) (hnames : ∀ y ∈ scope.names, y.2 = .local → scope.names.lookup y.1 = some .local) (hx : (relabel scope C.env).names.lookup x = some .local)
    (hs : ∀ x, foldedSetIterable iter C.env x = pure x)
    (h : Ev G C (eval iter C.env) σ (fun v σ₁ => Nonempty (CPlan G C scope cl x ifs elt (fun acc σ => ∀ l, σ.hp l = none → Q .next ⟨setL σ.loc y (.ref l), updH σ.hp l (.lst acc)⟩) v σ₁))) :
    Sx G C (exec (.Assign [.Name y py] (.ListComp elt [⟨.Name x px, iter, ifs, 0⟩] scope pos) spos) C.env) σ Q := fun P W s R => by
  rw [exec_Assign_Name_used _ _ _ _ hsw]
  refine wpAny_bind (wpAny_standAt (wpAny_bind ?_))
  show wpAny _ C.A (do let _ ← comprehension (.ListComp elt [⟨.Name x px, iter, ifs, 0⟩] scope pos) scope C.env _ (newList []) false (eval iter C.env) (some (assign (.Name y py) C.env))) _ _ s
  refine wpAny_bind (wpAny_mono (comp_core O hL (use := some (assign (.Name y py) C.env)) (Qv := fun _ s' => PostS C P W s Q .next s') hclos hcl hcell hkind hnames hx hs R h fun acc l Lc oL σ' W' h' tk w hn q R' hm => ?_) (fun _ s' hq => wpAny_pure (wpAny_pure hq)) fun _ _ e => e)
  show wpAny _ C.A (assign (.Name y py) C.env (.ref l)) _ _ _
  refine wpAny_assign_Name (store_any (s := { s with heap := h', toks := tk }) O.kind hy R' (.ref l) fun h'' tk'' R'' => ?_)
  obtain ⟨m, oL', es, ep, g1, g2, g3, g4⟩ := hm
  have e1 : h''.get? Lc = some oL := R''.pinned
  have e0 : h'.get? Lc = some oL := R'.pinned
  rw [e0] at g1; cases g1
  refine ⟨m, ⟨oL, es, ep, e1, g2, g3, g4⟩, fun h₃ hs₃ => ?_⟩
  exact ⟨.next, _, W', h₃, tk'', rfl, w, trivial, R''.letgo hs₃.extBut, q l hn⟩
end
/-- the closure of a comprehension within a def, and its cells -/
theorem ints_of_reps {W : Led} : ∀ {ns : List Int} {vs : List Value}, Reps W (ns.map V.int) vs → IntsAre vs ns
  | [], _, h => Reps.eNil h .nil
  | n :: ns, _, h => Reps.eCons h fun v vs h1 h2 => Rep.eInt h1 fun t => .cons n t (ints_of_reps h2)
theorem reps_of_ints {W : Led} {ns : List Int} {vs : List Value} (h : IntsAre vs ns) : Reps W (ns.map V.int) vs := by
  induction h with
  | nil => exact .nil
  | cons n t r ih => exact .cons (.int n t) ih
section
variable {G : GE} {sc : Scope} {C : Act sc} {σ : St}

theorem sorted_l (O : C.Ok G) {l : Addr} {ns : List Int} {Q : V → St → Prop} (e : σ.hp l = some (.lst (ns.map V.int))) (hz : ns.length < 64)
    (h : ∀ (r : Addr) (ns' : List Int), σ.hp r = none → ns'.Perm ns → ns'.Pairwise (· ≤ ·) → Q (.ref r) ⟨σ.loc, updH σ.hp r (.lst (ns'.map V.int))⟩) : FL G C (fun us => call (.builtin "sorted") us) [.ref l] σ Q := fun P W s us R hu => by
  refine Reps.eCons hu fun _ _ h1 h2 => ?_
  focus
    (first | refine Rep.eInt h1 fun _ => ?_ | refine Rep.eRef h1 ?_ | refine Reps.eNil h1 ?_ | refine Rep.eStr h1 fun _ => ?_ | refine Rep.eBytes h1 fun _ => ?_ | refine Rep.eBool h1 ?_ | refine Rep.eNone h1 ?_ | refine Rep.eTyp h1 ?_ | refine Rep.eBi h1 ?_ | cases h1); (first | refine Rep.eInt h2 fun _ => ?_ | refine Rep.eRef h2 ?_ | refine Reps.eNil h2 ?_ | refine Rep.eStr h2 fun _ => ?_ | refine Rep.eBytes h2 fun _ => ?_ | refine Rep.eBool h2 ?_ | refine Rep.eNone h2 ?_ | refine Rep.eTyp h2 ?_ | refine Rep.eBi h2 ?_ | cases h2)
    obtain ⟨vs, hl, rs⟩ := R.isList e
    obtain ⟨mf, news, F, N, lt, _, back⟩ := R.viaNews
    refine kso_sorted F N hl (ints_of_reps rs) hz fun D vs' ns' c h' F' N' hD hi' hlen hp hs _ => ?_
    obtain ⟨hn, R'⟩ := back h' D _ (.lst (ns'.map V.int)) F' N' (fun p hp => Nat.ne_of_lt (hD p hp)) ⟨vs', c, rfl, reps_of_ints hi'⟩
    exact Post.here (tk := s.toks) R' (.ref _) (h D ns' hn hp hs)
theorem bytes_l (O : C.Ok G) {l : Addr} {ns : List Int} {Q : V → St → Prop} (e : σ.hp l = some (.lst (ns.map V.int))) (hz : ns.length ≤ 1000000) (hr : ∀ n ∈ ns, 0 ≤ n ∧ n < 256) (h : Q (.bytes (ns.map fun n => n.toNat.toUInt8).toArray) σ) :
    FL G C (fun us => call (.type "bytes") us) [.ref l] σ Q := fun P W s us R hu => by
  refine Reps.eCons hu fun _ _ h1 h2 => ?_
  focus
    (first | refine Rep.eInt h1 fun _ => ?_ | refine Rep.eRef h1 ?_ | refine Reps.eNil h1 ?_ | refine Rep.eStr h1 fun _ => ?_ | refine Rep.eBytes h1 fun _ => ?_ | refine Rep.eBool h1 ?_ | refine Rep.eNone h1 ?_ | refine Rep.eTyp h1 ?_ | refine Rep.eBi h1 ?_ | cases h1); (first | refine Rep.eInt h2 fun _ => ?_ | refine Rep.eRef h2 ?_ | refine Reps.eNil h2 ?_ | refine Rep.eStr h2 fun _ => ?_ | refine Rep.eBytes h2 fun _ => ?_ | refine Rep.eBool h2 ?_ | refine Rep.eNone h2 ?_ | refine Rep.eTyp h2 ?_ | refine Rep.eBi h2 ?_ | cases h2)
    obtain ⟨vs, hl, rs⟩ := R.isList e
    obtain ⟨mf, news, F, N, lt, back, _⟩ := R.viaNews
    refine bytes_K F N hl (ints_of_reps rs) hr (by rw [rs.length, sizeLine_eq, List.length_map]; omega) O.handled fun h' t k F' N' _ => ?_
    exact ⟨.bytes _, σ, W, h', k, rfl, fun _ h => h, .bytes _ t, back h' F' N', h⟩
/-! ## equality -/
mutual
def pdat : V → PyData
  | .none => .none
  | .bool b => .bool b
  | .int i => .int i
  | .str s => .str s
  | .tup xs => .tuple (pdats xs)
  | _ => .none
def pdats : List V → List PyData
  | [] => []
  | x :: xs => pdat x :: pdats xs
end
mutual
def plain : V → Bool
  | .none | .bool _ | .int _ | .str _ => true
  | .tup xs => plains xs
  | _ => false
def plains : List V → Bool
  | [] => true
  | x :: xs => plain x && plains xs
end
theorem readsAll_of_reps {h : Heap} {W : Led} (hw : ∀ p ∈ W, h.get? p.1 = some p.2) {xs : List V} {vs : List Value} (r : Reps W xs vs) : plains xs = true → ∃ as, ReadsAll h vs (pdats xs) as :=
  Reps.rec (motive_1 := fun x v _ => plain x = true → ∃ as, Reads h v (pdat x) as) (motive_2 := fun xs vs _ => plains xs = true → ∃ as, ReadsAll h vs (pdats xs) as)
    (fun _ => ⟨_, by rw [pdat]; exact .none⟩) (fun b _ => ⟨_, by rw [pdat]; exact .bool b⟩) (fun i t _ => ⟨_, by rw [pdat]; exact .int i t⟩) (fun s t _ => ⟨_, by rw [pdat]; exact .str s t⟩)
    (fun _ _ hp => by simp [plain] at hp) (fun _ hp => by simp [plain] at hp) (fun _ hp => by simp [plain] at hp) (fun _ hp => by simp [plain] at hp)
    (fun hm _ ih hp => by
      rw [plain] at hp
      obtain ⟨as, ra⟩ := ih hp
      exact ⟨_, by rw [pdat]; exact .tuple (hw _ hm) rfl rfl (by simpa using ra)⟩)
    (fun _ => ⟨_, by rw [pdats]; exact .nil⟩)
    (fun _ _ i1 i2 hp => by
      rw [plains, Bool.and_eq_true] at hp
      obtain ⟨as, ra⟩ := i1 hp.1
      obtain ⟨bs, rb⟩ := i2 hp.2
      exact ⟨_, by rw [pdats]; exact .cons ra rb⟩) r
mutual
theorem eqv_refl : ∀ {x : V}, plain x = true → PyData.eqv (pdat x) (pdat x) = true
  | .none, _ => by simp [pdat, PyData.eqv]
  | .bool b, _ => by simp [pdat, PyData.eqv]
  | .int i, _ => by simp [pdat, PyData.eqv]
  | .str s, _ => by simp [pdat, PyData.eqv]
  | .tup xs, h => by
    rw [plain] at h
    rw [pdat, PyData.eqv]
    exact eqvAll_refl h
theorem eqvAll_refl : ∀ {xs : List V}, plains xs = true → PyData.eqvAll (pdats xs) (pdats xs) = true
  | [], _ => by simp [pdats, PyData.eqvAll]
  | x :: xs, h => by
    rw [plains, Bool.and_eq_true] at h
    rw [pdats, PyData.eqvAll, Bool.and_eq_true]
    exact ⟨eqv_refl h.1, eqvAll_refl h.2⟩
end
theorem Rel.frozen {P W : Led} {h : Heap} (R : Rel C P W σ h) : ∀ p ∈ W, h.get? p.1 = some p.2 := by
  obtain ⟨mf, ml, D, Cc, R⟩ := R
  exact fun p hp => (R.N p (List.mem_append_right _ (List.mem_append_right _ hp))).1
/-! ## slices -/
def F3S (G : GE) {sc : Scope} (C : Act sc) (value slice : Expr) (o l u : V) (σ : St) (Q : V → St → Prop) : Prop :=
  ∀ P W (s : Shared) uo ul uu, Rel C P W σ s.heap → Rep W o uo → Rep W l ul → Rep W u uu →
    wpAny (model G.prog G.w) C.A (subscriptTail value slice uo (.ref s.heap.objs.size)) (Post C P W s Q) NoE { s with heap := s.heap.push { cls := .type "slice", data := .fields #[ul, uu, .none] } }
theorem EvP_none {Q : V → St → Prop} (h : Q .none σ) : Ev G C (evalPart none C.env) σ Q := fun P W s R => wpAny_pure (Post.here' R .none h)
theorem EvP_some {e : Expr} {Q : V → St → Prop} (h : Ev G C (eval e C.env) σ Q) : Ev G C (evalPart (some e) C.env) σ Q := h
theorem Ev_SubSlice {value : Expr} {lo hi : Option Expr} {ps pos : Pos} {Q : V → St → Prop}
    (h : Ev G C (eval value C.env) σ (fun o σ₁ => Ev G C (evalPart lo C.env) σ₁ (fun l σ₂ => Ev G C (evalPart hi C.env) σ₂ (fun u σ₃ => F3S G C value (.Slice lo hi none ps) o l u σ₃ Q)))) :
    Ev G C (eval (.Subscript value (.Slice lo hi none ps) pos) C.env) σ Q := fun P W s R => by
  refine Subscript_ (wp_seq1 (h P W s R) fun a u σ₁ W₁ h₁ tk₁ w₁ ra R₁ q₁ => ?_)
  refine wpAny_Slice (wp_seq1 (q₁ P W₁ _ R₁) fun l ul σ₂ W₂ h₂ tk₂ w₂ rl R₂ q₂ => ?_)
  refine wp_seq1 (q₂ P W₂ _ R₂) fun v uv σ₃ W₃ h₃ tk₃ w₃ rv R₃ q₃ => ?_
  show wpAny _ _ (pure Value.none : Sem Value) _ _ _
  refine wpAny_pure ?_
  exact wpAny_mono (q₃ P W₃ { s with heap := h₃, toks := tk₃ } _ _ _ R₃ ((ra.mono w₂).mono w₃) (rl.mono w₃) rv) (fun _ _ p => ((p.trans w₃).trans w₂).trans w₁) fun _ _ x => x
/-- `l[a:]` -/
theorem slice_from {value slice : Expr} {l : Addr} {k : Nat} {xs : List V} {Q : V → St → Prop} (hs : ∀ o i, subscripted slice false o i = operate [i, o] (getItem o i)) (ht : ∀ l r, letTemporaryGo value (.ref l) r = pure ()) (e : σ.hp l = some (.lst xs)) (hz : xs.length ≤ 1000000)
    (h : ∀ r, σ.hp r = none → Q (.ref r) ⟨σ.loc, updH σ.hp r (.lst (xs.drop k))⟩) : F3S G C value slice (.ref l) (.int k) .none σ Q := fun P W s uo ul uu R ho hl hu => by
  cases ho; cases hl; (first | refine Rep.eInt hu fun _ => ?_ | refine Rep.eRef hu ?_ | refine Reps.eNil hu ?_ | refine Rep.eStr hu fun _ => ?_ | refine Rep.eBytes hu fun _ => ?_ | refine Rep.eBool hu ?_ | refine Rep.eNone hu ?_ | refine Rep.eTyp hu ?_ | refine Rep.eBi hu ?_ | cases hu)
  obtain ⟨vs, hl, rs⟩ := R.isList e
  obtain ⟨mf, news, F, N, lt, _, back⟩ := R.viaNews
  refine slice_list F N hl (.int _ _) .none (fun h' F' N' => ?_) (hs _ _) (ht _) (by rw [List.size_toArray, rs.length, sizeLine_eq]; omega)
  rw [slicePick_from'] at N'
  obtain ⟨hn, R'⟩ := back h' _ _ (.lst (xs.drop k)) F' N' (fun p hp => Nat.ne_of_lt (Nat.lt_succ_of_lt (lt p hp))) ⟨vs.drop k, 0, rfl, rs.drop k⟩
  exact Post.here (tk := s.toks) R' (.ref _) (h _ hn)
/-- a comprehension that only reads -/
theorem fm_plan {scope : Scope} {cl : List (Str × Addr)} {x : Str} {ifs : List Expr} {elt : Expr} {Q : List V → St → Prop} {v : V} {σ : St} (f : V → Option V) (hp' : Hp) (items : List V) (dep : St → Prop)
    (it : IterV2 G C (relabel scope C.env) v σ ⟨σ.loc, hp'⟩ items dep) (small : items.length ≤ 1000000) (hdep : dep ⟨capt cl σ.loc, hp'⟩)
    (turn : ∀ C' : Act (relabel scope C.env), C'.Ok G → C'.A = C.A → C'.cl = cl → ∀ (i : Nat) (y : V), items[i]? = some y → CT G C' ifs elt ⟨setL (capt cl σ.loc) x y, hp'⟩ (fun o σ₁ => o = f y ∧ St.le ⟨capt cl σ.loc, hp'⟩ σ₁))
    (done : Q (items.filterMap f) ⟨σ.loc, hp'⟩) : Nonempty (CPlan G C scope cl x ifs elt Q v σ) := by
  refine ⟨{ hp' := hp', items := items, dep := dep, it := it, small := small, I := fun i acc σ₂ => acc = (items.take i).filterMap f ∧ σ₂ = ⟨capt cl σ.loc, hp'⟩, σ0 := _, le0 := St.le.refl _, h0 := ⟨rfl, rfl⟩, hdep := ?_, turn := ?_, done := ?_ }⟩
  · rintro i acc σ₂ ⟨_, rfl⟩; exact hdep
  · rintro C' O' hA hcl i y acc σ₂ hy ⟨rfl, rfl⟩
    have t := turn C' O' hA hcl i y hy
    have e : (items.take (i + 1)).filterMap f = (items.take i).filterMap f ++ (f y).toList := by
      have hi : i < items.length := by
        rcases Nat.lt_or_ge i items.length with h | h
        · exact h
        · rw [List.getElem?_eq_none h] at hy; cases hy
      have hy' : items[i] = y := by rw [List.getElem?_eq_getElem hi] at hy; exact Option.some.inj hy
      rw [List.take_succ_eq_append_getElem hi, List.filterMap_append, hy']
      cases q : f y <;> simp [q]
    have key : ∀ o σ₁, o = f y ∧ St.le ⟨capt cl σ.loc, hp'⟩ σ₁ → ∃ σ₂, St.le σ₂ σ₁ ∧ ((items.take i).filterMap f ++ o.toList = (items.take (i + 1)).filterMap f ∧ σ₂ = ⟨capt cl σ.loc, hp'⟩) := by
      rintro o σ₁ ⟨rfl, hl⟩
      exact ⟨_, hl, e.symm, rfl⟩
    unfold CT at t ⊢
    match ifs, t with
    | [], t => exact t.mono fun v σ₁ q => key _ _ q
    | [c], t =>
      refine t.mono fun b σ₁ q => ?_
      cases b
      · simp only [Bool.false_eq_true, if_false] at q ⊢; exact key _ _ q
      · simp only [if_true] at q ⊢; exact Ev.mono q fun v σ₂ q => key _ _ q
    | _ :: _ :: _, t => exact t
  · rintro acc σ₂ ⟨rfl, rfl⟩
    rw [List.take_length]; exact done
end
local macro_rules | `(tactic| tb_rel) => `(tactic| with_reducible (first
  | refine Ev_bytes ?_
  | refine Ev_SubSlice ?_
  | refine EvP_none ?_
  | refine EvP_some ?_
  | (refine mod_ii ?_ ?_; · kas_types)
  | refine M1_n (T := "list") (name := Str.ofString "count") (id := "list.count") PySem.F.slot_list_count PySem.F.plainAttrs_list PySem.F.type_list_count (isListB_of (by kbo_bools)) (by with_unfolding_all rfl) (by with_unfolding_all rfl) ?_))
/-- the script's list, left as it lies -/
def RawL (lo : Obj) (ns : List Int) : Prop := ∃ vs n, lo.cls = .type "list" ∧ lo.data = .seq (vs : List Value).toArray n ∧ IntsAre vs ns
theorem ints_length : ∀ {vs : List Value} {ns : List Int}, IntsAre vs ns → vs.length = ns.length
  | _, _, .nil => rfl
  | _, _, .cons _ _ r => congrArg (· + 1) (ints_length r)
theorem ints_get : ∀ {vs : List Value} {ns : List Int}, IntsAre vs ns → ∀ i (h : i < ns.length), ∃ t, vs[i]? = some (.int ns[i] t)
  | _, _, .cons n t r, 0, _ => ⟨t, rfl⟩
  | _, _, .cons n t r, i + 1, h => by simpa using ints_get r i (by simpa using h)
section
variable {G : GE} {sc : Scope} {C : Act sc} {σ : St}
theorem Rel.rawList {P W : Led} {h : Heap} (R : Rel C P W σ h) {l : Addr} {lo : Obj} {ns : List Int} (e : σ.hp l = some (.raw lo)) (hlo : RawL lo ns) : ∃ vs, h.IsList l vs.toArray ∧ IntsAre vs ns := by
  obtain ⟨ob, hg, r⟩ := R.at e
  cases r
  obtain ⟨vs, n, h1, h2, h3⟩ := hlo
  exact ⟨vs, ⟨_, hg, h1, n, h2⟩, h3⟩
theorem len_raw {l : Addr} {lo : Obj} {ns : List Int} {Q : V → St → Prop} (e : σ.hp l = some (.raw lo)) (hlo : RawL lo ns) (hz : ns.length ≤ 1000000) (h : Q (.int ns.length) σ) : FL G C (fun us => call (.builtin "len") us) [.ref l] σ Q := fun P W s us R hu => by
  refine Reps.eCons hu fun _ _ h1 h2 => ?_
  focus
    (first | refine Rep.eInt h1 fun _ => ?_ | refine Rep.eRef h1 ?_ | refine Reps.eNil h1 ?_ | refine Rep.eStr h1 fun _ => ?_ | refine Rep.eBytes h1 fun _ => ?_ | refine Rep.eBool h1 ?_ | refine Rep.eNone h1 ?_ | refine Rep.eTyp h1 ?_ | refine Rep.eBi h1 ?_ | cases h1); (first | refine Rep.eInt h2 fun _ => ?_ | refine Rep.eRef h2 ?_ | refine Reps.eNil h2 ?_ | refine Rep.eStr h2 fun _ => ?_ | refine Rep.eBytes h2 fun _ => ?_ | refine Rep.eBool h2 ?_ | refine Rep.eNone h2 ?_ | refine Rep.eTyp h2 ?_ | refine Rep.eBi h2 ?_ | cases h2)
    obtain ⟨vs, hl, rs⟩ := R.rawList e hlo
    have := ints_length rs
    exact call_len_list hl (by simp; omega) (Post.here R (by simpa [this] using Rep.int (W := W) (vs.length : Int) _) h)
theorem sub_raw {value slice : Expr} {l : Addr} {k : Int} {lo : Obj} {ns : List Int} {x : Int} {Q : V → St → Prop} (hs : ∀ o i, subscripted slice false o i = operate [o, i] (getItem o i)) (e : σ.hp l = some (.raw lo)) (hlo : RawL lo ns) (h0 : 0 ≤ k) (h1 : k < 2 ^ 63) (hk : k < ns.length) (hx : ns[k.toNat]? = some x) (h : Q (.int x) σ) :
    F2 G C (subscriptTail value slice) (.ref l) (.int k) σ Q := fun P W s u w R hu hw => by
  (first | refine Rep.eInt hu fun _ => ?_ | refine Rep.eRef hu ?_ | refine Reps.eNil hu ?_ | refine Rep.eStr hu fun _ => ?_ | refine Rep.eBytes hu fun _ => ?_ | refine Rep.eBool hu ?_ | refine Rep.eNone hu ?_ | refine Rep.eTyp hu ?_ | refine Rep.eBi hu ?_ | cases hu); (first | refine Rep.eInt hw fun _ => ?_ | refine Rep.eRef hw ?_ | refine Reps.eNil hw ?_ | refine Rep.eStr hw fun _ => ?_ | refine Rep.eBytes hw fun _ => ?_ | refine Rep.eBool hw ?_ | refine Rep.eNone hw ?_ | refine Rep.eTyp hw ?_ | refine Rep.eBi hw ?_ | cases hw)
  obtain ⟨vs, hl, rs⟩ := R.rawList e hlo
  have hk' : k.toNat < ns.length := by omega
  obtain ⟨t, ht⟩ := ints_get rs k.toNat hk'
  rw [List.getElem?_eq_getElem hk'] at hx
  cases hx
  exact tail_any hl.typeIs slot_list_getitem.lookup (wpAny_getItem_list hl h0 h1 (by simpa using ht) (Post.here' R (.int _ _) h)) (hs _ _)
end

def hp0 (sa : Addr) (lo : Obj) (tabs : List (Addr × Addr)) : Hp := fun a => if a = sa then some (.raw lo) else if a ∈ tabs.map (·.2) then some (.raw (tabObj #[])) else none

theorem mem_D {tabs : List (Addr × Addr)} {a : Addr} (h : a ∈ tabs.map (·.2)) : (a, tabObj #[]) ∈ tabNews tabs := by
  obtain ⟨q, hq, rfl⟩ := List.mem_map.mp h
  exact List.mem_map.mpr ⟨q, hq, rfl⟩

def defsOf (p : Program) : List (Str × Arguments × List Stmt × Scope) := p.main.body.filterMap fun st => match st with
  | .FunctionDef n a b _ _ _ sc _ _ _ => some (n, a, b, sc)
  | _ => none
theorem defOf_mem {p : Program} {f : Str} {x : Arguments × List Stmt × Scope} (h : defOf p f = some x) : (f, x) ∈ defsOf p := by
  unfold defOf at h
  obtain ⟨st, hm, e⟩ := List.exists_of_findSome?_eq_some h
  refine List.mem_filterMap.mpr ⟨st, hm, ?_⟩
  split at e
  · split at e
    · rename_i q; cases e; subst q; rfl
    · cases e
  · cases e
theorem defs_in {pg vw : Program} (h : defsOf pg = (recsOf vw).map fun d => (d.name, d.params, d.body, d.scope)) : ∀ f ps bd sc, defOf pg f = some (ps, bd, sc) → ∃ d ∈ recsOf vw, d.name = f ∧ d.params = ps ∧ d.body = bd ∧ d.scope = sc := fun f ps bd sc e => by
  have hm := defOf_mem e
  rw [h] at hm
  obtain ⟨d, hd, e⟩ := List.mem_map.mp hm
  cases e
  exact ⟨d, hd, rfl, rfl, rfl, rfl⟩

set_option maxHeartbeats 4000000 in
theorem law_enter {pg vw : Program} {w : World} {loose : List Str} {mean : ExcName → Option Value} {mg mb : Str → Option Value} {s₁ : Shared} {tabs : List (Addr × Addr)} {fa sa : Addr} {o : Obj} {pm cd doc : Value} {params : Arguments} {body : List Stmt} {scope : Scope} {vs : List Value} {ns : List Int}
    {cw : ClaimW} {cl : Str → Option Addr} {mn : ExcName → Option Value} {args : List WData}
    (T : Top vw loose mean mg mb s₁.heap) (hT : TabsAt tabs s₁.heap) (htn : (tabs.map (·.2)).Nodup)
    (hcode : ∀ f c P, nestTab.lookup f = some (c, P) → (c, P) ∈ tabs ∧ ∀ a o ps bd sc pm cd doc, mg f = some (.ref a) → s₁.heap.get? a = some o → o.data = .func (docDef f ps bd sc pm cd doc) → cd = .ref c)
    (hdefs : ∀ f ps bd sc, defOf pg f = some (ps, bd, sc) → ∃ d ∈ recsOf vw, d.name = f ∧ d.params = ps ∧ d.body = bd ∧ d.scope = sc)
    (hfree : ∀ x ∈ biNames, mg x = none)
    (ho : s₁.heap.get? fa = some o) (hd : o.data = .func (docDef "law" params body scope pm cd doc)) (hcd : s₁.heap.CodeRec cd "law")
    (hL : s₁.heap.IsList sa vs.toArray) (hI : IntsAre vs ns) (hg : s₁.gens = #[])
    (hbind : ∀ us : List Value, us.length = 1 → bindArgs (docDef "law" params body scope pm cd doc) ⟨us, []⟩ = pure ((["script"] : List Str).zip us))
    (hloc : (scope.names.lookup (Str.ofString "script") == some NameKind.local || scope.names.lookup (Str.ofString "script") == some NameKind.cell) = true)
    (hnd : ((cellsFrom 0 scope.names []).map (·.1)).Nodup) (hco : scope.isCoroutine = false) (hgen : scope.isGenerator = false) (hk : scope.kind = .function)
    (hraise : ∀ x, cw.raises args x = false) (hpost : cw.post args (.bool true) args = true)
    (hbody : ∀ (lo : Obj) (C : Act scope), RawL lo ns → (∀ P ∈ tabs.map (·.2), P ≠ sa) → C.Ok ⟨pg, w, mg, mb⟩ → OwnCl C → C.outer = [] → C.A.depth ≤ 310 → C.A.units ≤ 100 →
      Sx ⟨pg, w, mg, mb⟩ C (execs body C.env) ⟨[("script", .ref sa)], hp0 sa lo tabs⟩ (fun fl σ => fl = .ret (.bool true) ∧ σ.hp sa = some (.raw lo) ∧ ∀ q ∈ tabs, ∃ ps, σ.hp q.2 = some (.raw (tabObj ps)))) :
    codeAny (model pg w) callerA (.call (.ref fa) ⟨[.ref sa], []⟩) (fun r s' => GoodW cw cl mn args { s₁ with heap := ghostOf s₁.heap tabs } r s' ∧ GrownAll tabs s'.heap) s₁ := by
  obtain ⟨lo, hlo1, hlo2, nlo, hlo3⟩ := id hL
  have hLg := ghost_list hT hL
  have hlog : (ghostOf s₁.heap tabs).get? sa = some lo := ghost_get hT hlo1 (fun q => by rw [q] at hlo2; cases hlo2)
  have hRaw : RawL lo ns := ⟨vs, nlo, hlo2, hlo3, hI⟩
  obtain ⟨g, hgdef⟩ : ∃ g, g = hideAll (ghostOf s₁.heap tabs) [sa] := ⟨_, rfl⟩
  have gget : ∀ b ob, (ghostOf s₁.heap tabs).get? b = some ob → ob ≠ lo → g.get? b = some ob := fun b ob e ne => by
    rw [hgdef]
    exact hideAll_get _ e fun q => by rw [List.mem_singleton] at q; subst q; rw [hlog] at e; exact ne (Option.some.inj e).symm
  have gof : ∀ b ob, g.get? b = some ob → (ghostOf s₁.heap tabs).get? b = some ob := fun b ob e => by rw [hgdef] at e; exact of_hideAll _ e
  have gsa : g.get? sa = none := by rw [hgdef]; exact hideAll_none _ (.head _)
  have gst : ∀ b ob, g.get? b = some ob → s₁.heap.get? b = some ob := fun b ob e => of_hideAll _ (gof b ob e)
  have gsize : g.objs.size = s₁.heap.objs.size := by rw [hgdef]; exact (hideAll_size _ _).trans (hideAll_size _ _)
  have gget2 : ∀ b ob, s₁.heap.get? b = some ob → ob ≠ tabObj #[] → ob ≠ lo → g.get? b = some ob := fun b ob e n1 n2 => gget b ob (ghost_get hT e n1) n2
  have gns : ∀ {a : Addr} {mm : Str → Option Value}, s₁.heap.Ns a mm → g.Ns a mm := fun {a mm} x =>
    let ⟨ob, es, ep, e, hd, r⟩ := x; ⟨ob, es, ep, gget2 a ob e (fun q => by rw [q] at hd; cases hd) (fun q => by rw [q, hlo3] at hd; cases hd), hd, r⟩
  have grec : ∀ {cd : Value} {q : Str}, (∃ c P, cd = .ref c ∧ CodeHd s₁.heap c P) ∨ True → s₁.heap.CodeRec cd q → g.CodeRec cd q := fun {cd q} _ x => by
    obtain ⟨c, ob, us, t, e, h1, h2, h3⟩ := x
    refine ⟨c, ob, us, t, e, gget2 c ob h1 (fun q => ?_) (fun q => by rw [q, hlo3] at h2; (first | refine Rep.eInt h2 fun _ => ?_ | refine Rep.eRef h2 ?_ | refine Reps.eNil h2 ?_ | refine Rep.eStr h2 fun _ => ?_ | refine Rep.eBytes h2 fun _ => ?_ | refine Rep.eBool h2 ?_ | refine Rep.eNone h2 ?_ | refine Rep.eTyp h2 ?_ | refine Rep.eBi h2 ?_ | cases h2)), h2, h3⟩
    rw [q] at h2
    (first | refine Rep.eInt h2 fun _ => ?_ | refine Rep.eRef h2 ?_ | refine Reps.eNil h2 ?_ | refine Rep.eStr h2 fun _ => ?_ | refine Rep.eBytes h2 fun _ => ?_ | refine Rep.eBool h2 ?_ | refine Rep.eNone h2 ?_ | refine Rep.eTyp h2 ?_ | refine Rep.eBi h2 ?_ | cases h2)
    simp at h3
  have ghd : ∀ q ∈ tabs, CodeHd g q.1 q.2 := fun q hq => by
    obtain ⟨ob, us, file, tf, flags, tg, inF, text, tt, e1, r1, r2, r3, r4, r5, r6, r7, r8, hne⟩ := (hT q hq).1
    exact ⟨ob, us, file, tf, flags, tg, inF, text, tt, gget2 _ ob e1 (fun q => by rw [q] at r1; cases r1) (fun q => by rw [q, hlo3] at r2; cases r2), r1, r2, r3, r4, r5, r6, r7, r8, hne⟩
  have gtop0 := ghost_top hT T
  have gtop : Top topProg (loose ++ (recsOf vw).map (·.name) ++ (litsOf vw).map (·.1) ++ (clssOf vw loose).map (·.name)) mean mg mb g :=
    { g := gns T.g
      b := gns T.b
      nolimit := let ⟨mc, a, r⟩ := T.nolimit; ⟨mc, gns a, r⟩
      nodigits := let ⟨mc, a, r⟩ := T.nodigits; ⟨mc, gns a, r⟩
      fn := fun d hd => absurd (show d ∈ ([] : List DefRec) from hd) List.not_mem_nil
      own := fun o ho => absurd (show o ∈ ([] : List OwnSpec) from ho) List.not_mem_nil
      const := gtop0.const
      free := gtop0.free
      builtins := T.builtins
      tab := fun d hd => absurd (show d ∈ ([] : List DefRec) from hd) List.not_mem_nil
      bmain := let ⟨bm, ob, a1, a2, a3, a4, a5, r⟩ := T.bmain; ⟨bm, ob, a1, a2, gget2 _ _ a3 (fun q => by rw [q] at a4; cases a4) (fun q => by rw [q, hlo2] at a4; exact absurd (Value.type.inj a4) (by decide)), a4, a5, r⟩
      seer := fun e => absurd (show false = true from e) Bool.false_ne_true }
  have gfn : ∀ f ps bd sc, defOf pg f = some (ps, bd, sc) → ∃ a o pm cd doc, mg f = some (.ref a) ∧ s₁.heap.get? a = some o ∧ g.get? a = some o ∧ o.data = .func (docDef f ps bd sc pm cd doc) ∧ g.CodeRec cd f := fun f ps bd sc hf => by
    obtain ⟨d, hd, rfl, rfl, rfl, rfl⟩ := hdefs f ps bd sc hf
    obtain ⟨a, o, pm, cd, doc, h1, h2, h3, h4⟩ := T.fn d hd
    exact ⟨a, o, pm, cd, doc, h1, h2, gget2 a o h2 (fun q => by rw [q] at h3; (first | refine Rep.eInt h3 fun _ => ?_ | refine Rep.eRef h3 ?_ | refine Reps.eNil h3 ?_ | refine Rep.eStr h3 fun _ => ?_ | refine Rep.eBytes h3 fun _ => ?_ | refine Rep.eBool h3 ?_ | refine Rep.eNone h3 ?_ | refine Rep.eTyp h3 ?_ | refine Rep.eBi h3 ?_ | cases h3)) (fun q => by rw [q, hlo3] at h3; (first | refine Rep.eInt h3 fun _ => ?_ | refine Rep.eRef h3 ?_ | refine Reps.eNil h3 ?_ | refine Rep.eStr h3 fun _ => ?_ | refine Rep.eBytes h3 fun _ => ?_ | refine Rep.eBool h3 ?_ | refine Rep.eNone h3 ?_ | refine Rep.eTyp h3 ?_ | refine Rep.eBi h3 ?_ | cases h3)), h3, grec (.inr trivial) h4⟩
  have gok : TopOk ⟨pg, w, mg, mb⟩ g :=
    { nest := fun f ps bd sc c P hn hf => by
        obtain ⟨hm, hc⟩ := hcode f c P hn
        obtain ⟨a, o, pm, cd, doc, h1, h2, h3, h4, h5⟩ := gfn f ps bd sc hf
        obtain rfl := hc a o ps bd sc pm cd doc h1 h2 h4
        exact ⟨ghd _ hm, a, o, pm, doc, h1, h3, h4, h5⟩
      lib := ⟨_, _, _, gtop⟩
      g := gns T.g
      b := gns T.b
      nolimit := let ⟨mc, a, r⟩ := T.nolimit; ⟨mc, gns a, r⟩
      builtins := T.builtins
      fn := fun f ps bd sc hf => let ⟨a, o, pm, cd, doc, h1, _, h3, h4, h5⟩ := gfn f ps bd sc hf; ⟨a, o, pm, cd, doc, h1, h3, h4, h5⟩
      free := hfree }
  obtain ⟨L, hLdef⟩ : ∃ L, L = s₁.heap.objs.size := ⟨_, rfl⟩
  refine call_cellsN (by decide) ho hd T.nolimit hcd (hbind [.ref sa] rfl) (kindsX (binds := ([Str.ofString "script"] : List Str).zip [Value.ref sa]) (scope := scope) (List.all_eq_true.mpr fun x hx => by rw [List.zip_cons_cons, List.zip_nil_left, List.mem_singleton] at hx; subst hx; exact hloc) _) hnd (fun h₁ tk cells F N Y => ?_) hco hgen hk
  rw [← hLdef] at F N Y ⊢
  let C : Act scope := ⟨callerA.deeper (envOfC "law" scope L fa cd), g, g, [], envOfC "law" scope L fa cd, L, L, ("law" : Str) ++ ".<locals>.", some fa, cd, cellsFrom (L + 1) scope.names [], [], none⟩
  have O : C.Ok ⟨pg, w, mg, mb⟩ := ⟨Around.frames_deeper rfl, rfl, hk, hk, ⟨_, below_caller g⟩, rfl, gok, by show callerA.depth + 1 ≤ 600; decide, by show callerA.units + 3 ≤ 6000; decide⟩
  obtain ⟨cnd, clo⟩ := cellsFrom_lt scope.names (L + 1) [] (by simp) (by simp) (L + 1) (Nat.le_refl _) (by simp)
  have key : ∀ p ∈ cells, L + 1 ≤ p.1 := fun p hp => by
    have : p.1 ∈ cells.map (·.1) := List.mem_map_of_mem hp
    rw [CellsAre.keys Y] at this
    obtain ⟨q, hq, e⟩ := List.mem_map.mp this
    rw [← e]; exact clo q hq
  have hsaL : sa < L := by rw [hLdef]; exact Heap.lt_size hlo1
  have hPL : ∀ P ∈ tabs.map (·.2), P < L := fun P hP => by
    obtain ⟨q, hq, rfl⟩ := List.mem_map.mp hP
    rw [hLdef]; exact Heap.lt_size (hT q hq).2
  have hsaP : ∀ P ∈ tabs.map (·.2), P ≠ sa := fun P hP e => by
    obtain ⟨q, hq, rfl⟩ := List.mem_map.mp hP
    have := (hT q hq).2
    rw [e, hlo1] at this
    cases this; cases hlo2
  have mapD : (tabNews tabs).map (·.1) = tabs.map (·.2) := by simp [tabNews]
  have hDlt : ∀ p ∈ (sa, lo) :: tabNews tabs, p.1 < L := fun p hp => by
    rcases List.mem_cons.mp hp with rfl | hp
    · exact hsaL
    · exact hPL _ (by rw [← mapD]; exact List.mem_map_of_mem hp)
  have F' : Fr g L h₁ (bindL (envOfC "law" scope L fa cd).kindOf ((["script"] : List Str).zip [Value.ref sa]) fun _ => none) :=
    ⟨F.ns, fun b ob e => F.keep b ob (gst b ob e), by rw [gsize]; exact F.above⟩
  have R' : Rel C [] [] ⟨[("script", .ref sa)], hp0 sa lo tabs⟩ h₁ := by
    refine ⟨_, _, (sa, lo) :: tabNews tabs, cells, { F := F', ns := F'.ns, N := fun p hp => ?_, nd := ?_, ap := fun p hp q hq => (nomatch hq), pw := fun p hp => (nomatch hp), pnd := List.nodup_nil, kw := fun _ h => (nomatch h), isc := CellsAre.isc Y, fix := fun _ h => (nomatch h), left := fun _ => rfl, own := .inl rfl, cells := fun x c e hc => ?_, inj := fun x y c _ _ ex ey => ?_, loc := fun x v e => ⟨fun k => ?_, fun k => ?_⟩, hp := fun a ob e => ?_ }⟩
    · rw [List.append_nil, List.append_nil] at hp
      rcases List.mem_append.mp hp with hp | hp
      · refine ⟨?_, Nat.ne_of_lt (hDlt p hp), ?_⟩
        · rcases List.mem_cons.mp hp with rfl | hp
          · exact F.keep _ _ hlo1
          · obtain ⟨q, hq, rfl⟩ := List.mem_map.mp hp
            exact F.keep _ _ (hT q hq).2
        · rcases List.mem_cons.mp hp with rfl | hp
          · exact gsa
          · cases q : g.get? p.1 with
            | none => rfl
            | some ob =>
              have := gof _ _ q
              rw [show (ghostOf s₁.heap tabs).get? p.1 = none from hideAll_none _ (by rw [← mapD]; exact List.mem_map_of_mem hp)] at this
              cases this
      · refine ⟨(N p hp).1, (N p hp).2.1, ?_⟩
        cases q : g.get? p.1 with
        | none => rfl
        | some ob =>
          have := gst _ _ q
          rw [(N p hp).2.2] at this; cases this
    · rw [List.map_append, List.nodup_append]
      refine ⟨?_, by rw [CellsAre.keys Y]; exact cnd, fun a ha b hb => ?_⟩
      · rw [List.map_cons, List.nodup_cons, mapD]
        exact ⟨fun h => hsaP _ h rfl, htn⟩
      · obtain ⟨p, hp, rfl⟩ := List.mem_map.mp ha
        obtain ⟨q, hq, rfl⟩ := List.mem_map.mp hb
        have h1 : @LT.lt Nat _ p.1 L := hDlt p hp
        have h2 : @LE.le Nat _ (L + 1) q.1 := key q hq
        exact Nat.ne_of_lt (by omega)
    · obtain ⟨ob, hm, hd⟩ := CellsAre.get Y x c (mem_of_lookup' hc)
      exact ⟨ob, _, hm, hd⟩
    · have hx := mem_of_lookup' ex
      have hy := mem_of_lookup' ey
      by_cases q : x = y
      · exact q
      · exfalso
        have inj : ∀ (l : List (Str × Addr)), (l.map (·.2)).Nodup → (x, c) ∈ l → (y, c) ∈ l → False := by
          intro l
          induction l with
          | nil => intro _ h; cases h
          | cons p l ih =>
            intro nd h1 h2
            rw [List.map_cons, List.nodup_cons] at nd
            rcases List.mem_cons.mp h1 with h1 | h1
            · rcases List.mem_cons.mp h2 with h2 | h2
              · rw [← h1] at h2; exact q (congrArg Prod.fst h2).symm
              · exact nd.1 (List.mem_map.mpr ⟨_, h2, by rw [← h1]⟩)
            · rcases List.mem_cons.mp h2 with h2 | h2
              · exact nd.1 (List.mem_map.mpr ⟨_, h1, by rw [← h2]⟩)
              · exact ih nd.2 h1 h2
        exact inj _ cnd hx hy
    · exact ((zip_bindL (kindOf := C.env.kindOf) (W := []) (xs := [V.ref sa]) (us := [Value.ref sa]) (names := ["script"]) (.cons (.ref sa) .nil) (by decide) (fun _ => none) (fun _ => none) x).2 v e).1 k
    · obtain ⟨u, hu, r⟩ := ((zip_bindL (kindOf := C.env.kindOf) (W := []) (xs := [V.ref sa]) (us := [Value.ref sa]) (names := ["script"]) (.cons (.ref sa) .nil) (by decide) (fun _ => none) (fun _ => none) x).2 v e).2 (by show scope.names.lookup x ≠ _; rw [k]; simp)
      have hsome := cellsFrom_some (x := x) scope.names (L + 1) [] (.inl k)
      obtain ⟨c, hc⟩ := Option.isSome_iff_exists.mp hsome
      obtain ⟨ob, hm, hd⟩ := CellsAre.get Y x c (mem_of_lookup' hc)
      exact ⟨c, ob, u, hc, hm, hd.trans (congrArg _ hu), r⟩
    · dsimp only [hp0] at e
      split at e
      · rename_i q; cases e; subst q; exact ⟨lo, .head _, rfl⟩
      · split at e
        · rename_i q; cases e; exact ⟨_, .tail _ (mem_D q), rfl⟩
        · cases e
  refine wpAny_mono (hbody lo C hRaw hsaP O ⟨⟨rfl, rfl⟩, L, rfl⟩ rfl (by show callerA.depth + 1 ≤ 310; decide) (by show callerA.units + 3 ≤ 100; decide) [] [] { s₁ with heap := h₁, toks := tk } R') (fun f s' H => ?_) (fun _ _ x => x.elim)
  obtain ⟨fl, σ', W', h', tk', rfl, _, rf, R2, hfl, hsa, htabs⟩ := H
  subst hfl
  cases f with
  | ret u =>
    have rf : Rep W' (.bool true) u := rf
    cases rf
    have hgr : ∀ q ∈ tabs, ∃ ps, h'.get? q.2 = some (tabObj ps) := fun q hq => by
      obtain ⟨ps, hps⟩ := htabs q hq
      obtain ⟨ob, e1, e2⟩ := R2.at hps
      cases e2
      exact ⟨ps, e1⟩
    have hsa' : h'.get? sa = some lo := by
      obtain ⟨ob, e1, e2⟩ := R2.at hsa
      cases e2
      exact e1
    refine ⟨⟨.inl ⟨.bool true, .bool true, [], rfl, hraise, .bool true, hpost, fun _ => ⟨List.nodup_nil, fun _ h => nomatch h⟩⟩, fun b ob e => ?_, rfl, hg⟩, ?_⟩
    · by_cases q : b = sa
      · subst q
        rw [show (ghostOf s₁.heap tabs).get? b = some lo from hlog] at e
        cases e
        exact hsa'
      · exact R2.keep b ob (by show g.get? b = some ob; rw [hgdef]; exact hideAll_get _ e fun q2 => q (List.mem_singleton.mp q2))
    · suffices ∀ ts : List (Addr × Addr), (∀ q ∈ ts, ∃ ps, h'.get? q.2 = some (tabObj ps)) → GrownAll ts h' from this tabs hgr
      intro ts
      induction ts with
      | nil => intro _; trivial
      | cons q r ih => intro k; exact ⟨k q (.head _), ih fun q hq => k q (.tail _ hq)⟩
  | next => exact rf.elim
  | brk => exact rf.elim
  | cont => exact rf.elim
section
variable {G : GE} {sc : Scope} {C : Act sc} {σ : St}
/-- `l[::-1]` -/
def F4S (G : GE) {sc : Scope} (C : Act sc) (value slice : Expr) (o l u st : V) (σ : St) (Q : V → St → Prop) : Prop :=
  ∀ P W (s : Shared) uo ul uu us, Rel C P W σ s.heap → Rep W o uo → Rep W l ul → Rep W u uu → Rep W st us →
    wpAny (model G.prog G.w) C.A (subscriptTail value slice uo (.ref s.heap.objs.size)) (Post C P W s Q) NoE { s with heap := s.heap.push { cls := .type "slice", data := .fields #[ul, uu, us] } }
theorem max_ii (O : C.Ok G) {a b : Int} {Q : V → St → Prop} (h : Q (.int (if b > a then b else a)) σ) : FL G C (fun us => call (.builtin "max") us) [.int a, .int b] σ Q := fun P W s us R hu => by
  refine Reps.eCons hu fun _ _ h1 h2 => ?_
  focus
    (first | refine Rep.eInt h1 fun _ => ?_ | refine Rep.eRef h1 ?_ | refine Reps.eNil h1 ?_ | refine Rep.eStr h1 fun _ => ?_ | refine Rep.eBytes h1 fun _ => ?_ | refine Rep.eBool h1 ?_ | refine Rep.eNone h1 ?_ | refine Rep.eTyp h1 ?_ | refine Rep.eBi h1 ?_ | cases h1)
    refine Reps.eCons h2 fun _ _ h2 h3 => ?_
    focus
      (first | refine Rep.eInt h2 fun _ => ?_ | refine Rep.eRef h2 ?_ | refine Reps.eNil h2 ?_ | refine Rep.eStr h2 fun _ => ?_ | refine Rep.eBytes h2 fun _ => ?_ | refine Rep.eBool h2 ?_ | refine Rep.eNone h2 ?_ | refine Rep.eTyp h2 ?_ | refine Rep.eBi h2 ?_ | cases h2); (first | refine Rep.eInt h3 fun _ => ?_ | refine Rep.eRef h3 ?_ | refine Reps.eNil h3 ?_ | refine Rep.eStr h3 fun _ => ?_ | refine Rep.eBytes h3 fun _ => ?_ | refine Rep.eBool h3 ?_ | refine Rep.eNone h3 ?_ | refine Rep.eTyp h3 ?_ | refine Rep.eBi h3 ?_ | cases h3)
      obtain ⟨mf, news, F, N, lt, back, _⟩ := R.viaNews
      exact max_two_N O.handled F N fun h' tk F' N' => ⟨.int _, σ, W, h', tk, rfl, fun _ h => h, .int _ _, back h' F' N', h⟩
end
local macro_rules | `(tactic| tb_rel) => `(tactic| with_reducible (first
  | refine Ev_SubSlice3 ?_))
/-! ## borders -/
/-- the first n of xs end as they begin, k long -/
def Bord (xs : List Int) (n k : Nat) : Prop := k < n ∧ n ≤ xs.length ∧ ∀ j, j < k → xs[j]? = xs[n - k + j]?
theorem Bord.zero {xs : List Int} {n : Nat} (h0 : 0 < n) (h : n ≤ xs.length) : Bord xs n 0 := ⟨h0, h, fun _ hj => absurd hj (Nat.not_lt_zero _)⟩
theorem Bord.pred {xs : List Int} {n k : Nat} (h : Bord xs (n + 1) (k + 1)) : Bord xs n k ∧ xs[k]? = xs[n]? := by
  obtain ⟨h1, h2, h3⟩ := h
  refine ⟨⟨by omega, by omega, fun j hj => ?_⟩, ?_⟩
  · have := h3 j (by omega)
    rw [show n + 1 - (k + 1) + j = n - k + j by omega] at this
    exact this
  · have := h3 k (by omega)
    rw [show n + 1 - (k + 1) + k = n by omega] at this
    exact this
theorem Bord.succ {xs : List Int} {n k : Nat} (h : Bord xs n k) (hn : n < xs.length) (e : xs[k]? = xs[n]?) : Bord xs (n + 1) (k + 1) := by
  obtain ⟨h1, h2, h3⟩ := h
  refine ⟨by omega, hn, fun j hj => ?_⟩
  by_cases q : j = k
  · subst q; rw [show n + 1 - (j + 1) + j = n by omega]; exact e
  · rw [show n + 1 - (k + 1) + j = n - k + j by omega]; exact h3 j (by omega)
/-- of two borders the shorter is the longer's -/
theorem Bord.of_lt {xs : List Int} {n k l : Nat} (h : Bord xs n k) (h' : Bord xs n l) (hl : l < k) : Bord xs k l := by
  obtain ⟨h1, h2, h3⟩ := h
  obtain ⟨g1, g2, g3⟩ := h'
  refine ⟨hl, by omega, fun j hj => ?_⟩
  rw [g3 j hj, h3 (k - l + j) (by omega)]
  congr 1; omega
theorem Bord.trans {xs : List Int} {n k l : Nat} (h : Bord xs n k) (h' : Bord xs k l) : Bord xs n l := by
  obtain ⟨h1, h2, h3⟩ := h
  obtain ⟨g1, g2, g3⟩ := h'
  refine ⟨by omega, h2, fun j hj => ?_⟩
  rw [g3 j hj, h3 (k - l + j) (by omega)]
  congr 1; omega

open Classical in
/-- the longest border: the overlap table's entry at n - 1 -/
noncomputable def maxB (xs : List Int) (n : Nat) : Nat := ((List.range n).reverse.find? fun k => decide (Bord xs n k)).getD 0
theorem find_rev_range (p : Nat → Bool) : ∀ n, (∃ k, k < n ∧ p k = true) → ∃ k, (List.range n).reverse.find? p = some k ∧ k < n ∧ p k = true ∧ ∀ l, l < n → p l = true → l ≤ k := by
  intro n
  induction n with
  | zero => rintro ⟨k, h, _⟩; omega
  | succ n ih =>
    rintro ⟨k, hk, hp⟩
    rw [List.range_succ, List.reverse_append, List.reverse_singleton, List.singleton_append, List.find?_cons]
    cases q : p n with
    | true => exact ⟨n, rfl, by omega, q, fun l hl _ => by omega⟩
    | false =>
      have : k < n := by
        rcases Nat.lt_or_ge k n with h | h
        · exact h
        · have : k = n := by omega
          rw [this, q] at hp; cases hp
      obtain ⟨k', e, h1, h2, h3⟩ := ih ⟨k, this, hp⟩
      refine ⟨k', e, by omega, h2, fun l hl hp' => ?_⟩
      rcases Nat.lt_or_ge l n with h | h
      · exact h3 l h hp'
      · have : l = n := by omega
        rw [this, q] at hp'; cases hp'
open Classical in
theorem maxB_spec {xs : List Int} {n : Nat} (h0 : 0 < n) (h : n ≤ xs.length) : Bord xs n (maxB xs n) ∧ ∀ k, Bord xs n k → k ≤ maxB xs n := by
  obtain ⟨k, e, h1, h2, h3⟩ := find_rev_range (fun k => decide (Bord xs n k)) n ⟨0, h0, decide_eq_true (Bord.zero h0 h)⟩
  unfold maxB
  rw [e]
  exact ⟨of_decide_eq_true h2, fun l hl => h3 l hl.1 (decide_eq_true hl)⟩
theorem maxB_eq {xs : List Int} {n k : Nat} (h : Bord xs n k) (hm : ∀ l, Bord xs n l → l ≤ k) : maxB xs n = k := by
  have s := maxB_spec (Nat.lt_of_le_of_lt (Nat.zero_le _) h.1) h.2.1
  exact Nat.le_antisymm (hm _ s.1) (s.2 _ h)
open Classical in
theorem maxB_one (xs : List Int) : maxB xs 1 = 0 := by
  unfold maxB
  by_cases h : Bord xs 1 0
  · simp [List.range_succ, h]
  · simp [List.range_succ, h]

/-- the table after m entries -/
noncomputable def tabV (xs : List Int) (m : Nat) : List V := (List.range xs.length).map fun j => if j < m then V.int (maxB xs (j + 1)) else V.int 0
theorem tabV_length (xs : List Int) (m : Nat) : (tabV xs m).length = xs.length := by simp [tabV]
theorem tabV_get {xs : List Int} {m j : Nat} (h : j < xs.length) (hj : j < m) : (tabV xs m)[j]? = some (V.int (maxB xs (j + 1))) := by
  simp [tabV, h, hj]
theorem tabV_set {xs : List Int} {m : Nat} : (tabV xs m).set m (V.int (maxB xs (m + 1))) = tabV xs (m + 1) := by
  apply List.ext_getElem?
  intro j
  rw [List.getElem?_set, tabV_length]
  by_cases hj : j < xs.length
  · by_cases q : m = j
    · subst q; simp [tabV, hj]
    · simp only [q, if_false, tabV]
      rw [List.getElem?_map, List.getElem?_map, List.getElem?_range hj]
      simp only [Option.map_some]
      by_cases h1 : j < m
      · simp [h1, Nat.lt_succ_of_lt h1]
      · have : ¬ j < m + 1 := by omega
        simp [h1, this]
  · have h1 : (tabV xs m)[j]? = none := List.getElem?_eq_none (by rw [tabV_length]; omega)
    have h2 : (tabV xs (m + 1))[j]? = none := List.getElem?_eq_none (by rw [tabV_length]; omega)
    rw [h1, h2]
    split <;> simp_all
theorem tabV_start (xs : List Int) : List.replicate xs.length (V.int 0) = tabV xs 0 := by
  apply List.ext_getElem?
  intro j
  unfold tabV
  rw [List.getElem?_map]
  by_cases h : j < xs.length
  · rw [List.getElem?_range h]; simp [h]
  · rw [List.getElem?_eq_none (by simpa using h), List.getElem?_eq_none (by simpa using h)]; rfl
theorem tabV_one (xs : List Int) : tabV xs 0 = tabV xs 1 := by
  unfold tabV
  refine List.map_congr_left fun j _ => ?_
  by_cases h : j = 0
  · subst h; simp [maxB_one]
  · have : ¬ j < 1 := by omega
    simp [this]
/-! ## polynomials in p, q, X: sums of monomials of one weight -/
abbrev Mn := Int × Nat × Nat
def mev (j : Nat) (p q X : Int) (m : Mn) : Int := m.1 * (p ^ (j - 2 * m.2.1) * q ^ m.2.1 * X ^ m.2.2)
def ev (j : Nat) (p q X : Int) : List Mn → Int
  | [] => 0
  | m :: L => mev j p q X m + ev j p q X L
def nrm : List Mn → Nat
  | [] => 0
  | m :: L => m.1.natAbs + nrm L
theorem ev_append (j : Nat) (p q X : Int) : ∀ L L' : List Mn, ev j p q X (L ++ L') = ev j p q X L + ev j p q X L'
  | [], L' => by rw [List.nil_append, ev, Int.zero_add]
  | m :: L, L' => by rw [List.cons_append, ev, ev, ev_append j p q X L L', Int.add_assoc]
theorem nrm_append : ∀ L L' : List Mn, nrm (L ++ L') = nrm L + nrm L'
  | [], L' => by rw [List.nil_append, nrm, Nat.zero_add]
  | m :: L, L' => by rw [List.cons_append, nrm, nrm, nrm_append L L', Nat.add_assoc]
def mmul (m m' : Mn) : Mn := (m.1 * m'.1, m.2.1 + m'.2.1, m.2.2 + m'.2.2)
theorem mev_mul {j j' : Nat} {p q X : Int} {m m' : Mn} (h : 2 * m.2.1 ≤ j) (h' : 2 * m'.2.1 ≤ j') : mev (j + j') p q X (mmul m m') = mev j p q X m * mev j' p q X m' := by
  unfold mev mmul
  have e : j + j' - 2 * (m.2.1 + m'.2.1) = (j - 2 * m.2.1) + (j' - 2 * m'.2.1) := by omega
  simp only [e, Int.pow_add]
  simp only [Int.mul_assoc, Int.mul_left_comm, Int.mul_comm]
def lmul1 (m : Mn) (L : List Mn) : List Mn := L.map (mmul m)
theorem ev_lmul1 {j j' : Nat} {p q X : Int} {m : Mn} (h : 2 * m.2.1 ≤ j) : ∀ {L : List Mn}, (∀ x ∈ L, 2 * x.2.1 ≤ j') → ev (j + j') p q X (lmul1 m L) = mev j p q X m * ev j' p q X L
  | [], _ => by show 0 = _ * 0; rw [Int.mul_zero]
  | x :: L, hL => by
    show mev (j + j') p q X (mmul m x) + ev (j + j') p q X (lmul1 m L) = mev j p q X m * (mev j' p q X x + ev j' p q X L)
    rw [mev_mul h (hL x (.head _)), ev_lmul1 h fun y hy => hL y (.tail _ hy), Int.mul_add]
theorem nrm_lmul1 (m : Mn) : ∀ L : List Mn, nrm (lmul1 m L) = m.1.natAbs * nrm L
  | [] => rfl
  | x :: L => by
    show (m.1 * x.1).natAbs + nrm (lmul1 m L) = m.1.natAbs * (x.1.natAbs + nrm L)
    rw [nrm_lmul1 m L, Int.natAbs_mul, Nat.mul_add]
def lmul : List Mn → List Mn → List Mn
  | [], _ => []
  | m :: L, L' => lmul1 m L' ++ lmul L L'
theorem ev_lmul {j j' : Nat} {p q X : Int} {L' : List Mn} (h' : ∀ x ∈ L', 2 * x.2.1 ≤ j') : ∀ {L : List Mn}, (∀ x ∈ L, 2 * x.2.1 ≤ j) → ev (j + j') p q X (lmul L L') = ev j p q X L * ev j' p q X L'
  | [], _ => by show 0 = 0 * _; rw [Int.zero_mul]
  | m :: L, hL => by
    rw [lmul, ev_append, ev_lmul1 (hL m (.head _)) h', ev_lmul h' fun y hy => hL y (.tail _ hy), ev, Int.add_mul]
theorem nrm_lmul (L' : List Mn) : ∀ L : List Mn, nrm (lmul L L') = nrm L * nrm L'
  | [] => by rw [lmul, nrm, Nat.zero_mul]
  | m :: L => by rw [lmul, nrm_append, nrm_lmul1, nrm_lmul L' L, nrm, Nat.add_mul]
theorem mem_lmul {L' : List Mn} {x : Mn} : ∀ {L : List Mn}, x ∈ lmul L L' → ∃ a ∈ L, ∃ b ∈ L', x = mmul a b
  | [], h => nomatch h
  | m :: L, h => by
    rcases List.mem_append.mp h with h | h
    · obtain ⟨b, hb, rfl⟩ := List.mem_map.mp h
      exact ⟨m, .head _, b, hb, rfl⟩
    · obtain ⟨a, ha, b, hb, e⟩ := mem_lmul h
      exact ⟨a, .tail _ ha, b, hb, e⟩

/-- f is a polynomial of weight j, in X of degree d at most, its coefficients' sizes together B at most -/
def IsP (j d B : Nat) (f : Int → Int → Int → Int) : Prop := ∃ L : List Mn, (∀ m ∈ L, 2 * m.2.1 ≤ j ∧ m.2.2 ≤ d) ∧ nrm L ≤ B ∧ ∀ p q X, f p q X = ev j p q X L
theorem IsP.mono {j d d' B B' : Nat} {f : Int → Int → Int → Int} (h : IsP j d B f) (hd : d ≤ d') (hB : B ≤ B') : IsP j d' B' f := by
  obtain ⟨L, h1, h2, h3⟩ := h
  exact ⟨L, fun m hm => ⟨(h1 m hm).1, Nat.le_trans (h1 m hm).2 hd⟩, Nat.le_trans h2 hB, h3⟩
theorem IsP.congr {j d B : Nat} {f g : Int → Int → Int → Int} (h : IsP j d B f) (e : ∀ p q X, g p q X = f p q X) : IsP j d B g := by
  obtain ⟨L, h1, h2, h3⟩ := h
  exact ⟨L, h1, h2, fun p q X => (e p q X).trans (h3 p q X)⟩
theorem IsP.zero (j d : Nat) : IsP j d 0 fun _ _ _ => 0 := ⟨[], (fun _ h => nomatch h), Nat.le_refl _, fun _ _ _ => rfl⟩
theorem IsP.one1 {j b k : Nat} (c : Int) (hb : 2 * b ≤ j) : IsP j k c.natAbs fun p q X => c * (p ^ (j - 2 * b) * q ^ b * X ^ k) :=
  ⟨[(c, b, k)], fun m hm => by rw [List.mem_singleton] at hm; subst hm; exact ⟨hb, Nat.le_refl _⟩, Nat.le_refl _, fun p q X => by show _ = mev j p q X (c, b, k) + 0; rw [Int.add_zero]; rfl⟩
theorem IsP.add {j d B B' : Nat} {f g : Int → Int → Int → Int} (h : IsP j d B f) (h' : IsP j d B' g) : IsP j d (B + B') fun p q X => f p q X + g p q X := by
  obtain ⟨L, h1, h2, h3⟩ := h
  obtain ⟨L', g1, g2, g3⟩ := h'
  refine ⟨L ++ L', fun m hm => (List.mem_append.mp hm).elim (h1 m) (g1 m), by rw [nrm_append]; exact Nat.add_le_add h2 g2, fun p q X => ?_⟩
  rw [ev_append, ← h3, ← g3]
theorem IsP.mul {j j' d d' B B' : Nat} {f g : Int → Int → Int → Int} (h : IsP j d B f) (h' : IsP j' d' B' g) : IsP (j + j') (d + d') (B * B') fun p q X => f p q X * g p q X := by
  obtain ⟨L, h1, h2, h3⟩ := h
  obtain ⟨L', g1, g2, g3⟩ := h'
  refine ⟨lmul L L', fun m hm => ?_, by rw [nrm_lmul]; exact Nat.mul_le_mul h2 g2, fun p q X => ?_⟩
  · obtain ⟨a, ha, b, hb, rfl⟩ := mem_lmul hm
    have := h1 a ha
    have := g1 b hb
    unfold mmul
    constructor <;> (dsimp only; omega)
  · rw [ev_lmul (fun x hx => (g1 x hx).1) (fun x hx => (h1 x hx).1), ← h3, ← g3]
theorem IsP.const (c : Int) : IsP 0 0 c.natAbs fun _ _ _ => c := (IsP.one1 (j := 0) (b := 0) (k := 0) c (Nat.le_refl _)).congr fun p q X => by simp
theorem IsP.smul {j d B : Nat} {f : Int → Int → Int → Int} (c : Int) (h : IsP j d B f) : IsP j d (c.natAbs * B) fun p q X => c * f p q X := by
  have := (IsP.const c).mul h
  rwa [Nat.zero_add, Nat.zero_add] at this
theorem IsP.sub {j d B B' : Nat} {f g : Int → Int → Int → Int} (h : IsP j d B f) (h' : IsP j d B' g) : IsP j d (B + B') fun p q X => f p q X - g p q X := by
  have a := h.add (h'.smul (-1))
  rw [show (-1 : Int).natAbs * B' = B' by simp] at a
  exact a.congr fun p q X => by omega
theorem IsP.p : IsP 1 0 1 fun p _ _ => p := (IsP.one1 (j := 1) (b := 0) (k := 0) 1 (Nat.zero_le _)).congr fun p q X => by simp [Int.pow_succ]
theorem IsP.q : IsP 2 0 1 fun _ q _ => q := (IsP.one1 (j := 2) (b := 1) (k := 0) 1 (Nat.le_refl _)).congr fun p q X => by simp [Int.pow_succ]
theorem IsP.Xpow (k : Nat) : IsP 0 k 1 fun _ _ X => X ^ k := (IsP.one1 (j := 0) (b := 0) (k := k) 1 (Nat.le_refl _)).congr fun p q X => by simp
theorem IsP.oneSubX : IsP 0 1 2 fun _ _ X => 1 - X := by
  have := (IsP.mono (IsP.const 1) (d' := 1) (B' := 1) (Nat.zero_le _) (Nat.le_refl _)).sub (IsP.Xpow 1)
  exact this.congr fun p q X => by rw [Int.pow_succ, Int.pow_zero, Int.one_mul]
theorem IsP.sum {α : Type} {j d B : Nat} (f : α → Int → Int → Int → Int) : ∀ l : List α, (∀ x ∈ l, IsP j d B (f x)) → IsP j d (l.length * B) fun p q X => (l.map fun x => f x p q X).sum
  | [], _ => by rw [List.length_nil, Nat.zero_mul]; exact IsP.zero j d
  | x :: l, h => by
    have a := (h x (.head _)).add (IsP.sum f l fun y hy => h y (.tail _ hy))
    refine (a.mono (Nat.le_refl _) (by rw [List.length_cons, Nat.succ_mul]; omega)).congr fun p q X => ?_
    rw [List.map_cons, List.sum_cons]

/-! ## one look at a far point tells that a polynomial is nought -/
def kz (g : Nat → Int) : List (Int × Nat) → Int
  | [] => 0
  | m :: L => m.1 * g m.2 + kz g L
def knrm : List (Int × Nat) → Nat
  | [] => 0
  | m :: L => m.1.natAbs + knrm L
def kc0 : List (Int × Nat) → Int
  | [] => 0
  | m :: L => (if m.2 = 0 then m.1 else 0) + kc0 L
def ksh : List (Int × Nat) → List (Int × Nat)
  | [] => []
  | m :: L => if m.2 = 0 then ksh L else (m.1, m.2 - 1) :: ksh L
theorem kz_split (g : Nat → Int) : ∀ L, kz g L = kc0 L * g 0 + kz (fun n => g (n + 1)) (ksh L)
  | [] => by simp [kz, kc0, ksh]
  | m :: L => by
    rw [kz, kc0, ksh, kz_split g L]
    by_cases h : m.2 = 0
    · rw [if_pos h, if_pos h, h, Int.add_mul]; omega
    · rw [if_neg h, if_neg h, kz, Int.zero_add]
      obtain ⟨k, hk⟩ := Nat.exists_eq_succ_of_ne_zero h
      rw [hk, Nat.succ_eq_add_one, Nat.add_sub_cancel]; omega
theorem knrm_split : ∀ L, (kc0 L).natAbs + knrm (ksh L) ≤ knrm L
  | [] => by simp [knrm, kc0, ksh]
  | m :: L => by
    have := knrm_split L
    rw [kc0, ksh, knrm]
    by_cases h : m.2 = 0
    · rw [if_pos h, if_pos h]; omega
    · rw [if_neg h, if_neg h, knrm]; omega
theorem ksh_lt : ∀ {L : List (Int × Nat)} {n : Nat}, (∀ m ∈ L, m.2 < n + 1) → ∀ m ∈ ksh L, m.2 < n
  | [], _, _, m, h => nomatch h
  | x :: L, n, hL, m, h => by
    have hx := hL x (.head _)
    rw [ksh] at h
    by_cases q : x.2 = 0
    · rw [if_pos q] at h; exact ksh_lt (fun y hy => hL y (.tail _ hy)) m h
    · rw [if_neg q] at h
      rcases List.mem_cons.mp h with rfl | h
      · dsimp only; omega
      · exact ksh_lt (fun y hy => hL y (.tail _ hy)) m h
theorem kz_pow (K : Int) : ∀ L, kz (fun n => K ^ (n + 1)) L = K * kz (fun n => K ^ n) L
  | [] => by simp [kz]
  | m :: L => by rw [kz, kz, kz_pow K L, Int.pow_succ, Int.mul_add, Int.mul_comm (K ^ m.2) K, Int.mul_left_comm]
theorem kron {K : Nat} : ∀ (n : Nat) (L : List (Int × Nat)), (∀ m ∈ L, m.2 < n) → knrm L < K → kz (fun n => (K : Int) ^ n) L = 0 → ∀ g : Nat → Int, kz g L = 0
  | 0, [], _, _, _, g => rfl
  | 0, m :: L, h, _, _, g => absurd (h m (.head _)) (Nat.not_lt_zero _)
  | n + 1, L, h, hn, hz, g => by
    have s := knrm_split L
    rw [kz_split, kz_pow, Int.pow_zero, Int.mul_one] at hz
    have d : (K : Int) ∣ kc0 L := ⟨-kz (fun n => (K : Int) ^ n) (ksh L), by rw [Int.mul_neg]; omega⟩
    have c0 : kc0 L = 0 := Int.eq_zero_of_dvd_of_natAbs_lt_natAbs d (by rw [Int.natAbs_natCast]; omega)
    rw [c0, Int.zero_add] at hz
    have hK : (K : Int) ≠ 0 := by omega
    have r0 := (Int.mul_eq_zero.mp hz).resolve_left hK
    rw [kz_split, c0, Int.zero_mul, Int.zero_add]
    exact kron n (ksh L) (ksh_lt h) (by omega) r0 _
def keyed : List Mn → List (Int × Nat)
  | [] => []
  | m :: L => (m.1, 16 * m.2.1 + m.2.2) :: keyed L
theorem knrm_keyed : ∀ L, knrm (keyed L) = nrm L
  | [] => rfl
  | m :: L => by rw [keyed, knrm, nrm, knrm_keyed L]
theorem kz_keyed (j : Nat) (p q X : Int) : ∀ {L : List Mn}, (∀ m ∈ L, m.2.2 < 16) → kz (fun n => p ^ (j - 2 * (n / 16)) * q ^ (n / 16) * X ^ (n % 16)) (keyed L) = ev j p q X L
  | [], _ => rfl
  | m :: L, h => by
    have hm := h m (.head _)
    rw [keyed, kz, ev, kz_keyed j p q X fun y hy => h y (.tail _ hy)]
    have e1 : (16 * m.2.1 + m.2.2) / 16 = m.2.1 := by omega
    have e2 : (16 * m.2.1 + m.2.2) % 16 = m.2.2 := by omega
    rw [mev, e1, e2]
theorem kz_at (j : Nat) (K : Int) : ∀ {L : List Mn}, kz (fun n => K ^ n) (keyed L) = ev j 1 (K ^ 16) K L
  | [] => rfl
  | m :: L => by
    rw [keyed, kz, ev, kz_at j K, mev, Int.one_pow, Int.one_mul, ← Int.pow_mul, ← Int.pow_add]
theorem keyed_lt : ∀ L : List Mn, ∃ n, ∀ m ∈ keyed L, m.2 < n
  | [] => ⟨0, (fun _ h => nomatch h)⟩
  | x :: L => by
    obtain ⟨n, hn⟩ := keyed_lt L
    refine ⟨max n (16 * x.2.1 + x.2.2 + 1), fun m hm => ?_⟩
    rcases List.mem_cons.mp hm with rfl | hm
    · dsimp only; omega
    · have := hn m hm; omega
theorem IsP.nought {j d B K : Nat} {f : Int → Int → Int → Int} (h : IsP j d B f) (hd : d < 16) (hB : B < K) (hz : f 1 ((K : Int) ^ 16) K = 0) : ∀ p q X, f p q X = 0 := by
  obtain ⟨L, h1, h2, h3⟩ := h
  intro p q X
  obtain ⟨n, hn⟩ := keyed_lt L
  rw [h3, ← kz_at] at hz
  rw [h3, ← kz_keyed j p q X fun m hm => Nat.lt_of_le_of_lt (h1 m hm).2 hd]
  exact kron n _ hn (by rw [knrm_keyed]; omega) hz _

/-! ## sizes -/
theorem ev_le {j d : Nat} {p q X T : Int} (hp : 0 ≤ p) (hq : 0 ≤ q) (hX : 1 ≤ X) (hT : ∀ b, 2 * b ≤ j → p ^ (j - 2 * b) * q ^ b ≤ T) : ∀ {L : List Mn}, (∀ m ∈ L, 2 * m.2.1 ≤ j ∧ m.2.2 ≤ d) →
    -((nrm L : Int) * (T * X ^ d)) ≤ ev j p q X L ∧ ev j p q X L ≤ (nrm L : Int) * (T * X ^ d)
  | [], _ => by simp [nrm, ev]
  | m :: L, h => by
    obtain ⟨a, b⟩ := ev_le hp hq hX hT fun y hy => h y (.tail _ hy)
    obtain ⟨h1, h2⟩ := h m (.head _)
    have t1 := hT _ h1
    have t0 : 0 ≤ p ^ (j - 2 * m.2.1) * q ^ m.2.1 := Int.mul_nonneg (Int.pow_nonneg hp) (Int.pow_nonneg hq)
    have x1 : X ^ m.2.2 ≤ X ^ d := by
      obtain ⟨k, rfl⟩ := Nat.exists_eq_add_of_le h2
      rw [Int.pow_add]
      have h1 : 0 < X ^ m.2.2 := Int.pow_pos (by omega)
      have h2 : 0 < X ^ k := Int.pow_pos (by omega)
      have := Int.mul_le_mul_of_nonneg_left (show (1 : Int) ≤ X ^ k by omega) (Int.le_of_lt h1)
      omega
    have x0 : 0 < X ^ m.2.2 := Int.pow_pos (by omega)
    have g1 : p ^ (j - 2 * m.2.1) * q ^ m.2.1 * X ^ m.2.2 ≤ T * X ^ d := Int.mul_le_mul t1 x1 (Int.le_of_lt x0) (by omega)
    have g0 : 0 ≤ p ^ (j - 2 * m.2.1) * q ^ m.2.1 * X ^ m.2.2 := Int.mul_nonneg t0 (Int.le_of_lt x0)
    rw [ev, nrm, mev, Int.natCast_add, Int.add_mul]
    generalize p ^ (j - 2 * m.2.1) * q ^ m.2.1 * X ^ m.2.2 = Y at g0 g1 ⊢
    generalize T * X ^ d = Z at *
    have n1 : ((m.1.natAbs : Nat) : Int) * Y ≤ (m.1.natAbs : Int) * Z := Int.mul_le_mul_of_nonneg_left g1 (Int.natCast_nonneg _)
    rcases Int.natAbs_eq m.1 with e | e
    · have e3 : m.1 * Y = (m.1.natAbs : Int) * Y := by rw [← e]
      have n0 := Int.mul_nonneg (Int.natCast_nonneg m.1.natAbs) g0
      omega
    · have e3 : m.1 * Y = -((m.1.natAbs : Int) * Y) := by rw [← Int.neg_mul, ← e]
      have n0 := Int.mul_nonneg (Int.natCast_nonneg m.1.natAbs) g0
      omega
theorem IsP.le {j d B : Nat} {f : Int → Int → Int → Int} (h : IsP j d B f) {p q X T : Int} (hp : 0 ≤ p) (hq : 0 ≤ q) (hX : 1 ≤ X) (hT0 : 0 ≤ T) (hT : ∀ b, 2 * b ≤ j → p ^ (j - 2 * b) * q ^ b ≤ T) :
    -((B : Int) * (T * X ^ d)) ≤ f p q X ∧ f p q X ≤ (B : Int) * (T * X ^ d) := by
  obtain ⟨L, h1, h2, h3⟩ := h
  have a := ev_le hp hq hX hT h1
  have z : 0 ≤ T * X ^ d := Int.mul_nonneg hT0 (Int.pow_nonneg (by omega))
  have := Int.mul_le_mul_of_nonneg_right (Int.ofNat_le.mpr h2) z
  rw [h3]
  omega
/-! ## words: false is a, true is b -/
def sg (l : List Bool) : Nat := l.count false + 2 * l.count true
def col (p q : Int) (l : List Bool) : Int := p ^ l.count false * q ^ l.count true
def rowsF : Nat → List (List Bool)
  | 0 => [[]]
  | 1 => [[false]]
  | n + 2 => (rowsF (n + 1)).map (· ++ [false]) ++ (rowsF n).map (· ++ [true])
def winds (w r : List Bool) : List Nat := (List.range r.length).filter fun t => (((List.replicate 7 r).flatten.drop t).take w.length) == w
def stands (w r : List Bool) : Nat := (winds w r).length
def rowW (w r : List Bool) (p q X : Int) : Int := (sg (r.take 1) : Int) * col p q r * X ^ stands w r
def cF (w : List Bool) (n : Nat) (p q X : Int) : Int := ((rowsF n).map fun r => rowW w r p q X).sum
def cmb (w : List Bool) (n : Nat) : Nat := ((List.range n).reverse.find? fun k => (w.take n).drop (n - k) == w.take k).getD 0
def lapGo (f : Nat → Nat) : Nat → Nat → List Nat
  | 0, _ => []
  | k + 1, lap => if 0 < lap then lap :: lapGo f k (f lap) else lapGo f k lap
def lapsC (w : List Bool) : List Nat := lapGo (cmb w) w.length (cmb w w.length)
def behind (w : List Bool) (laps : List Nat) (p q : Int) (k : Nat) : Int := ((laps.filter fun lap => sg (w.drop lap) == k).map fun lap => col p q (w.drop lap)).sum
def sh (w : List Bool) (laps : List Nat) (p q X : Int) : Nat → Int
  | 0 => 0
  | 1 => 0
  | 2 => 1
  | k + 3 => (1 - X) * behind w laps p q (k + 1)
def tF (w : List Bool) (laps : List Nat) (i : Nat) (p q X : Int) : Int :=
  sh w laps p q X (i + 2) - p * sh w laps p q X (i + 1) - q * sh w laps p q X i + (if i = sg w then (1 - X) * col p q w else 0)
def tC (w : List Bool) (laps : List Nat) (i : Nat) (p q X : Int) : Int := if i ≤ sg w + 1 then tF w laps i p q X else 0
def eF (t : Nat → Int) : Nat → Nat → Int
  | 0, j => -((j + 1 : Nat) : Int) * t (j + 1)
  | k + 1, j => eF t k (j + 1) - eF t k 0 * t (j + 1)

theorem sg_append (l l' : List Bool) : sg (l ++ l') = sg l + sg l' := by unfold sg; rw [List.count_append, List.count_append]; omega
theorem sg_ge : ∀ l : List Bool, l.length ≤ sg l ∧ sg l ≤ 2 * l.length
  | [] => ⟨Nat.le_refl _, Nat.le_refl _⟩
  | b :: l => by
    have := sg_ge l
    have e : sg (b :: l) = sg [b] + sg l := sg_append [b] l
    cases b
    · have : sg [false] = 1 := rfl
      rw [e, List.length_cons]; omega
    · have : sg [true] = 2 := rfl
      rw [e, List.length_cons]; omega
theorem rowsF_sg : ∀ n, ∀ r ∈ rowsF n, sg r = n
  | 0, r, h => by rw [rowsF, List.mem_singleton] at h; subst h; rfl
  | 1, r, h => by rw [rowsF, List.mem_singleton] at h; subst h; rfl
  | n + 2, r, h => by
    rw [rowsF] at h
    rcases List.mem_append.mp h with h | h
    · obtain ⟨x, hx, rfl⟩ := List.mem_map.mp h
      rw [sg_append, rowsF_sg (n + 1) x hx]; rfl
    · obtain ⟨x, hx, rfl⟩ := List.mem_map.mp h
      rw [sg_append, rowsF_sg n x hx]; rfl
theorem stands_le (w r : List Bool) : stands w r ≤ r.length := by
  unfold stands winds
  exact Nat.le_trans (List.length_filter_le _ _) (by simp)
theorem IsP.col (l : List Bool) : IsP (sg l) 0 1 fun p q _ => Mine.col p q l :=
  (IsP.one1 (j := sg l) (b := l.count true) (k := 0) 1 (by unfold sg; omega)).congr fun p q X => by
    have : sg l - 2 * l.count true = l.count false := by unfold sg; omega
    rw [this, Int.pow_zero, Int.one_mul, Int.mul_one]; rfl
theorem sg1 (r : List Bool) : sg (r.take 1) ≤ 2 := by
  have := (sg_ge (r.take 1)).2
  have : (r.take 1).length ≤ 1 := by rw [List.length_take]; omega
  omega
theorem IsP.rowW {w r : List Bool} {n : Nat} (h : sg r = n) : IsP n n 2 (Mine.rowW w r) := by
  have a := ((IsP.col r).smul (sg (r.take 1) : Int)).mul (IsP.Xpow (stands w r))
  rw [h] at a
  have := stands_le w r
  have := (sg_ge r).1
  have := sg1 r
  refine (a.mono (d' := n) (B' := 2) (by omega) ?_).congr fun p q X => rfl
  rw [Int.natAbs_natCast, Nat.mul_one, Nat.mul_one]; omega
theorem IsP.cF (w : List Bool) (n : Nat) : IsP n n ((rowsF n).length * 2) (Mine.cF w n) :=
  IsP.sum (Mine.rowW w) (rowsF n) fun r hr => IsP.rowW (rowsF_sg n r hr)
section
variable {w : List Bool} {laps : List Nat} (hl : laps.length ≤ 6)
include hl
theorem IsP.sh : ∀ k, IsP k 1 12 fun p q X => Mine.sh w laps p q X (k + 2)
  | 0 => (IsP.const 1).mono (by decide) (by decide)
  | k + 1 => by
    have a : IsP (k + 1) 0 6 fun p q (_ : Int) => behind w laps p q (k + 1) := by
      refine ((IsP.sum (B := 1) (fun lap p q _ => Mine.col p q (w.drop lap)) (laps.filter fun lap => sg (w.drop lap) == k + 1) fun lap hm => ?_).mono (Nat.le_refl _) ?_).congr fun p q X => rfl
      · have := (List.mem_filter.mp hm).2
        rw [beq_iff_eq] at this
        rw [← this]; exact IsP.col _
      · rw [Nat.mul_one]; exact Nat.le_trans (List.length_filter_le _ _) hl
    have := IsP.oneSubX.mul a
    rw [Nat.zero_add] at this
    exact this.congr fun p q X => rfl
theorem IsP.tF (i : Nat) : IsP i 1 38 (Mine.tF w laps i) := by
  have s2 : IsP i 1 12 fun p q X => Mine.sh w laps p q X (i + 2) := IsP.sh hl i
  have s1 : IsP i 1 12 fun p q X => p * Mine.sh w laps p q X (i + 1) := by
    cases i with
    | zero => exact ((IsP.zero 0 1).mono (Nat.le_refl _) (Nat.zero_le _)).congr fun p q X => by show p * 0 = 0; rw [Int.mul_zero]
    | succ i =>
      have := IsP.p.mul (IsP.sh (w := w) hl i)
      rw [Nat.one_mul, Nat.add_comm 1 i, Nat.zero_add] at this
      exact this
  have s0 : IsP i 1 12 fun p q X => q * Mine.sh w laps p q X i := by
    match i with
    | 0 => exact ((IsP.zero 0 1).mono (Nat.le_refl _) (Nat.zero_le _)).congr fun p q X => by show q * 0 = 0; rw [Int.mul_zero]
    | 1 => exact ((IsP.zero 1 1).mono (Nat.le_refl _) (Nat.zero_le _)).congr fun p q X => by show q * 0 = 0; rw [Int.mul_zero]
    | i + 2 =>
      have := IsP.q.mul (IsP.sh (w := w) hl i)
      rw [Nat.one_mul, Nat.add_comm 2 i, Nat.zero_add] at this
      exact this
  have sw : IsP i 1 2 fun p q X => if i = sg w then (1 - X) * Mine.col p q w else 0 := by
    by_cases h : i = sg w
    · subst h
      have := IsP.oneSubX.mul (IsP.col w)
      rw [Nat.zero_add] at this
      exact this.congr fun p q X => by rw [if_pos rfl]
    · exact ((IsP.zero i 1).mono (Nat.le_refl _) (Nat.zero_le _)).congr fun p q X => by rw [if_neg h]
  exact (((s2.sub s1).sub s0).add sw).congr fun p q X => rfl
theorem IsP.tC (i : Nat) : IsP i 1 38 (Mine.tC w laps i) := by
  by_cases h : i ≤ sg w + 1
  · exact (IsP.tF hl i).congr fun p q X => by unfold Mine.tC; rw [if_pos h]
  · exact ((IsP.zero i 1).mono (Nat.le_refl _) (Nat.zero_le _)).congr fun p q X => by unfold Mine.tC; rw [if_neg h]
end
theorem lapGo_len (f : Nat → Nat) : ∀ k lap, (lapGo f k lap).length ≤ k
  | 0, _ => Nat.le_refl _
  | k + 1, lap => by
    rw [lapGo]
    split
    · rw [List.length_cons]; exact Nat.succ_le_succ (lapGo_len f k _)
    · exact Nat.le_succ_of_le (lapGo_len f k _)
theorem tC_zero {w : List Bool} {laps : List Nat} {i : Nat} (h : sg w + 1 < i) (p q X : Int) : tC w laps i p q X = 0 := by unfold tC; rw [if_neg (by omega)]
theorem tC_one {w : List Bool} {laps : List Nat} (h : 0 < sg w) (p q X : Int) : tC w laps 0 p q X = 1 := by
  unfold tC tF
  rw [if_pos (Nat.zero_le _), if_neg (by omega)]
  show (1 : Int) - p * 0 - q * 0 + 0 = 1
  omega

/-! ## the check at one far point -/
def chkGo (t : List Int) : List Int → List Int → Bool
  | e0 :: es, c :: cs => e0 == c && chkGo t (List.zipWith (fun x y => x - e0 * y) es t) cs
  | _, _ => true
theorem chkGo_spec (t : Nat → Int) (c : Nat → Int) (N : Nat) : ∀ (n k : Nat), n + k ≤ N → chkGo ((List.range N).map fun i => t (i + 1)) ((List.range n).map (eF t k)) ((List.range n).map fun i => c (k + i + 1)) = true → ∀ i, i < n → eF t (k + i) 0 = c (k + i + 1)
  | 0, k, _, _, i, hi => absurd hi (Nat.not_lt_zero _)
  | n + 1, k, hk, h, i, hi => by
    have e1 : (List.range (n + 1)).map (eF t k) = eF t k 0 :: (List.range n).map fun j => eF t k (j + 1) := by
      rw [List.range_succ_eq_map, List.map_cons, List.map_map]; rfl
    have e2 : ((List.range (n + 1)).map fun i => c (k + i + 1)) = c (k + 1) :: (List.range n).map fun j => c (k + 1 + j + 1) := by
      rw [List.range_succ_eq_map, List.map_cons, List.map_map]
      congr 1
      apply List.map_congr_left
      intro j _
      show c (k + (j + 1) + 1) = c (k + 1 + j + 1)
      congr 1; omega
    rw [e1, e2, chkGo, Bool.and_eq_true, beq_iff_eq] at h
    have e3 : List.zipWith (fun x y => x - eF t k 0 * y) ((List.range n).map fun j => eF t k (j + 1)) ((List.range N).map fun i => t (i + 1)) = (List.range n).map (eF t (k + 1)) := by
      apply List.ext_getElem?
      intro j
      rw [List.getElem?_zipWith, List.getElem?_map, List.getElem?_map, List.getElem?_map]
      rcases Nat.lt_or_ge j n with q | q
      · rw [List.getElem?_range q, List.getElem?_range (show j < N by omega)]; rfl
      · rw [List.getElem?_eq_none (show (List.range n).length ≤ j by rw [List.length_range]; exact q)]; rfl
    rw [e3] at h
    cases i with
    | zero => exact h.1
    | succ i =>
      have := chkGo_spec t c N n (k + 1) (by omega) h.2 i (by omega)
      rw [show k + (i + 1) = k + 1 + i by omega]; exact this
/-- the windows counted by a walk along the ring -/
noncomputable def pre (w : List Bool) : List Bool → Bool :=
  List.rec (motive := fun _ => List Bool → Bool) (fun _ => true) (fun a _ ih r => List.rec (motive := fun _ => Bool) false (fun b r' _ => Bool.rec (motive := fun _ => Bool) (Bool.rec (motive := fun _ => Bool) (ih r') false b) (Bool.rec (motive := fun _ => Bool) false (ih r') b) a) r) w
theorem pre_eq : ∀ w r : List Bool, pre w r = (r.take w.length == w)
  | [], r => by rw [List.length_nil, List.take_zero]; rfl
  | a :: w, [] => by rw [List.take_nil]; rfl
  | true :: w, true :: r => by rw [show pre (true :: w) (true :: r) = pre w r from rfl, pre_eq w r, List.length_cons, List.take_succ_cons]; simp
  | false :: w, false :: r => by rw [show pre (false :: w) (false :: r) = pre w r from rfl, pre_eq w r, List.length_cons, List.take_succ_cons]; simp
  | true :: w, false :: r => by rw [show pre (true :: w) (false :: r) = false from rfl, List.length_cons, List.take_succ_cons]; simp
  | false :: w, true :: r => by rw [show pre (false :: w) (true :: r) = false from rfl, List.length_cons, List.take_succ_cons]; simp
noncomputable def cntW (w : List Bool) (k : Nat) : List Bool → Nat → Nat :=
  Nat.rec (motive := fun _ => List Bool → Nat → Nat) (fun _ n => n) (fun _ ih r n => ih r.tail (Bool.rec (motive := fun _ => Nat) n n.succ (pre w r))) k
theorem cntW_eq (w : List Bool) : ∀ (k : Nat) (R : List Bool) (t n : Nat), cntW w k (R.drop t) n = n + ((List.range' t k).filter fun t => ((R.drop t).take w.length) == w).length
  | 0, R, t, n => rfl
  | k + 1, R, t, n => by
    have e : (R.drop t).tail = R.drop (t + 1) := by rw [List.tail_drop]
    have e2 : cntW w (k + 1) (R.drop t) n = cntW w k (R.drop t).tail (Bool.rec (motive := fun _ => Nat) n n.succ (pre w (R.drop t))) := rfl
    rw [e2, e, cntW_eq w k R (t + 1), List.range'_succ, List.filter_cons, pre_eq]
    cases h : ((R.drop t).take w.length == w)
    · simp
    · simp; omega
noncomputable def app (a b : List Bool) : List Bool := List.rec (motive := fun _ => List Bool) b (fun x _ ih => x :: ih) a
theorem app_eq : ∀ a b : List Bool, app a b = a ++ b
  | [], _ => rfl
  | x :: a, b => congrArg (x :: ·) (app_eq a b)
noncomputable def seven (r : List Bool) : List Bool := app r (app r (app r (app r (app r (app r (app r []))))))
theorem seven_eq (r : List Bool) : seven r = (List.replicate 7 r).flatten := by unfold seven; simp only [app_eq]; rfl
noncomputable def standsC (w r : List Bool) : Nat := cntW w r.length (seven r) 0
theorem standsC_eq (w r : List Bool) : standsC w r = stands w r := by
  have := cntW_eq w r.length (List.replicate 7 r).flatten 0 0
  rw [List.drop_zero, Nat.zero_add, ← List.range_eq_range', ← seven_eq] at this
  rw [seven_eq] at this
  unfold standsC
  rw [seven_eq]
  exact this
noncomputable def cntB (l : List Bool) : Nat → Nat := List.rec (motive := fun _ => Nat → Nat) (fun b => b) (fun x _ ih b => ih (Bool.rec (motive := fun _ => Nat) b b.succ x)) l
theorem cntB_eq : ∀ (l : List Bool) (b : Nat), cntB l b = b + l.count true
  | [], b => rfl
  | true :: l, b => by rw [show cntB (true :: l) b = cntB l b.succ from rfl, cntB_eq l]; simp; omega
  | false :: l, b => by rw [show cntB (false :: l) b = cntB l b from rfl, cntB_eq l]; simp
noncomputable def rowC (w r : List Bool) (q X : Int) : Int := (cond (r.headD false) 2 1 : Int) * q ^ cntB r 0 * X ^ standsC w r
theorem rowC_eq {w r : List Bool} (hr : r ≠ []) (q X : Int) : rowC w r q X = rowW w r 1 q X := by
  unfold rowC rowW col
  rw [standsC_eq, cntB_eq, Int.one_pow, Int.one_mul, Nat.zero_add]
  cases r with
  | nil => exact absurd rfl hr
  | cons b r => cases b <;> rfl
noncomputable def cC (w : List Bool) (n : Nat) (q X : Int) : Int := ((rowsF n).map fun r => rowC w r q X).sum
theorem cC_eq (w : List Bool) (n : Nat) (q X : Int) : cC w (n + 1) q X = cF w (n + 1) 1 q X := by
  unfold cC cF
  congr 1
  apply List.map_congr_left
  intro r hr
  refine rowC_eq (fun h => ?_) q X
  have := rowsF_sg _ r hr
  rw [h] at this; cases this
noncomputable def chkC (w : List Bool) : Bool :=
  chkGo ((List.range 8).map fun i => tC w (lapsC w) (i + 1) 1 (65536 ^ 16) 65536) ((List.range 8).map (eF (fun i => tC w (lapsC w) i 1 (65536 ^ 16) 65536) 0)) ((List.range 8).map fun i => cC w (0 + i + 1) (65536 ^ 16) 65536)
def chk (w : List Bool) : Bool :=
  chkGo ((List.range 8).map fun i => tC w (lapsC w) (i + 1) 1 (65536 ^ 16) 65536) ((List.range 8).map (eF (fun i => tC w (lapsC w) i 1 (65536 ^ 16) 65536) 0)) ((List.range 8).map fun i => cF w (0 + i + 1) 1 (65536 ^ 16) 65536)
theorem chkC_eq (w : List Bool) : chkC w = chk w := by
  unfold chkC chk
  have : (fun i : Nat => cC w (0 + i + 1) (65536 ^ 16) 65536) = fun i : Nat => cF w (0 + i + 1) 1 (65536 ^ 16) 65536 := funext fun i => cC_eq w (0 + i) _ _
  rw [this]
def allW : Nat → List (List Bool)
  | 0 => [[]]
  | n + 1 => (allW n).flatMap fun l => [false :: l, true :: l]
theorem mem_allW : ∀ w : List Bool, w ∈ allW w.length
  | [] => .head _
  | b :: l => by
    show b :: l ∈ (allW l.length).flatMap _
    refine List.mem_flatMap.mpr ⟨l, mem_allW l, ?_⟩
    cases b
    · exact .head _
    · exact .tail _ (.head _)
theorem all_cut {l : List (List Bool)} (n : Nat) (h1 : (l.take n).all chkC = true) (h2 : (l.drop n).all chkC = true) : l.all chkC = true := by
  rw [← List.take_append_drop n l, List.all_append, h1, h2]; rfl
theorem chk_of {l : List (List Bool)} (h : l.all chkC = true) : l.all chk = true := by rwa [show chkC = chk from funext chkC_eq] at h
theorem chk3 : (allW 3).all chk = true := chk_of (by decide +kernel)
theorem chk4 : (allW 4).all chk = true := chk_of (by decide +kernel)
theorem chk5a : ((allW 5).take 16).all chkC = true := by decide +kernel
theorem chk5b : ((allW 5).drop 16).all chkC = true := by decide +kernel
theorem chk5 : (allW 5).all chk = true := chk_of (all_cut 16 chk5a chk5b)
theorem chk6a : ((allW 6).take 16).all chkC = true := by decide +kernel
theorem chk6b : (((allW 6).drop 16).take 16).all chkC = true := by decide +kernel
theorem chk6c : ((((allW 6).drop 16).drop 16).take 16).all chkC = true := by decide +kernel
theorem chk6d : ((((allW 6).drop 16).drop 16).drop 16).all chkC = true := by decide +kernel
theorem chk6 : (allW 6).all chk = true := chk_of (all_cut 16 chk6a (all_cut 16 chk6b (all_cut 16 chk6c chk6d)))
/-! ## words as texts -/
def ch (b : Bool) : Nat := if b then 98 else 97
def ws (l : List Bool) : Str := ⟨(l.map ch).toArray⟩
theorem ws_list (l : List Bool) : (ws l).cps.toList = l.map ch := rfl
theorem ws_len (l : List Bool) : (ws l).length = l.length := by unfold ws Str.length; simp
theorem ch_inj {a b : Bool} : ch a = ch b ↔ a = b := by cases a <;> cases b <;> decide
theorem ws_inj {l m : List Bool} : (ws l == ws m) = (l == m) := by
  have e : ws l = ws m ↔ l = m := by
    constructor
    · intro h
      have := congrArg (fun s : Str => s.cps.toList) h
      simp only [ws_list] at this
      exact (List.map_inj_right fun x y h => ch_inj.mp h).mp this
    · intro h; rw [h]
  rw [Bool.eq_iff_iff, beq_iff_eq, beq_iff_eq]; exact e
theorem ws_append (l m : List Bool) : ws l ++ ws m = ws (l ++ m) := Str.ext' (by show (ws l).cps ++ (ws m).cps = _; unfold ws; simp)
open Builtin Builtin.Str StrLaws in
theorem cnt_run (x : Str) (c : Nat) : ∀ (n a : Nat) (st : Array Nat × Nat), st.2 ≤ a → st.1.size ≤ a → a + n = x.length + 1 →
    (forIn (List.range' a n) st (occBody x ⟨#[c]⟩ x.length (x.length + 1))).run.fst.size = st.1.size + (x.cps.toList.drop a).count c
  | 0, a, st, h1, h2, h3 => by
    have : x.cps.toList.drop a = [] := List.drop_eq_nil_of_le (by show x.cps.size ≤ a; unfold Str.length at h3; omega)
    rw [this]; rfl
  | n + 1, a, st, h1, h2, h3 => by
    rw [List.range'_succ, List.forIn_cons]
    have hx : x.cps.toList[a]? = some c ∨ x.cps.toList[a]? ≠ some c := Classical.em _
    have s1 := subAt_one x c a
    rcases hx with hx | hx
    · obtain ⟨c1, c2⟩ := s1.mpr hx
      have hb : occBody x ⟨#[c]⟩ x.length (x.length + 1) a st = pure (ForInStep.yield (st.fst.push a, a + 1)) := by
        unfold occBody
        rw [if_pos ⟨⟨⟨by omega, h1⟩, c1⟩, c2⟩]; rfl
      rw [hb]
      refine (cnt_run x c n (a + 1) (st.fst.push a, a + 1) (Nat.le_refl _) (by simp; omega) (by omega)).trans ?_
      obtain ⟨hl, he⟩ := List.getElem?_eq_some_iff.mp hx
      rw [List.drop_eq_getElem_cons hl, he, List.count_cons_self, Array.size_push]
      omega
    · have hb : occBody x ⟨#[c]⟩ x.length (x.length + 1) a st = pure (ForInStep.yield (st.fst, st.snd)) := by
        unfold occBody
        rw [if_neg (fun h => hx (s1.mp ⟨h.1.2, h.2⟩))]
      rw [hb]
      refine (cnt_run x c n (a + 1) (st.fst, st.snd) (by simp; omega) (by simp; omega) (by omega)).trans ?_
      rcases Nat.lt_or_ge a x.cps.toList.length with hl | hl
      · rw [List.drop_eq_getElem_cons hl, List.count_cons_of_ne]
        intro h
        exact hx (by rw [List.getElem?_eq_getElem hl]; exact congrArg some h)
      · rw [List.drop_eq_nil_of_le hl, List.drop_eq_nil_of_le (by omega)]
theorem count_ws (l : List Bool) (c : Bool) : (Builtin.Str.occurrences (ws l) ⟨#[ch c]⟩ 0 (ws l).length ((ws l).length + 1)).length = l.count c := by
  rw [StrLaws.occ_eq]
  have := cnt_run (ws l) (ch c) ((ws l).length + 1) 0 (#[], 0) (Nat.le_refl _) (Nat.le_refl _) (by omega)
  rw [Array.length_toList, Nat.sub_zero, this, List.drop_zero, ws_list]
  show 0 + _ = _
  rw [Nat.zero_add]
  clear this
  induction l with
  | nil => rfl
  | cons b l ih => rw [List.map_cons, List.count_cons, List.count_cons, ih]; cases b <;> cases c <;> rfl
section
variable {G : GE} {sc : Scope} {C : Act sc} {σ : St}
theorem count_s {l : List Bool} {c : Bool} {y : Str} {Q : V → St → Prop} (hy : y = ⟨#[ch c]⟩) (h : Q (.int (l.count c : Nat)) σ) :
    FL G C (fun us => call (.builtin "str.count") us) [.str (ws l), .str y] σ Q := fun P W s us R hu => by
  refine Reps.eCons hu fun _ _ h1 h2 => Reps.eCons h2 fun _ _ h2 h3 => Reps.eNil h3 (Rep.eStr h1 fun t => Rep.eStr h2 fun t' => ?_)
  subst hy
  refine call_gives PySem.F.slot_str_count (typeIs_str _ _ _) PySem.F.entry_str_count (PySem.F.args_str_count_2 _ _) (gives_str_count _ _ _ _) ?_
  rw [count_ws]
  exact Post.here R (.int _ _) h
theorem add_s {l m : List Bool} {Q : V → St → Prop} (hz : l.length + m.length ≤ 1000000) (h : Q (.str (ws (l ++ m))) σ) : F2 G C (binaryOp .Add) (.str (ws l)) (.str (ws m)) σ Q := fun P W s u v R hu hv => by
  refine Rep.eStr hu fun t => Rep.eStr hv fun t' => ?_
  refine PySem.P.add_str ?_
  by_cases h1 : ((ws l).length == 0) = true
  · rw [if_pos h1]
    rw [beq_iff_eq, ws_len, List.length_eq_zero_iff] at h1
    subst h1
    exact Post.here (tk := s.toks) R (.str _ _) h
  · rw [if_neg h1]
    by_cases h2 : ((ws m).length == 0) = true
    · rw [if_pos h2]
      rw [beq_iff_eq, ws_len, List.length_eq_zero_iff] at h2
      subst h2
      rw [List.append_nil] at h
      exact Post.here (tk := s.toks) R (.str _ _) h
    · rw [if_neg h2, ws_append]
      exact ⟨by rw [ws_len, sizeLine_eq, List.length_append]; omega, Post.here R (.str _ _) h⟩
theorem rep_ws (l : List Bool) : ∀ n : Nat, List.foldl (fun (a b : Array Nat) => a ++ b) #[] (List.replicate n (ws l).cps) = (ws (List.replicate n l).flatten).cps := by
  suffices ∀ (n : Nat) (m : List Bool), List.foldl (fun (a b : Array Nat) => a ++ b) (ws m).cps (List.replicate n (ws l).cps) = (ws (m ++ (List.replicate n l).flatten)).cps from fun n => this n []
  intro n
  induction n with
  | zero => intro m; simp
  | succ n ih =>
    intro m
    rw [List.replicate_succ, List.foldl_cons, show (ws m).cps ++ (ws l).cps = (ws (m ++ l)).cps from congrArg Str.cps (ws_append m l), ih, List.replicate_succ, List.flatten_cons, List.append_assoc]
theorem mul_s {l : List Bool} {n : Int} {Q : V → St → Prop} (h1 : 1 < n) (hn : n ≤ 1000) (hz : l.length ≤ 1000) (hl0 : 0 < l.length) (h : Q (.str (ws (List.replicate n.toNat l).flatten)) σ) : F2 G C (binaryOp .Mult) (.str (ws l)) (.int n) σ Q := fun P W s u v R hu hv => by
  refine Rep.eStr hu fun t => Rep.eInt hv fun t' => ?_
  refine PySem.P.mul_str (by simp; omega) (fun _ _ => ?_) (fun _ _ => ?_) ?_
  · rw [ws_len]
    have : (2 ^ 63 - 1) / n ≥ (2 ^ 63 - 1) / 1000 := by
      apply Int.le_ediv_of_mul_le (by omega)
      have : (2 ^ 63 - 1 : Int) / 1000 * n ≤ (2 ^ 63 - 1) / 1000 * 1000 := Int.mul_le_mul_of_nonneg_left hn (by decide)
      omega
    omega
  · rw [ws_len]
    have e : l.length * n.toNat ≤ 1000 * 1000 := Nat.mul_le_mul hz (by omega)
    unfold Builtin.Str.tooLong
    rw [decide_eq_false_iff_not, sizeLine_eq]
    omega
  · rw [if_neg (by omega), if_neg (by rw [ws_len, Bool.or_eq_true, beq_iff_eq, beq_iff_eq]; omega)]
    have e : (⟨List.foldl (fun (a b : Array Nat) => a ++ b) #[] (List.replicate n.toNat (ws l).cps)⟩ : Str) = ws (List.replicate n.toNat l).flatten := Str.ext' (rep_ws l _)
    rw [e]
    refine ⟨?_, Post.here R (.str _ _) h⟩
    rw [ws_len, sizeLine_eq]
    have : (List.replicate n.toNat l).flatten.length = n.toNat * l.length := by simp
    rw [this]
    have e : n.toNat * l.length ≤ 1000 * 1000 := Nat.mul_le_mul (by omega) hz
    omega
theorem slice_ws {l : List Bool} {a b : Nat} (hab : a ≤ b) (hb : b ≤ l.length) : Txt.slice (ws l) (some (a : Int)) (some (b : Int)) = ws ((l.drop a).take (b - a)) := by
  have e := StrLaws.sliceText_nat (ws l) (a := a) (b := b) hab (by rw [ws_len]; exact hb)
  refine Eq.trans ?_ (e.trans ?_)
  · rfl
  · unfold ws; simp
theorem slice_ws_from {l : List Bool} {a : Nat} (ha : a ≤ l.length) : Txt.slice (ws l) (some (a : Int)) none = ws (l.drop a) := by
  have e : Txt.slice (ws l) (some (a : Int)) none = Txt.slice (ws l) (some (a : Int)) (some ((l.length : Nat) : Int)) := by
    show StrLaws.sliceText _ _ _ = StrLaws.sliceText _ _ _
    unfold StrLaws.sliceText
    rw [StrLaws.sliceIdx_none_hi, ws_len]
  rw [e, slice_ws ha (Nat.le_refl _), List.take_of_length_le (by rw [List.length_drop]; exact Nat.le_refl _)]
theorem sub_s_from {value slice : Expr} {l : List Bool} {a : Nat} {Q : V → St → Prop} (hs : ∀ o i, subscripted slice false o i = operate [i, o] (getItem o i)) (ht : ∀ x t r, letTemporaryGo value (.str x t) r = pure ()) (ha : a ≤ l.length) (hz : l.length ≤ 1000000)
    (h : Q (.str (ws (l.drop a))) σ) : F3S G C value slice (.str (ws l)) (.int a) .none σ Q := fun P W s uo ul uu R ho hl hu => by
  refine Rep.eStr ho fun t => Rep.eInt hl fun t' => Rep.eNone hu ?_
  obtain ⟨mf, news, F, N, lt, back, _⟩ := R.viaNews
  refine slice_strN_sn F N (fun h' t' k F' N' => ?_) (hs _ _) (ht _ _) (by rw [ws_len, sizeLine_eq]; omega)
  rw [slice_ws_from ha]
  exact ⟨.str _, σ, W, h', k, rfl, fun _ h => h, .str _ t', back h' F' N', h⟩
theorem sub_s_mid {value slice : Expr} {l : List Bool} {a b : Nat} {Q : V → St → Prop} (hs : ∀ o i, subscripted slice false o i = operate [i, o] (getItem o i)) (ht : ∀ x t r, letTemporaryGo value (.str x t) r = pure ()) (hab : a ≤ b) (hb : b ≤ l.length) (hz : l.length ≤ 1000000)
    (h : Q (.str (ws ((l.drop a).take (b - a)))) σ) : F3S G C value slice (.str (ws l)) (.int a) (.int b) σ Q := fun P W s uo ul uu R ho hl hu => by
  refine Rep.eStr ho fun t => Rep.eInt hl fun t' => Rep.eInt hu fun t'' => ?_
  obtain ⟨mf, news, F, N, lt, back, _⟩ := R.viaNews
  refine slice_strN_ss F N (fun h' t' k F' N' => ?_) (hs _ _) (ht _ _) (by rw [ws_len, sizeLine_eq]; omega)
  rw [slice_ws hab hb]
  exact ⟨.str _, σ, W, h', k, rfl, fun _ h => h, .str _ t', back h' F' N', h⟩
theorem sub_s_at {value slice : Expr} {l : List Bool} {k : Nat} {b : Bool} {Q : V → St → Prop} (hs : ∀ o i, subscripted slice false o i = operate [o, i] (getItem o i)) (hk : k < 1000000) (hb : l[k]? = some b) (h : Q (.str (ws [b])) σ) :
    F2 G C (subscriptTail value slice) (.str (ws l)) (.int k) σ Q :=
  sub_str (c := ch b) hs (by omega) (by omega) (by unfold ws; simp [hb]) h
/-! ## walking through a text -/
abbrev strIt (x : Str) (t : Tok) (i : Nat) (o : Obj) : Prop := o.cls = .type "str_ascii_iterator" ∧ o.data = .fields #[.str x t, .int i 0]
theorem iter_str2 {sn : Scope} (O : C.Ok G) {l : List Bool} : IterV2 G C sn (.str (ws l)) σ σ (l.map fun b => V.str (ws [b])) (fun _ => True) := fun P W s u R r => by
  refine Rep.eStr r fun t => ?_
  have get : ∀ {i : Nat} {x : V}, (l.map fun b => V.str (ws [b]))[i]? = some x → ∃ b, (ws l).cps[i]? = some (ch b) ∧ x = .str ⟨#[ch b]⟩ := fun {i x} hx => by
    rw [List.getElem?_map] at hx
    obtain ⟨b, hb, rfl⟩ := Option.map_eq_some_iff.mp hx
    exact ⟨b, by unfold ws; simp [hb], rfl⟩
  refine ⟨strIt (ws l) t, fun Cn On => ⟨?_, ?_, ?_⟩, fun α k => ?_⟩
  · intro i P W σ s I o x α hw R hd hst hx k
    obtain ⟨b, hb, rfl⟩ := get hx
    have hit : s.heap.IsStrIter I "str_ascii_iterator" (ws l) t i := ⟨o, R.pinned, hst⟩
    refine wpAny_pyNext_ascii_item hit hb fun h' hit' hs => ?_
    obtain ⟨o', ho', hc'⟩ := hit'
    exact k _ o' h' _ hc' (.str _ _) (R.repin hs.extBut ho')
  · intro P W σ s I o α hw R hd hst k
    have hit : s.heap.IsStrIter I "str_ascii_iterator" (ws l) t l.length := ⟨o, R.pinned, by rw [List.length_map] at hst; exact hst⟩
    refine wpAny_pyNext_ascii_end On.handled hit (by unfold ws; simp) fun h' he => ?_
    exact k h' s.toks (R.letgo he)
  · intro i P W σ s I o α R hst k
    exact wpAny_pyIter_striter_ascii (i := i) (x := ws l) (t := t) ⟨o, R.pinned, hst⟩ k
  · refine wpAny_pyIter_ascii ?_ (k _ _ _ s.toks ⟨rfl, rfl⟩ (R.pin rfl))
    unfold ws
    rw [Array.all_eq_true']
    intro x hx
    rw [List.mem_toArray, List.mem_map] at hx
    obtain ⟨b, _, rfl⟩ := hx
    cases b <;> decide
theorem iter_str (O : C.Ok G) {l : List Bool} : IterV G C (.str (ws l)) σ σ (l.map fun b => V.str (ws [b])) (fun _ => True) := iter_str2 O
/-! ## join, sum -/
theorem strs_of_reps {W : Led} {ls : List (List Bool)} : ∀ {vs : List Value}, Reps W (ls.map fun l => V.str (ws l)) vs → StrsAre vs (ls.map ws) := by
  induction ls with
  | nil => intro vs h; exact Reps.eNil h .nil
  | cons l ls ih => intro vs h; exact Reps.eCons h fun v us a r => Rep.eStr a fun t => .cons _ _ (ih r)
theorem glue_ws : ∀ ls : List (List Bool), Txt.join (⟨#[]⟩ : Str) (ls.map ws) = ws ls.flatten := by
  have key : ∀ (ls : List (List Bool)) (l : List Bool), Str.join (⟨#[]⟩ : Str) (ws l :: ls.map ws) = ws (l ++ ls.flatten) := by
    intro ls
    induction ls with
    | nil => intro l; rw [List.flatten_nil, List.append_nil]; rfl
    | cons m ls ih =>
      intro l
      show ws l ++ (⟨#[]⟩ : Str) ++ Str.join (⟨#[]⟩ : Str) (ws m :: ls.map ws) = _
      rw [ih, show ws l ++ (⟨#[]⟩ : Str) = ws l from Str.append_empty _, ws_append, List.flatten_cons]
  intro ls
  refine (StrLaws.glued_eq_join _ _).trans ?_
  cases ls with
  | nil => rfl
  | cons l ls => exact key ls l
theorem join_s {l : Addr} {ls : List (List Bool)} {x : Str} {Q : V → St → Prop} (hx : x = ⟨#[]⟩) (e : σ.hp l = some (.lst (ls.map fun l => V.str (ws l)))) (hz : (ls.map (·.length)).sum + ls.length ≤ 100000) (h : Q (.str (ws ls.flatten)) σ) :
    FL G C (fun us => call (.builtin "str.join") us) [.str x, .ref l] σ Q := fun P W s us R hu => by
  refine Reps.eCons hu fun _ _ h1 h2 => Reps.eCons h2 fun _ _ h2 h3 => Reps.eNil h3 (Rep.eStr h1 fun t => Rep.eRef h2 ?_)
  subst hx
  obtain ⟨vs, hl, rs⟩ := R.isList e
  refine join_listW hl (strs_of_reps rs) (by decide) ?_ fun t' k => ?_
  · rw [List.map_map, show ((fun x : Str => x.length) ∘ ws) = fun l : List Bool => l.length from funext fun l => ws_len l, List.length_map]; omega
  · rw [glue_ws]
    exact Post.here R (.str _ _) h
theorem Rel.grow {P W : Led} {h h' : Heap} (R : Rel C P W σ h) (hk : ∀ b o, h.get? b = some o → h'.get? b = some o) : Rel C P W σ h' := by
  obtain ⟨mf, news, F, N, lt, back, _⟩ := R.viaNews
  exact back h' ⟨F.ns.keeps hk, fun b o e => hk _ _ (F.keep b o e), F.above⟩ fun p hp => ⟨hk _ _ (N p hp).1, (N p hp).2⟩
theorem sum_l (O : C.Ok G) {l : Addr} {ns : List Int} {Q : V → St → Prop} (e : σ.hp l = some (.lst (ns.map V.int))) (h : Q (.int ns.sum) σ) : FL G C (fun us => call (.builtin "sum") us) [.ref l] σ Q := fun P W s us R hu => by
  refine Reps.eCons hu fun _ _ h1 h2 => Reps.eNil h2 (Rep.eRef h1 ?_)
  obtain ⟨vs, hl, rs⟩ := R.isList e
  have ia := ints_of_reps rs
  obtain ⟨xs, hxs⟩ := ia.allInts.items
  rw [hxs] at hl
  refine PySem.sum_intListG O.handled hl fun h' tk t' hk => ?_
  have e1 : preSum (numAt xs) xs.size = ns.sum := by
    rw [preSum_eq, List.take_of_length_le (by simp), ← nums_intItems, ← hxs]
    exact congrArg List.sum ia.numsOf
  rw [e1]
  exact ⟨.int _, σ, W, h', tk, rfl, fun _ h => h, .int _ t', R.grow hk, h⟩
/-! ## equality of two lists -/
theorem list_reads {P W : Led} {h : Heap} (R : Rel C P W σ h) {a : Addr} {xs : List V} (e : σ.hp a = some (.lst xs)) (hx : plains xs = true) : ∃ as, Reads h (.ref a) (.list (pdats xs)) as := by
  obtain ⟨vs, n, ho, rs⟩ := R.list e
  obtain ⟨as, ra⟩ := readsAll_of_reps R.frozen rs hx
  exact ⟨_, .list ho rfl rfl (by simpa using ra)⟩
theorem eqv_list {xs : List V} (hx : plains xs = true) : PyData.eqv (.list (pdats xs)) (.list (pdats xs)) = true := by rw [PyData.eqv]; exact eqvAll_refl hx
theorem eq_list_same (O : C.Ok G) {a b : Addr} {xs : List V} {Q : V → St → Prop} (ea : σ.hp a = some (.lst xs)) (eb : σ.hp b = some (.lst xs)) (hx : plains xs = true) (hs : SeqAt.shaped (.list (pdats xs)) = true) (h : Q (.bool true) σ) :
    F2 G C (compareOp .Eq) (.ref a) (.ref b) σ Q := fun P W s u v R hu hv => by
  refine Rep.eRef hu (Rep.eRef hv ?_)
  obtain ⟨as, ra⟩ := list_reads R ea hx
  obtain ⟨bs, rb⟩ := list_reads R eb hx
  refine eq_dataH ra rb hs hs (by have := O.units; show C.A.units + 64 < cLine; unfold cLine; omega) ?_
  rw [eqv_list hx]
  exact Post.here' R (.bool _) h
theorem ne_list_same (O : C.Ok G) {a b : Addr} {xs : List V} {Q : V → St → Prop} (ea : σ.hp a = some (.lst xs)) (eb : σ.hp b = some (.lst xs)) (hx : plains xs = true) (hs : SeqAt.shaped (.list (pdats xs)) = true) (h : Q (.bool false) σ) :
    F2 G C (compareOp .NotEq) (.ref a) (.ref b) σ Q := fun P W s u v R hu hv => by
  refine Rep.eRef hu (Rep.eRef hv ?_)
  obtain ⟨as, ra⟩ := list_reads R ea hx
  obtain ⟨bs, rb⟩ := list_reads R eb hx
  refine ne_dataH ra rb hs hs (by have := O.units; show C.A.units + 64 < cLine; unfold cLine; omega) ?_
  rw [eqv_list hx]
  exact Post.here' R (.bool _) h
end
/-! ## dicts keyed by texts -/
def flatV : V → Bool
  | .int _ | .ref _ => true
  | _ => false
theorem flat_rep {W : Led} {v : V} {u : Value} (hf : flatV v = true) (r : Rep W v u) : ∀ W', Rep W' v u := by
  cases v with
  | int i => exact Rep.eInt r fun t W' => .int i t
  | ref a => exact Rep.eRef r fun W' => .ref a
  | _ => cases hf
/-- an object that shows these keys and values -/
def DctOf (G : GE) (o : Obj) (kvs : List (Str × V)) : Prop := ∃ ps : List (Str × Value), o.IsDictOf (strKind G.prog G.w) ps ∧ ∀ k v, lk kvs k = some v → ∃ u, valueAt ps k = some u ∧ ∀ W, Rep W v u
section
variable {G : GE} {sc : Scope} {C : Act sc} {σ : St}
theorem sub_dct {value slice : Expr} {d : Addr} {o : Obj} {kvs : List (Str × V)} {k : Str} {v : V} {Q : V → St → Prop} (hs : ∀ o i, subscripted slice false o i = operate [o, i] (getItem o i)) (e : σ.hp d = some (.raw o)) (hd : DctOf G o kvs) (hk : lk kvs k = some v) (h : Q v σ) :
    F2 G C (subscriptTail value slice) (.ref d) (.str k) σ Q := fun P W s u w R hu hw => by
  refine Rep.eRef hu (Rep.eStr hw fun t => ?_)
  obtain ⟨ob, hg, rfl⟩ := R.at e
  obtain ⟨ps, hps, hv⟩ := hd
  obtain ⟨u, hu, ru⟩ := hv k v hk
  have hD : s.heap.DictOf (strKind G.prog G.w) d ps := Heap.dictOf_iff.mpr ⟨ob, hg, hps⟩
  exact tail_any hD.mapOf.typeIs slot_dict_getitem.lookup (wpAny_getItem_of (strKind_is _ _ k t) hD.mapOf hu (Post.here (tk := s.toks + 1) R (ru W) h)) (hs _ _)
def mkDct (G : GE) (Q : V → St → Prop) (k1 k2 : Str) (v1 v2 : V) (σ : St) : Prop :=
  flatV v1 = true ∧ flatV v2 = true ∧ ∀ d o, σ.hp d = none → DctOf G o [(k1, v1), (k2, v2)] → Q (.ref d) ⟨σ.loc, updH σ.hp d (.raw o)⟩
theorem Ev_Dict2 {k1 k2 : Str} {n1 n2 : Nat} {p1 p2 pos : Pos} {e1 e2 : Expr} {Q : V → St → Prop} (hne : k1 ≠ k2)
    (h : Ev G C (eval e1 C.env) σ (fun v1 σ₁ => Ev G C (eval e2 C.env) σ₁ (fun v2 σ₂ => mkDct G Q k1 k2 v1 v2 σ₂))) :
    Ev G C (eval (.Dict [some (.Constant (.str k1) n1 p1), some (.Constant (.str k2) n2 p2)] [e1, e2] pos) C.env) σ Q := fun P W s R => by
  refine wpAny_Dict_walk (knd := strKind G.prog G.w) rfl rfl (by simp) (by simp) ?_
  have R0 : Rel C ((s.heap.objs.size, { cls := .type "dict", data := .dict #[] }) :: P) W σ (s.heap.push { cls := .type "dict", data := .dict #[] }) := R.pin rfl
  show wpAny _ _ (evalPairs [(eval (.Constant (.str k1) n1 p1) C.env, do let x ← eval e1 C.env; standAt pos; pure x), (eval (.Constant (.str k2) n2 p2) C.env, do let x ← eval e2 C.env; standAt pos; pure x)]) _ _ _
  refine evalPairs_cons (Constant_str ?_)
  refine wpAny_bind (wp_seq1 (h _ W { s with heap := s.heap.push { cls := .type "dict", data := .dict #[] }, toks := s.toks + 1 } R0) fun v1 u1 σ₁ W₁ h₁ tk₁ w₁ r₁ R₁ q₁ => wpAny_bind (wpAny_standAt (wpAny_pure ?_)))
  refine evalPairs_cons (Constant_str ?_)
  refine wpAny_bind (wp_seq1 (q₁ _ W₁ { s with heap := h₁, toks := tk₁ + 1 } R₁) fun v2 u2 σ₂ W₂ h₂ tk₂ w₂ r₂ R₂ q₂ => wpAny_bind (wpAny_standAt (wpAny_pure ?_)))
  refine evalPairs_nil ?_
  obtain ⟨f1, f2, q⟩ := q₂
  have hn : Heap.DictOf (strKind G.prog G.w) h₂ s.heap.objs.size [] := by
    obtain ⟨o, es, ep, ho, r⟩ := Heap.DictOf.new (knd := strKind G.prog G.w) s.heap
    have e1 := R0.pinned
    dsimp only at e1
    rw [e1] at ho
    have e2 := R₂.pinned
    dsimp only at e2
    exact ⟨o, es, ep, by rw [← ho]; exact e2, r⟩
  refine ⟨[(k1, u1), (k2, u2)], ⟨strKind_is _ _ _ _, rfl, strKind_is _ _ _ _, rfl, trivial⟩, hn, fun h' hd' hs' => ?_⟩
  have hm : merged [] [(k1, u1), (k2, u2)] = [(k1, u1), (k2, u2)] := by simp [merged, stored, hne]
  rw [hm] at hd'
  obtain ⟨o', ho', hdo⟩ := Heap.dictOf_iff.mp hd'
  obtain ⟨hnone, R'⟩ := (R₂.repin hs'.extBut ho').unpinTo (ho := .raw o') rfl
  refine ⟨.ref _, _, W₂, h', _, rfl, fun p hp => w₂ p (w₁ p hp), .ref _, R', q _ o' hnone ⟨_, hdo, fun k v e => ?_⟩⟩
  by_cases c1 : k = k1
  · subst c1
    rw [show lk [(k, v1), (k2, v2)] k = some v1 by simp [lk]] at e
    cases e
    exact ⟨u1, by simp [valueAt], flat_rep f1 r₁⟩
  · by_cases c2 : k = k2
    · subst c2
      rw [show lk [(k1, v1), (k, v2)] k = some v2 by simp [lk, c1]] at e
      cases e
      exact ⟨u2, by simp [valueAt, hne], flat_rep f2 r₂⟩
    · rw [show lk [(k1, v1), (k2, v2)] k = none by simp [lk, c1, c2]] at e
      cases e
end
/-! ## the heads are the rings' numbers, as polynomials -/
theorem chk_all {w : List Bool} (h3 : 3 ≤ w.length) (h6 : w.length ≤ 6) : chk w = true := by
  have hm := mem_allW w
  have key : ∀ n, w.length = n → (allW n).all chk = true → chk w = true := fun n e h => by
    rw [e] at hm; exact List.all_eq_true.mp h w hm
  have : w.length = 3 ∨ w.length = 4 ∨ w.length = 5 ∨ w.length = 6 := by omega
  rcases this with e | e | e | e
  · exact key 3 e chk3
  · exact key 4 e chk4
  · exact key 5 e chk5
  · exact key 6 e chk6
def bE : Nat → Nat
  | 0 => 494
  | k + 1 => bE k + (rowsF (k + 1)).length * 2 * 38
theorem bE_le : ∀ k, k ≤ 7 → bE k ≤ 4522 ∧ bE k + (rowsF (k + 1)).length * 2 < 65536 := by decide
section
variable {w : List Bool} (h3 : 3 ≤ w.length) (h6 : w.length ≤ 6)
include h3 h6
omit h3 in
theorem e_at (p q X : Int) : ∀ k, k ≤ 7 → (∀ i, i < k → ∀ p q X, eF (fun i => tC w (lapsC w) i p q X) i 0 = cF w (i + 1) p q X) →
    ∀ j, IsP (j + k + 1) (k + 1) (bE k) fun p q X => eF (fun i => tC w (lapsC w) i p q X) k j
  | 0, _, _, j => by
    have hl : (lapsC w).length ≤ 6 := Nat.le_trans (lapGo_len _ _ _) h6
    by_cases h : j + 1 ≤ sg w + 1
    · have := (sg_ge w).2
      have a := (IsP.tC hl (w := w) (j + 1)).smul (-((j + 1 : Nat) : Int))
      refine (a.mono (Nat.le_refl _) ?_).congr fun p q X => rfl
      rw [Int.natAbs_neg, Int.natAbs_natCast]
      show (j + 1) * 38 ≤ 494
      omega
    · exact ((IsP.zero (j + 0 + 1) 1).mono (Nat.le_refl _) (Nat.zero_le _)).congr fun p q X => by
        show -((j + 1 : Nat) : Int) * tC w (lapsC w) (j + 1) p q X = 0
        rw [tC_zero (by omega), Int.mul_zero]
  | k + 1, hk, hI, j => by
    have hl : (lapsC w).length ≤ 6 := Nat.le_trans (lapGo_len _ _ _) h6
    have a := e_at p q X k (by omega) (fun i hi => hI i (by omega)) (j + 1)
    have b := (IsP.cF w (k + 1)).mul (IsP.tC hl (w := w) (j + 1))
    rw [show k + 1 + (j + 1) = j + 1 + k + 1 by omega] at b
    have c := (a.mono (d' := k + 1 + 1) (by omega) (Nat.le_refl _)).sub b
    rw [show j + 1 + k + 1 = j + (k + 1) + 1 by omega] at c
    refine c.congr fun p q X => ?_
    show eF _ k (j + 1) - eF _ k 0 * tC w (lapsC w) (j + 1) p q X = _
    rw [hI k (by omega)]
theorem heads : ∀ k, k ≤ 7 → ∀ p q X, eF (fun i => tC w (lapsC w) i p q X) k 0 = cF w (k + 1) p q X := by
  intro k
  induction k using Nat.strongRecOn with
  | ind k ih =>
    intro hk
    have a := e_at h6 0 0 0 k hk (fun i hi => ih i hi (by omega)) 0
    rw [Nat.zero_add] at a
    have b := a.sub (IsP.cF w (k + 1))
    have hc := chkGo_spec (fun i => tC w (lapsC w) i 1 (65536 ^ 16) 65536) (fun i => cF w i 1 (65536 ^ 16) 65536) 8 8 0 (Nat.le_refl _) (chk_all h3 h6) k (by omega)
    rw [Nat.zero_add] at hc
    have z := b.nought (K := 65536) (by omega) (bE_le k hk).2 (by
      show eF (fun i => tC w (lapsC w) i 1 (65536 ^ 16) 65536) k 0 - cF w (k + 1) 1 (65536 ^ 16) 65536 = 0
      rw [hc]; omega)
    intro p q X
    have := z p q X
    omega
end

/-! ## one division -/
def hs (M : Int) (f : Nat → Int) : Nat → Int
  | 0 => 0
  | n + 1 => hs M f n * M + f n
theorem hs_lin (M c : Int) (f g : Nat → Int) : ∀ n, hs M (fun j => f j - c * g j) n = hs M f n - c * hs M g n
  | 0 => by simp [hs]
  | n + 1 => by rw [hs, hs, hs, hs_lin M c f g n, Int.sub_mul, Int.mul_add, Int.mul_assoc]; omega
theorem hs_head (M : Int) (f : Nat → Int) : ∀ n, hs M f (n + 1) = f 0 * M ^ n + hs M (fun j => f (j + 1)) n
  | 0 => by simp [hs]
  | n + 1 => by
    rw [hs, hs_head M f n, hs, Int.add_mul, Int.pow_succ, Int.mul_assoc]; omega
theorem eF_zero {t : Nat → Int} {n : Nat} (h : ∀ i, n < i → t i = 0) : ∀ k j, n ≤ j → eF t k j = 0
  | 0, j, hj => by rw [eF, h (j + 1) (by omega), Int.mul_zero]
  | k + 1, j, hj => by rw [eF, eF_zero h k (j + 1) (by omega), h (j + 1) (by omega), Int.mul_zero]; rfl
theorem hs_step {t : Nat → Int} {n : Nat} (M : Int) (h1 : t 0 = 1) (h : ∀ i, n < i → t i = 0) (k : Nat) : hs M (eF t (k + 1)) n = M * hs M (eF t k) n - eF t k 0 * hs M t (n + 1) := by
  have e1 : hs M (eF t k) (n + 1) = M * hs M (eF t k) n := by rw [hs, eF_zero h k n (Nat.le_refl _), Int.add_zero, Int.mul_comm]
  have e2 := hs_head M (eF t k) n
  have e3 := hs_head M t n
  have e4 : hs M (eF t (k + 1)) n = hs M (fun j => eF t k (j + 1)) n - eF t k 0 * hs M (fun j => t (j + 1)) n := hs_lin M (eF t k 0) _ _ n
  rw [e4, e3, h1, Int.one_mul, Int.mul_add, ← e1, e2]; omega
theorem hs_div {t c : Nat → Int} {n : Nat} (M : Int) (h1 : t 0 = 1) (h : ∀ i, n < i → t i = 0) (N : Nat) (hc : ∀ k, k < N → eF t k 0 = c (k + 1)) : ∀ k, k ≤ N → M ^ k * hs M (eF t 0) n = hs M (fun i => c (i + 1)) k * hs M t (n + 1) + hs M (eF t k) n
  | 0, _ => by simp [hs]
  | k + 1, hk => by
    have a := hs_div M h1 h N hc k (by omega)
    rw [hs_step M h1 h k, hc k (by omega), hs, Int.add_mul, Int.pow_succ, Int.mul_comm (M ^ k) M, Int.mul_assoc, a, Int.mul_add, Int.mul_comm (hs M (fun i => c (i + 1)) k) M, Int.mul_assoc]
    omega
theorem hs_bound {M m : Int} (hm : 0 ≤ m) (hM : 2 * m ≤ M) : ∀ (n : Nat) (f : Nat → Int) (A : Int), 0 ≤ A → (∀ j, j < n + 1 → -(A * m ^ j) ≤ f j ∧ f j ≤ A * m ^ j) → -(2 * A * M ^ n) ≤ hs M f (n + 1) ∧ hs M f (n + 1) ≤ 2 * A * M ^ n
  | 0, f, A, hA, h => by
    have := h 0 (by omega)
    simp [hs] at this ⊢
    omega
  | n + 1, f, A, hA, h => by
    have h0 := h 0 (by omega)
    rw [Int.pow_zero, Int.mul_one] at h0
    have a := hs_bound hm hM n (fun j => f (j + 1)) (A * m) (Int.mul_nonneg hA hm) fun j hj => by
      have := h (j + 1) (by omega)
      rwa [Int.pow_succ, Int.mul_comm (m ^ j), ← Int.mul_assoc] at this
    rw [hs_head]
    have pM : 0 ≤ M ^ n := Int.pow_nonneg (by omega)
    have e1 : 2 * (A * m) * M ^ n ≤ A * M ^ (n + 1) := by
      have := Int.mul_le_mul_of_nonneg_left hM (Int.mul_nonneg hA pM)
      rw [Int.pow_succ]
      have e2 : A * M ^ n * (2 * m) = 2 * (A * m) * M ^ n := by simp only [Int.mul_assoc, Int.mul_left_comm, Int.mul_comm]
      have e3 : A * M ^ n * M = A * (M ^ n * M) := Int.mul_assoc ..
      omega
    have pM1 : 0 ≤ M ^ (n + 1) := Int.pow_nonneg (by omega)
    have b1 := Int.mul_le_mul_of_nonneg_right h0.2 pM1
    have b2 := Int.mul_le_mul_of_nonneg_right h0.1 pM1
    rw [Int.neg_mul] at b2
    have e4 : 2 * A * M ^ (n + 1) = A * M ^ (n + 1) + A * M ^ (n + 1) := by rw [Int.mul_assoc]; omega
    omega
theorem mono_step {p q m u : Int} {j : Nat} (hp : 1 ≤ p) (hq : 1 ≤ q) (hpm : p ≤ m) (hqm : q ≤ m) (h : ∀ b, 2 * b ≤ j → p ^ (j - 2 * b) * q ^ b ≤ u) : ∀ b, 2 * b ≤ j + 1 → p ^ (j + 1 - 2 * b) * q ^ b ≤ u * m := by
  intro b hb
  have pos : ∀ a b : Nat, 0 ≤ p ^ a * q ^ b := fun a b => Int.mul_nonneg (Int.pow_nonneg (by omega)) (Int.pow_nonneg (by omega))
  by_cases c : 2 * b ≤ j
  · have e : p ^ (j - 2 * b) * p * q ^ b = p ^ (j - 2 * b) * q ^ b * p := by rw [Int.mul_assoc, Int.mul_comm p, ← Int.mul_assoc]
    rw [show j + 1 - 2 * b = (j - 2 * b) + 1 by omega, Int.pow_succ, e]
    exact Int.mul_le_mul (h b c) hpm (by omega) (Int.le_trans (pos _ _) (h b c))
  · obtain ⟨b', rfl⟩ : ∃ b', b = b' + 1 := ⟨b - 1, by omega⟩
    have h0 := h b' (by omega)
    rw [show j - 2 * b' = 1 by omega] at h0
    rw [show j + 1 - 2 * (b' + 1) = 0 by omega, Int.pow_zero, Int.one_mul, Int.pow_succ]
    have q0 : 0 ≤ q ^ b' := Int.pow_nonneg (by omega)
    rw [Int.pow_succ, Int.pow_zero, Int.one_mul] at h0
    have l1 : q ^ b' ≤ p * q ^ b' := by
      have := Int.mul_le_mul_of_nonneg_right hp q0
      omega
    exact Int.mul_le_mul (Int.le_trans l1 h0) hqm (by omega) (Int.le_trans q0 (Int.le_trans l1 h0))
theorem mono_steps {p q m u : Int} {j : Nat} (hp : 1 ≤ p) (hq : 1 ≤ q) (hpm : p ≤ m) (hqm : q ≤ m) (h : ∀ b, 2 * b ≤ j → p ^ (j - 2 * b) * q ^ b ≤ u) : ∀ i b, 2 * b ≤ j + i → p ^ (j + i - 2 * b) * q ^ b ≤ u * m ^ i
  | 0, b, hb => by rw [Int.pow_zero, Int.mul_one]; exact h b hb
  | i + 1, b, hb => by
    rw [Int.pow_succ, ← Int.mul_assoc]
    exact mono_step hp hq hpm hqm (mono_steps hp hq hpm hqm h i) b hb
theorem sum_nonneg' {α : Type} {f : α → Int} : ∀ {l : List α}, (∀ x ∈ l, 0 ≤ f x) → 0 ≤ (l.map f).sum ∧ ∀ x ∈ l, f x ≤ (l.map f).sum
  | [], _ => ⟨Int.le_refl _, (fun _ h => nomatch h)⟩
  | y :: l, h => by
    obtain ⟨a, b⟩ := sum_nonneg' (f := f) (l := l) fun x hx => h x (.tail _ hx)
    have hy := h y (.head _)
    rw [List.map_cons, List.sum_cons]
    refine ⟨by omega, fun x hx => ?_⟩
    rcases List.mem_cons.mp hx with rfl | hx
    · omega
    · have := b x hx; omega
theorem rowW_nonneg {w r : List Bool} {p q X : Int} (hp : 0 ≤ p) (hq : 0 ≤ q) (hX : 0 ≤ X) : 0 ≤ rowW w r p q X :=
  Int.mul_nonneg (Int.mul_nonneg (Int.natCast_nonneg _) (Int.mul_nonneg (Int.pow_nonneg hp) (Int.pow_nonneg hq))) (Int.pow_nonneg hX)
theorem one_le_pow {X : Int} (h : 1 ≤ X) (k : Nat) : 1 ≤ X ^ k := by
  have : 0 < X ^ k := Int.pow_pos (by omega)
  omega
theorem c8_ge (w : List Bool) {p q X s : Int} (hp : 1 ≤ p) (hq : 1 ≤ q) (hX : 1 ≤ X) (hs : s = p * p ∨ s = q) : s ^ 4 ≤ cF w 8 p q X := by
  obtain ⟨_, h⟩ := sum_nonneg' (f := fun r => rowW w r p q X) (l := rowsF 8) fun r _ => rowW_nonneg (by omega) (by omega) (by omega)
  rcases hs with rfl | rfl
  · refine Int.le_trans ?_ (h (List.replicate 8 false) (by decide))
    have hx := one_le_pow hX (stands w (List.replicate 8 false))
    have e : rowW w (List.replicate 8 false) p q X = p ^ 8 * X ^ stands w (List.replicate 8 false) := by
      show ((1 : Nat) : Int) * (p ^ 8 * q ^ 0) * _ = _
      simp
    show (p * p) ^ 4 ≤ rowW w (List.replicate 8 false) p q X
    rw [e, Int.mul_pow, ← Int.pow_add]
    have := Int.mul_le_mul_of_nonneg_left hx (show 0 ≤ p ^ (4 + 4) from Int.pow_nonneg (by omega))
    rwa [Int.mul_one] at this
  · refine Int.le_trans ?_ (h (List.replicate 4 true) (by decide))
    have hx := one_le_pow hX (stands w (List.replicate 4 true))
    have e : rowW w (List.replicate 4 true) p s X = 2 * (s ^ 4 * X ^ stands w (List.replicate 4 true)) := by
      show ((2 : Nat) : Int) * (p ^ 0 * s ^ 4) * _ = _
      simp [Int.mul_assoc]
    show s ^ 4 ≤ rowW w (List.replicate 4 true) p s X
    rw [e]
    have p4 : 0 ≤ s ^ 4 := Int.pow_nonneg (by omega)
    have := Int.mul_le_mul_of_nonneg_left hx p4
    rw [Int.mul_one] at this
    omega
theorem two_pow_le {m : Int} (h : 2 ≤ m) : ∀ k : Nat, (2 : Int) ^ k ≤ m ^ k
  | 0 => by rw [Int.pow_zero, Int.pow_zero]; exact Int.le_refl _
  | k + 1 => by rw [Int.pow_succ, Int.pow_succ]; exact Int.mul_le_mul (two_pow_le h k) h (by omega) (Int.pow_nonneg (by omega))
theorem hs_nonneg {M : Int} (hM : 0 ≤ M) {f : Nat → Int} : ∀ n, (∀ i, i < n → 0 ≤ f i) → 0 ≤ hs M f n
  | 0, _ => Int.le_refl _
  | n + 1, h => by
    have a := Int.mul_nonneg (hs_nonneg hM n fun i hi => h i (by omega)) hM
    have b := h n (by omega)
    rw [hs]; omega
theorem rows_small : ∀ i, i < 8 → (rowsF (i + 1)).length * 2 ≤ 68 := by decide
theorem rows_small7 : ∀ i, i < 7 → (rowsF (i + 1)).length * 2 ≤ 42 := by decide
theorem low_mul {a b c : Int} (hc : 0 ≤ c) (h : a ≤ b) : a * c ≤ b * c := Int.mul_le_mul_of_nonneg_right h hc
/-- the numbers that the division shows -/
theorem plain01 {w : List Bool} (h3 : 3 ≤ w.length) (h6 : w.length ≤ 6) {p q X m : Int} (hp : 1 ≤ p) (hq : 1 ≤ q) (hpm : p ≤ m) (hqm : q ≤ m) (hm : 2 ≤ m) (hX : 2048 * m ^ 8 ≤ X)
    {t : Nat → Int} (ht : t = fun i => tC w (lapsC w) i p q X) {D N due : Int} (hD : D = hs (X ^ 9) t (sg w + 2)) (hN : N = hs (X ^ 9) (fun i => -((i : Int) * t i)) (sg w + 2) * X ^ 63) (hdue : due = hs (X ^ 9) (fun i => cF w (i + 1) p q X) 7) :
    0 ≤ N - due * D ∧ N - due * D < D ∧ 0 ≤ due ∧ due < D * D := by
  have hl : (lapsC w).length ≤ 6 := Nat.le_trans (lapGo_len _ _ _) h6
  obtain ⟨k, hk, hk2⟩ : ∃ k, sg w = k + 1 ∧ 2 ≤ k := ⟨sg w - 1, by have := (sg_ge w).1; omega, by have := (sg_ge w).1; omega⟩
  have t0 : t 0 = 1 := by rw [ht]; exact tC_one (by omega) p q X
  have tz : ∀ i, sg w + 1 < i → t i = 0 := fun i hi => by rw [ht]; exact tC_zero hi p q X
  -- X is far
  have m7 : 128 * m ≤ m ^ 8 := by
    have := two_pow_le hm 7
    rw [show m ^ 8 = m ^ 7 * m from Int.pow_succ ..]
    exact low_mul (by omega) this
  have X1 : 262144 * m ≤ X := by omega
  obtain ⟨Y, hY⟩ : ∃ Y, Y = X ^ 8 := ⟨_, rfl⟩
  obtain ⟨M, hM⟩ : ∃ M, M = X ^ 9 := ⟨_, rfl⟩
  have hMY : M = Y * X := by rw [hM, hY]; exact Int.pow_succ ..
  have hXY : X ≤ Y := by
    have a := one_le_pow (X := X) (by omega) 7
    have b := low_mul (a := 1) (b := X ^ 7) (c := X) (by omega) a
    have c : X ^ 7 * X = X ^ 8 := (Int.pow_succ ..).symm
    omega
  have hYM : Y ≤ M := by
    have := low_mul (a := 1) (b := X) (c := Y) (by omega) (by omega)
    rw [hMY, Int.mul_comm]; omega
  have hmM : 2 * m ≤ M := by omega
  -- the monomials
  obtain ⟨s, hs1, hs2, hs3⟩ : ∃ s, p * p ≤ s ∧ q ≤ s ∧ (s = p * p ∨ s = q) := by
    rcases Int.le_total (p * p) q with h | h
    · exact ⟨q, h, Int.le_refl _, .inr rfl⟩
    · exact ⟨p * p, Int.le_refl _, h, .inl rfl⟩
  have hs0 : 1 ≤ s := by omega
  obtain ⟨u, hu⟩ : ∃ u, u = s ^ 4 := ⟨_, rfl⟩
  have hu1 : 1 ≤ u := by rw [hu]; exact one_le_pow hs0 4
  have hsm : s ≤ m * m := by
    have a : p * p ≤ m * m := Int.mul_le_mul hpm hpm (by omega) (by omega)
    have b := low_mul (a := 1) (b := m) (c := m) (by omega) (by omega)
    rcases hs3 with h | h <;> omega
  have powle : ∀ (a b : Int), 0 ≤ a → a ≤ b → ∀ k : Nat, a ^ k ≤ b ^ k := fun a b h0 h k => by
    induction k with
    | zero => rw [Int.pow_zero, Int.pow_zero]; exact Int.le_refl _
    | succ k ih => rw [Int.pow_succ, Int.pow_succ]; exact Int.mul_le_mul ih h h0 (Int.pow_nonneg (by omega))
  have hum : u ≤ m ^ 8 := by
    have a := powle s (m * m) (by omega) hsm 4
    rw [Int.mul_pow, ← Int.pow_add] at a
    rw [hu]; exact a
  have X2 : 2048 * u ≤ X := by omega
  have mono0 : ∀ b, 2 * b ≤ 0 → p ^ (0 - 2 * b) * q ^ b ≤ 1 := fun b hb => by
    have : b = 0 := by omega
    subst this
    simp
  have mono8 : ∀ b, 2 * b ≤ 8 → p ^ (8 - 2 * b) * q ^ b ≤ u := fun b hb => by
    have e1 : p ^ (8 - 2 * b) = (p * p) ^ (4 - b) := by rw [Int.mul_pow, ← Int.pow_add]; congr 1; omega
    have e2 : u = s ^ (4 - b) * s ^ b := by rw [hu, ← Int.pow_add]; congr 1; omega
    rw [e1, e2]
    exact Int.mul_le_mul (powle _ _ (Int.mul_nonneg (by omega) (by omega)) hs1 _) (powle _ _ (by omega) hs2 _) (Int.pow_nonneg (by omega)) (Int.pow_nonneg (by omega))
  have monoT := mono_steps (m := m) hp hq hpm hqm mono0
  have monoU := mono_steps (m := m) hp hq hpm hqm mono8
  have mpow : ∀ i : Nat, 0 ≤ m ^ i := fun i => Int.pow_nonneg (by omega)
  -- the terms
  have tb : ∀ i, -((38 * (m * X)) * m ^ i) ≤ t (i + 1) ∧ t (i + 1) ≤ (38 * (m * X)) * m ^ i := fun i => by
    have a := (IsP.tC hl (w := w) (i + 1)).le (p := p) (q := q) (X := X) (T := 1 * m ^ (i + 1)) (by omega) (by omega) (by omega) (by rw [Int.one_mul]; exact mpow _) (by
      have := monoT (i + 1)
      rwa [Nat.zero_add] at this)
    have e : ((38 : Nat) : Int) * (1 * m ^ (i + 1) * X ^ 1) = (38 * (m * X)) * m ^ i := by
      rw [Int.one_mul, Int.pow_succ, Int.pow_succ, Int.pow_zero, Int.one_mul, Int.mul_assoc (m ^ i), Int.mul_comm (m ^ i), ← Int.mul_assoc]; rfl
    rw [e] at a
    rw [ht]; exact a
  have mX0 : 0 ≤ m * X := Int.mul_nonneg (by omega) (by omega)
  have hTb := hs_bound (M := M) (m := m) (by omega) hmM (sg w) (fun i => t (i + 1)) (38 * (m * X)) (by omega) fun j _ => tb j
  -- what is left
  have hhead := heads h3 h6
  have e7 : ∀ j, -((4522 * (u * (m * Y))) * m ^ j) ≤ eF t 7 (j + 1) ∧ eF t 7 (j + 1) ≤ (4522 * (u * (m * Y))) * m ^ j := fun j => by
    have a := (e_at h6 0 0 0 7 (by omega) (fun i hi => hhead i (by omega)) (j + 1)).le (p := p) (q := q) (X := X) (T := u * m ^ (j + 1)) (by omega) (by omega) (by omega) (Int.mul_nonneg (by omega) (mpow _)) (by
      have := monoU (j + 1)
      rw [show 8 + (j + 1) = j + 1 + 7 + 1 by omega] at this
      exact this)
    have hb : ((bE 7 : Nat) : Int) = 4522 := by decide
    have e : (4522 : Int) * (u * m ^ (j + 1) * X ^ (7 + 1)) = (4522 * (u * (m * Y))) * m ^ j := by
      rw [show X ^ (7 + 1) = Y from hY.symm, Int.pow_succ]
      simp only [Int.mul_assoc, Int.mul_left_comm, Int.mul_comm]
    rw [hb, e] at a
    rw [ht]; exact a
  have umY0 : 0 ≤ u * (m * Y) := Int.mul_nonneg (by omega) (Int.mul_nonneg (by omega) (by omega))
  have hEb := hs_bound (M := M) (m := m) (by omega) hmM k (fun j => eF t 7 (j + 1)) (4522 * (u * (m * Y))) (by omega) fun j _ => e7 j
  obtain ⟨c8, hc8⟩ : ∃ c8, c8 = cF w 8 p q X := ⟨_, rfl⟩
  have c8a : u ≤ c8 := by rw [hu, hc8]; exact c8_ge w hp hq (by omega) hs3
  have c8b : c8 ≤ 68 * (u * Y) := by
    have a := ((IsP.cF w 8).mono (Nat.le_refl _) (rows_small 7 (by omega))).le (p := p) (q := q) (X := X) (T := u) (by omega) (by omega) (by omega) (by omega) mono8
    rw [← hY] at a
    rw [hc8]; exact a.2
  have e70 : eF t 7 0 = c8 := by rw [ht, hc8]; exact hhead 7 (by omega) p q X
  have hdiv := hs_div (t := t) (c := fun i => cF w i p q X) (n := sg w + 1) M t0 tz 8 (fun k hk => by rw [ht]; exact hhead k (by omega) p q X) 7 (by omega)
  have hN' : N = M ^ 7 * hs M (eF t 0) (sg w + 1) := by
    have a := hs_head M (fun i => -((i : Int) * t i)) (sg w + 1)
    have b : (fun j : Nat => -(((j + 1 : Nat) : Int) * t (j + 1))) = eF t 0 := by
      funext j; rw [eF, Int.neg_mul]
    rw [b] at a
    rw [hN, ← hM, a, show -(((0 : Nat) : Int) * t 0) = 0 by simp, Int.zero_mul, Int.zero_add, Int.mul_comm, hM, ← Int.pow_mul]
  have hleft : N - due * D = hs M (eF t 7) (sg w + 1) := by
    rw [hN', hdue, hD, ← hM, hdiv]; omega
  rw [hleft]
  -- put together
  have hE := hs_head M (eF t 7) (sg w)
  have hT := hs_head M t (sg w + 1)
  rw [← hM] at hD
  have hD' : D = t 0 * M ^ (sg w + 1) + hs M (fun j => t (j + 1)) (sg w + 1) := by rw [hD]; exact hT
  rw [t0, Int.one_mul] at hD'
  rw [e70] at hE
  rw [hk] at hE hD' hTb ⊢
  obtain ⟨Pk, hPk⟩ : ∃ Pk, Pk = M ^ k := ⟨_, rfl⟩
  obtain ⟨Z, hZ⟩ : ∃ Z, Z = Pk * M := ⟨_, rfl⟩
  have e1 : M ^ (k + 1) = Z := by rw [hZ, hPk]; exact Int.pow_succ ..
  have e2 : M ^ (k + 1 + 1) = Z * M := by rw [← e1]; exact Int.pow_succ ..
  rw [e1] at hE hTb
  rw [e2] at hD'
  rw [← hPk] at hEb
  have Pk1 : 1 ≤ Pk := by rw [hPk]; exact one_le_pow (by omega) k
  have Z1 : 1 ≤ Z := by rw [← e1]; exact one_le_pow (by omega) (k + 1)
  have g1 : 2 * (4522 * (u * (m * Y))) * Pk ≤ u * Z := by
    have a := low_mul (a := 9044 * m) (b := X) (c := u * (Y * Pk)) (Int.mul_nonneg (by omega) (Int.mul_nonneg (by omega) (by omega))) (by omega)
    have b : 9044 * m * (u * (Y * Pk)) = 2 * (4522 * (u * (m * Y))) * Pk := by
      rw [show 2 * (4522 * (u * (m * Y))) = 9044 * (u * (m * Y)) by omega]
      simp only [Int.mul_assoc, Int.mul_left_comm, Int.mul_comm]
    have c : X * (u * (Y * Pk)) = u * Z := by
      rw [hZ, hMY]; simp only [Int.mul_assoc, Int.mul_left_comm, Int.mul_comm]
    omega
  have g2 : c8 * Z ≤ 68 * (u * Y * Z) := by
    have := low_mul (c := Z) (by omega) c8b
    rwa [Int.mul_assoc] at this
  have g3 : u * Z ≤ u * Y * Z := by
    have := low_mul (a := 1) (b := Y) (c := u * Z) (Int.mul_nonneg (by omega) (by omega)) (by omega)
    have e : Y * (u * Z) = u * Y * Z := by simp only [Int.mul_assoc, Int.mul_left_comm, Int.mul_comm]
    omega
  have g4 : u * Z ≤ c8 * Z := low_mul (by omega) c8a
  have g5 : 2 * (38 * (m * X)) * Z * 2 ≤ Z * M := by
    have a := low_mul (a := 152 * m) (b := Y) (c := X * Z) (Int.mul_nonneg (by omega) (by omega)) (by omega)
    have b : 152 * m * (X * Z) = 2 * (38 * (m * X)) * Z * 2 := by
      have : 152 * m * (X * Z) = 152 * (m * X * Z) := by simp only [Int.mul_assoc]
      have : 2 * (38 * (m * X)) * Z = 76 * (m * X * Z) := by rw [show 2 * (38 * (m * X)) = 76 * (m * X) by omega, Int.mul_assoc]
      omega
    have c : Y * (X * Z) = Z * M := by rw [hMY]; simp only [Int.mul_assoc, Int.mul_left_comm, Int.mul_comm]
    omega
  have g6 : 138 * (u * Y * Z) + Z ≤ Z * M := by
    have a := low_mul (a := 138 * u + 1) (b := X) (c := Y * Z) (Int.mul_nonneg (by omega) (by omega)) (by omega)
    have b : (138 * u + 1) * (Y * Z) = 138 * (u * Y * Z) + Y * Z := by rw [Int.add_mul, Int.one_mul, Int.mul_assoc, Int.mul_assoc]
    have c : X * (Y * Z) = Z * M := by rw [hMY]; simp only [Int.mul_assoc, Int.mul_left_comm, Int.mul_comm]
    have d := low_mul (a := 1) (b := Y) (c := Z) (by omega) (by omega)
    omega
  -- how often
  have due0 : 0 ≤ due := by
    rw [hdue, ← hM]
    refine hs_nonneg (by omega) 7 fun i _ => ?_
    exact (sum_nonneg' (f := fun r => rowW w r p q X) (l := rowsF (i + 1)) fun r _ => rowW_nonneg (by omega) (by omega) (by omega)).1
  have dueb : due ≤ M ^ 7 := by
    obtain ⟨V, hV⟩ : ∃ V, V = X ^ 7 := ⟨_, rfl⟩
    have V0 : 0 ≤ V := by rw [hV]; exact Int.pow_nonneg (by omega)
    have a := hs_bound (M := M) (m := m) (by omega) hmM 6 (fun i => cF w (i + 1) p q X) (42 * (m * V)) (by have := Int.mul_nonneg (show 0 ≤ m by omega) V0; omega) fun j hj => by
      have a := ((IsP.cF w (j + 1)).mono (d' := 7) (by omega) (rows_small7 j hj)).le (p := p) (q := q) (X := X) (T := 1 * m ^ (j + 1)) (by omega) (by omega) (by omega) (by rw [Int.one_mul]; exact mpow _) (by
        have := monoT (j + 1)
        rwa [Nat.zero_add] at this)
      have e : ((42 : Nat) : Int) * (1 * m ^ (j + 1) * X ^ 7) = 42 * (m * V) * m ^ j := by
        rw [← hV, Int.one_mul, Int.pow_succ]
        show 42 * (m ^ j * m * V) = _
        simp only [Int.mul_assoc, Int.mul_left_comm, Int.mul_comm]
      rw [e] at a
      exact a
    rw [hdue, ← hM]
    refine Int.le_trans a.2 ?_
    have e : M ^ 7 = M * M ^ 6 := by rw [Int.mul_comm]; exact Int.pow_succ ..
    rw [e]
    refine low_mul (Int.pow_nonneg (by omega)) ?_
    have b := low_mul (a := 84 * m) (b := X) (c := V) V0 (by omega)
    have c : X * V = Y := by rw [hY, hV, Int.mul_comm]; exact (Int.pow_succ ..).symm
    have d : 84 * m * V = 2 * (42 * (m * V)) := by rw [Int.mul_assoc]; omega
    omega
  have dd : M ^ 7 < D * D := by
    have a : Z * M ≤ 2 * D := by omega
    have b : M ^ 4 ≤ Z * M := by
      rw [← e2, show k + 1 + 1 = 4 + (k - 2) by omega, Int.pow_add]
      have := Int.mul_le_mul_of_nonneg_left (one_le_pow (X := M) (by omega) (k - 2)) (show 0 ≤ M ^ 4 from Int.pow_nonneg (by omega))
      rwa [Int.mul_one] at this
    have c : M ^ 4 * M ^ 4 ≤ (2 * D) * (2 * D) := Int.mul_le_mul (Int.le_trans b a) (Int.le_trans b a) (Int.pow_nonneg (by omega)) (by have : 0 ≤ M ^ 4 := Int.pow_nonneg (by omega); omega)
    have d : (2 * D) * (2 * D) = 4 * (D * D) := by rw [Int.mul_assoc, Int.mul_left_comm D 2 D]; omega
    have e : M ^ 4 * M ^ 4 = M * M ^ 7 := by rw [← Int.pow_add, Int.mul_comm]; exact Int.pow_succ M 7
    have f := low_mul (a := 5) (b := M) (c := M ^ 7) (Int.pow_nonneg (by omega)) (by omega)
    have g := one_le_pow (X := M) (by omega) 7
    omega
  exact ⟨by omega, by omega, due0, by omega⟩
def Tv (j b : Int) : Int := if 36 * (j + 1) - b < 1 then 1 else if 26 < 36 * (j + 1) - b then 26 else 36 * (j + 1) - b
theorem Tv_bounds (j b : Int) : 1 ≤ Tv j b ∧ Tv j b ≤ 26 := by unfold Tv; split <;> (try split) <;> omega
set_option maxHeartbeats 4000000 in
theorem T_ok {w : World} {mg mb : Str → Option Value} (j b : Int) (hp : Hp) : FnOk ⟨PySem.Challenge.pw_wo0035_01, w, mg, mb⟩ "T" 1 [.int j, .int b] hp (fun r hp' => r = .int (Tv j b) ∧ hp' = hp) := by
  refine FnOk.of ["j", "bias"] (by with_unfolding_all rfl) (fun pm cd doc us h => ?_) rfl (by decide) (by decide) (by decide) rfl rfl rfl (fun C O hcl hd hu => ?_)
  · (refine Mine.lsb2 h ?_; intros; rfl)
  · repeat tb_start
    · refine ⟨?_, rfl⟩
      unfold Tv; simp_all
    · repeat tb_start
      · refine ⟨?_, rfl⟩
        unfold Tv; simp_all
      · repeat tb_start
        refine ⟨?_, rfl⟩
        unfold Tv; rw [if_neg (by omega), if_neg (by omega)]

/-- the figure that a sign shows -/
def digB (c : UInt8) : Option Int :=
  if 65 ≤ (c.toNat : Int) ∧ (c.toNat : Int) ≤ 90 then some (c.toNat - 65) else if 48 ≤ (c.toNat : Int) ∧ (c.toNat : Int) ≤ 57 then some (c.toNat - 22) else none
def decB (bias : Int) (strict : Bool) : List UInt8 → Int → Int → Int → Nat → Option V
  | [], _, _, _, pos => none
  | c :: cs, j, w, r, pos => match digB c with
    | some d => if d < Tv j bias then some (.tup [.int ((pos : Int) + 1), .int (r + d * w)]) else decB bias strict cs (j + 1) (w * (36 - Tv j bias)) (r + d * w) (pos + 1)
    | none => if strict then none else some (.tup [.int ((pos : Int) + 1), .none])
set_option maxHeartbeats 4000000 in
theorem decode_ok {w : World} {mg mb : Str → Option Value} (b : Array UInt8) (pos : Nat) (bias : Int) (strict : Bool) (res : V) (hp : Hp) (hz : b.size ≤ 100000) (h : decB bias strict (b.toList.drop pos) 0 1 0 pos = some res) :
    FnOk ⟨PySem.Challenge.pw_wo0035_01, w, mg, mb⟩ "decode_generalized_number" 2 [.bytes b, .int pos, .int bias, .str (if strict then "strict" else "ignore")] hp (fun r hp' => r = res ∧ hp' = hp) := by
  refine FnOk.of ["extended", "extpos", "bias", "errors"] (by with_unfolding_all rfl) (fun pm cd doc us h => ?_) rfl (by decide) (by decide) (by decide) rfl rfl rfl (fun C O hcl hd hu => ?_)
  · (refine Mine.lsb4 h ?_; intros; rfl)
  repeat tb_start
  refine Sx_While (fun n σ => ∃ (pos : Nat) (j w r : Int), n = b.size - pos ∧ decB bias strict (b.toList.drop pos) j w r pos = some res ∧
    σ = ⟨[("j", .int j), ("w", .int w), ("result", .int r), ("extpos", .int pos), ("bias", .int bias), ("errors", .str (if strict then "strict" else "ignore")), ("extended", .bytes b)], hp⟩) _ _ (St.le_of ?_ hp_refl) ⟨pos, 0, 1, 0, rfl, h, rfl⟩ ?_
  · tlg_ne
  rintro n σ ⟨pos, j, w, r, hn, h, hσ⟩
  subst hn hσ
  repeat tb_start
  rotate_left
  · rename_i q; cases q
  have hlt : pos < b.size := by
    rcases Nat.lt_or_ge pos b.size with q | q
    · exact q
    · rw [List.drop_eq_nil_of_le (by simpa using q)] at h; cases h
  have hdrop : b.toList.drop pos = b.toList[pos]'(by simpa using hlt) :: b.toList.drop (pos + 1) := List.drop_eq_getElem_cons (by simpa using hlt)
  refine sub_bytes (by intro _ _; with_unfolding_all rfl) (by omega) (by omega) (by omega) ?_
  generalize hc : (b.toList.getD (pos : Int).toNat 0) = c
  have hc' : b.toList[pos]'(by simpa using hlt) = c := by
    rw [← hc, Int.toNat_natCast, List.getD_eq_getElem?_getD, List.getElem?_eq_getElem (by simpa using hlt)]; rfl
  rw [hdrop, hc', decB] at h
  have hcb : (c.toNat : Int) < 256 := by have := c.toNat_lt; omega
  repeat tb_start
  · have hd : digB c = some ((c.toNat : Int) - 65) := by unfold digB; rw [if_pos ⟨by assumption, by assumption⟩]
    rw [hd] at h
    dsimp only at h
    refine callPost_i O (T_ok j bias hp) (by omega) (by omega) ?_
    rintro _ _ ⟨rfl, rfl⟩
    repeat tb_start
    · rename_i hlt; rw [if_pos hlt] at h
      exact ⟨Option.some.inj h, rfl⟩
    · rename_i hlt; rw [if_neg hlt] at h
      have tb := Tv_bounds j bias
      repeat tb_start
      refine loopW_next (b.size - (pos + 1)) _ (by omega) (St.le_of ?_ hp_refl) ⟨pos + 1, j + 1, w * (36 - Tv j bias), _, rfl, h, rfl⟩
      tlg_ne
  · repeat tb_start
    · exfalso; omega
    · have hd : digB c = none := by unfold digB; rw [if_neg (by omega), if_neg (by omega)]
      rw [hd] at h
      dsimp only at h
      cases strict
      · repeat tb_start
        refine ite_bool (fun q => by exact absurd q (by decide)) (fun _ => ?_)
        repeat tb_start
        exact ⟨Option.some.inj h, rfl⟩
      · cases h
    · exfalso; omega
  · repeat tb_start
    · have hd : digB c = some ((c.toNat : Int) - 22) := by unfold digB; rw [if_neg (by omega), if_pos ⟨by assumption, by assumption⟩]
      rw [hd] at h
      dsimp only at h
      refine callPost_i O (T_ok j bias hp) (by omega) (by omega) ?_
      rintro _ _ ⟨rfl, rfl⟩
      repeat tb_start
      · rename_i hlt; rw [if_pos hlt] at h
        exact ⟨Option.some.inj h, rfl⟩
      · rename_i hlt; rw [if_neg hlt] at h
        have tb := Tv_bounds j bias
        repeat tb_start
        refine loopW_next (b.size - (pos + 1)) _ (by omega) (St.le_of ?_ hp_refl) ⟨pos + 1, j + 1, w * (36 - Tv j bias), _, rfl, h, rfl⟩
        tlg_ne
    · have hd : digB c = none := by unfold digB; rw [if_neg (by omega), if_neg (by omega)]
      rw [hd] at h
      dsimp only at h
      cases strict
      · repeat tb_start
        refine ite_bool (fun q => by exact absurd q (by decide)) (fun _ => ?_)
        repeat tb_start
        exact ⟨Option.some.inj h, rfl⟩
      · cases h
    · have hd : digB c = none := by unfold digB; rw [if_neg (by omega), if_neg (by omega)]
      rw [hd] at h
      dsimp only at h
      cases strict
      · repeat tb_start
        refine ite_bool (fun q => by exact absurd q (by decide)) (fun _ => ?_)
        repeat tb_start
        exact ⟨Option.some.inj h, rfl⟩
      · cases h
set_option maxHeartbeats 4000000 in
theorem cells_ok {w : World} {mg mb : Str → Option Value} (ns : List Int) (f : Addr) (lo : Obj) (hp : Hp) (e : hp f = some (.raw lo)) (hlo : RawL lo ns) (hz : ns.length ≤ 1000) :
    FnOk ⟨PySem.Challenge.pw_wo0035_01, w, mg, mb⟩ "_law_cells" 1 [.ref f] hp (fun r hp' => ∃ (t : Addr) (cs : List Int), r = .ref t ∧ hp t = none ∧ cs.length = 6 ∧ (∀ a o, updH hp t (.lst (cs.map V.int)) a = some o → hp' a = some o)) := by
  refine FnOk.of ["script"] (by with_unfolding_all rfl) (fun pm cd doc us h => ?_) rfl (by decide) (by decide) (by decide) rfl rfl rfl (fun C O hcl hd hu => ?_)
  · (refine Mine.lsb1 h ?_; intros; rfl)
  repeat tb_start
  rename_i t ht
  dsimp only at ht
  refine Sx_For (by assumption) (by lcg_off) (by intro _; rfl) ?_
  repeat tb_start
  refine len_raw (by kbo_bools) hlo (by omega) ?_
  repeat tb_start
  rename_i r hr
  dsimp only at hr
  have rg := range_up (a := 0) (b := (ns.length : Int)) (by omega) (by omega) (by omega) (by omega)
  refine ⟨{ σ' := _, items := _, dep := _, it := iter_rng (by assumption) (n := ns.length) (by kbo_bools) rg.1 (by rw [rg.2]; omega), I := fun i σ => ∃ cs : List Int, cs.length = 6 ∧ σ = ⟨[("cells", .ref t), ("script", .ref f)], updH hp t (.lst (cs.map V.int))⟩, σ0 := _, le0 := St.le_of ?loc ?hpp, h0 := ⟨[53, 1, 35, 3, 10, 20], rfl, rfl⟩, hdep := fun _ _ _ => trivial, turn := ?turn, done := ?done }⟩
  case loc => tlg_ne
  case hpp => kct_strs
  case done =>
    rintro σ ⟨cs, h6, rfl⟩
    repeat tb_start
    exact ⟨t, cs, rfl, ht, h6, fun a o h => h⟩
  case turn =>
    rintro i y σ hy ⟨cs, h6, rfl⟩
    obtain ⟨hi, rfl⟩ := rangeL_get hy
    rw [show (0 : Int) + (i : Int) * 1 = (i : Int) by omega]
    have hm : (i : Int).fmod 6 = ((i % 6 : Nat) : Int) := by rw [Int.fmod_eq_emod_of_nonneg _ (by decide)]; omega
    have hm6 : i % 6 < 6 := Nat.mod_lt _ (by decide)
    repeat tb_start
    rw [hm]
    refine atSub_i (by kbo_bools) (by omega) (by omega) (by simp [h6]; omega) ?_
    intro old hold
    rw [Int.toNat_natCast, List.getElem?_map, List.getElem?_eq_getElem (by omega)] at hold
    cases hold
    repeat tb_start
    refine sub_raw (by intro _ _; with_unfolding_all rfl) (by kbo_bools) hlo (by omega) (by omega) (by omega) (x := ns[i]) (by simp [hi]) ?_
    repeat tb_start
    refine atSub_i (by kbo_bools) (by omega) (by omega) (by simp [h6]; omega) ?_
    repeat tb_start
    rw [Int.toNat_natCast, updH_idem]
    refine loopF_next _ (St.le_of ?_ ?_) ⟨cs.set (i % 6) (cs[i % 6] + ns[i]), by simp [h6], rfl⟩
    · tlg_ne
    · rw [List.map_set]; exact hp_refl
local macro_rules | `(tactic| tb_rel) => `(tactic| with_reducible (first
  | refine M1_n (T := "str") (name := Str.ofString "count") (id := "str.count") PySem.F.slot_str_count PySem.F.plainAttrs_str PySem.F.type_str_count (.inr (.inr ⟨_, rfl, rfl⟩)) (by with_unfolding_all rfl) (by with_unfolding_all rfl) ?_
  | refine count_s (c := false) (by with_unfolding_all rfl) ?_
  | refine count_s (c := true) (by with_unfolding_all rfl) ?_))
set_option maxHeartbeats 4000000 in
theorem signs_ok {w : World} {mg mb : Str → Option Value} (l : List Bool) (hp : Hp) : FnOk ⟨PySem.Challenge.pw_wo0035_01, w, mg, mb⟩ "_law_signs" 1 [.str (ws l)] hp (fun r hp' => r = .int (sg l) ∧ hp' = hp) := by
  refine FnOk.of ["row"] (by with_unfolding_all rfl) (fun pm cd doc us h => ?_) rfl (by decide) (by decide) (by decide) rfl rfl rfl (fun C O hcl hd hu => ?_)
  · (refine Mine.lsb1 h ?_; intros; rfl)
  repeat tb_start
  refine ⟨?_, rfl⟩
  unfold sg
  rw [Int.natCast_add, Int.natCast_mul]; rfl
/-! ## how many bits -/
def nb (x : Int) (k : Nat) : Prop := x.natAbs < 2 ^ k
theorem nb.mono {x : Int} {k l : Nat} (h : nb x k) (hl : k ≤ l) : nb x l := Nat.lt_of_lt_of_le h (Nat.pow_le_pow_right (by decide) hl)
theorem nb.mul {x y : Int} {k l : Nat} (h : nb x k) (h' : nb y l) : nb (x * y) (k + l) := by
  unfold nb at *
  rw [Int.natAbs_mul, Nat.pow_add]
  exact Nat.mul_lt_mul'' h h'
theorem nb.add {x y : Int} {k : Nat} (h : nb x k) (h' : nb y k) : nb (x + y) (k + 1) := by
  unfold nb at *
  rw [Nat.pow_succ]
  omega
theorem nb.sub {x y : Int} {k : Nat} (h : nb x k) (h' : nb y k) : nb (x - y) (k + 1) := by
  unfold nb at *
  rw [Nat.pow_succ]
  omega
theorem nb.pow {x : Int} {k : Nat} (h : nb x k) : ∀ n : Nat, nb (x ^ n) (k * n + 1)
  | 0 => by unfold nb; simp
  | n + 1 => by
    rw [Int.pow_succ]
    exact (nb.mul (nb.pow h n) h).mono (by rw [Nat.mul_succ]; omega)
theorem nb.bits {x : Int} {k : Nat} (h : nb x k) : Builtin.Int.intBits x ≤ k := intBits_le_iff.mpr h
theorem mulOk_nb {x y : Int} {k l : Nat} (h : nb x k) (h' : nb y l) (hs : k + l ≤ 1000000) : IntMulOk x y := by
  unfold IntMulOk
  have a := h.bits
  have b := h'.bits
  have : Builtin.Int.intTooBig ((Builtin.Int.intBits x : Int) + (Builtin.Int.intBits y : Int)) = false := by
    unfold Builtin.Int.intTooBig bitsLine
    rw [decide_eq_false_iff_not]
    omega
  rw [this, Bool.and_false]; simp
theorem pow_nb {x : Int} {k n : Nat} (h : nb x k) (hs : k * n ≤ 1000000) : (Builtin.Int.intBits x : Int) * (n : Int) ≤ 2 ^ 27 := by
  have := Nat.mul_le_mul_right n h.bits
  rw [← Int.natCast_mul]
  omega
set_option maxHeartbeats 4000000 in
theorem colours_ok {w : World} {mg mb : Str → Option Value} (l : List Bool) (p q : Int) (hp : Hp) (bp : nb p 10) (bq : nb q 10) (hl : l.length ≤ 100) :
    FnOk ⟨PySem.Challenge.pw_wo0035_01, w, mg, mb⟩ "_law_colours" 1 [.str (ws l), .int p, .int q] hp (fun r hp' => r = .int (col p q l) ∧ hp' = hp) := by
  refine FnOk.of ["row", "p", "q"] (by with_unfolding_all rfl) (fun pm cd doc us h => ?_) rfl (by decide) (by decide) (by decide) rfl rfl rfl (fun C O hcl hd hu => ?_)
  · (refine Mine.lsb3 h ?_; intros; rfl)
  have h1 : l.count false ≤ 100 := Nat.le_trans List.count_le_length hl
  have h2 : l.count true ≤ 100 := Nat.le_trans List.count_le_length hl
  repeat tb_start
  refine pow_ii (by omega) (pow_nb bp (by omega)) ?_
  repeat tb_start
  refine pow_ii (by omega) (pow_nb bq (by omega)) ?_
  rw [Int.toNat_natCast, Int.toNat_natCast]
  refine mul_ii (mulOk_nb (bp.pow _) (bq.pow _) (by omega)) ?_
  repeat tb_start
  exact ⟨rfl, rfl⟩
/-- a stretch of the law's body, from its k-th statement on -/
def Seg (G : GE) (k : Nat) (σ : St) (Q : Fl → St → Prop) : Prop :=
  ∀ ps bd sc, defOf G.prog "law" = some (ps, bd, sc) → ∀ C : Act sc, C.Ok G → OwnCl C → C.outer = [] → C.A.depth ≤ 310 → C.A.units ≤ 100 → Sx G C (execs (bd.drop k) C.env) σ Q
theorem Seg.of {G : GE} {k : Nat} {σ : St} {Q : Fl → St → Prop} {ps : Arguments} {bd : List Stmt} {sc : Scope} (hdef : defOf G.prog "law" = some (ps, bd, sc))
    (h : ∀ C : Act sc, C.Ok G → OwnCl C → C.outer = [] → C.A.depth ≤ 310 → C.A.units ≤ 100 → Sx G C (execs (bd.drop k) C.env) σ Q) : Seg G k σ Q := fun ps' bd' sc' e => by
  rw [hdef] at e; cases e; exact h
/-- going on with another stretch, from fewer facts -/
theorem Seg.go {G : GE} {k : Nat} {σ σ' : St} {Q : Fl → St → Prop} (H : Seg G k σ' Q) {ps : Arguments} {bd : List Stmt} {sc : Scope} (hdef : defOf G.prog "law" = some (ps, bd, sc)) {C : Act sc} (O : C.Ok G) (hcl : OwnCl C) (hout : C.outer = []) (hd : C.A.depth ≤ 310) (hu : C.A.units ≤ 100)
    {st : List Stmt} (hst : bd.drop k = st) (hle : St.le σ' σ) : Sx G C (execs st C.env) σ Q := fun P W s R => by
  have := H ps bd sc hdef C O hcl hout hd hu P W s (R.le hle)
  rw [hst] at this; exact this
theorem Sx.le {G : GE} {sc : Scope} {C : Act sc} {t : Sem Flow} {σ σ' : St} {Q : Fl → St → Prop} (h : Sx G C t σ' Q) (hl : St.le σ' σ) : Sx G C t σ Q := fun P W s R => h P W s (R.le hl)
def inFor : Option Stmt → List Stmt
  | some (.For _ _ b _ _) => b
  | _ => []
/-- a stretch of the body of the law's k-th statement, a loop -/
def Seg3 (G : GE) (k j : Nat) (σ : St) (Q : Fl → St → Prop) : Prop :=
  ∀ ps bd sc, defOf G.prog "law" = some (ps, bd, sc) → ∀ C : Act sc, C.Ok G → OwnCl C → C.outer = [] → C.A.depth ≤ 310 → C.A.units ≤ 100 → Sx G C (execs ((inFor bd[k]?).drop j) C.env) σ Q
def lawQ (sa : Addr) (lo : Obj) (tabs : List (Addr × Addr)) : Fl → St → Prop := fun fl σ => fl = .ret (.bool true) ∧ σ.hp sa = some (.raw lo) ∧ ∀ q ∈ tabs, ∃ ps, σ.hp q.2 = some (.raw (tabObj ps))
abbrev wsV (l : List Bool) : V := .str (ws l)
theorem add_s' {G : GE} {sc : Scope} {C : Act sc} {σ : St} {l m : List Bool} {y : Str} {Q : V → St → Prop} (hy : y = ws m) (hz : l.length + m.length ≤ 1000000) (h : Q (.str (ws (l ++ m))) σ) : F2 G C (binaryOp .Add) (.str (ws l)) (.str y) σ Q := by
  subst hy; exact add_s hz h
def putV (b : Bool) (v : V) : Option V := match v with
  | .str s => some (.str (s ++ ws [b]))
  | _ => none
theorem putV_ws (b : Bool) (l : List Bool) : putV b (wsV l) = some (wsV (l ++ [b])) := by unfold putV; dsimp only; rw [ws_append]
theorem putV_map (b : Bool) (ls : List (List Bool)) : (ls.map wsV).filterMap (putV b) = (ls.map (· ++ [b])).map wsV := by
  induction ls with
  | nil => rfl
  | cons l ls ih => rw [List.map_cons, List.filterMap_cons, putV_ws]; dsimp only; rw [ih]; rfl
theorem rowsF_step (i : Nat) : rowsF (i + 2) = (rowsF (i + 1)).map (· ++ [false]) ++ (rowsF i).map (· ++ [true]) := rfl
theorem rowsF_small : ∀ i, i ≤ 7 → (rowsF i).length ≤ 21 := by decide
theorem rowsF_len {n : Nat} {r : List Bool} (h : r ∈ rowsF n) : r.length ≤ n := by
  have := (sg_ge r).1
  rw [rowsF_sg n r h] at this; exact this
set_option maxHeartbeats 4000000 in
theorem rows_ok {w : World} {mg mb : Str → Option Value} (hp : Hp) :
    FnOk ⟨PySem.Challenge.pw_wo0035_01, w, mg, mb⟩ "_law_rows" 1 [.int 7] hp (fun r hp' => ∃ (t : Addr) (rs : List Addr), r = .ref t ∧ rs.length = 8 ∧ hp' t = some (.lst (rs.map V.ref)) ∧ (∀ i a, rs[i]? = some a → hp' a = some (.lst ((rowsF i).map wsV))) ∧ ∀ a o, hp a = some o → hp' a = some o) := by
  refine FnOk.of ["most"] (by with_unfolding_all rfl) (fun pm cd doc us h => ?_) rfl (by decide) (by decide) (by decide) rfl rfl rfl (fun C O hcl hd hu => ?_)
  · (refine Mine.lsb1 h ?_; intros; rfl)
  obtain ⟨⟨_, hL⟩, L', hcl'⟩ := id hcl
  repeat tb_start
  rename_i r0 hr0 t ht
  dsimp only at hr0 ht
  have hrt : r0 ≠ t := ne_of_none ht (updH_same ..)
  refine Sx_For (by assumption) (by lcg_off) (by intro _; rfl) ?_
  repeat tb_start
  rename_i rg hrg
  dsimp only at hrg
  have rr := range_up (a := 1) (b := 7 + 1) (by omega) (by omega) (by omega) (by omega)
  refine ⟨{ σ' := _, items := _, dep := _, it := iter_rng (by assumption) (n := 7) (by kbo_bools) rr.1 (by rw [rr.2]; omega), I := fun i σ => ∃ (rs : List Addr) (h : Hp), rs.length = i + 1 ∧ h t = some (.lst (rs.map V.ref)) ∧ (∀ j a, rs[j]? = some a → a ≠ t ∧ h a = some (.lst ((rowsF j).map wsV))) ∧ (∀ a o, hp a = some o → a ≠ t ∧ h a = some o) ∧ σ = ⟨[("rows", .ref t), ("most", .int 7)], h⟩, σ0 := _, le0 := St.le_of ?loc ?hpp, h0 := ⟨[r0], updH (updH hp r0 (.lst [V.str ""])) t (.lst [V.ref r0]), rfl, updH_same .., ?h1, ?h2, rfl⟩, hdep := fun _ _ _ => trivial, turn := ?turn, done := ?done }⟩
  case loc => tlg_ne
  case hpp => kct_strs
  case h1 =>
    intro j a hj
    cases j with
    | zero =>
      rw [List.getElem?_cons_zero] at hj
      cases hj
      refine ⟨hrt, upd_ne' hrt ((updH_same ..).trans (by with_unfolding_all rfl))⟩
    | succ j => cases hj
  case h2 => exact fun a o e => ⟨ne_of_none ht (upd_other hr0 e), upd_other ht (upd_other hr0 e)⟩
  case done =>
    rintro σ ⟨rs, h, h1, h2, h3, h4, rfl⟩
    rw [rangeL_length] at h1
    repeat tb_start
    exact ⟨t, rs, rfl, h1, h2, fun i a e => (h3 i a e).2, fun a o e => (h4 a o e).2⟩
  case turn =>
    rintro i y σ hy ⟨rs, h, h1, h2, h3, h4, rfl⟩
    obtain ⟨hi, rfl⟩ := rangeL_get hy
    rw [show (1 : Int) + (i : Int) * 1 = ((i + 1 : Nat) : Int) by omega]
    obtain ⟨ra, hra⟩ : ∃ a, rs[i]? = some a := ⟨rs[i], List.getElem?_eq_getElem (by omega)⟩
    obtain ⟨na, ea⟩ := h3 i ra hra
    have small := rowsF_small i (by omega)
    repeat tb_start
    refine Sx_AssignComp O hL (by with_unfolding_all rfl) (by lcg_off) (by unfold Act.env; rw [hcl']; with_unfolding_all rfl) (by (repeat (refine List.forall_mem_cons.mpr ⟨⟨by rw [hcl']; with_unfolding_all rfl, by with_unfolding_all rfl, by with_unfolding_all rfl⟩, ?_⟩)); exact fun _ h => (nomatch h)) (by decide) rfl (by decide) (by with_unfolding_all rfl) (by intro _; rfl) ?_
    repeat tb_start
    refine sub_list (by intro _ _; with_unfolding_all rfl) h2 (by omega) (by omega) (v := V.ref ra) (by rw [show (((i + 1 : Nat) : Int) - 1).toNat = i by omega, List.getElem?_map, hra]; rfl) ?_
    refine fm_plan (putV false) _ _ _ (iter_list2 O ea) (by rw [List.length_map]; omega) ea ?_ ?_
    · rintro C' O' hA hcl2 j y hy
      rw [List.getElem?_map] at hy
      obtain ⟨l, hl, rfl⟩ := Option.map_eq_some_iff.mp hy
      have hll := rowsF_len (List.mem_of_getElem? hl)
      unfold CT
      dsimp only
      repeat tb_start
      refine add_s' (m := [false]) (by with_unfolding_all rfl) (by simp; omega) ?_
      refine ⟨(putV_ws false l).symm, ?_⟩
      k_places
    rw [putV_map]
    intro lo hlo
    dsimp only at hlo ⊢
    have hlt : t ≠ lo := ne_of_none hlo h2
    repeat tb_start
    · rename_i hc
      obtain ⟨k, rfl⟩ : ∃ k, i = k + 1 := ⟨i - 1, by omega⟩
      obtain ⟨rb, hrb⟩ : ∃ a, rs[k]? = some a := ⟨rs[k], List.getElem?_eq_getElem (by omega)⟩
      obtain ⟨nb', eb⟩ := h3 k rb hrb
      have small2 := rowsF_small k (by omega)
      have hbl : rb ≠ lo := ne_of_none hlo eb
      repeat tb_start
      refine Ev_ListComp O hL (by unfold Act.env; rw [hcl']; with_unfolding_all rfl) (by (repeat (refine List.forall_mem_cons.mpr ⟨⟨by rw [hcl']; with_unfolding_all rfl, by with_unfolding_all rfl, by with_unfolding_all rfl⟩, ?_⟩)); exact fun _ h => (nomatch h)) (by decide) rfl (by decide) (by with_unfolding_all rfl) (by intro _; rfl) ?_
      repeat tb_start
      refine sub_list (by intro _ _; with_unfolding_all rfl) (upd_ne' hlt h2) (by omega) (by omega) (v := V.ref rb) (by rw [show (((k + 1 + 1 : Nat) : Int) - 2).toNat = k by omega, List.getElem?_map, hrb]; rfl) ?_
      refine fm_plan (putV true) _ _ _ (iter_list2 O (upd_ne' hbl eb)) (by rw [List.length_map]; omega) (upd_ne' hbl eb) ?_ ?_
      · rintro C' O' hA hcl2 j y hy
        rw [List.getElem?_map] at hy
        obtain ⟨l, hl, rfl⟩ := Option.map_eq_some_iff.mp hy
        have hll := rowsF_len (List.mem_of_getElem? hl)
        unfold CT
        dsimp only
        repeat tb_start
        refine add_s' (m := [true]) (by with_unfolding_all rfl) (by simp; omega) ?_
        refine ⟨(putV_ws true l).symm, ?_⟩
        k_places
      rw [putV_map]
      intro lb hlb
      dsimp only at hlb ⊢
      have hlob : lo ≠ lb := ne_of_none hlb (updH_same ..)
      have htb : t ≠ lb := ne_of_none hlb (upd_ne' hlt h2)
      repeat tb_start
      refine extend_l (by kbo_bools) (by kbo_bools) (by simp; omega) ?_
      refine ⟨rfl, ?_⟩
      repeat tb_start
      refine append_l (xs := rs.map V.ref) (upd_ne' hlt (upd_ne' htb (upd_ne' hlt h2))) (by simp; omega) ?_
      refine ⟨rfl, ?_⟩
      repeat tb_start
      refine loopF_next ⟨[("rows", .ref t), ("most", .int 7)], _⟩ (St.le_of ?_ hp_refl) ⟨rs ++ [lo], _, by simp; omega, ?_, ?_, ?_, rfl⟩
      · tlg_ne
      · rw [updH_same, List.map_append]; rfl
      · intro j a hj
        rw [List.getElem?_append] at hj
        split at hj
        · obtain ⟨n1, e1⟩ := h3 j a hj
          have n2 : a ≠ lo := ne_of_none hlo e1
          have n3 : a ≠ lb := ne_of_none hlb (upd_ne' n2 e1)
          exact ⟨n1, upd_ne' n1 (upd_ne' n2 (upd_ne' n3 (upd_ne' n2 e1)))⟩
        · rename_i hjl
          have hj0 : j = k + 2 := by
            have := (List.getElem?_eq_some_iff.mp hj).1
            simp at this; omega
          rw [hj0, h1, show k + 2 - (k + 1 + 1) = 0 by omega] at hj
          cases hj
          rw [hj0, rowsF_step, List.map_append]
          exact ⟨Ne.symm hlt, upd_ne' (Ne.symm hlt) (updH_same ..)⟩
      · intro a o e
        obtain ⟨n1, e1⟩ := h4 a o e
        have n2 : a ≠ lo := ne_of_none hlo e1
        have n3 : a ≠ lb := ne_of_none hlb (upd_ne' n2 e1)
        exact ⟨n1, upd_ne' n1 (upd_ne' n2 (upd_ne' n3 (upd_ne' n2 e1)))⟩
    · rename_i hc
      have hi0 : i = 0 := by omega
      subst hi0
      repeat tb_start
      refine append_l (xs := rs.map V.ref) (upd_ne' hlt h2) (by simp; omega) ?_
      refine ⟨rfl, ?_⟩
      repeat tb_start
      refine loopF_next ⟨[("rows", .ref t), ("most", .int 7)], _⟩ (St.le_of ?_ hp_refl) ⟨rs ++ [lo], _, by simp; omega, ?_, ?_, ?_, rfl⟩
      · tlg_ne
      · rw [updH_same, List.map_append]; rfl
      · intro j a hj
        rw [List.getElem?_append] at hj
        split at hj
        · obtain ⟨n1, e1⟩ := h3 j a hj
          have n2 : a ≠ lo := ne_of_none hlo e1
          exact ⟨n1, upd_ne' n1 (upd_ne' n2 e1)⟩
        · rename_i hjl
          have hj0 : j = 1 := by
            have := (List.getElem?_eq_some_iff.mp hj).1
            simp at this; omega
          rw [hj0, h1, show 1 - (0 + 1) = 0 by omega] at hj
          cases hj
          rw [hj0]
          exact ⟨Ne.symm hlt, upd_ne' (Ne.symm hlt) (updH_same ..)⟩
      · intro a o e
        obtain ⟨n1, e1⟩ := h4 a o e
        have n2 : a ≠ lo := ne_of_none hlo e1
        exact ⟨n1, upd_ne' n1 (upd_ne' n2 e1)⟩
theorem nb.col {p q : Int} (bp : nb p 10) (bq : nb q 10) (l : List Bool) : nb (col p q l) (10 * l.length + 2) := by
  refine ((bp.pow (l.count false)).mul (bq.pow (l.count true))).mono ?_
  have := List.length_eq_countP_add_countP (p := fun b : Bool => b == false) (l := l)
  have e1 : l.count false = l.countP (· == false) := rfl
  have e2 : l.count true = l.countP (fun b => ¬ (b == false) = true) := by
    unfold List.count
    congr 1
    funext b
    cases b <;> rfl
  omega
theorem nb.sum {k : Nat} : ∀ {l : List Int}, (∀ x ∈ l, nb x k) → nb l.sum (k + l.length)
  | [], _ => by unfold nb; simp; exact Nat.pow_pos (by decide)
  | x :: l, h => by
    have a := nb.sum (l := l) fun y hy => h y (.tail _ hy)
    rw [List.sum_cons, List.length_cons]
    exact (nb.add ((h x (.head _)).mono (by omega)) a).mono (by omega)
theorem nb.small {p : Int} (h : nb p 10) (x : Int) : IntMulOk p x := IntMulOk.of_left (Nat.le_trans h.bits (by decide))
def tF0 (w : List Bool) (laps : List Nat) (p q X : Int) (i : Nat) : Int := sh w laps p q X (i + 2) - p * sh w laps p q X (i + 1) - q * sh w laps p q X i
def behV (w : List Bool) (p q : Int) (k : Nat) (v : V) : Option V := match v with
  | .int lap => if sg (w.drop lap.toNat) = k then some (.int (col p q (w.drop lap.toNat))) else none
  | _ => none
theorem behV_map (w : List Bool) (p q : Int) (k : Nat) (laps : List Nat) : (laps.map fun n : Nat => V.int n).filterMap (behV w p q k) = ((laps.filter fun lap => sg (w.drop lap) == k).map fun lap => col p q (w.drop lap)).map V.int := by
  induction laps with
  | nil => rfl
  | cons a l ih =>
    rw [List.map_cons, List.filterMap_cons]
    unfold behV
    dsimp only
    rw [Int.toNat_natCast]
    by_cases h : sg (w.drop a) = k
    · rw [if_pos h, List.filter_cons_of_pos (by rw [beq_iff_eq]; exact h), List.map_cons, List.map_cons]
      exact congrArg _ ih
    · rw [if_neg h, List.filter_cons_of_neg (by rw [beq_iff_eq]; exact h)]
      exact ih
def tF0V (w : List Bool) (laps : List Nat) (p q X : Int) (v : V) : Option V := match v with
  | .int i => some (.int (tF0 w laps p q X i.toNat))
  | _ => none
theorem tF0V_map (w : List Bool) (laps : List Nat) (p q X : Int) (n : Nat) : (rangeL 0 1 n).filterMap (tF0V w laps p q X) = (List.range n).map fun i => V.int (tF0 w laps p q X i) := by
  unfold rangeL
  rw [List.filterMap_map, ← List.filterMap_eq_map]
  congr 1
  funext i
  simp [tF0V]
theorem terms_set (w : List Bool) (laps : List Nat) (p q X : Int) : ((List.range (sg w + 2)).map fun i => V.int (tF0 w laps p q X i)).set (sg w) (.int (tF0 w laps p q X (sg w) + (1 - X) * col p q w)) = (List.range (sg w + 2)).map fun i => V.int (tF w laps i p q X) := by
  apply List.ext_getElem?
  intro j
  rw [List.getElem?_set, List.getElem?_map, List.getElem?_map, List.length_map, List.length_range]
  by_cases h : sg w = j
  · subst h
    rw [if_pos rfl, if_pos (by omega), List.getElem?_range (by omega)]
    simp only [Option.map_some]
    unfold tF tF0
    rw [if_pos rfl]
  · rw [if_neg h]
    rcases Nat.lt_or_ge j (sg w + 2) with q1 | q1
    · rw [List.getElem?_range q1]
      simp only [Option.map_some]
      unfold tF tF0
      rw [if_neg (Ne.symm h), Int.add_zero]
    · rw [List.getElem?_eq_none (by simpa using q1)]; rfl
set_option maxHeartbeats 8000000 in
theorem terms_ok {w : World} {mg mb : Str → Option Value} (l : List Bool) (laps : List Nat) (la : Addr) (p q X : Int) (hp : Hp) (e : hp la = some (.lst (laps.map fun n : Nat => V.int n))) (hl : l.length ≤ 6) (hla : ∀ a ∈ laps, a ≤ l.length) (hll : laps.length ≤ 6) (bp : nb p 10) (bq : nb q 10) (bX : nb X 212) :
    FnOk ⟨PySem.Challenge.pw_wo0035_01, w, mg, mb⟩ "_law_terms" 2 [.str (ws l), .ref la, .int p, .int q, .int X] hp (fun r hp' => ∃ t, r = .ref t ∧ hp' t = some (.lst ((List.range (sg l + 2)).map fun i => V.int (tF l laps i p q X))) ∧ ∀ a o, hp a = some o → hp' a = some o) := by
  refine FnOk.of ["word", "laps", "p", "q", "mark"] (by with_unfolding_all rfl) (fun pm cd doc us h => ?_) rfl (by decide) (by decide) (by decide) rfl rfl rfl (fun C O hcl hd hu => ?_)
  · (refine Mine.lsb5 h ?_; intros; rfl)
  obtain ⟨⟨_, hL⟩, L', hcl'⟩ := id hcl
  have hsg := (sg_ge l).2
  repeat tb_start
  refine callPost_i O (signs_ok l hp) (by omega) (by omega) ?_
  rintro _ hp1 ⟨rfl, rfl⟩
  repeat tb_start
  rename_i t ht
  dsimp only at ht
  have hlt : la ≠ t := ne_of_none ht e
  refine Sx_For (by assumption) (by lcg_off) (by intro _; rfl) ?_
  repeat tb_start
  rename_i rg hrg
  dsimp only at hrg
  have rr := range_up (a := 1) (b := (sg l : Int) + 2) (by omega) (by omega) (by omega) (by omega)
  refine ⟨{ σ' := _, items := _, dep := _, it := iter_rng (by assumption) (n := sg l + 1) (by kbo_bools) rr.1 (by rw [rr.2]; omega), I := fun i σ => ∃ h : Hp, h t = some (.lst ((List.range (i + 3)).map fun k => V.int (sh l laps p q X k))) ∧ (∀ a o, hp1 a = some o → a ≠ t ∧ h a = some o) ∧
    σ = ⟨[("shares", .ref t), ("whole", .int (sg l : Nat)), ("word", .str (ws l)), ("laps", .ref la), ("p", .int p), ("q", .int q), ("mark", .int X)], h⟩, σ0 := _, le0 := St.le_of ?loc ?hpp, h0 := ⟨updH hp1 t (.lst [.int 0, .int 0, .int 1]), updH_same .., fun a o q => ⟨ne_of_none ht q, upd_other ht q⟩, rfl⟩, hdep := fun _ _ _ => trivial, turn := ?turn, done := ?done }⟩
  case loc => tlg_ne
  case hpp => kct_strs
  case turn =>
    rintro i y σ hy ⟨h, h1, h2, rfl⟩
    obtain ⟨hi, rfl⟩ := rangeL_get hy
    rw [show (1 : Int) + (i : Int) * 1 = ((i + 1 : Nat) : Int) by omega]
    obtain ⟨_, ela⟩ := h2 _ _ e
    repeat tb_start
    refine Sx_AssignComp O hL (by with_unfolding_all rfl) (by lcg_off) (by unfold Act.env; rw [hcl']; with_unfolding_all rfl) (by (repeat (refine List.forall_mem_cons.mpr ⟨⟨by rw [hcl']; with_unfolding_all rfl, by with_unfolding_all rfl, by with_unfolding_all rfl⟩, ?_⟩)); exact fun _ h => (nomatch h)) (by decide) rfl (by decide) (by with_unfolding_all rfl) (by intro _; rfl) ?_
    repeat tb_start
    refine fm_plan (behV l p q (i + 1)) _ _ _ (iter_list2 O ela) (by rw [List.length_map]; omega) ela ?_ ?_
    · rintro C' O' hA hcl2 j y hy
      rw [List.getElem?_map] at hy
      obtain ⟨lap, hlap, rfl⟩ := Option.map_eq_some_iff.mp hy
      have hlp := hla lap (List.mem_of_getElem? hlap)
      have hld : (l.drop lap).length ≤ 100 := by rw [List.length_drop]; omega
      unfold CT
      dsimp only
      repeat tb_start
      refine sub_s_from (by intro _ _; with_unfolding_all rfl) (by intro _ _ _; with_unfolding_all rfl) hlp (by omega) ?_
      repeat tb_start
      refine callPost_i O' (signs_ok (l.drop lap) _) (by rw [hA]; omega) (by rw [hA]; omega) ?_
      rintro _ hpx ⟨rfl, rfl⟩
      repeat tb_start
      · rename_i hq
        refine sub_s_from (by intro _ _; with_unfolding_all rfl) (by intro _ _ _; with_unfolding_all rfl) hlp (by omega) ?_
        repeat tb_start
        refine callPost_i O' (colours_ok (l.drop lap) p q _ bp bq hld) (by rw [hA]; omega) (by rw [hA]; omega) ?_
        rintro _ hpx ⟨rfl, rfl⟩
        have hq' : sg (l.drop lap) = i + 1 := by omega
        refine ⟨by unfold behV; dsimp only; rw [Int.toNat_natCast, if_pos hq'], ?_⟩
        k_places
      · rename_i hq
        have hq' : ¬ sg (l.drop lap) = i + 1 := by omega
        refine ⟨by unfold behV; dsimp only; rw [Int.toNat_natCast, if_neg hq'], ?_⟩
        k_places
    rw [behV_map]
    intro be hbe
    dsimp only at hbe ⊢
    have htb : t ≠ be := ne_of_none hbe h1
    have bsum : nb (((laps.filter fun lap => sg (l.drop lap) == i + 1).map fun lap => col p q (l.drop lap)).sum) 100 := by
      refine (nb.sum (k := 62) fun x hx => ?_).mono ?_
      · obtain ⟨lap, _, rfl⟩ := List.mem_map.mp hx
        refine (nb.col bp bq _).mono ?_
        rw [List.length_drop]; omega
      · rw [List.length_map]
        have := List.length_filter_le (fun lap => sg (l.drop lap) == i + 1) laps
        omega
    have b1 : nb (1 - X) 213 := nb.sub (show nb 1 212 by unfold nb; decide) bX
    repeat tb_start
    refine sum_l O (updH_same ..) ?_
    repeat tb_start
    refine mul_ii (mulOk_nb b1 bsum (by omega)) ?_
    repeat tb_start
    refine append_l (upd_ne' htb h1) (by simp; omega) ?_
    refine ⟨rfl, ?_⟩
    repeat tb_start
    refine loopF_next ⟨[("shares", .ref t), ("whole", .int (sg l : Nat)), ("word", .str (ws l)), ("laps", .ref la), ("p", .int p), ("q", .int q), ("mark", .int X)], _⟩ (St.le_of ?_ hp_refl) ⟨_, ?_, fun a o z => ?_, rfl⟩
    · tlg_ne
    · rw [updH_same, List.range_succ (n := i + 3), List.map_append]; rfl
    · obtain ⟨n1, e1⟩ := h2 a o z
      have n2 : a ≠ be := ne_of_none hbe e1
      exact ⟨n1, upd_ne' n1 (upd_ne' n2 e1)⟩
  case done =>
    rintro σ ⟨h, h1, h2, rfl⟩
    rw [rangeL_length] at h1
    repeat tb_start
    refine Sx_AssignComp O hL (by with_unfolding_all rfl) (by lcg_off) (by unfold Act.env; rw [hcl']; with_unfolding_all rfl) (by (repeat (refine List.forall_mem_cons.mpr ⟨⟨by rw [hcl']; with_unfolding_all rfl, by with_unfolding_all rfl, by with_unfolding_all rfl⟩, ?_⟩)); exact fun _ h => (nomatch h)) (by decide) rfl (by decide) (by with_unfolding_all rfl) (by intro _; rfl) ?_
    repeat tb_start
    rename_i rg2 hrg2
    dsimp only at hrg2
    have htr : t ≠ rg2 := ne_of_none hrg2 h1
    have rr2 := range_up (a := 0) (b := (sg l : Int) + 2) (by omega) (by omega) (by omega) (by omega)
    refine fm_plan (tF0V l laps p q X) _ _ _ (iter_rng2 O (updH_same ..) (n := sg l + 2) rr2.1 (by rw [rr2.2]; omega)) (by rw [rangeL_length]; omega) trivial ?_ ?_
    · rintro C' O' hA hcl2 j y hy
      obtain ⟨hj, rfl⟩ := rangeL_get hy
      rw [show (0 : Int) + (j : Int) * 1 = (j : Int) by omega]
      have get : ∀ k, k < sg l + 4 → ((List.range (sg l + 1 + 3)).map fun k => V.int (sh l laps p q X k))[k]? = some (V.int (sh l laps p q X k)) := fun k hk => by
        rw [List.getElem?_map, List.getElem?_range (by omega)]; rfl
      unfold CT
      dsimp only
      repeat tb_start
      refine sub_list (by intro _ _; with_unfolding_all rfl) (upd_ne' htr h1) (by omega) (by omega) (v := V.int (sh l laps p q X (j + 2))) (by rw [show ((j : Int) + 2).toNat = j + 2 by omega]; exact get _ (by omega)) ?_
      repeat tb_start
      refine sub_list (by intro _ _; with_unfolding_all rfl) (upd_ne' htr h1) (by omega) (by omega) (v := V.int (sh l laps p q X (j + 1))) (by rw [show ((j : Int) + 1).toNat = j + 1 by omega]; exact get _ (by omega)) ?_
      repeat tb_start
      refine mul_ii (bp.small _) ?_
      repeat tb_start
      refine sub_list (by intro _ _; with_unfolding_all rfl) (upd_ne' htr h1) (by omega) (by omega) (v := V.int (sh l laps p q X j)) (by rw [Int.toNat_natCast]; exact get _ (by omega)) ?_
      repeat tb_start
      refine mul_ii (bq.small _) ?_
      repeat tb_start
      refine ⟨by unfold tF0V; dsimp only; rw [Int.toNat_natCast]; rfl, ?_⟩
      k_places
    rw [tF0V_map]
    intro te hte
    dsimp only at hte ⊢
    have bc : nb (col p q l) 62 := (nb.col bp bq l).mono (by omega)
    have b1 : nb (1 - X) 213 := nb.sub (show nb 1 212 by unfold nb; decide) bX
    repeat tb_start
    refine atSub_i (by kbo_bools) (by omega) (by omega) (by simp; omega) ?_
    intro old hold
    rw [Int.toNat_natCast, List.getElem?_map, List.getElem?_range (by omega)] at hold
    cases hold
    repeat tb_start
    refine callPost_i O (colours_ok l p q _ bp bq (by omega)) (by omega) (by omega) ?_
    rintro _ hpx ⟨rfl, rfl⟩
    repeat tb_start
    refine mul_ii (mulOk_nb b1 bc (by omega)) ?_
    repeat tb_start
    refine atSub_i (by kbo_bools) (by omega) (by omega) (by simp; omega) ?_
    repeat tb_start
    refine ⟨te, rfl, ?_, fun a o z => ?_⟩
    · rw [Int.toNat_natCast, updH_same, terms_set]
    · obtain ⟨n1, e1⟩ := h2 a o z
      have n2 : a ≠ rg2 := ne_of_none hrg2 e1
      have n3 : a ≠ te := ne_of_none hte (upd_ne' n2 e1)
      exact upd_ne' n3 (upd_ne' n3 (upd_ne' n2 e1))
theorem nb.hs {M : Int} {f : Nat → Int} {m k : Nat} (hM : nb M m) : ∀ n, (∀ i, i < n → nb (f i) k) → nb (hs M f n) ((m + 1) * n + k)
  | 0, _ => by unfold nb; exact Nat.pow_pos (by decide)
  | n + 1, h => by
    have a := (nb.hs hM n fun i hi => h i (by omega)).mul hM
    have b := h n (by omega)
    rw [Mine.hs]
    exact (nb.add a (b.mono (by omega))).mono (by rw [Nat.mul_succ]; omega)
theorem nb.rowW {w r : List Bool} {p q X : Int} (bp : nb p 10) (bq : nb q 10) (bX : nb X 212) (hr : r.length ≤ 7) : nb (rowW w r p q X) 1600 := by
  have s1 : nb ((sg (r.take 1) : Nat) : Int) 2 := by
    have := sg1 r
    unfold nb; rw [Int.natAbs_natCast]; omega
  have st := stands_le w r
  refine ((s1.mul (nb.col bp bq r)).mul (bX.pow (stands w r))).mono ?_
  have : 212 * stands w r ≤ 212 * 7 := Nat.mul_le_mul_left _ (by omega)
  omega
theorem nb.cF {w : List Bool} {n : Nat} {p q X : Int} (bp : nb p 10) (bq : nb q 10) (bX : nb X 212) (hn : n ≤ 7) : nb (cF w n p q X) 1700 := by
  unfold Mine.cF
  refine (nb.sum (k := 1600) fun x hx => ?_).mono ?_
  · obtain ⟨r, hr, rfl⟩ := List.mem_map.mp hx
    exact nb.rowW bp bq bX (Nat.le_trans (rowsF_len hr) hn)
  · rw [List.length_map]
    have := rowsF_small n hn
    omega
def wndV (w R : List Bool) (v : V) : Option V := match v with
  | .int t => if ((R.drop t.toNat).take w.length == w) = true then some v else none
  | _ => none
theorem wndV_map (w r : List Bool) : (rangeL 0 1 r.length).filterMap (wndV w (List.replicate 7 r).flatten) = (winds w r).map fun t : Nat => V.int t := by
  unfold rangeL winds
  generalize (List.replicate 7 r).flatten = R
  induction List.range r.length with
  | nil => rfl
  | cons a l ih =>
    rw [List.map_cons, List.filterMap_cons]
    unfold wndV
    dsimp only
    rw [show (0 : Int) + (a : Int) * 1 = (a : Int) by omega, Int.toNat_natCast]
    by_cases h : ((R.drop a).take w.length == w) = true
    · rw [if_pos h, List.filter_cons_of_pos (p := fun t => (R.drop t).take w.length == w) h, List.map_cons]
      exact congrArg _ ih
    · rw [if_neg h, List.filter_cons_of_neg (p := fun t => (R.drop t).take w.length == w) h]
      exact ih
theorem len_ws {G : GE} {sc : Scope} {C : Act sc} {σ : St} {l : List Bool} {Q : V → St → Prop} (hz : l.length ≤ 100000) (h : Q (.int l.length) σ) : FL G C (fun us => call (.builtin "len") us) [.str (ws l)] σ Q :=
  len_s (by rw [ws_len]; omega) (by rw [ws_len]; exact h)
theorem sumTake {α : Type} (f : α → Int) {l : List α} {j : Nat} {x : α} (h : l[j]? = some x) : ((l.take (j + 1)).map f).sum = ((l.take j).map f).sum + f x := by
  obtain ⟨hl, rfl⟩ := List.getElem?_eq_some_iff.mp h
  rw [List.take_succ_eq_append_getElem hl, List.map_append, List.sum_append]
  simp
set_option maxHeartbeats 8000000 in
theorem due_ok {w : World} {mg mb : Str → Option Value} (l : List Bool) (p q X : Int) (hp : Hp) (hl : l.length ≤ 6) (bp : nb p 10) (bq : nb q 10) (bX : nb X 212) :
    FnOk ⟨PySem.Challenge.pw_wo0035_01, w, mg, mb⟩ "_law_due" 2 [.str (ws l), .int p, .int q, .int X] hp (fun r hp' => r = .int (hs (X ^ 9) (fun i => cF l (i + 1) p q X) 7) ∧ ∀ a o, hp a = some o → hp' a = some o) := by
  refine FnOk.of ["word", "p", "q", "mark"] (by with_unfolding_all rfl) (fun pm cd doc us h => ?_) rfl (by decide) (by decide) (by decide) rfl rfl rfl (fun C O hcl hd hu => ?_)
  · (refine Mine.lsb4 h ?_; intros; rfl)
  obtain ⟨⟨_, hL⟩, L', hcl'⟩ := id hcl
  repeat tb_start
  refine callPost_i O (rows_ok hp) (by omega) (by omega) ?_
  rintro _ hpR ⟨t, rs, rfl, hrl, ht, hrs, hk⟩
  repeat tb_start
  refine Sx_For (by assumption) (by lcg_off) (by intro _; rfl) ?_
  repeat tb_start
  rename_i rg hrg
  dsimp only at hrg
  have rr := range_up (a := 1) (b := 8) (by omega) (by omega) (by omega) (by omega)
  refine ⟨{ σ' := _, items := _, dep := _, it := iter_rng (by assumption) (n := 7) (by kbo_bools) rr.1 (by rw [rr.2]; omega), I := fun i σ => ∃ h : Hp, (∀ a o, hpR a = some o → h a = some o) ∧
    σ = ⟨[("due", .int (hs (X ^ 9) (fun i => cF l (i + 1) p q X) i)), ("rows", .ref t), ("word", .str (ws l)), ("p", .int p), ("q", .int q), ("mark", .int X)], h⟩, σ0 := _, le0 := St.le_of ?loc ?hpp, h0 := ⟨hpR, fun a o q => q, rfl⟩, hdep := fun _ _ _ => trivial, turn := ?turn, done := ?done }⟩
  case loc => tlg_ne
  case hpp => kct_strs
  case done =>
    rintro σ ⟨h, h1, rfl⟩
    rw [rangeL_length]
    repeat tb_start
    exact ⟨rfl, fun a o z => h1 _ _ (hk _ _ z)⟩
  case turn =>
    rintro i y σ hy ⟨h, h1, rfl⟩
    obtain ⟨hi, rfl⟩ := rangeL_get hy
    rw [show (1 : Int) + (i : Int) * 1 = ((i + 1 : Nat) : Int) by omega]
    obtain ⟨ra, hra⟩ : ∃ a, rs[i + 1]? = some a := ⟨rs[i + 1], List.getElem?_eq_getElem (by omega)⟩
    have era := h1 _ _ (hrs _ _ hra)
    have bd : nb (hs (X ^ 9) (fun i => cF l (i + 1) p q X) i) 20000 := by
      refine (nb.hs (bX.pow 9) i fun j hj => nb.cF (n := j + 1) bp bq bX (by omega)).mono ?_
      omega
    obtain ⟨d0, hd0⟩ : ∃ d0, d0 = hs (X ^ 9) (fun i => cF l (i + 1) p q X) i * X ^ 9 := ⟨_, rfl⟩
    repeat tb_start
    refine pow_ii (by decide) (pow_nb (n := 9) bX (by omega)) ?_
    repeat tb_start
    refine imul_ii (mulOk_nb bd (bX.pow 9) (by omega)) ?_
    rw [show X ^ (9 : Int).toNat = X ^ 9 from rfl, ← hd0]
    repeat tb_start
    refine Sx_For (by assumption) (by lcg_off) (by intro _; rfl) ?_
    repeat tb_start
    refine sub_list (by intro _ _; with_unfolding_all rfl) (h1 _ _ ht) (by omega) (by omega) (v := V.ref ra) (by rw [Int.toNat_natCast, List.getElem?_map, hra]; rfl) ?_
    refine ⟨{ σ' := _, items := _, dep := _, it := iter_list (by assumption) era, I := fun j σ => ∃ h' : Hp, (∀ a o, h a = some o → h' a = some o) ∧
      σ = ⟨[("due", .int (d0 + (((rowsF (i + 1)).take j).map fun r => rowW l r p q X).sum)), ("rows", .ref t), ("word", .str (ws l)), ("p", .int p), ("q", .int q), ("mark", .int X)], h'⟩, σ0 := _, le0 := St.le_of ?loc2 hp_refl, h0 := ⟨h, fun a o q => q, rfl⟩, hdep := ?dep2, turn := ?turn2, done := ?done2 }⟩
    case loc2 =>
      rw [List.take_zero, List.map_nil, List.sum_nil, Int.add_zero]
      tlg_ne
    case dep2 => rintro j σ ⟨h', h2, rfl⟩; exact h2 _ _ era
    case done2 =>
      rintro σ ⟨h', h2, rfl⟩
      rw [List.length_map, List.take_length]
      repeat tb_start
      refine loopF_next ⟨[("due", .int (hs (X ^ 9) (fun i => cF l (i + 1) p q X) (i + 1))), ("rows", .ref t), ("word", .str (ws l)), ("p", .int p), ("q", .int q), ("mark", .int X)], h'⟩ (St.le_of ?_ hp_refl) ⟨h', fun a o z => h2 _ _ (h1 _ _ z), rfl⟩
      have e : hs (X ^ 9) (fun i => cF l (i + 1) p q X) (i + 1) = d0 + ((rowsF (i + 1)).map fun r => rowW l r p q X).sum := by rw [hd0]; rfl
      rw [e]
      tlg_ne
    case turn2 =>
      rintro j y σ hy ⟨h', h2, rfl⟩
      rw [List.getElem?_map] at hy
      obtain ⟨r, hr, rfl⟩ := Option.map_eq_some_iff.mp hy
      have hrm := List.mem_of_getElem? hr
      have hr7 : r.length ≤ 7 := Nat.le_trans (rowsF_len hrm) (by omega)
      have hr0 : 0 < r.length := by
        have := (sg_ge r).2
        rw [rowsF_sg _ r hrm] at this; omega
      have hRl : (List.replicate 7 r).flatten.length = 7 * r.length := by rw [List.length_flatten, List.map_replicate, List.sum_replicate_nat]
      have htk := sumTake (fun r => rowW l r p q X) hr
      obtain ⟨b0, hb0⟩ : ∃ b0, r[0]? = some b0 := ⟨r[0], List.getElem?_eq_getElem hr0⟩
      have hr1 : r.take 1 = [b0] := by
        obtain ⟨hx, rfl⟩ := List.getElem?_eq_some_iff.mp hb0
        match r, hx with
        | b :: r, _ => rfl
      repeat tb_start
      refine mul_s (by decide) (by decide) (by omega) hr0 ?_
      rw [show (7 : Int).toNat = 7 from rfl]
      repeat tb_start
      refine Ev_ListComp O hL (by unfold Act.env; rw [hcl']; with_unfolding_all rfl) (by (repeat (refine List.forall_mem_cons.mpr ⟨⟨by rw [hcl']; with_unfolding_all rfl, by with_unfolding_all rfl, by with_unfolding_all rfl⟩, ?_⟩)); exact fun _ h => (nomatch h)) (by decide) rfl (by decide) (by with_unfolding_all rfl) (by intro _; rfl) ?_
      repeat tb_start
      refine len_ws (by omega) ?_
      repeat tb_start
      rename_i rg2 hrg2
      dsimp only at hrg2
      have rr2 := range_up (a := 0) (b := (r.length : Int)) (by omega) (by omega) (by omega) (by omega)
      refine fm_plan (wndV l (List.replicate 7 r).flatten) _ _ _ (iter_rng2 O (updH_same ..) (n := r.length) rr2.1 (by rw [rr2.2]; omega)) (by rw [rangeL_length]; omega) trivial ?_ ?_
      · rintro C' O' hA hcl2 k y hy
        obtain ⟨hk', rfl⟩ := rangeL_get hy
        rw [show (0 : Int) + (k : Int) * 1 = (k : Int) by omega]
        unfold CT
        dsimp only
        repeat tb_start
        refine len_ws (by omega) ?_
        repeat tb_start
        rw [show (k : Int) + (l.length : Int) = ((k + l.length : Nat) : Int) by omega]
        refine sub_s_mid (by intro _ _; with_unfolding_all rfl) (by intro _ _ _; with_unfolding_all rfl) (by omega) (by omega) (by omega) ?_
        rw [Nat.add_sub_cancel_left]
        repeat tb_start
        rw [ws_inj]
        refine ite_bool (fun hq => ?_) fun hq => ?_
        · repeat tb_start
          refine ⟨by unfold wndV; dsimp only; rw [Int.toNat_natCast, if_pos hq], ?_⟩
          k_places
        · refine ⟨by unfold wndV; dsimp only; rw [Int.toNat_natCast, if_neg (by rw [hq]; decide)], ?_⟩
          k_places
      rw [wndV_map]
      intro wl hwl
      dsimp only at hwl ⊢
      repeat tb_start
      refine len_list (updH_same ..) (by rw [List.length_map]; have := stands_le l r; unfold stands at this; omega) ?_
      rw [List.length_map]
      repeat tb_start
      refine sub_s_at (k := 0) (by intro _ _; with_unfolding_all rfl) (by decide) hb0 ?_
      repeat tb_start
      refine callPost_i O (signs_ok [b0] _) (by omega) (by omega) ?_
      rintro _ hpx ⟨rfl, rfl⟩
      repeat tb_start
      refine callPost_i O (colours_ok r p q _ bp bq (by omega)) (by omega) (by omega) ?_
      rintro _ hpx ⟨rfl, rfl⟩
      have hsb : nb ((sg [b0] : Nat) : Int) 2 := by
        have := (sg_ge [b0]).2
        unfold nb; rw [Int.natAbs_natCast, List.length_singleton] at *; omega
      have hst := stands_le l r
      have hsm : 212 * stands l r ≤ 212 * 7 := Nat.mul_le_mul_left _ (by omega)
      refine mul_ii (mulOk_nb hsb (nb.col bp bq r) (by omega)) ?_
      repeat tb_start
      refine pow_ii (by omega) (pow_nb (n := stands l r) bX (by omega)) ?_
      repeat tb_start
      refine mul_ii (mulOk_nb (hsb.mul (nb.col bp bq r)) (bX.pow (stands l r)) (by omega)) ?_
      repeat tb_start
      refine loopF_next ⟨[("due", .int (d0 + (((rowsF (i + 1)).take (j + 1)).map fun r => rowW l r p q X).sum)), ("rows", .ref t), ("word", .str (ws l)), ("p", .int p), ("q", .int q), ("mark", .int X)], _⟩ (St.le_of ?_ hp_refl) ⟨_, fun a o z => ?_, rfl⟩
      · have e : d0 + (((rowsF (i + 1)).take (j + 1)).map fun r => rowW l r p q X).sum = d0 + (((rowsF (i + 1)).take j).map fun r => rowW l r p q X).sum + (sg [b0] : Int) * col p q r * X ^ (((winds l r).length : Nat) : Int).toNat := by
          rw [htk, rowW, hr1, Int.toNat_natCast, Int.add_assoc]; rfl
        rw [e]
        tlg_ne
      · have z2 := h2 _ _ z
        have n1 : a ≠ rg2 := ne_of_none hrg2 z2
        exact upd_other hwl (upd_ne' n1 z2)
/-- a number's digits, the lowest first -/
def dval (n : Nat) : List Int → Int
  | [] => 0
  | d :: ds => d + 2 ^ n * dval n ds
theorem dval_append (n : Nat) (xs ys : List Int) : dval n (xs ++ ys) = dval n xs + 2 ^ (n * xs.length) * dval n ys := by
  induction xs with
  | nil => simp [dval]
  | cons x xs ih =>
    simp only [List.cons_append, dval, ih, List.length_cons, Int.mul_add]
    rw [Nat.mul_add, Nat.mul_one, Nat.add_comm, Int.pow_add, Int.mul_assoc]
    omega
theorem dval_bounds {n : Nat} : ∀ {xs : List Int}, (∀ d ∈ xs, 0 ≤ d ∧ d < 2 ^ n) → 0 ≤ dval n xs ∧ dval n xs < 2 ^ (n * xs.length)
  | [], _ => by simp [dval]
  | x :: xs, h => by
    obtain ⟨h1, h2⟩ := dval_bounds (xs := xs) fun d hd => h d (.tail _ hd)
    obtain ⟨g1, g2⟩ := h x (.head _)
    have hp := kbt_pos n
    simp only [dval, List.length_cons]
    rw [Nat.mul_add, Nat.mul_one, Nat.add_comm, Int.pow_add]
    have a1 : 0 ≤ 2 ^ n * dval n xs := Int.mul_nonneg (by omega) h1
    have a2 : 2 ^ n * (dval n xs + 1) ≤ 2 ^ n * 2 ^ (n * xs.length) := Int.mul_le_mul_of_nonneg_left (by omega) (by omega)
    rw [Int.mul_add, Int.mul_one] at a2
    omega
/-- the digits from L on, R ahead -/
def cut (ds : List Int) (L R : Nat) : List Int := (ds.drop L).take (R - L)
theorem cut_append {ds : List Int} {L M R : Nat} (h1 : L ≤ M) (h2 : M ≤ R) : cut ds L R = cut ds L M ++ cut ds M R := by
  unfold cut
  rw [show R - L = (M - L) + (R - M) by omega, List.take_add]
  congr 1
  rw [List.drop_drop, show L + (M - L) = M by omega]
theorem cut_length {ds : List Int} {L R : Nat} (h1 : L ≤ R) (h2 : R ≤ ds.length) : (cut ds L R).length = R - L := by simp [cut]; omega
theorem cut_one {ds : List Int} {L : Nat} (h : L < ds.length) : cut ds L (L + 1) = [ds[L]] := by
  unfold cut
  rw [show L + 1 - L = 0 + 1 by omega, List.drop_eq_getElem_cons h, List.take_succ_cons, List.take_zero]
theorem cut_mem {ds : List Int} {L R : Nat} {d : Int} (h : d ∈ cut ds L R) : d ∈ ds := List.mem_of_mem_drop (List.mem_of_mem_take h)

def d2iPre (f dl : Addr) (fo : Obj) (c' : Addr) (qual : Str) (n : Nat) (ds : List Int) (k : Nat) (args : List V) (hp : Hp) (Q : V → Hp → Prop) : Prop :=
  ∃ L R : Nat, L < R ∧ R ≤ ds.length ∧ R - L ≤ 2 ^ k ∧ args = [.int L, .int R] ∧ hp f = some (.raw fo) ∧ CodeV hp c' qual ∧ hp dl = some (.lst (ds.map V.int)) ∧ Q = fun r hp' => r = .int (dval n (cut ds L R)) ∧ hp' = hp

set_option maxHeartbeats 4000000 in
theorem d2i_ok {w : World} {mg mb : Str → Option Value} (n : Nat) (hn : 0 < n) (ds : List Int) (dl : Addr) (hp : Hp) (e : hp dl = some (.lst (ds.map V.int))) (hds : ∀ d ∈ ds, 0 ≤ d ∧ d < 2 ^ n) (hz : n * ds.length ≤ 2 ^ 26) (hz1 : ds.length ≤ 100000)
    (hT : TabV hp 37 { line := 47, col := 4, endLine := 52, endCol := 62 } "_digits2int.<locals>.inner") :
    FnOk ⟨PySem.Challenge.pw_wo0035_01, w, mg, mb⟩ "_digits2int" 25 [.ref dl, .int n] hp (fun r hp' => r = .int (dval n ds) ∧ (∀ a o, a ≠ 37 → hp a = some o → hp' a = some o) ∧ TabV hp' 37 { line := 47, col := 4, endLine := 52, endCol := 62 } "_digits2int.<locals>.inner") := by
  refine FnOk.ofN ["digits", "n"] (c := 41) (P := 37) (by rfl) (by with_unfolding_all rfl) (fun pm cd doc us h => ?_) rfl (by decide) (by decide) (by decide) rfl rfl rfl (fun C O hcl henv hcode hd hu => ?_)
  · (refine Mine.lsb2 h ?_; intros; rfl)
  obtain ⟨hL, a, henv⟩ := henv
  obtain ⟨_, L', hcl'⟩ := id hcl
  refine Sx_cons (Sx_Def O henv hcode (by lcg_off) (by unfold Act.env; rw [hcl']; with_unfolding_all rfl) (by rw [henv]; kernel_rfl!) rfl rfl rfl hT ?_)
  intro f c' doc pm ctv hp' hf0 hfP hold hP hcv hf
  have hfe := hf
  have hdl : hp' dl = some (.lst (ds.map V.int)) := hold dl _ (fun q => by subst q; rcases hT with h | ⟨_, h, _⟩ <;> (rw [e] at h; cases h)) e
  have hlen : (ds.map V.int).length = ds.length := by simp
  have fin : ∀ a o, a ≠ 37 → hp a = some o → hp' a = some o := hold
  have hT' : TabV hp' 37 { line := 47, col := 4, endLine := 52, endCol := 62 } "_digits2int.<locals>.inner" := .inr ⟨c', hP, hcv⟩
  obtain ⟨fo, hfo, -⟩ : ∃ fo, hp' f = some (.raw fo) ∧ HO.raw fo = HO.raw fo := ⟨_, hf, rfl⟩
  have hfe := hfo.symm.trans hf
  refine (fun (hrec : ∀ k, RecOk ⟨PySem.Challenge.pw_wo0035_01, w, mg, mb⟩ f [(L' + 1, .ref dl), (L' + 1 + 1, .int n), (L' + 1 + 1 + 1, .ref f)] (d2iPre f dl fo c' "_digits2int.<locals>.inner" n ds) k) => ?_)
    (FL_rec ["L", "R"] _ _ (fun k args hp Q ⟨L, R, h1, h2, h3, h4, h5, h6, h7, h8⟩ => ⟨h5.trans hfe, h6, by rw [h4]; rfl⟩)
      (fun us h => by (refine Mine.lsb2 h ?_; intros; rfl)) (by decide) (by decide) (by decide) rfl rfl rfl ?_)
  · repeat tb_start
    · rename_i hpos
      rw [hlen] at hpos ⊢
      refine ⟨⟨_, _, _, _, _, _, _, _, _, _, hf⟩, ?_⟩
      refine FL_useEq (hrec 17 [.int 0, .int ds.length] hp' _ ⟨0, ds.length, hpos, Nat.le_refl _, by omega, rfl, hfo, hcv, hdl, rfl⟩ _ C O hL _ ?_ (by omega) (by omega)) ?_
      · intro p hp
        refine .inr ?_
        simp only [List.mem_cons, List.not_mem_nil, or_false] at hp
        rcases hp with rfl | rfl | rfl
        · exact ⟨"digits", rfl, rfl, by rw [hcl']; rfl⟩
        · exact ⟨"n", rfl, rfl, by rw [hcl']; rfl⟩
        · exact ⟨"inner", rfl, rfl, by rw [hcl']; rfl⟩
      repeat tb_start
      refine ⟨?_, fin, hT'⟩
      rw [show cut ds 0 ds.length = ds by unfold cut; simp]
    · rename_i hpos
      rw [hlen] at hpos
      have h0 : ds = [] := List.length_eq_zero_iff.mp (by omega)
      subst h0
      repeat tb_start
      exact ⟨rfl, fin, hT'⟩
  · rintro k args hp Q ⟨L, R, h1, h2, h3, rfl, h5, h6, h7, rfl⟩ ih C' O' hcl' hLF hkv hd' hu'
    have k1 := hkv _ (.head _)
    have k2 := hkv _ (.tail _ (.head _))
    have k3 := hkv _ (.tail _ (.tail _ (.head _)))
    have hLs : L < ds.length := by omega
    repeat tb_start
    · rename_i hone
      refine Ev_freeK (by with_unfolding_all rfl) (by kernel_rfl!) (by kernel_rfl!) (by kernel_rfl!) (c := L' + 1) (by rw [hcl']; with_unfolding_all rfl) k1 ?_
      repeat tb_start
      refine sub_list (by intro _ _; with_unfolding_all rfl) h7 (by omega) (by omega) (v := V.int ds[L]) (by simp [hLs]) ?_
      repeat tb_start
      refine ⟨?_, rfl⟩
      have : R = L + 1 := by omega
      subst this
      rw [cut_one hLs]; simp [dval]
    · rename_i hone
      obtain ⟨M, hM⟩ : ∃ M, M = (L + R) / 2 := ⟨_, rfl⟩
      obtain ⟨k, rfl⟩ : ∃ k', k = k' + 1 := by
        cases k with
        | zero => exfalso; simp at h3; omega
        | succ k' => exact ⟨k', rfl⟩
      rw [Nat.pow_succ] at h3
      have hM1 : L < M := by omega
      have hM2 : M < R := by omega
      repeat tb_start
      refine rshift_n (k := 1) ?_
      rw [show ((L : Int) + R) / 2 ^ 1 = (M : Int) by omega]
      repeat tb_start
      refine Ev_freeK (by with_unfolding_all rfl) (by kernel_rfl!) (by kernel_rfl!) (by kernel_rfl!) (c := L' + 1 + 1) (by rw [hcl']; with_unfolding_all rfl) k2 ?_
      repeat tb_start
      rw [show ((M : Int) - L) * n = ((n * (M - L) : Nat) : Int) by rw [Int.natCast_mul, Int.natCast_sub (by omega), Int.mul_comm]]
      refine Ev_freeK (by with_unfolding_all rfl) (by kernel_rfl!) (by kernel_rfl!) (by kernel_rfl!) (c := L' + 1 + 1 + 1) (by rw [hcl']; with_unfolding_all rfl) k3 ?_
      repeat tb_start
      refine ⟨⟨_, _, _, _, _, _, _, _, _, _, h5.trans hfe⟩, ?_⟩
      refine FL_useEq (ih k (by omega) [.int M, .int R] hp _ ⟨M, R, hM2, h2, by omega, rfl, h5, h6, h7, rfl⟩ _ C' O' hLF _ (fun p hp => .inl (hkv p hp)) (by omega) (by omega)) ?_
      have bnd := dval_bounds (n := n) (xs := cut ds M R) fun d hd => hds d (cut_mem hd)
      rw [cut_length (by omega) h2] at bnd
      have hsum : n * (R - M) + n * (M - L) ≤ 2 ^ 26 := by
        rw [← Nat.mul_add]
        exact Nat.le_trans (Nat.mul_le_mul_left n (by omega)) hz
      repeat tb_start
      refine lshift_n (n * (R - M)) (natAbs_lt bnd.1 bnd.2) (by omega) ?_
      repeat tb_start
      refine Ev_freeK (by with_unfolding_all rfl) (by kernel_rfl!) (by kernel_rfl!) (by kernel_rfl!) (c := L' + 1 + 1 + 1) (by rw [hcl']; with_unfolding_all rfl) k3 ?_
      repeat tb_start
      refine ⟨⟨_, _, _, _, _, _, _, _, _, _, h5.trans hfe⟩, ?_⟩
      refine FL_useEq (ih k (by omega) [.int L, .int M] hp _ ⟨L, M, hM1, by omega, by omega, rfl, h5, h6, h7, rfl⟩ _ C' O' hLF _ (fun p hp => .inl (hkv p hp)) (by omega) (by omega)) ?_
      repeat tb_start
      refine ⟨?_, rfl⟩
      rw [cut_append (L := L) (M := M) (R := R) (by omega) (by omega), dval_append, cut_length (by omega) (by omega), Int.add_comm, Int.mul_comm (dval n (cut ds M R))]
/-- the lowest c digits -/
def digs (n : Nat) : Nat → Int → List Int
  | 0, _ => []
  | c + 1, x => x % 2 ^ n :: digs n c (x / 2 ^ n)
theorem digs_length (n : Nat) : ∀ c x, (digs n c x).length = c
  | 0, _ => rfl
  | c + 1, x => by simp [digs, digs_length n c]
theorem digs_append (n : Nat) : ∀ (c d : Nat) (x : Int), digs n (c + d) x = digs n c (x % 2 ^ (n * c)) ++ digs n d (x / 2 ^ (n * c))
  | 0, d, x => by simp [digs]
  | c + 1, d, x => by
    have hn := kbt_pos n
    have hc := kbt_pos (n * c)
    rw [show c + 1 + d = (c + d) + 1 by omega, digs, digs, digs_append n c d, List.cons_append]
    have e : (2 : Int) ^ (n * (c + 1)) = 2 ^ n * 2 ^ (n * c) := by rw [← Int.pow_add]; congr 1; rw [Nat.mul_add, Nat.mul_one, Nat.add_comm]
    rw [e, Int.ediv_ediv_of_nonneg (Int.le_of_lt hn)]
    have h1 : x % (2 ^ n * 2 ^ (n * c)) % 2 ^ n = x % 2 ^ n := Int.emod_emod_of_dvd x (Int.dvd_mul_right _ _)
    have h2 : x % (2 ^ n * 2 ^ (n * c)) / 2 ^ n = x / 2 ^ n % 2 ^ (n * c) := by
      have e1 := Int.mul_ediv_add_emod x (2 ^ n)
      have e2 := Int.mul_ediv_add_emod (x / 2 ^ n) (2 ^ (n * c))
      have a0 := Int.emod_nonneg x (Int.ne_of_gt hn)
      have a1 := Int.emod_lt_of_pos x hn
      have b0 := Int.emod_nonneg (x / 2 ^ n) (Int.ne_of_gt hc)
      have b1 := Int.emod_lt_of_pos (x / 2 ^ n) hc
      obtain ⟨q, hq⟩ : ∃ q, q = x / 2 ^ n := ⟨_, rfl⟩
      rw [← hq] at e1 e2 b0 b1 ⊢
      obtain ⟨r, hr⟩ : ∃ r, r = x % 2 ^ n := ⟨_, rfl⟩
      rw [← hr] at e1 a0 a1
      have key : x % (2 ^ n * 2 ^ (n * c)) = r + 2 ^ n * (q % 2 ^ (n * c)) := by
        refine (kbt_unique (a := x) (q := q / 2 ^ (n * c)) (Int.mul_pos hn hc) ?_ ?_ ?_).2
        · rw [Int.mul_assoc]
          have : 2 ^ n * (2 ^ (n * c) * (q / 2 ^ (n * c))) = 2 ^ n * q - 2 ^ n * (q % 2 ^ (n * c)) := by
            rw [← Int.mul_sub]; congr 1; omega
          omega
        · have := Int.mul_nonneg (Int.le_of_lt hn) b0; omega
        · have : 2 ^ n * (q % 2 ^ (n * c) + 1) ≤ 2 ^ n * 2 ^ (n * c) := Int.mul_le_mul_of_nonneg_left (by omega) (Int.le_of_lt hn)
          rw [Int.mul_add, Int.mul_one] at this; omega
      rw [key, Int.add_mul_ediv_left _ _ (Int.ne_of_gt hn), Int.ediv_eq_zero_of_lt a0 a1, Int.zero_add]
    rw [h1, h2]
theorem noPylong_small {a b : Int} (h : b.natAbs < 2 ^ 63) : Builtin.divisionGoesByPylong a b = false := by
  unfold Builtin.divisionGoesByPylong
  dsimp only
  rw [Bool.and_eq_false_iff]
  left
  rw [decide_eq_false_iff_not]
  split
  · omega
  · rename_i q
    have h0 : b.natAbs ≠ 0 := by intro e; apply q; simp; omega
    have := (Nat.log2_lt h0).mpr h
    omega

/-- a stretch laid over -/
def lay (xs : List V) (L R : Nat) (ds : List Int) : List V := xs.take L ++ (ds.map V.int ++ xs.drop R)
def i2dPre (f al : Addr) (fo : Obj) (c' : Addr) (qual : Str) (n cnt : Nat) (k : Nat) (args : List V) (hp : Hp) (Q : V → Hp → Prop) : Prop :=
  ∃ (L R : Nat) (x : Int) (xs : List V), L < R ∧ R ≤ cnt ∧ xs.length = cnt ∧ R - L ≤ 2 ^ k ∧ 0 ≤ x ∧ x < 2 ^ (n * (R - L)) ∧ args = [.int x, .int L, .int R] ∧ hp f = some (.raw fo) ∧ CodeV hp c' qual ∧ hp al = some (.lst xs) ∧ f ≠ al ∧ c' ≠ al ∧
    Q = fun r hp' => r = .none ∧ hp' = updH hp al (.lst (lay xs L R (digs n (R - L) x)))
theorem lay_lay {xs : List V} {L M R : Nat} {d1 d2 : List Int} (h1 : L ≤ M) (h2 : M ≤ R) (hR : R ≤ xs.length) (e1 : d1.length = M - L) (e2 : d2.length = R - M) : lay (lay xs L M d1) M R d2 = lay xs L R (d1 ++ d2) := by
  unfold lay
  have t : (xs.take L).length = L := by simp; omega
  rw [← List.append_assoc (xs.take L)]
  have l1 : (xs.take L ++ d1.map V.int).length = M := by rw [List.length_append, t, List.length_map, e1]; omega
  rw [List.take_append_of_le_length (by omega), List.take_of_length_le (by omega), List.drop_append, List.drop_eq_nil_of_le (by omega), l1, List.drop_drop, List.nil_append, show M + (R - M) = R by omega, List.map_append]
  simp only [List.append_assoc]
theorem lay_length {xs : List V} {L R : Nat} {ds : List Int} (h1 : L ≤ R) (hR : R ≤ xs.length) (e : ds.length = R - L) : (lay xs L R ds).length = xs.length := by
  unfold lay; simp [e]; omega
theorem lay_one {xs : List V} {L : Nat} {x : Int} (h : L < xs.length) : xs.set L (.int x) = lay xs L (L + 1) [x] := by
  unfold lay
  rw [List.set_eq_take_append_cons_drop, if_pos h]; rfl

set_option maxHeartbeats 4000000 in
theorem i2d_ok {w : World} {mg mb : Str → Option Value} (n : Nat) (hn : 0 < n) (a : Int) (ha : 0 ≤ a) (hp : Hp) (hz : Builtin.Int.intBits a + n ≤ 2 ^ 25) (hcnt : (Builtin.Int.intBits a + n - 1) / n ≤ 100000)
    (hT : TabV hp 30 { line := 32, col := 4, endLine := 41, endCol := 28 } "_int2digits.<locals>.inner") :
    FnOk ⟨PySem.Challenge.pw_wo0035_01, w, mg, mb⟩ "_int2digits" 25 [.int a, .int n] hp (fun r hp' => ∃ t, r = .ref t ∧ hp t = none ∧ (∀ a o, a ≠ 30 → hp a = some o → hp' a = some o) ∧
      hp' t = some (.lst ((digs n ((Builtin.Int.intBits a + n - 1) / n) a).map V.int)) ∧ TabV hp' 30 { line := 32, col := 4, endLine := 41, endCol := 28 } "_int2digits.<locals>.inner") := by
  refine FnOk.ofN ["a", "n"] (c := 34) (P := 30) (by rfl) (by with_unfolding_all rfl) (fun pm cd doc us h => ?_) rfl (by decide) (by decide) (by decide) rfl rfl rfl (fun C O hcl henv hcode hd hu => ?_)
  · (refine Mine.lsb2 h ?_; intros; rfl)
  obtain ⟨hL, fa, henv⟩ := henv
  obtain ⟨_, L', hcl'⟩ := id hcl
  generalize hcq : (Builtin.Int.intBits a + n - 1) / n = cnt at hcnt ⊢
  have hnz : (n : Int) ≠ 0 := by omega
  repeat tb_start
  refine floordiv_ii hnz (noPylong_small (by omega)) ?_
  rw [show ((Builtin.Int.intBits a : Int) + n - 1).fdiv n = (cnt : Int) by
    rw [Int.fdiv_eq_ediv_of_nonneg _ (by omega), ← hcq, Int.natCast_ediv]; congr 1; omega]
  repeat tb_start
  rename_i l0 hl0 t ht
  dsimp only at hl0 ht
  have ht0 : hp t = none := by
    cases q : hp t with
    | none => rfl
    | some o => rw [upd_other hl0 q] at ht; cases ht
  have old1 : ∀ b o, hp b = some o → updH (updH hp l0 (.lst [.int 0])) t (.lst (List.replicate ((cnt : Int)).toNat (.int 0))) b = some o := fun b o e => upd_other ht (upd_other hl0 e)
  refine Sx_Def O henv hcode (by lcg_off) (by unfold Act.env; rw [hcl']; with_unfolding_all rfl) (by rw [henv]; kernel_rfl!) rfl rfl rfl (hT.mono old1) ?_
  intro f c' doc pm ctv hp' hf0 hfP hold hP hcv hf
  have htP : t ≠ 30 := fun q => by
    subst q
    rcases hT with h | ⟨_, h, _⟩ <;> (rw [ht0] at h; cases h)
  have hal : hp' t = some (.lst (List.replicate cnt (.int 0))) := hold t _ htP (updH_same ..)
  have hft : f ≠ t := fun q => by
    subst q
    dsimp only at hf0
    rw [updH_same] at hf0; cases hf0
  have hct : c' ≠ t := fun q => by
    subst q
    obtain ⟨oc, vs, tt, h1, _, _⟩ := hcv
    rw [hal] at h1; cases h1
  have fin : ∀ b o, b ≠ 30 → hp b = some o → hp' b = some o := fun b o hb e => hold b o hb (old1 b o e)
  have hT' : TabV hp' 30 { line := 32, col := 4, endLine := 41, endCol := 28 } "_int2digits.<locals>.inner" := .inr ⟨c', hP, hcv⟩
  obtain ⟨fo, hfo, -⟩ : ∃ fo, hp' f = some (.raw fo) ∧ HO.raw fo = HO.raw fo := ⟨_, hf, rfl⟩
  have hfe := hfo.symm.trans hf
  have hbits : a < 2 ^ (n * cnt) := by
    refine ibits_ge ha ?_
    have := Nat.div_add_mod (Builtin.Int.intBits a + n - 1) n
    have := Nat.mod_lt (Builtin.Int.intBits a + n - 1) hn
    rw [hcq] at *
    omega
  have hncnt : n * cnt ≤ Builtin.Int.intBits a + n := by
    have := Nat.div_add_mod (Builtin.Int.intBits a + n - 1) n
    rw [hcq] at this
    omega
  refine (fun (hrec : ∀ k, RecOk ⟨PySem.Challenge.pw_wo0035_01, w, mg, mb⟩ f [(L' + 1, .int n), (L' + 1 + 1, .ref t), (L' + 1 + 1 + 1, .ref f)] (i2dPre f t fo c' "_int2digits.<locals>.inner" n cnt) k) => ?_)
    (FL_rec ["x", "L", "R"] _ _ (fun k args hp Q ⟨L, R, x, xs, h1, h2, h3, h4, h5, h5', h6, h7, h8, h9⟩ => ⟨h7.trans hfe, h8, by rw [h6]; rfl⟩)
      (fun us h => by (refine Mine.lsb3 h ?_; intros; rfl)) (by decide) (by decide) (by decide) rfl rfl rfl ?_)
  · repeat tb_start
    · rename_i hne
      repeat tb_start
      have hc0 : 0 < cnt := by
        rcases Nat.eq_zero_or_pos cnt with q | q
        · rw [q] at hbits; simp at hbits; omega
        · exact q
      refine len_list hal (by simp; omega) ?_
      repeat tb_start
      refine ⟨⟨_, _, _, _, _, _, _, _, _, _, hf⟩, ?_⟩
      rw [List.length_replicate]
      refine FL_useE (hrec 17 [.int a, .int (0 : Nat), .int cnt] hp' _ ⟨0, cnt, a, _, hc0, Nat.le_refl _, by simp, by omega, ha, by simpa using hbits, rfl, hfo, hcv, hal, hft, hct, rfl⟩ _ C O hL _ ?_ (by omega) (by omega)) ?_
      · intro p hp
        refine .inr ?_
        simp only [List.mem_cons, List.not_mem_nil, or_false] at hp
        rcases hp with rfl | rfl | rfl
        · exact ⟨"n", rfl, rfl, by rw [hcl']; rfl⟩
        · exact ⟨"a_digits", rfl, rfl, by rw [hcl']; rfl⟩
        · exact ⟨"inner", rfl, rfl, by rw [hcl']; rfl⟩
      refine ⟨rfl, ?_⟩
      repeat tb_start
      refine ⟨t, rfl, ht0, fun b o hb e => ?_, ?_, hT'.updl hal⟩
      · refine upd_ne' (fun q => ?_) (fin b o hb e)
        subst q; rw [ht0] at e; cases e
      · rw [updH_same]
        unfold lay
        simp
    · rename_i he
      subst he
      have hc0 : cnt = 0 := by
        rw [← hcq]
        show (0 + n - 1) / n = 0
        exact Nat.div_eq_of_lt (by omega)
      subst hc0
      repeat tb_start
      exact ⟨t, rfl, ht0, fin, hal, hT'⟩
  · rintro k args hp Q ⟨L, R, x, xs, h1, h2, h3, h4, h5, h5', rfl, h6, h7, h8, h9, h10, rfl⟩ ih C' O' hcl' hLF hkv hd' hu'
    have k1 := hkv _ (.head _)
    have k2 := hkv _ (.tail _ (.head _))
    have k3 := hkv _ (.tail _ (.tail _ (.head _)))
    repeat tb_start
    · rename_i hone
      refine Ev_freeK (by with_unfolding_all rfl) (by kernel_rfl!) (by kernel_rfl!) (by kernel_rfl!) (c := L' + 1 + 1) (by rw [hcl']; with_unfolding_all rfl) k2 ?_
      repeat tb_start
      refine atSub_i h8 (by omega) (by omega) (by omega) ?_
      repeat tb_start
      refine ⟨rfl, ?_⟩
      have : R = L + 1 := by omega
      subst this
      rw [Int.toNat_natCast, lay_one (by omega), show L + 1 - L = 0 + 1 by omega, digs, digs, Int.emod_eq_of_lt h5 (by rw [show L + 1 - L = 1 by omega, Nat.mul_one] at h5'; exact h5')]
    · rename_i hone
      obtain ⟨M, hM⟩ : ∃ M, M = (L + R) / 2 := ⟨_, rfl⟩
      obtain ⟨k, rfl⟩ : ∃ k', k = k' + 1 := by
        cases k with
        | zero => exfalso; simp at h4; omega
        | succ k' => exact ⟨k', rfl⟩
      rw [Nat.pow_succ] at h4
      have hM1 : L < M := by omega
      have hM2 : M < R := by omega
      have hsz : n * (R - L) ≤ 2 ^ 25 := Nat.le_trans (Nat.mul_le_mul_left n (by omega)) (Nat.le_trans hncnt hz)
      have hsum : n * (R - M) + n * (M - L) = n * (R - L) := by rw [← Nat.mul_add]; congr 1; omega
      have hT1 := kbt_pos (n * (M - L))
      repeat tb_start
      refine rshift_n (k := 1) ?_
      rw [show ((L : Int) + R) / 2 ^ 1 = (M : Int) by omega]
      repeat tb_start
      refine Ev_freeK (by with_unfolding_all rfl) (by kernel_rfl!) (by kernel_rfl!) (by kernel_rfl!) (c := L' + 1) (by rw [hcl']; with_unfolding_all rfl) k1 ?_
      repeat tb_start
      rw [show ((M : Int) - L) * n = ((n * (M - L) : Nat) : Int) by rw [Int.natCast_mul, Int.natCast_sub (by omega), Int.mul_comm]]
      repeat tb_start
      have hup0 : 0 ≤ x / 2 ^ (n * (M - L)) := Int.ediv_nonneg h5 (Int.le_of_lt hT1)
      have hup1 : x / 2 ^ (n * (M - L)) < 2 ^ (n * (R - M)) := (Int.ediv_lt_iff_lt_mul hT1).mpr (by rw [← Int.pow_add, hsum]; exact h5')
      have hlo0 := Int.emod_nonneg x (Int.ne_of_gt hT1)
      have hlo1 := Int.emod_lt_of_pos x hT1
      refine lshift_n (n * (R - M)) (natAbs_lt hup0 hup1) (by omega) ?_
      repeat tb_start
      rw [xor_high]
      repeat tb_start
      refine Ev_freeK (by with_unfolding_all rfl) (by kernel_rfl!) (by kernel_rfl!) (by kernel_rfl!) (c := L' + 1 + 1 + 1) (by rw [hcl']; with_unfolding_all rfl) k3 ?_
      repeat tb_start
      refine ⟨⟨_, _, _, _, _, _, _, _, _, _, h6.trans hfe⟩, ?_⟩
      refine FL_useE (ih k (by omega) [.int _, .int L, .int M] hp _ ⟨L, M, _, xs, hM1, by omega, h3, by omega, hlo0, hlo1, rfl, h6, h7, h8, h9, h10, rfl⟩ _ C' O' hLF _ (fun p hp => .inl (hkv p hp)) (by omega) (by omega)) ?_
      refine ⟨rfl, ?_⟩
      repeat tb_start
      refine Ev_freeK (by with_unfolding_all rfl) (by kernel_rfl!) (by kernel_rfl!) (by kernel_rfl!) (c := L' + 1 + 1 + 1) (by rw [hcl']; with_unfolding_all rfl) k3 ?_
      repeat tb_start
      have ll := lay_length (xs := xs) (L := L) (R := M) (ds := digs n (M - L) (x % 2 ^ (n * (M - L)))) (by omega) (by omega) (digs_length ..)
      have h6' := upd_ne' (o' := .lst (lay xs L M (digs n (M - L) (x % 2 ^ (n * (M - L)))))) h9 h6
      refine ⟨⟨_, _, _, _, _, _, _, _, _, _, h6'.trans hfe⟩, ?_⟩
      refine FL_useE (ih k (by omega) [.int _, .int M, .int R] _ _ ⟨M, R, _, _, hM2, h2, ll.trans h3, by omega, hup0, hup1, rfl, h6', h7.mono (fun o e => upd_ne' h10 e), updH_same .., h9, h10, rfl⟩ _ C' O' hLF _ (fun p hp => .inl (hkv p hp)) (by omega) (by omega)) ?_
      refine ⟨rfl, ?_⟩
      repeat tb_start
      refine ⟨rfl, ?_⟩
      rw [updH_idem, lay_lay (by omega) (by omega) (by omega) (digs_length ..) (digs_length ..), ← digs_append, show M - L + (R - M) = R - L by omega]
abbrev D2 (G : GE) (k : Nat) : Prop := ∀ (a b : Int) (n : Nat) (hp : Hp), 0 < n → n ≤ 4000 * 2 ^ k → 2 ^ (n - 1) ≤ b → b < 2 ^ n → 0 ≤ a → a < b * 2 ^ n →
  FnOk G "_div2n1n" (2 * k + 1) [.int a, .int b, .int n] hp (fun r hp' => r = .tup [.int (a / b), .int (a % b)] ∧ hp' = hp)
abbrev D3 (G : GE) (k : Nat) : Prop := ∀ (a12 a3 b b1 b2 : Int) (n : Nat) (hp : Hp), b = b1 * 2 ^ n + b2 → 0 < n → n ≤ 4000 * 2 ^ k → 2 ^ (n - 1) ≤ b1 → b1 < 2 ^ n → 0 ≤ b2 → b2 < 2 ^ n → 0 ≤ a12 → a12 < b1 * 2 ^ n + b2 → 0 ≤ a3 → a3 < 2 ^ n →
  FnOk G "_div3n2n" (2 * k + 2) [.int a12, .int a3, .int b, .int b1, .int b2, .int n] hp (fun r hp' => r = .tup [.int ((a12 * 2 ^ n + a3) / b), .int ((a12 * 2 ^ n + a3) % b)] ∧ hp' = hp)

theorem d3_first {T a12 a3 b1 b2 : Int} (hT : 0 < T) (hq : a12 / T = b1) (h1 : a12 < b1 * T + b2) (h2 : b2 < T) (h3 : a3 < T) :
    (T - 1) * b1 + (a12 - b1 * T + b1) = a12 ∧ (a12 - b1 * T + b1) * T + a3 - (T - 1) * b2 < b1 * T + b2 ∧ 0 ≤ a12 - b1 * T ∧ a12 - b1 * T < b2 := by
  have e := Int.mul_ediv_add_emod a12 T
  have hm := Int.emod_nonneg a12 (Int.ne_of_gt hT)
  rw [hq, Int.mul_comm] at e
  obtain ⟨c, hc⟩ : ∃ c, c = a12 - b1 * T := ⟨_, rfl⟩
  rw [← hc]
  have c0 : 0 ≤ c := by omega
  have c1 : c < b2 := by omega
  have hct : (c + 1) * T ≤ b2 * T := Int.mul_le_mul_of_nonneg_right (by omega) (by omega)
  rw [Int.add_mul, Int.one_mul] at hct
  refine ⟨?_, ?_, c0, c1⟩
  · rw [Int.sub_mul, Int.mul_comm T b1]; omega
  · rw [Int.sub_mul, Int.add_mul, Int.mul_comm T b2]; omega
theorem d3_second {T a12 a3 b1 b2 : Int} (hT : 0 < T) (hb : 0 < b1) (ha : 0 ≤ a12) (hq : a12 / T ≠ b1) (h1 : a12 < b1 * T + b2) (h2 : b2 < T) (h2' : 0 ≤ b2) (h3 : a3 < T) :
    a12 < b1 * T ∧ a12 / b1 * b1 + a12 % b1 = a12 ∧ 0 ≤ a12 / b1 ∧ a12 / b1 < T ∧ a12 % b1 * T + a3 - a12 / b1 * b2 < b1 * T + b2 ∧ 0 ≤ a12 % b1 ∧ a12 % b1 < b1 := by
  have hlt : a12 < b1 * T := by
    have e := Int.mul_ediv_add_emod a12 T
    have hm := Int.emod_nonneg a12 (Int.ne_of_gt hT)
    have hm' := Int.emod_lt_of_pos a12 hT
    have : a12 / T ≤ b1 := by
      have : a12 < (b1 + 1) * T := by rw [Int.add_mul]; omega
      have := (Int.ediv_lt_iff_lt_mul hT).mpr this
      omega
    have : a12 / T < b1 := by omega
    exact (Int.ediv_lt_iff_lt_mul hT).mp this
  have e := Int.mul_ediv_add_emod a12 b1
  rw [Int.mul_comm] at e
  have hm := Int.emod_nonneg a12 (Int.ne_of_gt hb)
  have hm' := Int.emod_lt_of_pos a12 hb
  have q0 : 0 ≤ a12 / b1 := Int.ediv_nonneg ha (by omega)
  have qT : a12 / b1 < T := (Int.ediv_lt_iff_lt_mul hb).mpr (by rw [Int.mul_comm]; exact hlt)
  refine ⟨hlt, e, q0, qT, ?_, hm, hm'⟩
  have h4 : (a12 % b1 + 1) * T ≤ b1 * T := Int.mul_le_mul_of_nonneg_right (by omega) (by omega)
  rw [Int.add_mul, Int.one_mul] at h4
  have h5 : 0 ≤ a12 / b1 * b2 := Int.mul_nonneg q0 h2'
  omega
theorem d3_start {T a12 a3 b1 b2 q r : Int} (h : q * b1 + r = a12) : q * (b1 * T + b2) + (r * T + a3 - q * b2) = a12 * T + a3 := by
  rw [← h, Int.mul_add, Int.add_mul, Int.mul_assoc]; omega
set_option maxHeartbeats 4000000 in
theorem D3_ok {w : World} {mg mb : Str → Option Value} (k : Nat) (hk : k ≤ 10) (H : D2 ⟨PySem.Challenge.pw_wo0035_01, w, mg, mb⟩ k) : D3 ⟨PySem.Challenge.pw_wo0035_01, w, mg, mb⟩ k := by
  intro a12 a3 b b1 b2 n hp hbe hn hnk hb1 hb1' hb2 hb2' ha ha' h3 h3'
  subst hbe
  have hk2 : (2 : Nat) ^ k ≤ 2 ^ 10 := Nat.pow_le_pow_right (by decide) hk
  have hn2 : n ≤ 4096000 := by omega
  have hp2 := kbt_pos n
  have hb1n : 0 < b1 := Int.lt_of_lt_of_le (kbt_pos (n - 1)) hb1
  refine FnOk.of ["a12", "a3", "b", "b1", "b2", "n"] (by with_unfolding_all rfl) (fun pm cd doc us h => ?_) rfl (by decide) (by decide) (by decide) rfl rfl rfl (fun C O hcl hd hu => ?_)
  · (refine Mine.lsb6 h ?_; intros; rfl)
  have hbit : a12.natAbs < 2 ^ (2 * n) := natAbs_lt ha (by
    have : b1 * 2 ^ n + b2 < 2 ^ n * 2 ^ n := by
      have : (b1 + 1) * 2 ^ n ≤ 2 ^ n * 2 ^ n := Int.mul_le_mul_of_nonneg_right (by omega) (by omega)
      rw [Int.add_mul] at this; omega
    rw [show 2 * n = n + n by omega, Int.pow_add]; omega)
  -- what the first branch leaves
  refine Sx_IfJoin (fun σ => ∃ q r : Int, q * b1 + r = a12 ∧ 0 ≤ q ∧ q < 2 ^ n ∧ r * 2 ^ n + a3 - q * b2 < b1 * 2 ^ n + b2 ∧ r.natAbs < 2 ^ (2 * n) ∧
    σ = ⟨[("q", .int q), ("r", .int r), ("a3", .int a3), ("b", .int (b1 * 2 ^ n + b2)), ("b1", .int b1), ("b2", .int b2), ("n", .int n)], hp⟩) ?_ ?_
  · repeat tb_start
    · rename_i hq
      obtain ⟨f1, f2, f3, f4⟩ := d3_first hp2 hq ha' hb2' h3'
      refine lshift_n 1 (by decide) (by omega) ?_
      repeat tb_start
      refine lshift_n n (natAbs_lt (by omega) hb1') (by omega) ?_
      repeat tb_start
      refine joinQ_i _ (St.le_of ?_ hp_refl) ⟨2 ^ n - 1, a12 - b1 * 2 ^ n + b1, f1, by omega, by omega, f2, natAbs_lt (by omega) ?_, rfl⟩
      · rw [Int.one_mul]; tlg_ne
      · have : (2 : Int) ^ (2 * n) = 2 ^ n * 2 ^ n := by rw [← Int.pow_add]; congr 1; omega
        have h1 : (2 : Int) ≤ 2 ^ n := by rw [show n = n - 1 + 1 by omega, Int.pow_succ]; have := kbt_pos (n - 1); omega
        have h2 : (2 : Int) * 2 ^ n ≤ 2 ^ n * 2 ^ n := Int.mul_le_mul_of_nonneg_right h1 (by omega)
        omega
    · rename_i hq
      obtain ⟨f0, f1, f2, f3, f4, f5, f6⟩ := d3_second hp2 hb1n ha hq ha' hb2' hb2 h3'
      repeat tb_start
      refine callPost_i O (H a12 b1 n hp hn hnk hb1 hb1' ha f0) (by omega) (by omega) ?_
      rintro _ _ ⟨rfl, rfl⟩
      repeat tb_start
      refine joinQ_i _ (St.le_of ?_ hp_refl) ⟨a12 / b1, a12 % b1, f1, f2, f3, f4, natAbs_lt f5 ?_, rfl⟩
      · tlg_ne
      · have : (1 : Int) * 2 ^ n ≤ 2 ^ n * 2 ^ n := Int.mul_le_mul_of_nonneg_right (by omega) (by omega)
        rw [show 2 * n = n + n by omega, Int.pow_add]
        omega
  · rintro σ ⟨q, r, e1, q0, qT, e2, hr, rfl⟩
    repeat tb_start
    refine lshift_n (2 * n) hr (by omega) ?_
    repeat tb_start
    refine mul_ii (IntMulOk.of_le (ibits_le q0 qT) (ibits_le hb2 hb2') (by omega)) ?_
    repeat tb_start
    rw [or_low h3 h3']
    refine Sx_While (fun m σ => ∃ q r : Int, q * (b1 * 2 ^ n + b2) + r = a12 * 2 ^ n + a3 ∧ r < b1 * 2 ^ n + b2 ∧ m = (-r).toNat ∧
      σ = ⟨[("q", .int q), ("r", .int r), ("b", .int (b1 * 2 ^ n + b2))], hp⟩) _ _ (St.le_of ?_ hp_refl) ⟨q, r * 2 ^ n + a3 - q * b2, d3_start e1, e2, rfl, rfl⟩ ?_
    · tlg_ne
    rintro m σ ⟨q, r, e1, e2, rfl, rfl⟩
    have hB : 0 < b1 * 2 ^ n + b2 := by have := Int.mul_pos hb1n hp2; omega
    repeat tb_start
    · rename_i hr
      refine loopW_next _ _ ?_ (St.le_of ?_ hp_refl) ⟨q - 1, r + (b1 * 2 ^ n + b2), ?_, by omega, rfl, rfl⟩
      · omega
      · tlg_ne
      · rw [Int.sub_mul]; omega
    · rename_i hr
      repeat tb_start
      obtain ⟨g1, g2⟩ := kbt_unique (a := a12 * 2 ^ n + a3) (q := q) (r := r) hB (by rw [Int.mul_comm (b1 * 2 ^ n + b2) q]; omega) (by omega) e2
      rw [g1, g2]
      exact ⟨rfl, rfl⟩

/-- two halves -/
theorem d2_join {A B : Int} (h : Nat) (hB : 0 < B) (hA : 0 ≤ A) (hlt : A < B * 2 ^ (2 * h)) :
    A / 2 ^ (2 * h) * 2 ^ h + A / 2 ^ h % 2 ^ h = A / 2 ^ h ∧ 0 ≤ A / 2 ^ (2 * h) ∧ A / 2 ^ (2 * h) < B ∧ 0 ≤ A / 2 ^ h % 2 ^ h ∧ A / 2 ^ h % 2 ^ h < 2 ^ h ∧
    0 ≤ A / 2 ^ h % B ∧ A / 2 ^ h % B < B ∧ 0 ≤ A % 2 ^ h ∧ A % 2 ^ h < 2 ^ h ∧
    0 ≤ (A / 2 ^ h % B * 2 ^ h + A % 2 ^ h) / B ∧ (A / 2 ^ h % B * 2 ^ h + A % 2 ^ h) / B < 2 ^ h ∧
    A / 2 ^ h / B * 2 ^ h + (A / 2 ^ h % B * 2 ^ h + A % 2 ^ h) / B = A / B ∧ (A / 2 ^ h % B * 2 ^ h + A % 2 ^ h) % B = A % B := by
  have hT := kbt_pos h
  have e2 : (2 : Int) ^ (2 * h) = 2 ^ h * 2 ^ h := by rw [← Int.pow_add]; congr 1; omega
  rw [e2] at hlt ⊢
  have eA := Int.mul_ediv_add_emod A (2 ^ h)
  have l0 := Int.emod_nonneg A (Int.ne_of_gt hT)
  have l1 := Int.emod_lt_of_pos A hT
  generalize hX : A / 2 ^ h = X at *
  generalize hl : A % 2 ^ h = l at *
  have hX0 : 0 ≤ X := by rw [← hX]; exact Int.ediv_nonneg hA (by omega)
  have d : A / (2 ^ h * 2 ^ h) = X / 2 ^ h := by rw [← hX, Int.ediv_ediv_of_nonneg (by omega)]
  rw [d]
  generalize hT' : (2 : Int) ^ h = T at *
  have x1 := Int.mul_ediv_add_emod X T
  have x2 := Int.emod_nonneg X (Int.ne_of_gt hT)
  have x3 := Int.emod_lt_of_pos X hT
  have x4 : 0 ≤ X / T := Int.ediv_nonneg hX0 (by omega)
  have x5 : X / T < B := by
    rw [← d]
    exact (Int.ediv_lt_iff_lt_mul (Int.mul_pos hT hT)).mpr hlt
  have y1 := Int.mul_ediv_add_emod X B
  have y2 := Int.emod_nonneg X (Int.ne_of_gt hB)
  have y3 := Int.emod_lt_of_pos X hB
  generalize hr : X % B = r at *
  generalize hq : X / B = q at *
  have z0 : 0 ≤ r * T := Int.mul_nonneg y2 (by omega)
  have z1 := Int.mul_ediv_add_emod (r * T + l) B
  have z2 := Int.emod_nonneg (r * T + l) (Int.ne_of_gt hB)
  have z3 := Int.emod_lt_of_pos (r * T + l) hB
  have z4 : 0 ≤ (r * T + l) / B := Int.ediv_nonneg (by omega) (by omega)
  have z5 : (r * T + l) / B < T := (Int.ediv_lt_iff_lt_mul hB).mpr (by
    have : (r + 1) * T ≤ B * T := Int.mul_le_mul_of_nonneg_right (by omega) (by omega)
    rw [Int.add_mul, Int.one_mul] at this
    rw [Int.mul_comm T B]; omega)
  obtain ⟨g1, g2⟩ := kbt_unique (a := A) (b := B) (q := q * T + (r * T + l) / B) (r := (r * T + l) % B) hB (by
    rw [Int.mul_add, ← Int.mul_assoc]
    have : B * q * T = X * T - r * T := by rw [show B * q = X - r by omega, Int.sub_mul]
    have : X * T = T * X := Int.mul_comm _ _
    omega) z2 z3
  refine ⟨by rw [Int.mul_comm (X / T) T]; exact x1, x4, x5, x2, x3, y2, y3, l0, l1, z4, z5, g1.symm, g2.symm⟩

set_option maxHeartbeats 4000000 in
theorem D2_ok {w : World} {mg mb : Str → Option Value} (hL : ∃ t, mg "_DIV_LIMIT" = some (.int 4000 t)) (k : Nat) (hk : k ≤ 10) (H : ∀ k', k = k' + 1 → D3 ⟨PySem.Challenge.pw_wo0035_01, w, mg, mb⟩ k') : D2 ⟨PySem.Challenge.pw_wo0035_01, w, mg, mb⟩ k := by
  intro a b n hp hn hnk hb hb' ha ha'
  obtain ⟨tL, hL⟩ := hL
  have hk2 : (2 : Nat) ^ k ≤ 2 ^ 10 := Nat.pow_le_pow_right (by decide) hk
  have hn2 : n ≤ 4096000 := by omega
  have hp2 := kbt_pos n
  have hbp : 0 < b := Int.lt_of_lt_of_le (kbt_pos (n - 1)) hb
  have hbits : Builtin.Int.intBits b = n := ibits_eq hn hb hb'
  have haa : a < 2 ^ (2 * n) := by
    have : b * 2 ^ n ≤ 2 ^ n * 2 ^ n := Int.mul_le_mul_of_nonneg_right (by omega) (by omega)
    rw [show 2 * n = n + n by omega, Int.pow_add]; omega
  have habits : Builtin.Int.intBits a ≤ 2 * n := ibits_le ha haa
  refine FnOk.of ["a", "b", "n"] (by with_unfolding_all rfl) (fun pm cd doc us h => ?_) rfl (by decide) (by decide) (by decide) rfl rfl rfl (fun C O hcl hd hu => ?_)
  · (refine Mine.lsb3 h ?_; intros; rfl)
  repeat tb_start
  refine Ev_globalI (by assumption) (by kernel_rfl!) (by kernel_rfl!) hL ?_
  repeat tb_start
  · rename_i hle
    refine divmod_ii (by omega) (noPylong hbits (by omega)) ?_
    repeat tb_start
    rw [Int.fdiv_eq_ediv_of_nonneg _ (Int.le_of_lt hbp), Int.fmod_eq_emod_of_nonneg _ (Int.le_of_lt hbp)]
    exact ⟨rfl, rfl⟩
  rename_i hle
  obtain ⟨k, rfl⟩ : ∃ k', k = k' + 1 := by
    cases k with
    | zero => exfalso; omega
    | succ k' => exact ⟨k', rfl⟩
  have H := H k rfl
  repeat lsm_bools
  refine Sx_IfJoin (fun σ => ∃ (A B pad : Int) (h : Nat), 0 < h ∧ 2 * h ≤ 4000 * 2 ^ (k + 1) ∧ ((pad = 0 ∧ A = a ∧ B = b) ∨ (pad = 1 ∧ A = a * 2 ^ 1 ∧ B = b * 2 ^ 1)) ∧
    2 ^ (2 * h - 1) ≤ B ∧ B < 2 ^ (2 * h) ∧ 0 ≤ A ∧ A < B * 2 ^ (2 * h) ∧
    σ = ⟨[("a", .int A), ("b", .int B), ("n", .int ((2 * h : Nat) : Int)), ("pad", .int pad)], hp⟩) ?_ ?_
  · rw [bitAnd_m1]
    repeat tb_start
    · rename_i hodd
      refine ilshift_n (k := 1) (2 * n) (natAbs_lt ha haa) (by omega) ?_
      repeat tb_start
      refine ilshift_n (k := 1) n (natAbs_lt (by omega) hb') (by omega) ?_
      repeat tb_start
      obtain ⟨h, hh⟩ : ∃ h, n + 1 = 2 * h := ⟨(n + 1) / 2, by omega⟩
      rw [show (n : Int) + 1 = ((2 * h : Nat) : Int) by omega, show (n : Int) % 2 = 1 by omega]
      have e1 : (2 : Int) ^ (2 * h) = 2 * 2 ^ n := by rw [← hh, Int.pow_succ, Int.mul_comm]
      have e2 : (2 : Int) ^ (2 * h - 1) = 2 * 2 ^ (n - 1) := by rw [← hh, show n + 1 - 1 = n - 1 + 1 by omega, Int.pow_succ, Int.mul_comm]
      refine joinQ_i _ (St.le_of ?_ hp_refl) ⟨a * 2 ^ 1, b * 2 ^ 1, 1, h, by omega, ?_, .inr ⟨rfl, rfl, rfl⟩, by omega, by omega, by omega, ?_, rfl⟩
      · tlg_ne
      · rw [Nat.pow_succ] at hnk ⊢; omega
      · rw [e1]
        have : b * 2 ^ 1 * (2 * 2 ^ n) = 4 * (b * 2 ^ n) := by rw [show b * 2 ^ 1 * (2 * 2 ^ n) = b * 2 ^ 1 * 2 * 2 ^ n from by rw [← Int.mul_assoc], show b * 2 ^ 1 * 2 = 4 * b by omega, Int.mul_assoc]
        have : 0 ≤ b * 2 ^ n := by omega
        omega
    · rename_i heven
      obtain ⟨h, hh⟩ : ∃ h, n = 2 * h := ⟨n / 2, by omega⟩
      subst hh
      repeat tb_start
      rw [show ((2 * h : Nat) : Int) % 2 = 0 by omega]
      refine joinQ_i _ (St.le_of ?_ hp_refl) ⟨a, b, 0, h, by omega, hnk, .inl ⟨rfl, rfl, rfl⟩, hb, hb', ha, ha', rfl⟩
      tlg_ne
  · rintro σ ⟨A, B, pad, h, h0, hh, hpad, hB, hB', hA, hA', rfl⟩
    have hh2 : h ≤ 4000 * 2 ^ k := by rw [Nat.pow_succ] at hh; omega
    have hh3 : h ≤ 4096000 := by omega
    have hT := kbt_pos h
    have hBp : 0 < B := Int.lt_of_lt_of_le (kbt_pos (2 * h - 1)) hB
    obtain ⟨j1, j2, j3, j4, j5, j6, j7, j8, j9, j10, j11, j12, j13⟩ := d2_join h hBp hA hA'
    have bT : B / 2 ^ h * 2 ^ h + B % 2 ^ h = B := by rw [Int.mul_comm]; exact Int.mul_ediv_add_emod B (2 ^ h)
    have hq1 : (A / 2 ^ h / B).natAbs < 2 ^ (4 * h) := by
      have q0 : 0 ≤ A / 2 ^ h := Int.ediv_nonneg hA (by omega)
      refine natAbs_lt (Int.ediv_nonneg q0 (by omega)) ?_
      have q1 : A / 2 ^ h / B ≤ A / 2 ^ h := Int.ediv_le_self _ q0
      have q2 : A / 2 ^ h ≤ A := Int.ediv_le_self _ hA
      have q3 : B * 2 ^ (2 * h) ≤ 2 ^ (2 * h) * 2 ^ (2 * h) := Int.mul_le_mul_of_nonneg_right (by omega) (Int.le_of_lt (kbt_pos _))
      rw [← Int.pow_add, show 2 * h + 2 * h = 4 * h by omega] at q3
      omega
    have b0 := Int.emod_nonneg B (Int.ne_of_gt hT)
    have b1 := Int.emod_lt_of_pos B hT
    have b2 : B / 2 ^ h < 2 ^ h := (Int.ediv_lt_iff_lt_mul hT).mpr (by rw [← Int.pow_add, show h + h = 2 * h by omega]; exact hB')
    have b3 : 2 ^ (h - 1) ≤ B / 2 ^ h := (Int.le_ediv_iff_mul_le hT).mpr (by rw [← Int.pow_add, show h - 1 + h = 2 * h - 1 by omega]; exact hB)
    repeat tb_start
    refine rshift_n (k := 1) ?_
    rw [show ((2 * h : Nat) : Int) / 2 ^ 1 = ((h : Nat) : Int) by omega]
    repeat tb_start
    refine lshift_n 1 (by decide) (by omega) ?_
    rw [Int.one_mul]
    repeat tb_start
    rw [kbt_mask, kbt_mask]
    refine callPost_i O (H _ _ B _ _ h hp bT.symm h0 hh2 b3 b2 b0 b1 j2 (by rw [bT]; exact j3) j4 j5) (by omega) (by omega) ?_
    rintro _ _ ⟨rfl, rfl⟩
    repeat tb_start
    rw [j1, kbt_mask]
    refine callPost_i O (H _ _ B _ _ h _ bT.symm h0 hh2 b3 b2 b0 b1 j6 (by rw [bT]; exact j7) j8 j9) (by omega) (by omega) ?_
    rintro _ _ ⟨rfl, rfl⟩
    repeat tb_start
    all_goals rename_i hpd
    · obtain ⟨rfl, rfl, rfl⟩ : pad = 1 ∧ A = a * 2 ^ 1 ∧ B = b * 2 ^ 1 := by
        rcases hpad with ⟨e, _⟩ | h
        · exact absurd e hpd
        · exact h
      refine irshift_n (k := 1) ?_
      repeat tb_start
      refine lshift_n (4 * h) hq1 (by omega) ?_
      repeat tb_start
      rw [or_low j10 j11, j12, j13]
      rw [Int.mul_ediv_mul_of_pos_left _ _ (by decide : (0 : Int) < 2 ^ 1)]
      rw [show a * 2 ^ 1 % (b * 2 ^ 1) / 2 ^ 1 = a % b from by
        rw [Int.mul_comm a, Int.mul_comm b, Int.mul_emod_mul_of_pos _ _ (by decide : (0 : Int) < 2 ^ 1)]
        exact Int.mul_ediv_cancel_left _ (by decide)]
      exact ⟨rfl, rfl⟩
    · obtain ⟨rfl, rfl⟩ : A = a ∧ B = b := by
        rcases hpad with ⟨_, h⟩ | ⟨e, _⟩
        · exact h
        · omega
      repeat tb_start
      refine lshift_n (4 * h) hq1 (by omega) ?_
      repeat tb_start
      rw [or_low j10 j11, j12, j13]
      exact ⟨rfl, rfl⟩

theorem D2_all {w : World} {mg mb : Str → Option Value} (hL : ∃ t, mg "_DIV_LIMIT" = some (.int 4000 t)) : ∀ k, k ≤ 10 → D2 ⟨PySem.Challenge.pw_wo0035_01, w, mg, mb⟩ k
  | 0, h => D2_ok hL 0 h fun k' e => by omega
  | k + 1, h => D2_ok hL (k + 1) h fun k' e => by
    have : k' = k := by omega
    subst this
    exact D3_ok k' (by omega) (D2_all hL k' (by omega))
/-- the tables of nested defs -/
def NT (hp : Hp) : Prop := TabV hp 30 { line := 32, col := 4, endLine := 41, endCol := 28 } "_int2digits.<locals>.inner" ∧ TabV hp 37 { line := 47, col := 4, endLine := 52, endCol := 62 } "_digits2int.<locals>.inner"
theorem digs_get {n : Nat} : ∀ {c i : Nat} {x : Int}, i < c → (digs n c x)[i]? = some (x / 2 ^ (n * i) % 2 ^ n)
  | c + 1, 0, x, _ => by simp [digs]
  | c + 1, i + 1, x, h => by
    rw [digs, List.getElem?_cons_succ, digs_get (by omega), Int.ediv_ediv_of_nonneg (Int.le_of_lt (kbt_pos n)), ← Int.pow_add, show n + n * i = n * (i + 1) by rw [Nat.mul_add, Nat.mul_one, Nat.add_comm]]
theorem TabV.keepBut {hp hp' : Hp} {P P' : Addr} {pos : Pos} {qual : Str} (h : TabV hp P pos qual) (k : ∀ a o, a ≠ P' → hp a = some o → hp' a = some o) (hP : P ≠ P') (hc : ∀ c, CodeV hp c qual → c ≠ P') : TabV hp' P pos qual := by
  rcases h with h | ⟨c', h, x⟩
  · exact .inl (k _ _ hP h)
  · exact .inr ⟨c', k _ _ hP h, x.mono fun o e => k _ _ (hc _ x) e⟩
theorem CodeV.notTab {hp : Hp} {c P : Addr} {pos : Pos} {q q' : Str} (h : CodeV hp c q) (t : TabV hp P pos q') : c ≠ P := fun e => by
  subst e
  obtain ⟨oc, vs, tt, e1, e2, e3⟩ := h
  rcases t with e' | ⟨c', e', _⟩
  · rw [e1] at e'
    cases e'; cases e2; simp at e3
  · rw [e1] at e'
    cases e'; cases e2; simp [rawInt] at e3

set_option maxHeartbeats 4000000 in
theorem divmod_pos_ok {w : World} {mg mb : Str → Option Value} (hDL : ∃ t, mg "_DIV_LIMIT" = some (.int 4000 t)) (a b : Int) (ha : 0 ≤ a) (hb : 0 < b) (hp : Hp) (hza : Builtin.Int.intBits a ≤ 100000) (hzb : Builtin.Int.intBits b ≤ 100000) (hT : NT hp) :
    FnOk ⟨PySem.Challenge.pw_wo0035_01, w, mg, mb⟩ "_divmod_pos" 26 [.int a, .int b] hp (fun r hp' => r = .tup [.int (a / b), .int (a % b)] ∧ (∀ c o, c ≠ 30 → c ≠ 37 → hp c = some o → hp' c = some o) ∧ NT hp') := by
  obtain ⟨hT1, hT2⟩ := hT
  refine FnOk.of ["a", "b"] (by with_unfolding_all rfl) (fun pm cd doc us h => ?_) rfl (by decide) (by decide) (by decide) rfl rfl rfl (fun C O hcl hd hu => ?_)
  · (refine Mine.lsb2 h ?_; intros; rfl)
  obtain ⟨hn, hb1, hb2⟩ := ibits_spec hb
  obtain ⟨n, hnn⟩ : ∃ n, n = Builtin.Int.intBits b := ⟨_, rfl⟩
  rw [← hnn] at hn hb1 hb2 hzb
  obtain ⟨cnt, hcq⟩ : ∃ cnt, cnt = (Builtin.Int.intBits a + n - 1) / n := ⟨_, rfl⟩
  have hdm := Nat.div_add_mod (Builtin.Int.intBits a + n - 1) n
  have hdl := Nat.mod_lt (Builtin.Int.intBits a + n - 1) hn
  rw [← hcq] at hdm
  have hcnt : cnt ≤ 100000 := by
    rcases Nat.eq_zero_or_pos (Builtin.Int.intBits a) with q | q
    · rw [q] at hcq; rw [hcq, Nat.div_eq_of_lt (by omega)]; omega
    · rcases Nat.lt_or_ge cnt (Builtin.Int.intBits a + 1) with h | h
      · omega
      · have h1 := Nat.mul_le_mul_left n h
        have h2 := Nat.mul_le_mul_right (Builtin.Int.intBits a) (show 1 ≤ n from hn)
        rw [Nat.mul_add] at h1
        omega
  have hbits : a < 2 ^ (n * cnt) := ibits_ge ha (by omega)
  repeat tb_start
  rw [← hnn]
  refine callPost_i O (i2d_ok n hn a ha hp (by omega) (by rw [← hcq]; exact hcnt) hT1) (by omega) (by omega) ?_
  rintro _ hp2 ⟨al, rfl, hal0, hkeep, hal, hT1'⟩
  rw [← hcq] at hal
  have hT2' : TabV hp2 37 { line := 47, col := 4, endLine := 52, endCol := 62 } "_digits2int.<locals>.inner" := hT2.keepBut hkeep (by decide) fun c x => x.notTab hT1
  repeat tb_start
  rename_i ql hql
  dsimp only at hql
  refine Sx_For (by assumption) (by lcg_off) (by intro _; rfl) ?_
  repeat tb_start
  refine reversed_list (by kbo_bools) fun rv hrv => ?_
  dsimp only at hrv ⊢
  have hqal : al ≠ ql := fun q => by subst q; rw [hal] at hql; cases hql
  have hlen : ((digs n cnt a).map V.int).length = cnt := by simp [digs_length]
  have hsz : n * cnt ≤ 2 ^ 26 := by omega
  have hpn := kbt_pos n
  refine ⟨{ σ' := _, items := _, dep := _, it := iter_rev (l := al) (xs := (digs n cnt a).map V.int) (by assumption) (by kbo_bools), I := fun i σ => ∃ (qs : List Int), qs.length = i ∧ (∀ d ∈ qs, 0 ≤ d ∧ d < 2 ^ n) ∧ dval n qs.reverse = a / 2 ^ (n * (cnt - i)) / b ∧
      σ = ⟨[("r", .int (a / 2 ^ (n * (cnt - i)) % b)), ("n", .int n), ("b", .int b), ("q_digits", .ref ql)], updH hp2 ql (.lst (qs.map V.int))⟩, σ0 := _, le0 := St.le_of ?loc ?hp, h0 := ⟨[], rfl, fun _ h => (nomatch h), ?start, rfl⟩, hdep := ?dep, turn := ?turn, done := ?done }⟩
  case loc =>
    have e0 : a / 2 ^ (n * (cnt - 0)) = 0 := Int.ediv_eq_zero_of_lt ha (by simpa using hbits)
    rw [e0, Int.zero_emod]
    tlg_ne
  case hp =>
    intro x o e
    show (if x = rv then none else _) = some o
    have : x ≠ rv := fun q => by subst q; simp only [List.map_nil] at e; rw [hrv] at e; cases e
    rw [if_neg this]
    exact upd_other hrv e
  case start =>
    have e0 : a / 2 ^ (n * (cnt - 0)) = 0 := Int.ediv_eq_zero_of_lt ha (by simpa using hbits)
    rw [e0]; simp [dval]
  case dep =>
    rintro i σ ⟨qs, h1, h2, h3, rfl⟩
    exact upd_ne' hqal hal
  case turn =>
    rintro i y σ hy ⟨qs, h1, h2, h3, rfl⟩
    have hi : i < cnt := by
      rcases Nat.lt_or_ge i cnt with h | h
      · exact h
      · rw [List.getElem?_eq_none (by simp [digs_length]; omega)] at hy; cases hy
    rw [List.getElem?_reverse (by rw [hlen]; exact hi), hlen, List.getElem?_map, digs_get (by omega)] at hy
    cases hy
    obtain ⟨m, hm⟩ : ∃ m, m = cnt - 1 - i := ⟨_, rfl⟩
    rw [← hm]
    rw [show cnt - i = m + 1 by omega] at h3 ⊢
    have hAe : a / 2 ^ (n * (m + 1)) = a / 2 ^ (n * m) / 2 ^ n := by
      rw [Int.ediv_ediv_of_nonneg (Int.le_of_lt (kbt_pos _)), ← Int.pow_add, Nat.mul_add, Nat.mul_one]
    obtain ⟨B, hB⟩ : ∃ B, B = a / 2 ^ (n * m) := ⟨_, rfl⟩
    rw [hAe, ← hB] at h3
    rw [hAe, ← hB]
    have hB0 : 0 ≤ B := by rw [hB]; exact Int.ediv_nonneg ha (Int.le_of_lt (kbt_pos _))
    obtain ⟨A, hA⟩ : ∃ A, A = B / 2 ^ n := ⟨_, rfl⟩
    obtain ⟨d, hd⟩ : ∃ d, d = B % 2 ^ n := ⟨_, rfl⟩
    have hBe : A * 2 ^ n + d = B := by rw [hA, hd, Int.mul_comm]; exact Int.mul_ediv_add_emod B (2 ^ n)
    have hd0 : 0 ≤ d := by rw [hd]; exact Int.emod_nonneg _ (Int.ne_of_gt hpn)
    have hd1 : d < 2 ^ n := by rw [hd]; exact Int.emod_lt_of_pos _ hpn
    rw [← hA] at h3
    rw [← hA, ← hd]
    have hr0 := Int.emod_nonneg A (Int.ne_of_gt hb)
    have hr1 := Int.emod_lt_of_pos A hb
    have hAq := Int.mul_ediv_add_emod A b
    obtain ⟨r, hr⟩ : ∃ r, r = A % b := ⟨_, rfl⟩
    rw [← hr] at hr0 hr1 hAq ⊢
    repeat tb_start
    refine lshift_n n (natAbs_lt hr0 (by omega)) (by omega) ?_
    repeat tb_start
    have hlt : r * 2 ^ n + d < b * 2 ^ n := by
      have : (r + 1) * 2 ^ n ≤ b * 2 ^ n := Int.mul_le_mul_of_nonneg_right (by omega) (by omega)
      rw [Int.add_mul, Int.one_mul] at this; omega
    have hrd0 : 0 ≤ r * 2 ^ n + d := by have := Int.mul_nonneg hr0 (Int.le_of_lt hpn); omega
    refine callPost_i O (D2_all hDL 10 (by omega) _ b n _ hn (by omega) hb1 hb2 hrd0 hlt) (by omega) (by omega) ?_
    rintro _ _ ⟨rfl, rfl⟩
    repeat tb_start
    refine append_l (by kbo_bools) (by simp; omega) ?_
    refine ⟨rfl, ?_⟩
    repeat tb_start
    have e1 : A * 2 ^ n = b * (A / b * 2 ^ n) + r * 2 ^ n := by
      rw [← Int.mul_assoc, ← Int.add_mul, hAq]
    have z1 := Int.mul_ediv_add_emod (r * 2 ^ n + d) b
    have z2 := Int.emod_nonneg (r * 2 ^ n + d) (Int.ne_of_gt hb)
    have z3 := Int.emod_lt_of_pos (r * 2 ^ n + d) hb
    obtain ⟨g1, g2⟩ := kbt_unique (a := B) (b := b) (q := A / b * 2 ^ n + (r * 2 ^ n + d) / b) (r := (r * 2 ^ n + d) % b) hb (by rw [Int.mul_add]; omega) z2 z3
    have q0 : 0 ≤ (r * 2 ^ n + d) / b := Int.ediv_nonneg hrd0 (by omega)
    have q1 : (r * 2 ^ n + d) / b < 2 ^ n := (Int.ediv_lt_iff_lt_mul hb).mpr (by rw [Int.mul_comm (2 ^ n) b]; exact hlt)
    refine loopF_next _ (St.le_of ?_ ?_) ⟨qs ++ [(r * 2 ^ n + d) / b], by simp [h1], fun x hx => ?_, ?_, rfl⟩
    · rw [show cnt - (i + 1) = m by omega, ← hB, g2]
      tlg_ne
    · rw [updH_idem]; simp only [List.map_append, List.map_cons, List.map_nil]; exact hp_refl
    · rcases List.mem_append.mp hx with hx | hx
      · exact h2 x hx
      · rw [List.mem_singleton] at hx; subst hx; exact ⟨q0, q1⟩
    · rw [show cnt - (i + 1) = m by omega, ← hB, g1, List.reverse_append, List.reverse_singleton, List.singleton_append, dval, h3, Int.add_comm, Int.mul_comm (2 ^ n)]
  case done =>
    rintro σ ⟨qs, h1, h2, h3, rfl⟩
    rw [List.length_reverse, hlen] at h1 h3 ⊢
    rw [Nat.sub_self, Nat.mul_zero, Int.pow_zero, Int.ediv_one] at h3 ⊢
    repeat tb_start
    refine reverse_l (by kbo_bools) (by simp; omega) ?_
    refine ⟨rfl, ?_⟩
    rw [updH_idem, ← List.map_reverse]
    repeat tb_start
    refine callPost_i O (d2i_ok n hn qs.reverse ql _ (updH_same ..) (fun d hd => h2 d (by simpa using hd)) (by simp [h1]; omega) (by simp [h1]; omega) (hT2'.mono fun a o e => upd_other hql e)) (by omega) (by omega) ?_
    rintro _ hp3 ⟨rfl, hk3, hT3⟩
    repeat tb_start
    rw [h3]
    refine ⟨rfl, fun c o h4 h5 e => hk3 c o h5 (upd_other hql (hkeep c o h4 e)), ?_, hT3⟩
    exact (hT1'.mono fun a o e => upd_other hql e).keepBut hk3 (by decide) fun c x => x.notTab (hT2'.mono fun a o e => upd_other hql e)
theorem raw_ne_tab {hp : Hp} {a : Addr} {lo : Obj} {ns : List Int} (e : hp a = some (.raw lo)) (hlo : RawL lo ns) (h : NT hp) : a ≠ 30 ∧ a ≠ 37 := by
  obtain ⟨h1, h2⟩ := h
  obtain ⟨vs, n, hc, _⟩ := hlo
  refine ⟨fun q => ?_, fun q => ?_⟩
  · subst q; rcases h1 with h1 | ⟨c, h1, _⟩ <;> rw [e] at h1 <;> (have h1 := HO.raw.inj (Option.some.inj h1)) <;> rw [h1] at hc <;> cases hc
  · subst q; rcases h2 with h2 | ⟨c, h2, _⟩ <;> rw [e] at h2 <;> (have h2 := HO.raw.inj (Option.some.inj h2)) <;> rw [h2] at hc <;> cases hc
theorem NT.mono {hp hp' : Hp} (h : NT hp) (k : ∀ a o, hp a = some o → hp' a = some o) : NT hp' := ⟨h.1.mono k, h.2.mono k⟩
theorem Sx_consFor {G : GE} {sc : Scope} {C : Act sc} {σ : St} {t i : Expr} {b o st : List Stmt} {p : Pos} {Q : Fl → St → Prop} (h : Sx G C (exec (.For t i b o p) C.env) σ (thenS G C st Q)) : Sx G C (execs (.For t i b o p :: st) C.env) σ Q := Sx_cons h
/-! ## numerals -/
def med (x : Int) : Int := if x < 1 then 1 else if 26 < x then 26 else x
theorem med_Tv (j b : Int) : med (36 * (j + 1) - b) = Tv j b := rfl
theorem sorted3 {ns : List Int} {x : Int} (hp : ns.Perm [1, x, 26]) (hs : ns.Pairwise (· ≤ ·)) : ∃ a c, ns = [a, med x, c] := by
  have key : ∀ l : List Int, l.Pairwise (· ≤ ·) → l.Perm [1, x, 26] → ns = l := fun l h1 h2 =>
    List.Perm.eq_of_pairwise (le := (· ≤ ·)) (fun a b _ _ h1 h2 => Int.le_antisymm h1 h2) hs h1 (hp.trans h2.symm)
  unfold med
  by_cases h1 : x < 1
  · rw [if_pos h1]
    exact ⟨x, 26, key [x, 1, 26] (by simp; omega) (List.Perm.swap 1 x [26])⟩
  · rw [if_neg h1]
    by_cases h2 : 26 < x
    · rw [if_pos h2]
      exact ⟨1, x, key [1, 26, x] (by simp; omega) (List.Perm.cons 1 (List.Perm.swap x 26 []))⟩
    · rw [if_neg h2]
      exact ⟨1, 26, key [1, x, 26] (by simp; omega) (List.Perm.refl _)⟩
def oct (f : Int) : Int := if f < 26 then 65 + f else 22 + f
def octs (fs : List Int) : Array UInt8 := ((fs.map oct).map fun n => n.toNat.toUInt8).toArray
theorem digB_oct' : ∀ k : Fin 36, digB ((oct (k.val : Int)).toNat.toUInt8) = some (k.val : Int) := by decide
theorem digB_oct {f : Int} (h0 : 0 ≤ f) (h1 : f < 36) : digB ((oct f).toNat.toUInt8) = some f := by
  have := digB_oct' ⟨f.toNat, by omega⟩
  rw [show ((⟨f.toNat, by omega⟩ : Fin 36).val : Int) = f from Int.toNat_of_nonneg h0] at this
  exact this
/-- what the cells set -/
structure Dat where
  b : Int
  low : Int
  high : Int
  na : Int
  ah : Int
  la : Int
  el : low = Tv 0 b
  eh : high = Tv 1 b
  hna : 0 ≤ na ∧ na < low
  hah : low ≤ ah ∧ ah < 36
  hla : 0 ≤ la ∧ la < high
def Dat.fg (D : Dat) : Bool → List Int
  | false => [D.na]
  | true => [D.ah, D.la]
def Dat.nm (D : Dat) : Bool → Int
  | false => D.na
  | true => D.ah + (36 - D.low) * D.la
def Dat.all (D : Dat) (l : List Bool) : List Int := l.flatMap D.fg
theorem Dat.low_b (D : Dat) : 1 ≤ D.low ∧ D.low ≤ 26 := by rw [D.el]; exact Tv_bounds 0 D.b
theorem Dat.high_b (D : Dat) : 1 ≤ D.high ∧ D.high ≤ 26 := by rw [D.eh]; exact Tv_bounds 1 D.b
theorem Dat.nm_b (D : Dat) : (0 ≤ D.nm false ∧ D.nm false < 26) ∧ (0 ≤ D.nm true ∧ D.nm true < 1000) ∧ D.nm false ≠ D.nm true := by
  have h1 := D.low_b
  have h2 := D.high_b
  have h3 := D.hna
  have h4 := D.hah
  have h5 := D.hla
  have e1 : 0 ≤ (36 - D.low) * D.la := Int.mul_nonneg (by omega) (by omega)
  have e2 : (36 - D.low) * D.la ≤ 35 * 25 := Int.mul_le_mul (by omega) (by omega) (by omega) (by omega)
  unfold Dat.nm
  dsimp only
  omega
theorem Dat.fg_b (D : Dat) (c : Bool) : ∀ f ∈ D.fg c, 0 ≤ f ∧ f < 36 := by
  have h1 := D.low_b
  have h2 := D.high_b
  have h3 := D.hna
  have h4 := D.hah
  have h5 := D.hla
  intro f hf
  cases c
  · rw [Dat.fg, List.mem_singleton] at hf; subst hf; omega
  · rw [Dat.fg] at hf
    rcases List.mem_cons.mp hf with rfl | hf
    · omega
    · rw [List.mem_singleton] at hf; subst hf; omega
theorem Dat.fg_len (D : Dat) (c : Bool) : (D.fg c).length ≤ 2 := by cases c <;> simp [Dat.fg]
theorem Dat.all_snoc (D : Dat) (l : List Bool) (c : Bool) : D.all (l ++ [c]) = D.all l ++ D.fg c := by
  unfold Dat.all; rw [List.flatMap_append]; simp
theorem Dat.all_len (D : Dat) : ∀ l : List Bool, (D.all l).length ≤ 2 * l.length
  | [] => by simp [Dat.all]
  | c :: l => by
    have := D.all_len l
    have := D.fg_len c
    unfold Dat.all at *
    rw [List.flatMap_cons, List.length_append, List.length_cons]; omega
/-- where the numerals end, and their numbers -/
def Dat.ends (D : Dat) : List Bool → Nat → List V
  | l, 0 => []
  | l, n + 1 => D.ends l n ++ (match l[n]? with
    | some c => [.tup [.int ((D.all (l.take (n + 1))).length : Nat), .int (D.nm c)]]
    | none => [])
theorem Dat.ends_len (D : Dat) {l : List Bool} : ∀ {n : Nat}, n ≤ l.length → (D.ends l n).length = n
  | 0, _ => rfl
  | n + 1, h => by
    rw [Dat.ends, List.length_append, D.ends_len (by omega), List.getElem?_eq_getElem (show n < l.length by omega)]; rfl
theorem Dat.ends_get (D : Dat) {l : List Bool} {i : Nat} {c : Bool} (hi : l[i]? = some c) : ∀ {n : Nat}, n ≤ l.length → i < n → (D.ends l n)[i]? = some (.tup [.int ((D.all (l.take (i + 1))).length : Nat), .int (D.nm c)])
  | n + 1, h, hn => by
    have hl := D.ends_len (l := l) (n := n) (by omega)
    rw [Dat.ends]
    by_cases q : i < n
    · rw [List.getElem?_append_left (by omega)]; exact D.ends_get hi (by omega) q
    · have e : i = n := by omega
      subst e
      rw [List.getElem?_append_right (by omega), hl, Nat.sub_self, hi]; rfl
/-- a numeral is read -/
theorem Dat.dec (D : Dat) (c : Bool) (rest : List UInt8) (pos : Nat) :
    decB D.b true (((D.fg c).map fun f => (oct f).toNat.toUInt8) ++ rest) 0 1 0 pos = some (.tup [.int ((pos + (D.fg c).length : Nat) : Int), .int (D.nm c)]) := by
  have h1 := D.low_b
  have h2 := D.high_b
  have h3 := D.hna
  have h4 := D.hah
  have h5 := D.hla
  cases c
  · rw [Dat.fg, Dat.nm, List.map_cons, List.map_nil, List.cons_append, decB, digB_oct h3.1 (by omega)]
    dsimp only
    rw [← D.el, if_pos (by omega), Int.zero_add, Int.mul_one]; rfl
  · rw [Dat.fg, Dat.nm, List.map_cons, List.map_cons, List.map_nil, List.cons_append, List.cons_append, decB, digB_oct (by omega) (by omega)]
    dsimp only
    rw [← D.el, if_neg (by omega), decB, digB_oct h5.1 (by omega)]
    dsimp only
    rw [show (0 : Int) + 1 = 1 from rfl, ← D.eh, if_pos (by omega)]
    rw [Int.zero_add, Int.mul_one, Int.one_mul, Int.mul_comm (36 - D.low)]
    rfl
theorem Dat.octs_drop (D : Dat) (l : List Bool) (i : Nat) {c : Bool} (h : l[i]? = some c) :
    (octs (D.all l)).toList.drop (D.all (l.take i)).length = (D.fg c).map (fun f => (oct f).toNat.toUInt8) ++ (D.all (l.drop (i + 1))).map (fun f => (oct f).toNat.toUInt8) := by
  obtain ⟨hi, hc⟩ := List.getElem?_eq_some_iff.mp h
  have e1 : D.all l = D.all (l.take i) ++ (D.fg c ++ D.all (l.drop (i + 1))) := by
    unfold Dat.all
    rw [← List.flatMap_cons, ← hc, ← List.drop_eq_getElem_cons hi, ← List.flatMap_append, List.take_append_drop]
  have e2 : (octs (D.all l)).toList = (D.all l).map (fun f => (oct f).toNat.toUInt8) := by unfold octs; simp
  rw [e2, e1, List.map_append, List.drop_append_of_le_length (by rw [List.length_map]; exact Nat.le_refl _), List.map_append]
  rw [List.drop_eq_nil_of_le (by rw [List.length_map]; exact Nat.le_refl _), List.nil_append]
/-- what lies on the heap -/
structure Hs (G : GE) (D : Dat) (hp : Hp) (sa : Addr) (lo : Obj) (ct f1 f2 : Addr) (c5 : Int) : Prop where
  sc : hp sa = some (.raw lo)
  nt : NT hp
  ec : ∃ c0 c1 c2 c3 c4, hp ct = some (.lst ([c0, c1, c2, c3, c4, c5].map V.int))
  d1 : ∃ o fa fb, hp f1 = some (.raw o) ∧ DctOf G o [(ws [false], .ref fa), (ws [true], .ref fb)] ∧ hp fa = some (.lst ((D.fg false).map V.int)) ∧ hp fb = some (.lst ((D.fg true).map V.int))
  d2 : ∃ o, hp f2 = some (.raw o) ∧ DctOf G o [(ws [false], .int (D.nm false)), (ws [true], .int (D.nm true))]
theorem Hs.mono {G : GE} {D : Dat} {hp hp' : Hp} {sa : Addr} {lo : Obj} {ct f1 f2 : Addr} {c5 : Int} (h : Hs G D hp sa lo ct f1 f2 c5) (k : ∀ a o, hp a = some o → hp' a = some o) : Hs G D hp' sa lo ct f1 f2 c5 where
  sc := k _ _ h.sc
  nt := h.nt.mono k
  ec := let ⟨c0, c1, c2, c3, c4, e⟩ := h.ec; ⟨c0, c1, c2, c3, c4, k _ _ e⟩
  d1 := let ⟨o, fa, fb, e1, e2, e3, e4⟩ := h.d1; ⟨o, fa, fb, k _ _ e1, e2, k _ _ e3, k _ _ e4⟩
  d2 := let ⟨o, e1, e2⟩ := h.d2; ⟨o, k _ _ e1, e2⟩
theorem Sx_consAssign {G : GE} {sc : Scope} {C : Act sc} {σ : St} {t : List Expr} {e : Expr} {st : List Stmt} {p : Pos} {Q : Fl → St → Prop} (h : Sx G C (exec (.Assign t e p) C.env) σ (thenS G C st Q)) : Sx G C (execs (.Assign t e p :: st) C.env) σ Q := Sx_cons h
/-- the word's letters -/
def bitL (c4 : Int) (i : Nat) : Bool := decide (c4 / 2 ^ i % 2 = 1)
def bitV (c4 : Int) (v : V) : Option V := match v with
  | .int i => some (.str (ws [bitL c4 i.toNat]))
  | _ => none
theorem bitV_map (c4 : Int) (n : Nat) : (rangeL 0 1 n).filterMap (bitV c4) = ((List.range n).map fun i => [bitL c4 i]).map wsV := by
  unfold rangeL
  rw [List.filterMap_map, List.map_map, ← List.filterMap_eq_map]
  congr 1
  funext i
  simp [bitV]
theorem flat_bits (c4 : Int) (n : Nat) : ((List.range n).map fun i => [bitL c4 i]).flatten = (List.range n).map (bitL c4) := by
  induction List.range n with
  | nil => rfl
  | cons a l ih => rw [List.map_cons, List.flatten_cons, ih]; rfl
theorem ab_at (c4 : Int) (i : Nat) : ([false, true] : List Bool)[(c4 / 2 ^ i % 2).toNat]? = some (bitL c4 i) := by
  unfold bitL
  rcases Int.emod_two_eq (c4 / 2 ^ i) with h | h <;> rw [h] <;> rfl
theorem sub_ab {G : GE} {sc : Scope} {C : Act sc} {σ : St} {value slice : Expr} {x : Str} {l : List Bool} {k : Int} {b : Bool} {Q : V → St → Prop} (hx : x = ws l) (hs : ∀ o i, subscripted slice false o i = operate [o, i] (getItem o i)) (h0 : 0 ≤ k) (hk : k < 1000000) (hb : l[k.toNat]? = some b) (h : Q (.str (ws [b])) σ) :
    F2 G C (subscriptTail value slice) (.str x) (.int k) σ Q := by
  subst hx
  obtain ⟨n, rfl⟩ := Int.eq_ofNat_of_zero_le h0
  exact sub_s_at hs (by omega) hb h
set_option maxHeartbeats 4000000 in
theorem segA1 {w : World} {mg mb : Str → Option Value} (ns : List Int) (sa : Addr) (lo : Obj) (hlo : RawL lo ns) (hz : ns.length ≤ 63) (hsa : ∀ P ∈ [((41, 37) : Addr × Addr), (34, 30)].map (·.2), P ≠ sa) (Q : Fl → St → Prop)
    (H : ∀ (D : Dat) (ct f1 f2 : Addr) (c0 c1 c2 c3 c4 c5 : Int) (hp : Hp), Hs ⟨PySem.Challenge.pw_wo0035_01, w, mg, mb⟩ D hp sa lo ct f1 f2 c5 → hp ct = some (.lst ([c0, c1, c2, c3, c4, c5].map V.int)) →
      Seg ⟨PySem.Challenge.pw_wo0035_01, w, mg, mb⟩ 8 ⟨[("numbers", .ref f2), ("figures", .ref f1), ("bias", .int D.b), ("cells", .ref ct)], hp⟩ Q) :
    Seg ⟨PySem.Challenge.pw_wo0035_01, w, mg, mb⟩ 0 ⟨[("script", .ref sa)], hp0 sa lo [(41, 37), (34, 30)]⟩ Q := by
  refine Seg.of (by with_unfolding_all rfl) (fun C O hcl hout hd hu => ?_)
  obtain ⟨⟨_, hL⟩, L', hcl'⟩ := id hcl
  rw [List.drop_zero]
  repeat tb_start
  refine callPost_i O (cells_ok ns sa lo _ (by simp [hp0]) hlo (by omega)) (by omega) (by omega) ?_
  rintro _ hp1 ⟨ct, cs, rfl, hct, hc6, h1⟩
  have n44 : (37 : Addr) ≠ sa := hsa 37 (by decide)
  have n37 : (30 : Addr) ≠ sa := hsa 30 (by decide)
  have nt1 : NT hp1 := NT.mono (hp := hp0 sa lo [(41, 37), (34, 30)]) ⟨.inl (by simp [hp0, n37]), .inl (by simp [hp0, n44])⟩ fun a o q => h1 _ _ (upd_other hct q)
  have sc1 : hp1 sa = some (.raw lo) := h1 _ _ (upd_other hct (by simp [hp0]))
  have ec1 : hp1 ct = some (.lst (cs.map V.int)) := h1 _ _ (updH_same ..)
  clear h1 hct
  match cs, hc6 with
  | [c0, c1, c2, c3, c4, c5], _ =>
  repeat tb_start
  refine sub_list (by intro _ _; with_unfolding_all rfl) ec1 (by omega) (by omega) (v := V.int c0) rfl ?_
  repeat tb_start
  obtain ⟨b, hb⟩ : ∃ b, b = c0.fmod 150 - 20 := ⟨_, rfl⟩
  rw [← hb]
  clear hb
  rename_i x1 hx1
  dsimp only at hx1
  refine sorted_l O (ns := [1, 36 - b, 26]) (updH_same ..) (by simp) ?_
  intro x2 ns2 hx2 hp2 hs2
  obtain ⟨a, c, rfl⟩ := sorted3 hp2 hs2
  dsimp only at hx2 ⊢
  repeat tb_start
  refine sub_list (by intro _ _; with_unfolding_all rfl) (updH_same ..) (by omega) (by omega) (v := V.int (med (36 - b))) rfl ?_
  repeat tb_start
  rename_i x3 hx3
  dsimp only at hx3
  refine sorted_l O (ns := [1, 72 - b, 26]) (updH_same ..) (by simp) ?_
  intro x4 ns4 hx4 hp4 hs4
  obtain ⟨a', c', rfl⟩ := sorted3 hp4 hs4
  dsimp only at hx4 ⊢
  repeat tb_start
  refine sub_list (by intro _ _; with_unfolding_all rfl) (updH_same ..) (by omega) (by omega) (v := V.int (med (72 - b))) rfl ?_
  obtain ⟨low, hlow⟩ : ∃ x, x = med (36 - b) := ⟨_, rfl⟩
  obtain ⟨high, hhigh⟩ : ∃ x, x = med (72 - b) := ⟨_, rfl⟩
  have el : low = Tv 0 b := by rw [hlow, ← med_Tv]; rfl
  have eh : high = Tv 1 b := by rw [hhigh, ← med_Tv]; rfl
  rw [← hlow, ← hhigh]
  rw [← hlow] at hx3 hx4
  clear hlow hhigh
  have up : ∀ q o, hp1 q = some o → updH (updH (updH (updH hp1 x1 (.lst [.int 1, .int (36 - b), .int 26])) x2 (.lst ([a, low, c].map V.int))) x3 (.lst [.int 1, .int (72 - b), .int 26])) x4 (.lst ([a', high, c'].map V.int)) q = some o := fun q o z =>
    upd_other hx4 (upd_other hx3 (upd_other hx2 (upd_other hx1 z)))
  refine Sx.le (σ' := ⟨[("high", .int high), ("low", .int low), ("bias", .int b), ("cells", .ref ct)], hp1⟩) ?_ (St.le_of ?_ up)
  rotate_left
  · tlg_ne
  clear up hx4 hx3 hx2 hx1 hp2 hs2 hp4 hs4
  have hlb : 1 ≤ low ∧ low ≤ 26 := by rw [el]; exact Tv_bounds 0 b
  have hhb : 1 ≤ high ∧ high ≤ 26 := by rw [eh]; exact Tv_bounds 1 b
  repeat tb_start
  refine sub_list (by intro _ _; with_unfolding_all rfl) ec1 (by omega) (by omega) (v := V.int c2) rfl ?_
  repeat tb_start
  refine sub_list (by intro _ _; with_unfolding_all rfl) ec1 (by omega) (by omega) (v := V.int c2) rfl ?_
  repeat tb_start
  refine floordiv_ii (by omega) (noPylong_small (by omega)) ?_
  repeat tb_start
  obtain ⟨ah, hah⟩ : ∃ ah, ah = low + c2.fmod (36 - low) := ⟨_, rfl⟩
  obtain ⟨la, hla⟩ : ∃ la, la = (c2.fdiv (36 - low)).fmod high := ⟨_, rfl⟩
  have hah' : low ≤ ah ∧ ah < 36 := by
    rw [hah, Int.fmod_eq_emod_of_nonneg _ (by omega)]
    have h1 := Int.emod_nonneg c2 (show 36 - low ≠ 0 by omega)
    have h2 := Int.emod_lt_of_pos c2 (show 0 < 36 - low by omega)
    omega
  have hla' : 0 ≤ la ∧ la < high := by
    rw [hla, Int.fmod_eq_emod_of_nonneg _ (by omega)]
    exact ⟨Int.emod_nonneg _ (by omega), Int.emod_lt_of_pos _ (by omega)⟩
  rw [← hah, ← hla]
  clear hah hla
  obtain ⟨na, hna⟩ : ∃ na, na = c1.fmod low := ⟨_, rfl⟩
  have hna' : 0 ≤ na ∧ na < low := by
    rw [hna, Int.fmod_eq_emod_of_nonneg _ (by omega)]
    exact ⟨Int.emod_nonneg _ (by omega), Int.emod_lt_of_pos _ (by omega)⟩
  obtain ⟨D, hD⟩ : ∃ D : Dat, D = ⟨b, low, high, na, ah, la, el, eh, hna', hah', hla'⟩ := ⟨_, rfl⟩
  have hDb : D.b = b := by rw [hD]
  have hDf : D.fg false = [na] := by rw [hD]; rfl
  have hDt : D.fg true = [ah, la] := by rw [hD]; rfl
  have hDn : D.nm false = na := by rw [hD]; rfl
  have hDm : D.nm true = ah + (36 - low) * la := by rw [hD]; rfl
  refine Ev_Dict2 (by decide) ?_
  repeat tb_start
  refine sub_list (by intro _ _; with_unfolding_all rfl) ec1 (by omega) (by omega) (v := V.int c1) rfl ?_
  repeat tb_start
  rw [← hna]
  rename_i fa hfa fb hfb
  dsimp only at hfa hfb
  rw [← hna] at hfb
  refine ⟨rfl, rfl, fun f1 o1 hf1 hD1 => ?_⟩
  dsimp only at hf1 ⊢
  repeat tb_start
  refine Ev_Dict2 (by decide) ?_
  repeat tb_start
  refine sub_list (by intro _ _; with_unfolding_all rfl) (upd_other hf1 (upd_other hfb (upd_other hfa ec1))) (by omega) (by omega) (v := V.int c1) rfl ?_
  repeat tb_start
  rw [← hna]
  refine ⟨rfl, rfl, fun f2 o2 hf2 hD2 => ?_⟩
  dsimp only at hf2 ⊢
  have n1 : fa ≠ fb := ne_of_none hfb (updH_same ..)
  have n2 : fa ≠ f1 := ne_of_none hf1 (upd_ne' n1 (updH_same ..))
  have n3 : fb ≠ f1 := ne_of_none hf1 (updH_same ..)
  have n4 : fa ≠ f2 := ne_of_none hf2 (upd_ne' n2 (upd_ne' n1 (updH_same ..)))
  have n5 : fb ≠ f2 := ne_of_none hf2 (upd_ne' n3 (updH_same ..))
  have n6 : f1 ≠ f2 := ne_of_none hf2 (updH_same ..)
  have up : ∀ q o, hp1 q = some o → updH (updH (updH (updH hp1 fa (.lst [.int na])) fb (.lst [.int ah, .int la])) f1 (.raw o1)) f2 (.raw o2) q = some o := fun q o z =>
    upd_other hf2 (upd_other hf1 (upd_other hfb (upd_other hfa z)))
  have hs : Hs ⟨PySem.Challenge.pw_wo0035_01, w, mg, mb⟩ D (updH (updH (updH (updH hp1 fa (.lst [.int na])) fb (.lst [.int ah, .int la])) f1 (.raw o1)) f2 (.raw o2)) sa lo ct f1 f2 c5 := by
    refine ⟨up _ _ sc1, nt1.mono up, ⟨c0, c1, c2, c3, c4, up _ _ ec1⟩, ⟨o1, fa, fb, upd_ne' n6 (updH_same ..), hD1, ?_, ?_⟩, ⟨o2, updH_same .., ?_⟩⟩
    · rw [hDf]; exact upd_ne' n4 (upd_ne' n2 (upd_ne' n1 (updH_same ..)))
    · rw [hDt]; exact upd_ne' n5 (upd_ne' n3 (updH_same ..))
    · rw [hDn, hDm]; exact hD2
  have ec2 := up _ _ ec1
  clear hf2 hf1 hfb hfa n1 n2 n3 n4 n5 n6 hD1 hD2 up sc1 nt1
  generalize updH (updH (updH (updH hp1 fa (.lst [.int na])) fb (.lst [.int ah, .int la])) f1 (.raw o1)) f2 (.raw o2) = hp2 at *
  repeat ((fail_if_success (with_reducible refine Sx_consAssign ?_)); tb_start)
  refine (H D ct f1 f2 c0 c1 c2 c3 c4 c5 hp2 hs ec2).go (by with_unfolding_all rfl) O hcl hout hd hu rfl (St.le_of ?_ hp_refl)
  rw [hDb]; tlg_ne
theorem pow_le_pow_right' {a b : Nat} (h : a ≤ b) : (2 : Int) ^ a ≤ 2 ^ b := by
  have : ((2 ^ a : Nat) : Int) ≤ ((2 ^ b : Nat) : Int) := Int.ofNat_le.mpr (Nat.pow_le_pow_right (by decide) h)
  rwa [kbt_cast, kbt_cast] at this
set_option maxHeartbeats 4000000 in
theorem segA2 {w : World} {mg mb : Str → Option Value} (sa : Addr) (lo : Obj) (Q : Fl → St → Prop)
    (H : ∀ (D : Dat) (l : List Bool) (ct f1 f2 : Addr) (c5 : Int) (hp : Hp), 3 ≤ l.length → l.length ≤ 6 → Hs ⟨PySem.Challenge.pw_wo0035_01, w, mg, mb⟩ D hp sa lo ct f1 f2 c5 →
      Seg ⟨PySem.Challenge.pw_wo0035_01, w, mg, mb⟩ 9 ⟨[("word", .str (ws l)), ("numbers", .ref f2), ("figures", .ref f1), ("bias", .int D.b), ("cells", .ref ct)], hp⟩ Q)
    (D : Dat) (ct f1 f2 : Addr) (c0 c1 c2 c3 c4 c5 : Int) (hp2 : Hp) (hs : Hs ⟨PySem.Challenge.pw_wo0035_01, w, mg, mb⟩ D hp2 sa lo ct f1 f2 c5) (ec2 : hp2 ct = some (.lst ([c0, c1, c2, c3, c4, c5].map V.int))) :
    Seg ⟨PySem.Challenge.pw_wo0035_01, w, mg, mb⟩ 8 ⟨[("numbers", .ref f2), ("figures", .ref f1), ("bias", .int D.b), ("cells", .ref ct)], hp2⟩ Q := by
  refine Seg.of (by with_unfolding_all rfl) (fun C O hcl hout hd hu => ?_)
  obtain ⟨⟨_, hL⟩, L', hcl'⟩ := id hcl
  refine Sx_cons ?_
  obtain ⟨n, hn, hn3, hn6⟩ : ∃ n : Nat, (n : Int) = 3 + c3.fmod 4 ∧ 3 ≤ n ∧ n ≤ 6 := by
    rw [Int.fmod_eq_emod_of_nonneg _ (by decide)]
    exact ⟨(3 + c3 % 4).toNat, by omega, by omega, by omega⟩
  repeat tb_start
  refine M1_n (T := "str") (name := Str.ofString "join") (id := "str.join") PySem.F.slot_str_join PySem.F.plainAttrs_str PySem.F.type_str_join (.inr (.inr ⟨_, rfl, rfl⟩)) (by with_unfolding_all rfl) (by with_unfolding_all rfl) ?_
  repeat tb_start
  refine Ev_ListComp O hL (by unfold Act.env; rw [hcl']; with_unfolding_all rfl) (by (repeat (refine List.forall_mem_cons.mpr ⟨⟨by rw [hcl']; with_unfolding_all rfl, by with_unfolding_all rfl, by with_unfolding_all rfl⟩, ?_⟩)); exact fun _ h => (nomatch h)) (by decide) rfl (by decide) (by with_unfolding_all rfl) (by intro _; rfl) ?_
  repeat tb_start
  refine sub_list (by intro _ _; with_unfolding_all rfl) ec2 (by omega) (by omega) (v := V.int c3) rfl ?_
  repeat tb_start
  rw [← hn]
  rename_i rg hrg
  dsimp only at hrg
  have rr := range_up (a := 0) (b := (n : Int)) (by omega) (by omega) (by omega) (by omega)
  have hcr : ct ≠ rg := ne_of_none hrg ec2
  refine fm_plan (bitV c4) _ _ _ (iter_rng2 O (updH_same ..) (n := n) rr.1 (by rw [rr.2]; omega)) (by rw [rangeL_length]; omega) trivial ?_ ?_
  · rintro C' O' hA hcl2 j y hy
    obtain ⟨hj, rfl⟩ := rangeL_get hy
    rw [show (0 : Int) + (j : Int) * 1 = (j : Int) by omega]
    unfold CT
    dsimp only
    repeat tb_start
    refine sub_list (by intro _ _; with_unfolding_all rfl) (upd_ne' hcr ec2) (by omega) (by omega) (v := V.int c4) rfl ?_
    repeat tb_start
    refine pow_ii (by omega) (by rw [show Builtin.Int.intBits 2 = 2 from rfl]; omega) ?_
    rw [Int.toNat_natCast]
    have hj2 : (2 : Int) ^ j ≤ 2 ^ 6 := pow_le_pow_right' (by omega)
    have hj3 := kbt_pos j
    repeat tb_start
    refine floordiv_ii (by omega) (noPylong_small (by omega)) ?_
    repeat tb_start
    rw [Int.fdiv_eq_ediv_of_nonneg _ (by omega), Int.fmod_eq_emod_of_nonneg _ (by decide)]
    refine sub_ab (l := [false, true]) (by with_unfolding_all rfl) (by intro _ _; with_unfolding_all rfl) (by omega) (by omega) (ab_at c4 j) ?_
    refine ⟨by unfold bitV; dsimp only; rw [Int.toNat_natCast], ?_⟩
    k_places
  rw [bitV_map]
  intro r hr
  dsimp only at hr ⊢
  repeat tb_start
  refine join_s (by with_unfolding_all rfl) (updH_same ..) ?_ ?_
  · rw [List.map_map, List.length_map, List.length_range]
    have : ((List.range n).map ((fun l : List Bool => l.length) ∘ fun i => [bitL c4 i])).sum = n := by
      rw [show ((fun l : List Bool => l.length) ∘ fun i => [bitL c4 i]) = fun _ : Nat => 1 from rfl, List.map_const', List.sum_replicate_nat, List.length_range, Nat.mul_one]
    omega
  rw [flat_bits]
  have ll : ((List.range n).map (bitL c4)).length = n := by simp
  generalize (List.range n).map (bitL c4) = l at *
  repeat ((fail_if_success (with_reducible refine Sx_consAssign ?_)); tb_start)
  refine (H D l ct f1 f2 c5 _ (by omega) (by omega) (hs.mono fun a o z => upd_other hr (upd_other hrg z))).go (by with_unfolding_all rfl) O hcl hout hd hu rfl (St.le_of ?_ hp_refl)
  tlg_ne
theorem add_s2 {G : GE} {sc : Scope} {C : Act sc} {σ : St} {l m : List Bool} {x : Str} {Q : V → St → Prop} (hx : x = ws l) (hz : l.length + m.length ≤ 1000000) (h : Q (.str (ws (l ++ m))) σ) : F2 G C (binaryOp .Add) (.str x) (.str (ws m)) σ Q := by
  subst hx; exact add_s hz h
theorem ws_ne : ws [true] ≠ ws [false] := by decide
theorem lk2 {a b : V} (c : Bool) : lk [(ws [false], a), (ws [true], b)] (ws [c]) = some (if c then b else a) := by
  cases c
  · simp [lk]
  · simp [lk, ws_ne]
def octV (v : V) : Option V := match v with
  | .int n => some (.int (oct n))
  | _ => none
theorem octV_map (ns : List Int) : (ns.map V.int).filterMap octV = (ns.map oct).map V.int := by
  rw [List.filterMap_map, List.map_map, ← List.filterMap_eq_map]; rfl
abbrev lab (l : List Bool) : List Bool := [false, true] ++ l
set_option maxHeartbeats 4000000 in
theorem segB {w : World} {mg mb : Str → Option Value} (sa : Addr) (lo : Obj) (Q : Fl → St → Prop)
    (D : Dat) (l : List Bool) (ct f1 f2 : Addr) (c5 : Int)
    (H : ∀ (en : Addr) (hp : Hp), Hs ⟨PySem.Challenge.pw_wo0035_01, w, mg, mb⟩ D hp sa lo ct f1 f2 c5 → hp en = some (.lst (D.ends (lab l) (lab l).length)) →
      Seg ⟨PySem.Challenge.pw_wo0035_01, w, mg, mb⟩ 13 ⟨[("text", .bytes (octs (D.all (lab l)))), ("ends", .ref en), ("word", .str (ws l)), ("bias", .int D.b), ("cells", .ref ct)], hp⟩ Q)
    (hp : Hp) (h3 : 3 ≤ l.length) (h6 : l.length ≤ 6) (hs : Hs ⟨PySem.Challenge.pw_wo0035_01, w, mg, mb⟩ D hp sa lo ct f1 f2 c5) :
    Seg ⟨PySem.Challenge.pw_wo0035_01, w, mg, mb⟩ 9 ⟨[("word", .str (ws l)), ("numbers", .ref f2), ("figures", .ref f1), ("bias", .int D.b), ("cells", .ref ct)], hp⟩ Q := by
  refine Seg.of (by with_unfolding_all rfl) (fun C O hcl hout hd hu => ?_)
  obtain ⟨⟨_, hL⟩, L', hcl'⟩ := id hcl
  obtain ⟨L, hLw⟩ : ∃ L, L = [false, true] ++ l := ⟨_, rfl⟩
  have hLl : L.length ≤ 8 := by rw [hLw]; simp; omega
  refine Sx_cons ?_
  repeat ((fail_if_success (with_reducible refine Sx_consFor ?_)); tb_start)
  rename_i oc hoc en hen
  dsimp only at hoc hen
  have hoe : oc ≠ en := ne_of_none hen (updH_same ..)
  have hen0 : hp en = none := by
    cases q : hp en with
    | none => rfl
    | some o => rw [upd_other hoc q] at hen; cases hen
  refine Sx_cons ?_
  refine Sx_For (by assumption) (by lcg_off) (by intro _; rfl) ?_
  repeat tb_start
  refine add_s2 (l := [false, true]) (by with_unfolding_all rfl) (by simp; omega) ?_
  rw [← hLw]
  refine ⟨{ σ' := _, items := _, dep := _, it := iter_str (by assumption), I := fun i σ => ∃ h : Hp, h oc = some (.lst (((D.all (L.take i)).map oct).map V.int)) ∧ h en = some (.lst (D.ends L i)) ∧ (∀ a o, hp a = some o → h a = some o) ∧
      σ = ⟨[("octets", .ref oc), ("ends", .ref en), ("word", .str (ws l)), ("numbers", .ref f2), ("figures", .ref f1), ("bias", .int D.b), ("cells", .ref ct)], h⟩, σ0 := _, le0 := St.le_of ?loc hp_refl, h0 := ⟨_, by kbo_bools, by kbo_bools, fun a o h => upd_other hen (upd_other hoc h), rfl⟩, hdep := fun _ _ _ => trivial, turn := ?turn, done := ?done }⟩
  case loc => tlg_ne
  case done =>
    rintro σ ⟨h, h1, h2, h3, rfl⟩
    rw [List.length_map] at h1 h2
    rw [List.take_length] at h1
    have hlen := D.all_len L
    refine thenS_next ?_
    refine Sx_cons ?_
    repeat ((fail_if_success (with_reducible refine Sx_consAssign ?_)); tb_start)
    refine bytes_l (by assumption) (ns := (D.all L).map oct) (by kbo_bools) (by simp; omega) ?_ ?_
    · intro n hn
      obtain ⟨m, hm, rfl⟩ := List.mem_map.mp hn
      obtain ⟨c, _, hm⟩ := List.mem_flatMap.mp hm
      have := D.fg_b c m hm
      unfold oct; split <;> omega
    · repeat ((fail_if_success (with_reducible refine Sx_consAssign ?_)); tb_start)
      rw [hLw] at h2 ⊢
      refine (H en h (hs.mono h3) h2).go (by with_unfolding_all rfl) O hcl hout hd hu rfl (St.le_of ?_ hp_refl)
      tlg_ne
  case turn =>
    rintro i y σ hy ⟨h, h1, h2, h3, rfl⟩
    rw [List.getElem?_map] at hy
    obtain ⟨c, hc, rfl⟩ := Option.map_eq_some_iff.mp hy
    obtain ⟨hi, hc'⟩ := List.getElem?_eq_some_iff.mp hc
    have htk : L.take (i + 1) = L.take i ++ [c] := by rw [List.take_succ_eq_append_getElem hi, hc']
    have hlen := D.all_len (L.take i)
    have hlt : (L.take i).length ≤ 8 := by rw [List.length_take]; omega
    have hfl := D.fg_len c
    obtain ⟨o1, fa, fb, e1, hd1, efa, efb⟩ := hs.d1
    obtain ⟨o2, e2, hd2⟩ := hs.d2
    have efc : hp (if c then fb else fa) = some (.lst ((D.fg c).map V.int)) := by cases c <;> assumption
    have enc : (if c then V.int (D.nm true) else V.int (D.nm false)) = V.int (D.nm c) := by cases c <;> rfl
    have erc : (if c then V.ref fb else V.ref fa) = V.ref (if c then fb else fa) := by cases c <;> rfl
    generalize (if c then fb else fa) = fc at *
    repeat tb_start
    refine Ev_ListComp O hL (by unfold Act.env; rw [hcl']; with_unfolding_all rfl) (by (repeat (refine List.forall_mem_cons.mpr ⟨⟨by rw [hcl']; with_unfolding_all rfl, by with_unfolding_all rfl, by with_unfolding_all rfl⟩, ?_⟩)); exact fun _ h => (nomatch h)) (by decide) rfl (by decide) (by with_unfolding_all rfl) (by intro _; rfl) ?_
    repeat tb_start
    refine sub_dct (by intro _ _; with_unfolding_all rfl) (h3 _ _ e1) hd1 (lk2 c) ?_
    rw [erc]
    refine fm_plan octV _ _ _ (iter_list2 O (h3 _ _ efc)) (by simp; omega) (h3 _ _ efc) ?_ ?_
    · rintro C' O' hA hcl2 i y hy
      rw [List.getElem?_map] at hy
      obtain ⟨n, hn, rfl⟩ := Option.map_eq_some_iff.mp hy
      unfold CT
      dsimp only
      repeat tb_start
      · rename_i hlt
        refine ⟨by simp only [octV, oct, if_pos hlt], ?_⟩
        k_places
      · rename_i hlt
        repeat tb_start
        refine ⟨by simp only [octV, oct, if_neg hlt], ?_⟩
        k_places
    · rw [octV_map]
      intro r hr
      dsimp only at hr ⊢
      repeat tb_start
      have hro : oc ≠ r := ne_of_none hr h1
      refine extend_l (by kbo_bools) (by kbo_bools) (by simp; omega) ?_
      refine ⟨rfl, ?_⟩
      repeat tb_start
      refine len_list (by kbo_bools) (by simp; omega) ?_
      repeat tb_start
      have h2n : f2 ≠ oc := fun z => by have := h3 _ _ e2; rw [z, h1] at this; cases this
      refine sub_dct (by intro _ _; with_unfolding_all rfl) (upd_ne' h2n (upd_other hr (h3 _ _ e2))) hd2 (lk2 c) ?_
      rw [enc]
      repeat tb_start
      have hre : en ≠ r := ne_of_none hr h2
      refine append_l (upd_ne' hoe.symm (upd_other hr h2)) (by rw [D.ends_len (by omega)]; omega) ?_
      refine ⟨rfl, ?_⟩
      repeat tb_start
      refine loopF_next ⟨[("octets", .ref oc), ("ends", .ref en), ("word", .str (ws l)), ("numbers", .ref f2), ("figures", .ref f1), ("bias", .int D.b), ("cells", .ref ct)], _⟩ (St.le_of ?_ hp_refl) ⟨_, ?_, ?_, fun a o z => ?_, rfl⟩
      · tlg_ne
      · rw [htk, D.all_snoc, List.map_append, List.map_append]
        exact upd_ne' hoe (updH_same ..)
      · rw [Dat.ends, hc, htk, updH_same, D.all_snoc, List.length_append, List.length_append, List.length_map, List.length_map, List.length_map, List.length_map]
      · have q1 : a ≠ oc := fun q => by rw [q, hoc] at z; cases z
        have q2 : a ≠ en := fun q => by rw [q, hen0] at z; cases z
        exact upd_ne' q2 (upd_ne' q1 (upd_other hr (h3 a o z)))
theorem overlap_ok {w : World} {mg mb : Str → Option Value} (xs : List Int) (p : Addr) (hp : Hp) (e : hp p = some (.lst (xs.map V.int))) (hz : xs.length ≤ 100000) :
    FnOk ⟨PySem.Challenge.pw_wo0035_01, w, mg, mb⟩ "_generate_overlap_table" 1 [.ref p] hp (fun r hp' => ∃ t, hp t = none ∧ r = .ref t ∧ ∀ a o, updH hp t (.lst (tabV xs xs.length)) a = some o → hp' a = some o) := by
  refine FnOk.of ["prefix"] (by with_unfolding_all rfl) (fun pm cd doc us h => ?_) rfl (by decide) (by decide) (by decide) rfl rfl rfl (fun C O hcl hd hu => ?_)
  · (refine Mine.lsb1 h ?_; intros; rfl)
  have hlen : (xs.map V.int).length = xs.length := by simp
  repeat tb_start
  rename_i x1 hx1 t ht
  dsimp only at hx1 ht
  have ht0 : hp t = none := by
    cases q : hp t with
    | none => rfl
    | some o => rw [upd_other hx1 q] at ht; cases ht
  refine Sx_For (by assumption) (by lcg_off) (by intro _; rfl) ?_
  repeat tb_start
  rename_i r hr
  dsimp only at hx1 ht hr
  rw [hlen] at hr ⊢
  have rg := range_up (a := 1) (b := (xs.length : Int)) (by omega) (by omega) (by omega) (by omega)
  refine ⟨{ σ' := _, items := _, dep := _, it := iter_rng (by assumption) (n := xs.length - 1) (by kbo_bools) rg.1 (by rw [rg.2]; omega), I := fun i σ => σ = ⟨[("table", .ref t), ("prefix", .ref p)], updH hp t (.lst (tabV xs (i + 1)))⟩, σ0 := _, le0 := ?le, h0 := rfl, hdep := fun _ _ _ => trivial, turn := ?turn, done := ?done }⟩
  case le =>
    rw [← tabV_one, ← tabV_start]
    k_places
  case done =>
    rintro σ hσ
    subst hσ
    repeat tb_start
    refine ⟨t, ht0, rfl, ?_⟩
    · rw [rangeL_length]
      intro a o h
      by_cases h0 : xs.length = 0
      · rw [show xs.length - 1 + 1 = 1 by omega, ← tabV_one, ← h0]; exact h
      · rw [show xs.length - 1 + 1 = xs.length by omega]; exact h
  case turn =>
    rintro i y σ hy hσ
    obtain ⟨hi, rfl⟩ := rangeL_get hy
    subst hσ
    rw [show (1 : Int) + (i : Int) * 1 = ((i + 1 : Nat) : Int) by omega]
    have hm : i + 1 < xs.length := by omega
    obtain ⟨m, hmi⟩ : ∃ m, m = i + 1 := ⟨_, rfl⟩
    rw [← hmi] at hm ⊢
    have hm0 : 0 < m := by omega
    repeat tb_start
    refine sub_list (by intro _ _; with_unfolding_all rfl) (by kbo_bools) (by omega) (by omega) (v := V.int (maxB xs m)) ?_ ?_
    · rw [show ((m : Int) - 1).toNat = m - 1 by omega, tabV_get (by omega) (by omega), show m - 1 + 1 = m by omega]
    repeat tb_start
    obtain ⟨b1, b2⟩ := maxB_spec (xs := xs) hm0 (by omega)
    refine Sx_While (fun n σ => ∃ idx : Nat, n = idx ∧ Bord xs m idx ∧ (∀ k, Bord xs (m + 1) (k + 1) → k ≤ idx) ∧
      σ = ⟨[("idx", .int idx), ("i", .int m), ("table", .ref t), ("prefix", .ref p)], updH hp t (.lst (tabV xs m))⟩) _ _ (St.le_of ?_ hp_refl) ⟨maxB xs m, rfl, b1, fun k hk => b2 k hk.pred.1, rfl⟩ ?_
    · tlg_ne
    rintro n σ ⟨idx, hidx, h1, h2, hσ⟩
    subst hidx hσ
    have hlt : n < m := h1.1
    repeat tb_start
    refine sub_list (by intro _ _; with_unfolding_all rfl) (by kbo_bools) (by omega) (by omega) (v := V.int xs[m]) (by simp [hm]) ?_
    repeat tb_start
    have hidx : n < xs.length := by omega
    refine sub_list (by intro _ _; with_unfolding_all rfl) (by kbo_bools) (by omega) (by omega) (v := V.int xs[n]) (by simp [hidx]) ?_
    have eqv : ∀ k, k < xs.length → (xs[k]? = xs[m]? ↔ xs[k]? = some xs[m]) := fun k _ => by rw [List.getElem?_eq_getElem hm]
    repeat tb_start
    · -- idx = 0
      rename_i hne h0
      refine atSub_i (by kbo_bools) (by omega) (by omega) (by rw [tabV_length]; omega) ?_
      repeat tb_start
      have hmax : maxB xs (m + 1) = 0 := by
        refine maxB_eq (Bord.zero (by omega) hm) fun l hl => ?_
        cases l with
        | zero => exact Nat.le_refl _
        | succ k =>
          exfalso
          have h3 := h2 k hl
          have h4 := hl.pred.2
          have : k = n := by omega
          subst this
          rw [List.getElem?_eq_getElem hm, List.getElem?_eq_getElem hidx] at h4
          exact hne (Option.some.inj h4).symm
      refine loopF_next _ (St.le_of ?_ ?_) rfl
      · tlg_ne
      · rw [updH_idem, Int.toNat_natCast, show V.int 0 = V.int (maxB xs (m + 1)) by rw [hmax]; rfl, tabV_set, ← hmi]
        exact hp_refl
    · -- one border down
      rename_i hne h0
      have hn0 : 0 < n := by omega
      repeat tb_start
      refine sub_list (by intro _ _; with_unfolding_all rfl) (by kbo_bools) (by omega) (by omega) (v := V.int (maxB xs n)) ?_ ?_
      · rw [show ((n : Int) - 1).toNat = n - 1 by omega, tabV_get (by omega) (by omega), show n - 1 + 1 = n by omega]
      repeat tb_start
      obtain ⟨c1, c2⟩ := maxB_spec (xs := xs) hn0 (by omega)
      refine loopW_next (maxB xs n) _ c1.1 (St.le_of ?_ hp_refl) ⟨maxB xs n, rfl, h1.trans c1, fun k hk => ?_, rfl⟩
      · tlg_ne
      · have h3 := h2 k hk
        have h4 := hk.pred
        have hkn : k ≠ n := by
          rintro rfl
          rw [List.getElem?_eq_getElem hm, List.getElem?_eq_getElem hidx] at h4
          exact hne (Option.some.inj h4.2).symm
        exact c2 k (h1.of_lt h4.1 (by omega))
    · rename_i heq
      repeat tb_start
      refine atSub_i (by kbo_bools) (by omega) (by omega) (by rw [tabV_length]; omega) ?_
      repeat tb_start
      have hmax : maxB xs (m + 1) = n + 1 := by
        refine maxB_eq (h1.succ hm (by rw [List.getElem?_eq_getElem hm, List.getElem?_eq_getElem hidx, heq])) fun l hl => ?_
        cases l with
        | zero => exact Nat.zero_le _
        | succ k => exact Nat.succ_le_succ (h2 k hl)
      refine loopF_next _ (St.le_of ?_ ?_) rfl
      · tlg_ne
      · rw [updH_idem, Int.toNat_natCast, show V.int ((n : Int) + 1) = V.int (maxB xs (m + 1)) by rw [hmax]; rfl, tabV_set, ← hmi]
        exact hp_refl
theorem pairs_ok : ∀ {xs : List V}, (∀ x ∈ xs, ∃ a b, x = V.tup [.int a, .int b]) → plains xs = true ∧ PyData.canLayAll0 (pdats xs) = true ∧ PyData.depthAll (pdats xs) ≤ 1
  | [], _ => ⟨rfl, by simp [pdats, PyData.canLayAll0], by simp [pdats, PyData.depthAll]⟩
  | x :: xs, h => by
    obtain ⟨a, b, rfl⟩ := h x (.head _)
    obtain ⟨h1, h2, h3⟩ := pairs_ok fun y hy => h y (.tail _ hy)
    refine ⟨by simp [plains, plain, h1], by simp [pdats, pdat, PyData.canLayAll0, PyData.canLay0, h2], ?_⟩
    simp only [pdats, pdat, PyData.depthAll, PyData.depth]
    omega
theorem pairs_shaped {xs : List V} (h : ∀ x ∈ xs, ∃ a b, x = V.tup [.int a, .int b]) : SeqAt.shaped (.list (pdats xs)) = true := by
  obtain ⟨_, h2, h3⟩ := pairs_ok h
  unfold SeqAt.shaped
  rw [Bool.and_eq_true, decide_eq_true_eq]
  refine ⟨by rw [PyData.canLay0]; exact h2, ?_⟩
  rw [PyData.depth]; omega
theorem Dat.ends_pairs (D : Dat) {l : List Bool} : ∀ {n : Nat}, ∀ x ∈ D.ends l n, ∃ a b, x = V.tup [.int a, .int b]
  | 0, x, h => nomatch h
  | n + 1, x, h => by
    rw [Dat.ends] at h
    rcases List.mem_append.mp h with h | h
    · exact D.ends_pairs x h
    · cases e : l[n]? with
      | none => rw [e] at h; cases h
      | some c => rw [e] at h; rw [List.mem_singleton] at h; exact ⟨_, _, h⟩
set_option maxHeartbeats 4000000 in
theorem segC {w : World} {mg mb : Str → Option Value} (sa : Addr) (lo : Obj) (Q : Fl → St → Prop)
    (D : Dat) (l : List Bool) (ct f1 f2 : Addr) (c5 : Int)
    (H : ∀ (tl : Addr) (hp : Hp), Hs ⟨PySem.Challenge.pw_wo0035_01, w, mg, mb⟩ D hp sa lo ct f1 f2 c5 → hp tl = some (.lst (D.ends (lab l) (lab l).length)) →
      Seg ⟨PySem.Challenge.pw_wo0035_01, w, mg, mb⟩ 17 ⟨[("told", .ref tl), ("word", .str (ws l)), ("cells", .ref ct)], hp⟩ Q)
    (en : Addr) (hp : Hp) (h6 : l.length ≤ 6) (hs : Hs ⟨PySem.Challenge.pw_wo0035_01, w, mg, mb⟩ D hp sa lo ct f1 f2 c5) (ee : hp en = some (.lst (D.ends (lab l) (lab l).length))) :
    Seg ⟨PySem.Challenge.pw_wo0035_01, w, mg, mb⟩ 13 ⟨[("text", .bytes (octs (D.all (lab l)))), ("ends", .ref en), ("word", .str (ws l)), ("bias", .int D.b), ("cells", .ref ct)], hp⟩ Q := by
  refine Seg.of (by with_unfolding_all rfl) (fun C O hcl hout hd hu => ?_)
  obtain ⟨L, hLw⟩ : ∃ L, L = [false, true] ++ l := ⟨_, rfl⟩
  have hLl : L.length ≤ 8 := by rw [hLw]; simp; omega
  obtain ⟨tx, htx⟩ : ∃ tx, tx = octs (D.all L) := ⟨_, rfl⟩
  have hts : tx.size ≤ 100 := by
    have := D.all_len L
    rw [htx]; unfold octs; simp; omega
  rw [show lab l = L from hLw.symm] at H ee ⊢
  rw [← htx]
  refine Sx_cons ?_
  repeat ((fail_if_success (with_reducible refine Sx_consFor ?_)); tb_start)
  rename_i tl htl
  dsimp only at htl
  refine Sx_cons ?_
  refine Sx_For (by assumption) (by lcg_off) (by intro _; rfl) ?_
  repeat tb_start
  refine add_s2 (l := [false, true]) (by with_unfolding_all rfl) (by simp; omega) ?_
  rw [← hLw]
  refine ⟨{ σ' := _, items := _, dep := _, it := iter_str (by assumption), I := fun i σ => ∃ h : Hp, h tl = some (.lst (D.ends L i)) ∧ (∀ a o, hp a = some o → h a = some o) ∧
      σ = ⟨[("start", .int ((D.all (L.take i)).length : Nat)), ("told", .ref tl), ("text", .bytes tx), ("ends", .ref en), ("word", .str (ws l)), ("bias", .int D.b), ("cells", .ref ct)], h⟩, σ0 := _, le0 := St.le_of ?loc hp_refl, h0 := ⟨_, updH_same .., fun a o h => upd_other htl h, rfl⟩, hdep := fun _ _ _ => trivial, turn := ?turn, done := ?done }⟩
  case loc => tlg_ne
  case turn =>
    rintro i y σ hy ⟨h, h1, h2, rfl⟩
    rw [List.getElem?_map] at hy
    obtain ⟨c, hc, rfl⟩ := Option.map_eq_some_iff.mp hy
    obtain ⟨hi, hc'⟩ := List.getElem?_eq_some_iff.mp hc
    have htk : L.take (i + 1) = L.take i ++ [c] := by rw [List.take_succ_eq_append_getElem hi, hc']
    obtain ⟨pos, hpos⟩ : ∃ pos, pos = (D.all (L.take i)).length := ⟨_, rfl⟩
    have hpos' : (D.all (L.take (i + 1))).length = pos + (D.fg c).length := by rw [htk, D.all_snoc, List.length_append, hpos]
    have hdec := D.dec c ((D.all (L.drop (i + 1))).map fun f => (oct f).toNat.toUInt8) pos
    rw [hpos, ← D.octs_drop L i hc, ← hpos, ← htx, ← hpos'] at hdec
    have hends : D.ends L (i + 1) = D.ends L i ++ [.tup [.int ((D.all (L.take (i + 1))).length : Nat), .int (D.nm c)]] := by rw [Dat.ends, hc]
    obtain ⟨e1, he1⟩ : ∃ e1 : Nat, e1 = (D.all (L.take (i + 1))).length := ⟨_, rfl⟩
    rw [← he1] at hdec hends
    rw [← hpos]
    repeat tb_start
    refine callPost_i O (decode_ok tx pos D.b true _ h (by omega) hdec) (by omega) (by omega) ?_
    rintro _ h' ⟨rfl, rfl⟩
    repeat tb_start
    refine append_l h1 (by rw [D.ends_len (by omega)]; omega) ?_
    refine ⟨rfl, ?_⟩
    repeat tb_start
    refine sub_tup (by intro _ _; with_unfolding_all rfl) (by decide) (by decide) (v := V.int e1) rfl ?_
    repeat tb_start
    refine loopF_next ⟨[("start", .int ((D.all (L.take (i + 1))).length : Nat)), ("told", .ref tl), ("text", .bytes tx), ("ends", .ref en), ("word", .str (ws l)), ("bias", .int D.b), ("cells", .ref ct)], _⟩ (St.le_of ?_ hp_refl) ⟨_, ?_, fun a o z => ?_, rfl⟩
    · rw [← he1]; tlg_ne
    · rw [updH_same, hends]
    · exact upd_ne' (fun q => by rw [q, htl] at z; cases z) (h2 a o z)
  case done =>
    rintro σ ⟨h, h1, h2, rfl⟩
    rw [List.length_map] at h1
    rw [List.length_map]
    refine thenS_next ?_
    refine Sx_cons ?_
    repeat tb_start
    refine ne_list_same O h1 (h2 _ _ ee) (pairs_ok D.ends_pairs).1 (pairs_shaped D.ends_pairs) ?_
    repeat ((fail_if_success (with_reducible refine Sx_consAssign ?_)); tb_start)
    refine (H tl h (hs.mono h2) h1).go (by with_unfolding_all rfl) O hcl hout hd hu rfl (St.le_of ?_ hp_refl)
    tlg_ne
theorem cmb_spec (l : List Bool) {n : Nat} (h : 0 < n) : cmb l n < n ∧ (l.take n).drop (n - cmb l n) = l.take (cmb l n) ∧ ∀ k, k < n → (l.take n).drop (n - k) = l.take k → k ≤ cmb l n := by
  obtain ⟨k, e, h1, h2, h3⟩ := find_rev_range (fun k => (l.take n).drop (n - k) == l.take k) n ⟨0, h, by
    rw [beq_iff_eq, Nat.sub_zero, List.take_zero]; exact List.drop_eq_nil_of_le (by rw [List.length_take]; omega)⟩
  unfold cmb
  rw [e]
  refine ⟨h1, beq_iff_eq.mp h2, fun k hk hb => h3 k hk (beq_iff_eq.mpr hb)⟩
theorem bord_word {f : Bool → Int} (hf : f false ≠ f true) {l : List Bool} {n k : Nat} (hn : n ≤ l.length) : Bord (l.map f) n k ↔ k < n ∧ (l.take n).drop (n - k) = l.take k := by
  have inj : ∀ a b, f a = f b → a = b := fun a b h => by
    cases a <;> cases b <;> first | rfl | exact absurd h hf | exact absurd h.symm hf
  have look : ∀ a b : Option Bool, a.map f = b.map f → a = b := fun a b h => by
    cases a <;> cases b <;> simp at h ⊢
    exact inj _ _ h
  constructor
  · rintro ⟨h1, h2, h3⟩
    refine ⟨h1, ?_⟩
    apply List.ext_getElem?
    intro j
    rw [List.getElem?_drop, List.getElem?_take, List.getElem?_take]
    by_cases q : j < k
    · rw [if_pos (by omega), if_pos q]
      have := h3 j q
      rw [List.getElem?_map, List.getElem?_map] at this
      exact (look _ _ this).symm
    · rw [if_neg (by omega), if_neg q]
  · rintro ⟨h1, h2⟩
    refine ⟨h1, by rw [List.length_map]; exact hn, fun j hj => ?_⟩
    rw [List.getElem?_map, List.getElem?_map]
    have : ((l.take n).drop (n - k))[j]? = (l.take k)[j]? := by rw [h2]
    rw [List.getElem?_drop, List.getElem?_take, List.getElem?_take, if_pos (by omega), if_pos hj] at this
    rw [this]
theorem maxB_word {f : Bool → Int} (hf : f false ≠ f true) {l : List Bool} {n : Nat} (h0 : 0 < n) (hn : n ≤ l.length) : maxB (l.map f) n = cmb l n := by
  obtain ⟨h1, h2, h3⟩ := cmb_spec l h0
  refine maxB_eq ((bord_word hf hn).mpr ⟨h1, h2⟩) fun k hk => ?_
  obtain ⟨k1, k2⟩ := (bord_word hf hn).mp hk
  exact h3 k k1 k2
theorem lapGo_le {l : List Bool} : ∀ k lap, lap ≤ l.length → ∀ a ∈ lapGo (cmb l) k lap, a ≤ l.length
  | 0, _, _, a, h => nomatch h
  | k + 1, lap, hl, a, h => by
    rw [lapGo] at h
    split at h
    · rename_i h0
      have := (cmb_spec l h0).1
      rcases List.mem_cons.mp h with rfl | h
      · exact hl
      · exact lapGo_le k _ (by omega) a h
    · exact lapGo_le k lap hl a h
theorem laps_le {l : List Bool} : ∀ a ∈ lapsC l, a ≤ l.length := by
  unfold lapsC
  rcases Nat.eq_zero_or_pos l.length with h | h
  · rw [h]; intro a ha; cases ha
  · exact lapGo_le _ _ (Nat.le_of_lt (cmb_spec l h).1)
def sndV (v : V) : Option V := match v with
  | .tup [_, x] => some x
  | _ => none
theorem Dat.ends_snd (D : Dat) (l : List Bool) : ∀ {n : Nat}, n ≤ l.length → (D.ends l n).filterMap sndV = ((l.take n).map D.nm).map V.int
  | 0, _ => by rw [List.take_zero]; rfl
  | n + 1, h => by
    rw [Dat.ends, List.filterMap_append, D.ends_snd l (by omega), List.take_succ_eq_append_getElem (by omega), List.getElem?_eq_getElem (by omega), List.map_append, List.map_append]
    rfl
theorem Dat.ends_two (D : Dat) (l : List Bool) : ((D.ends (lab l) (lab l).length).drop 2).filterMap sndV = (l.map D.nm).map V.int := by
  have h := D.ends_snd (lab l) (Nat.le_refl _)
  rw [List.take_length] at h
  have hl : 2 ≤ (D.ends (lab l) (lab l).length).length := by rw [D.ends_len (Nat.le_refl _)]; simp
  have e0 := D.ends_get (l := lab l) (i := 0) (c := false) rfl (Nat.le_refl _) (by simp)
  have e1 := D.ends_get (l := lab l) (i := 1) (c := true) rfl (Nat.le_refl _) (by simp)
  match D.ends (lab l) (lab l).length, hl, h, e0, e1 with
  | x :: y :: r, _, h, e0, e1 =>
    rw [List.getElem?_cons_zero] at e0
    rw [List.getElem?_cons_succ, List.getElem?_cons_zero] at e1
    cases e0; cases e1
    rw [List.filterMap_cons, List.filterMap_cons] at h
    exact (List.cons.inj (List.cons.inj h).2).2
set_option maxHeartbeats 4000000 in
theorem segD {w : World} {mg mb : Str → Option Value} (sa : Addr) (lo : Obj) (Q : Fl → St → Prop)
    (D : Dat) (l : List Bool) (ct f1 f2 : Addr) (c5 : Int)
    (H : ∀ (la : Addr) (hp : Hp), Hs ⟨PySem.Challenge.pw_wo0035_01, w, mg, mb⟩ D hp sa lo ct f1 f2 c5 → hp la = some (.lst ((lapsC l).map fun n : Nat => V.int n)) →
      Seg ⟨PySem.Challenge.pw_wo0035_01, w, mg, mb⟩ 23 ⟨[("laps", .ref la), ("p", .int (D.nm false + 1)), ("q", .int (D.nm true + 1)), ("word", .str (ws l)), ("cells", .ref ct)], hp⟩ Q)
    (tl : Addr) (hp : Hp) (h3 : 3 ≤ l.length) (h6 : l.length ≤ 6) (hs : Hs ⟨PySem.Challenge.pw_wo0035_01, w, mg, mb⟩ D hp sa lo ct f1 f2 c5) (et : hp tl = some (.lst (D.ends (lab l) (lab l).length))) :
    Seg ⟨PySem.Challenge.pw_wo0035_01, w, mg, mb⟩ 17 ⟨[("told", .ref tl), ("word", .str (ws l)), ("cells", .ref ct)], hp⟩ Q := by
  refine Seg.of (by with_unfolding_all rfl) (fun C O hcl hout hd hu => ?_)
  obtain ⟨⟨_, hL⟩, L', hcl'⟩ := id hcl
  have e0 := D.ends_get (l := lab l) (i := 0) (c := false) rfl (Nat.le_refl _) (by simp)
  have e1 := D.ends_get (l := lab l) (i := 1) (c := true) rfl (Nat.le_refl _) (by simp)
  have hEl : (D.ends (lab l) (lab l).length).length = l.length + 2 := by rw [D.ends_len (Nat.le_refl _)]; simp
  have h2 := D.ends_two l
  obtain ⟨xs, hxs⟩ : ∃ xs, xs = D.ends (lab l) (lab l).length := ⟨_, rfl⟩
  have hnm := D.nm_b.2.2
  rw [← hxs] at e0 e1 hEl h2 et
  refine Sx_cons ?_
  repeat tb_start
  refine sub_list (by intro _ _; with_unfolding_all rfl) et (by decide) (by decide) e0 ?_
  repeat tb_start
  refine sub_tup (by intro _ _; with_unfolding_all rfl) (by decide) (by decide) (v := V.int (D.nm false)) rfl ?_
  repeat tb_start
  refine sub_list (by intro _ _; with_unfolding_all rfl) et (by decide) (by decide) e1 ?_
  repeat tb_start
  refine sub_tup (by intro _ _; with_unfolding_all rfl) (by decide) (by decide) (v := V.int (D.nm true)) rfl ?_
  repeat tb_start
  refine Ev_ListComp O hL (by unfold Act.env; rw [hcl']; with_unfolding_all rfl) (by (repeat (refine List.forall_mem_cons.mpr ⟨⟨by rw [hcl']; with_unfolding_all rfl, by with_unfolding_all rfl, by with_unfolding_all rfl⟩, ?_⟩)); exact fun _ h => (nomatch h)) (by decide) rfl (by decide) (by with_unfolding_all rfl) (by intro _; rfl) ?_
  repeat tb_start
  refine slice_from (k := 2) (by intro _ _; with_unfolding_all rfl) (by intro _ _; with_unfolding_all rfl) et (by omega) ?_
  intro x1 hx1
  dsimp only at hx1 ⊢
  refine fm_plan sndV _ _ _ (iter_list2 O (updH_same ..)) (by rw [List.length_drop]; omega) (updH_same ..) ?_ ?_
  · rintro C' O' hA hcl2 j y hy
    have hy' := List.mem_of_mem_drop (List.mem_of_getElem? hy)
    rw [hxs] at hy'
    obtain ⟨a, b, rfl⟩ := D.ends_pairs y hy'
    unfold CT
    dsimp only
    repeat tb_start
    refine sub_tup (by intro _ _; with_unfolding_all rfl) (by decide) (by decide) (v := V.int b) rfl ?_
    refine ⟨rfl, ?_⟩
    k_places
  rw [h2]
  intro x2 hx2
  dsimp only at hx2 ⊢
  repeat tb_start
  have hml : (l.map D.nm).length = l.length := by simp
  refine callPost_i O (overlap_ok (l.map D.nm) x2 _ (updH_same ..) (by omega)) (by omega) (by omega) ?_
  rintro _ hp1 ⟨t, ht, rfl, k1⟩
  have kt := k1 _ _ (updH_same ..)
  rw [hml] at kt
  have kk : ∀ a o, hp a = some o → hp1 a = some o := fun a o z => k1 _ _ (upd_other ht (upd_other hx2 (upd_other hx1 z)))
  clear k1 ht hx2 hx1
  repeat ((fail_if_success (with_reducible refine Sx_consFor ?_)); tb_start)
  rename_i la hla
  dsimp only at hla
  have htl : (tabV (l.map D.nm) l.length).length = l.length := by rw [tabV_length, hml]
  have tget : ∀ k : Nat, 0 < k → k ≤ l.length → (tabV (l.map D.nm) l.length)[k - 1]? = some (V.int (cmb l k : Nat)) := fun k h0 hk => by
    rw [tabV_get (by rw [hml]; omega) (by omega), show k - 1 + 1 = k by omega, maxB_word hnm h0 hk]
  have htla : t ≠ la := ne_of_none hla kt
  refine sub_list_neg (by intro _ _; with_unfolding_all rfl) (upd_ne' htla kt) (by omega) (by omega) (by omega) (v := V.int (cmb l l.length : Nat)) (by rw [htl, show (-1 + (l.length : Int)).toNat = l.length - 1 by omega]; exact tget _ (by omega) (Nat.le_refl _)) ?_
  refine Sx_cons ?_
  refine Sx_For (by assumption) (by lcg_off) (by intro _; rfl) ?_
  repeat tb_start
  refine ⟨{ σ' := _, items := _, dep := _, it := iter_str (by assumption), I := fun i σ => ∃ (ls : List Nat) (lap : Nat) (h : Hp), ls ++ lapGo (cmb l) (l.length - i) lap = lapsC l ∧ lap ≤ l.length ∧ h la = some (.lst (ls.map fun n : Nat => V.int n)) ∧ (∀ a o, hp1 a = some o → a ≠ la ∧ h a = some o) ∧
      σ = ⟨[("lap", .int lap), ("laps", .ref la), ("table", .ref t), ("p", .int (D.nm false + 1)), ("q", .int (D.nm true + 1)), ("word", .str (ws l)), ("cells", .ref ct)], h⟩, σ0 := _, le0 := St.le_of ?loc hp_refl, h0 := ⟨[], cmb l l.length, updH hp1 la (.lst []), rfl, Nat.le_of_lt (cmb_spec l (by omega)).1, updH_same .., fun a o z => ⟨ne_of_none hla z, upd_other hla z⟩, rfl⟩, hdep := fun _ _ _ => trivial, turn := ?turn, done := ?done }⟩
  case loc => tlg_ne
  case done =>
    rintro σ ⟨ls, lap, h, g1, g2, g3, g4, rfl⟩
    rw [List.length_map, Nat.sub_self, lapGo, List.append_nil] at g1
    refine thenS_next ?_
    rw [g1] at g3
    refine (H la h (hs.mono fun a o z => (g4 _ _ (kk _ _ z)).2) g3).go (by with_unfolding_all rfl) O hcl hout hd hu rfl (St.le_of ?_ hp_refl)
    tlg_ne
  case turn =>
    rintro i y σ hy ⟨ls, lap, h, g1, g2, g3, g4, rfl⟩
    rw [List.getElem?_map] at hy
    obtain ⟨c, hc, rfl⟩ := Option.map_eq_some_iff.mp hy
    obtain ⟨hi, hc'⟩ := List.getElem?_eq_some_iff.mp hc
    have hls : ls.length ≤ 6 := by
      have e := congrArg List.length g1
      have e2 := lapGo_len (cmb l) l.length (cmb l l.length)
      rw [List.length_append] at e
      unfold lapsC at e
      omega
    obtain ⟨m, hm⟩ : ∃ m, l.length - i = m + 1 := ⟨l.length - i - 1, by omega⟩
    have hm' : l.length - (i + 1) = m := by omega
    rw [hm, lapGo] at g1
    repeat tb_start
    · rename_i h0
      have h0' : 0 < lap := by omega
      rw [if_pos h0'] at g1
      refine append_l g3 (by simp; omega) ?_
      refine ⟨rfl, ?_⟩
      repeat tb_start
      refine sub_list (by intro _ _; with_unfolding_all rfl) (upd_ne' htla (g4 _ _ kt).2) (by omega) (by omega) (v := V.int (cmb l lap : Nat)) (by rw [show ((lap : Int) - 1).toNat = lap - 1 by omega]; exact tget _ h0' g2) ?_
      repeat tb_start
      refine loopF_next ⟨[("lap", .int (cmb l lap : Nat)), ("laps", .ref la), ("table", .ref t), ("p", .int (D.nm false + 1)), ("q", .int (D.nm true + 1)), ("word", .str (ws l)), ("cells", .ref ct)], _⟩ (St.le_of ?_ hp_refl) ⟨ls ++ [lap], cmb l lap, _, ?_, Nat.le_trans (Nat.le_of_lt (cmb_spec l h0').1) g2, ?_, fun a o z => ?_, rfl⟩
      · tlg_ne
      · rw [hm', List.append_assoc]; exact g1
      · rw [updH_same, List.map_append]; rfl
      · obtain ⟨n1, e1⟩ := g4 a o z
        exact ⟨n1, upd_ne' n1 e1⟩
    · rename_i h0
      have h0' : ¬ 0 < lap := by omega
      rw [if_neg h0'] at g1
      repeat tb_start
      refine loopF_next ⟨[("lap", .int lap), ("laps", .ref la), ("table", .ref t), ("p", .int (D.nm false + 1)), ("q", .int (D.nm true + 1)), ("word", .str (ws l)), ("cells", .ref ct)], _⟩ (St.le_of ?_ hp_refl) ⟨ls, lap, _, ?_, g2, g3, g4, rfl⟩
      · tlg_ne
      · rw [hm']; exact g1
/-- the mark -/
theorem mark_facts {p q : Int} (hp : 1 ≤ p ∧ p ≤ 1000) (hq : 2 ≤ q ∧ q ≤ 1000) {c s : Int} {wd : Nat} (hwd : (wd : Int) = 8 * (1 + (Builtin.Int.intBits (if q > p then q else p) : Nat)) + 2 + c) (hc : 0 ≤ c ∧ c < 120) (hs : 0 ≤ s ∧ s < 2 ^ wd) :
    ∃ m : Int, p ≤ m ∧ q ≤ m ∧ 2 ≤ m ∧ 2048 * m ^ 8 ≤ 3 * 2 ^ wd - s ∧ nb (3 * 2 ^ wd - s) 212 ∧ wd ≤ 209 := by
  obtain ⟨m, hm⟩ : ∃ m, m = if q > p then q else p := ⟨_, rfl⟩
  rw [← hm] at hwd
  have hm1 : p ≤ m ∧ q ≤ m ∧ m ≤ 1000 := by rw [hm]; split <;> omega
  obtain ⟨k, hk⟩ : ∃ k, k = Builtin.Int.intBits m := ⟨_, rfl⟩
  obtain ⟨b0, b1, b2⟩ := ibits_spec (x := m) (by omega)
  rw [← hk] at hwd b0 b1 b2
  have hk10 : k ≤ 10 := by rw [hk]; exact ibits_le (by omega) (by omega)
  have pw := kbt_pos wd
  have e8 : m ^ 8 ≤ 2 ^ (8 * k) := by
    have powle : ∀ j : Nat, m ^ j ≤ (2 ^ k) ^ j := fun j => by
      induction j with
      | zero => rw [Int.pow_zero, Int.pow_zero]; exact Int.le_refl _
      | succ j ih => rw [Int.pow_succ, Int.pow_succ]; exact Int.mul_le_mul ih (by omega) (by omega) (Int.pow_nonneg (by omega))
    have := powle 8
    rwa [← Int.pow_mul, Nat.mul_comm] at this
  have ew : (2 : Int) ^ (8 * k) * 1024 ≤ 2 ^ wd := by
    have : (2 : Int) ^ (8 * k) * 1024 = 2 ^ (8 * k + 10) := by rw [Int.pow_add]; rfl
    rw [this]
    exact pow_le_pow_right' (by omega)
  have hwl : wd ≤ 209 := by omega
  refine ⟨m, hm1.1, hm1.2.1, by omega, by omega, ?_, hwl⟩
  refine nb.mono (k := wd + 2) ?_ (by omega)
  refine natAbs_lt (by omega) ?_
  have : (2 : Int) ^ (wd + 2) = 2 ^ wd * 4 := by rw [Int.pow_add]; rfl
  omega
set_option maxHeartbeats 4000000 in
theorem segE {w : World} {mg mb : Str → Option Value} (sa : Addr) (lo : Obj) (Q : Fl → St → Prop)
    (D : Dat) (l : List Bool) (ct f1 f2 : Addr) (c5 : Int)
    (H : ∀ (te : Addr) (p q X m : Int) (hp : Hp), 1 ≤ p → 1 ≤ q → p ≤ m → q ≤ m → 2 ≤ m → 2048 * m ^ 8 ≤ X → nb p 10 → nb q 10 → nb X 212 → hp sa = some (.raw lo) → NT hp → hp te = some (.lst ((List.range (sg l + 2)).map fun i => V.int (tC l (lapsC l) i p q X))) →
      Seg ⟨PySem.Challenge.pw_wo0035_01, w, mg, mb⟩ 26 ⟨[("terms", .ref te), ("mark", .int X), ("p", .int p), ("q", .int q), ("word", .str (ws l))], hp⟩ Q)
    (la : Addr) (hp : Hp) (h3 : 3 ≤ l.length) (h6 : l.length ≤ 6) (hs : Hs ⟨PySem.Challenge.pw_wo0035_01, w, mg, mb⟩ D hp sa lo ct f1 f2 c5) (el : hp la = some (.lst ((lapsC l).map fun n : Nat => V.int n))) :
    Seg ⟨PySem.Challenge.pw_wo0035_01, w, mg, mb⟩ 23 ⟨[("laps", .ref la), ("p", .int (D.nm false + 1)), ("q", .int (D.nm true + 1)), ("word", .str (ws l)), ("cells", .ref ct)], hp⟩ Q := by
  refine Seg.of (by with_unfolding_all rfl) (fun C O hcl hout hd hu => ?_)
  obtain ⟨c0, c1, c2, c3, c4, ec⟩ := hs.ec
  obtain ⟨n1, n2, _⟩ := D.nm_b
  have n3 : 1 ≤ D.nm true := by
    have h1 := D.low_b
    have h2 := D.hah
    have e1 : 0 ≤ (36 - D.low) * D.la := Int.mul_nonneg (by omega) D.hla.1
    unfold Dat.nm; dsimp only; omega
  obtain ⟨p, hpp⟩ : ∃ p, p = D.nm false + 1 := ⟨_, rfl⟩
  obtain ⟨q, hqq⟩ : ∃ q, q = D.nm true + 1 := ⟨_, rfl⟩
  rw [← hpp, ← hqq]
  have hp1 : 1 ≤ p ∧ p ≤ 1000 := by omega
  have hq1 : 2 ≤ q ∧ q ≤ 1000 := by omega
  obtain ⟨wd, hwd⟩ : ∃ wd : Nat, (wd : Int) = 8 * (1 + (Builtin.Int.intBits (if q > p then q else p) : Nat)) + 2 + c5.fmod 120 := by
    refine ⟨(8 * (1 + (Builtin.Int.intBits (if q > p then q else p) : Nat)) + 2 + c5.fmod 120).toNat, ?_⟩
    have := Int.emod_nonneg c5 (show (120 : Int) ≠ 0 by decide)
    rw [Int.fmod_eq_emod_of_nonneg _ (by decide)]
    omega
  have hc : 0 ≤ c5.fmod 120 ∧ c5.fmod 120 < 120 := by rw [Int.fmod_eq_emod_of_nonneg _ (by decide)]; omega
  have pw := kbt_pos wd
  have hsv : 0 ≤ (c5.fdiv 120).fmod (2 ^ wd) ∧ (c5.fdiv 120).fmod (2 ^ wd) < 2 ^ wd := by
    rw [Int.fmod_eq_emod_of_nonneg _ (by omega)]
    exact ⟨Int.emod_nonneg _ (by omega), Int.emod_lt_of_pos _ (by omega)⟩
  obtain ⟨m, m1, m2, m3, m4, m5, m6⟩ := mark_facts hp1 hq1 hwd hc hsv
  obtain ⟨X, hX⟩ : ∃ X, X = 3 * 2 ^ wd - (c5.fdiv 120).fmod (2 ^ wd) := ⟨_, rfl⟩
  rw [← hX] at m4 m5
  have bp : nb p 10 := natAbs_lt (by omega) (by omega)
  have bq : nb q 10 := natAbs_lt (by omega) (by omega)
  refine Sx_cons ?_
  repeat tb_start
  refine max_ii O ?_
  repeat tb_start
  refine sub_list (by intro _ _; with_unfolding_all rfl) ec (by decide) (by decide) (v := V.int c5) rfl ?_
  repeat tb_start
  rw [← hwd]
  refine lshift_n 2 (by decide) (by omega) ?_
  repeat tb_start
  refine sub_list (by intro _ _; with_unfolding_all rfl) ec (by decide) (by decide) (v := V.int c5) rfl ?_
  repeat tb_start
  refine floordiv_ii (by decide) (noPylong_small (by decide)) ?_
  repeat tb_start
  refine lshift_n 1 (by decide) (by omega) ?_
  rw [Int.one_mul]
  refine mod_ii (by omega) ?_
  repeat tb_start
  rw [← hX]
  repeat tb_start
  refine callPost_i O (terms_ok l (lapsC l) la p q X hp el h6 laps_le (Nat.le_trans (lapGo_len _ _ _) h6) bp bq m5) (by omega) (by omega) ?_
  rintro _ hp' ⟨te, rfl, et, hk⟩
  have et' : hp' te = some (.lst ((List.range (sg l + 2)).map fun i => V.int (tC l (lapsC l) i p q X))) := by
    rw [et]
    congr 2
    apply List.map_congr_left
    intro i hi
    rw [List.mem_range] at hi
    unfold tC
    rw [if_pos (by omega)]
  repeat ((fail_if_success (with_reducible refine Sx_consAssign ?_)); tb_start)
  refine (H te p q X m hp' hp1.1 (by omega) m1 m2 m3 m4 bp bq m5 (hk _ _ hs.sc) (hs.nt.mono hk) et').go (by with_unfolding_all rfl) O hcl hout hd hu rfl (St.le_of ?_ hp_refl)
  tlg_ne
theorem nb.neg {x : Int} {k : Nat} (h : nb x k) : nb (-x) k := by unfold nb at *; rw [Int.natAbs_neg]; exact h
theorem nb.sh {w : List Bool} {laps : List Nat} {p q X : Int} (bp : nb p 10) (bq : nb q 10) (bX : nb X 212) (hw : w.length ≤ 6) (hl : laps.length ≤ 6) : ∀ i, nb (sh w laps p q X i) 320
  | 0 => by show nb 0 320; unfold nb; decide
  | 1 => by show nb 0 320; unfold nb; decide
  | 2 => by show nb 1 320; unfold nb; decide
  | i + 3 => by
    have b1 : nb (1 - X) 213 := nb.sub (show nb 1 212 by unfold nb; decide) bX
    refine (b1.mul (l := 100) ?_).mono (by omega)
    refine (nb.sum (k := 62) fun x hx => ?_).mono ?_
    · obtain ⟨lap, _, rfl⟩ := List.mem_map.mp hx
      refine (nb.col bp bq _).mono ?_
      rw [List.length_drop]; omega
    · rw [List.length_map]
      have := List.length_filter_le (fun lap => sg (w.drop lap) == i + 1) laps
      omega
theorem nb.tC {w : List Bool} {laps : List Nat} {p q X : Int} (bp : nb p 10) (bq : nb q 10) (bX : nb X 212) (hw : w.length ≤ 6) (hl : laps.length ≤ 6) (i : Nat) : nb (tC w laps i p q X) 400 := by
  unfold Mine.tC
  split
  · unfold Mine.tF
    have s := nb.sh bp bq bX hw hl
    have b1 : nb (1 - X) 213 := nb.sub (show nb 1 212 by unfold nb; decide) bX
    have e : nb (if i = sg w then (1 - X) * Mine.col p q w else 0) 350 := by
      split
      · exact (b1.mul (nb.col bp bq w)).mono (by omega)
      · unfold nb; rw [Int.natAbs_zero]; exact Nat.pow_pos (by decide)
    exact (nb.add ((nb.sub (nb.sub ((s (i + 2)).mono (show 320 ≤ 340 by omega)) ((bp.mul (s (i + 1))).mono (show 10 + 320 ≤ 340 by omega))) ((bq.mul (s i)).mono (show 10 + 320 ≤ 341 by omega))).mono (show 342 ≤ 350 by omega)) e).mono (by omega)
  · unfold nb; rw [Int.natAbs_zero]; exact Nat.pow_pos (by decide)
set_option maxHeartbeats 4000000 in
theorem segF {w : World} {mg mb : Str → Option Value} (sa : Addr) (lo : Obj) (Q : Fl → St → Prop) (l : List Bool) (te : Addr) (p q X : Int)
    (H : ∀ (dv dd due : Int) (hp : Hp), dv = hs (X ^ 9) (fun i => tC l (lapsC l) i p q X) (sg l + 2) → dd = hs (X ^ 9) (fun i => -((i : Int) * tC l (lapsC l) i p q X)) (sg l + 2) * X ^ 63 → due = hs (X ^ 9) (fun i => cF l (i + 1) p q X) 7 → nb dv 30000 → nb dd 45000 → nb due 16000 →
      hp sa = some (.raw lo) → NT hp → Seg ⟨PySem.Challenge.pw_wo0035_01, w, mg, mb⟩ 31 ⟨[("due", .int due), ("dividend", .int dd), ("divisor", .int dv)], hp⟩ Q)
    (hp : Hp) (h3 : 3 ≤ l.length) (h6 : l.length ≤ 6) (bp : nb p 10) (bq : nb q 10) (bX : nb X 212) (sc : hp sa = some (.raw lo)) (nt : NT hp) (et : hp te = some (.lst ((List.range (sg l + 2)).map fun i => V.int (tC l (lapsC l) i p q X)))) :
    Seg ⟨PySem.Challenge.pw_wo0035_01, w, mg, mb⟩ 26 ⟨[("terms", .ref te), ("mark", .int X), ("p", .int p), ("q", .int q), ("word", .str (ws l))], hp⟩ Q := by
  refine Seg.of (by with_unfolding_all rfl) (fun C O hcl hout hd hu => ?_)
  have hl : (lapsC l).length ≤ 6 := Nat.le_trans (lapGo_len _ _ _) h6
  have hsg := (sg_ge l).2
  have bt := nb.tC (w := l) (laps := lapsC l) bp bq bX h6 hl
  obtain ⟨t, ht⟩ : ∃ t : Nat → Int, t = fun i => tC l (lapsC l) i p q X := ⟨_, rfl⟩
  have bt' : ∀ i, nb (t i) 400 := fun i => by rw [ht]; exact bt i
  have hH : ∀ (dv dd due : Int) (hp : Hp), dv = hs (X ^ 9) t (sg l + 2) → dd = hs (X ^ 9) (fun i => -((i : Int) * t i)) (sg l + 2) * X ^ 63 → due = hs (X ^ 9) (fun i => cF l (i + 1) p q X) 7 → nb dv 30000 → nb dd 45000 → nb due 16000 →
      hp sa = some (.raw lo) → NT hp → Seg ⟨PySem.Challenge.pw_wo0035_01, w, mg, mb⟩ 31 ⟨[("due", .int due), ("dividend", .int dd), ("divisor", .int dv)], hp⟩ Q := by rw [ht]; exact H
  have et' : hp te = some (.lst ((List.range (sg l + 2)).map fun i => V.int (t i))) := by rw [ht]; exact et
  clear H et bt
  have bdv : ∀ i, i ≤ sg l + 2 → nb (hs (X ^ 9) t i) 30000 := fun i hi => (nb.hs (bX.pow 9) i fun j _ => bt' j).mono (by omega)
  have bdd : ∀ i, i ≤ sg l + 2 → nb (hs (X ^ 9) (fun i => -((i : Int) * t i)) i) 30000 := fun i hi => (nb.hs (k := 410) (bX.pow 9) i fun j hj => by
    refine ((nb.mul (k := 10) ?_ (bt' j)).neg).mono (by omega)
    unfold nb; rw [Int.natAbs_natCast]; omega).mono (by omega)
  have bdue : nb (hs (X ^ 9) (fun i => cF l (i + 1) p q X) 7) 16000 := (nb.hs (bX.pow 9) 7 fun j hj => nb.cF (n := j + 1) bp bq bX (by omega)).mono (by omega)
  refine Sx_cons ?_
  repeat ((fail_if_success (with_reducible refine Sx_consFor ?_)); tb_start)
  refine Sx_cons ?_
  refine Sx_For (by assumption) (by lcg_off) (by intro _; rfl) ?_
  repeat tb_start
  refine len_list et' (by simp; omega) ?_
  rw [List.length_map, List.length_range]
  repeat tb_start
  rename_i rg hrg
  dsimp only at hrg
  have rr := range_up (a := 0) (b := ((sg l + 2 : Nat) : Int)) (by omega) (by omega) (by omega) (by omega)
  have htr : te ≠ rg := ne_of_none hrg et'
  refine ⟨{ σ' := _, items := _, dep := _, it := iter_rng (by assumption) (n := sg l + 2) (by kbo_bools) rr.1 (by rw [rr.2]; omega), I := fun i σ => σ = ⟨[("divisor", .int (hs (X ^ 9) t i)), ("dividend", .int (hs (X ^ 9) (fun i => -((i : Int) * t i)) i)), ("terms", .ref te), ("mark", .int X), ("p", .int p), ("q", .int q), ("word", .str (ws l))], hp⟩, σ0 := _, le0 := St.le_of ?loc ?hpp, h0 := rfl, hdep := fun _ _ _ => trivial, turn := ?turn, done := ?done }⟩
  case loc => tlg_ne
  case hpp => kct_strs
  case turn =>
    rintro i y σ hy rfl
    obtain ⟨hi, rfl⟩ := rangeL_get hy
    rw [show (0 : Int) + (i : Int) * 1 = (i : Int) by omega]
    have get : ((List.range (sg l + 2)).map fun i => V.int (t i))[(i : Int).toNat]? = some (V.int (t i)) := by
      rw [Int.toNat_natCast, List.getElem?_map, List.getElem?_range hi]; rfl
    repeat tb_start
    refine pow_ii (by decide) (pow_nb (n := 9) bX (by omega)) ?_
    repeat tb_start
    refine mul_ii (mulOk_nb (bdv i (by omega)) (bX.pow 9) (by omega)) ?_
    repeat tb_start
    refine sub_list (by intro _ _; with_unfolding_all rfl) et' (by omega) (by omega) get ?_
    repeat tb_start
    refine pow_ii (by decide) (pow_nb (n := 9) bX (by omega)) ?_
    repeat tb_start
    refine mul_ii (mulOk_nb (bdd i (by omega)) (bX.pow 9) (by omega)) ?_
    repeat tb_start
    refine sub_list (by intro _ _; with_unfolding_all rfl) et' (by omega) (by omega) get ?_
    repeat tb_start
    refine loopF_next ⟨[("divisor", .int (hs (X ^ 9) t (i + 1))), ("dividend", .int (hs (X ^ 9) (fun i => -((i : Int) * t i)) (i + 1))), ("terms", .ref te), ("mark", .int X), ("p", .int p), ("q", .int q), ("word", .str (ws l))], hp⟩ (St.le_of ?_ hp_refl) rfl
    have e1 : hs (X ^ 9) t (i + 1) = hs (X ^ 9) t i * X ^ (9 : Int).toNat + t i := rfl
    have e2 : hs (X ^ 9) (fun i => -((i : Int) * t i)) (i + 1) = hs (X ^ 9) (fun i => -((i : Int) * t i)) i * X ^ (9 : Int).toNat - (i : Int) * t i := rfl
    rw [e1, e2]
    tlg_ne
  case done =>
    rintro σ rfl
    rw [rangeL_length]
    refine thenS_next ?_
    refine Sx_cons ?_
    repeat tb_start
    refine pow_ii (by decide) (pow_nb (n := 63) bX (by omega)) ?_
    repeat tb_start
    refine imul_ii (mulOk_nb (bdd _ (Nat.le_refl _)) (bX.pow 63) (by omega)) ?_
    repeat tb_start
    refine callPost_i O (due_ok l p q X hp h6 bp bq bX) (by omega) (by omega) ?_
    rintro _ hp' ⟨rfl, hk⟩
    repeat ((fail_if_success (with_reducible refine Sx_consAssign ?_)); tb_start)
    refine (hH _ _ _ hp' rfl rfl rfl (bdv _ (Nat.le_refl _)) (((bdd _ (Nat.le_refl _)).mul (bX.pow 63)).mono (by omega)) bdue (hk _ _ sc) (nt.mono hk)).go (by with_unfolding_all rfl) O hcl hout hd hu rfl (St.le_of ?_ hp_refl)
    tlg_ne
theorem TabV.at' {hp : Hp} {P : Addr} {pos : Pos} {q : Str} (h : TabV hp P pos q) : ∃ ps, hp P = some (.raw (tabObj ps)) := by
  rcases h with h | ⟨c, h, _⟩
  · exact ⟨_, h⟩
  · exact ⟨_, h⟩
set_option maxHeartbeats 4000000 in
theorem segG {w : World} {mg mb : Str → Option Value} (hDL : ∃ t, mg "_DIV_LIMIT" = some (.int 4000 t)) (ns : List Int) (sa : Addr) (lo : Obj) (hlo : RawL lo ns) (dv dd due : Int) (hp : Hp)
    (bv : nb dv 30000) (bd : nb dd 45000) (bu : nb due 16000) (g1 : 0 ≤ dd - due * dv) (g2 : dd - due * dv < dv) (g3 : 0 ≤ due) (g4 : due < dv * dv) (sc : hp sa = some (.raw lo)) (nt : NT hp) :
    Seg ⟨PySem.Challenge.pw_wo0035_01, w, mg, mb⟩ 31 ⟨[("due", .int due), ("dividend", .int dd), ("divisor", .int dv)], hp⟩ (lawQ sa lo [(41, 37), (34, 30)]) := by
  refine Seg.of (by with_unfolding_all rfl) (fun C O hcl hout hd hu => ?_)
  have hdv : 0 < dv := by omega
  obtain ⟨k, hk⟩ : ∃ k, k = Builtin.Int.intBits dv := ⟨_, rfl⟩
  have hk1 : k ≤ 30000 := by rw [hk]; exact bv.bits
  obtain ⟨_, _, hk2⟩ := ibits_spec hdv
  rw [← hk] at hk2
  have hff : (2 : Int) ^ (2 * k) = 2 ^ k * 2 ^ k := by rw [← Int.pow_add]; congr 1; omega
  have hfull : dv * dv < 2 ^ (2 * k) := by
    rw [hff]
    exact Int.mul_lt_mul hk2 (Int.le_of_lt hk2) hdv (Int.le_of_lt (kbt_pos k))
  have bf : nb ((2 : Int) ^ (2 * k)) 60001 := by
    refine natAbs_lt (Int.le_of_lt (kbt_pos _)) ?_
    exact Int.lt_of_lt_of_le (by rw [Int.pow_succ]; have := kbt_pos (2 * k); omega) (pow_le_pow_right' (show 2 * k + 1 ≤ 60001 by omega))
  obtain ⟨full, hfl⟩ : ∃ full, full = (2 : Int) ^ (2 * k) := ⟨_, rfl⟩
  rw [← hfl] at bf hfull
  obtain ⟨left, hle⟩ : ∃ left, left = dd - due * dv := ⟨_, rfl⟩
  rw [← hle] at g1 g2
  have hdd : dd = left + dv * due := by rw [hle, Int.mul_comm dv]; omega
  have dd0 : 0 ≤ dd := by
    have := Int.mul_nonneg (Int.le_of_lt hdv) g3
    omega
  obtain ⟨u1, u2⟩ := kbt_unique (a := dd) (b := dv) (q := due) (r := left) hdv hdd.symm g1 g2
  have e2 : dv - left - 1 + dv * (full - due - 1) = full * dv - dd - 1 := by
    rw [Int.mul_sub, Int.mul_sub, Int.mul_one, Int.mul_comm full, hdd]; omega
  obtain ⟨v1, v2⟩ := kbt_unique (a := full * dv - dd - 1) (b := dv) (q := full - due - 1) (r := dv - left - 1) hdv e2 (by omega) (by omega)
  have a0 : 0 ≤ full * dv - dd - 1 := by
    have := Int.mul_nonneg (Int.le_of_lt hdv) (show 0 ≤ full - due - 1 by omega)
    omega
  have ba : nb (full * dv - dd - 1) 100000 := by
    refine (nb.sub (nb.sub ((bf.mul bv).mono (show 60001 + 30000 ≤ 90001 by omega)) (bd.mono (by omega))) ?_).mono (show 90003 ≤ 100000 by omega)
    exact (show nb 1 1 by unfold nb; decide).mono (by omega)
  refine Sx_cons ?_
  repeat tb_start
  refine mul_ii (mulOk_nb bu bv (by omega)) ?_
  repeat tb_start
  rw [← hle, ← hk, show (2 : Int) * (k : Int) = ((2 * k : Nat) : Int) by omega]
  refine lshift_n 1 (by decide) (by omega) ?_
  rw [Int.one_mul]
  repeat tb_start
  rw [← hfl]
  refine callPost_i O (divmod_pos_ok hDL dd dv dd0 hdv hp (Nat.le_trans bd.bits (by decide)) (Nat.le_trans bv.bits (by decide)) nt) (by omega) (by omega) ?_
  rintro _ h1 ⟨rfl, k1, nt1⟩
  have t1 := raw_ne_tab sc hlo nt
  have sc1 := k1 _ _ t1.1 t1.2 sc
  clear k1
  rw [u1, u2]
  repeat tb_start
  refine mul_ii (mulOk_nb bf bv (by omega)) ?_
  repeat tb_start
  refine callPost_i O (divmod_pos_ok hDL (full * dv - dd - 1) dv a0 hdv h1 ba.bits (Nat.le_trans bv.bits (by decide)) nt1) (by omega) (by omega) ?_
  rintro _ h2 ⟨rfl, k2, nt2⟩
  have t2 := raw_ne_tab sc1 hlo nt1
  have sc2 := k2 _ _ t2.1 t2.2 sc1
  clear k2
  rw [v1, v2]
  repeat tb_start
  rename_i pa hpa pb hpb
  dsimp only at hpa hpb
  have pp : ∀ x ∈ ([.tup [.int due, .int left], .tup [.int (full - due - 1), .int (dv - left - 1)]] : List V), ∃ a b, x = V.tup [.int a, .int b] := by
    intro x hx
    rcases List.mem_cons.mp hx with rfl | hx
    · exact ⟨_, _, rfl⟩
    · rw [List.mem_singleton] at hx; exact ⟨_, _, hx⟩
  refine eq_list_same O (upd_other hpb (updH_same ..)) (updH_same ..) (pairs_ok pp).1 (pairs_shaped pp) ?_
  refine ⟨rfl, upd_other hpb (upd_other hpa sc2), ?_⟩
  intro q hq
  rcases List.mem_cons.mp hq with rfl | hq
  · obtain ⟨ps, z⟩ := nt2.2.at'
    exact ⟨ps, upd_other hpb (upd_other hpa z)⟩
  · rw [List.mem_singleton] at hq
    subst hq
    obtain ⟨ps, z⟩ := nt2.1.at'
    exact ⟨ps, upd_other hpb (upd_other hpa z)⟩
/-! the head by one look of the kernel: what the top leaves is told by a test on the heap, not written out -/
def fragAt (as : List Addr) (h : Heap) : Frag := as.filterMap fun a => (h.get? a).map fun o => (a, o)
theorem fragAt_in (h : Heap) : ∀ as : List Addr, (fragAt as h).In h
  | [], a, o, e => by cases e
  | b :: as, a, o, e => by
    unfold fragAt at e
    rw [List.filterMap_cons] at e
    cases hb : h.get? b with
    | none => rw [hb] at e; exact fragAt_in h as a o e
    | some ob =>
      rw [hb] at e
      simp only [Option.map_some, List.lookup] at e
      split at e
      · rename_i q; cases e; rw [beq_iff_eq.mp q]; exact hb
      · exact fragAt_in h as a o e
def mHook (as : List Addr) (T : Frag → Bool) (ts : List Addr) : Hook where
  α := Bool × List (Option Obj)
  obs := fun s => (T (fragAt as s.heap), ts.map s.heap.get?)
  val := fun _ => (true, ts.map fun _ => some (tabObj #[]))
  says := fun _ h => (∃ K : Frag, K.In h ∧ T K = true) ∧ ∀ P ∈ ts, h.get? P = some (tabObj #[])
  of := fun w s x => ⟨⟨_, fragAt_in s.heap as, (Prod.mk.inj x).1⟩, List.map_inj_left.mp (Prod.mk.inj x).2⟩
  keeps := fun w h h' x k => ⟨let ⟨K, a, b⟩ := x.1; ⟨K, Frag.In.keeps a k, b⟩, fun P hP => k _ _ (x.2 P hP)⟩
def nestTest (l : List (Str × Addr × Addr)) (K : Frag) : Bool := l.all fun e => codeHdIn K e.2.1 e.2.2 && (tabIn K e.1 == some e.2)
def limTest (x : Str) (n : Int) (K : Frag) : Bool := match nsIn K mainGlobals x with
  | some (some (.int m _)) => m == n
  | _ => false
def viewOf (p : Program) : Program := { p with main := { p.main with body := p.main.body.filter fun s => match s with
  | .FunctionDef .. => true
  | .Assign _ (.Constant (.int _) _ _) _ => true
  | _ => false } }
def vw1 : Program := viewOf PySem.Challenge.pw_wo0035_01
def tst1 (K : Frag) : Bool := nestTest [("_int2digits", 34, 30), ("_digits2int", 41, 37)] K && limTest "_DIV_LIMIT" 4000 K
def hk1 : Hook := mHook (List.range 128) tst1 [37, 30]
theorem left1 : LeftO PySem.Challenge.pw_wo0035_01 vw1 [] (fun s => xlAt vw1 [] s && recOk (RowW.records PySem.Challenge.rw_wo0035_01.row.toRowW) s) hk1.obs hk1.val 1124 := fun w => by kernel_rfl
/-- the law's body, whole -/
theorem law1_ok {w : World} {mg mb : Str → Option Value} (hDL : ∃ t, mg "_DIV_LIMIT" = some (.int 4000 t)) (ns : List Int) (sa : Addr) (lo : Obj) (hlo : RawL lo ns) (hz : ns.length ≤ 63) (hsa : ∀ P ∈ [((41, 37) : Addr × Addr), (34, 30)].map (·.2), P ≠ sa) :
    Seg ⟨PySem.Challenge.pw_wo0035_01, w, mg, mb⟩ 0 ⟨[("script", .ref sa)], hp0 sa lo [(41, 37), (34, 30)]⟩ (lawQ sa lo [(41, 37), (34, 30)]) :=
  segA1 ns sa lo hlo hz hsa _ fun D ct f1 f2 c0 c1 c2 c3 c4 c5 hp hs ec =>
    segA2 sa lo _ (fun D l ct f1 f2 c5 hp h3 h6 hs =>
      segB sa lo _ D l ct f1 f2 c5 (fun en hp hs ee =>
        segC sa lo _ D l ct f1 f2 c5 (fun tl hp hs et =>
          segD sa lo _ D l ct f1 f2 c5 (fun la hp hs el =>
            segE sa lo _ D l ct f1 f2 c5 (fun te p q X m hp p1 q1 pm qm m2 mX bp bq bX sc nt et =>
              segF sa lo _ l te p q X (fun dv dd due hp e1 e2 e3 bv bd bu sc nt =>
                let h := plain01 h3 h6 p1 q1 pm qm m2 mX rfl e1 e2 e3
                segG hDL ns sa lo hlo dv dd due hp bv bd bu h.1 h.2.1 h.2.2.1 h.2.2.2 sc nt) hp h3 h6 bp bq bX sc nt et) la hp h3 h6 hs el) tl hp h3 h6 hs et) en hp h6 hs ee) hp h3 h6 hs) D ct f1 f2 c0 c1 c2 c3 c4 c5 hp hs ec
theorem nest_codes {mg : Str → Option Value} {K : Frag} {h : Heap} (X : K.In h) (g : h.Ns mainGlobals mg) (hk : tst1 K = true) : ∀ f c P, nestTab.lookup f = some (c, P) → (c, P) ∈ [((41, 37) : Addr × Addr), (34, 30)] ∧
    ∀ a o ps bd sc pm cd doc, mg f = some (.ref a) → h.get? a = some o → o.data = .func (docDef f ps bd sc pm cd doc) → cd = .ref c := by
  intro f c P e
  have hm := mem_of_lookup' e
  simp only [tst1, nestTest, List.all_cons, List.all_nil, Bool.and_true, Bool.and_eq_true, beq_iff_eq] at hk
  simp only [nestTab, List.mem_cons, List.not_mem_nil, or_false, Prod.mk.injEq] at hm
  rcases hm with ⟨rfl, rfl, rfl⟩ | ⟨rfl, rfl, rfl⟩
  · exact ⟨by decide, fun a o ps bd sc pm cd doc e1 e2 e3 => law_code X g hk.1.1.2 e1 e2 e3⟩
  · exact ⟨by decide, fun a o ps bd sc pm cd doc e1 e2 e3 => law_code X g hk.1.2.2 e1 e2 e3⟩
theorem nest_tabs {K : Frag} {h : Heap} (X : K.In h) (hk : tst1 K = true) (hT : ∀ P ∈ ([37, 30] : List Addr), h.get? P = some (tabObj #[])) : TabsAt [(41, 37), (34, 30)] h := by
  simp only [tst1, nestTest, List.all_cons, List.all_nil, Bool.and_true, Bool.and_eq_true, beq_iff_eq] at hk
  exact List.forall_mem_cons.mpr ⟨⟨codeHd_of_K X hk.1.2.1, hT 37 (by decide)⟩, List.forall_mem_cons.mpr ⟨⟨codeHd_of_K X hk.1.1.1, hT 30 (by decide)⟩, fun _ h => (nomatch h)⟩⟩
theorem lim_of {K : Frag} {h : Heap} {mg : Str → Option Value} (X : K.In h) (g : h.Ns mainGlobals mg) (hk : tst1 K = true) : ∃ t, mg "_DIV_LIMIT" = some (.int 4000 t) := by
  have hk := (Bool.and_eq_true_iff.mp hk).2
  unfold limTest at hk
  split at hk
  · rename_i m t e
    rw [beq_iff_eq] at hk
    subst hk
    exact ⟨t, mg_of X g e⟩
  · cases hk
end Mine
open Mine
set_option maxHeartbeats 8000000 in
theorem PySem.Challenge.cw_wo0035_01_holds : PySem.Challenge.rw_wo0035_01.Holds := by
  w_on
  o_law
  rename_i said
  refine holds_open (q := Mine.vw1) (loose := []) (XP := XL Mine.vw1 []) (YP := Mine.hk1.says) Mine.left1 Mine.hk1.of Mine.hk1.keeps (fun s e => xl_of s (Bool.and_eq_true_iff.mp e).1) XL.keeps (by rfl) (by rfl) (by rfl) (fun s e => recFacts_of (Bool.and_eq_true_iff.mp e).2) (by rfl) said (by decide +kernel) ⟨rfl, rfl, rfl, rfl, rfl, by decide +kernel⟩ ?hw ?hc
  (case hw => w_witness2)
  w_strict (
    intro w s₀ s₁ mg mb G Y fa o pm cd doc dV kV ho hd hcd hD hmg hg args vals as hpre hlay hrd hwl hlo
    obtain ⟨⟨K, KX, hK⟩, hT8⟩ := Y
    have X := (Ground.X G).1
    have V := (Ground.X G).2
    refine Ground.open G ?_
    intro T B D TE TW
    have hT9 := Mine.nest_tabs KX hK hT8
    wrow_args hpre hlay hrd hwl hlo
    all_goals (
      first | refine callC_kw (enter_call ?_) | refine enter_call ?_
      w_top on
      kn_posts
      have he := Dflts.none hD rfl; subst he; have he := Dflts.noKw hD; subst he
      replace hd := fd_plain hd
      rename_i ns hs hlay0 hL1 hr1 hl2 as1 as2 sa vs as3 hL ra w1 r0 hI hr hcond hcond2
      have hlen : ns.length ≤ 63 := by omega
      have hDL := Mine.lim_of KX (Top.g T) hK
      refine Mine.law_enter T hT9 (by decide) (Mine.nest_codes KX (Top.g T) hK) (Mine.defs_in (by kernel_rfl)) ?hfree ho hd hcd hL hI hg (fun us h => ?hbind) (by decide) (by decide) rfl rfl rfl ?hraise ?hpost ?hbody
      case hfree =>
        intro x hx
        refine T.free x ?_ ?_ ?_ ?_ ?_ <;> (revert x; decide +kernel)
      case hbind =>
        (refine Mine.lsb1 h ?_; intros; rfl)
      case hraise => intro x; rfl
      case hpost => (refine postW_of (by wrow_shape) (by wtm_val) ?_; w_fin)
      case hbody =>
        intro lo C hlo hsaP O hcl hout hdep hun
        exact Mine.law1_ok (w := w) (mb := mb) hDL ns sa lo hlo hlen hsaP _ _ _ (by with_unfolding_all rfl) C O hcl hout hdep hun))
