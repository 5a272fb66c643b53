import PyProof.Rows.All
import OpenK.KLine
import PySem.Challenge.RW_dm0167_05
set_option Elab.async false
set_option linter.all false
section
open PySem PySem.W PyProof.Rows
set_option Elab.async false
set_option maxRecDepth 100000
set_option maxHeartbeats 8000000
namespace MineTop
open_top hd for PySem.Challenge.rw_dm0167_05
end MineTop
end
section
set_option Elab.async false
set_option linter.all false
set_option maxRecDepth 100000
namespace Mine
open PySem PySem.W PyProof.Rows

/-! ## the expressions -/
set_option genSizeOfSpec false in
set_option genInjectivity false in
inductive X where
  | none
  | bool (b : Bool)
  | int (i : Int)
  | str (s : Str)
  | var (x : Str)
  | cv (x : Str)
  | glob (x : Str)
  | bin (op : Operator) (a b : X)
  | neg (a : X)
  | not (a : X)
  | cmp (op : CmpOp) (a b : X)
  | cmp2 (o₁ o₂ : CmpOp) (a b c : X)
  | and (a b : X)
  | or (a b : X)
  | ite (c a b : X)
  | idx (a i : X)
  | slc (a lo hi : X)
  | attr (o : X) (f : Str)
  | list (es : X)
  | tup (es : X)
  | nil
  | cons (a b : X)
  | call (f as : X)
  | meth (o : X) (m : Str) (as : X)
  | comp (elt : X) (x : Str) (it cond : X)
  | unk

/-! ## statements -/
set_option genSizeOfSpec false in
set_option genInjectivity false in
inductive S where
  | skip
  | brk
  | cont
  | expr (e : X)
  | asg (x : Str) (e : X)
  | asgC (x : Str) (e : X)
  | own (x : Str) (e : X)
  | ownC (x : Str) (e : X)
  | setA (o : X) (f : Str) (e : X)
  | aug (x : Str) (op : Operator) (e : X)
  | ret (e : X)
  | ret0
  | ite (c : X) (a b : S)
  | loop (n : Nat) (c : X) (b o : S)
  | each (x : Str) (it : X) (b : S)
  | assert (e : X)
  | try1 (b : S) (cls : Str) (h : S)
  | try2 (b : S) (cls : Str) (h : S) (cls₂ : Str) (h₂ : S)
  | nil
  | seq (a b : S)
  | unk

/-! ## the tie to the written text -/
noncomputable def goodName (x : Str) : Bool := x != ("__debug__" : Str) && x != ("__classdict__" : Str)
noncomputable def noSuper (e : Expr) : Bool := match e with
  | .Call (.Name ..) [] [] _ => false
  | _ => true
noncomputable def isSlice (e : Expr) : Bool := match e with
  | .Slice .. => true
  | _ => false
noncomputable def isStar (e : Expr) : Bool := match e with
  | .Starred .. => true
  | _ => false
noncomputable def isSetE (e : Expr) : Bool := match e with
  | .Set .. => true
  | _ => false
noncomputable def isCompE (e : Expr) : Bool := match e with
  | .ListComp .. | .SetComp .. | .DictComp .. => true
  | _ => false


set_option genSizeOfSpec false in
set_option genInjectivity false in
inductive Ph where
  | e (x : Expr)
  | none
  | es (l : List Expr)
  | an (l : List Expr)
  | or (l : List Expr)
  | cond (l : List Expr)
noncomputable def Ph.ofO : Option Expr → Ph
  | some y => .e y
  | Option.none => .none
noncomputable def Ph.ofAnd : List Expr → Ph
  | [y] => .e y
  | l => .an l
noncomputable def Ph.ofOr : List Expr → Ph
  | [y] => .e y
  | l => .or l
noncomputable def Ph.ofCond : List Expr → Ph
  | [y] => .e y
  | l => .cond l
noncomputable def okScope (x : Str) (sc cs : Scope) : Bool := cs.kind == .function && cs.names.lookup x == some .local &&
  cs.names.all fun p => p.2 != .cell && (p.2 != .local || cs.names.lookup p.1 == some .local) && (p.2 != .free || sc.names.lookup p.1 == some .cell || sc.names.lookup p.1 == some .free)

inductive Ok : X → Scope → Ph → Prop
  | none {sc k p} : Ok .none sc (.e (.Constant .none k p))
  | none' {sc} : Ok .none sc .none
  | bool {sc b k p} : Ok (.bool b) sc (.e (.Constant (.bool b) k p))
  | tt {sc} : Ok (.bool true) sc (.cond [])
  | int {sc i k p} : Ok (.int i) sc (.e (.Constant (.int i) k p))
  | str {sc k p} {s : Str} : (decide (s.length ≤ sizeLine) && PyData.strOk s) = true → Ok (.str s) sc (.e (.Constant (.str s) k p))
  | var {sc x p} : (goodName x && sc.names.lookup x == some .local) = true → Ok (.var x) sc (.e (.Name x p))
  | cv {sc x p} : (goodName x && (sc.names.lookup x == some .cell || sc.names.lookup x == some .free)) = true → Ok (.cv x) sc (.e (.Name x p))
  | glob {sc x p} : (goodName x && sc.names.lookup x == some .globalImplicit) = true → Ok (.glob x) sc (.e (.Name x p))
  | bin {sc op a b l r p} : Ok a sc (.e l) → Ok b sc (.e r) → Ok (.bin op a b) sc (.e (.BinOp l op r p))
  | neg {sc a e p} : Ok a sc (.e e) → Ok (.neg a) sc (.e (.UnaryOp .USub e p))
  | not {sc a e p} : Ok a sc (.e e) → Ok (.not a) sc (.e (.UnaryOp .Not e p))
  | cmp {sc op a b l r p} : Ok a sc (.e l) → Ok b sc (.e r) → behindInMarks op r = false → Ok (.cmp op a b) sc (.e (.Compare l [op] [r] p))
  | cmp2 {sc o₁ o₂ a b c l r₁ r₂ p} : Ok a sc (.e l) → Ok b sc (.e r₁) → Ok c sc (.e r₂) → behindInMarks o₂ r₂ = false → Ok (.cmp2 o₁ o₂ a b c) sc (.e (.Compare l [o₁, o₂] [r₁, r₂] p))
  | and {sc a b e es p} : Ok a sc (.e e) → Ok b sc (.ofAnd es) → Ok (.and a b) sc (.e (.BoolOp .And (e :: es) p))
  | and' {sc a b e es} : Ok a sc (.e e) → Ok b sc (.ofAnd es) → Ok (.and a b) sc (.an (e :: es))
  | or {sc a b e es p} : Ok a sc (.e e) → Ok b sc (.ofOr es) → Ok (.or a b) sc (.e (.BoolOp .Or (e :: es) p))
  | or' {sc a b e es} : Ok a sc (.e e) → Ok b sc (.ofOr es) → Ok (.or a b) sc (.or (e :: es))
  | ite {sc c a b t x y p} : Ok c sc (.e t) → Ok a sc (.e x) → Ok b sc (.e y) → Ok (.ite c a b) sc (.e (.IfExp t x y p))
  | idx {sc a i v sl p} : Ok a sc (.e v) → Ok i sc (.e sl) → isSlice sl = false → Ok (.idx a i) sc (.e (.Subscript v sl p))
  | slc {sc a lo hi v l h p q} : Ok a sc (.e v) → Ok lo sc (.ofO l) → Ok hi sc (.ofO h) → Ok (.slc a lo hi) sc (.e (.Subscript v (.Slice l h Option.none q) p))
  | attr {sc o f e p} : Ok o sc (.e e) → noSuper e = true → Ok (.attr o f) sc (.e (.Attribute e f p))
  | list {sc es l p} : Ok es sc (.es l) → Ok (.list es) sc (.e (.List l p))
  | tup {sc es l k p} : Ok es sc (.es l) → Ok (.tup es) sc (.e (.Tuple l k p))
  | nil {sc} : Ok .nil sc (.es [])
  | cons {sc a b e r} : Ok a sc (.e e) → Ok b sc (.es r) → isStar e = false → Ok (.cons a b) sc (.es (e :: r))
  | call {sc f as n p l q} : Ok f sc (.e (.Name n p)) → Ok as sc (.es l) → Ok (.call f as) sc (.e (.Call (.Name n p) l [] q))
  | meth {sc o m as e ap l q} : Ok o sc (.e e) → Ok as sc (.es l) → noSuper e = true → (decide (l.length < 30) && ap.endLine == q.line) = true → Ok (.meth o m as) sc (.e (.Call (.Attribute e m ap) l [] q))
  | comp {sc elt x it cond e yp i ifs cs p} : Ok it sc (.e i) → Ok elt cs (.e e) → Ok cond cs (.ofCond ifs) → okScope x sc cs = true → isSetE i = false → Ok (.comp elt x it cond) sc (.e (.ListComp e [⟨.Name x yp, i, ifs, 0⟩] cs p))
  | unk {sc e} : Ok .unk sc (.e e)

set_option genSizeOfSpec false in
set_option genInjectivity false in
inductive Pt where
  | s (x : Stmt)
  | l (x : List Stmt)
inductive TieS : S → Scope → Pt → Prop
  | skip {sc p} : TieS .skip sc (.s (.Pass p))
  | brk {sc p} : TieS .brk sc (.s (.Break p))
  | cont {sc p} : TieS .cont sc (.s (.Continue p))
  | expr {sc e v p} : Ok e sc (.e v) → isCompE v = false → TieS (.expr e) sc (.s (.Expr v p))
  | asg {sc x e q v p} : sc.names.lookup x = some .local → Ok e sc (.e v) → isCompE v = false → TieS (.asg x e) sc (.s (.Assign [.Name x q] v p))
  | asgL {sc x elt y it cond q e yp i ifs cs lp p} : sc.names.lookup x = some .local → Ok it sc (.e i) → Ok elt cs (.e e) → Ok cond cs (.ofCond ifs) → okScope y sc cs = true → isSetE i = false → TieS (.asg x (.comp elt y it cond)) sc (.s (.Assign [.Name x q] (.ListComp e [⟨.Name y yp, i, ifs, 0⟩] cs lp) p))
  | asgC {sc x e q v p} : sc.names.lookup x = some .cell → Ok e sc (.e v) → isCompE v = false → TieS (.asgC x e) sc (.s (.Assign [.Name x q] v p))
  | asgCL {sc x elt y it cond q e yp i ifs cs lp p} : sc.names.lookup x = some .cell → Ok it sc (.e i) → Ok elt cs (.e e) → Ok cond cs (.ofCond ifs) → okScope y sc cs = true → isSetE i = false → TieS (.asgC x (.comp elt y it cond)) sc (.s (.Assign [.Name x q] (.ListComp e [⟨.Name y yp, i, ifs, 0⟩] cs lp) p))
  | own {sc x e q l p r} : sc.names.lookup x = some .local → Ok e sc (.es l) → TieS (.own x (.list e)) sc (.s (.Assign [.Name x q] (.List l r) p))
  | ownL {sc x elt y it cond q e yp i ifs cs lp p} : sc.names.lookup x = some .local → Ok it sc (.e i) → Ok elt cs (.e e) → Ok cond cs (.ofCond ifs) → okScope y sc cs = true → isSetE i = false → TieS (.own x (.comp elt y it cond)) sc (.s (.Assign [.Name x q] (.ListComp e [⟨.Name y yp, i, ifs, 0⟩] cs lp) p))
  | ownC {sc x e q l p r} : sc.names.lookup x = some .cell → Ok e sc (.es l) → TieS (.ownC x (.list e)) sc (.s (.Assign [.Name x q] (.List l r) p))
  | ownCL {sc x elt y it cond q e yp i ifs cs lp p} : sc.names.lookup x = some .cell → Ok it sc (.e i) → Ok elt cs (.e e) → Ok cond cs (.ofCond ifs) → okScope y sc cs = true → isSetE i = false → TieS (.ownC x (.comp elt y it cond)) sc (.s (.Assign [.Name x q] (.ListComp e [⟨.Name y yp, i, ifs, 0⟩] cs lp) p))
  | setA {sc o f e t q v p} : Ok o sc (.e t) → Ok e sc (.e v) → isCompE v = false → TieS (.setA o f e) sc (.s (.Assign [.Attribute t f q] v p))
  | aug {sc x e q v p} : sc.names.lookup x = some .local → Ok e sc (.e v) → TieS (.aug x .Add e) sc (.s (.AugAssign (.Name x q) .Add v p))
  | ret {sc e v p} : Ok e sc (.e v) → TieS (.ret e) sc (.s (.Return (some v) p))
  | ret0 {sc p} : TieS .ret0 sc (.s (.Return Option.none p))
  | ite {sc c a b t x y p} : Ok c sc (.e t) → TieS a sc (.l x) → TieS b sc (.l y) → TieS (.ite c a b) sc (.s (.If t x y p))
  | loop {sc n c b o t x y p} : Ok c sc (.e t) → TieS b sc (.l x) → TieS o sc (.l y) → TieS (.loop n c b o) sc (.s (.While t x y p))
  | each {sc x it b q i z p} : sc.names.lookup x = some .local → Ok it sc (.e i) → TieS b sc (.l z) → isSetE i = false → TieS (.each x it b) sc (.s (.For (.Name x q) i z [] p))
  | assert {sc e t p} : Ok e sc (.e t) → TieS (.assert e) sc (.s (.Assert t Option.none p))
  | try1 {sc b c h x px y₀ y ph p} : TieS b sc (.l x) → TieS h sc (.l (y₀ :: y)) → sc.names.lookup c = some .globalImplicit → TieS (.try1 b c h) sc (.s (.Try x [.ExceptHandler (some (.Name c px)) Option.none (y₀ :: y) ph] [] [] p))
  | try2 {sc b c h c₂ h₂ x px y₀ y ph px₂ z₀ z ph₂ p} : TieS b sc (.l x) → TieS h sc (.l (y₀ :: y)) → TieS h₂ sc (.l (z₀ :: z)) → sc.names.lookup c = some .globalImplicit → sc.names.lookup c₂ = some .globalImplicit →
      TieS (.try2 b c h c₂ h₂) sc (.s (.Try x [.ExceptHandler (some (.Name c px)) Option.none (y₀ :: y) ph, .ExceptHandler (some (.Name c₂ px₂)) Option.none (z₀ :: z) ph₂] [] [] p))
  | nil {sc} : TieS .nil sc (.l [])
  | seq {sc a b x r} : TieS a sc (.s x) → TieS b sc (.l r) → TieS (.seq a b) sc (.l (x :: r))
  | unk {sc x} : TieS .unk sc (.s x)
end Mine
end
section
set_option Elab.async false
set_option linter.all false
set_option maxRecDepth 100000
namespace Mine
open PySem PySem.W PyProof.Rows

/-! ## abstract values and objects -/
inductive V where
  | none
  | bool (b : Bool)
  | int (i : Int)
  | str (s : Str)
  | list (xs : List V)
  | tup (xs : List V)
  | ref (k : Nat)
  | rng (a b c : Int)
  | top (v : Value)
  deriving Inhabited

inductive O where
  | list (xs : List V)
  | inst (C : Addr) (d : Nat)
  | dict (fs : List (Str × V))
  | cell (v : Option V)
  deriving Inhabited

/-- where the owned objects lie, and the objects that stay as they are -/
structure Wd where
  ρ : Nat → Nat
  fz : Nat → Option Obj

mutual
inductive VR (W : Wd) (n : Nat) : V → Value → Prop
  | none : VR W n .none .none
  | bool (b : Bool) : VR W n (.bool b) (.bool b)
  | int (i : Int) (t : Tok) : VR W n (.int i) (.int i t)
  | str (s : Str) (t : Tok) : s.length ≤ sizeLine → PyData.strOk s = true → VR W n (.str s) (.str s t)
  | list {a : Addr} {o : Obj} {items : Array Value} {e : Nat} {xs : List V} : W.fz a = some o → o.cls = .type "list" → o.data = .seq items e → items.size ≤ sizeLine → VRs W n xs items.toList → VR W n (.list xs) (.ref a)
  | tup {a : Addr} {o : Obj} {items : Array Value} {e : Nat} {xs : List V} : W.fz a = some o → o.cls = .type "tuple" → o.data = .seq items e → items.size ≤ sizeLine → VRs W n xs items.toList → VR W n (.tup xs) (.ref a)
  | ref {k : Nat} : k < n → VR W n (.ref k) (.ref (W.ρ k))
  | rng {r : Nat} {a b c : Int} {t u v : Tok} : W.fz r = some { cls := .type "range", dict := Option.none, data := .fields #[.int a t, .int b u, .int c v], slots := #[] } → Builtin.Range.small a b c = true → VR W n (.rng a b c) (.ref r)
  | top (v : Value) : VR W n (.top v) v
inductive VRs (W : Wd) (n : Nat) : List V → List Value → Prop
  | nil : VRs W n [] []
  | cons {x : V} {c : Value} {xs : List V} {cs : List Value} : VR W n x c → VRs W n xs cs → VRs W n (x :: xs) (c :: cs)
end

structure Wle (n : Nat) (W W' : Wd) : Prop where
  ρ : ∀ k, k < n → W'.ρ k = W.ρ k
  fz : ∀ a c, W.fz a = some c → W'.fz a = some c

theorem Wle.refl (n : Nat) (W : Wd) : Wle n W W := ⟨fun _ _ => rfl, fun _ _ e => e⟩
theorem Wle.trans {n n' : Nat} {W W' W'' : Wd} (a : Wle n W W') (hn : n ≤ n') (b : Wle n' W' W'') : Wle n W W'' :=
  ⟨fun k hk => (b.ρ k (Nat.lt_of_lt_of_le hk hn)).trans (a.ρ k hk), fun x c e => b.fz x c (a.fz x c e)⟩

mutual
theorem VR.mono {W W' : Wd} {n n' : Nat} (l : Wle n W W') (hn : n ≤ n') : ∀ {v : V} {c : Value}, VR W n v c → VR W' n' v c
  | _, _, .none => .none
  | _, _, .bool b => .bool b
  | _, _, .int i t => .int i t
  | _, _, .str s t h o => .str s t h o
  | _, _, .list a b c s d => .list (l.fz _ _ a) b c s (VRs.mono l hn d)
  | _, _, .tup a b c s d => .tup (l.fz _ _ a) b c s (VRs.mono l hn d)
  | _, _, .ref (k := k) h => by rw [← l.ρ k h]; exact .ref (Nat.lt_of_lt_of_le h hn)
  | _, _, .rng a b => .rng (l.fz _ _ a) b
  | _, _, .top v => .top v
theorem VRs.mono {W W' : Wd} {n n' : Nat} (l : Wle n W W') (hn : n ≤ n') : ∀ {v : List V} {c : List Value}, VRs W n v c → VRs W' n' v c
  | _, _, .nil => .nil
  | _, _, .cons a b => .cons (VR.mono l hn a) (VRs.mono l hn b)
end

theorem VRs.length {W : Wd} {n : Nat} : ∀ {xs : List V} {cs : List Value}, VRs W n xs cs → cs.length = xs.length
  | _, _, .nil => rfl
  | _, _, .cons _ b => by simp [b.length]
theorem VRs.get {W : Wd} {n : Nat} : ∀ {xs : List V} {cs : List Value}, VRs W n xs cs → ∀ {i : Nat} {x : V}, xs[i]? = some x → ∃ c, cs[i]? = some c ∧ VR W n x c
  | _, _, .nil, i, x, e => by simp at e
  | _, _, .cons a b, 0, x, e => by simp at e; subst e; exact ⟨_, rfl, a⟩
  | _, _, .cons a b, i + 1, x, e => by
    simp only [List.getElem?_cons_succ] at e
    obtain ⟨c, h, r⟩ := b.get e
    exact ⟨c, by simpa using h, r⟩
theorem VRs.append {W : Wd} {n : Nat} : ∀ {xs ys : List V} {cs ds : List Value}, VRs W n xs cs → VRs W n ys ds → VRs W n (xs ++ ys) (cs ++ ds)
  | _, _, _, _, .nil, b => b
  | _, _, _, _, .cons a r, b => .cons a (r.append b)
theorem VRs.drop {W : Wd} {n : Nat} : ∀ {xs : List V} {cs : List Value} (i : Nat), VRs W n xs cs → VRs W n (xs.drop i) (cs.drop i)
  | _, _, 0, h => by simpa using h
  | _, _, i + 1, .nil => by simpa using VRs.nil
  | _, _, i + 1, .cons _ b => by simpa using b.drop i
theorem VRs.take {W : Wd} {n : Nat} : ∀ {xs : List V} {cs : List Value} (i : Nat), VRs W n xs cs → VRs W n (xs.take i) (cs.take i)
  | _, _, 0, h => by simpa using VRs.nil
  | _, _, i + 1, .nil => by simpa using VRs.nil
  | _, _, i + 1, .cons a b => by simpa using VRs.cons a (b.take i)
theorem VRs.reverse {W : Wd} {n : Nat} : ∀ {xs : List V} {cs : List Value}, VRs W n xs cs → VRs W n xs.reverse cs.reverse
  | _, _, .nil => by simpa using VRs.nil
  | _, _, .cons a b => by simpa using b.reverse.append (.cons a .nil)
theorem VRs.set {W : Wd} {n : Nat} : ∀ {xs : List V} {cs : List Value} (i : Nat) {x : V} {c : Value}, VRs W n xs cs → VR W n x c → VRs W n (xs.set i x) (cs.set i c)
  | _, _, _, _, _, .nil, _ => by simpa using VRs.nil
  | _, _, 0, _, _, .cons _ b, h => by simpa using VRs.cons h b
  | _, _, i + 1, _, _, .cons a b, h => by simpa using VRs.cons a (b.set i h)

/-- the dict of an instance: its entries under written names -/
inductive FR (W : Wd) (n : Nat) : List (Str × V) → List DictEntry → Prop
  | nil : FR W n [] []
  | cons {x : Str} {v : V} {c : Value} {hsh : Int} {t : Tok} {fs : List (Str × V)} {es : List DictEntry} : VR W n v c → FR W n fs es → FR W n ((x, v) :: fs) (⟨hsh, .str x t, c⟩ :: es)
theorem FR.mono {W W' : Wd} {n n' : Nat} (l : Wle n W W') (hn : n ≤ n') : ∀ {v : List (Str × V)} {c : List DictEntry}, FR W n v c → FR W' n' v c
  | _, _, .nil => .nil
  | _, _, .cons a b => .cons (a.mono l hn) (b.mono l hn)

inductive OR (W : Wd) (n : Nat) : O → Obj → Prop
  | list {items : Array Value} {e : Nat} {xs : List V} : VRs W n xs items.toList → items.size ≤ sizeLine → OR W n (.list xs) (listOf items e)
  | inst {C : Addr} {d : Nat} : d < n → OR W n (.inst C d) (instObj C (W.ρ d))
  | dict {fs : List (Str × V)} {es : List DictEntry} {e : Nat} : FR W n fs es → OR W n (.dict fs) (dictOf es e)
  | cell {o : Obj} {v : V} {c : Value} : o.data = .cell (some c) → VR W n v c → OR W n (.cell (some v)) o
  | nocell {o : Obj} : o.data = .cell .none → OR W n (.cell .none) o

theorem OR.mono {W W' : Wd} {n n' : Nat} (l : Wle n W W') (hn : n ≤ n') {o : O} {c : Obj} (h : OR W n o c) : OR W' n' o c := by
  cases h with
  | list d z => exact .list (d.mono l hn) z
  | inst h => rw [← l.ρ _ h]; exact .inst (Nat.lt_of_lt_of_le h hn)
  | dict h => exact .dict (h.mono l hn)
  | cell h r => exact .cell h (r.mono l hn)
  | nocell h => exact .nocell h
theorem OR.unfreed {W : Wd} {n : Nat} {o : O} {c : Obj} (h : OR W n o c) : c.isFreed = false := by
  cases h with
  | list d z => rfl
  | inst h => rfl
  | dict h => rfl
  | cell h r => obtain ⟨c, d, dt, sl⟩ := c; simp only at h; subst h; rfl
  | nocell h => obtain ⟨c, d, dt, sl⟩ := c; simp only at h; subst h; rfl

/-- the abstract state: locals, cells (by name), owned objects -/
structure Hp where
  obj : Nat → Option O
  nxt : Nat
structure St extends Hp where
  loc : List (Str × V)
  cel : List (Str × Nat) := []

structure Par where
  prog : Program
  w : World
  B : Heap
  os : OsState
abbrev Par.M (P : Par) : Model := model P.prog P.w

structure Inv (P : Par) (fr : List Nat) (W : Wd) (σ : Hp) (s : Shared) : Prop where
  keep : ∀ b o, P.B.get? b = some o → s.heap.get? b = some o
  old : ∀ k, k < σ.nxt → P.B.get? (W.ρ k) = none
  live : ∀ k, k < σ.nxt → ∃ o, s.heap.get? (W.ρ k) = some o
  nofr : ∀ k, k < σ.nxt → W.ρ k ∉ fr
  nofz : ∀ k, k < σ.nxt → W.fz (W.ρ k) = none
  inj : ∀ i j, i < σ.nxt → j < σ.nxt → W.ρ i = W.ρ j → i = j
  obj : ∀ k o, σ.obj k = some o → k < σ.nxt ∧ ∃ c, s.heap.get? (W.ρ k) = some c ∧ OR W σ.nxt o c
  frz : ∀ (a : Nat) c, W.fz a = some c → s.heap.get? a = some c ∧ a ∉ fr
  frB : ∀ a ∈ fr, P.B.get? a = none ∧ ∃ o, s.heap.get? a = some o ∧ ∀ vs, o.data ≠ .fields vs
  gens : s.gens = #[]
  os : s.os = P.os

structure Loc (env : Env) (W : Wd) (σ : St) (h : Heap) : Prop where
  kind : env.scope.kind = .function
  glob : env.globals = mainGlobals
  bns : env.builtins = builtinsNs
  loc : ∃ m, h.Ns env.locals m ∧ ∀ x v, σ.loc.lookup x = some v → env.kindOf x = some .local ∧ ∃ c, m x = some c ∧ VR W σ.nxt v c
  cel : ∀ x k, σ.cel.lookup x = some k → k < σ.nxt ∧ ((env.kindOf x = some .cell ∨ env.kindOf x = some .free) → env.cells.lookup x = some (W.ρ k))

structure Nx (fr : List Nat) (L : Nat) (W : Wd) (n : Nat) (h : Heap) (W' : Wd) (n' : Nat) (h' : Heap) : Prop where
  wle : Wle n W W'
  le : n ≤ n'
  live : ∀ a o, h.get? a = some o → ∃ o', h'.get? a = some o'
  new : ∀ k, n ≤ k → k < n' → h.get? (W'.ρ k) = none
  fzn : ∀ a c, W'.fz a = some c → W.fz a = some c ∨ h.get? a = none
  ext : ∀ (a : Nat) o, h.get? a = some o → a ≠ L → a ∉ fr → (∀ k, k < n → W.ρ k ≠ a) → h'.get? a = some o
  fext : ∀ (a : Nat) o, a ∈ fr → a ≠ L → h.get? a = some o → ∃ o', h'.get? a = some o' ∧ o'.data = o.data

theorem Nx.refl (fr : List Nat) (L : Nat) (W : Wd) (n : Nat) (h : Heap) : Nx fr L W n h W n h :=
  ⟨.refl n W, Nat.le_refl _, fun _ o e => ⟨o, e⟩, fun _ a b => absurd b (Nat.not_lt.mpr a), fun _ _ e => .inl e, fun _ _ e _ _ _ => e, fun _ o _ _ e => ⟨o, e, rfl⟩⟩
theorem Nx.trans {fr : List Nat} {L : Nat} {W W' W'' : Wd} {n n' n'' : Nat} {h h' h'' : Heap} (a : Nx fr L W n h W' n' h') (b : Nx fr L W' n' h' W'' n'' h'') : Nx fr L W n h W'' n'' h'' where
  wle := a.wle.trans a.le b.wle
  le := Nat.le_trans a.le b.le
  live := fun x o e => let ⟨o', e'⟩ := a.live x o e; b.live x o' e'
  new := fun k h1 h2 => by
    by_cases hk : k < n'
    · rw [b.wle.ρ k hk]; exact a.new k h1 hk
    · cases q : h.get? (W''.ρ k) with
      | none => rfl
      | some o => obtain ⟨o', e'⟩ := a.live _ _ q; rw [b.new k (Nat.not_lt.mp hk) h2] at e'; cases e'
  fzn := fun x c e => by
    rcases b.fzn x c e with q | q
    · exact a.fzn x c q
    · right
      cases hq : h.get? x with
      | none => rfl
      | some o => obtain ⟨o', e'⟩ := a.live _ _ hq; rw [q] at e'; cases e'
  ext := fun x o e h1 h0 h2 => b.ext x o (a.ext x o e h1 h0 h2) h1 h0 fun k hk q => by
    by_cases hn : k < n
    · rw [a.wle.ρ k hn] at q; exact h2 k hn q
    · have := a.new k (Nat.not_lt.mp hn) hk
      rw [q, e] at this; cases this
  fext := fun x o h1 h2 e => by
    obtain ⟨o', e', d'⟩ := a.fext x o h1 h2 e
    obtain ⟨o'', e'', d''⟩ := b.fext x o' h1 h2 e'
    exact ⟨o'', e'', d''.trans d'⟩
/-- nothing that stood is changed -/
theorem Nx.keeps {fr : List Nat} {L : Nat} {W W' : Wd} {n n' : Nat} {h h' : Heap} (wl : Wle n W W') (le : n ≤ n') (hk : ∀ b o, h.get? b = some o → h'.get? b = some o) (new : ∀ k, n ≤ k → k < n' → h.get? (W'.ρ k) = none) (fzn : ∀ a c, W'.fz a = some c → W.fz a = some c ∨ h.get? a = none) : Nx fr L W n h W' n' h' :=
  ⟨wl, le, fun _ o e => ⟨o, hk _ _ e⟩, new, fzn, fun _ _ e _ _ _ => hk _ _ e, fun _ o _ _ e => ⟨o, hk _ _ e, rfl⟩⟩

structure Step (P : Par) (fr : List Nat) (env : Env) (W : Wd) (σ : St) (s : Shared) (W' : Wd) (σ' : St) (s' : Shared) : Prop where
  nx : Nx fr env.locals W σ.nxt s.heap W' σ'.nxt s'.heap
  inv : Inv P fr W' σ'.toHp s'
  loc : Loc env W' σ' s'.heap

theorem Step.trans {P : Par} {fr : List Nat} {env : Env} {W W' W'' : Wd} {σ σ' σ'' : St} {s s' s'' : Shared} (a : Step P fr env W σ s W' σ' s') (b : Step P fr env W' σ' s' W'' σ'' s'') : Step P fr env W σ s W'' σ'' s'' :=
  ⟨a.nx.trans b.nx, b.inv, b.loc⟩

section
variable {P : Par} {fr : List Nat} {env : Env} {W : Wd} {σ : St} {s : Shared}

theorem Inv.toks (I : Inv P fr W σ.toHp s) (t : Nat) : Inv P fr W σ.toHp { s with toks := t } :=
  ⟨I.keep, I.old, I.live, I.nofr, I.nofz, I.inj, I.obj, I.frz, I.frB, I.gens, I.os⟩
theorem Step.toks (I : Inv P fr W σ.toHp s) (L : Loc env W σ s.heap) (t : Nat) : Step P fr env W σ s W σ { s with toks := t } :=
  ⟨.refl .., I.toks t, L⟩
theorem Step.refl (I : Inv P fr W σ.toHp s) (L : Loc env W σ s.heap) : Step P fr env W σ s W σ s := ⟨.refl .., I, L⟩

/-- the heap grows, and what stood stands -/
theorem Inv.grow (I : Inv P fr W σ.toHp s) {s' : Shared} (hk : ∀ b o, s.heap.get? b = some o → s'.heap.get? b = some o) (hg : s'.gens = s.gens) (ho : s'.os = s.os) : Inv P fr W σ.toHp s' where
  keep := fun b o e => hk _ _ (I.keep b o e)
  old := I.old
  live := fun k h => let ⟨o, e⟩ := I.live k h; ⟨o, hk _ _ e⟩
  nofr := I.nofr
  nofz := I.nofz
  inj := I.inj
  obj := fun k o e => let ⟨a, c, b, d⟩ := I.obj k o e; ⟨a, c, hk _ _ b, d⟩
  frz := fun a c e => ⟨hk _ _ (I.frz a c e).1, (I.frz a c e).2⟩
  frB := fun a h => ⟨(I.frB a h).1, let ⟨o, e, d⟩ := (I.frB a h).2; ⟨o, hk _ _ e, d⟩⟩
  gens := hg.trans I.gens
  os := ho.trans I.os
theorem Loc.grow (L : Loc env W σ s.heap) {h' : Heap} (hk : ∀ b o, s.heap.get? b = some o → h'.get? b = some o) : Loc env W σ h' :=
  ⟨L.kind, L.glob, L.bns, let ⟨m, a, b⟩ := L.loc; ⟨m, a.keeps hk, b⟩, L.cel⟩
theorem Step.grow (I : Inv P fr W σ.toHp s) (L : Loc env W σ s.heap) {s' : Shared} (hk : ∀ b o, s.heap.get? b = some o → s'.heap.get? b = some o) (hg : s'.gens = s.gens) (ho : s'.os = s.os) :
    Step P fr env W σ s W σ s' :=
  ⟨.keeps (.refl ..) (Nat.le_refl _) hk (fun _ a b => absurd b (Nat.not_lt.mpr a)) (fun _ _ e => .inl e), I.grow hk hg ho, L.grow hk⟩
theorem Step.push (I : Inv P fr W σ.toHp s) (L : Loc env W σ s.heap) (o : Obj) {s' : Shared} (e : s'.heap = s.heap.push o) (hg : s'.gens = s.gens) (ho : s'.os = s.os) : Step P fr env W σ s W σ s' :=
  Step.grow I L (fun _ _ x => e ▸ Heap.get?_push_of_some _ x) hg ho

/-- a new object that stays as it is -/
noncomputable def Wd.freeze (W : Wd) (a : Nat) (o : Obj) : Wd := { W with fz := fun b => if b = a then some o else W.fz b }
theorem Step.freezeAt (I : Inv P fr W σ.toHp s) (L : Loc env W σ s.heap) (o : Obj) (a : Nat) (hn : s.heap.get? a = none) {s' : Shared} (hk : ∀ b o', s.heap.get? b = some o' → s'.heap.get? b = some o') (ha : s'.heap.get? a = some o) (hg : s'.gens = s.gens) (ho : s'.os = s.os) :
    Step P fr env W σ s (W.freeze a o) σ s' := by
  have hfz : ∀ b c, W.fz b = some c → (W.freeze a o).fz b = some c := fun b c h => by
    show (if b = a then some o else W.fz b) = some c
    rw [if_neg]; exact h
    rintro rfl; have := (I.frz _ _ h).1; rw [hn] at this; cases this
  have wl : Wle σ.nxt W (W.freeze a o) := ⟨fun _ _ => rfl, hfz⟩
  have J := I.grow hk hg ho
  refine ⟨.keeps wl (Nat.le_refl _) hk (fun _ a b => absurd b (Nat.not_lt.mpr a)) (fun b c e => ?_), ⟨J.keep, J.old, J.live, J.nofr, fun k h => ?_, J.inj, fun k o' h => ?_, fun b c h => ?_, J.frB, J.gens, J.os⟩, ?_⟩
  · by_cases hb : b = a
    · subst hb; exact .inr hn
    · have e' : (if b = a then some o else W.fz b) = some c := e
      rw [if_neg hb] at e'; exact .inl e'
  · show (if W.ρ k = a then some o else W.fz (W.ρ k)) = none
    rw [if_neg]; exact I.nofz k h
    rintro rfl; obtain ⟨o', e'⟩ := I.live k h; rw [hn] at e'; cases e'
  · obtain ⟨a, c, b, d⟩ := J.obj k o' h; exact ⟨a, c, b, d.mono wl (Nat.le_refl _)⟩
  · by_cases hb : b = a
    · subst hb
      have h' : (if b = b then some o else W.fz b) = some c := h
      rw [if_pos rfl] at h'; cases h'
      refine ⟨ha, fun hm => ?_⟩
      obtain ⟨o', e', _⟩ := (I.frB _ hm).2; rw [hn] at e'; cases e'
    · have h' : (if b = a then some o else W.fz b) = some c := h
      rw [if_neg hb] at h'
      exact J.frz b c h'
  · have J' := L.grow hk
    exact ⟨J'.kind, J'.glob, J'.bns, let ⟨m, a, b⟩ := J'.loc; ⟨m, a, fun x v h => let ⟨p, c, q, r⟩ := b x v h; ⟨p, c, q, r.mono wl (Nat.le_refl _)⟩⟩, J'.cel⟩
theorem size_new (h : Heap) : h.get? h.objs.size = none := Heap.get?_none_of_le (Nat.le_refl _)
theorem Step.freeze (I : Inv P fr W σ.toHp s) (L : Loc env W σ s.heap) (o : Obj) (hf : o.isFreed = false) {s' : Shared} (e : s'.heap = s.heap.push o) (hg : s'.gens = s.gens) (ho : s'.os = s.os) :
    Step P fr env W σ s (W.freeze s.heap.objs.size o) σ s' :=
  Step.freezeAt I L o _ (size_new _) (fun _ _ x => e ▸ Heap.get?_push_of_some _ x) (e ▸ Heap.get?_push_size _ hf) hg ho

/-- a new owned object -/
noncomputable def Wd.add (W : Wd) (n : Nat) (a : Nat) : Wd := { W with ρ := fun k => if k = n then a else W.ρ k }
noncomputable def St.add (σ : St) (o : O) : St := { σ with obj := fun k => if k = σ.nxt then some o else σ.obj k, nxt := σ.nxt + 1 }
theorem Wd.add_le (W : Wd) (n : Nat) (a : Nat) : Wle n W (W.add n a) :=
  ⟨fun k h => by show (if k = n then a else W.ρ k) = W.ρ k; rw [if_neg (Nat.ne_of_lt h)], fun _ _ e => e⟩
theorem Step.addAt (I : Inv P fr W σ.toHp s) (L : Loc env W σ s.heap) (o : O) (c : Obj) (a : Nat) (hn : s.heap.get? a = none) (hr : OR (W.add σ.nxt a) (σ.nxt + 1) o c) {s' : Shared} (hk : ∀ b o', s.heap.get? b = some o' → s'.heap.get? b = some o') (ha : s'.heap.get? a = some c) (hg : s'.gens = s.gens) (ho : s'.os = s.os) :
    Step P fr env W σ s (W.add σ.nxt a) (σ.add o) s' := by
  have wl := W.add_le σ.nxt a
  have J := I.grow hk hg ho
  have ρn : (W.add σ.nxt a).ρ σ.nxt = a := by show (if σ.nxt = σ.nxt then _ else _) = _; rw [if_pos rfl]
  have hlt : ∀ k, k < σ.nxt + 1 → k = σ.nxt ∨ (k < σ.nxt ∧ (W.add σ.nxt a).ρ k = W.ρ k) := fun k h => by
    rcases Nat.lt_succ_iff_lt_or_eq.mp h with h | h
    · exact .inr ⟨h, wl.ρ k h⟩
    · exact .inl h
  refine ⟨.keeps wl (Nat.le_succ _) hk (fun k a' b => ?_) (fun _ _ e => .inl e), ⟨J.keep, fun k h => ?_, fun k h => ?_, fun k h => ?_, fun k h => ?_, fun i j hi hj h => ?_, fun k o' h => ?_, fun a c h => J.frz a c h, J.frB, J.gens, J.os⟩, ?_⟩
  · rcases hlt k b with rfl | ⟨q, _⟩
    · rw [ρn]; exact hn
    · exact absurd q (Nat.not_lt.mpr a')
  · rcases hlt k h with rfl | ⟨q, r⟩
    · rw [ρn]
      cases hq : P.B.get? a with
      | none => rfl
      | some o => have := I.keep _ _ hq; rw [hn] at this; cases this
    · rw [r]; exact I.old k q
  · rcases hlt k h with rfl | ⟨q, r⟩
    · rw [ρn]; exact ⟨_, ha⟩
    · rw [r]; exact J.live k q
  · rcases hlt k h with rfl | ⟨q, r⟩
    · rw [ρn]; intro hm; obtain ⟨o', e', _⟩ := (I.frB _ hm).2; rw [hn] at e'; cases e'
    · rw [r]; exact I.nofr k q
  · rcases hlt k h with rfl | ⟨q, r⟩
    · rw [ρn]
      show W.fz _ = none
      cases hq : W.fz a with
      | none => rfl
      | some o => have := (I.frz _ _ hq).1; rw [hn] at this; cases this
    · rw [r]; exact I.nofz k q
  · rcases hlt i hi with rfl | ⟨q, r⟩ <;> rcases hlt j hj with rfl | ⟨q', r'⟩
    · rfl
    · rw [ρn, r'] at h; obtain ⟨o', e'⟩ := I.live j q'; rw [← h, hn] at e'; cases e'
    · rw [ρn, r] at h; obtain ⟨o', e'⟩ := I.live i q; rw [h, hn] at e'; cases e'
    · rw [r, r'] at h; exact I.inj i j q q' h
  · have h' : (if k = σ.nxt then some o else σ.obj k) = some o' := h
    by_cases hk' : k = σ.nxt
    · subst hk'
      rw [if_pos rfl] at h'; cases h'
      exact ⟨Nat.lt_succ_self _, c, by rw [ρn]; exact ha, hr⟩
    · rw [if_neg hk'] at h'
      obtain ⟨a', c', b, d⟩ := J.obj k o' h'
      exact ⟨Nat.lt_succ_of_lt a', c', by rw [wl.ρ k a']; exact b, d.mono wl (Nat.le_succ _)⟩
  · have J' := L.grow hk
    exact ⟨J'.kind, J'.glob, J'.bns, let ⟨m, a, b⟩ := J'.loc; ⟨m, a, fun x v h => let ⟨p, c, q, r⟩ := b x v h; ⟨p, c, q, r.mono wl (Nat.le_succ _)⟩⟩,
      fun x k h => let ⟨p, q⟩ := J'.cel x k h; ⟨Nat.lt_succ_of_lt p, fun hk => by rw [wl.ρ k p]; exact q hk⟩⟩
theorem Step.add (I : Inv P fr W σ.toHp s) (L : Loc env W σ s.heap) (o : O) (c : Obj) (hr : OR (W.add σ.nxt s.heap.objs.size) (σ.nxt + 1) o c) {s' : Shared} (e : s'.heap = s.heap.push c) (hg : s'.gens = s.gens) (ho : s'.os = s.os) :
    Step P fr env W σ s (W.add σ.nxt s.heap.objs.size) (σ.add o) s' :=
  Step.addAt I L o c _ (size_new _) hr (fun _ _ x => e ▸ Heap.get?_push_of_some _ x) (e ▸ Heap.get?_push_size _ hr.unfreed) hg ho

/-- an owned object is changed -/
noncomputable def St.put (σ : St) (k : Nat) (o : O) : St := { σ with obj := fun j => if j = k then some o else σ.obj j }
theorem Step.put (I : Inv P fr W σ.toHp s) (L : Loc env W σ s.heap) {k : Nat} (hk : k < σ.nxt) (hL : env.locals ∈ fr) (o : O) {c : Obj} (hr : OR W σ.nxt o c) {s' : Shared} (hs : Heap.SameBut (W.ρ k) s.heap s'.heap) (hc : s'.heap.get? (W.ρ k) = some c) (hg : s'.gens = s.gens) (ho : s'.os = s.os) :
    Step P fr env W σ s W (σ.put k o) s' := by
  have lv : ∀ a o, s.heap.get? a = some o → ∃ o', s'.heap.get? a = some o' := fun a o e => by
    by_cases ha : a = W.ρ k
    · subst ha; exact ⟨_, hc⟩
    · exact ⟨o, (hs.2 a ha).trans e⟩
  refine ⟨⟨.refl .., Nat.le_refl _, lv, fun _ a b => absurd b (Nat.not_lt.mpr a), fun _ _ e => .inl e, fun a o' e _ _ h => (hs.2 a (Ne.symm (h k hk))).trans e, fun a o' h1 _ e => ⟨o', (hs.2 a fun q => I.nofr k hk (q ▸ h1)).trans e, rfl⟩⟩, ⟨fun b o' e => ?_, I.old, fun j h => let ⟨o, e⟩ := I.live j h; lv _ _ e, I.nofr, I.nofz, I.inj, fun j o' h => ?_, fun a c' h => ?_, fun a h => ⟨(I.frB a h).1, let ⟨o, e, d⟩ := (I.frB a h).2; ⟨o, (hs.2 a fun q => I.nofr k hk (q ▸ h)).trans e, d⟩⟩, hg.trans I.gens, ho.trans I.os⟩, ?_⟩
  · refine (hs.2 b ?_).trans (I.keep b o' e)
    rintro rfl; rw [I.old k hk] at e; cases e
  · have h' : (if j = k then some o else σ.obj j) = some o' := h
    by_cases hj : j = k
    · subst hj; rw [if_pos rfl] at h'; cases h'; exact ⟨hk, c, hc, hr⟩
    · rw [if_neg hj] at h'
      obtain ⟨a, c', b, d⟩ := I.obj j o' h'
      exact ⟨a, c', (hs.2 _ fun q => hj (I.inj j k a hk q)).trans b, d⟩
  · refine ⟨(hs.2 a ?_).trans (I.frz a c' h).1, (I.frz a c' h).2⟩
    rintro rfl; rw [I.nofz k hk] at h; cases h
  · obtain ⟨m, a, b⟩ := L.loc
    exact ⟨L.kind, L.glob, L.bns, ⟨m, a.sameBut hs fun q => I.nofr k hk (q ▸ hL), b⟩, L.cel⟩

/-- a local is stored -/
noncomputable def setL (x : Str) (v : V) (l : List (Str × V)) : List (Str × V) := (x, v) :: l
theorem lookup_setL {x y : Str} {v : V} {l : List (Str × V)} : (setL x v l).lookup y = if y = x then some v else l.lookup y := by
  unfold setL
  by_cases h : y = x
  · subst h; simp [List.lookup]
  · have : (y == x) = false := by simpa using h
    simp [List.lookup, this, h]
noncomputable def St.set (σ : St) (x : Str) (v : V) : St := { σ with loc := setL x v σ.loc }
theorem Step.set (I : Inv P fr W σ.toHp s) (L : Loc env W σ s.heap) (hL : env.locals ∈ fr) {x : Str} {v : V} {c : Value} (hv : VR W σ.nxt v c) (hx : env.kindOf x = some .local) {m : Str → Option Value} (hm : s.heap.Ns env.locals m)
    {s' : Shared} (hn : s'.heap.Ns env.locals (fun y => if y = x then some c else m y)) (hs : Heap.SameBut env.locals s.heap s'.heap) (hg : s'.gens = s.gens) (ho : s'.os = s.os) : Step P fr env W σ s W (σ.set x v) s' := by
  have lv : ∀ a o, s.heap.get? a = some o → ∃ o', s'.heap.get? a = some o' := fun a o e => by
    by_cases ha : a = env.locals
    · subst ha; obtain ⟨o', _, _, e', _⟩ := hn; exact ⟨o', e'⟩
    · exact ⟨o, (hs.2 a ha).trans e⟩
  refine ⟨⟨.refl .., Nat.le_refl _, lv, fun _ a b => absurd b (Nat.not_lt.mpr a), fun _ _ e => .inl e, fun a o' e h _ _ => (hs.2 a h).trans e, fun a o' _ h e => ⟨o', (hs.2 a h).trans e, rfl⟩⟩, ⟨fun b o' e => ?_, I.old, fun j h => let ⟨o, e⟩ := I.live j h; lv _ _ e, I.nofr, I.nofz, I.inj, fun j o' h => ?_, fun a c' h => ?_, fun a h => ⟨(I.frB a h).1, by
    by_cases ha : a = env.locals
    · subst ha; obtain ⟨o', es', ep', e', d', _⟩ := hn; exact ⟨o', e', fun vs q => by rw [d'] at q; cases q⟩
    · obtain ⟨o, e, d⟩ := (I.frB a h).2; exact ⟨o, (hs.2 a ha).trans e, d⟩⟩, hg.trans I.gens, ho.trans I.os⟩, ?_⟩
  · refine (hs.2 b ?_).trans (I.keep b o' e)
    rintro rfl; rw [(I.frB _ hL).1] at e; cases e
  · obtain ⟨a, c', b, d⟩ := I.obj j o' h
    exact ⟨a, c', (hs.2 (W.ρ j) fun q => I.nofr j a (by rw [q]; exact hL)).trans b, d⟩
  · refine ⟨(hs.2 a ?_).trans (I.frz a c' h).1, (I.frz a c' h).2⟩
    rintro rfl; exact (I.frz _ _ h).2 hL
  · obtain ⟨m', a, b⟩ := L.loc
    refine ⟨L.kind, L.glob, L.bns, ⟨_, hn, fun y u h => ?_⟩, L.cel⟩
    have h' : (setL x v σ.loc).lookup y = some u := h
    rw [lookup_setL] at h'
    by_cases hy : y = x
    · subst hy; rw [if_pos rfl] at h'; cases h'; exact ⟨hx, c, by simp, hv⟩
    · rw [if_neg hy] at h'
      obtain ⟨p, c', q, r⟩ := b y u h'
      refine ⟨p, c', ?_, r⟩
      rw [if_neg hy]
      have hmm : m' y = m y := by
        obtain ⟨o1, es1, e1, g1, d1, k1, f1⟩ := a
        obtain ⟨o2, es2, e2, g2, d2, k2, f2⟩ := hm
        rw [g1] at g2; cases g2; rw [d1] at d2; cases d2
        rw [← f1, ← f2]
      rw [← hmm]; exact q
end
end Mine
end
section
set_option Elab.async false
set_option linter.all false
set_option maxRecDepth 100000
namespace Mine
open PySem PySem.W PyProof.Rows

inductive Rs (α : Type) where
  | ok (a : α) (σ : St)
  | err (cls : String) (σ : St)
  | bad
noncomputable def Rs.bind {α β : Type} (r : Rs α) (f : α → St → Rs β) : Rs β := match r with
  | .ok a σ => f a σ
  | .err c σ => .err c σ
  | .bad => .bad

/-- an exception in flight, made since h₀: new, or with its traceback laid -/
structure ExcAt (P : Par) (fr : List Nat) (W : Wd) (n : Nat) (h₀ h : Heap) (e : Nat) (cls : String) : Prop where
  notB : P.B.get? e = none
  notFr : e ∉ fr
  notFz : W.fz e = none
  notOwn : ∀ k, k < n → W.ρ k ≠ e
  new : h₀.get? e = none
  there : ∃ ob vs, h.get? e = some ob ∧ ob.cls = .type cls ∧ ob.data = .fields vs ∧ 1 < vs.size ∧ (vs[1]? = some .none ∨
    ∃ T oT ts, vs[1]? = some (.ref T) ∧ P.B.get? T = none ∧ T ∉ fr ∧ W.fz T = none ∧ (∀ k, k < n → W.ρ k ≠ T) ∧ h₀.get? T = none ∧ T ≠ e ∧ h.get? T = some oT ∧ oT.data = .fields ts ∧ ts[3]? = some .none)
theorem ExcAt.older {P : Par} {fr : List Nat} {W : Wd} {n : Nat} {h₀ h₁ h : Heap} {e : Nat} {cls : String} (x : ExcAt P fr W n h₁ h e cls) (hl : ∀ a o, h₀.get? a = some o → ∃ o', h₁.get? a = some o') : ExcAt P fr W n h₀ h e cls := by
  have up : ∀ a, h₁.get? a = none → h₀.get? a = none := fun a ha => by
    cases q : h₀.get? a with
    | none => rfl
    | some o => obtain ⟨o', e'⟩ := hl a o q; rw [ha] at e'; cases e'
  obtain ⟨ob, vs, h1, h2, h3, h4, h5⟩ := x.there
  refine ⟨x.notB, x.notFr, x.notFz, x.notOwn, up _ x.new, ob, vs, h1, h2, h3, h4, ?_⟩
  rcases h5 with h5 | ⟨T, oT, ts, t1, t2, t3, t4, t5, t6, t7⟩
  · exact .inl h5
  · exact .inr ⟨T, oT, ts, t1, t2, t3, t4, t5, up _ t6, t7⟩

/-- what a frame's run knows of where it stands -/
structure Fm (P : Par) (cm : Bool) (lv : Nat) (fr : List Nat) (A : Around) (env : Env) : Prop where
  hL : env.locals ∈ fr
  handled : A.handled = none ∨ cm = true
  units : A.units + 20 * lv + 200 < cLine
  depth : A.depth + 10 * lv + 100 < recursionLimit
  frames : ∃ l, A.frames = some l ∧ ∀ e ∈ l, e.scope.kind ≠ .module ∧ ∃ L, e.frame = some L ∧ L ∈ fr

section
variable (P : Par) (fr : List Nat) (env : Env) (W : Wd) (σ : St) (s : Shared)
noncomputable def Post (r : Rs V) (c : Value) (s' : Shared) : Prop := ∃ v σ' W', r = .ok v σ' ∧ Step P fr env W σ s W' σ' s' ∧ VR W' σ'.nxt v c
noncomputable def EPost {α : Type} (r : Rs α) (e : Value) (s' : Shared) : Prop := ∃ cls σ' W' ea, e = .ref ea ∧ r = .err cls σ' ∧ Step P fr env W σ s W' σ' s' ∧ ExcAt P fr W' σ'.nxt s.heap s'.heap ea cls
noncomputable def PostB (r : Rs Bool) (b : Bool) (s' : Shared) : Prop := ∃ σ' W', r = .ok b σ' ∧ Step P fr env W σ s W' σ' s'
noncomputable def PostL (r : Rs (List V)) (c : List Value) (s' : Shared) : Prop := ∃ v σ' W', r = .ok v σ' ∧ Step P fr env W σ s W' σ' s' ∧ VRs W' σ'.nxt v c
end

section
variable {P : Par} {fr : List Nat} {A : Around} {env : Env} {W W' : Wd} {σ σ' : St} {s s' : Shared}

theorem Post.after {r : Rs V} {c : Value} {s'' : Shared} (a : Step P fr env W σ s W' σ' s') (b : Post P fr env W' σ' s' r c s'') : Post P fr env W σ s r c s'' :=
  let ⟨v, σ'', W'', e, st, h⟩ := b; ⟨v, σ'', W'', e, a.trans st, h⟩
theorem PostB.after {r : Rs Bool} {c : Bool} {s'' : Shared} (a : Step P fr env W σ s W' σ' s') (b : PostB P fr env W' σ' s' r c s'') : PostB P fr env W σ s r c s'' :=
  let ⟨σ'', W'', e, st⟩ := b; ⟨σ'', W'', e, a.trans st⟩
theorem PostL.after {r : Rs (List V)} {c : List Value} {s'' : Shared} (a : Step P fr env W σ s W' σ' s') (b : PostL P fr env W' σ' s' r c s'') : PostL P fr env W σ s r c s'' :=
  let ⟨v, σ'', W'', e, st, h⟩ := b; ⟨v, σ'', W'', e, a.trans st, h⟩
theorem EPost.after {α : Type} {r : Rs α} {c : Value} {s'' : Shared} (a : Step P fr env W σ s W' σ' s') (b : EPost P fr env W' σ' s' r c s'') : EPost P fr env W σ s r c s'' :=
  let ⟨v, σ'', W'', ea, e0, e, st, h⟩ := b; ⟨v, σ'', W'', ea, e0, e, a.trans st, h.older a.nx.live⟩
theorem EPost.cast {α β : Type} {r : Rs α} {r' : Rs β} {c : Value} (h : ∀ cls σ', r = .err cls σ' → r' = .err cls σ') (b : EPost P fr env W σ s r c s') : EPost P fr env W σ s r' c s' :=
  let ⟨v, σ'', W'', ea, e0, e, st, x⟩ := b; ⟨v, σ'', W'', ea, e0, h _ _ e, st, x⟩
theorem Rs.bind_err {α β : Type} {r : Rs α} {f : α → St → Rs β} {cls : String} {σ : St} (h : r = .err cls σ) : r.bind f = .err cls σ := by rw [h]; rfl
theorem Rs.bind_ok {α β : Type} {r : Rs α} {f : α → St → Rs β} {a : α} {σ : St} (h : r = .ok a σ) : r.bind f = f a σ := by rw [h]; rfl
theorem Rs.bind_ne {α β : Type} {r : Rs α} {f : α → St → Rs β} (h : r.bind f ≠ .bad) : r ≠ .bad := by rintro rfl; exact h rfl

/-- the tree t gives what f says -/
noncomputable def OkE (P : Par) (fr : List Nat) (A : Around) (env : Env) (t : Sem Value) (f : St → Rs V) : Prop :=
  ∀ W σ s, Inv P fr W σ.toHp s → Loc env W σ s.heap → f σ ≠ .bad → wpAny P.M A t (Post P fr env W σ s (f σ)) (EPost P fr env W σ s (f σ)) s
noncomputable def OkB (P : Par) (fr : List Nat) (A : Around) (env : Env) (t : Sem Bool) (f : St → Rs Bool) : Prop :=
  ∀ W σ s, Inv P fr W σ.toHp s → Loc env W σ s.heap → f σ ≠ .bad → wpAny P.M A t (PostB P fr env W σ s (f σ)) (EPost P fr env W σ s (f σ)) s
noncomputable def OkL (P : Par) (fr : List Nat) (A : Around) (env : Env) (t : Sem (List Value)) (f : St → Rs (List V)) : Prop :=
  ∀ W σ s, Inv P fr W σ.toHp s → Loc env W σ s.heap → f σ ≠ .bad → wpAny P.M A t (PostL P fr env W σ s (f σ)) (EPost P fr env W σ s (f σ)) s

/-- first t, then what its value asks -/
theorem then1 {α : Type} {t : Sem Value} {f : St → Rs V} {g : Value → Sem α} {k : V → St → Rs α'} {Q : α → Shared → Prop} {E : Value → Shared → Prop}
    (ht : OkE P fr A env t f) (I : Inv P fr W σ.toHp s) (L : Loc env W σ s.heap) (hb : (f σ).bind k ≠ .bad)
    (hE : ∀ e s', EPost P fr env W σ s ((f σ).bind k) e s' → E e s')
    (hg : ∀ v c W' σ' s', f σ = .ok v σ' → Step P fr env W σ s W' σ' s' → VR W' σ'.nxt v c → wpAny P.M A (g c) Q E s') :
    wpAny P.M A t (fun c s' => wpAny P.M A (g c) Q E s') E s :=
  wpAny_mono (ht W σ s I L (Rs.bind_ne hb)) (fun c s' ⟨v, σ', W', e, st, hv⟩ => hg v c W' σ' s' e st hv) (fun e s' h => hE e s' (h.cast fun _ _ q => Rs.bind_err q))
end
end Mine
end
section
set_option Elab.async false
set_option linter.all false
set_option maxRecDepth 100000
namespace Mine
open PySem PySem.W PyProof.Rows

/-- an operation's answer: it changes no owned object -/
inductive Ov where
  | ok (v : V)
  | err (cls : String)
  | bad
noncomputable def Ov.calm (r : Ov) (b : Bool) : Ov := match r, b with
  | .err _, true => .bad
  | r, _ => r
noncomputable def Ov.st (r : Ov) (σ : St) : Rs V := match r with
  | .ok v => .ok v σ
  | .err c => .err c σ
  | .bad => .bad

/-- the items of a list, owned or not -/
noncomputable def asList (H : Hp) : V → Option (List V)
  | .list xs => some xs
  | .ref k => (match H.obj k with | some (.list xs) => some xs | _ => Option.none)
  | _ => Option.none

noncomputable def truV (H : Hp) : V → Option Bool
  | .none => some false
  | .bool b => some b
  | .int i => some (i != 0)
  | .str s => some (s.length != 0)
  | v => (asList H v).map fun xs => !xs.isEmpty

noncomputable def intV (f : Int → Int → Ov) (a b : V) : Ov := match a with
  | .int x => (match b with | .int y => f x y | _ => .bad)
  | _ => .bad
noncomputable def catV (H : Hp) (a b : V) : Ov := match asList H a, asList H b with
  | some xs, some ys => if xs.length + ys.length ≤ sizeLine then .ok (.list (xs ++ ys)) else .bad
  | _, _ => .bad
noncomputable def addV (H : Hp) (a b : V) : Ov := match a with
  | .int x => (match b with | .int y => .ok (.int (x + y)) | _ => .bad)
  | .str x => (match b with | .str y => if x.length + y.length ≤ sizeLine then .ok (.str (x ++ y)) else .bad | _ => .bad)
  | a => catV H a b
noncomputable def binV (H : Hp) (op : Operator) (a b : V) : Ov := match op with
  | .Add => addV H a b
  | .Sub => intV (fun x y => .ok (.int (x - y))) a b
  | .Mod => intV (fun x y => if y = 0 then .bad else .ok (.int (x.fmod y))) a b
  | .FloorDiv => intV (fun x y => if y = 0 ∨ Builtin.divisionGoesByPylong x y = true then .bad else .ok (.int (x.fdiv y))) a b
  | _ => .bad

/-- plain data, to a depth -/
noncomputable def dat (H : Hp) : Nat → V → Option PyData
  | _, .none => some .none
  | _, .bool b => some (.bool b)
  | _, .int i => some (.int i)
  | _, .str s => some (.str s)
  | n + 1, .list xs => (xs.mapM (dat H n)).map .list
  | n + 1, .tup xs => (xs.mapM (dat H n)).map .tuple
  | n + 1, .ref k => (match H.obj k with | some (.list xs) => (xs.mapM (dat H n)).map .list | _ => Option.none)
  | _, _ => Option.none

noncomputable def eqB (H : Hp) (a b : V) : Option Bool := match dat H 8 a, dat H 8 b with
  | some x, some y => some (PyData.eqv x y)
  | _, _ => Option.none
noncomputable def inB (H : Hp) (a b : V) : Option Bool := match dat H 8 a, (asList H b).bind (·.mapM (dat H 8)) with
  | some d, some ds => some (ds.any fun y => PyData.eqv y d)
  | _, _ => Option.none
/-- is it None -/
noncomputable def isNoneB : V → Option Bool
  | .none => some true
  | .int _ => some false
  | .bool _ => some false
  | .str _ => some false
  | .list _ => some false
  | .ref _ => some false
  | _ => Option.none
noncomputable def isB (a b : V) : Option Bool := match b with
  | .none => isNoneB a
  | _ => Option.none
noncomputable def ordB (f : Int → Int → Bool) (a b : V) : Option Bool := match a with
  | .int x => (match b with | .int y => some (f x y) | _ => Option.none)
  | _ => Option.none
noncomputable def cmpB (H : Hp) (op : CmpOp) (a b : V) : Option Bool := match op with
  | .Eq => eqB H a b
  | .NotEq => (eqB H a b).map (!·)
  | .Lt => ordB (fun x y => decide (x < y)) a b
  | .LtE => ordB (fun x y => decide (x ≤ y)) a b
  | .Gt => ordB (fun x y => decide (x > y)) a b
  | .GtE => ordB (fun x y => decide (x ≥ y)) a b
  | .Is => isB a b
  | .IsNot => (isB a b).map (!·)
  | .In => inB H a b
  | .NotIn => (inB H a b).map (!·)
noncomputable def boolO : Option Bool → Ov
  | some b => .ok (.bool b)
  | Option.none => .bad
noncomputable def cmpV (H : Hp) (op : CmpOp) (a b : V) : Ov := boolO (cmpB H op a b)

noncomputable def negV : V → Ov
  | .int a => .ok (.int (-a))
  | _ => .bad

noncomputable def fitsIx (i : Int) : Bool := decide (-(2 ^ 63 : Int) ≤ i) && decide (i < 2 ^ 63)
noncomputable def idxV (H : Hp) (a i : V) : Ov := match i with
  | .int i => (match a with
    | .str x => if fitsIx i then (match (seqIndex? i x.length).bind (x.cps[·]?) with
      | some c => .ok (.str ⟨#[c]⟩)
      | Option.none => .err "IndexError") else .err "IndexError"
    | a => match asList H a with
      | some xs => if fitsIx i then (match (seqIndex? i xs.length).bind (xs[·]?) with
        | some v => .ok v
        | Option.none => .err "IndexError") else .bad
      | Option.none => .bad)
  | _ => .bad

noncomputable def asPart : V → Option (Option Int)
  | .none => some Option.none
  | .int i => some (some i)
  | _ => Option.none
noncomputable def cut {α : Type} (xs : List α) (lo hi : Option Int) : List α :=
  (xs.drop (lo.elim 0 (clipAt xs.length))).take (hi.elim xs.length (clipAt xs.length) - lo.elim 0 (clipAt xs.length))
noncomputable def slcV (H : Hp) (a lo hi : V) : Ov := match asPart lo, asPart hi with
  | some l, some h => (match a with
    | .str x => .ok (.str ⟨(cut x.cps.toList l h).toArray⟩)
    | a => match asList H a with
      | some xs => .ok (.list (cut xs l h))
      | Option.none => .bad)
  | _, _ => .bad

/-- what a loop over a value meets -/
noncomputable def itsV (H : Hp) : V → Option (List V)
  | .rng a b c => some ((List.range (Builtin.Range.rangeSize a b c).toNat).map fun (i : Nat) => .int (a + (i : Int) * c))
  | v => asList H v

structure Cx where
  /-- nothing may be raised or drawn here -/
  calm : Bool := false
  /-- how deep the calls may go -/
  lvl : Nat := 0
  gl : Str → Option V
  app : V → List V → Hp → Rs V
  get : V → Str → Hp → Option (V × List V)
  fld : V → Str → Hp → Ov

noncomputable def Rs.lift {α : Type} (r : Rs α) (σ : St) : Rs α := match r with
  | .ok a σ' => .ok a { σ with toHp := σ'.toHp }
  | .err c σ' => .err c { σ with toHp := σ'.toHp }
  | .bad => .bad

noncomputable def condO (b : V) (σ : St) (t : St → Rs V) : Rs (Option V) := match truV σ.toHp b with
  | some true => (t σ).bind fun r σ₁ => .ok (some r) σ₁
  | some false => .ok Option.none σ
  | Option.none => .bad

open Classical in
/-- a comprehension's turns: what it draws from stays as it is -/
noncomputable def turns (v : V) (all : List V) (f : V → St → Rs (Option V)) : List V → St → Rs (List V)
  | [], σ => if itsV σ.toHp v = some all then .ok [] σ else .bad
  | x :: r, σ => if itsV σ.toHp v = some all then (match f x σ with
    | .ok o σ₁ => (turns v all f r σ₁).bind fun vs σ₂ => .ok (o.toList ++ vs) σ₂
    | _ => .bad) else .bad

/-- the values of written arguments -/
noncomputable def argR {α : Type} (v : V) (σ : St) (k : List V → St → Rs α) : Rs α := match v with
  | .list xs => k xs σ
  | _ => .bad
noncomputable def fits (n : Nat) (r : Rs V) : Rs V := if n ≤ sizeLine then r else .bad

/-- one way or the other -/
noncomputable def condR (v : V) (σ : St) (t e : St → Rs V) : Rs V := match truV σ.toHp v with
  | some true => t σ
  | some false => e σ
  | Option.none => .bad

variable (cx : Cx) in
noncomputable def ev : X → St → Rs V
  | .none, σ => .ok .none σ
  | .bool b, σ => .ok (.bool b) σ
  | .int i, σ => .ok (.int i) σ
  | .str s, σ => .ok (.str s) σ
  | .var x, σ => match σ.loc.lookup x with | some v => .ok v σ | Option.none => .bad
  | .cv x, σ => match σ.cel.lookup x with
    | some k => (match σ.obj k with | some (.cell (some v)) => .ok v σ | _ => .bad)
    | Option.none => .bad
  | .glob x, σ => match cx.gl x with | some v => .ok v σ | Option.none => .bad
  | .bin op a b, σ => (ev a σ).bind fun va σ₁ => (ev b σ₁).bind fun vb σ₂ => (binV σ₂.toHp op va vb).st σ₂
  | .neg a, σ => (ev a σ).bind fun va σ₁ => (negV va).st σ₁
  | .not a, σ => (ev a σ).bind fun va σ₁ => match truV σ₁.toHp va with | some b => .ok (.bool !b) σ₁ | Option.none => .bad
  | .cmp op a b, σ => (ev a σ).bind fun va σ₁ => (ev b σ₁).bind fun vb σ₂ => (cmpV σ₂.toHp op va vb).st σ₂
  | .cmp2 o₁ o₂ a b c, σ => (ev a σ).bind fun va σ₁ => (ev b σ₁).bind fun vb σ₂ => ((cmpV σ₂.toHp o₁ va vb).st σ₂).bind fun r σ₃ =>
    condR r σ₃ (fun σ₃ => (ev c σ₃).bind fun vc σ₄ => (cmpV σ₄.toHp o₂ vb vc).st σ₄) (fun σ₃ => .ok (.bool false) σ₃)
  | .and a b, σ => (ev a σ).bind fun va σ₁ => condR va σ₁ (ev b) (fun σ₁ => .ok va σ₁)
  | .or a b, σ => (ev a σ).bind fun va σ₁ => condR va σ₁ (fun σ₁ => .ok va σ₁) (ev b)
  | .ite c a b, σ => (ev c σ).bind fun vc σ₁ => condR vc σ₁ (ev a) (ev b)
  | .idx a i, σ => (ev a σ).bind fun va σ₁ => (ev i σ₁).bind fun vi σ₂ => ((idxV σ₂.toHp va vi).calm cx.calm).st σ₂
  | .slc a lo hi, σ => (ev a σ).bind fun va σ₁ => (ev lo σ₁).bind fun vl σ₂ => (ev hi σ₂).bind fun vh σ₃ => (slcV σ₃.toHp va vl vh).st σ₃
  | .attr o f, σ => (ev o σ).bind fun vo σ₁ => (cx.fld vo f σ₁.toHp).st σ₁
  | .list es, σ => (ev es σ).bind fun vs σ₁ => argR vs σ₁ fun xs σ₁ => fits xs.length (.ok (.list xs) σ₁)
  | .tup es, σ => (ev es σ).bind fun vs σ₁ => argR vs σ₁ fun xs σ₁ => fits xs.length (.ok (.tup xs) σ₁)
  | .nil, σ => .ok (.list []) σ
  | .cons a b, σ => (ev a σ).bind fun va σ₁ => (ev b σ₁).bind fun vs σ₂ => argR vs σ₂ fun xs σ₂ => .ok (.list (va :: xs)) σ₂
  | .call f as, σ => (ev f σ).bind fun vf σ₁ => (ev as σ₁).bind fun vs σ₂ => argR vs σ₂ fun xs σ₂ => (cx.app vf xs σ₂.toHp).lift σ₂
  | .meth o m as, σ => (ev o σ).bind fun vo σ₁ => match cx.get vo m σ₁.toHp with
    | some (vf, first) => (ev as σ₁).bind fun vs σ₂ => argR vs σ₂ fun xs σ₂ => (cx.app vf (first ++ xs) σ₂.toHp).lift σ₂
    | Option.none => .bad
  | .comp elt x it cond, σ => if cx.calm = true then .bad else (ev it σ).bind fun vi σ₁ => match itsV σ₁.toHp vi with
    | some xs => (turns vi xs (fun v σ₂ => (ev cond { σ₂ with loc := [(x, v)], cel := σ₁.cel }).bind fun b σ₃ => condO b σ₃ (ev elt)) xs σ₁).bind fun vs σ₂ => fits vs.length (.ok (.list vs) { σ₁ with toHp := σ₂.toHp })
    | Option.none => .bad
  | .unk, _ => .bad
end Mine
end
section
set_option Elab.async false
set_option linter.all false
set_option maxRecDepth 100000
namespace Mine
open PySem PySem.W PyProof.Rows

section
variable {P : Par} {fr : List Nat} {A : Around} {env : Env} {W : Wd} {σ : St} {s : Shared}

theorem sizeLine_lt63 : (sizeLine : Int) < 2 ^ 63 := by unfold sizeLine; decide

theorem post_ok {r : Rs V} {v : V} {c : Value} {W' : Wd} {σ' : St} {s' : Shared} (e : r = .ok v σ') (st : Step P fr env W σ s W' σ' s') (h : VR W' σ'.nxt v c) : Post P fr env W σ s r c s' := ⟨v, σ', W', e, st, h⟩

/-- a list, owned or not, in the heap -/
theorem list_at (I : Inv P fr W σ.toHp s) {v : V} {c : Value} {xs : List V} (hv : VR W σ.nxt v c) (e : asList σ.toHp v = some xs) :
    ∃ a items, c = .ref a ∧ s.heap.IsList a items ∧ VRs W σ.nxt xs items.toList ∧ items.size ≤ sizeLine := by
  cases hv with
  | list a b d z r => cases e; exact ⟨_, _, rfl, ⟨_, (I.frz _ _ a).1, b, _, d⟩, r, z⟩
  | ref h =>
    unfold asList at e
    dsimp only at e
    split at e
    · rename_i ys ho
      cases e
      obtain ⟨_, ob, hg, hr⟩ := I.obj _ _ ho
      cases hr with
      | list r z => exact ⟨_, _, rfl, ⟨_, hg, rfl, _, rfl⟩, r, z⟩
    · cases e
  | _ => cases e

theorem truthy_ok {E : Value → Shared → Prop} (I : Inv P fr W σ.toHp s) {v : V} {c : Value} {b : Bool} {Q : Bool → Shared → Prop} (hv : VR W σ.nxt v c) (e : truV σ.toHp v = some b)
    (h : ∀ t, Q b { s with toks := t }) : wpAny P.M A (truthy c) Q E s := by
  have key : ∀ xs, asList σ.toHp v = some xs → b = (!xs.isEmpty) → wpAny P.M A (truthy c) Q E s := fun xs hx hb => by
    obtain ⟨a, items, rfl, hl, hr, hz⟩ := list_at I hv hx
    refine wpAny_truthy_list hl (by have := sizeLine_lt63; omega) ?_
    have e2 : items.isEmpty = xs.isEmpty := by
      have := hr.length
      rw [Array.length_toList] at this
      cases xs with
      | nil => simp at this; simp [Array.isEmpty, this]
      | cons x r => simp at this; simp [Array.isEmpty, this]
    rw [e2, ← hb]; exact h _
  cases hv with
  | none => cases e; exact truthy_none (h s.toks)
  | bool b => cases e; exact wpAny_truthy_bool (h s.toks)
  | int i t => cases e; exact PySem.P.truthy_int (h s.toks)
  | str x t z _ =>
    cases e
    refine PySem.P.truthy_str (by have := sizeLine_lt63; omega) ?_
    have : ((x.length : Int) != 0) = (x.length != 0) := by
      cases hx : x.length with
      | zero => rfl
      | succ n => simp only [bne, beq_eq_false_iff_ne.mpr (show ((n + 1 : Nat) : Int) ≠ 0 by omega)]; rfl
    rw [this]; exact h _
  | @list a' o' i' e' xs' a b' d z r =>
    obtain ⟨xs, h1, h2⟩ := Option.map_eq_some_iff.mp (show (asList σ.toHp (V.list xs')).map (fun xs => !xs.isEmpty) = some b from e)
    exact key xs h1 h2.symm
  | @ref k' hk =>
    obtain ⟨xs, h1, h2⟩ := Option.map_eq_some_iff.mp (show (asList σ.toHp (V.ref k')).map (fun xs => !xs.isEmpty) = some b from e)
    exact key xs h1 h2.symm
  | _ => cases e

theorem strOk_append {x y : Str} (hx : PyData.strOk x = true) (hy : PyData.strOk y = true) : PyData.strOk (x ++ y) = true := by
  show (x.cps ++ y.cps).all _ = true
  rw [Array.all_append, Bool.and_eq_true]; exact ⟨hx, hy⟩
theorem VR.strOk {W : Wd} {n : Nat} {x : Str} {c : Value} (h : VR W n (.str x) c) : PyData.strOk x = true := by cases h; assumption
theorem VR.strLe {W : Wd} {n : Nat} {x : Str} {c : Value} (h : VR W n (.str x) c) : x.length ≤ sizeLine := by cases h; assumption

theorem newList_ok (I : Inv P fr W σ.toHp s) (L : Loc env W σ s.heap) {xs : List V} {items : Array Value} (hr : VRs W σ.nxt xs items.toList) (hz : items.size ≤ sizeLine) {s' : Shared} (e : s'.heap = s.heap.push { cls := .type "list", data := .seq items }) (hg : s'.gens = s.gens) (ho : s'.os = s.os) :
    Post P fr env W σ s (.ok (.list xs) σ) (.ref s.heap.objs.size) s' := by
  have st := Step.freeze I L { cls := .type "list", data := .seq items } rfl e hg ho
  refine ⟨_, σ, _, rfl, st, .list (o := { cls := .type "list", data := .seq items }) (items := items) (e := 0) ?_ rfl rfl hz (hr.mono st.nx.wle (Nat.le_refl _))⟩
  show (if s.heap.objs.size = s.heap.objs.size then _ else _) = _
  rw [if_pos rfl]
theorem newTup_ok (I : Inv P fr W σ.toHp s) (L : Loc env W σ s.heap) {xs : List V} {items : Array Value} (hr : VRs W σ.nxt xs items.toList) (hz : items.size ≤ sizeLine) {s' : Shared} (e : s'.heap = s.heap.push { cls := .type "tuple", data := .seq items }) (hg : s'.gens = s.gens) (ho : s'.os = s.os) :
    Post P fr env W σ s (.ok (.tup xs) σ) (.ref s.heap.objs.size) s' := by
  have st := Step.freeze I L { cls := .type "tuple", data := .seq items } rfl e hg ho
  refine ⟨_, σ, _, rfl, st, .tup (o := { cls := .type "tuple", data := .seq items }) (items := items) (e := 0) ?_ rfl rfl hz (hr.mono st.nx.wle (Nat.le_refl _))⟩
  show (if s.heap.objs.size = s.heap.objs.size then _ else _) = _
  rw [if_pos rfl]

theorem add_lists_raw {E : Value → Shared → Prop} {l b : Addr} {i1 i2 : Array Value} {Q : Value → Shared → Prop} (hl : s.heap.IsList l i1) (hb : s.heap.IsList b i2)
    (h : Q (.ref s.heap.objs.size) { s with heap := s.heap.push { cls := .type "list", data := .seq (i1 ++ i2) } }) (hsz : i1.size + i2.size ≤ sizeLine) :
    wpAny P.M A (binaryOp .Add (.ref l) (.ref b)) Q E s := by
  obtain ⟨⟨cls, dd, data, sl⟩, ho, hc, n, hd⟩ := id hl
  obtain ⟨⟨cls2, dd2, data2, sl2⟩, ho2, hc2, n2, hd2⟩ := id hb
  simp only at hc hd hc2 hd2
  subst hc hd hc2 hd2
  exact concat_meets ⟨_, ho, rfl⟩ ⟨_, ho2, rfl⟩ noFill_list_add seq_list_add PySem.F.slot_list_add PySem.F.entry_list_add (PySem.F.args_list_add_2 _ _) (list_addW l b i1 i2 n n2 dd dd2 sl sl2 hsz) ⟨ho, ho2, h⟩

theorem str_nil_l {x y : Str} (h : (x.length == 0) = true) : x ++ y = y := by
  have h0 : x.cps.size = 0 := by simpa [Str.length] using h
  have : x.cps = #[] := Array.eq_empty_of_size_eq_zero h0
  show Str.mk (x.cps ++ y.cps) = y
  rw [this]; simp
theorem str_nil_r {x y : Str} (h : (y.length == 0) = true) : x ++ y = x := by
  have h0 : y.cps.size = 0 := by simpa [Str.length] using h
  have : y.cps = #[] := Array.eq_empty_of_size_eq_zero h0
  show Str.mk (x.cps ++ y.cps) = x
  rw [this]; simp
theorem intV_inv {f : Int → Int → Ov} {a b : V} (h : (intV f a b).st σ ≠ .bad) : ∃ x y, a = .int x ∧ b = .int y := by
  unfold intV at h
  split at h
  · split at h
    · exact ⟨_, _, rfl, rfl⟩
    · exact absurd rfl h
  · exact absurd rfl h

theorem catV_ok (I : Inv P fr W σ.toHp s) (L : Loc env W σ s.heap) {a b : V} {ca cb : Value} (ha : VR W σ.nxt a ca) (hb : VR W σ.nxt b cb) (hne : (catV σ.toHp a b).st σ ≠ .bad) :
    wpAny P.M A (binaryOp .Add ca cb) (Post P fr env W σ s ((catV σ.toHp a b).st σ)) (EPost P fr env W σ s ((catV σ.toHp a b).st σ)) s := by
  unfold catV at hne ⊢
  split at hne
  · rename_i xs ys h1 h2
    split at hne
    · rename_i hsz
      rw [if_pos hsz]
      obtain ⟨l, i1, rfl, l1, r1, z1⟩ := list_at I ha h1
      obtain ⟨l', i2, rfl, l2, r2, z2⟩ := list_at I hb h2
      have q1 := r1.length
      have q2 := r2.length
      rw [Array.length_toList] at q1 q2
      exact add_lists_raw l1 l2 (newList_ok I L (by simpa using r1.append r2) (by rw [Array.size_append]; omega) rfl rfl rfl) (by omega)
    · exact absurd rfl hne
  · exact absurd rfl hne
theorem addV_ok (I : Inv P fr W σ.toHp s) (L : Loc env W σ s.heap) {a b : V} {ca cb : Value} (ha : VR W σ.nxt a ca) (hb : VR W σ.nxt b cb) (hne : (addV σ.toHp a b).st σ ≠ .bad) :
    wpAny P.M A (binaryOp .Add ca cb) (Post P fr env W σ s ((addV σ.toHp a b).st σ)) (EPost P fr env W σ s ((addV σ.toHp a b).st σ)) s := by
  revert hne
  unfold addV
  split
  · split <;> intro hne
    · cases ha; cases hb
      exact PySem.P.add_int (post_ok rfl (Step.toks I L _) (.int ..))
    · exact absurd rfl hne
  · rename_i x
    split <;> intro hne
    · rename_i y
      have hx := ha.strLe
      have hy := hb.strLe
      split at hne
      · rename_i hsz
        rw [if_pos hsz]
        cases ha with
        | str _ t _ hx' => cases hb with
          | str _ u _ hy' =>
            refine PySem.P.add_str ?_
            split
            · rename_i h; exact post_ok rfl (Step.refl I L) (by rw [str_nil_l h]; exact .str _ _ hy hy')
            · split
              · rename_i h; exact post_ok rfl (Step.refl I L) (by rw [str_nil_r h]; exact .str _ _ hx hx')
              · have hl : (x ++ y).length ≤ sizeLine := by show (x.cps ++ y.cps).size ≤ _; rw [Array.size_append]; exact hsz
                exact ⟨hl, post_ok rfl (Step.toks I L _) (.str _ _ hl (strOk_append hx' hy'))⟩
      · exact absurd rfl hne
    · exact absurd rfl hne
  · exact catV_ok I L ha hb

theorem binV_ok (I : Inv P fr W σ.toHp s) (L : Loc env W σ s.heap) {op : Operator} {a b : V} {ca cb : Value} (ha : VR W σ.nxt a ca) (hb : VR W σ.nxt b cb) (hne : (binV σ.toHp op a b).st σ ≠ .bad) :
    wpAny P.M A (binaryOp op ca cb) (Post P fr env W σ s ((binV σ.toHp op a b).st σ)) (EPost P fr env W σ s ((binV σ.toHp op a b).st σ)) s := by
  cases op <;> first | exact absurd rfl hne | skip
  · exact addV_ok I L ha hb hne
  · obtain ⟨x, y, rfl, rfl⟩ := intV_inv hne
    cases ha; cases hb
    exact PySem.P.sub_int (post_ok rfl (Step.toks I L _) (.int ..))
  · obtain ⟨x, y, rfl, rfl⟩ := intV_inv hne
    revert hne
    show (if y = 0 then Ov.bad else _).st σ ≠ .bad → wpAny _ _ _ (Post P fr env W σ s ((if y = 0 then Ov.bad else _).st σ)) (EPost P fr env W σ s ((if y = 0 then Ov.bad else _).st σ)) _
    cases ha; cases hb
    intro hne
    split at hne
    · exact absurd rfl hne
    · rename_i h0; rw [if_neg h0]; exact mod_int' h0 (post_ok rfl (Step.toks I L _) (.int ..))
  · obtain ⟨x, y, rfl, rfl⟩ := intV_inv hne
    revert hne
    show (if y = 0 ∨ Builtin.divisionGoesByPylong x y = true then Ov.bad else _).st σ ≠ .bad → wpAny _ _ _ (Post P fr env W σ s ((if y = 0 ∨ Builtin.divisionGoesByPylong x y = true then Ov.bad else _).st σ)) (EPost P fr env W σ s ((if y = 0 ∨ Builtin.divisionGoesByPylong x y = true then Ov.bad else _).st σ)) _
    cases ha; cases hb
    intro hne
    split at hne
    · exact absurd rfl hne
    · rename_i h0
      rw [if_neg h0]
      refine floordiv_int (fun q => h0 (.inl q)) (post_ok rfl (Step.toks I L _) (.int ..)) (hp := .inl ?_)
      cases hd : Builtin.divisionGoesByPylong _ _ with
      | false => rfl
      | true => exact absurd (.inr hd) h0

inductive All2 {α β : Type} (R : α → β → Prop) : List α → List β → Prop
  | nil : All2 R [] []
  | cons {a b l m} : R a b → All2 R l m → All2 R (a :: l) (b :: m)

theorem mapM_some {α β : Type} {f : α → Option β} : ∀ {l : List α} {r : List β}, l.mapM f = some r → All2 (fun a b => f a = some b) l r
  | [], r, h => by simp at h; subst h; exact .nil
  | a :: l, r, h => by
    rw [List.mapM_cons] at h
    obtain ⟨b, hb, h⟩ := Option.bind_eq_some_iff.mp h
    obtain ⟨bs, hbs, h⟩ := Option.bind_eq_some_iff.mp h
    cases h
    exact .cons hb (mapM_some hbs)

theorem reads_all {h : Heap} {W : Wd} {n m : Nat} {f : V → Option PyData} (hf : ∀ v c d, VR W n v c → f v = some d → ∃ as, Reads h c d as ∧ d.canLay0 = true ∧ d.depth ≤ m) :
    ∀ {xs : List V} {cs : List Value} {ds : List PyData}, VRs W n xs cs → All2 (fun a b => f a = some b) xs ds → ∃ as, ReadsAll h cs ds as ∧ PyData.canLayAll0 ds = true ∧ PyData.depthAll ds ≤ m
  | _, _, _, .nil, .nil => ⟨[], .nil, rfl, Nat.zero_le _⟩
  | _, _, _, .cons a b, .cons e r => by
    obtain ⟨as, h1, h2, h3⟩ := hf _ _ _ a e
    obtain ⟨bs, g1, g2, g3⟩ := reads_all hf b r
    refine ⟨_, .cons h1 g1, ?_, ?_⟩
    · show (_ && _) = true
      rw [h2, g2]; rfl
    · exact Nat.max_le.mpr ⟨h3, g3⟩

theorem dat_reads (I : Inv P fr W σ.toHp s) : ∀ (m : Nat) (v : V) (c : Value) (d : PyData), VR W σ.nxt v c → dat σ.toHp m v = some d → ∃ as, Reads s.heap c d as ∧ d.canLay0 = true ∧ d.depth ≤ m := by
  intro m
  induction m with
  | zero =>
    intro v c d hv e
    cases hv with
    | none => cases e; exact ⟨_, .none, rfl, Nat.le_refl _⟩
    | bool b => cases e; exact ⟨_, .bool b, rfl, Nat.le_refl _⟩
    | int i t => cases e; exact ⟨_, .int i t, rfl, Nat.le_refl _⟩
    | str x t _ o => cases e; exact ⟨_, .str x t, o, Nat.le_refl _⟩
    | _ => cases e
  | succ m ih =>
    intro v c d hv e
    cases hv with
    | none => cases e; exact ⟨_, .none, rfl, Nat.zero_le _⟩
    | bool b => cases e; exact ⟨_, .bool b, rfl, Nat.zero_le _⟩
    | int i t => cases e; exact ⟨_, .int i t, rfl, Nat.zero_le _⟩
    | str x t _ o => cases e; exact ⟨_, .str x t, o, Nat.zero_le _⟩
    | list a b d' z r =>
      obtain ⟨ds, h1, rfl⟩ := Option.map_eq_some_iff.mp (show Option.map _ (List.mapM _ _) = some d from e)
      obtain ⟨as, g1, g2, g3⟩ := reads_all ih r (mapM_some h1)
      exact ⟨_, .list (I.frz _ _ a).1 b d' g1, g2, Nat.succ_le_succ g3⟩
    | tup a b d' z r =>
      obtain ⟨ds, h1, rfl⟩ := Option.map_eq_some_iff.mp (show Option.map _ (List.mapM _ _) = some d from e)
      obtain ⟨as, g1, g2, g3⟩ := reads_all ih r (mapM_some h1)
      exact ⟨_, .tuple (I.frz _ _ a).1 b d' g1, g2, Nat.succ_le_succ g3⟩
    | ref hk =>
      unfold dat at e
      split at e
      · rename_i ys ho
        obtain ⟨ds, h1, rfl⟩ := Option.map_eq_some_iff.mp e
        obtain ⟨_, ob, hg, hr⟩ := I.obj _ _ ho
        cases hr with
        | list r z =>
          obtain ⟨as, g1, g2, g3⟩ := reads_all ih r (mapM_some h1)
          exact ⟨_, .list hg rfl rfl g1, g2, Nat.succ_le_succ g3⟩
      · cases e
    | _ => cases e

theorem boolO_inv {o : Option Bool} (h : (boolO o).st σ ≠ .bad) : ∃ b, o = some b := by
  cases o with
  | none => exact absurd rfl h
  | some b => exact ⟨b, rfl⟩
theorem not_inv {o : Option Bool} {b : Bool} (h : o.map (!·) = some b) : o = some !b := by
  cases o with
  | none => cases h
  | some c => cases h; simp
theorem eqB_inv {H : Hp} {a b : V} {r : Bool} (h : eqB H a b = some r) : ∃ x y, dat H 8 a = some x ∧ dat H 8 b = some y ∧ r = PyData.eqv x y := by
  unfold eqB at h
  split at h
  · rename_i x y h1 h2; cases h; exact ⟨x, y, h1, h2, rfl⟩
  · cases h
theorem inB_inv {H : Hp} {a b : V} {r : Bool} (h : inB H a b = some r) : ∃ d xs ds, dat H 8 a = some d ∧ asList H b = some xs ∧ xs.mapM (dat H 8) = some ds ∧ r = ds.any fun y => PyData.eqv y d := by
  unfold inB at h
  split at h
  · rename_i d ds h1 h2
    obtain ⟨xs, h3, h4⟩ := Option.bind_eq_some_iff.mp h2
    cases h; exact ⟨d, xs, ds, h1, h3, h4, rfl⟩
  · cases h
theorem ordB_inv {f : Int → Int → Bool} {a b : V} {r : Bool} (h : ordB f a b = some r) : ∃ x y, a = .int x ∧ b = .int y ∧ r = f x y := by
  unfold ordB at h
  split at h
  · split at h
    · cases h; exact ⟨_, _, rfl, rfl, rfl⟩
    · cases h
  · cases h
theorem isB_inv {a b : V} {r : Bool} (h : isB a b = some r) : b = .none ∧ isNoneB a = some r := by
  unfold isB at h
  split at h
  · exact ⟨rfl, h⟩
  · cases h
theorem isNone_ok {W : Wd} {n : Nat} {a : V} {ca : Value} {r : Bool} (ha : VR W n a ca) (h : isNoneB a = some r) : (r = true ∧ ca = .none) ∨ (r = false ∧ ca ≠ .none) := by
  cases ha <;> first | (cases h; done) | (cases h; exact .inl ⟨rfl, rfl⟩) | (cases h; exact .inr ⟨rfl, fun q => by cases q⟩)

theorem cmpB_ok {cm : Bool} {lv : Nat} (F : Fm P cm lv fr A env) (I : Inv P fr W σ.toHp s) (L : Loc env W σ s.heap) {op : CmpOp} {a b : V} {ca cb : Value} (ha : VR W σ.nxt a ca) (hb : VR W σ.nxt b cb) {r : Bool} (hr : cmpB σ.toHp op a b = some r)
    {Q : Value → Shared → Prop} {E : Value → Shared → Prop} (hQ : Q (.bool r) s) : wpAny P.M A (compareOp op ca cb) Q E s := by
  have U := F.units
  have inL : ∀ {d : PyData} {ds : List PyData} {xs : List V}, dat σ.toHp 8 a = some d → asList σ.toHp b = some xs → xs.mapM (dat σ.toHp 8) = some ds → ∃ as bs, Reads s.heap cb (.list ds) as ∧ Reads s.heap ca d bs ∧ PyData.canLayAll0 ds = true ∧ d.canLay0 = true ∧ A.units + 1 + min (PyData.depthAll ds) d.depth < cLine := by
    intro d ds xs h1 h2 h3
    obtain ⟨bs, r1, r2, r3⟩ := dat_reads I 8 a ca d ha h1
    obtain ⟨l, items, rfl, ⟨o, ho, hc, n, hd⟩, hr, hz⟩ := list_at I hb h2
    obtain ⟨as, g1, g2, g3⟩ := reads_all (dat_reads I 8) hr (mapM_some h3)
    exact ⟨_, bs, .list ho hc hd g1, r1, g2, r2, by omega⟩
  have two : ∀ {x y : PyData}, dat σ.toHp 8 a = some x → dat σ.toHp 8 b = some y → ∃ as bs, Reads s.heap ca x as ∧ Reads s.heap cb y bs ∧ x.canLay0 = true ∧ y.canLay0 = true ∧ A.units + min x.depth y.depth < cLine := by
    intro x y h1 h2
    obtain ⟨as, r1, r2, r3⟩ := dat_reads I 8 a ca x ha h1
    obtain ⟨bs, g1, g2, g3⟩ := dat_reads I 8 b cb y hb h2
    exact ⟨as, bs, r1, g1, r2, g2, by omega⟩
  cases op with
  | Eq =>
    obtain ⟨x, y, h1, h2, rfl⟩ := eqB_inv hr
    obtain ⟨as, bs, q1, q2, q3, q4, q5⟩ := two h1 h2
    exact SeqAt.compareEq_reads q1 q2 q3 q4 q5 hQ
  | NotEq =>
    obtain ⟨x, y, h1, h2, h3⟩ := eqB_inv (not_inv hr)
    obtain ⟨as, bs, q1, q2, q3, q4, q5⟩ := two h1 h2
    exact SeqAt.compareNe_reads q1 q2 q3 q4 q5 (by rw [← h3, Bool.not_not]; exact hQ)
  | Lt => obtain ⟨x, y, rfl, rfl, rfl⟩ := ordB_inv hr; cases ha; cases hb; exact PySem.P.lt_int hQ
  | LtE => obtain ⟨x, y, rfl, rfl, rfl⟩ := ordB_inv hr; cases ha; cases hb; exact PySem.P.le_int hQ
  | Gt => obtain ⟨x, y, rfl, rfl, rfl⟩ := ordB_inv hr; cases ha; cases hb; exact PySem.P.gt_int hQ
  | GtE => obtain ⟨x, y, rfl, rfl, rfl⟩ := ordB_inv hr; cases ha; cases hb; exact PySem.P.ge_int hQ
  | Is =>
    obtain ⟨rfl, h⟩ := isB_inv hr
    cases hb
    rcases isNone_ok ha h with ⟨rfl, rfl⟩ | ⟨rfl, hn⟩
    · exact wpAny_is_plain rfl hQ
    · cases ha <;> first | exact absurd rfl hn | exact wpAny_is_plain rfl hQ | cases h
  | IsNot =>
    obtain ⟨rfl, h⟩ := isB_inv (not_inv hr)
    cases hb
    rcases isNone_ok ha h with ⟨e, rfl⟩ | ⟨e, hn⟩
    · have : r = false := by simpa using e
      subst this
      exact wpAny_isNot_plain rfl hQ
    · have : r = true := by simpa using e
      subst this
      cases ha <;> first | exact absurd rfl hn | exact wpAny_isNot_plain rfl hQ | cases h
  | In =>
    obtain ⟨d, xs, ds, h1, h2, h3, rfl⟩ := inB_inv hr
    obtain ⟨as, bs, q1, q2, q3, q4, q5⟩ := inL h1 h2 h3
    exact SeqAt.in_list_reads q1 q2 q3 q4 q5 hQ
  | NotIn =>
    obtain ⟨d, xs, ds, h1, h2, h3, h4⟩ := inB_inv (not_inv hr)
    obtain ⟨as, bs, q1, q2, q3, q4, q5⟩ := inL h1 h2 h3
    exact SeqAt.notIn_list_reads q1 q2 q3 q4 q5 (by rw [← h4, Bool.not_not]; exact hQ)

theorem cmpV_ok {cm : Bool} {lv : Nat} (F : Fm P cm lv fr A env) (I : Inv P fr W σ.toHp s) (L : Loc env W σ s.heap) {op : CmpOp} {a b : V} {ca cb : Value} (ha : VR W σ.nxt a ca) (hb : VR W σ.nxt b cb) (hne : (cmpV σ.toHp op a b).st σ ≠ .bad) :
    wpAny P.M A (compareOp op ca cb) (Post P fr env W σ s ((cmpV σ.toHp op a b).st σ)) (EPost P fr env W σ s ((cmpV σ.toHp op a b).st σ)) s := by
  obtain ⟨r, hr⟩ := boolO_inv hne
  have e : cmpV σ.toHp op a b = .ok (.bool r) := by unfold cmpV; rw [hr]; rfl
  rw [e]
  exact cmpB_ok F I L ha hb hr (post_ok rfl (Step.refl I L) (.bool _))

theorem negV_ok (I : Inv P fr W σ.toHp s) (L : Loc env W σ s.heap) {a : V} {ca : Value} (ha : VR W σ.nxt a ca) (hne : (negV a).st σ ≠ .bad) :
    wpAny P.M A (unaryOp .USub ca) (Post P fr env W σ s ((negV a).st σ)) (EPost P fr env W σ s ((negV a).st σ)) s := by
  cases ha with
  | int i t => exact PySem.P.neg_int (post_ok rfl (Step.toks I L _) (.int ..))
  | _ => exact absurd rfl hne
end
end Mine
end
section
set_option Elab.async false
set_option linter.all false
set_option maxRecDepth 100000
namespace Mine
open PySem PySem.W PyProof.Rows

theorem slice_cut (x : Str) (l u : Option Int) : Txt.slice x l u = ⟨(cut x.cps.toList l u).toArray⟩ := by
  have e : (Builtin.Str.strSliceIndices l u 1 x.length).filterMap (x.cps[·]?) = cut x.cps.toList l u := by
    have h1 : Builtin.Str.strSliceIndices l u 1 x.length = sliceRange ((l.elim 0 (clipAt x.length) : Nat) : Int) ((u.elim x.length (clipAt x.length) : Nat) : Int) 1 := by
      unfold Builtin.Str.strSliceIndices
      cases l <;> cases u <;> simp [clipAt_cast]
    rw [h1, sliceRange_one, pick_run]
    unfold cut
    rw [Array.length_toList]; rfl
  unfold Txt.slice
  split
  · rename_i h
    have hl : (Builtin.Str.strSliceIndices l u 1 x.length).length = x.length := by simpa using h
    -- all of it
    have h2 : (cut x.cps.toList l u).length = x.length := by
      rw [← e]
      have h1 : Builtin.Str.strSliceIndices l u 1 x.length = sliceRange ((l.elim 0 (clipAt x.length) : Nat) : Int) ((u.elim x.length (clipAt x.length) : Nat) : Int) 1 := by
        unfold Builtin.Str.strSliceIndices
        cases l <;> cases u <;> simp [clipAt_cast]
      have hlen : (u.elim x.length (clipAt x.length)) - (l.elim 0 (clipAt x.length)) = x.length := by
        rw [h1, sliceRange_one] at hl; simpa using hl
      have hu : u.elim x.length (clipAt x.length) ≤ x.length := by
        cases u with
        | none => exact Nat.le_refl _
        | some i =>
          have := clipAt_cast x.length i
          show clipAt x.length i ≤ _
          omega
      rw [h1, sliceRange_one, pick_run]
      have hx : x.cps.toList.length = x.length := Array.length_toList
      simp only [List.length_take, List.length_drop, hx]
      omega
    have h3 : cut x.cps.toList l u = x.cps.toList := by
      have hs : (cut x.cps.toList l u).Sublist x.cps.toList := (List.take_sublist _ _).trans (List.drop_sublist _ _)
      exact hs.eq_of_length (by rw [h2]; exact (Array.length_toList).symm)
    rw [h3]
  · rw [e]

theorem strOk_cut {x : Str} (h : PyData.strOk x = true) (l u : Option Int) : PyData.strOk ⟨(cut x.cps.toList l u).toArray⟩ = true := by
  have h' : ∀ c ∈ x.cps.toList, c < 0x110000 := by
    intro c hc
    have := Array.all_eq_true_iff_forall_mem.mp (show x.cps.all (· < 0x110000) = true from h) c (by simpa using hc)
    simpa using this
  show ((cut x.cps.toList l u).toArray).all (· < 0x110000) = true
  rw [Array.all_eq_true_iff_forall_mem]
  intro c hc
  have hc' : c ∈ cut x.cps.toList l u := by simpa using hc
  have hs : (cut x.cps.toList l u).Sublist x.cps.toList := (List.take_sublist _ _).trans (List.drop_sublist _ _)
  simpa using h' c (hs.subset hc')
theorem cut_length_le {α : Type} (xs : List α) (l u : Option Int) : (cut xs l u).length ≤ xs.length :=
  ((List.take_sublist _ _).trans (List.drop_sublist _ _)).length_le

section
variable {P : Par} {fr : List Nat} {A : Around} {env : Env} {W : Wd} {σ : St} {s : Shared}

theorem exc_new (I : Inv P fr W σ.toHp s) (L : Loc env W σ s.heap) {h' : Heap} {tk : Nat} {e : Addr} {cls : String} (x : Heap.NewExc s.heap h' e cls) {α : Type} :
    EPost P fr env W σ s (Rs.err (α := α) cls σ) (.ref e) { s with heap := h', toks := tk } := by
  have st : Step P fr env W σ s W σ { s with heap := h', toks := tk } := Step.grow I L x.keeps rfl rfl
  obtain ⟨ob, t, h1, h2, h3⟩ := x.there
  refine ⟨cls, σ, W, e, rfl, rfl, st, ?_, ?_, ?_, fun k hk q => ?_, x.new, ob, _, h1, h2, h3, by simp, .inl (by simp)⟩
  · cases q : P.B.get? e with
    | none => rfl
    | some o => have := I.keep _ _ q; rw [x.new] at this; cases this
  · intro hm
    obtain ⟨o, e', _⟩ := (I.frB _ hm).2
    rw [x.new] at e'; cases e'
  · cases q : W.fz e with
    | none => rfl
    | some o => have := (I.frz _ _ q).1; rw [x.new] at this; cases this
  · obtain ⟨o, e'⟩ := I.live k hk
    rw [q, x.new] at e'; cases e'

theorem subscripted_plain {sl : Expr} (h : isSlice sl = false) (o i : Value) : subscripted sl false o i = operate [o, i] (getItem o i) := by
  cases sl <;> first | rfl | cases h

theorem seqIx_some {k : Int} {n j : Nat} (h : seqIndex? k n = some j) : (0 ≤ k ∧ k < n ∧ k.toNat = j) ∨ (k < 0 ∧ 0 ≤ k + n ∧ (k + n).toNat = j) := by
  unfold seqIndex? at h
  by_cases h0 : k < 0
  · simp only [h0, if_true] at h
    split at h
    · rename_i q; simp only [Bool.and_eq_true, decide_eq_true_eq] at q; cases h; exact .inr ⟨h0, q.1, rfl⟩
    · cases h
  · simp only [h0, if_false] at h
    split at h
    · rename_i q; simp only [Bool.and_eq_true, decide_eq_true_eq] at q; cases h; exact .inl ⟨q.1, q.2, rfl⟩
    · cases h
theorem seqIx_none {k : Int} {n : Nat} (h : seqIndex? k n = none) : k < -(n : Int) ∨ (n : Int) ≤ k := by
  unfold seqIndex? at h
  by_cases h0 : k < 0
  · simp only [h0, if_true] at h
    split at h
    · cases h
    · rename_i q; simp only [Bool.and_eq_true, decide_eq_true_eq] at q; omega
  · simp only [h0, if_false] at h
    split at h
    · cases h
    · rename_i q; simp only [Bool.and_eq_true, decide_eq_true_eq] at q; omega
theorem seqIx_lt {k : Int} {n j : Nat} (h : seqIndex? k n = some j) : j < n := by
  rcases seqIx_some h with ⟨a, b, c⟩ | ⟨a, b, c⟩ <;> omega

theorem getItem_list_any {E : Value → Shared → Prop} {l : Addr} {items : Array Value} {k : Int} {t : Tok} {j : Nat} {x : Value} {Q : Value → Shared → Prop} (hl : s.heap.IsList l items)
    (hf : fitsIx k = true) (hj : seqIndex? k items.size = some j) (hx : items[j]? = some x) (h : Q x s) : wpAny P.M A (getItem (.ref l) (.int k t)) Q E s := by
  unfold fitsIx at hf
  simp only [Bool.and_eq_true, decide_eq_true_eq] at hf
  rcases seqIx_some hj with ⟨h0, h1, e⟩ | ⟨h0, h1, e⟩
  · exact wpAny_getItem_list hl h0 hf.2 (by rw [e]; exact hx) h
  · exact wpAny_getItem_list_neg hl h0 (by omega) hf.1 (by rw [e]; exact hx) h

theorem raises_str_big (x : Str) (i : Int) (t u : Tok) (hr : (decide (i < -(2 ^ 63 : Int)) || decide (i ≥ 2 ^ 63)) = true) :
    Meets (Builtin.«str.__getitem__» ⟨[.str x t, .int i u], []⟩) (raisesNew "IndexError") := by
  intro prog w A R s hS
  show wpAny _ _ (if (decide (i < -(2 ^ 63 : Int)) || decide (i ≥ 2 ^ 63)) = true then _ else _) _ _ s
  rw [hr]
  refine wpAny_bind (wpAny_rule (wpAny_bind (wpAny_of_eq (a := "int") (by rfl) ?_)))
  refine wpAny_bind (wpAny_raiseErrorMade (A := A.in1) (s := s) (E := fun e s' => R (.error e) s') plainExc_IndexError hS.1 (fun h' tk e x => hS.2 h' tk e x) ?_)
  rw [PySem.ofString_length, sizeLine_eq]; decide +kernel

theorem strOk_get {x : Str} (h : PyData.strOk x = true) {j c : Nat} (hc : x.cps[j]? = some c) : PyData.strOk ⟨#[c]⟩ = true := by
  have := Array.all_eq_true_iff_forall_mem.mp (show x.cps.all (· < 0x110000) = true from h) c (Array.mem_of_getElem? hc)
  show (#[c] : Array Nat).all _ = true
  simpa using this

theorem idxV_ok0 {a i : V} (hh : (∃ c, idxV σ.toHp a i = .err c) → A.handled = none) (I : Inv P fr W σ.toHp s) (L : Loc env W σ s.heap) {ca ci : Value} (ha : VR W σ.nxt a ca) (hi : VR W σ.nxt i ci) (hne : (idxV σ.toHp a i).st σ ≠ .bad) {value sl : Expr} (hsl : isSlice sl = false) :
    wpAny P.M A (subscriptTail value sl ca ci) (Post P fr env W σ s ((idxV σ.toHp a i).st σ)) (EPost P fr env W σ s ((idxV σ.toHp a i).st σ)) s := by
  cases i <;> first | exact absurd rfl hne | skip
  rename_i k
  cases hi with
  | int _ u =>
  have lst : ∀ xs, asList σ.toHp a = some xs → idxV σ.toHp a (.int k) = (if fitsIx k then (match (seqIndex? k xs.length).bind (xs[·]?) with | some v => Ov.ok v | Option.none => .err "IndexError") else .bad) →
      wpAny P.M A (subscriptTail value sl ca (.int k u)) (Post P fr env W σ s ((idxV σ.toHp a (.int k)).st σ)) (EPost P fr env W σ s ((idxV σ.toHp a (.int k)).st σ)) s := by
    intro xs hx he
    obtain ⟨l, items, rfl, hl, hr, hz⟩ := list_at I ha hx
    have hlen := hr.length
    rw [Array.length_toList] at hlen
    refine tail_any hl.typeIs slot_list_getitem.lookup ?_ (subscripted_plain hsl _ _)
    rw [he] at hne hh ⊢
    by_cases hf : fitsIx k = true
    · rw [if_pos hf] at hh ⊢
      split
      · rename_i v hv
        obtain ⟨j, h1, h2⟩ := Option.bind_eq_some_iff.mp hv
        obtain ⟨c, g1, g2⟩ := hr.get h2
        exact getItem_list_any hl hf (by rw [hlen]; exact h1) (by rw [← Array.getElem?_toList]; exact g1) (post_ok rfl (Step.refl I L) g2)
      · rename_i hv
        rw [hv] at hh
        unfold fitsIx at hf
        simp only [Bool.and_eq_true, decide_eq_true_eq] at hf
        refine wpAny_getItem_list_out (hh ⟨"IndexError", rfl⟩) hl ?_ hf.1 hf.2 fun h' tk e hx => exc_new I L hx
        rw [hlen]
        cases hq : seqIndex? k xs.length with
        | none => exact seqIx_none hq
        | some j =>
          rw [hq] at hv
          have h2 : xs[j]? = none := hv
          rw [List.getElem?_eq_none_iff] at h2
          have := seqIx_lt hq
          omega
    · rw [if_neg hf] at hne; exact absurd rfl hne
  have oth : (∀ x, a ≠ .str x) → wpAny P.M A (subscriptTail value sl ca (.int k u)) (Post P fr env W σ s ((idxV σ.toHp a (.int k)).st σ)) (EPost P fr env W σ s ((idxV σ.toHp a (.int k)).st σ)) s := fun hn => by
    have he : idxV σ.toHp a (.int k) = (match asList σ.toHp a with
      | some xs => if fitsIx k then (match (seqIndex? k xs.length).bind (xs[·]?) with | some v => Ov.ok v | Option.none => .err "IndexError") else .bad
      | Option.none => .bad) := by
      unfold idxV
      dsimp only
      split
      · rename_i x; exact absurd rfl (hn x)
      · rfl
    cases hx : asList σ.toHp a with
    | none => rw [he, hx] at hne; exact absurd rfl hne
    | some xs => rw [hx] at he; exact lst xs hx he
  cases a with
  | str x =>
    cases ha with
    | str _ t hz hok =>
      refine tail_any (typeIs_str s x t) PySem.F.slot_str_getitem.lookup ?_ (subscripted_plain hsl _ _)
      have he : idxV σ.toHp (.str x) (.int k) = (if fitsIx k then (match (seqIndex? k x.length).bind (x.cps[·]?) with | some c => Ov.ok (.str ⟨#[c]⟩) | Option.none => .err "IndexError") else .err "IndexError") := rfl
      rw [he] at hne hh ⊢
      by_cases hf : fitsIx k = true
      · rw [if_pos hf] at hh ⊢
        have hr : (decide (k < -(2 ^ 63 : Int)) || decide (k ≥ 2 ^ 63)) = false := by
          unfold fitsIx at hf
          simp only [Bool.and_eq_true, decide_eq_true_eq] at hf
          simp only [Bool.or_eq_false_iff, decide_eq_false_iff_not]; omega
        split
        · rename_i c hc
          obtain ⟨j, h1, h2⟩ := Option.bind_eq_some_iff.mp hc
          exact PySem.P.getItem_str hr hc (post_ok rfl (Step.toks I L _) (.str _ _ (by show 1 ≤ sizeLine; decide) (strOk_get hok h2)))
        · rename_i hc
          rw [hc] at hh
          exact getItem_meets (typeIs_str s x t) (by decide) PySem.F.slot_str_getitem PySem.F.entry_str_getitem (PySem.F.args_str_getitem_2 _ _) (raises_str_getitem x k t u hr hc) ⟨hh ⟨"IndexError", rfl⟩, fun h' tk e hx => exc_new I L hx⟩
      · rw [if_neg hf] at hh ⊢
        have hr : (decide (k < -(2 ^ 63 : Int)) || decide (k ≥ 2 ^ 63)) = true := by
          unfold fitsIx at hf
          simp only [Bool.and_eq_true, decide_eq_true_eq] at hf
          simp only [Bool.or_eq_true, decide_eq_true_eq]; omega
        exact getItem_meets (typeIs_str s x t) (by decide) PySem.F.slot_str_getitem PySem.F.entry_str_getitem (PySem.F.args_str_getitem_2 _ _) (raises_str_big x k t u hr) ⟨hh ⟨"IndexError", rfl⟩, fun h' tk e hx => exc_new I L hx⟩
  | _ => exact oth fun x q => by cases q

theorem idxV_ok {cm : Bool} {lv : Nat} (F : Fm P cm lv fr A env) (I : Inv P fr W σ.toHp s) (L : Loc env W σ s.heap) {a i : V} {ca ci : Value} (ha : VR W σ.nxt a ca) (hi : VR W σ.nxt i ci) (hne : ((idxV σ.toHp a i).calm cm).st σ ≠ .bad) {value sl : Expr} (hsl : isSlice sl = false) :
    wpAny P.M A (subscriptTail value sl ca ci) (Post P fr env W σ s (((idxV σ.toHp a i).calm cm).st σ)) (EPost P fr env W σ s (((idxV σ.toHp a i).calm cm).st σ)) s := by
  cases cm with
  | false =>
    have e : (idxV σ.toHp a i).calm false = idxV σ.toHp a i := by cases idxV σ.toHp a i <;> rfl
    rw [e] at hne ⊢
    exact idxV_ok0 (fun _ => F.handled.resolve_right (by decide)) I L ha hi hne hsl
  | true =>
    cases hq : idxV σ.toHp a i with
    | ok v =>
      rw [hq] at hne
      have := idxV_ok0 (A := A) (value := value) (sl := sl) (fun ⟨c, q⟩ => by rw [hq] at q; cases q) I L ha hi (by rw [hq]; intro q; cases q) hsl
      rw [hq] at this
      exact this
    | err c => rw [hq] at hne; exact absurd rfl hne
    | bad => rw [hq] at hne; exact absurd rfl hne

theorem asPart_is {W : Wd} {n : Nat} {v : V} {c : Value} {p : Option Int} (hv : VR W n v c) (e : asPart v = some p) : ∃ q : Option (Int × Tok), c = partValue q ∧ p = q.map (·.1) ∧ IsPart c p := by
  cases hv with
  | none => cases e; exact ⟨none, rfl, rfl, .none⟩
  | int i t => cases e; exact ⟨some (i, t), rfl, rfl, .int i t⟩
  | _ => cases e

theorem VRs.cut {W : Wd} {n : Nat} {xs : List V} {cs : List Value} (h : VRs W n xs cs) (l u : Option Int) : VRs W n (Mine.cut xs l u) (Mine.cut cs l u) := by
  unfold Mine.cut
  rw [h.length]
  exact (h.drop _).take _

theorem slcV_ok (I : Inv P fr W σ.toHp s) (L : Loc env W σ s.heap) {a l u : V} {ca cl cu : Value} (ha : VR W σ.nxt a ca) (hl : VR W σ.nxt l cl) (hu : VR W σ.nxt u cu) (hne : (slcV σ.toHp a l u).st σ ≠ .bad) {value lo hi p} :
    wpAny P.M A (subscriptTail value (.Slice lo hi Option.none p) ca (.ref s.heap.objs.size)) (Post P fr env W σ s ((slcV σ.toHp a l u).st σ)) (EPost P fr env W σ s ((slcV σ.toHp a l u).st σ)) { s with heap := s.heap.push { cls := .type "slice", data := .fields #[cl, cu, .none] } } := by
  have st0 : Step P fr env W σ s W σ { s with heap := s.heap.push { cls := .type "slice", data := .fields #[cl, cu, .none] } } := Step.push I L _ rfl rfl rfl
  revert hne
  unfold slcV
  split <;> intro hne
  · rename_i l' u' e1 e2
    obtain ⟨q1, rfl, rfl, i1⟩ := asPart_is hl e1
    obtain ⟨q2, rfl, rfl, i2⟩ := asPart_is hu e2
    revert hne
    split <;> intro hne
    · rename_i x
      cases ha with
      | str _ t hz hok =>
        refine tail_any (typeIs_str _ x t) PySem.F.slot_str_getitem.lookup ?_ (ops := [.ref s.heap.objs.size, .str x t]) rfl
        refine wpAny_getItem_str_slice (l := q1) (u := q2) (st := none) ⟨_, Heap.get?_push_size _ rfl, rfl, rfl⟩ rfl ?_
        have hle : (⟨(cut x.cps.toList (q1.map (·.1)) (q2.map (·.1))).toArray⟩ : Str).length ≤ sizeLine := by
          show (List.toArray _).size ≤ _
          rw [List.size_toArray]
          have h1 := cut_length_le x.cps.toList (q1.map (·.1)) (q2.map (·.1))
          have h2 : x.cps.toList.length = x.length := Array.length_toList
          omega
        have e := slice_cut x (q1.map (·.1)) (q2.map (·.1))
        unfold Txt.slice at e
        unfold sliceMade slicePicked
        simp only [Option.map_none, Option.getD_none]
        split
        · rename_i h
          rw [if_pos h] at e
          exact Post.after st0 (post_ok rfl (Step.refl st0.inv st0.loc) (by rw [← e]; exact .str _ _ hz hok))
        · rename_i h
          rw [if_neg h] at e
          rw [e]
          exact ⟨hle, Post.after st0 (post_ok rfl (Step.toks st0.inv st0.loc _) (.str _ _ hle (strOk_cut hok _ _)))⟩
    · revert hne
      split <;> intro hne
      · rename_i xs hx
        obtain ⟨k, items, rfl, hL, hr, hz⟩ := list_at st0.inv ha hx
        refine tail_any hL.typeIs slot_list_getitem.lookup ?_ (ops := [.ref s.heap.objs.size, .ref k]) rfl
        refine wpAny_getItem_list_slice hL (Heap.IsSliceOf.new ..) i1 i2 .none (by simp) ?_ hz
        have e : (slicePick items (q1.map (·.1)) (q2.map (·.1)) none).toList = Mine.cut items.toList (q1.map (·.1)) (q2.map (·.1)) := by
          rw [slicePick_plain]; unfold Mine.cut; rw [Array.length_toList]
        refine Post.after st0 ?_
        refine newList_ok (items := slicePick items (q1.map (·.1)) (q2.map (·.1)) none) st0.inv st0.loc (by rw [e]; exact hr.cut _ _) ?_ rfl rfl rfl
        have h1 := slicePick_size_le items (q1.map (·.1)) (q2.map (·.1)) none
        omega
      · exact absurd rfl hne
  · exact absurd rfl hne
end
end Mine
end
section
set_option Elab.async false
set_option linter.all false
set_option maxRecDepth 100000
namespace Mine
open PySem PySem.W PyProof.Rows

/-- what the function's scope says of its names holds of the frame -/
structure ScOk (sc : Scope) (env : Env) : Prop where
  loc : ∀ x, sc.names.lookup x = some .local → env.kindOf x = some .local
  glob : ∀ x, sc.names.lookup x = some .globalImplicit → env.kindOf x = some .globalImplicit
  cel : ∀ x, (sc.names.lookup x = some .cell ∨ sc.names.lookup x = some .free) → env.kindOf x = some .cell ∨ env.kindOf x = some .free
  cell : ∀ x, sc.names.lookup x = some .cell → env.kindOf x = some .cell
  has : ∀ x, (env.kindOf x = some .cell ∨ env.kindOf x = some .free) → ∃ a, env.cells.lookup x = some a

noncomputable def truRs (v : V) (σ : St) : Rs Bool := match truV σ.toHp v with | some b => .ok b σ | Option.none => .bad
noncomputable def tr (f : St → Rs V) (σ : St) : Rs Bool := (f σ).bind truRs
noncomputable def asArgs (f : St → Rs V) (σ : St) : Rs (List V) := (f σ).bind fun v σ' => argR v σ' fun xs σ' => .ok xs σ'

/-- who keeps a call's things: it is asked, and nothing is changed -/
noncomputable def Keeps (M : Model) (A : Around) (cf : Value) (s : Shared) : Prop := ∀ (E : Value → Shared → Prop) (Q : Keeper → Shared → Prop), (∀ k, Q k s) → wpAny M A (keeperOf cf) Q E s

structure CxOk (P : Par) (cx : Cx) : Prop where
  gl : ∀ x v, cx.gl x = some v → ∃ c mg mb, P.B.Ns mainGlobals mg ∧ P.B.Ns builtinsNs mb ∧ (mg x = some c ∨ (mg x = none ∧ mb x = some c)) ∧ ∀ W n, VR W n v c
  app : ∀ fr A env, Fm P cx.calm cx.lvl fr A env → ∀ W σ s, Inv P fr W σ.toHp s → Loc env W σ s.heap → ∀ f args cf cargs, VR W σ.nxt f cf → VRs W σ.nxt args cargs → (cx.app f args σ.toHp).lift σ ≠ .bad →
    Keeps P.M A cf s ∧ wpAny P.M A (call cf cargs []) (Post P fr env W σ s ((cx.app f args σ.toHp).lift σ)) (EPost P fr env W σ s ((cx.app f args σ.toHp).lift σ)) s
  get : ∀ fr A env, Fm P cx.calm cx.lvl fr A env → ∀ W σ s, Inv P fr W σ.toHp s → Loc env W σ s.heap → ∀ o m co vf first, VR W σ.nxt o co → cx.get o m σ.toHp = some (vf, first) → ∀ (pl : Sem Bool) (E : Value → Shared → Prop) (Q : Value × List Value → Shared → Prop),
    (∀ r s' W', Step P fr env W σ s W' σ s' → VR W' σ.nxt vf r.1 → VRs W' σ.nxt first r.2 → Q r s') → wpAny P.M A (getMethod co m pl) Q E s
  fld : ∀ fr A env, Fm P cx.calm cx.lvl fr A env → ∀ W σ s, Inv P fr W σ.toHp s → Loc env W σ s.heap → ∀ o f co, VR W σ.nxt o co → (cx.fld o f σ.toHp).st σ ≠ .bad →
    wpAny P.M A (getAttr co f true) (Post P fr env W σ s ((cx.fld o f σ.toHp).st σ)) (EPost P fr env W σ s ((cx.fld o f σ.toHp).st σ)) s

section
variable {P : Par} {fr : List Nat} {A : Around} {env : Env} {W : Wd} {σ : St} {s : Shared} {cx : Cx}

theorem evalArgs_any {M : Model} {E : Value → Shared → Prop} {f : Value} {trees : List (Bool × Sem Value)} {Q : Args → Shared → Prop} (hs : trees.any (·.1) = false)
    (h : wpAny M A (spliced trees) (fun vs s' => Q ⟨vs, []⟩ s') E s) : wpAny M A (evalArgs f true trees []) Q E s := by
  cases trees with
  | nil =>
    unfold evalArgs
    show wpAny M A (spliced [] >>= _) Q E s
    refine wpAny_bind (wpAny_mono h (fun vs s' h' => ?_) fun _ _ x => x)
    refine wpAny_bind (wpAny_pure ?_)
    refine wpAny_holding ?_
    exact wpAny_bind (wpAny_pure (wpAny_bind (wpAny_pure (wpAny_pure h'))))
  | cons x r =>
    obtain ⟨b, t⟩ := x
    have hb : b = false := by simp at hs; exact hs.1
    subst hb
    exact Calls.evalArgs_plain h

theorem callWith_any {M : Model} {E : Value → Shared → Prop} {pos : Pos} {f : Value} {first : List Value} {trees : List (Bool × Sem Value)} {Q : Value → Shared → Prop} (hs : trees.any (·.1) = false)
    (h : wpAny M A (spliced trees) (fun vs s₁ => Keeps M A f s₁ ∧ wpAny M A (call f (first ++ vs) []) Q E s₁) E s) : wpAny M A (callWith pos f first trees []) Q E s := by
  unfold callWith
  refine wpAny_bind (wpAny_holding (evalArgs_any hs (wpAny_mono h (fun vs s₁ h₁ => wpAny_bind (wpAny_standAt ?_)) fun _ _ x => x)))
  simp only [hs, List.any_nil, Bool.or_false]
  have tail : ∀ {t : Sem Value}, wpAny M A t Q E s₁ → wpAny M A (t >>= fun r => holding [r] point >>= fun _ => pure r) Q E s₁ :=
    fun ht => wpAny_bind (wpAny_mono ht (fun r s₂ hr => wpAny_bind (wpAny_holding (wpAny_point (wpAny_pure hr)))) fun _ _ x => x)
  refine wpAny_bind (h₁.1 _ _ fun k => ?_)
  cases k with
  | frame =>
    dsimp only
    split
    · exact tail h₁.2
    · exact tail (by unfold callMarked; exact Calls.wpAny_keep h₁.2)
  | boundFrame =>
    dsimp only
    split
    · exact tail h₁.2
    · exact tail (by unfold callMarked; exact Calls.wpAny_keep h₁.2)
  | machine => exact tail h₁.2
  | caller => exact tail (wpAny_operating h₁.2)
end
end Mine
end
section
set_option Elab.async false
set_option linter.all false
set_option maxRecDepth 100000
namespace Mine
open PySem PySem.W PyProof.Rows

section
variable {P : Par} {fr : List Nat} {A : Around} {env : Env} {W : Wd} {σ : St} {s : Shared} {cx : Cx}

noncomputable def Claim (P : Par) (cx : Cx) (x : X) (fr : List Nat) (A : Around) (env : Env) : Ph → Prop
  | .e ex => OkE P fr A env (eval ex env) (ev cx x) ∧ OkB P fr A env (isTrue ex env (eval ex env)) (tr (ev cx x))
  | .none => OkE P fr A env (pure .none) (ev cx x)
  | .es l => ∀ pos, (backTo pos (starEach l env)).any (·.1) = false ∧ (backTo pos (starEach l env)).length = l.length ∧ OkL P fr A env (spliced (backTo pos (starEach l env))) (asArgs (ev cx x))
  | .an l => l ≠ [] ∧ ∀ pos whole, OkE P fr A env (eval (.BoolOp .And l pos) env) (ev cx x) ∧ OkB P fr A env (isTrue (.BoolOp .And l pos) env whole) (tr (ev cx x))
  | .or l => l ≠ [] ∧ ∀ pos whole, OkE P fr A env (eval (.BoolOp .Or l pos) env) (ev cx x) ∧ OkB P fr A env (isTrue (.BoolOp .Or l pos) env whole) (tr (ev cx x))
  | .cond l => l = [] ∧ ∀ σ, ev cx x σ = .ok (.bool true) σ

noncomputable def Snd (P : Par) (cx : Cx) (x : X) (sc : Scope) (ph : Ph) : Prop := ∀ fr A env, Fm P cx.calm cx.lvl fr A env → ScOk sc env → Claim P cx x fr A env ph

theorem okB_of {t : Sem Value} {f : St → Rs V} {t' : Sem Bool} (h : OkE P fr A env t f) (ht : ∀ (E : Value → Shared → Prop) (Q : Bool → Shared → Prop) s, wpAny P.M A t (fun v s₁ => wpAny P.M A (truthy v) Q E s₁) E s → wpAny P.M A t' Q E s) :
    OkB P fr A env t' (tr f) := fun W σ s I L hne => by
  refine ht _ _ s (then1 h I L hne (fun e s' h => h) fun v c W' σ' s' e st hv => ?_)
  have hb : tr f σ = truRs v σ' := Rs.bind_ok e
  rw [hb] at hne ⊢
  unfold truRs at hne ⊢
  revert hne
  split <;> intro hne
  · rename_i b hb'
    exact truthy_ok st.inv hv hb' fun t => ⟨σ', W', rfl, st.trans (Step.toks st.inv st.loc t)⟩
  · exact absurd rfl hne

theorem okB_plain {ex : Expr} {f : St → Rs V} (h : OkE P fr A env (eval ex env) f) (he : ∀ whole, isTrue ex env whole = (do let v ← whole; standAt ex.pos; holding [v] (truthy v))) :
    OkB P fr A env (isTrue ex env (eval ex env)) (tr f) := okB_of h fun _ _ _ hq => isTrue_plain hq (he _)

theorem snd_const {x : X} {v : V} {ex : Expr} (hev : ∀ σ, ev cx x σ = .ok v σ) (hok : ∀ W σ s, Inv P fr W σ.toHp s → Loc env W σ s.heap → ∀ (Q : Value → Shared → Prop) (E : Value → Shared → Prop), (∀ c t, VR W σ.nxt v c → Q c { s with toks := t }) → wpAny P.M A (eval ex env) Q E s) :
    OkE P fr A env (eval ex env) (ev cx x) := fun W σ s I L _ => hok W σ s I L _ _ fun c t hv => by rw [hev]; exact post_ok rfl (Step.toks I L t) hv

theorem good_name {x : Str} (h : goodName x = true) : (x == ("__debug__" : Str)) = false ∧ (x == ("__classdict__" : Str)) = false := by
  simp only [goodName, Bool.and_eq_true, bne, Bool.not_eq_true'] at h
  exact h

theorem snd_var {sc : Scope} {x : Str} {p : Pos} (h : (goodName x && sc.names.lookup x == some .local) = true) : Snd P cx (.var x) sc (.e (.Name x p)) := by
  intro fr A env F S
  simp only [Bool.and_eq_true, beq_iff_eq] at h
  obtain ⟨hd, hcd⟩ := good_name h.1
  have hk := S.loc x h.2
  have key : OkE P fr A env (eval (.Name x p) env) (ev cx (.var x)) := fun W σ s I L hne => by
    have hev : ev cx (.var x) σ = (match σ.loc.lookup x with | some v => .ok v σ | Option.none => .bad) := rfl
    rw [hev] at hne ⊢
    split at hne
    · rename_i v hv
      obtain ⟨m, hn, hl⟩ := L.loc
      obtain ⟨_, c, hm, hr⟩ := hl x v hv
      exact wpAny_Name (wpAny_loadName_local L.kind hk hn hm (post_ok rfl (Step.refl I L) hr)) hd
    · exact absurd rfl hne
  exact ⟨key, okB_plain key fun _ => rfl⟩

theorem snd_cv {sc : Scope} {x : Str} {p : Pos} (h : (goodName x && (sc.names.lookup x == some .cell || sc.names.lookup x == some .free)) = true) : Snd P cx (.cv x) sc (.e (.Name x p)) := by
  intro fr A env F S
  simp only [Bool.and_eq_true, Bool.or_eq_true, beq_iff_eq] at h
  obtain ⟨hd, hcd⟩ := good_name h.1
  have hk := S.cel x h.2
  have key : OkE P fr A env (eval (.Name x p) env) (ev cx (.cv x)) := fun W σ s I L hne => by
    have hev : ev cx (.cv x) σ = (match σ.cel.lookup x with
      | some k => (match σ.obj k with | some (.cell (some v)) => .ok v σ | _ => .bad)
      | Option.none => .bad) := rfl
    rw [hev] at hne ⊢
    revert hne
    split
    · rename_i k hk'
      split <;> intro hne
      · rename_i v hv
        obtain ⟨p, q⟩ := L.cel x k hk'
        obtain ⟨_, c, hc, hr⟩ := I.obj k _ hv
        cases hr with
        | cell hd' hr =>
          have hcell : s.heap.IsCell (W.ρ k) (some _) := ⟨_, hc, hd'⟩
          refine wpAny_Name ?_ hd
          rcases hk with hk | hk
          · exact wpAny_loadName_cell L.kind hk (q (.inl hk)) hcell (post_ok rfl (Step.refl I L) hr)
          · refine wpAny_loadName_free L.kind hk (q (.inr hk)) hcell (post_ok rfl (Step.refl I L) hr) hcd
      · exact absurd rfl hne
    · intro hne; exact absurd rfl hne
  exact ⟨key, okB_plain key fun _ => rfl⟩

theorem keeps_ns (I : Inv P fr W σ.toHp s) {a : Addr} {m : Str → Option Value} (h : P.B.Ns a m) : s.heap.Ns a m := h.keeps I.keep

theorem snd_glob (C : CxOk P cx) {sc : Scope} {x : Str} {p : Pos} (h : (goodName x && sc.names.lookup x == some .globalImplicit) = true) : Snd P cx (.glob x) sc (.e (.Name x p)) := by
  intro fr A env F S
  simp only [Bool.and_eq_true, beq_iff_eq] at h
  obtain ⟨hd, hcd⟩ := good_name h.1
  have hk := S.glob x h.2
  have key : OkE P fr A env (eval (.Name x p) env) (ev cx (.glob x)) := fun W σ s I L hne => by
    have hev : ev cx (.glob x) σ = (match cx.gl x with | some v => .ok v σ | Option.none => .bad) := rfl
    rw [hev] at hne ⊢
    revert hne
    split <;> intro hne
    · rename_i v hv
      obtain ⟨c, mg, mb, n1, n2, hc, hr⟩ := C.gl x v hv
      refine Calls.Name_function_global (env := env) L.kind hk ?_ hd
      rcases hc with hc | ⟨hc, hb⟩
      · exact Calls.loadGlobal_global (by rw [L.glob]; exact keeps_ns I n1) hc (post_ok rfl (Step.refl I L) (hr _ _))
      · exact Calls.loadGlobal_builtin (by rw [L.glob]; exact keeps_ns I n1) hc (by rw [L.bns]; exact keeps_ns I n2) hb (post_ok rfl (Step.refl I L) (hr _ _))
    · exact absurd rfl hne
  exact ⟨key, okB_plain key fun _ => rfl⟩

theorem snd_none {sc : Scope} {k : Nat} {p : Pos} : Snd P cx .none sc (.e (.Constant .none k p)) := fun fr A env F S =>
  have key : OkE P fr A env (eval (.Constant .none k p) env) (ev cx .none) := snd_const (v := .none) (fun _ => rfl) fun W σ s I L Q E hq => fun _ _ _ => hq .none s.toks .none
  ⟨key, okB_plain key fun _ => rfl⟩
theorem snd_none' {sc : Scope} : Snd P cx .none sc .none := fun fr A env F S W σ s I L _ => wpAny_pure (post_ok rfl (Step.refl I L) .none)
theorem snd_bool {sc : Scope} {b : Bool} {k : Nat} {p : Pos} : Snd P cx (.bool b) sc (.e (.Constant (.bool b) k p)) := fun fr A env F S =>
  have key : OkE P fr A env (eval (.Constant (.bool b) k p) env) (ev cx (.bool b)) := snd_const (v := .bool b) (fun _ => rfl) fun W σ s I L Q E hq => fun _ _ _ => hq (.bool b) s.toks (.bool b)
  ⟨key, okB_plain key fun _ => rfl⟩
theorem snd_tt {sc : Scope} : Snd P cx (.bool true) sc (.cond []) := fun fr A env F S => ⟨rfl, fun σ => rfl⟩
theorem snd_int {sc : Scope} {i : Int} {k : Nat} {p : Pos} : Snd P cx (.int i) sc (.e (.Constant (.int i) k p)) := fun fr A env F S =>
  have key : OkE P fr A env (eval (.Constant (.int i) k p) env) (ev cx (.int i)) := snd_const (v := .int i) (fun _ => rfl) fun W σ s I L Q E hq => wpAny_Constant_int (hq _ _ (.int _ _))
  ⟨key, okB_plain key fun _ => rfl⟩
theorem snd_str {sc : Scope} {x : Str} {k : Nat} {p : Pos} (h : (decide (x.length ≤ sizeLine) && PyData.strOk x) = true) : Snd P cx (.str x) sc (.e (.Constant (.str x) k p)) := fun fr A env F S => by
  simp only [Bool.and_eq_true, decide_eq_true_eq] at h
  have key : OkE P fr A env (eval (.Constant (.str x) k p) env) (ev cx (.str x)) := snd_const (v := .str x) (fun _ => rfl) fun W σ s I L Q E hq => Calls.Constant_str (hq _ _ (.str _ _ h.1 h.2))
  exact ⟨key, okB_plain key fun _ => rfl⟩
theorem snd_unk {sc : Scope} {e : Expr} : Snd P cx .unk sc (.e e) := fun fr A env F S => ⟨fun W σ s I L hne => absurd rfl hne, fun W σ s I L hne => absurd rfl hne⟩

/-- two trees, then an operation of their values -/
theorem then2 {ta tb : Sem Value} {fa fb : St → Rs V} {g : Value → Value → Sem Value} {k : V → V → St → Rs V} (ha : OkE P fr A env ta fa) (hb : OkE P fr A env tb fb) (I : Inv P fr W σ.toHp s) (L : Loc env W σ s.heap)
    (hne : ((fa σ).bind fun va σ₁ => (fb σ₁).bind fun vb σ₂ => k va vb σ₂) ≠ .bad)
    (hg : ∀ W σ s va vb ca cb, Inv P fr W σ.toHp s → Loc env W σ s.heap → VR W σ.nxt va ca → VR W σ.nxt vb cb → k va vb σ ≠ .bad → wpAny P.M A (g ca cb) (Post P fr env W σ s (k va vb σ)) (EPost P fr env W σ s (k va vb σ)) s) :
    wpAny P.M A ta (fun a s₁ => wpAny P.M A tb (fun b s₂ => wpAny P.M A (g a b) (Post P fr env W σ s ((fa σ).bind fun va σ₁ => (fb σ₁).bind fun vb σ₂ => k va vb σ₂)) (EPost P fr env W σ s ((fa σ).bind fun va σ₁ => (fb σ₁).bind fun vb σ₂ => k va vb σ₂)) s₂)
      (EPost P fr env W σ s ((fa σ).bind fun va σ₁ => (fb σ₁).bind fun vb σ₂ => k va vb σ₂)) s₁) (EPost P fr env W σ s ((fa σ).bind fun va σ₁ => (fb σ₁).bind fun vb σ₂ => k va vb σ₂)) s := by
  refine wpAny_mono (ha W σ s I L (Rs.bind_ne hne)) (fun ca s₁ ⟨va, σ₁, W₁, e₁, st₁, hva⟩ => ?_) (fun e s' h => h.cast fun _ _ q => Rs.bind_err q)
  have r1 : ((fa σ).bind fun va σ₁ => (fb σ₁).bind fun vb σ₂ => k va vb σ₂) = (fb σ₁).bind fun vb σ₂ => k va vb σ₂ := Rs.bind_ok e₁
  rw [r1] at hne ⊢
  refine wpAny_mono (hb W₁ σ₁ s₁ st₁.inv st₁.loc (Rs.bind_ne hne)) (fun cb s₂ ⟨vb, σ₂, W₂, e₂, st₂, hvb⟩ => ?_) (fun e s' h => (h.after st₁).cast fun _ _ q => Rs.bind_err q)
  have r2 : ((fb σ₁).bind fun vb σ₂ => k va vb σ₂) = k va vb σ₂ := Rs.bind_ok e₂
  rw [r2] at hne ⊢
  have st := st₁.trans st₂
  exact wpAny_mono (hg W₂ σ₂ s₂ va vb ca cb st.inv st.loc (hva.mono st₂.nx.wle st₂.nx.le) hvb hne) (fun c s' h => h.after st) fun e s' h => h.after st

theorem snd_bin {sc : Scope} {a b : X} {op : Operator} {l r : Expr} {p : Pos} (ia : Snd P cx a sc (.e l)) (ib : Snd P cx b sc (.e r)) : Snd P cx (.bin op a b) sc (.e (.BinOp l op r p)) := fun fr A env F S =>
  have key : OkE P fr A env (eval (.BinOp l op r p) env) (ev cx (.bin op a b)) := fun W σ s I L hne =>
    wpAny_BinOp (then2 (ia fr A env F S).1 (ib fr A env F S).1 I L hne fun W σ s va vb ca cb I L ha hb hne => binV_ok I L ha hb hne)
  ⟨key, okB_plain key fun _ => rfl⟩

theorem snd_neg {sc : Scope} {a : X} {x : Expr} {p : Pos} (ia : Snd P cx a sc (.e x)) : Snd P cx (.neg a) sc (.e (.UnaryOp .USub x p)) := fun fr A env F S => by
  have key : OkE P fr A env (eval (.UnaryOp .USub x p) env) (ev cx (.neg a)) := fun W σ s I L hne => by
    refine wpAny_UnaryOp (then1 (ia fr A env F S).1 I L hne (fun e s' h => h) fun v c W' σ' s' e st hv => ?_)
    have r : ev cx (.neg a) σ = (negV v).st σ' := Rs.bind_ok e
    rw [r] at hne ⊢
    exact wpAny_mono (negV_ok st.inv st.loc hv hne) (fun c s' h => h.after st) fun e s' h => h.after st
  exact ⟨key, okB_plain key fun _ => rfl⟩
end
end Mine
end
section
set_option Elab.async false
set_option linter.all false
set_option maxRecDepth 100000
namespace Mine
open PySem PySem.W PyProof.Rows

section
variable {P : Par} {fr : List Nat} {A : Around} {env : Env} {W : Wd} {σ : St} {s : Shared} {cx : Cx}

theorem then2c {α β : Type} {ta tb : Sem Value} {fa fb : St → Rs V} {g : Value → Value → Sem α} {k : V → V → St → Rs β} {Q : α → Shared → Prop} {E : Value → Shared → Prop} (ha : OkE P fr A env ta fa) (hb : OkE P fr A env tb fb) (I : Inv P fr W σ.toHp s) (L : Loc env W σ s.heap)
    (hne : ((fa σ).bind fun va σ₁ => (fb σ₁).bind fun vb σ₂ => k va vb σ₂) ≠ .bad)
    (hE : ∀ e s', EPost P fr env W σ s ((fa σ).bind fun va σ₁ => (fb σ₁).bind fun vb σ₂ => k va vb σ₂) e s' → E e s')
    (hg : ∀ W₂ σ₂ s₂ va vb ca cb, ((fa σ).bind fun va σ₁ => (fb σ₁).bind fun vb σ₂ => k va vb σ₂) = k va vb σ₂ → Step P fr env W σ s W₂ σ₂ s₂ → VR W₂ σ₂.nxt va ca → VR W₂ σ₂.nxt vb cb → wpAny P.M A (g ca cb) Q E s₂) :
    wpAny P.M A ta (fun a s₁ => wpAny P.M A tb (fun b s₂ => wpAny P.M A (g a b) Q E s₂) E s₁) E s := by
  refine wpAny_mono (ha W σ s I L (Rs.bind_ne hne)) (fun ca s₁ ⟨va, σ₁, W₁, e₁, st₁, hva⟩ => ?_) (fun e s' h => hE e s' (h.cast fun _ _ q => Rs.bind_err q))
  have r1 : ((fa σ).bind fun va σ₁ => (fb σ₁).bind fun vb σ₂ => k va vb σ₂) = (fb σ₁).bind fun vb σ₂ => k va vb σ₂ := Rs.bind_ok e₁
  rw [r1] at hne hE hg
  refine wpAny_mono (hb W₁ σ₁ s₁ st₁.inv st₁.loc (Rs.bind_ne hne)) (fun cb s₂ ⟨vb, σ₂, W₂, e₂, st₂, hvb⟩ => ?_) (fun e s' h => hE e s' ((h.after st₁).cast fun _ _ q => Rs.bind_err q))
  exact hg W₂ σ₂ s₂ va vb ca cb (Rs.bind_ok e₂) (st₁.trans st₂) (hva.mono st₂.nx.wle st₂.nx.le) hvb

theorem tr_eq {f : St → Rs V} {v : V} {σ σ' : St} (e : f σ = .ok v σ') : tr f σ = truRs v σ' := Rs.bind_ok e
theorem tr_err {f : St → Rs V} {c : String} {σ σ' : St} (e : f σ = .err c σ') : tr f σ = .err c σ' := Rs.bind_err e
theorem tr_ne {f : St → Rs V} {σ : St} (e : tr f σ ≠ .bad) : f σ ≠ .bad := Rs.bind_ne e
theorem truRs_some {v : V} {σ : St} {b : Bool} (h : truV σ.toHp v = some b) : truRs v σ = .ok b σ := by unfold truRs; rw [h]
theorem truRs_ne {v : V} {σ : St} (h : truRs v σ ≠ .bad) : ∃ b, truV σ.toHp v = some b := by
  unfold truRs at h
  split at h
  · rename_i b hb; exact ⟨b, hb⟩
  · exact absurd rfl h
theorem tr_ok {f : St → Rs V} {b : Bool} {σ σ' : St} (e : tr f σ = .ok b σ') : ∃ v, f σ = .ok v σ' ∧ truV σ'.toHp v = some b := by
  cases hf : f σ with
  | ok v σ₁ =>
    rw [tr_eq hf] at e
    obtain ⟨b', hb⟩ := truRs_ne (v := v) (σ := σ₁) (by rw [e]; intro q; cases q)
    rw [truRs_some hb] at e; cases e
    exact ⟨v, rfl, hb⟩
  | err c σ₁ => rw [tr_err hf] at e; cases e
  | bad => unfold tr at e; rw [hf] at e; cases e
theorem tr_err_of {f : St → Rs V} {c : String} {σ σ' : St} (e : tr f σ = .err c σ') : f σ = .err c σ' := by
  cases hf : f σ with
  | ok v σ₁ =>
    rw [tr_eq hf] at e
    obtain ⟨b', hb⟩ := truRs_ne (v := v) (σ := σ₁) (by rw [e]; intro q; cases q)
    rw [truRs_some hb] at e; cases e
  | err c σ₁ => rw [tr_err hf] at e; cases e; rfl
  | bad => unfold tr at e; rw [hf] at e; cases e

/-- what asks the truth of t -/
theorem thenT {t : Sem Bool} {f : St → Rs V} {Q : Bool → Shared → Prop} {E : Value → Shared → Prop} (h : OkB P fr A env t (tr f)) (I : Inv P fr W σ.toHp s) (L : Loc env W σ s.heap) (hne : tr f σ ≠ .bad)
    (hE : ∀ e s' c σ' W' ea, e = .ref ea → f σ = .err c σ' → Step P fr env W σ s W' σ' s' → ExcAt P fr W' σ'.nxt s.heap s'.heap ea c → E e s')
    (hQ : ∀ b v σ' W' s', f σ = .ok v σ' → truV σ'.toHp v = some b → Step P fr env W σ s W' σ' s' → Q b s') : wpAny P.M A t Q E s := by
  refine wpAny_mono (h W σ s I L hne) (fun b s' ⟨σ', W', e, st⟩ => ?_) (fun ex s' ⟨c, σ', W', ea, e0, e, st, x⟩ => ?_)
  · obtain ⟨v, h1, h2⟩ := tr_ok e
    exact hQ b v σ' W' s' h1 h2 st
  · exact hE ex s' c σ' W' ea e0 (tr_err_of e) st x

theorem snd_not {sc : Scope} {a : X} {x : Expr} {p : Pos} (ia : Snd P cx a sc (.e x)) : Snd P cx (.not a) sc (.e (.UnaryOp .Not x p)) := by
  intro fr A env F S
  have J := ia fr A env F S
  have hev : ∀ σ, ev cx (.not a) σ = (ev cx a σ).bind fun va σ₁ => match truV σ₁.toHp va with | some b => .ok (.bool !b) σ₁ | Option.none => .bad := fun _ => rfl
  have tne : ∀ σ, ev cx (.not a) σ ≠ .bad → tr (ev cx a) σ ≠ .bad := fun σ h => by
    rw [hev] at h
    cases hf : ev cx a σ with
    | ok v σ₁ =>
      rw [hf] at h
      rw [tr_eq hf]
      intro q; apply h
      have hn : truV σ₁.toHp v = none := by
        cases ht : truV σ₁.toHp v with
        | none => rfl
        | some b => rw [truRs_some ht] at q; cases q
      show (match truV σ₁.toHp v with | some b => Rs.ok (V.bool !b) σ₁ | Option.none => .bad) = .bad
      rw [hn]
    | err c σ₁ => rw [tr_err hf]; intro q; cases q
    | bad => rw [hf] at h; exact absurd rfl h
  refine ⟨fun W σ s I L hne => ?_, fun W σ s I L hne => ?_⟩
  · refine wpAny_UnaryOp (then1 J.1 I L hne (fun e s' h => h) fun v c W' σ' s' e st hv => ?_)
    have r : ev cx (.not a) σ = (match truV σ'.toHp v with | some b => .ok (.bool !b) σ' | Option.none => .bad) := Rs.bind_ok e
    rw [r] at hne ⊢
    revert hne
    split <;> intro hne
    · rename_i b hb
      exact not_of (truthy_ok st.inv hv hb fun t => post_ok rfl (st.trans (Step.toks st.inv st.loc t)) (.bool _))
    · exact absurd rfl hne
  · refine isTrue_not (thenT J.2 I L (tne σ (tr_ne hne)) (fun e s' c σ' W' ea e0 e st x => ⟨c, σ', W', ea, e0, tr_err (by rw [hev]; exact Rs.bind_err e), st, x⟩) fun b v σ' W' s' e hb st => ?_)
    have r : ev cx (.not a) σ = .ok (.bool !b) σ' := by rw [hev, Rs.bind_ok e, hb]
    exact ⟨σ', W', by rw [tr_eq r]; rfl, st⟩

theorem tr_bind {g : V → St → Rs V} {r : Rs V} : (r.bind g).bind truRs = r.bind fun v σ' => (g v σ').bind truRs := by
  cases r <;> rfl

theorem snd_cmp {sc : Scope} {a b : X} {op : CmpOp} {l r : Expr} {p : Pos} (ia : Snd P cx a sc (.e l)) (ib : Snd P cx b sc (.e r)) (h3 : behindInMarks op r = false) : Snd P cx (.cmp op a b) sc (.e (.Compare l [op] [r] p)) := by
  intro fr A env F S
  have Ja := ia fr A env F S
  have Jb := ib fr A env F S
  refine ⟨fun W σ s I L hne => ?_, fun W σ s I L hne => ?_⟩
  · exact wpAny_Compare1 (then2 Ja.1 Jb.1 I L hne fun W σ s va vb ca cb I L ha hb hne => cmpV_ok F I L ha hb hne) h3
  · refine wpAny_isTrue_Compare1 ?_ h3
    have e2 : tr (ev cx (.cmp op a b)) σ = (ev cx a σ).bind fun va σ₁ => (ev cx b σ₁).bind fun vb σ₂ => ((cmpV σ₂.toHp op va vb).st σ₂).bind truRs := by
      show ((ev cx a σ).bind fun va σ₁ => (ev cx b σ₁).bind fun vb σ₂ => (cmpV σ₂.toHp op va vb).st σ₂).bind _ = _
      rw [tr_bind]
      congr 1; funext va σ₁
      rw [tr_bind]
    rw [e2] at hne ⊢
    refine then2c Ja.1 Jb.1 I L hne (fun e s' h => h) fun W₂ σ₂ s₂ va vb ca cb e st hva hvb => ?_
    rw [e] at hne ⊢
    refine wpAny_mono (cmpV_ok F st.inv st.loc hva hvb (Rs.bind_ne hne)) (fun c s' ⟨v, σ', W', e', st', hv⟩ => ?_) (fun e s' h => (h.after st).cast fun _ _ q => Rs.bind_err q)
    rw [Rs.bind_ok e'] at hne ⊢
    obtain ⟨bb, hb⟩ := truRs_ne hne
    exact truthy_ok st'.inv hv hb fun t => ⟨σ', W', truRs_some hb, (st.trans st').trans (Step.toks st'.inv st'.loc t)⟩

theorem then1p {β : Type} {t : Sem Value} {f : St → Rs V} {G : Value → Shared → Prop} {k : V → St → Rs β} {E : Value → Shared → Prop}
    (ht : OkE P fr A env t f) (I : Inv P fr W σ.toHp s) (L : Loc env W σ s.heap) (hb : (f σ).bind k ≠ .bad)
    (hE : ∀ e s', EPost P fr env W σ s ((f σ).bind k) e s' → E e s')
    (hg : ∀ v c W' σ' s', f σ = .ok v σ' → Step P fr env W σ s W' σ' s' → VR W' σ'.nxt v c → G c s') : wpAny P.M A t G E s :=
  wpAny_mono (ht W σ s I L (Rs.bind_ne hb)) (fun c s' ⟨v, σ', W', e, st, hv⟩ => hg v c W' σ' s' e st hv) (fun e s' h => hE e s' (h.cast fun _ _ q => Rs.bind_err q))

theorem then2p {β : Type} {ta tb : Sem Value} {fa fb : St → Rs V} {G : Value → Value → Shared → Prop} {k : V → V → St → Rs β} {E : Value → Shared → Prop} (ha : OkE P fr A env ta fa) (hb : OkE P fr A env tb fb) (I : Inv P fr W σ.toHp s) (L : Loc env W σ s.heap)
    (hne : ((fa σ).bind fun va σ₁ => (fb σ₁).bind fun vb σ₂ => k va vb σ₂) ≠ .bad)
    (hE : ∀ e s', EPost P fr env W σ s ((fa σ).bind fun va σ₁ => (fb σ₁).bind fun vb σ₂ => k va vb σ₂) e s' → E e s')
    (hg : ∀ W₂ σ₂ s₂ va vb ca cb, ((fa σ).bind fun va σ₁ => (fb σ₁).bind fun vb σ₂ => k va vb σ₂) = k va vb σ₂ → Step P fr env W σ s W₂ σ₂ s₂ → VR W₂ σ₂.nxt va ca → VR W₂ σ₂.nxt vb cb → G ca cb s₂) :
    wpAny P.M A ta (fun a s₁ => wpAny P.M A tb (fun b s₂ => G a b s₂) E s₁) E s := by
  refine wpAny_mono (ha W σ s I L (Rs.bind_ne hne)) (fun ca s₁ ⟨va, σ₁, W₁, e₁, st₁, hva⟩ => ?_) (fun e s' h => hE e s' (h.cast fun _ _ q => Rs.bind_err q))
  have r1 : ((fa σ).bind fun va σ₁ => (fb σ₁).bind fun vb σ₂ => k va vb σ₂) = (fb σ₁).bind fun vb σ₂ => k va vb σ₂ := Rs.bind_ok e₁
  rw [r1] at hne hE hg
  refine wpAny_mono (hb W₁ σ₁ s₁ st₁.inv st₁.loc (Rs.bind_ne hne)) (fun cb s₂ ⟨vb, σ₂, W₂, e₂, st₂, hvb⟩ => ?_) (fun e s' h => hE e s' ((h.after st₁).cast fun _ _ q => Rs.bind_err q))
  exact hg W₂ σ₂ s₂ va vb ca cb (Rs.bind_ok e₂) (st₁.trans st₂) (hva.mono st₂.nx.wle st₂.nx.le) hvb

theorem cond_ne {v : V} {σ : St} {t e : St → Rs V} (h : condR v σ t e ≠ .bad) : (truV σ.toHp v = some true ∧ condR v σ t e = t σ) ∨ (truV σ.toHp v = some false ∧ condR v σ t e = e σ) := by
  unfold condR at h ⊢
  revert h
  split <;> intro h
  · rename_i q; exact .inl ⟨q, rfl⟩
  · rename_i q; exact .inr ⟨q, rfl⟩
  · exact absurd rfl h

theorem snd_cmp2 {sc : Scope} {a b c : X} {o₁ o₂ : CmpOp} {l r₁ r₂ : Expr} {p : Pos} (ia : Snd P cx a sc (.e l)) (ib : Snd P cx b sc (.e r₁)) (ic : Snd P cx c sc (.e r₂)) (h4 : behindInMarks o₂ r₂ = false) : Snd P cx (.cmp2 o₁ o₂ a b c) sc (.e (.Compare l [o₁, o₂] [r₁, r₂] p)) := by
  intro fr A env F S
  have Ja := ia fr A env F S
  have Jb := ib fr A env F S
  have Jc := ic fr A env F S
  have hm : lastMarks [o₁, o₂] [r₁, r₂] = false := by simp only [lastMarks]; exact h4
  have key : ∀ W σ s, Inv P fr W σ.toHp s → Loc env W σ s.heap → ∀ {Ev : Value → Shared → Prop} {Qf : Shared → Prop} {Qt : Value → Value → Shared → Prop}, ev cx (.cmp2 o₁ o₂ a b c) σ ≠ .bad → (∀ e s', EPost P fr env W σ s (ev cx (.cmp2 o₁ o₂ a b c) σ) e s' → Ev e s') →
      (∀ s' W' σ', ev cx (.cmp2 o₁ o₂ a b c) σ = .ok (.bool false) σ' → Step P fr env W σ s W' σ' s' → Qf s') →
      (∀ s' W' σ' vb vd cb cd, ev cx (.cmp2 o₁ o₂ a b c) σ = (cmpV σ'.toHp o₂ vb vd).st σ' → Step P fr env W σ s W' σ' s' → VR W' σ'.nxt vb cb → VR W' σ'.nxt vd cd → Qt cb cd s') →
      wpAny P.M A (eval l env) (fun va s₁ => wpAny P.M A (eval r₁ env) (fun vb s₂ => wpAny P.M A (compareOp o₁ va vb) (fun vc s₃ => wpAny P.M A (truthy vc)
        (fun t s₄ => if t then wpAny P.M A (eval r₂ env) (fun vd s₅ => Qt vb vd s₅) Ev s₄ else Qf s₄ ∧ vc = .bool false) Ev s₃) Ev s₂) Ev s₁) Ev s := by
    intro W σ s I L Ev Qf Qt hne hE hf ht
    have hev : ev cx (.cmp2 o₁ o₂ a b c) σ = (ev cx a σ).bind fun va σ₁ => (ev cx b σ₁).bind fun vb σ₂ => ((cmpV σ₂.toHp o₁ va vb).st σ₂).bind fun r σ₃ => condR r σ₃ (fun σ₃ => (ev cx c σ₃).bind fun vc σ₄ => (cmpV σ₄.toHp o₂ vb vc).st σ₄) (fun σ₃ => .ok (.bool false) σ₃) := rfl
    rw [hev] at hne hE hf ht
    refine then2p Ja.1 Jb.1 I L hne hE fun W₂ σ₂ s₂ va vb ca cb e st hva hvb => ?_
    rw [e] at hne hE hf ht
    refine wpAny_mono (cmpV_ok F st.inv st.loc hva hvb (Rs.bind_ne hne)) (fun cc s₃ ⟨v, σ₃, W₃, e₃, st₃, hv⟩ => ?_) (fun e s' h => hE e s' ((h.after st).cast fun _ _ q => Rs.bind_err q))
    have st' := st.trans st₃
    have hne₀ := hne
    rw [Rs.bind_ok e₃] at hne hE hf ht
    have hbool : ∃ b, v = .bool b := by
      obtain ⟨r, hr⟩ := boolO_inv (σ := σ₂) (o := cmpB σ₂.toHp o₁ va vb) (Rs.bind_ne hne₀)
      have e' : (cmpV σ₂.toHp o₁ va vb).st σ₂ = .ok (.bool r) σ₂ := by unfold cmpV; rw [hr]; rfl
      rw [e'] at e₃; cases e₃; exact ⟨_, rfl⟩
    obtain ⟨bb, rfl⟩ := hbool
    cases hv
    refine wpAny_truthy_bool ?_
    cases bb with
    | true =>
      have hc : condR (.bool true) σ₃ (fun σ₃ => (ev cx c σ₃).bind fun vc σ₄ => (cmpV σ₄.toHp o₂ vb vc).st σ₄) (fun σ₃ => .ok (.bool false) σ₃) = (ev cx c σ₃).bind fun vc σ₄ => (cmpV σ₄.toHp o₂ vb vc).st σ₄ := rfl
      rw [hc] at hne hE ht
      rw [if_pos rfl]
      refine wpAny_mono (Jc.1 W₃ σ₃ s₃ st'.inv st'.loc (Rs.bind_ne hne)) (fun cd s₅ ⟨vd, σ₅, W₅, e₅, st₅, hvd⟩ => ?_) (fun e s' h => hE e s' ((h.after st').cast fun _ _ q => Rs.bind_err q))
      exact ht s₅ W₅ σ₅ vb vd cb cd (Rs.bind_ok e₅) (st'.trans st₅) (hvb.mono (st₃.trans st₅).nx.wle (st₃.trans st₅).nx.le) hvd
    | false => rw [if_neg (by decide)]; exact ⟨hf s₃ W₃ σ₃ rfl st', rfl⟩
  refine ⟨fun W σ s I L hne => ?_, fun W σ s I L hne => ?_⟩
  · refine Compare_chain (rs := []) (wpAny_mono (key W σ s I L (Qf := fun s' => ∀ w, w = .bool false → Post P fr env W σ s (ev cx (.cmp2 o₁ o₂ a b c) σ) w s') (Qt := fun cb cd s' => wpAny P.M A (compareOp o₂ cb cd) (Post P fr env W σ s (ev cx (.cmp2 o₁ o₂ a b c) σ)) (EPost P fr env W σ s (ev cx (.cmp2 o₁ o₂ a b c) σ)) s') hne (fun _ _ h => h) ?_ ?_) (fun va s₁ h₁ => ?_) fun _ _ x => x) hm
    · intro s' W' σ' e st c hc; subst hc; exact post_ok e st (.bool _)
    · intro s' W' σ' vb vd cb cd e st hb hd
      rw [e] at hne ⊢
      exact wpAny_mono (cmpV_ok F st.inv st.loc hb hd hne) (fun c s' h => h.after st) fun e s' h => h.after st
    · refine chain_link (wpAny_mono h₁ (fun vb s₂ h₂ => wpAny_mono h₂ (fun vc s₃ h₃ => wpAny_mono h₃ (fun t s₄ h₄ => ?_) fun _ _ x => x) fun _ _ x => x) fun _ _ x => x)
      cases t with
      | true => exact chain_last h₄
      | false => exact h₄.1 _ h₄.2
  · refine isTrue_chain (rs := []) (wpAny_mono (key W σ s I L (Qf := fun s' => PostB P fr env W σ s (tr (ev cx (.cmp2 o₁ o₂ a b c)) σ) false s') (Qt := fun cb cd s' => wpAny P.M A (compareOp o₂ cb cd) (fun w s₂ => wpAny P.M A (truthy w) (PostB P fr env W σ s (tr (ev cx (.cmp2 o₁ o₂ a b c)) σ)) (EPost P fr env W σ s (tr (ev cx (.cmp2 o₁ o₂ a b c)) σ)) s₂) (EPost P fr env W σ s (tr (ev cx (.cmp2 o₁ o₂ a b c)) σ)) s') (tr_ne hne) (fun _ _ h => h.cast fun _ _ q => tr_err q) ?_ ?_) (fun va s₁ h₁ => ?_) fun _ _ x => x) hm
    · intro s' W' σ' e st; exact ⟨σ', W', by rw [tr_eq e]; rfl, st⟩
    · intro s' W' σ' vb vd cb cd e st hb hd
      have hne' : ((cmpV σ'.toHp o₂ vb vd).st σ').bind truRs ≠ .bad := by rw [← e]; exact hne
      have etr : tr (ev cx (.cmp2 o₁ o₂ a b c)) σ = ((cmpV σ'.toHp o₂ vb vd).st σ').bind truRs := by rw [← e]; rfl
      rw [etr]
      refine wpAny_mono (cmpV_ok F st.inv st.loc hb hd (Rs.bind_ne hne')) (fun cc s₂ ⟨v, σ₂, W₂, e₂, st₂, hv⟩ => ?_) (fun e s' h => (h.after st).cast fun _ _ q => Rs.bind_err q)
      rw [Rs.bind_ok e₂] at hne' ⊢
      obtain ⟨bb, hb'⟩ := truRs_ne hne'
      exact truthy_ok st₂.inv hv hb' fun t => ⟨σ₂, W₂, truRs_some hb', (st.trans st₂).trans (Step.toks st₂.inv st₂.loc t)⟩
    · refine test_link (wpAny_mono h₁ (fun vb s₂ h₂ => wpAny_mono h₂ (fun vc s₃ h₃ => wpAny_mono h₃ (fun t s₄ h₄ => ?_) fun _ _ x => x) fun _ _ x => x) fun _ _ x => x)
      cases t with
      | true => exact test_last h₄
      | false => exact h₄.1

theorem snd_ite {sc : Scope} {c a b : X} {t x y : Expr} {p : Pos} (ic : Snd P cx c sc (.e t)) (ia : Snd P cx a sc (.e x)) (ib : Snd P cx b sc (.e y)) : Snd P cx (.ite c a b) sc (.e (.IfExp t x y p)) := by
  intro fr A env F S
  have Jc := ic fr A env F S
  have Ja := ia fr A env F S
  have Jb := ib fr A env F S
  have hev : ∀ σ, ev cx (.ite c a b) σ = (ev cx c σ).bind fun vc σ₁ => condR vc σ₁ (ev cx a) (ev cx b) := fun _ => rfl
  have tne : ∀ σ, ev cx (.ite c a b) σ ≠ .bad → tr (ev cx c) σ ≠ .bad := fun σ h => by
    rw [hev] at h
    cases hf : ev cx c σ with
    | ok v σ₁ =>
      rw [hf] at h
      rw [tr_eq hf]
      rcases cond_ne (h : condR v σ₁ _ _ ≠ .bad) with ⟨q, _⟩ | ⟨q, _⟩ <;> rw [truRs_some q] <;> intro q' <;> cases q'
    | err c σ₁ => rw [tr_err hf]; intro q; cases q
    | bad => rw [hf] at h; exact absurd rfl h
  have cnd : ∀ {bb : Bool} {v : V} {σ' : St}, truV σ'.toHp v = some bb → condR v σ' (ev cx a) (ev cx b) = if bb then ev cx a σ' else ev cx b σ' := fun {bb v σ'} hb => by
    unfold condR; rw [hb]; cases bb <;> rfl
  refine ⟨fun W σ s I L hne => ?_, fun W σ s I L hne => ?_⟩
  · refine wpAny_IfExp (thenT Jc.2 I L (tne σ hne) (fun e s' c' σ' W' ea e0 e st x => ⟨c', σ', W', ea, e0, by rw [hev]; exact Rs.bind_err e, st, x⟩) fun bb v σ' W' s' e hb st => ?_)
    rw [hev, Rs.bind_ok e, cnd hb] at hne ⊢
    cases bb with
    | true =>
      simp only [if_true] at hne ⊢
      exact wpAny_mono (Ja.1 W' σ' s' st.inv st.loc hne) (fun c s' h => h.after st) fun e s' h => h.after st
    | false =>
      simp only [Bool.false_eq_true, if_false] at hne ⊢
      exact wpAny_mono (Jb.1 W' σ' s' st.inv st.loc hne) (fun c s' h => h.after st) fun e s' h => h.after st
  · refine isTrue_IfExp (thenT Jc.2 I L (tne σ (tr_ne hne)) (fun e s' c' σ' W' ea e0 e st x => ⟨c', σ', W', ea, e0, tr_err (by rw [hev]; exact Rs.bind_err e), st, x⟩) fun bb v σ' W' s' e hb st => ?_)
    have etr : tr (ev cx (.ite c a b)) σ = (if bb then ev cx a σ' else ev cx b σ').bind truRs := by
      show (ev cx (.ite c a b) σ).bind truRs = _
      rw [hev, Rs.bind_ok e, cnd hb]
    rw [etr] at hne ⊢
    cases bb with
    | true =>
      simp only [if_true] at hne ⊢
      exact wpAny_mono (Ja.2 W' σ' s' st.inv st.loc hne) (fun c s' h => h.after st) fun e s' h => h.after st
    | false =>
      simp only [Bool.false_eq_true, if_false] at hne ⊢
      exact wpAny_mono (Jb.2 W' σ' s' st.inv st.loc hne) (fun c s' h => h.after st) fun e s' h => h.after st

theorem and_rest {b : X} {sc : Scope} {es : List Expr} (ib : Snd P cx b sc (.ofAnd es)) (F : Fm P cx.calm cx.lvl fr A env) (S : ScOk sc env) :
    es ≠ [] ∧ ∀ pos whole, OkE P fr A env (eval (.BoolOp .And es pos) env) (ev cx b) ∧ OkB P fr A env (isTrue (.BoolOp .And es pos) env whole) (tr (ev cx b)) := by
  match es, ib with
  | [], ib => exact ib fr A env F S
  | [e], ib =>
    have J := ib fr A env F S
    refine ⟨by simp, fun pos whole => ⟨J.1, fun W σ s I L hne => isTrue_and (wpAny_mono (J.2 W σ s I L hne) (fun b s' h => ?_) fun _ _ x => x)⟩⟩
    cases b with
    | true => exact isTrue_and_nil h
    | false => exact h
  | e :: e' :: r, ib => exact ib fr A env F S
theorem or_rest {b : X} {sc : Scope} {es : List Expr} (ib : Snd P cx b sc (.ofOr es)) (F : Fm P cx.calm cx.lvl fr A env) (S : ScOk sc env) :
    es ≠ [] ∧ ∀ pos whole, OkE P fr A env (eval (.BoolOp .Or es pos) env) (ev cx b) ∧ OkB P fr A env (isTrue (.BoolOp .Or es pos) env whole) (tr (ev cx b)) := by
  match es, ib with
  | [], ib => exact ib fr A env F S
  | [e], ib =>
    have J := ib fr A env F S
    refine ⟨by simp, fun pos whole => ⟨J.1, fun W σ s I L hne => isTrue_or (wpAny_mono (J.2 W σ s I L hne) (fun b s' h => ?_) fun _ _ x => x)⟩⟩
    cases b with
    | true => exact h
    | false => exact isTrue_or_nil h
  | e :: e' :: r, ib => exact ib fr A env F S

theorem and_core {a b : X} {sc : Scope} {e : Expr} {es : List Expr} (ia : Snd P cx a sc (.e e)) (ib : Snd P cx b sc (.ofAnd es)) (F : Fm P cx.calm cx.lvl fr A env) (S : ScOk sc env) (pos : Pos) (whole : Sem Value) :
    OkE P fr A env (eval (.BoolOp .And (e :: es) pos) env) (ev cx (.and a b)) ∧ OkB P fr A env (isTrue (.BoolOp .And (e :: es) pos) env whole) (tr (ev cx (.and a b))) := by
  have Ja := ia fr A env F S
  obtain ⟨hn, Jb⟩ := and_rest ib F S
  have hev : ∀ σ, ev cx (.and a b) σ = (ev cx a σ).bind fun va σ₁ => condR va σ₁ (ev cx b) (fun σ₁ => .ok va σ₁) := fun _ => rfl
  have tne : ∀ σ, ev cx (.and a b) σ ≠ .bad → tr (ev cx a) σ ≠ .bad := fun σ h => by
    rw [hev] at h
    cases hf : ev cx a σ with
    | ok v σ₁ =>
      rw [hf] at h
      rw [tr_eq hf]
      rcases cond_ne (h : condR v σ₁ _ _ ≠ .bad) with ⟨q, _⟩ | ⟨q, _⟩ <;> rw [truRs_some q] <;> intro q' <;> cases q'
    | err c σ₁ => rw [tr_err hf]; intro q; cases q
    | bad => rw [hf] at h; exact absurd rfl h
  match es, hn, Jb with
  | [], hn, _ => exact absurd rfl hn
  | e₂ :: r, _, Jb =>
    refine ⟨fun W σ s I L hne => ?_, fun W σ s I L hne => ?_⟩
    · refine BoolOp_and (then1p (k := fun va σ₁ => condR va σ₁ (ev cx b) (fun σ₁ => .ok va σ₁)) Ja.1 I L hne (fun e s' h => h) fun v c W' σ' s' e st hv => ?_)
      rw [hev, Rs.bind_ok e] at hne ⊢
      rcases cond_ne hne with ⟨q, r⟩ | ⟨q, r⟩
      · rw [r] at hne ⊢
        refine truthy_ok st.inv hv q fun t => ?_
        rw [if_pos rfl]
        have st' := st.trans (Step.toks st.inv st.loc t)
        exact wpAny_mono ((Jb pos whole).1 W' σ' _ st'.inv st'.loc hne) (fun c s' h => h.after st') fun e s' h => h.after st'
      · rw [r]
        refine truthy_ok st.inv hv q fun t => ?_
        rw [if_neg (by decide)]
        exact post_ok rfl (st.trans (Step.toks st.inv st.loc t)) hv
    · refine isTrue_and (thenT Ja.2 I L (tne σ (tr_ne hne)) (fun e s' c' σ' W' ea e0 e st x => ⟨c', σ', W', ea, e0, tr_err (by rw [hev]; exact Rs.bind_err e), st, x⟩) fun bb v σ' W' s' e hb st => ?_)
      cases bb with
      | true =>
        have etr : tr (ev cx (.and a b)) σ = tr (ev cx b) σ' := by
          show (ev cx (.and a b) σ).bind truRs = _
          rw [hev, Rs.bind_ok e]
          unfold condR; rw [hb]; rfl
        rw [etr] at hne ⊢
        rw [if_pos rfl]
        exact wpAny_mono ((Jb pos whole).2 W' σ' s' st.inv st.loc hne) (fun c s' h => h.after st) fun e s' h => h.after st
      | false =>
        rw [if_neg (by decide)]
        refine ⟨σ', W', ?_, st⟩
        have e1 : ev cx (.and a b) σ = .ok v σ' := by rw [hev, Rs.bind_ok e]; unfold condR; rw [hb]
        rw [tr_eq e1, truRs_some hb]

theorem or_core {a b : X} {sc : Scope} {e : Expr} {es : List Expr} (ia : Snd P cx a sc (.e e)) (ib : Snd P cx b sc (.ofOr es)) (F : Fm P cx.calm cx.lvl fr A env) (S : ScOk sc env) (pos : Pos) (whole : Sem Value) :
    OkE P fr A env (eval (.BoolOp .Or (e :: es) pos) env) (ev cx (.or a b)) ∧ OkB P fr A env (isTrue (.BoolOp .Or (e :: es) pos) env whole) (tr (ev cx (.or a b))) := by
  have Ja := ia fr A env F S
  obtain ⟨hn, Jb⟩ := or_rest ib F S
  have hev : ∀ σ, ev cx (.or a b) σ = (ev cx a σ).bind fun va σ₁ => condR va σ₁ (fun σ₁ => .ok va σ₁) (ev cx b) := fun _ => rfl
  have tne : ∀ σ, ev cx (.or a b) σ ≠ .bad → tr (ev cx a) σ ≠ .bad := fun σ h => by
    rw [hev] at h
    cases hf : ev cx a σ with
    | ok v σ₁ =>
      rw [hf] at h
      rw [tr_eq hf]
      rcases cond_ne (h : condR v σ₁ _ _ ≠ .bad) with ⟨q, _⟩ | ⟨q, _⟩ <;> rw [truRs_some q] <;> intro q' <;> cases q'
    | err c σ₁ => rw [tr_err hf]; intro q; cases q
    | bad => rw [hf] at h; exact absurd rfl h
  match es, hn, Jb with
  | [], hn, _ => exact absurd rfl hn
  | e₂ :: r, _, Jb =>
    refine ⟨fun W σ s I L hne => ?_, fun W σ s I L hne => ?_⟩
    · refine BoolOp_or (then1p (k := fun va σ₁ => condR va σ₁ (fun σ₁ => .ok va σ₁) (ev cx b)) Ja.1 I L hne (fun e s' h => h) fun v c W' σ' s' e st hv => ?_)
      rw [hev, Rs.bind_ok e] at hne ⊢
      rcases cond_ne hne with ⟨q, r⟩ | ⟨q, r⟩
      · rw [r]
        refine truthy_ok st.inv hv q fun t => ?_
        rw [if_pos rfl]
        exact post_ok rfl (st.trans (Step.toks st.inv st.loc t)) hv
      · rw [r] at hne ⊢
        refine truthy_ok st.inv hv q fun t => ?_
        rw [if_neg (by decide)]
        have st' := st.trans (Step.toks st.inv st.loc t)
        exact wpAny_mono ((Jb pos whole).1 W' σ' _ st'.inv st'.loc hne) (fun c s' h => h.after st') fun e s' h => h.after st'
    · refine isTrue_or (thenT Ja.2 I L (tne σ (tr_ne hne)) (fun e s' c' σ' W' ea e0 e st x => ⟨c', σ', W', ea, e0, tr_err (by rw [hev]; exact Rs.bind_err e), st, x⟩) fun bb v σ' W' s' e hb st => ?_)
      cases bb with
      | false =>
        have etr : tr (ev cx (.or a b)) σ = tr (ev cx b) σ' := by
          show (ev cx (.or a b) σ).bind truRs = _
          rw [hev, Rs.bind_ok e]
          unfold condR; rw [hb]; rfl
        rw [etr] at hne ⊢
        rw [if_neg (by decide)]
        exact wpAny_mono ((Jb pos whole).2 W' σ' s' st.inv st.loc hne) (fun c s' h => h.after st) fun e s' h => h.after st
      | true =>
        rw [if_pos rfl]
        refine ⟨σ', W', ?_, st⟩
        have e1 : ev cx (.or a b) σ = .ok v σ' := by rw [hev, Rs.bind_ok e]; unfold condR; rw [hb]
        rw [tr_eq e1, truRs_some hb]

theorem snd_and {sc : Scope} {a b : X} {e : Expr} {es : List Expr} {p : Pos} (ia : Snd P cx a sc (.e e)) (ib : Snd P cx b sc (.ofAnd es)) : Snd P cx (.and a b) sc (.e (.BoolOp .And (e :: es) p)) := fun fr A env F S => and_core ia ib F S p _
theorem snd_and' {sc : Scope} {a b : X} {e : Expr} {es : List Expr} (ia : Snd P cx a sc (.e e)) (ib : Snd P cx b sc (.ofAnd es)) : Snd P cx (.and a b) sc (.an (e :: es)) := fun fr A env F S => ⟨by simp, fun pos whole => and_core ia ib F S pos whole⟩
theorem snd_or {sc : Scope} {a b : X} {e : Expr} {es : List Expr} {p : Pos} (ia : Snd P cx a sc (.e e)) (ib : Snd P cx b sc (.ofOr es)) : Snd P cx (.or a b) sc (.e (.BoolOp .Or (e :: es) p)) := fun fr A env F S => or_core ia ib F S p _
theorem snd_or' {sc : Scope} {a b : X} {e : Expr} {es : List Expr} (ia : Snd P cx a sc (.e e)) (ib : Snd P cx b sc (.ofOr es)) : Snd P cx (.or a b) sc (.or (e :: es)) := fun fr A env F S => ⟨by simp, fun pos whole => or_core ia ib F S pos whole⟩
end
end Mine
end
section
set_option Elab.async false
set_option linter.all false
set_option maxRecDepth 100000
namespace Mine
open PySem PySem.W PyProof.Rows

section
variable {P : Par} {fr : List Nat} {A : Around} {env : Env} {W : Wd} {σ : St} {s : Shared} {cx : Cx}

theorem snd_idx {sc : Scope} {a i : X} {v sl : Expr} {p : Pos} (ia : Snd P cx a sc (.e v)) (ii : Snd P cx i sc (.e sl)) (h3 : isSlice sl = false) : Snd P cx (.idx a i) sc (.e (.Subscript v sl p)) := fun fr A env F S =>
  have key : OkE P fr A env (eval (.Subscript v sl p) env) (ev cx (.idx a i)) := fun W σ s I L hne =>
    Subscript_ (then2 (ia fr A env F S).1 (ii fr A env F S).1 I L hne fun W σ s va vb ca cb I L ha hb hne => idxV_ok F I L ha hb hne h3)
  ⟨key, okB_plain key fun _ => rfl⟩

/-- a part of a slice -/
theorem part_ok {x : X} {sc : Scope} {o : Option Expr} (ix : Snd P cx x sc (.ofO o)) (F : Fm P cx.calm cx.lvl fr A env) (S : ScOk sc env) : OkE P fr A env (evalPart o env) (ev cx x) := by
  cases o with
  | none => exact ix fr A env F S
  | some e => exact (ix fr A env F S).1

theorem snd_slc {sc : Scope} {a lo hi : X} {v : Expr} {l u : Option Expr} {p p' : Pos} (ia : Snd P cx a sc (.e v)) (il : Snd P cx lo sc (.ofO l)) (ih : Snd P cx hi sc (.ofO u)) : Snd P cx (.slc a lo hi) sc (.e (.Subscript v (.Slice l u Option.none p') p)) := by
  intro fr A env F S
  have Ja := ia fr A env F S
  have Jl := part_ok il F S
  have Jh := part_ok ih F S
  have key : OkE P fr A env (eval (.Subscript v (.Slice l u Option.none p') p) env) (ev cx (.slc a lo hi)) := fun W σ s I L hne => by
    have hev : ev cx (.slc a lo hi) σ = (ev cx a σ).bind fun va σ₁ => (ev cx lo σ₁).bind fun vl σ₂ => (ev cx hi σ₂).bind fun vh σ₃ => (slcV σ₃.toHp va vl vh).st σ₃ := rfl
    rw [hev] at hne ⊢
    refine Subscript_ (then1p Ja.1 I L hne (fun e s' h => h) fun va ca W₁ σ₁ s₁ e₁ st₁ hva => ?_)
    rw [Rs.bind_ok e₁] at hne ⊢
    refine wpAny_Slice (then2p Jl Jh st₁.inv st₁.loc hne (fun e s' h => h.after st₁) fun W₃ σ₃ s₃ vl vh cl ch e₃ st₃ hvl hvh => ?_)
    rw [e₃] at hne ⊢
    have st := st₁.trans st₃
    refine wpAny_pure (wpAny_mono (slcV_ok st.inv st.loc (hva.mono st₃.nx.wle st₃.nx.le) hvl hvh hne) (fun c s' h => h.after st) fun e s' h => h.after st)
  exact ⟨key, okB_plain key fun _ => rfl⟩

theorem base_plain {o : Expr} (h : noSuper o = true) (attr : Str) (env : Env) (whole : Sem Value) : attributeBase o attr env whole = whole := by
  unfold attributeBase
  split
  · cases h
  · rfl

theorem snd_attr (C : CxOk P cx) {sc : Scope} {o : X} {f : Str} {e : Expr} {p : Pos} (io : Snd P cx o sc (.e e)) (h2 : noSuper e = true) : Snd P cx (.attr o f) sc (.e (.Attribute e f p)) := by
  intro fr A env F S
  have Jo := io fr A env F S
  have key : OkE P fr A env (eval (.Attribute e f p) env) (ev cx (.attr o f)) := fun W σ s I L hne => by
    show wpAny P.M A (do
      let ov ← attributeBase e f env (eval e env)
      standAt p.atName
      let r ← holding [ov] (getAttr ov f true)
      letTemporaryGo e ov r
      pure r) _ _ s
    rw [base_plain h2]
    refine wpAny_bind (then1p (k := fun vo σ₁ => (cx.fld vo f σ₁.toHp).st σ₁) Jo.1 I L hne (fun e s' h => h) fun vo co W₁ σ₁ s₁ e₁ st₁ hvo => ?_)
    have hev : ev cx (.attr o f) σ = (cx.fld vo f σ₁.toHp).st σ₁ := Rs.bind_ok e₁
    rw [hev] at hne ⊢
    refine wpAny_bind (wpAny_standAt (wpAny_bind (wpAny_holding (wpAny_mono (C.fld fr A env F W₁ σ₁ s₁ st₁.inv st₁.loc vo f co hvo hne) (fun c s' h => ?_) fun e s' h => h.after st₁))))
    exact wpAny_bind (wpAny_letTemporaryGo (wpAny_pure (h.after st₁)))
  exact ⟨key, okB_plain key fun _ => rfl⟩

theorem starEach_cons {e : Expr} {r : List Expr} (h : ∀ x p, e ≠ .Starred x p) : starEach (e :: r) env = (false, eval e env) :: starEach r env := by
  cases e <;> first | rfl | exact absurd rfl (h _ _)
theorem not_starred {e : Expr} (h : isStar e = false) : ∀ x p, e ≠ .Starred x p := by
  rintro x p rfl
  cases h
theorem snd_nil {sc : Scope} : Snd P cx .nil sc (.es []) := fun fr A env F S pos => ⟨rfl, rfl, fun W σ s I L _ => Calls.spliced_nil ⟨_, σ, W, rfl, Step.refl I L, .nil⟩⟩
theorem snd_cons {sc : Scope} {a b : X} {e : Expr} {r : List Expr} (ia : Snd P cx a sc (.e e)) (ib : Snd P cx b sc (.es r)) (hs : isStar e = false) : Snd P cx (.cons a b) sc (.es (e :: r)) := by
  intro fr A env F S
  have Ja := ia fr A env F S
  have Jb := ib fr A env F S
  intro pos
  have hst := starEach_cons (env := env) (r := r) (not_starred hs)
  obtain ⟨q1, q2, Jb⟩ := Jb pos
  have hbt : backTo pos (starEach (e :: r) env) = (false, eval e env) :: backTo pos (starEach r env) := by rw [hst]; rfl
  rw [hbt]
  refine ⟨by simpa using q1, by simpa using q2, fun W σ s I L hne => ?_⟩
  have hev : asArgs (ev cx (.cons a b)) σ = (ev cx a σ).bind fun va σ₁ => (asArgs (ev cx b) σ₁).bind fun vs σ₂ => .ok (va :: vs) σ₂ := by
    show ((ev cx a σ).bind fun va σ₁ => (ev cx b σ₁).bind fun vs σ₂ => argR vs σ₂ fun xs σ₂ => Rs.ok (V.list (va :: xs)) σ₂).bind _ = _
    cases ev cx a σ with
    | ok va σ₁ =>
      show ((ev cx b σ₁).bind _).bind _ = ((ev cx b σ₁).bind _).bind _
      cases ev cx b σ₁ with
      | ok vs σ₂ => cases vs <;> rfl
      | err c σ₂ => rfl
      | bad => rfl
    | err c σ₁ => rfl
    | bad => rfl
  rw [hev] at hne ⊢
  refine Calls.spliced_cons (then1p Ja.1 I L hne (fun e s' h => h) fun va ca W₁ σ₁ s₁ e₁ st₁ hva => ?_)
  rw [Rs.bind_ok e₁] at hne ⊢
  refine wpAny_mono (Jb W₁ σ₁ s₁ st₁.inv st₁.loc (Rs.bind_ne hne)) (fun cs s₂ ⟨vs, σ₂, W₂, e₂, st₂, hvs⟩ => ?_) (fun e s' h => (h.after st₁).cast fun _ _ q => Rs.bind_err q)
  rw [Rs.bind_ok e₂]
  exact ⟨_, σ₂, W₂, rfl, st₁.trans st₂, .cons (hva.mono st₂.nx.wle st₂.nx.le) hvs⟩

theorem asArgs_ok {f : St → Rs V} {xs : List V} {σ σ' : St} (h : asArgs f σ = .ok xs σ') : f σ = .ok (.list xs) σ' := by
  unfold asArgs at h
  cases hf : f σ with
  | ok v σ₁ =>
    rw [hf] at h
    have h' : argR v σ₁ (fun xs σ' => Rs.ok xs σ') = .ok xs σ' := h
    cases v <;> first | cases h' | skip
    rfl
  | err c σ₁ => rw [hf] at h; cases h
  | bad => rw [hf] at h; cases h
theorem asArgs_err {f : St → Rs V} {c : String} {σ σ' : St} (h : asArgs f σ = .err c σ') : f σ = .err c σ' := by
  unfold asArgs at h
  cases hf : f σ with
  | ok v σ₁ =>
    rw [hf] at h
    have h' : argR v σ₁ (fun xs σ' => Rs.ok xs σ') = .err c σ' := h
    cases v <;> cases h'
  | err c σ₁ => rw [hf] at h; cases h; rfl
  | bad => rw [hf] at h; cases h

/-- the arguments, then what they ask -/
theorem thenArgs {β : Type} {t : Sem (List Value)} {f : St → Rs V} {G : List Value → Shared → Prop} {k : List V → St → Rs β} {E : Value → Shared → Prop}
    (ht : OkL P fr A env t (asArgs f)) (I : Inv P fr W σ.toHp s) (L : Loc env W σ s.heap) (hb : ((f σ).bind fun v σ' => argR v σ' k) ≠ .bad)
    (hE : ∀ e s', EPost P fr env W σ s ((f σ).bind fun v σ' => argR v σ' k) e s' → E e s')
    (hg : ∀ xs cs W' σ' s', ((f σ).bind fun v σ' => argR v σ' k) = k xs σ' → Step P fr env W σ s W' σ' s' → VRs W' σ'.nxt xs cs → G cs s') : wpAny P.M A t G E s := by
  have hne : asArgs f σ ≠ .bad := by
    unfold asArgs
    cases hf : f σ with
    | ok v σ₁ =>
      rw [hf] at hb
      cases v <;> first | exact absurd rfl hb | (intro q; cases q)
    | err c σ₁ => intro q; cases q
    | bad => rw [hf] at hb; exact absurd rfl hb
  exact wpAny_mono (ht W σ s I L hne) (fun cs s' ⟨xs, σ', W', e, st, hv⟩ => hg xs cs W' σ' s' (by rw [Rs.bind_ok (asArgs_ok e)]; rfl) st hv) (fun e s' h => hE e s' (h.cast fun _ _ q => Rs.bind_err (asArgs_err q)))

theorem fits_ne {n : Nat} {r : Rs V} (h : fits n r ≠ .bad) : n ≤ sizeLine ∧ fits n r = r := by
  unfold fits at h ⊢
  split at h
  · rename_i q; exact ⟨q, if_pos q⟩
  · exact absurd rfl h

theorem snd_list {sc : Scope} {es : X} {l : List Expr} {p : Pos} (ie : Snd P cx es sc (.es l)) : Snd P cx (.list es) sc (.e (.List l p)) := by
  intro fr A env F S
  have Je := (ie fr A env F S) p
  have key : OkE P fr A env (eval (.List l p) env) (ev cx (.list es)) := fun W σ s I L hne => by
    refine List_ (thenArgs (k := fun xs σ₁ => fits xs.length (.ok (.list xs) σ₁)) Je.2.2 I L hne (fun e s' h => h) fun xs cs W' σ' s' e st hv => ?_)
    have hev : ev cx (.list es) σ = fits xs.length (.ok (.list xs) σ') := e
    rw [hev] at hne ⊢
    obtain ⟨hz, r⟩ := fits_ne hne
    rw [r]
    have hz' : cs.length ≤ sizeLine := by rw [hv.length]; exact hz
    exact wpAny_newObj_type (Post.after st (newList_ok (items := cs.toArray) st.inv st.loc (by simpa using hv) (by simpa using hz') rfl rfl rfl)) (by show cs.toArray.size ≤ sizeLine; rw [List.size_toArray]; exact hz')
  exact ⟨key, okB_plain key fun _ => rfl⟩

theorem snd_tup {sc : Scope} {es : X} {l : List Expr} {kd : Nat} {p : Pos} (ie : Snd P cx es sc (.es l)) : Snd P cx (.tup es) sc (.e (.Tuple l kd p)) := by
  intro fr A env F S
  have Je := (ie fr A env F S) p
  have key : OkE P fr A env (eval (.Tuple l kd p) env) (ev cx (.tup es)) := fun W σ s I L hne => by
    refine Tuple_ (thenArgs (k := fun xs σ₁ => fits xs.length (.ok (.tup xs) σ₁)) Je.2.2 I L hne (fun e s' h => h) fun xs cs W' σ' s' e st hv => ?_)
    have hev : ev cx (.tup es) σ = fits xs.length (.ok (.tup xs) σ') := e
    rw [hev] at hne ⊢
    obtain ⟨hz, r⟩ := fits_ne hne
    rw [r]
    have hz' : cs.length ≤ sizeLine := by rw [hv.length]; exact hz
    exact wpAny_newObj_type (Post.after st (newTup_ok (items := cs.toArray) st.inv st.loc (by simpa using hv) (by simpa using hz') rfl rfl rfl)) (by show cs.toArray.size ≤ sizeLine; rw [List.size_toArray]; exact hz')
  exact ⟨key, okB_plain key fun _ => rfl⟩

theorem snd_call (C : CxOk P cx) {sc : Scope} {f as : X} {n : Str} {np p : Pos} {l : List Expr} (jf : Snd P cx f sc (.e (.Name n np))) (ja : Snd P cx as sc (.es l)) : Snd P cx (.call f as) sc (.e (.Call (.Name n np) l [] p)) := by
  intro fr A env F S
  have Jf := jf fr A env F S
  have Ja := (ja fr A env F S) p
  have key : OkE P fr A env (eval (.Call (.Name n np) l [] p) env) (ev cx (.call f as)) := fun W σ s I L hne => by
    have hev : ev cx (.call f as) σ = (ev cx f σ).bind fun vf σ₁ => (ev cx as σ₁).bind fun vs σ₂ => argR vs σ₂ fun xs σ₂ => (cx.app vf xs σ₂.toHp).lift σ₂ := rfl
    rw [hev] at hne ⊢
    show wpAny P.M A (do callWith p (← eval (.Name n np) env) [] (backTo p (starEach l env)) []) _ _ s
    refine wpAny_bind (then1p Jf.1 I L hne (fun e s' h => h) fun vf cf W₁ σ₁ s₁ e₁ st₁ hvf => ?_)
    rw [Rs.bind_ok e₁] at hne ⊢
    refine callWith_any Ja.1 (thenArgs (k := fun xs σ₂ => (cx.app vf xs σ₂.toHp).lift σ₂) Ja.2.2 st₁.inv st₁.loc hne (fun e s' h => h.after st₁) fun xs cs W₂ σ₂ s₂ e₂ st₂ hvs => ?_)
    rw [e₂] at hne ⊢
    have st := st₁.trans st₂
    obtain ⟨k1, k2⟩ := C.app fr A env F W₂ σ₂ s₂ st.inv st.loc vf xs cf cs (hvf.mono st₂.nx.wle st₂.nx.le) hvs hne
    exact ⟨k1, wpAny_mono k2 (fun c s' h => h.after st) fun e s' h => h.after st⟩
  exact ⟨key, okB_plain key fun _ => rfl⟩

theorem snd_meth (C : CxOk P cx) {sc : Scope} {o as : X} {m : Str} {e : Expr} {apos p : Pos} {l : List Expr} (jo : Snd P cx o sc (.e e)) (ja : Snd P cx as sc (.es l)) (h3 : noSuper e = true) (h45 : (decide (l.length < 30) && apos.endLine == p.line) = true) : Snd P cx (.meth o m as) sc (.e (.Call (.Attribute e m apos) l [] p)) := by
  intro fr A env F S
  simp only [Bool.and_eq_true, decide_eq_true_eq, beq_iff_eq] at h45
  obtain ⟨h4, h5⟩ := h45
  have Jo := jo fr A env F S
  have Ja := (ja fr A env F S) p
  have key : OkE P fr A env (eval (.Call (.Attribute e m apos) l [] p) env) (ev cx (.meth o m as)) := fun W σ s I L hne => by
    have hev : ev cx (.meth o m as) σ = (ev cx o σ).bind fun vo σ₁ => match cx.get vo m σ₁.toHp with
      | some (vf, first) => (ev cx as σ₁).bind fun vs σ₂ => argR vs σ₂ fun xs σ₂ => (cx.app vf (first ++ xs) σ₂.toHp).lift σ₂
      | Option.none => .bad := rfl
    rw [hev] at hne ⊢
    have hform : methodCallForm (l.length + ([] : List Keyword).length) (backTo p (starEach l env)) (backToKw p (keywordEach [] env)) = true := by
      unfold methodCallForm
      have q : (backTo p (starEach l env)).all (fun x => !x.1) = true := by
        rw [List.all_eq_true]
        intro x hx
        have := List.any_eq_false.mp Ja.1 x hx
        simpa using this
      rw [q]
      show (true && true && decide (l.length + 0 + 0 < 30)) = true
      simpa using h4
    have hpos : methodCallPos true e env apos p = pure p := by unfold methodCallPos; simp [h5]
    show wpAny P.M A (do
      let ov ← attributeBase e m env (eval e env)
      standAt apos.atName
      methodCall e m apos p env ov (l.length + ([] : List Keyword).length) (backTo p (starEach l env)) (backToKw p (keywordEach [] env))) _ _ s
    rw [base_plain h3]
    refine wpAny_bind (then1p Jo.1 I L hne (fun e s' h => h) fun vo co W₁ σ₁ s₁ e₁ st₁ hvo => wpAny_bind (wpAny_standAt ?_))
    rw [Rs.bind_ok e₁] at hne ⊢
    revert hne
    split <;> intro hne
    · rename_i vf first hget
      unfold methodCall
      rw [hform]
      refine wpAny_bind (wpAny_holding (C.get fr A env F W₁ σ₁ s₁ st₁.inv st₁.loc vo m co vf first hvo hget _ _ _ fun r s₂ W₂ st₂ hf hfi => ?_))
      refine wpAny_bind (wpAny_of_eq hpos ?_)
      have st := st₁.trans st₂
      refine callWith_any Ja.1 (thenArgs (k := fun xs σ₂ => (cx.app vf (first ++ xs) σ₂.toHp).lift σ₂) Ja.2.2 st.inv st.loc hne (fun e s' h => h.after st) fun xs cs W₃ σ₃ s₃ e₃ st₃ hvs => ?_)
      rw [e₃] at hne ⊢
      have st' := st.trans st₃
      obtain ⟨k1, k2⟩ := C.app fr A env F W₃ σ₃ s₃ st'.inv st'.loc vf (first ++ xs) r.1 (r.2 ++ cs) (hf.mono st₃.nx.wle st₃.nx.le) ((hfi.mono st₃.nx.wle st₃.nx.le).append hvs) hne
      exact ⟨k1, wpAny_mono k2 (fun c s' h => h.after st') fun e s' h => h.after st'⟩
    · exact absurd rfl hne
  exact ⟨key, okB_plain key fun _ => rfl⟩

end
end Mine
end
section
set_option Elab.async false
set_option linter.all false
set_option maxRecDepth 100000
namespace Mine
open PySem PySem.W PyProof.Rows

/-- an object that no name and no list of ours holds -/
structure Out (P : Par) (fr : List Nat) (W : Wd) (n : Nat) (a : Nat) : Prop where
  notB : P.B.get? a = none
  notFr : a ∉ fr
  notFz : W.fz a = none
  notOwn : ∀ k, k < n → W.ρ k ≠ a

section
variable {P : Par} {fr : List Nat} {A : Around} {env : Env} {W W' : Wd} {σ σ' : St} {s s' s'' : Shared} {cx : Cx}

theorem Out.new (I : Inv P fr W σ.toHp s) {a : Nat} (h : s.heap.get? a = none) : Out P fr W σ.nxt a where
  notB := by
    cases q : P.B.get? a with
    | none => rfl
    | some o => have := I.keep _ _ q; rw [h] at this; cases this
  notFr := fun hm => by obtain ⟨o, e, _⟩ := (I.frB _ hm).2; rw [h] at e; cases e
  notFz := by
    cases q : W.fz a with
    | none => rfl
    | some o => have := (I.frz _ _ q).1; rw [h] at this; cases this
  notOwn := fun k hk q => by obtain ⟨o, e⟩ := I.live k hk; rw [q, h] at e; cases e

theorem Out.step {frx : List Nat} {L : Nat} {n n' : Nat} {h h' : Heap} {a : Nat} {o : Obj} (x : Out P fr W n a) (e : h.get? a = some o) (nx : Nx frx L W n h W' n' h') : Out P fr W' n' a where
  notB := x.notB
  notFr := x.notFr
  notFz := by
    cases q : W'.fz a with
    | none => rfl
    | some c =>
      rcases nx.fzn a c q with r | r
      · rw [x.notFz] at r; cases r
      · rw [e] at r; cases r
  notOwn := fun k hk q => by
    by_cases hn : k < n
    · rw [nx.wle.ρ k hn] at q; exact x.notOwn k hn q
    · have := nx.new k (Nat.not_lt.mp hn) hk; rw [q, e] at this; cases this

theorem Inv.outside (I : Inv P fr W σ.toHp s) {a : Nat} (x : Out P fr W σ.nxt a) (hk : ∀ b o, b ≠ a → s.heap.get? b = some o → s'.heap.get? b = some o) (hg : s'.gens = s.gens) (ho : s'.os = s.os) : Inv P fr W σ.toHp s' where
  keep := fun b o e => hk b o (by rintro rfl; rw [x.notB] at e; cases e) (I.keep b o e)
  old := I.old
  live := fun k h => let ⟨o, e⟩ := I.live k h; ⟨o, hk _ _ (x.notOwn k h) e⟩
  nofr := I.nofr
  nofz := I.nofz
  inj := I.inj
  obj := fun k o e => let ⟨p, c, b, d⟩ := I.obj k o e; ⟨p, c, hk _ _ (x.notOwn k p) b, d⟩
  frz := fun b c e => ⟨hk _ _ (by rintro rfl; rw [x.notFz] at e; cases e) (I.frz b c e).1, (I.frz b c e).2⟩
  frB := fun b h => ⟨(I.frB b h).1, let ⟨o, e, d⟩ := (I.frB b h).2; ⟨o, hk _ _ (by rintro rfl; exact x.notFr h) e, d⟩⟩
  gens := hg.trans I.gens
  os := ho.trans I.os

/-- behind a step, an object that is new since the step's start is changed -/
theorem Step.aside (st : Step P fr env W σ s W' σ' s') (hL : env.locals ∈ fr) {a : Nat} (hn : s.heap.get? a = none) (x : Out P fr W' σ'.nxt a) (hk : ∀ b o, b ≠ a → s'.heap.get? b = some o → s''.heap.get? b = some o) (hg : s''.gens = s'.gens) (ho : s''.os = s'.os) :
    Step P fr env W σ s W' σ' s'' := by
  refine ⟨⟨st.nx.wle, st.nx.le, fun b o e => ?_, st.nx.new, st.nx.fzn, fun b o e h1 h0 h2 => ?_, fun b o h1 h2 e => ?_⟩, st.inv.outside x hk hg ho, ?_⟩
  · obtain ⟨o', e'⟩ := st.nx.live b o e
    exact ⟨o', hk b o' (by rintro rfl; rw [hn] at e; cases e) e'⟩
  · exact hk b o (by rintro rfl; rw [hn] at e; cases e) (st.nx.ext b o e h1 h0 h2)
  · obtain ⟨o', e', d'⟩ := st.nx.fext b o h1 h2 e
    exact ⟨o', hk b o' (by rintro rfl; rw [hn] at e; cases e) e', d'⟩
  · obtain ⟨m, q1, q2⟩ := st.loc.loc
    obtain ⟨oL, es, ep, e1, r⟩ := q1
    exact ⟨st.loc.kind, st.loc.glob, st.loc.bns, ⟨m, ⟨oL, es, ep, hk _ _ (by rintro rfl; exact x.notFr hL) e1, r⟩, q2⟩, st.loc.cel⟩

theorem Inv.weaken {C : Nat} (I : Inv P (C :: fr) W σ.toHp s) : Inv P fr W σ.toHp s :=
  ⟨I.keep, I.old, I.live, fun k h q => I.nofr k h (.tail _ q), I.nofz, I.inj, I.obj, fun a c e => ⟨(I.frz a c e).1, fun q => (I.frz a c e).2 (.tail _ q)⟩, fun a h => I.frB a (.tail _ h), I.gens, I.os⟩
theorem Inv.under (I : Inv P fr W σ.toHp s) {C : Nat} {o : Obj} (x : Out P fr W σ.nxt C) (e : s.heap.get? C = some o) (hd : ∀ vs, o.data ≠ .fields vs) : Inv P (C :: fr) W σ.toHp s where
  keep := I.keep
  old := I.old
  live := I.live
  nofr := fun k h q => by
    rcases List.mem_cons.mp q with q | q
    · exact x.notOwn k h q
    · exact I.nofr k h q
  nofz := I.nofz
  inj := I.inj
  obj := I.obj
  frz := fun a c h => ⟨(I.frz a c h).1, fun q => by
    rcases List.mem_cons.mp q with q | q
    · subst q; rw [x.notFz] at h; cases h
    · exact (I.frz a c h).2 q⟩
  frB := fun a h => by
    rcases List.mem_cons.mp h with q | q
    · subst q; exact ⟨x.notB, o, e, hd⟩
    · exact I.frB a q
  gens := I.gens
  os := I.os

/-- a step of an inner frame, made behind a step of the outer one -/
theorem Step.inner {C : Nat} {cenv : Env} {W'' : Wd} {σ₁ σ₂ : St} (st : Step P fr env W σ s W' σ' s') (hL : env.locals ∈ fr) (hn : s.heap.get? C = none) (hC : cenv.locals = C) (hLC : C ≠ env.locals) (he : σ₁.toHp = σ'.toHp)
    (r : Step P (C :: fr) cenv W' σ₁ s' W'' σ₂ s'') : Step P fr env W σ s W'' { σ' with toHp := σ₂.toHp } s'' := by
  have hnx : σ₁.nxt = σ'.nxt := congrArg Hp.nxt he
  have hz : σ'.nxt ≤ σ₂.nxt := hnx ▸ r.nx.le
  have wl : Wle σ'.nxt W' W'' := hnx ▸ r.nx.wle
  refine ⟨⟨st.nx.wle.trans st.nx.le wl, Nat.le_trans st.nx.le hz, fun b o e => ?_, fun k h1 h2 => ?_, fun a c e => ?_, fun b o e h1 h0 h2 => ?_, fun b o h1 h2 e => ?_⟩, Inv.weaken (σ := σ₂) r.inv, ?_⟩
  · obtain ⟨o', e'⟩ := st.nx.live b o e; exact r.nx.live b o' e'
  · by_cases hk : k < σ'.nxt
    · rw [wl.ρ k hk]; exact st.nx.new k h1 hk
    · cases q : s.heap.get? (W''.ρ k) with
      | none => rfl
      | some o => obtain ⟨o', e'⟩ := st.nx.live _ _ q; rw [r.nx.new k (by rw [hnx]; exact Nat.not_lt.mp hk) h2] at e'; cases e'
  · rcases r.nx.fzn a c e with q | q
    · exact st.nx.fzn a c q
    · right
      cases hq : s.heap.get? a with
      | none => rfl
      | some o => obtain ⟨o', e'⟩ := st.nx.live _ _ hq; rw [q] at e'; cases e'
  · have e1 := st.nx.ext b o e h1 h0 h2
    refine r.nx.ext b o e1 (by rw [hC]; rintro rfl; rw [hn] at e; cases e) (fun hm => by
      rcases List.mem_cons.mp hm with q | q
      · subst q; rw [hn] at e; cases e
      · exact h0 q) fun k hk q => ?_
    rw [hnx] at hk
    by_cases hkn : k < σ.nxt
    · rw [st.nx.wle.ρ k hkn] at q; exact h2 k hkn q
    · have := st.nx.new k (Nat.not_lt.mp hkn) hk; rw [q, e] at this; cases this
  · obtain ⟨o', e', d'⟩ := st.nx.fext b o h1 h2 e
    obtain ⟨o'', e'', d''⟩ := r.nx.fext b o' (.tail _ h1) (by rw [hC]; rintro rfl; rw [hn] at e; cases e) e'
    exact ⟨o'', e'', d''.trans d'⟩
  · obtain ⟨m, q1, q2⟩ := st.loc.loc
    obtain ⟨oL, es, ep, e1, dd, rr⟩ := q1
    obtain ⟨oL', e2, d2⟩ := r.nx.fext _ _ (.tail _ hL) (by rw [hC]; exact Ne.symm hLC) e1
    exact ⟨st.loc.kind, st.loc.glob, st.loc.bns, ⟨m, ⟨oL', es, ep, e2, d2.trans dd, rr⟩, fun x v h => let ⟨p, c, q, rv⟩ := q2 x v h; ⟨p, c, q, rv.mono wl hz⟩⟩,
      fun x k h => let ⟨p, q⟩ := st.loc.cel x k h; ⟨Nat.lt_of_lt_of_le p hz, fun hk => by rw [wl.ρ k p]; exact q hk⟩⟩

/-- an object made since the step's start is let stand from now on -/
theorem Step.freezeLate (st : Step P fr env W σ s W' σ' s') {a : Nat} {o : Obj} (hn : s.heap.get? a = none) (e : s'.heap.get? a = some o) (x : Out P fr W' σ'.nxt a) : Step P fr env W σ s (W'.freeze a o) σ' s' := by
  have fe : ∀ b, (W'.freeze a o).fz b = if b = a then some o else W'.fz b := fun _ => rfl
  have hfz : ∀ b c, W'.fz b = some c → (W'.freeze a o).fz b = some c := fun b c h => by
    rw [fe, if_neg]; exact h
    rintro rfl; rw [x.notFz] at h; cases h
  have wl : Wle σ'.nxt W' (W'.freeze a o) := ⟨fun _ _ => rfl, hfz⟩
  have J := st.inv
  refine ⟨⟨st.nx.wle.trans st.nx.le wl, st.nx.le, st.nx.live, st.nx.new, fun b c h => ?_, st.nx.ext, st.nx.fext⟩, ⟨J.keep, J.old, J.live, J.nofr, fun k h => ?_, J.inj, fun k o' h => ?_, fun b c h => ?_, J.frB, J.gens, J.os⟩, ?_⟩
  · rw [fe] at h
    by_cases hb : b = a
    · subst hb; exact .inr hn
    · rw [if_neg hb] at h; exact st.nx.fzn b c h
  · show (if W'.ρ k = a then some o else W'.fz (W'.ρ k)) = none
    rw [if_neg (x.notOwn k h)]; exact J.nofz k h
  · obtain ⟨p, c, b, d⟩ := J.obj k o' h; exact ⟨p, c, b, d.mono wl (Nat.le_refl _)⟩
  · rw [fe] at h
    by_cases hb : b = a
    · subst hb; rw [if_pos rfl] at h; cases h; exact ⟨e, x.notFr⟩
    · rw [if_neg hb] at h; exact J.frz b c h
  · have J' := st.loc
    exact ⟨J'.kind, J'.glob, J'.bns, let ⟨m, a, b⟩ := J'.loc; ⟨m, a, fun x v h => let ⟨p, c, q, r⟩ := b x v h; ⟨p, c, q, r.mono wl (Nat.le_refl _)⟩⟩, J'.cel⟩

/-! ## what a loop draws from -/
inductive ItAt (W : Wd) (n : Nat) (h : Heap) (I : Nat) : V → Nat → Prop
  | list {v : V} {a : Nat} {i : Nat} : VR W n v (.ref a) → (∀ x y z, v ≠ .rng x y z) → h.IsListIter I a i → ItAt W n h I v i
  | rng {a b c : Int} {i : Nat} : IsRangeIter h I (a + (i : Int) * c) (Builtin.Range.rangeSize a b c - (i : Int)) c → ItAt W n h I (.rng a b c) i
theorem ItAt.mono {n n' : Nat} {h h' : Heap} {I : Nat} {v : V} {i : Nat} (x : ItAt W n h I v i) (wl : Wle n W W') (hn : n ≤ n') (hk : ∀ o, h.get? I = some o → h'.get? I = some o) : ItAt W' n' h' I v i := by
  cases x with
  | list a b c => exact .list (a.mono wl hn) b (let ⟨o, e, r⟩ := c; ⟨o, hk _ e, r⟩)
  | rng a => exact .rng (hk _ a)
theorem ItAt.there {n : Nat} {h : Heap} {I : Nat} {v : V} {i : Nat} (x : ItAt W n h I v i) : ∃ o, h.get? I = some o := by
  cases x with
  | list a b c => obtain ⟨o, e, _⟩ := c; exact ⟨o, e⟩
  | rng a => exact ⟨_, a⟩

theorem iter_start {E : Value → Shared → Prop} (I : Inv P fr W σ.toHp s) {v : V} {c : Value} {xs : List V} (hv : VR W σ.nxt v c) (e : itsV σ.toHp v = some xs) {Q : Value → Shared → Prop}
    (hq : ∀ ob, ItAt W σ.nxt (s.heap.push ob) s.heap.objs.size v 0 → Q (.ref s.heap.objs.size) { s with heap := s.heap.push ob }) : wpAny P.M A (pyIter c) Q E s := by
  have key : asList σ.toHp v = some xs → (∀ x y z, v ≠ .rng x y z) → wpAny P.M A (pyIter c) Q E s := fun h1 h2 => by
    obtain ⟨a, items, rfl, hl, _, _⟩ := list_at I hv h1
    exact wpAny_pyIter_list hl (hq _ (.list hv h2 ⟨_, Heap.get?_push_size _ rfl, rfl, rfl⟩))
  cases hv with
  | @rng _ a b c _ _ _ hf hs =>
    refine wpAny_pyIter_range (I.frz _ _ hf).1 hs (hq _ (.rng ?_))
    have e1 : a + ((0 : Nat) : Int) * c = a := by simp
    have e2 : Builtin.Range.rangeSize a b c - ((0 : Nat) : Int) = Builtin.Range.rangeSize a b c := by simp
    rw [e1, e2]
    exact Heap.get?_push_size _ rfl
  | list => exact key e (by intro x y z q; cases q)
  | ref => exact key e (by intro x y z q; cases q)
  | _ => cases e
theorem iter_again {E : Value → Shared → Prop} {v : V} {n i Ia : Nat} (x : ItAt W n s.heap Ia v i) {Q : Value → Shared → Prop} (hq : Q (.ref Ia) s) : wpAny P.M A (pyIter (.ref Ia)) Q E s := by
  cases x with
  | list a b c => exact wpAny_pyIter_listiter c hq
  | rng a => exact wpAny_pyIter_rangeiter a hq
theorem iter_next {E : Value → Shared → Prop} (I : Inv P fr W σ.toHp s) {v : V} {xs : List V} {i Ia : Nat} {x : V} (hi : ItAt W σ.nxt s.heap Ia v i) (e : itsV σ.toHp v = some xs) (hx : xs[i]? = some x) {Q : Option Value → Shared → Prop}
    (hq : ∀ c h' t, VR W σ.nxt x c → ItAt W σ.nxt h' Ia v (i + 1) → Heap.SameBut Ia s.heap h' → Q (some c) { s with heap := h', toks := t }) : wpAny P.M A (pyNext (.ref Ia)) Q E s := by
  cases hi with
  | list a b c =>
    have h1 : asList σ.toHp v = some xs := by
      cases v <;> first | exact e | exact absurd rfl (b _ _ _)
    obtain ⟨l, items, q, hl, hr, hz⟩ := list_at I a h1
    cases q
    obtain ⟨cx, g1, g2⟩ := hr.get hx
    exact wpAny_pyNext_list_item c hl (by rw [← Array.getElem?_toList]; exact g1) fun h' hit hs => hq cx h' s.toks g2 (.list a b hit) hs
  | @rng a b c _ r =>
    cases e
    rw [List.getElem?_map] at hx
    obtain ⟨j, h1, rfl⟩ := Option.map_eq_some_iff.mp hx
    have h2 : i < (Builtin.Range.rangeSize a b c).toNat := by
      have := (List.getElem?_eq_some_iff.mp h1).1
      simpa using this
    have h3 : j = i := by
      rw [List.getElem?_range h2] at h1; cases h1; rfl
    subst h3
    refine wpAny_pyNext_range_item r (by omega) fun h' hit hs => hq _ h' _ (.int _ _) (.rng ?_) hs
    have e1 : a + ((j + 1 : Nat) : Int) * c = a + (j : Int) * c + c := by push_cast; rw [Int.add_mul, Int.one_mul, Int.add_assoc]
    have e2 : Builtin.Range.rangeSize a b c - ((j + 1 : Nat) : Int) = Builtin.Range.rangeSize a b c - (j : Int) - 1 := by push_cast; omega
    rw [e1, e2]
    exact hit
theorem iter_end {E : Value → Shared → Prop} (F : A.handled = none) (I : Inv P fr W σ.toHp s) {v : V} {xs : List V} {i Ia : Nat} (hi : ItAt W σ.nxt s.heap Ia v i) (e : itsV σ.toHp v = some xs) (hx : xs[i]? = none) {Q : Option Value → Shared → Prop}
    (hq : ∀ h', Heap.ExtBut Ia s.heap h' → Q none { s with heap := h' }) : wpAny P.M A (pyNext (.ref Ia)) Q E s := by
  cases hi with
  | list a b c =>
    have h1 : asList σ.toHp v = some xs := by
      cases v <;> first | exact e | exact absurd rfl (b _ _ _)
    obtain ⟨l, items, q, hl, hr, hz⟩ := list_at I a h1
    cases q
    refine wpAny_pyNext_list_end F c hl ?_ hq
    rw [Array.getElem?_eq_none_iff]
    have := hr.length
    rw [Array.length_toList] at this
    have := List.getElem?_eq_none_iff.mp hx
    omega
  | @rng a b c _ r =>
    cases e
    refine wpAny_pyNext_range_end F r ?_ hq
    have := List.getElem?_eq_none_iff.mp hx
    simp only [List.length_map, List.length_range] at this
    omega
end
end Mine
end
section
set_option Elab.async false
set_option linter.all false
set_option maxRecDepth 100000
namespace Mine
open PySem PySem.W PyProof.Rows

noncomputable def clOf (env : Env) : List (Str × NameKind) → List (Str × Addr) → List (Str × Addr)
  | [], cs => cs
  | (n, k) :: r, cs => clOf env r (if k == .free then (n, (env.cells.lookup n).getD 0) :: cs else cs)

theorem closure_eq {env : Env} {scope : Scope} (h : ∀ n, (n, NameKind.free) ∈ scope.names → ∃ a, env.cells.lookup n = some a) : closureFor scope env = pure (clOf env scope.names []) := by
  have key : ∀ (l : List (Str × NameKind)) (cs : List (Str × Addr)), (∀ n, (n, NameKind.free) ∈ l → ∃ a, env.cells.lookup n = some a) →
      (forIn l cs fun (x : Str × NameKind) (cs : List (Str × Addr)) => (if x.2 == NameKind.free then do let a ← cellOf env x.1; pure (ForInStep.yield ((x.1, a) :: cs)) else pure (ForInStep.yield cs) : Sem (ForInStep (List (Str × Addr))))) = pure (clOf env l cs) := by
    intro l
    induction l with
    | nil => intro cs _; rfl
    | cons p r ih =>
      intro cs hl
      obtain ⟨n, k⟩ := p
      rw [List.forIn_cons]
      by_cases hk : (k == NameKind.free) = true
      · have hk' : k = .free := by simpa using hk
        subst hk'
        obtain ⟨a, ha⟩ := hl n (.head _)
        simp only [hk, if_true, clOf]
        have hc : cellOf env n = pure a := by unfold cellOf; rw [ha]
        rw [hc, pure_bind, pure_bind]
        rw [ha]
        exact ih _ fun m hm => hl m (.tail _ hm)
      · simp only [hk, clOf]
        exact ih _ fun m hm => hl m (.tail _ hm)
  unfold closureFor
  refine (congrArg (· >>= _) (Eq.trans ?_ (key scope.names [] h))).trans ?_
  · congr 1
  · rfl

theorem clOf_lookup {env : Env} {x : Str} {a : Addr} (ha : env.cells.lookup x = some a) : ∀ (l : List (Str × NameKind)) (cs : List (Str × Addr)), ((x, NameKind.free) ∈ l ∨ cs.lookup x = some a) → (cs.lookup x = none ∨ cs.lookup x = some a) → (clOf env l cs).lookup x = some a
  | [], cs, h, _ => h.elim (fun q => nomatch q) id
  | (n, k) :: r, cs, h, h2 => by
    unfold clOf
    by_cases hk : (k == NameKind.free) = true
    · rw [if_pos hk]
      have hk' : k = .free := by simpa using hk
      subst hk'
      by_cases hx : x = n
      · subst hx
        refine clOf_lookup ha r _ (.inr ?_) (.inr ?_) <;> simp [List.lookup, ha]
      · have hb : (x == n) = false := by simpa using hx
        refine clOf_lookup ha r _ ?_ ?_
        · rcases h with h | h
          · left
            rcases List.mem_cons.mp h with q | q
            · cases q; exact absurd rfl hx
            · exact q
          · right; simp only [List.lookup, hb]; exact h
        · simp only [List.lookup, hb]; exact h2
    · rw [if_neg hk]
      refine clOf_lookup ha r cs ?_ h2
      rcases h with h | h
      · left
        rcases List.mem_cons.mp h with q | q
        · cases q; exact absurd rfl hk
        · exact q
      · exact .inr h

theorem lookup_relabel (env : Env) (x : Str) : ∀ names : List (Str × NameKind), (names.map fun (n, k) => if (k == NameKind.free && env.scope.kind == .function && env.kindOf n == some .cell) then (n, NameKind.cell) else (n, k)).lookup x
    = (names.lookup x).map fun k => if (k == NameKind.free && env.scope.kind == .function && env.kindOf x == some .cell) then NameKind.cell else k
  | [] => rfl
  | (n, k) :: r => by
    show List.lookup x ((if (k == NameKind.free && env.scope.kind == .function && env.kindOf n == some .cell) = true then (n, NameKind.cell) else (n, k)) :: _) = _
    by_cases hx : (x == n) = true
    · have hx' : x = n := by simpa using hx
      subst hx'
      by_cases hc : (k == NameKind.free && env.scope.kind == .function && env.kindOf x == some .cell) = true
      · rw [if_pos hc]; simp only [List.lookup, hx, Option.map_some, if_pos hc]
      · rw [if_neg hc]; simp only [List.lookup, hx, Option.map_some, if_neg hc]
    · have hb : (x == n) = false := by simpa using hx
      have ih := lookup_relabel env x r
      by_cases hc : (k == NameKind.free && env.scope.kind == .function && env.kindOf n == some .cell) = true
      · rw [if_pos hc]; simp only [List.lookup, hb]; exact ih
      · rw [if_neg hc]; simp only [List.lookup, hb]; exact ih

theorem lookup_mem {β : Type} {x : Str} {b : β} : ∀ {l : List (Str × β)}, l.lookup x = some b → (x, b) ∈ l
  | (y, c) :: r, h => by
    by_cases hx : (x == y) = true
    · have hx' : x = y := by simpa using hx
      subst hx'
      simp [List.lookup] at h; subst h; exact .head _
    · have hb : (x == y) = false := by simpa using hx
      simp only [List.lookup, hb] at h
      exact .tail _ (lookup_mem h)

theorem not_set {e : Expr} {env : Env} (h : isSetE e = false) (x : Value) : foldedSetIterable e env x = pure x := by
  cases e <;> first | rfl | cases h

structure ScopeOk (x : Str) (sc cs : Scope) : Prop where
  kind : cs.kind = .function
  loc : cs.names.lookup x = some .local
  nocell : ∀ p ∈ cs.names, p.2 ≠ .cell
  locs : ∀ p ∈ cs.names, p.2 = .local → cs.names.lookup p.1 = some .local
  free : ∀ n, (n, NameKind.free) ∈ cs.names → sc.names.lookup n = some .cell ∨ sc.names.lookup n = some .free
theorem scopeOk {x : Str} {sc cs : Scope} (h : okScope x sc cs = true) : ScopeOk x sc cs := by
  unfold okScope at h
  simp only [Bool.and_eq_true, beq_iff_eq, List.all_eq_true] at h
  obtain ⟨⟨h1, h2⟩, h3⟩ := h
  refine ⟨h1, h2, fun p hp q => ?_, fun p hp q => ?_, fun n hn => ?_⟩
  · have := (h3 p hp).1.1; rw [q] at this; cases this
  · have := (h3 p hp).1.2; rw [q] at this; simpa using this
  · have := (h3 _ hn).2; simpa using this

section
variable {P : Par} {fr : List Nat} {A : Around} {env : Env} {W : Wd} {σ : St} {s : Shared} {cx : Cx}

theorem scOk_comp {x : Str} {sc cs : Scope} (S : ScOk sc env) (O : ScopeOk x sc cs) (C : Nat) : ScOk cs (compEnvC cs (clOf env cs.names []) C env) := by
  have hk : ∀ y, (compEnvC cs (clOf env cs.names []) C env).kindOf y = (cs.names.lookup y).map fun k => if (k == NameKind.free && env.scope.kind == .function && env.kindOf y == some .cell) then NameKind.cell else k := fun y => lookup_relabel env y cs.names
  refine ⟨fun y h => ?_, fun y h => ?_, fun y h => ?_, fun y h => absurd rfl (O.nocell _ (lookup_mem h)), fun y h => ?_⟩
  · rw [hk, h]; rfl
  · rw [hk, h]; rfl
  · rw [hk]
    rcases h with h | h
    · exact absurd rfl (O.nocell _ (lookup_mem h))
    · rw [h]
      simp only [Option.map_some]
      split <;> simp
  · rw [hk] at h
    have hf : cs.names.lookup y = some .free := by
      cases hl : cs.names.lookup y with
      | none => rw [hl] at h; simp at h
      | some k =>
        have hnc := O.nocell _ (lookup_mem hl)
        rw [hl] at h
        simp only [Option.map_some, Option.some.injEq] at h
        by_cases hc : (k == NameKind.free && env.scope.kind == .function && env.kindOf y == some .cell) = true
        · have : k = .free := by simp only [Bool.and_eq_true, beq_iff_eq] at hc; exact hc.1.1
          rw [this]
        · rw [if_neg hc] at h
          rcases h with h | h
          · exact absurd h hnc
          · rw [h]
    have hm := lookup_mem hf
    obtain ⟨a, ha⟩ := S.has y (S.cel y (O.free y hm))
    exact ⟨a, clOf_lookup ha _ _ (.inl hm) (.inl rfl)⟩

theorem loc_comp {x : Str} {sc cs : Scope} (S : ScOk sc env) (O : ScopeOk x sc cs) {C : Nat} {h : Heap} {m : Str → Option Value} {v : V} {c : Value} (L : Loc env W σ h) (hn : h.Ns C m) (hm : m x = some c) (hv : VR W σ.nxt v c) :
    Loc (compEnvC cs (clOf env cs.names []) C env) W { σ with loc := [(x, v)] } h := by
  have hk : ∀ y, (compEnvC cs (clOf env cs.names []) C env).kindOf y = (cs.names.lookup y).map fun k => if (k == NameKind.free && env.scope.kind == .function && env.kindOf y == some .cell) then NameKind.cell else k := fun y => lookup_relabel env y cs.names
  refine ⟨O.kind, L.glob, L.bns, ⟨m, hn, fun y u hy => ?_⟩, fun y k hy => ?_⟩
  · have hy' : List.lookup y [(x, v)] = some u := hy
    by_cases hx : (y == x) = true
    · have : y = x := by simpa using hx
      subst this
      simp [List.lookup] at hy'; subst hy'
      exact ⟨by rw [hk, O.loc]; rfl, c, hm, hv⟩
    · have hb : (y == x) = false := by simpa using hx
      simp [List.lookup, hb] at hy'
  · obtain ⟨p, q⟩ := L.cel y k hy
    refine ⟨p, fun hc => ?_⟩
    have hf : cs.names.lookup y = some .free := by
      rw [hk] at hc
      cases hl : cs.names.lookup y with
      | none => rw [hl] at hc; simp at hc
      | some k =>
        have hnc := O.nocell _ (lookup_mem hl)
        rw [hl] at hc
        simp only [Option.map_some, Option.some.injEq] at hc
        by_cases hb : (k == NameKind.free && env.scope.kind == .function && env.kindOf y == some .cell) = true
        · have : k = .free := by simp only [Bool.and_eq_true, beq_iff_eq] at hb; exact hb.1.1
          rw [this]
        · rw [if_neg hb] at hc
          rcases hc with hc | hc
          · exact absurd hc hnc
          · rw [hc]
    have hm := lookup_mem hf
    have ha := q (S.cel y (O.free y hm))
    exact clOf_lookup ha _ _ (.inl hm) (.inl rfl)

theorem turns_its {v : V} {all : List V} {f : V → St → Rs (Option V)} {l : List V} {σ : St} {r : List V} {σ' : St} (h : turns v all f l σ = .ok r σ') : itsV σ.toHp v = some all := by
  cases l <;> (unfold turns at h; split at h) <;> first | assumption | cases h
theorem turns_nil {v : V} {all : List V} {f : V → St → Rs (Option V)} {σ : St} {r : List V} {σ' : St} (h : turns v all f [] σ = .ok r σ') : r = [] ∧ σ' = σ := by
  unfold turns at h; split at h <;> cases h; exact ⟨rfl, rfl⟩
theorem turns_cons {v : V} {all : List V} {f : V → St → Rs (Option V)} {x : V} {l : List V} {σ : St} {r : List V} {σ' : St} (h : turns v all f (x :: l) σ = .ok r σ') :
    ∃ o σ₁ vs, f x σ = .ok o σ₁ ∧ turns v all f l σ₁ = .ok vs σ' ∧ r = o.toList ++ vs := by
  unfold turns at h
  split at h
  · split at h
    · rename_i o σ₁ hf
      cases ht : turns v all f l σ₁ with
      | ok vs σ₂ => rw [ht] at h; cases h; exact ⟨o, σ₁, vs, hf, ht, rfl⟩
      | err c σ₂ => rw [ht] at h; cases h
      | bad => rw [ht] at h; cases h
    · cases h
  · cases h
theorem turns_ok {v : V} {all : List V} {f : V → St → Rs (Option V)} : ∀ {l : List V} {σ : St}, turns v all f l σ ≠ .bad → ∃ r σ', turns v all f l σ = .ok r σ'
  | [], σ, h => by
    unfold turns at h ⊢
    split at h
    · rename_i q; exact ⟨[], σ, by rw [if_pos q]⟩
    · exact absurd rfl h
  | x :: l, σ, h => by
    unfold turns at h ⊢
    split at h
    · rename_i q
      rw [if_pos q]
      split at h
      · rename_i o σ₁ hf
        have hn : turns v all f l σ₁ ≠ .bad := by intro q; rw [q] at h; exact absurd rfl h
        obtain ⟨r, σ', e⟩ := turns_ok hn
        exact ⟨_, σ', by rw [e]; rfl⟩
      · exact absurd rfl h
    · exact absurd rfl h

/-- the tests of a comprehension -/
theorem tests_ok {cond : X} {cs : Scope} {ifs : List Expr} {cenv : Env} {frC : List Nat} (ic : Snd P cx cond cs (.ofCond ifs)) (F : Fm P cx.calm cx.lvl frC A cenv) (S : ScOk cs cenv) {b : V} {σ σ' : St} {W : Wd} {s : Shared} (I : Inv P frC W σ.toHp s) (L : Loc cenv W σ s.heap) (e : ev cx cond σ = .ok b σ') {bb : Bool} (hb : truV σ'.toHp b = some bb)
    {Q : Bool → Shared → Prop} {E : Value → Shared → Prop} (hq : ∀ W' s', Step P frC cenv W σ s W' σ' s' → Q bb s') :
    wpAny P.M A (forIn ifs true fun c r => if r = true then do let ok ← isTrue c cenv (eval c cenv); pure (ForInStep.yield ok) else pure (ForInStep.yield r)) Q E s := by
  match ifs, ic with
  | [], ic =>
    obtain ⟨_, q⟩ := ic frC A cenv F S
    rw [q] at e; cases e
    cases hb
    exact wpAny_pure (hq W s (Step.refl I L))
  | [c], ic =>
    have J := (ic frC A cenv F S).2
    have e2 : tr (ev cx cond) σ = .ok bb σ' := by rw [tr_eq e, truRs_some hb]
    rw [List.forIn_cons]
    refine wpAny_bind ?_
    simp only [if_true]
    refine wpAny_bind (wpAny_mono (J W σ s I L (by rw [e2]; intro q; cases q)) (fun b' s' ⟨σ'', W', e3, st⟩ => ?_) (fun x s' ⟨cl, σ'', W', ea, _, e3, _⟩ => by rw [e2] at e3; cases e3))
    rw [e2] at e3; cases e3
    exact wpAny_pure (wpAny_pure (hq W' s' st))
  | _ :: _ :: _, ic => exact absurd (ic frC A cenv F S).1 (by simp)

theorem plainList_append {E : Value → Shared → Prop} {D : Nat} {ys : Array Value} {n : Nat} {x : Value} {Q : Value → Shared → Prop} (hl : s.heap.get? D = some (listOf ys n))
    (hQ : ∀ h' n', h'.get? D = some (listOf (ys.push x) n') → Heap.SameBut D s.heap h' → Q .none { s with heap := h' }) (hsz : ys.size ≤ sizeLine) :
    wpAny P.M A (call (.builtin "list.append") [.ref D, x]) Q E s := by
  have hL : s.heap.IsList D ys := ⟨_, hl, rfl, _, rfl⟩
  refine wpAny_call_entry slot_list_append hL.typeIs entry_list_append ?_ (args_list_append _ _)
  show wpAny _ _ (updateSeq D (·.push x) >>= fun _ => ret .none) _ _ s
  refine wpAny_bind (wpAny_updateSeq hl rfl (wpAny_pure ⟨.none, rfl, hQ _ _ (Heap.get?_update_self _ hl rfl) (Heap.SameBut.update ..)⟩))

noncomputable def compF (cx : Cx) (elt : X) (x : Str) (cond : X) (cel : List (Str × Nat)) (v : V) (σ : St) : Rs (Option V) :=
  (ev cx cond { σ with loc := [(x, v)], cel := cel }).bind fun b σ₃ => condO b σ₃ (ev cx elt)

theorem compF_ok {elt : X} {x : Str} {cond : X} {cel : List (Str × Nat)} {v : V} {σ : St} {o : Option V} {σ' : St} (h : compF cx elt x cond cel v σ = .ok o σ') :
    ∃ b σ₁, ev cx cond { σ with loc := [(x, v)], cel := cel } = .ok b σ₁ ∧ ((truV σ₁.toHp b = some true ∧ ∃ r, ev cx elt σ₁ = .ok r σ' ∧ o = some r) ∨ (truV σ₁.toHp b = some false ∧ o = none ∧ σ' = σ₁)) := by
  unfold compF at h
  cases he : ev cx cond { σ with loc := [(x, v)], cel := cel } with
  | ok b σ₁ =>
    rw [he] at h
    have h' : condO b σ₁ (ev cx elt) = .ok o σ' := h
    refine ⟨b, σ₁, rfl, ?_⟩
    unfold condO at h'
    split at h'
    · rename_i q
      cases hr : ev cx elt σ₁ with
      | ok r σ₂ => rw [hr] at h'; cases h'; exact .inl ⟨q, r, rfl, rfl⟩
      | err c σ₂ => rw [hr] at h'; cases h'
      | bad => rw [hr] at h'; cases h'
    · rename_i q; cases h'; exact .inr ⟨q, rfl, rfl⟩
    · cases h'
  | err c σ₁ => rw [he] at h; cases h
  | bad => rw [he] at h; cases h

structure CompInv (P : Par) (fr : List Nat) (env : Env) (W₁ : Wd) (σ₁ : St) (s₁ : Shared) (vi : V) (I D C : Nat) (i : Nat) (acc : List V) (W : Wd) (σ : St) (s : Shared) : Prop where
  st : Step P fr env W₁ σ₁ s₁ W { σ₁ with toHp := σ.toHp } s
  oI : Out P fr W σ.nxt I
  oD : Out P fr W σ.nxt D
  oC : Out P fr W σ.nxt C
  it : ItAt W σ.nxt s.heap I vi i
  ac : ∃ ys n, s.heap.get? D = some (listOf ys n) ∧ VRs W σ.nxt acc ys.toList
  ns : ∃ m, s.heap.Ns C m

theorem comp_loop (hh : A.handled = none) {elt cond : X} {x : Str} {sc cs : Scope} {e i : Expr} {ifs : List Expr} {yp p : Pos} (ie : Snd P cx elt cs (.e e)) (ic : Snd P cx cond cs (.ofCond ifs)) (F : Fm P cx.calm cx.lvl fr A env) (S : ScOk sc env) (O : ScopeOk x sc cs)
    {W₁ : Wd} {σ₁ : St} {s₁ : Shared} {vi : V} {xs : List V} {I D C : Nat} (nI : s₁.heap.get? I = none) (nD : s₁.heap.get? D = none) (nC : s₁.heap.get? C = none) (hID : I ≠ D) (hIC : I ≠ C) (hDC : D ≠ C)
    {total : List V} {σf : St} (hsz : total.length ≤ sizeLine) {R : Result → Shared → Prop}
    (hR : ∀ W s, Step P fr env W₁ σ₁ s₁ W { σ₁ with toHp := σf.toHp } s → Out P fr W σf.nxt D → Out P fr W σf.nxt C → (∃ ys n, s.heap.get? D = some (listOf ys n) ∧ VRs W σf.nxt total ys.toList) → (∃ m, s.heap.Ns C m) → R (.ok .next) s)
    {W : Wd} {σ : St} {s : Shared} {acc rest : List V} {j : Nat} (hj : j ≤ xs.length) (J : CompInv P fr env W₁ σ₁ s₁ vi I D C j acc W σ s) (ht : turns vi xs (compF cx elt x cond σ₁.cel) (xs.drop j) σ = .ok rest σf) (hacc : acc ++ rest = total) :
    codeAny P.M A (.compLoop (.ListComp e [⟨.Name x yp, i, ifs, 0⟩] cs p) 0 (.ref I) (.ref D) (compEnvC cs (clOf env cs.names []) C env)) R s := by
  have SC := scOk_comp S O C
  have FC : Fm P cx.calm cx.lvl (C :: fr) A (compEnvC cs (clOf env cs.names []) C env) := ⟨.head _, F.handled, F.units, F.depth, let ⟨l, a, b⟩ := F.frames; ⟨l, a, fun e he => let ⟨p, L, q, r⟩ := b e he; ⟨p, L, q, .tail _ r⟩⟩⟩
  refine codeAny_compLoop_tests (fun n s => ∃ W σ acc rest j, n = xs.length + 1 - j ∧ j ≤ xs.length ∧ CompInv P fr env W₁ σ₁ s₁ vi I D C j acc W σ s ∧ turns vi xs (compF cx elt x cond σ₁.cel) (xs.drop j) σ = .ok rest σf ∧ acc ++ rest = total) ?_ _ ⟨W, σ, acc, rest, j, rfl, hj, J, ht, hacc⟩
  rintro n s ⟨W, σ, acc, rest, j, rfl, hj, J, ht, hacc⟩
  have hits := turns_its ht
  have Jinv : Inv P fr W σ.toHp s := J.st.inv
  have hLC : C ≠ env.locals := fun q => J.oC.notFr (q ▸ F.hL)
  cases hx : xs[j]? with
  | none =>
    have hd : xs.drop j = [] := List.drop_of_length_le (List.getElem?_eq_none_iff.mp hx)
    rw [hd] at ht
    obtain ⟨rfl, rfl⟩ := turns_nil ht
    refine iter_end hh (σ := σf) Jinv J.it hits hx fun h' hk => ?_
    have st' : Step P fr env W₁ σ₁ s₁ W { σ₁ with toHp := σf.toHp } { s with heap := h' } := J.st.aside F.hL nI J.oI (fun b o hb e => hk b o hb e) rfl rfl
    obtain ⟨ys, nl, q1, q2⟩ := J.ac
    obtain ⟨m, oN, es, ep, q3, q4⟩ := J.ns
    refine hR W _ st' J.oD J.oC ⟨ys, nl, hk _ _ (Ne.symm hID) q1, ?_⟩ ⟨m, oN, es, ep, hk _ _ (Ne.symm hIC) q3, q4⟩
    rw [← hacc, List.append_nil]; exact q2
  | some v =>
    have hlt : j < xs.length := (List.getElem?_eq_some_iff.mp hx).1
    have hd : xs.drop j = v :: xs.drop (j + 1) := by
      rw [List.drop_eq_getElem_cons hlt]
      have := (List.getElem?_eq_some_iff.mp hx).2
      rw [this]
    rw [hd] at ht
    obtain ⟨o, σ₂, vs, hf, ht', hr⟩ := turns_cons ht
    subst hr
    obtain ⟨b, σ₃, hb, hcase⟩ := compF_ok hf
    refine iter_next (σ := σ) Jinv J.it hits hx fun c h₁ t₁ hvc hit hs₁ => ?_
    have st₁ : Step P fr env W₁ σ₁ s₁ W { σ₁ with toHp := σ.toHp } { s with heap := h₁, toks := t₁ } := J.st.aside F.hL nI J.oI (fun b o hb e => (hs₁.2 b hb).trans e) rfl rfl
    obtain ⟨ys, nl, q1, q2⟩ := J.ac
    have q1' : h₁.get? D = some (listOf ys nl) := (hs₁.2 D (Ne.symm hID)).trans q1
    obtain ⟨m, hm⟩ := J.ns
    have hm₁ : h₁.Ns C m := hm.sameBut hs₁ (Ne.symm hIC)
    refine wpAny_assign_Name (wpAny_storeName_local (env := compEnvC cs (clOf env cs.names []) C env) (SC.loc x O.loc) hm₁ (fun h₂ hn₂ hs₂ => ?_) (by show (cs.kind == .class || (cs.kind == .module && C != env.globals)) = false; rw [O.kind]; rfl))
    have hs₂' : Heap.SameBut C h₁ h₂ := hs₂
    have hn₂' : h₂.Ns C (fun y => if y = x then some c else m y) := hn₂
    have st₂ : Step P fr env W₁ σ₁ s₁ W { σ₁ with toHp := σ.toHp } { s with heap := h₂, toks := t₁ + 1 } := st₁.aside F.hL nC J.oC (fun b o hb e => (hs₂'.2 b hb).trans e) rfl rfl
    have hit₂ : ItAt W σ.nxt h₂ I vi (j + 1) := hit.mono (.refl ..) (Nat.le_refl _) fun o e => (hs₂'.2 I hIC).trans e
    have q1₂ : h₂.get? D = some (listOf ys nl) := (hs₂'.2 D hDC).trans q1'
    obtain ⟨oN, eN, dN⟩ : ∃ o, h₂.get? C = some o ∧ ∀ vs, o.data ≠ .fields vs := let ⟨o, _, _, e, d, _⟩ := hn₂'; ⟨o, e, fun vs q => by rw [d] at q; cases q⟩
    have I₂ : Inv P (C :: fr) W σ.toHp { s with heap := h₂, toks := t₁ + 1 } := Inv.under (σ := σ) st₂.inv J.oC eN dN
    have L₂ : Loc (compEnvC cs (clOf env cs.names []) C env) W { σ with loc := [(x, v)], cel := σ₁.cel } h₂ :=
      loc_comp (σ := { σ₁ with toHp := σ.toHp }) S O st₂.loc hn₂' (by simp) hvc
    refine tests_ok (frC := C :: fr) ic FC SC (σ := { σ with loc := [(x, v)], cel := σ₁.cel }) I₂ L₂ hb (bb := o.isSome) ?_ fun W₃ s₃ st₃ => ?_
    · rcases hcase with ⟨q, r, _, rfl⟩ | ⟨q, rfl, _⟩
      · exact q
      · exact q
    have S₃ := Step.inner (σ' := { σ₁ with toHp := σ.toHp }) (σ₁ := { σ with loc := [(x, v)], cel := σ₁.cel }) st₂ F.hL nC rfl hLC rfl st₃
    obtain ⟨oI', eI⟩ := hit₂.there
    have keepOut : ∀ {a : Nat} {ob : Obj}, h₂.get? a = some ob → a ≠ C → Out P fr W σ.nxt a → s₃.heap.get? a = some ob := fun {a ob} e hne x => st₃.nx.ext a ob e hne (fun hm => (List.mem_cons.mp hm).elim hne x.notFr) x.notOwn
    have oI₃ := J.oI.step eI st₃.nx
    have oD₃ := J.oD.step q1₂ st₃.nx
    have oC₃ := J.oC.step eN st₃.nx
    have hit₃ : ItAt W₃ σ₃.nxt s₃.heap I vi (j + 1) := hit₂.mono st₃.nx.wle st₃.nx.le fun o e => keepOut e hIC J.oI
    have q1₃ : s₃.heap.get? D = some (listOf ys nl) := keepOut q1₂ hDC J.oD
    have q2₃ := q2.mono st₃.nx.wle st₃.nx.le
    have ns₃ : ∃ m, s₃.heap.Ns C m := let ⟨m, a, _⟩ := st₃.loc.loc; ⟨m, a⟩
    rcases hcase with ⟨q, r, hr, rfl⟩ | ⟨q, rfl, rfl⟩
    · rw [if_pos (show (some r).isSome = true from rfl)]
      have I₃ := st₃.inv
      refine wpAny_mono ((ie (C :: fr) A _ FC SC).1 W₃ σ₃ s₃ st₃.inv st₃.loc (by rw [hr]; intro q; cases q)) (fun cr s₄ ⟨v', σ', W₄, e₄, st₄, hv₄⟩ => ?_) (fun ee s' ⟨cl, σ', W', ea, _, e', _⟩ => by rw [hr] at e'; cases e')
      rw [hr] at e₄; cases e₄
      have S₄ := Step.inner (σ' := { σ₁ with toHp := σ₃.toHp }) (σ₁ := σ₃) S₃ F.hL nC rfl hLC rfl st₄
      obtain ⟨oI'', eI₃⟩ := hit₃.there
      have keep4 : ∀ {a : Nat} {ob : Obj}, s₃.heap.get? a = some ob → a ≠ C → Out P fr W₃ σ₃.nxt a → s₄.heap.get? a = some ob := fun {a ob} e hne x => st₄.nx.ext a ob e hne (fun hm => (List.mem_cons.mp hm).elim hne x.notFr) x.notOwn
      obtain ⟨oN₃, eN₃⟩ : ∃ o, s₃.heap.get? C = some o := let ⟨_, o, _, _, e, _⟩ := ns₃; ⟨o, e⟩
      have oI₄ := oI₃.step eI₃ st₄.nx
      have oD₄ := oD₃.step q1₃ st₄.nx
      have oC₄ := oC₃.step eN₃ st₄.nx
      have hit₄ : ItAt W₄ σ₂.nxt s₄.heap I vi (j + 1) := hit₃.mono st₄.nx.wle st₄.nx.le fun o e => keep4 e hIC oI₃
      have q1₄ : s₄.heap.get? D = some (listOf ys nl) := keep4 q1₃ hDC oD₃
      have q2₄ := q2₃.mono st₄.nx.wle st₄.nx.le
      obtain ⟨m₄, hm₄, _⟩ := st₄.loc.loc
      have hlen : ys.size ≤ sizeLine := by
        have := q2.length
        rw [Array.length_toList] at this
        have h5 : acc.length ≤ total.length := by rw [← hacc]; simp
        omega
      refine plainList_append q1₄ (fun h₅ n₅ q5 hs₅ => ?_) hlen
      have st₅ : Step P fr env W₁ σ₁ s₁ W₄ { σ₁ with toHp := σ₂.toHp } { s₄ with heap := h₅ } := S₄.aside F.hL nD oD₄ (fun b o hb e => (hs₅.2 b hb).trans e) rfl rfl
      refine ⟨xs.length + 1 - (j + 1), by omega, W₄, σ₂, acc ++ [r], vs, j + 1, rfl, hlt, ⟨st₅, oI₄, oD₄, oC₄, hit₄.mono (.refl ..) (Nat.le_refl _) fun o e => (hs₅.2 I hID).trans e, ⟨_, _, q5, ?_⟩, ⟨m₄, hm₄.sameBut hs₅ (Ne.symm hDC)⟩⟩, ht', by rw [List.append_assoc]; exact hacc⟩
      simpa using q2₄.append (.cons hv₄ .nil)
    · rw [if_neg (show ¬ (none : Option V).isSome = true from Bool.false_ne_true)]
      exact ⟨xs.length + 1 - (j + 1), by omega, W₃, _, acc, vs, j + 1, rfl, hlt, ⟨S₃, oI₃, oD₃, oC₃, hit₃, ⟨ys, nl, q1₃, q2₃⟩, ns₃⟩, ht', hacc⟩

/-- a list that is made, and that nothing else holds -/
structure Raw (P : Par) (fr : List Nat) (env : Env) (W : Wd) (σ : St) (s : Shared) (xs : List V) (σ' : St) (a : Nat) (W' : Wd) (s' : Shared) : Prop where
  st : Step P fr env W σ s W' σ' s'
  new : s.heap.get? a = none
  out : Out P fr W' σ'.nxt a
  at_ : ∃ ys n, s'.heap.get? a = some (listOf ys n) ∧ VRs W' σ'.nxt xs ys.toList
  sz : xs.length ≤ sizeLine

theorem Raw.frozen {xs : List V} {σ' : St} {a : Nat} {W' : Wd} {s' : Shared} (R : Raw P fr env W σ s xs σ' a W' s') : Post P fr env W σ s (.ok (.list xs) σ') (.ref a) s' := by
  obtain ⟨ys, n, q1, q2⟩ := R.at_
  have st3 := R.st.freezeLate R.new q1 R.out
  have hlen : ys.size ≤ sizeLine := by
    have := q2.length
    rw [Array.length_toList] at this
    have := R.sz
    omega
  have wl : Wle σ'.nxt W' (W'.freeze a (listOf ys n)) := ⟨fun _ _ => rfl, fun b c e => by
    show (if b = a then _ else _) = _
    rw [if_neg]; exact e
    rintro rfl; rw [R.out.notFz] at e; cases e⟩
  refine ⟨_, _, _, rfl, st3, .list (o := listOf ys n) (items := ys) (e := n) ?_ rfl rfl hlen (q2.mono wl (Nat.le_refl _))⟩
  show (if a = a then _ else _) = _
  rw [if_pos rfl]

/-- behind a comprehension's loop: the list at a, the turns' names at C -/
structure CompEnd (P : Par) (fr : List Nat) (env : Env) (W : Wd) (σ : St) (s : Shared) (xs : List V) (σ' : St) (a C : Nat) (W' : Wd) (s' : Shared) : Prop where
  raw : Raw P fr env W σ s xs σ' a W' s'
  newC : s.heap.get? C = none
  outC : Out P fr W' σ'.nxt C
  ne : a ≠ C
  ns : ∃ m, s'.heap.Ns C m

theorem CompEnd.go {xs : List V} {σ' : St} {a C : Nat} {W' : Wd} {s' : Shared} (R : CompEnd P fr env W σ s xs σ' a C W' s') (F : Fm P cx.calm cx.lvl fr A env) {h' : Heap} (hs : Heap.SameBut C s'.heap h') : Raw P fr env W σ s xs σ' a W' { s' with heap := h' } := by
  obtain ⟨ys, n, q1, q2⟩ := R.raw.at_
  exact ⟨R.raw.st.aside F.hL R.newC R.outC (fun b o hb e => (hs.2 b hb).trans e) rfl rfl, R.raw.new, R.raw.out, ⟨ys, n, (hs.2 _ R.ne).trans q1, q2⟩, R.raw.sz⟩

theorem comp_core {elt it cond : X} {x : Str} {sc cs : Scope} {e i : Expr} {ifs : List Expr} {yp p : Pos} (ie : Snd P cx elt cs (.e e)) (ii : Snd P cx it sc (.e i)) (ic : Snd P cx cond cs (.ofCond ifs)) (F : Fm P cx.calm cx.lvl fr A env) (S : ScOk sc env) (O : ScopeOk x sc cs)
    (h1 : isSetE i = false) (I : Inv P fr W σ.toHp s) (L : Loc env W σ s.heap) (hne : ev cx (.comp elt x it cond) σ ≠ .bad)
    {use : Option (Value → Sem Unit)} {Q : Value → Shared → Prop} {E : Value → Shared → Prop} (hE : ∀ e s', EPost P fr env W σ s (ev cx (.comp elt x it cond) σ) e s' → E e s')
    (hfin : ∀ xs σ' a C W' s', ev cx (.comp elt x it cond) σ = .ok (.list xs) σ' → CompEnd P fr env W σ s xs σ' a C W' s' → compPost P.M A E use Q (.ref a) C (.ok .next) s') {cpos : Pos} :
    wpAny P.M A (comprehension (.ListComp e [⟨.Name x yp, i, ifs, 0⟩] cs p) cs env cpos (newList []) false (eval i env) use) Q E s := by
  have Ji := ii fr A env F S
  have hclos : closureFor cs env = pure (clOf env cs.names []) := closure_eq fun n hn => S.has n (S.cel n (O.free n hn))
  have hcm : cx.calm = false := by
    cases hc : cx.calm with
    | false => rfl
    | true =>
      have e0 : ev cx (.comp elt x it cond) σ = .bad := by
        show (if cx.calm = true then Rs.bad else _) = _
        rw [if_pos hc]
      exact absurd e0 hne
  have hh : A.handled = none := F.handled.resolve_right (by rw [hcm]; decide)
  have hev : ev cx (.comp elt x it cond) σ = (ev cx it σ).bind fun vi σ₁ => match itsV σ₁.toHp vi with
    | some xs => (turns vi xs (compF cx elt x cond σ₁.cel) xs σ₁).bind fun vs σ₂ => fits vs.length (.ok (.list vs) { σ₁ with toHp := σ₂.toHp })
    | Option.none => .bad := by
    show (if cx.calm = true then Rs.bad else _) = _
    rw [if_neg (by rw [hcm]; decide)]; try rfl
  rw [hev] at hne hE hfin
  refine wpAny_comprehension_free rfl (not_set h1) hclos O.kind O.locs (then1p Ji.1 I L hne hE fun vi ci W₁ σ₁ s₁ e₁ st₁ hvi => ?_)
  rw [Rs.bind_ok e₁] at hne hE hfin
  cases hxs : itsV σ₁.toHp vi with
  | none => rw [hxs] at hne; exact absurd rfl hne
  | some xs =>
    rw [hxs] at hne hE hfin
    dsimp only at hne hE hfin
    obtain ⟨vs, σf, ht⟩ := turns_ok (Rs.bind_ne hne)
    rw [Rs.bind_ok ht] at hne hE hfin
    obtain ⟨hz, hfit⟩ := fits_ne hne
    rw [hfit] at hE hfin
    refine iter_start st₁.inv hvi hxs fun ob hit => ?_
    refine wpAny_newObj_type (wpAny_newFunctionEnv O.nocell (by intro y hy; simp at hy) (fun h₁ hns₁ hsb₁ => ?_) O.kind)
    dsimp only at hns₁ hsb₁ ⊢
    generalize hH1 : s₁.heap.push ob = H1 at hns₁ hsb₁ hit ⊢
    have z1 : H1.objs.size = s₁.heap.objs.size + 1 := by rw [← hH1, Heap.size_push]
    generalize hH2 : H1.push { cls := .type "list", dict := none, data := .seq ([] : List Value).toArray } = H2 at hns₁ hsb₁ ⊢
    have z2 : H2.objs.size = s₁.heap.objs.size + 2 := by rw [← hH2, Heap.size_push, z1]
    have nI : s₁.heap.get? s₁.heap.objs.size = none := size_new _
    have nD : s₁.heap.get? H1.objs.size = none := Heap.get?_none_of_le (by rw [z1]; exact Nat.le_succ _)
    have nC : s₁.heap.get? H2.objs.size = none := Heap.get?_none_of_le (by rw [z2]; exact Nat.le_add_right _ _)
    have up : ∀ {a : Nat}, s₁.heap.get? a = none → s.heap.get? a = none := fun {a} h => by
      cases q : s.heap.get? a with
      | none => rfl
      | some o => obtain ⟨o', e'⟩ := st₁.nx.live _ _ q; rw [h] at e'; cases e'
    have hID : s₁.heap.objs.size ≠ H1.objs.size := by rw [z1]; omega
    have hIC : s₁.heap.objs.size ≠ H2.objs.size := by rw [z2]; omega
    have hDC : H1.objs.size ≠ H2.objs.size := by rw [z1, z2]; omega
    have old : ∀ b o, s₁.heap.get? b = some o → h₁.get? b = some o := fun b o e => by
      have hb : b ≠ H2.objs.size := by rintro rfl; rw [nC] at e; cases e
      exact hsb₁.extBut b o hb (Heap.get?_push_of_some _ (hH2 ▸ Heap.get?_push_of_some _ (hH1 ▸ Heap.get?_push_of_some _ e)))
    have eD : h₁.get? H1.objs.size = some (listOf #[] 0) := hsb₁.extBut _ _ hDC (Heap.get?_push_of_some _ (hH2 ▸ Heap.get?_push_size _ rfl))
    have eI : ∀ o, H1.get? s₁.heap.objs.size = some o → h₁.get? s₁.heap.objs.size = some o := fun o e => hsb₁.extBut _ _ hIC (Heap.get?_push_of_some _ (hH2 ▸ Heap.get?_push_of_some _ e))
    have st₂ : Step P fr env W₁ σ₁ s₁ W₁ σ₁ { s₁ with heap := h₁ } := Step.grow st₁.inv st₁.loc old rfl rfl
    have hit₂ : ItAt W₁ σ₁.nxt h₁ s₁.heap.objs.size vi 0 := hit.mono (.refl ..) (Nat.le_refl _) eI
    have J : CompInv P fr env W₁ σ₁ s₁ vi s₁.heap.objs.size H1.objs.size H2.objs.size 0 [] W₁ σ₁ { s₁ with heap := h₁ } :=
      ⟨st₂, Out.new st₁.inv nI, Out.new st₁.inv nD, Out.new st₁.inv nC, hit₂, ⟨#[], 0, eD, .nil⟩, ⟨_, hns₁⟩⟩
    have loop := comp_loop hh (e := e) (i := i) (yp := yp) (p := p) ie ic F S O nI nD nC hID hIC hDC (total := vs) (σf := σf) hz (acc := []) (rest := vs) (j := 0)
      (R := compPost P.M A E use Q (.ref H1.objs.size) H2.objs.size) ?_ (Nat.zero_le _) J (by simpa using ht) rfl
    · exact codeAny_compStart_list loop (iter_again (v := vi) (n := σ₁.nxt) (W := W₁) (i := 0) hit₂ loop)
    · intro W' s' st' oD oC hac hm
      exact hfin vs _ H1.objs.size H2.objs.size W' s' rfl ⟨⟨st₁.trans st', up nD, oD, hac, hz⟩, up nC, oC, hDC, hm⟩

theorem snd_comp {sc cs : Scope} {elt it cond : X} {x : Str} {e i : Expr} {ifs : List Expr} {yp p : Pos} (ii : Snd P cx it sc (.e i)) (ie : Snd P cx elt cs (.e e)) (ic : Snd P cx cond cs (.ofCond ifs)) (h4 : okScope x sc cs = true) (h1 : isSetE i = false) :
    Snd P cx (.comp elt x it cond) sc (.e (.ListComp e [⟨.Name x yp, i, ifs, 0⟩] cs p)) := by
  intro fr A env F S
  have key : OkE P fr A env (eval (.ListComp e [⟨.Name x yp, i, ifs, 0⟩] cs p) env) (ev cx (.comp elt x it cond)) := fun W σ s I L hne => by
    rw [eval_ListComp]
    refine comp_core ie ii ic F S (scopeOk h4) h1 I L hne (fun _ _ h => h) fun xs σ' a C W' s' e R => ?_
    obtain ⟨m, hm⟩ := R.ns
    exact ⟨m, hm, fun h' hs => by rw [e]; exact (R.go F hs).frozen⟩
  exact ⟨key, okB_plain key fun _ => rfl⟩

/-- every expression does what ev says -/
theorem sound (C : CxOk P cx) {x : X} {sc : Scope} {ph : Ph} (h : Ok x sc ph) : Snd P cx x sc ph := by
  induction h with
  | none => exact snd_none
  | none' => exact snd_none'
  | bool => exact snd_bool
  | tt => exact snd_tt
  | int => exact snd_int
  | str h => exact snd_str h
  | var h => exact snd_var h
  | cv h => exact snd_cv h
  | glob h => exact snd_glob C h
  | bin _ _ a b => exact snd_bin a b
  | neg _ a => exact snd_neg a
  | not _ a => exact snd_not a
  | cmp _ _ h a b => exact snd_cmp a b h
  | cmp2 _ _ _ h a b c => exact snd_cmp2 a b c h
  | and _ _ a b => exact snd_and a b
  | and' _ _ a b => exact snd_and' a b
  | or _ _ a b => exact snd_or a b
  | or' _ _ a b => exact snd_or' a b
  | ite _ _ _ a b c => exact snd_ite a b c
  | idx _ _ h a b => exact snd_idx a b h
  | slc _ _ _ a b c => exact snd_slc a b c
  | attr _ h a => exact snd_attr C a h
  | list _ a => exact snd_list a
  | tup _ a => exact snd_tup a
  | nil => exact snd_nil
  | cons _ _ h a b => exact snd_cons a b h
  | call _ _ a b => exact snd_call C a b
  | meth _ _ h h' a b => exact snd_meth C a b h h'
  | comp _ _ _ h h' a b c => exact snd_comp a b c h h'
  | unk => exact snd_unk
end
end Mine
end
section
set_option Elab.async false
set_option linter.all false
set_option maxRecDepth 100000
namespace Mine
open PySem PySem.W PyProof.Rows

inductive Fl where
  | next
  | brk
  | cont
  | ret (v : V)

noncomputable def St.setC (σ : St) (x : Str) (v : V) : Option St := match σ.cel.lookup x with
  | some k => (match σ.obj k with | some (.cell _) => some { σ with obj := fun j => if j = k then some (.cell (some v)) else σ.obj j } | _ => none)
  | none => none

/-- a field is stored: at its place, or behind -/
noncomputable def setF (x : Str) (v : V) : List (Str × V) → List (Str × V)
  | [] => [(x, v)]
  | (y, u) :: r => if x == y then (y, v) :: r else (y, u) :: setF x v r

noncomputable def noErr (r : Rs Fl) : Rs Fl := match r with
  | .err _ _ => .bad
  | r => r
noncomputable def whileF (c : St → Rs Bool) (b o : St → Rs Fl) : Nat → St → Rs Fl
  | 0, _ => .bad
  | n + 1, σ => match c σ with
    | .ok true σ₁ => (match b σ₁ with
      | .ok .next σ₂ => whileF c b o n σ₂
      | .ok .cont σ₂ => whileF c b o n σ₂
      | .ok .brk σ₂ => .ok .next σ₂
      | .ok (.ret v) σ₂ => .ok (.ret v) σ₂
      | _ => .bad)
    | .ok false σ₁ => noErr (o σ₁)
    | _ => .bad

open Classical in
noncomputable def eachF (v : V) (all : List V) (x : Str) (b : St → Rs Fl) : List V → St → Rs Fl
  | [], σ => if itsV σ.toHp v = some all then .ok .next σ else .bad
  | y :: r, σ => if itsV σ.toHp v = some all then (match b (σ.set x y) with
    | .ok .next σ₂ => eachF v all x b r σ₂
    | .ok .cont σ₂ => eachF v all x b r σ₂
    | .ok .brk σ₂ => .ok .next σ₂
    | .ok (.ret u) σ₂ => .ok (.ret u) σ₂
    | _ => .bad) else .bad

noncomputable def condS (v : V) (σ : St) (t e : St → Rs Fl) : Rs Fl := match truV σ.toHp v with
  | some true => t σ
  | some false => e σ
  | none => .bad

structure Sx extends Cx where
  setA : V → Str → V → Hp → Option Hp
  /-- is an exception of the first class caught by the second's clause -/
  sub : String → Str → Option Bool

noncomputable def ownR (v : V) (σ : St) (k : V → St → Rs Fl) : Rs Fl := match v with
  | .list xs => k (.ref σ.nxt) (σ.add (.list xs))
  | _ => .bad

noncomputable def augV : Operator → V → V → Ov
  | .Add, .int a, .int b => .ok (.int (a + b))
  | .Add, .str a, .str b => if a.length + b.length ≤ sizeLine then .ok (.str (a ++ b)) else .bad
  | _, _, _ => .bad
noncomputable def optS : Option St → Rs Fl
  | some σ => .ok .next σ
  | none => .bad
noncomputable def goOn (f : Fl) (σ : St) (k : St → Rs Fl) : Rs Fl := match f with
  | .next => k σ
  | f => .ok f σ
noncomputable def caught (r : Rs Fl) (k : String → St → Rs Fl) : Rs Fl := match r with
  | .err cls σ => k cls σ
  | r => r
noncomputable def clause (sub : String → Str → Option Bool) (cls : String) (c : Str) (t e : Rs Fl) : Rs Fl := match sub cls c with
  | some true => t
  | some false => e
  | none => .bad

noncomputable def ex : S → Sx → Sx → St → Rs Fl
  | .skip, _, _, σ => .ok .next σ
  | .brk, _, _, σ => .ok .brk σ
  | .cont, _, _, σ => .ok .cont σ
  | .expr e, cx, _, σ => (ev cx.toCx e σ).bind fun _ σ₁ => .ok .next σ₁
  | .asg x e, cx, _, σ => (ev cx.toCx e σ).bind fun v σ₁ => .ok .next (σ₁.set x v)
  | .asgC x e, cx, _, σ => (ev cx.toCx e σ).bind fun v σ₁ => optS (σ₁.setC x v)
  | .own x e, cx, _, σ => (ev cx.toCx e σ).bind fun v σ₁ => ownR v σ₁ fun r σ₂ => .ok .next (σ₂.set x r)
  | .ownC x e, cx, _, σ => (ev cx.toCx e σ).bind fun v σ₁ => ownR v σ₁ fun r σ₂ => optS (σ₂.setC x r)
  | .setA o f e, cx, _, σ => (ev cx.toCx e σ).bind fun v σ₁ => (ev cx.toCx o σ₁).bind fun vo σ₂ => optS ((cx.setA vo f v σ₂.toHp).map fun H => { σ₂ with toHp := H })
  | .aug x op e, cx, _, σ => (ev cx.toCx (.var x) σ).bind fun u σ₀ => (ev cx.toCx e σ₀).bind fun v σ₁ => ((augV op u v).st σ₁).bind fun r σ₂ => .ok .next (σ₂.set x r)
  | .ret e, cx, _, σ => (ev cx.toCx e σ).bind fun v σ₁ => .ok (.ret v) σ₁
  | .ret0, _, _, σ => .ok (.ret .none) σ
  | .ite c a b, cx, hx, σ => (ev cx.toCx c σ).bind fun v σ₁ => condS v σ₁ (ex a cx hx) (ex b cx hx)
  | .loop n c b o, cx, hx, σ => whileF (tr (ev cx.toCx c)) (ex b cx hx) (ex o cx hx) n σ
  | .each x it b, cx, hx, σ => if cx.calm = true then .bad else (ev cx.toCx it σ).bind fun v σ₁ => match itsV σ₁.toHp v with
    | some xs => eachF v xs x (ex b cx hx) xs σ₁
    | none => .bad
  | .assert e, cx, _, σ => (ev cx.toCx e σ).bind fun v σ₁ => condS v σ₁ (fun σ₁ => .ok .next σ₁) (fun σ₁ => if cx.calm = true then .bad else .err "AssertionError" σ₁)
  | .try1 b c h, cx, hx, σ => caught (ex b cx hx σ) fun cls σ₁ => clause cx.sub cls c (noErr (ex h hx hx σ₁)) .bad
  | .try2 b c h c₂ h₂, cx, hx, σ => caught (ex b cx hx σ) fun cls σ₁ => clause cx.sub cls c (noErr (ex h hx hx σ₁)) (clause cx.sub cls c₂ (noErr (ex h₂ hx hx σ₁)) .bad)
  | .nil, _, _, σ => .ok .next σ
  | .seq a b, cx, hx, σ => (ex a cx hx σ).bind fun f σ₁ => goOn f σ₁ (ex b cx hx)
  | .unk, _, _, _ => .bad
end Mine
end
section
set_option Elab.async false
set_option linter.all false
set_option maxRecDepth 100000
namespace Mine
open PySem PySem.W PyProof.Rows

/-- a frame of a def: it stands on top -/
structure FmS (P : Par) (cm : Bool) (lv : Nat) (fr : List Nat) (A : Around) (env : Env) : Prop extends Fm P cm lv fr A env where
  top : ∃ outer, A.frames = some (env :: outer)
  frame : env.frame = some env.locals

section
variable {P : Par} {fr : List Nat} {A : Around} {env : Env} {W W' : Wd} {σ σ' : St} {s s' : Shared} {cm : Bool} {lv : Nat}

theorem funFrames {h : Heap} (hB : ∀ a ∈ fr, P.B.get? a = none ∧ ∃ o, h.get? a = some o ∧ ∀ vs, o.data ≠ .fields vs) : ∀ {l : List Env}, (∀ e ∈ l, e.scope.kind ≠ .module ∧ ∃ L, e.frame = some L ∧ L ∈ fr) → h.FunFrames P.B l
  | [], _ => trivial
  | e :: r, hl => by
    obtain ⟨hk, L, hf, hm⟩ := hl e (.head _)
    obtain ⟨b, o, ho, hd⟩ := hB L hm
    exact ⟨hk, ⟨L, o, hf, b, ho, hd⟩, funFrames hB fun e' he' => hl e' (.tail _ he')⟩

/-- what a note leaves as it is -/
noncomputable def Held (P : Par) (W : Wd) (n : Nat) (h₀ : Heap) (b : Nat) : Prop := P.B.get? b ≠ none ∨ W.fz b ≠ none ∨ (∃ k, k < n ∧ W.ρ k = b) ∨ h₀.get? b ≠ none

structure Noted (P : Par) (fr : List Nat) (W : Wd) (n : Nat) (h₀ h h' : Heap) (e : Nat) (cls : String) : Prop where
  keep : ∀ b o, h.get? b = some o → b ∉ fr → Held P W n h₀ b → h'.get? b = some o
  slots : ∀ b o, h.get? b = some o → b ∈ fr → ∃ o', h'.get? b = some o' ∧ o'.data = o.data
  exc : ExcAt P fr W n h₀ h' e cls

theorem note2 {Q : Unit → Shared → Prop} {E : Value → Shared → Prop} {M : Model} (F : FmS P cm lv fr A env) (I : Inv P fr W σ.toHp s) {h₀ : Heap} {e : Nat} {cls : String} (x : ExcAt P fr W σ.nxt h₀ s.heap e cls) (h0 : ∀ a o, h₀.get? a = some o → ∃ o', s.heap.get? a = some o')
    (hQ : ∀ h', Noted P fr W σ.nxt h₀ s.heap h' e cls → Q () { s with heap := h' }) :
    wpAny M A (noteFrame (.ref e) env) (fun _ s' => wpAny M A (setFlight (.ref e) none) Q E s') E s := by
  obtain ⟨outer, hfr⟩ := F.top
  obtain ⟨l, hl, hfm⟩ := F.frames
  rw [hfr] at hl; cases hl
  have hmem : ∀ b ∈ (env :: outer).filterMap (·.frame), b ∈ fr := fun b hb => by
    obtain ⟨e', he', hf'⟩ := List.mem_filterMap.mp hb
    obtain ⟨_, L, hL, hm⟩ := hfm e' he'
    rw [hL] at hf'; cases hf'; exact hm
  obtain ⟨oe, vs, he, hcls, hd, hsz, hT⟩ := x.there
  -- the part behind the head's own turn
  have key : ∀ (s₁ : Shared) (head : Value) (hadNext : Bool), s₁.gens = s.gens → s₁.drawn = s.drawn → s₁.toks = s.toks → s₁.os = s.os → s₁.heap.get? e = some oe →
      (∀ b o, s.heap.get? b = some o → b ∉ fr → Held P W σ.nxt h₀ b → s₁.heap.get? b = some o) → (∀ b o, s.heap.get? b = some o → b ∈ fr → s₁.heap.get? b = some o) → (∀ a o, s.heap.get? a = some o → ∃ o', s₁.heap.get? a = some o') →
      wpAny M A (do let a ← frameOf env; let pl ← entryPlaceOf env.locals hadNext; let b ← EntryCells.newEntry head a .none (rawInt env.locals) .none pl; setField (.ref e) 1 b) (fun _ s' => wpAny M A (setFlight (.ref e) none) Q E s') E s₁ := by
    intro s₁ head hadNext g1 g2 g3 g4 he₁ k1 k2 k3
    have hff : s₁.heap.FunFrames P.B (env :: outer) := funFrames (fun a ha => by
      obtain ⟨b, o, ho, hd⟩ := I.frB a ha
      exact ⟨b, o, k2 a o ho ha, hd⟩) hfm
    refine wpAny_bind (wpAny_frameOf_fun hfr hff F.frame fun h₂ hs₂ => ?_)
    refine wpAny_bind (wpAny_entryPlaceOf fun pl hpl => ?_)
    unfold EntryCells.newEntry newFields
    refine wpAny_bind (wpAny_newObj_type ?_ (hpl.sizeOk5 _ _ _ _ _))
    have hne : e ∉ (env :: outer).filterMap (·.frame) := fun hm => x.notFr (hmem e hm)
    have he₂ : h₂.get? e = some oe := (hs₂.2.1 e hne).trans he₁
    generalize hob : ({ cls := .type "traceback", dict := none, data := .fields ([head, .ref env.locals, .none, rawInt env.locals, .none] ++ (if pl.isEmpty then List.replicate 6 Value.none else pl)).toArray } : Obj) = ob
    have hobf : ob.isFreed = false := by rw [← hob]; rfl
    obtain ⟨ts, hobd, hts⟩ : ∃ ts, ob.data = .fields ts ∧ 3 < ts.size := ⟨_, by rw [← hob], by simp only [List.size_toArray, List.length_append, List.length_cons, List.length_nil]; omega⟩
    have he₃ : (h₂.push ob).get? e = some oe := Heap.get?_push_of_some _ he₂
    have hTn : h₂.get? h₂.objs.size = none := size_new _
    have hTe : h₂.objs.size ≠ e := Nat.ne_of_gt (Heap.lt_size he₂)
    refine wpAny_setField he₃ hd hsz ?_
    have hd₄ := Obj.data_mapFields hd (·.setIfInBounds 1 (Value.ref h₂.objs.size))
    have he₄ := Heap.get?_update_self (Obj.mapFields (·.setIfInBounds 1 (Value.ref h₂.objs.size))) he₃ (Obj.isFreed_of_fields hd₄)
    have hT₄ : ((h₂.push ob).update e (Obj.mapFields (·.setIfInBounds 1 (Value.ref h₂.objs.size)))).get? h₂.objs.size = some ob := (Heap.get?_update_other _ _ (Ne.symm hTe)).trans (Heap.get?_push_size _ hobf)
    have hv1 : (vs.setIfInBounds 1 (Value.ref h₂.objs.size))[1]? = some (.ref h₂.objs.size) := by simp [hsz]
    unfold setFlight
    refine wpAny_bind (wpAny_field he₄ hd₄ hv1 ?_)
    rw [if_pos (show (Value.ref h₂.objs.size != Value.none) = true from by simp)]
    refine wpAny_setField hT₄ hobd hts ?_
    have hd₅ := Obj.data_mapFields hobd (·.setIfInBounds 3 ((none : Option Addr).elim Value.none fun f => rawInt f))
    have hT₅ := Heap.get?_update_self (Obj.mapFields (·.setIfInBounds 3 ((none : Option Addr).elim Value.none fun f => rawInt f))) hT₄ (Obj.isFreed_of_fields hd₅)
    generalize hh5 : ((h₂.push ob).update e (Obj.mapFields (·.setIfInBounds 1 (Value.ref h₂.objs.size)))).update h₂.objs.size (Obj.mapFields (·.setIfInBounds 3 ((none : Option Addr).elim Value.none fun f => rawInt f))) = h₅ at hT₅
    have other : ∀ b o, b ≠ e → h₂.get? b = some o → h₅.get? b = some o := fun b o hb e' => by
      have hbT : h₂.objs.size ≠ b := Nat.ne_of_gt (Heap.lt_size e')
      rw [← hh5, Heap.get?_update_other _ _ hbT, Heap.get?_update_other _ _ (Ne.symm hb)]
      exact Heap.get?_push_of_some _ e'
    have he₅ : h₅.get? e = some (oe.mapFields (·.setIfInBounds 1 (Value.ref h₂.objs.size))) := by
      rw [← hh5, Heap.get?_update_other _ _ hTe]; exact he₄
    have hgone : ∀ b, h₂.get? b = none → s.heap.get? b = none := fun b hb => by
      cases q : s.heap.get? b with
      | none => rfl
      | some o =>
        obtain ⟨o', e'⟩ := k3 b o q
        obtain ⟨sl, e''⟩ := hs₂.2.2 b o' e'
        rw [hb] at e''; cases e''
    have heN : ¬ Held P W σ.nxt h₀ e := fun hh => by
      rcases hh with q | q | ⟨k, hk, q⟩ | q
      · exact q x.notB
      · exact q x.notFz
      · exact x.notOwn k hk q
      · exact q x.new
    have hTnone := hgone _ hTn
    have oT : Out P fr W σ.nxt h₂.objs.size := Out.new I hTnone
    rw [show (⟨h₅, s₁.gens, s₁.drawn, s₁.toks, s₁.os⟩ : Shared) = { s with heap := h₅ } from by rw [g1, g2, g3, g4]]
    refine hQ h₅ ⟨fun b o e' hb hh => ?_, fun b o e' hb => ?_, x.notB, x.notFr, x.notFz, x.notOwn, x.new, _, _, he₅, (Obj.cls_mapFields ..).trans hcls, hd₄, by simp [hsz], .inr ⟨h₂.objs.size, _, _, hv1, oT.notB, oT.notFr, oT.notFz, oT.notOwn, ?_, hTe, hT₅, hd₅, ?_⟩⟩
    · refine other b o (by rintro rfl; exact heN hh) ?_
      exact (hs₂.2.1 b fun hm => hb (hmem b hm)).trans (k1 b o e' hb hh)
    · obtain ⟨sl, e''⟩ := hs₂.2.2 b o (k2 b o e' hb)
      exact ⟨_, other b _ (by rintro rfl; exact x.notFr hb) e'', rfl⟩
    · cases q : h₀.get? h₂.objs.size with
      | none => rfl
      | some o => obtain ⟨o', e'⟩ := h0 _ _ q; rw [hTnone] at e'; cases e'
    · simp [hts]
  unfold noteFrame
  simp only [F.frame]
  rcases hT with h1 | ⟨T, oT, ts, h1, t2, t3, t4, t5, t6, t7, t8, t9, t10⟩
  · refine wpAny_bind (wpAny_field he hd h1 ?_)
    rw [if_neg (by decide)]
    exact key s _ _ rfl rfl rfl rfl he (fun _ _ e' _ _ => e') (fun _ _ e' _ => e') (fun _ o e' => ⟨o, e'⟩)
  · refine wpAny_bind (wpAny_field he hd h1 ?_)
    rw [if_pos (show (Value.ref T != Value.none) = true from by simp)]
    refine wpAny_bind (wpAny_field t8 t9 t10 ?_)
    rw [if_neg (show ¬ ((Value.none == rawInt env.locals) = true) from by simp [rawInt])]
    refine wpAny_bind (wpAny_setField t8 t9 (Array.getElem?_eq_some_iff.mp t10).1 ?_)
    have hT' := Heap.get?_update_self (Obj.mapFields (·.setIfInBounds 3 Value.none)) t8 (Obj.isFreed_of_fields (Obj.data_mapFields t9 _))
    have other : ∀ b o, b ≠ T → s.heap.get? b = some o → (s.heap.update T (Obj.mapFields (·.setIfInBounds 3 Value.none))).get? b = some o := fun b o hb e' => (Heap.get?_update_other _ _ (Ne.symm hb)).trans e'
    have hTN : ¬ Held P W σ.nxt h₀ T := fun hh => by
      rcases hh with q | q | ⟨k, hk, q⟩ | q
      · exact q t2
      · exact q t4
      · exact t5 k hk q
      · exact q t6
    refine key _ _ _ rfl rfl rfl rfl (other e oe (Ne.symm t7) he) (fun b o e' hb hh => other b o (by rintro rfl; exact hTN hh) e') (fun b o e' hb => other b o (by rintro rfl; exact t3 hb) e') (fun a o e' => ?_)
    by_cases ha : a = T
    · subst ha; exact ⟨_, hT'⟩
    · exact ⟨o, other a o ha e'⟩

/-- a step, and behind it a note -/
theorem Step.noted {e : Nat} {cls : String} {h' : Heap} (st : Step P fr env W σ s W' σ' s') (hL : env.locals ∈ fr) (N : Noted P fr W' σ'.nxt s.heap s'.heap h' e cls) : Step P fr env W σ s W' σ' { s' with heap := h' } := by
  have J := st.inv
  have hs : ∀ a o, s.heap.get? a = some o → Held P W' σ'.nxt s.heap a := fun a o e' => .inr (.inr (.inr (by rw [e']; intro q; cases q)))
  refine ⟨⟨st.nx.wle, st.nx.le, fun a o e' => ?_, st.nx.new, st.nx.fzn, fun a o e' h1 h0 h2 => N.keep a o (st.nx.ext a o e' h1 h0 h2) h0 (hs a o e'), fun a o h1 h2 e' => ?_⟩,
    ⟨fun b o e' => ?_, J.old, fun k h => ?_, J.nofr, J.nofz, J.inj, fun k o e' => ?_, fun a c e' => ?_, fun a h => ?_, J.gens, J.os⟩, ?_⟩
  · obtain ⟨o', e''⟩ := st.nx.live a o e'
    by_cases ha : a ∈ fr
    · obtain ⟨o'', e3, _⟩ := N.slots a o' e'' ha; exact ⟨o'', e3⟩
    · exact ⟨o', N.keep a o' e'' ha (hs a o e')⟩
  · obtain ⟨o', e'', d'⟩ := st.nx.fext a o h1 h2 e'
    obtain ⟨o'', e3, d3⟩ := N.slots a o' e'' h1
    exact ⟨o'', e3, d3.trans d'⟩
  · refine N.keep b o (J.keep b o e') (fun hm => ?_) (.inl (by rw [e']; intro q; cases q))
    rw [(J.frB b hm).1] at e'; cases e'
  · obtain ⟨o, e'⟩ := J.live k h
    exact ⟨o, N.keep _ o e' (J.nofr k h) (.inr (.inr (.inl ⟨k, h, rfl⟩)))⟩
  · obtain ⟨p, c, b, d⟩ := J.obj k o e'
    exact ⟨p, c, N.keep _ c b (J.nofr k p) (.inr (.inr (.inl ⟨k, p, rfl⟩))), d⟩
  · exact ⟨N.keep a c (J.frz a c e').1 (J.frz a c e').2 (.inr (.inl (by rw [e']; intro q; cases q))), (J.frz a c e').2⟩
  · obtain ⟨b, o, e', d⟩ := J.frB a h
    obtain ⟨o', e'', d'⟩ := N.slots a o e' h
    exact ⟨b, o', e'', fun vs q => d vs (d'.symm.trans q)⟩
  · obtain ⟨m, ⟨oL, es, ep, e1, d1, rr⟩, q2⟩ := st.loc.loc
    obtain ⟨o', e'', d'⟩ := N.slots _ oL e1 hL
    exact ⟨st.loc.kind, st.loc.glob, st.loc.bns, ⟨m, ⟨o', es, ep, e'', d'.trans d1, rr⟩, q2⟩, st.loc.cel⟩
end
end Mine
end
section
set_option Elab.async false
set_option linter.all false
set_option maxRecDepth 100000
namespace Mine
open PySem PySem.W PyProof.Rows

inductive FlR (W : Wd) (n : Nat) : Fl → Flow → Prop
  | next : FlR W n .next .next
  | brk : FlR W n .brk .brk
  | cont : FlR W n .cont .cont
  | ret {v : V} {c : Value} : VR W n v c → FlR W n (.ret v) (.ret c)

structure SxOk (P : Par) (cx : Sx) : Prop where
  base : CxOk P cx.toCx
  setA : ∀ fr A env, Fm P cx.calm cx.lvl fr A env → ∀ W σ s, Inv P fr W σ.toHp s → Loc env W σ s.heap → ∀ o f v co c H, VR W σ.nxt o co → VR W σ.nxt v c → cx.setA o f v σ.toHp = some H →
    ∀ (E : Value → Shared → Prop) (Q : Unit → Shared → Prop), (∀ W' s', Step P fr env W σ s W' { σ with toHp := H } s' → Q () s') → wpAny P.M A (setAttr co f c) Q E s
  sub : ∀ X n b, cx.sub X n = some b → ∃ T, (∃ c mg mb, P.B.Ns mainGlobals mg ∧ P.B.Ns builtinsNs mb ∧ (mg n = some c ∨ (mg n = none ∧ mb n = some c)) ∧ c = .type T) ∧ (n == ("__debug__" : Str)) = false ∧
    isSubtype (.type T) (.type "BaseException") = pure true ∧ isSubtype (.type ((Manifest.find? T).elim "type" fun x => x.metatype)) (.type "tuple") = pure false ∧ isSubtype (.type X) (.type T) = pure b

section
variable (P : Par) (fr : List Nat) (env : Env) (W : Wd) (σ : St) (s : Shared)
noncomputable def PostF (r : Rs Fl) (f : Flow) (s' : Shared) : Prop := ∃ v σ' W', r = .ok v σ' ∧ Step P fr env W σ s W' σ' s' ∧ FlR W' σ'.nxt v f
end
noncomputable def OkS (P : Par) (fr : List Nat) (A : Around) (env : Env) (t : Sem Flow) (f : St → Rs Fl) : Prop :=
  ∀ W σ s, Inv P fr W σ.toHp s → Loc env W σ s.heap → f σ ≠ .bad → wpAny P.M A t (PostF P fr env W σ s (f σ)) (EPost P fr env W σ s (f σ)) s

noncomputable def ClaimS (P : Par) (cx hx : Sx) (st : S) (fr : List Nat) (A : Around) (env : Env) : Pt → Prop
  | .s x => OkS P fr A env (exec x env) (ex st cx hx)
  | .l x => OkS P fr A env (execs x env) (ex st cx hx)

noncomputable def SndS (P : Par) (st : S) (sc : Scope) (pt : Pt) : Prop := ∀ cx hx : Sx, SxOk P cx → SxOk P hx → hx.calm = true → hx.lvl ≤ cx.lvl → ∀ fr A env, FmS P cx.calm cx.lvl fr A env → ScOk sc env → ClaimS P cx hx st fr A env pt

section
variable {P : Par} {fr : List Nat} {A : Around} {env : Env} {W W' : Wd} {σ σ' : St} {s s' : Shared} {cx hx : Sx}

theorem PostF.after {r : Rs Fl} {c : Flow} {s'' : Shared} (a : Step P fr env W σ s W' σ' s') (b : PostF P fr env W' σ' s' r c s'') : PostF P fr env W σ s r c s'' :=
  let ⟨v, σ'', W'', e, st, h⟩ := b; ⟨v, σ'', W'', e, a.trans st, h⟩

theorem sndS_skip {sc : Scope} {p : Pos} : SndS P .skip sc (.s (.Pass p)) := fun cx hx C H hc hl fr A env F S W σ s I L _ => wpAny_Pass ⟨_, σ, W, rfl, Step.refl I L, .next⟩
theorem sndS_brk {sc : Scope} {p : Pos} : SndS P .brk sc (.s (.Break p)) := fun cx hx C H hc hl fr A env F S W σ s I L _ => wpAny_Break ⟨_, σ, W, rfl, Step.refl I L, .brk⟩
theorem sndS_cont {sc : Scope} {p : Pos} : SndS P .cont sc (.s (.Continue p)) := fun cx hx C H hc hl fr A env F S W σ s I L _ => wpAny_Continue ⟨_, σ, W, rfl, Step.refl I L, .cont⟩
theorem sndS_ret0 {sc : Scope} {p : Pos} : SndS P .ret0 sc (.s (.Return none p)) := fun cx hx C H hc hl fr A env F S W σ s I L _ => wpAny_Return_none ⟨_, σ, W, rfl, Step.refl I L, .ret .none⟩
theorem sndS_ret {sc : Scope} {e : X} {v : Expr} {p : Pos} (h : Ok e sc (.e v)) : SndS P (.ret e) sc (.s (.Return (some v) p)) := fun cx hx C H hc hl fr A env F S W σ s I L hne =>
  wpAny_Return_some (then1p (k := fun v σ₁ => Rs.ok (Fl.ret v) σ₁) (sound C.base h fr A env F.toFm S).1 I L hne (fun e s' h => h) fun v c W' σ' s' e st hv => ⟨_, σ', W', Rs.bind_ok e, st, .ret hv⟩)
theorem sndS_nil {sc : Scope} : SndS P .nil sc (.l []) := fun cx hx C H hc hl fr A env F S W σ s I L _ => wpAny_execs_nil ⟨_, σ, W, rfl, Step.refl I L, .next⟩
theorem sndS_unk {sc : Scope} {x : Stmt} : SndS P .unk sc (.s x) := fun cx hx C H hc hl fr A env F S W σ s I L hne => absurd rfl hne
theorem sndS_seq {sc : Scope} {a b : S} {x : Stmt} {r : List Stmt} (ia : SndS P a sc (.s x)) (ib : SndS P b sc (.l r)) : SndS P (.seq a b) sc (.l (x :: r)) := by
  intro cx hx C H hc hl fr A env F S
  have Ja := ia cx hx C H hc hl fr A env F S
  have Jb := ib cx hx C H hc hl fr A env F S
  intro W σ s I L hne
  have hev : ex (.seq a b) cx hx σ = (ex a cx hx σ).bind fun f σ₁ => goOn f σ₁ (ex b cx hx) := rfl
  rw [hev] at hne ⊢
  refine wpAny_execs_cons (wpAny_mono (Ja W σ s I L (Rs.bind_ne hne)) (fun f s₁ ⟨v, σ₁, W₁, e₁, st₁, hv⟩ => ?_) (fun e s' h => h.cast fun _ _ q => Rs.bind_err q))
  rw [Rs.bind_ok e₁] at hne ⊢
  cases hv with
  | next => exact wpAny_mono (Jb W₁ σ₁ s₁ st₁.inv st₁.loc hne) (fun c s' h => h.after st₁) fun e s' h => h.after st₁
  | brk => exact ⟨_, σ₁, W₁, rfl, st₁, .brk⟩
  | cont => exact ⟨_, σ₁, W₁, rfl, st₁, .cont⟩
  | ret hv => exact ⟨_, σ₁, W₁, rfl, st₁, .ret hv⟩

theorem swaps_none {e : Expr} (h : isCompE e = false) (t : Option Expr) (l : Nat) (env : Env) : swapsWith e t l env = pure false := by
  cases e <;> first | rfl | cases h
theorem not_interactive (L : Loc env W σ s.heap) : interactive env = false := by unfold interactive; rw [L.kind]; rfl

theorem sndS_expr {sc : Scope} {e : X} {v : Expr} {p : Pos} (h : Ok e sc (.e v)) (h2 : isCompE v = false) : SndS P (.expr e) sc (.s (.Expr v p)) := fun cx hx C H hc hl fr A env F S W σ s I L hne =>
  wpAny_Expr_any (then1p (k := fun _ σ₁ => Rs.ok Fl.next σ₁) (sound C.base h fr A env F.toFm S).1 I L hne (fun e s' h => h) fun v c W' σ' s' e st hv => ⟨_, σ', W', Rs.bind_ok e, st, .next⟩) (not_interactive L) (swaps_none h2 ..)

theorem store_ok {E : Value → Shared → Prop} (F : FmS P cx.calm cx.lvl fr A env) (I : Inv P fr W σ.toHp s) (L : Loc env W σ s.heap) {x : Str} {v : V} {c : Value} (hx : env.kindOf x = some .local) (hv : VR W σ.nxt v c) {Q : Unit → Shared → Prop}
    (hq : ∀ s', Step P fr env W σ s W (σ.set x v) s' → Q () s') : wpAny P.M A (storeName env x c) Q E s := by
  obtain ⟨m, hn, _⟩ := L.loc
  exact wpAny_storeName_local hx hn (fun h' hn' hs' => hq _ (Step.set I L F.hL hv hx hn hn' hs' rfl rfl)) (by rw [L.kind]; rfl)

theorem cell_step (I : Inv P fr W σ.toHp s) (L : Loc env W σ s.heap) (hL : env.locals ∈ fr) {x : Str} {v : V} {c : Value} {σ' : St} (e : σ.setC x v = some σ') (hv : VR W σ.nxt v c) :
    ∃ k, k < σ.nxt ∧ σ.cel.lookup x = some k ∧ ((env.kindOf x = some .cell ∨ env.kindOf x = some .free) → env.cells.lookup x = some (W.ρ k)) ∧ (∃ v₀, s.heap.IsCell (W.ρ k) v₀) ∧
      ∀ s' : Shared, s'.heap.IsCell (W.ρ k) (some c) → Heap.SameBut (W.ρ k) s.heap s'.heap → s'.gens = s.gens → s'.os = s.os → Step P fr env W σ s W σ' s' := by
  unfold St.setC at e
  split at e
  · rename_i k hk
    split at e
    · rename_i v0 ho
      cases e
      obtain ⟨p, q⟩ := L.cel x k hk
      obtain ⟨_, ob, hg, hr⟩ := I.obj k _ ho
      have hcell : ∃ v₀, s.heap.IsCell (W.ρ k) v₀ := by
        cases hr with
        | cell hd _ => exact ⟨_, _, hg, hd⟩
        | nocell hd => exact ⟨_, _, hg, hd⟩
      refine ⟨k, p, hk, q, hcell, fun s' hc hs hg' ho' => ?_⟩
      obtain ⟨o, e1, d1⟩ := hc
      exact Step.put I L p hL (.cell (some v)) (.cell d1 hv) hs e1 hg' ho'
    · cases e
  · cases e

theorem storeC_ok {E : Value → Shared → Prop} (F : FmS P cx.calm cx.lvl fr A env) (I : Inv P fr W σ.toHp s) (L : Loc env W σ s.heap) {x : Str} {v : V} {c : Value} {σ' : St} (e : σ.setC x v = some σ') (hx : env.kindOf x = some .cell) (hv : VR W σ.nxt v c) {Q : Unit → Shared → Prop}
    (hq : ∀ s', Step P fr env W σ s W σ' s' → Q () s') : wpAny P.M A (storeName env x c) Q E s := by
  obtain ⟨k, p, hk, q, ⟨v₀, hcell⟩, hst⟩ := cell_step I L F.hL e hv
  exact wpAny_storeName_cell L.kind hx (q (.inl hx)) hcell fun h' hc hs => hq _ (hst _ hc hs rfl rfl)
end
end Mine
end
section
set_option Elab.async false
set_option linter.all false
set_option maxRecDepth 100000
namespace Mine
open PySem PySem.W PyProof.Rows

section
variable {P : Par} {fr : List Nat} {A : Around} {env : Env} {W W' : Wd} {σ σ' : St} {s s' : Shared} {cx hx : Sx}

/-- an object made since the step's start becomes an owned one -/
theorem Step.addLate (st : Step P fr env W σ s W' σ' s') {a : Nat} {o : O} {c : Obj} (hn : s.heap.get? a = none) (e : s'.heap.get? a = some c) (x : Out P fr W' σ'.nxt a) (hr : OR (W'.add σ'.nxt a) (σ'.nxt + 1) o c) :
    Step P fr env W σ s (W'.add σ'.nxt a) (σ'.add o) s' := by
  have wl := W'.add_le σ'.nxt a
  have J := st.inv
  have ρn : (W'.add σ'.nxt a).ρ σ'.nxt = a := by show (if σ'.nxt = σ'.nxt then _ else _) = _; rw [if_pos rfl]
  have hlt : ∀ k, k < σ'.nxt + 1 → k = σ'.nxt ∨ (k < σ'.nxt ∧ (W'.add σ'.nxt a).ρ k = W'.ρ k) := fun k h => by
    rcases Nat.lt_succ_iff_lt_or_eq.mp h with h | h
    · exact .inr ⟨h, wl.ρ k h⟩
    · exact .inl h
  refine ⟨⟨st.nx.wle.trans st.nx.le wl, Nat.le_succ_of_le st.nx.le, st.nx.live, fun k h1 h2 => ?_, st.nx.fzn, st.nx.ext, st.nx.fext⟩,
    ⟨J.keep, fun k h => ?_, fun k h => ?_, fun k h => ?_, fun k h => ?_, fun i j hi hj h => ?_, fun k o' h => ?_, J.frz, J.frB, J.gens, J.os⟩, ?_⟩
  · rcases hlt k h2 with rfl | ⟨q, r⟩
    · rw [ρn]; exact hn
    · rw [r]; exact st.nx.new k h1 q
  · rcases hlt k h with rfl | ⟨q, r⟩
    · rw [ρn]; exact x.notB
    · rw [r]; exact J.old k q
  · rcases hlt k h with rfl | ⟨q, r⟩
    · rw [ρn]; exact ⟨_, e⟩
    · rw [r]; exact J.live k q
  · rcases hlt k h with rfl | ⟨q, r⟩
    · rw [ρn]; exact x.notFr
    · rw [r]; exact J.nofr k q
  · rcases hlt k h with rfl | ⟨q, r⟩
    · rw [ρn]; exact x.notFz
    · rw [r]; exact J.nofz k q
  · rcases hlt i hi with rfl | ⟨q, r⟩ <;> rcases hlt j hj with rfl | ⟨q', r'⟩
    · rfl
    · rw [ρn, r'] at h; exact absurd h.symm (x.notOwn j q')
    · rw [ρn, r] at h; exact absurd h (x.notOwn i q)
    · rw [r, r'] at h; exact J.inj i j q q' h
  · have h' : (if k = σ'.nxt then some o else σ'.obj k) = some o' := h
    by_cases hk' : k = σ'.nxt
    · subst hk'
      rw [if_pos rfl] at h'; cases h'
      exact ⟨Nat.lt_succ_self _, c, by rw [ρn]; exact e, hr⟩
    · rw [if_neg hk'] at h'
      obtain ⟨a', c', b, d⟩ := J.obj k o' h'
      exact ⟨Nat.lt_succ_of_lt a', c', by rw [wl.ρ k a']; exact b, d.mono wl (Nat.le_succ _)⟩
  · have J' := st.loc
    exact ⟨J'.kind, J'.glob, J'.bns, let ⟨m, a, b⟩ := J'.loc; ⟨m, a, fun x v h => let ⟨p, c, q, r⟩ := b x v h; ⟨p, c, q, r.mono wl (Nat.le_succ _)⟩⟩,
      fun x k h => let ⟨p, q⟩ := J'.cel x k h; ⟨Nat.lt_succ_of_lt p, fun hk => by rw [wl.ρ k p]; exact q hk⟩⟩

/-- what becomes of a new list: it stays as it is, or it is ours -/
inductive Keep where
  | froze
  | owned
noncomputable def Keep.val (k : Keep) (xs : List V) (σ : St) : V := match k with | .froze => .list xs | .owned => .ref σ.nxt
noncomputable def Keep.st (k : Keep) (xs : List V) (σ : St) : St := match k with | .froze => σ | .owned => σ.add (.list xs)

theorem Raw.keep (k : Keep) {xs : List V} {a : Nat} (R : Raw P fr env W σ s xs σ' a W' s') : ∃ W'', Step P fr env W σ s W'' (k.st xs σ') s' ∧ VR W'' (k.st xs σ').nxt (k.val xs σ') (.ref a) ∧ ∀ b, b ≠ a → Out P fr W' σ'.nxt b → Out P fr W'' (k.st xs σ').nxt b := by
  obtain ⟨ys, n, q1, q2⟩ := R.at_
  have hlen : ys.size ≤ sizeLine := by
    have := q2.length
    rw [Array.length_toList] at this
    have := R.sz
    omega
  cases k with
  | froze =>
    have wl : Wle σ'.nxt W' (W'.freeze a (listOf ys n)) := ⟨fun _ _ => rfl, fun b c e => by
      show (if b = a then _ else _) = _
      rw [if_neg]; exact e
      rintro rfl; rw [R.out.notFz] at e; cases e⟩
    refine ⟨_, R.st.freezeLate R.new q1 R.out, .list (o := listOf ys n) (items := ys) (e := n) ?_ rfl rfl hlen (q2.mono wl (Nat.le_refl _)), fun b hb o => ⟨o.notB, o.notFr, ?_, o.notOwn⟩⟩
    · show (if a = a then _ else _) = _
      rw [if_pos rfl]
    · show (if b = a then _ else _) = _
      rw [if_neg hb]; exact o.notFz
  | owned =>
    have wl := W'.add_le σ'.nxt a
    have ρn : (W'.add σ'.nxt a).ρ σ'.nxt = a := by show (if σ'.nxt = σ'.nxt then _ else _) = _; rw [if_pos rfl]
    refine ⟨_, R.st.addLate R.new q1 R.out (.list (q2.mono wl (Nat.le_succ _)) hlen), ?_, fun b hb o => ⟨o.notB, o.notFr, o.notFz, fun k hk q => ?_⟩⟩
    · have h1 : VR (W'.add σ'.nxt a) (σ'.nxt + 1) (.ref σ'.nxt) (.ref ((W'.add σ'.nxt a).ρ σ'.nxt)) := .ref (Nat.lt_succ_self _)
      rw [ρn] at h1; exact h1
    · rcases Nat.lt_succ_iff_lt_or_eq.mp hk with h | h
      · rw [wl.ρ k h] at q; exact o.notOwn k h q
      · subst h; rw [ρn] at q; exact hb q.symm

/-- a name's store, of either kind -/
inductive Tgt where
  | loc
  | cel
noncomputable def Tgt.put (t : Tgt) (σ : St) (x : Str) (v : V) : Option St := match t with | .loc => some (σ.set x v) | .cel => σ.setC x v
noncomputable def Tgt.kind : Tgt → NameKind
  | .loc => .local
  | .cel => .cell
theorem tgt_store {E : Value → Shared → Prop} (t : Tgt) (F : FmS P cx.calm cx.lvl fr A env) (I : Inv P fr W σ.toHp s) (L : Loc env W σ s.heap) {x : Str} {v : V} {c : Value} {σ' : St} (e : t.put σ x v = some σ') (hx : env.kindOf x = some t.kind) (hv : VR W σ.nxt v c) {Q : Unit → Shared → Prop}
    (hq : ∀ s', Step P fr env W σ s W σ' s' → σ'.nxt = σ.nxt → Q () s') : wpAny P.M A (storeName env x c) Q E s := by
  cases t with
  | loc => cases e; exact store_ok F I L hx hv fun s' st => hq s' st rfl
  | cel =>
    refine storeC_ok F I L e hx hv fun s' st => hq s' st ?_
    have e' : σ.setC x v = some σ' := e
    unfold St.setC at e'
    split at e'
    · split at e'
      · cases e'; rfl
      · cases e'
    · cases e'

theorem swaps_bool (L : Loc env W σ s.heap) {x : Str} {p : Pos} {v : Expr} {l : Nat} : ∃ b, swapsWith v (some (.Name x p)) l env = pure b := by
  cases v <;> exact ⟨_, rfl⟩

/-- the list comprehension, and what its list becomes, stored under a name -/
theorem comp_assign (C : SxOk P cx) (F : FmS P cx.calm cx.lvl fr A env) {sc cs : Scope} (S : ScOk sc env) (k : Keep) (t : Tgt) {elt it cond : X} {y : Str} {e i : Expr} {ifs : List Expr} {x : Str} {p pos zp lp : Pos} (hi : Ok it sc (.e i)) (h2 : Ok elt cs (.e e)) (h3 : Ok cond cs (.ofCond ifs)) (h4 : okScope y sc cs = true) (h1 : isSetE i = false) (hx : env.kindOf x = some t.kind)
    (I : Inv P fr W σ.toHp s) (L : Loc env W σ s.heap) (r : Rs Fl) (hr : r = (ev cx.toCx (.comp elt y it cond) σ).bind fun u σ₁ => match u with | .list xs => optS (t.put (k.st xs σ₁) x (k.val xs σ₁)) | _ => .bad) (hne : r ≠ .bad) :
    wpAny P.M A (exec (.Assign [.Name x p] (.ListComp e [⟨.Name y zp, i, ifs, 0⟩] cs lp) pos) env) (PostF P fr env W σ s r) (EPost P fr env W σ s r) s := by
  have hne' : ev cx.toCx (.comp elt y it cond) σ ≠ .bad := by rw [hr] at hne; exact Rs.bind_ne hne
  have hE : ∀ e s', EPost P fr env W σ s (ev cx.toCx (.comp elt y it cond) σ) e s' → EPost P fr env W σ s r e s' := fun e s' h => h.cast fun _ _ q => by rw [hr]; exact Rs.bind_err q
  have put : ∀ {xs : List V} {σ₁ : St}, ev cx.toCx (.comp elt y it cond) σ = .ok (.list xs) σ₁ → ∃ σ₂, t.put (k.st xs σ₁) x (k.val xs σ₁) = some σ₂ ∧ r = .ok .next σ₂ := fun {xs σ₁} e => by
    rw [e] at hr
    have hr' : r = optS (t.put (k.st xs σ₁) x (k.val xs σ₁)) := hr
    cases hp : t.put (k.st xs σ₁) x (k.val xs σ₁) with
    | none => rw [hp] at hr'; exact absurd hr' hne
    | some σ₂ => rw [hp] at hr'; exact ⟨σ₂, rfl, hr'⟩
  have O := scopeOk h4
  obtain ⟨b, hb⟩ := swaps_bool (v := .ListComp e [⟨.Name y zp, i, ifs, 0⟩] cs lp) (x := x) (p := p) (l := pos.line) L
  cases b with
  | false =>
    refine wpAny_Assign_Name ?_ hb
    rw [eval_ListComp]
    refine comp_core (sound C.base h2) (sound C.base hi) (sound C.base h3) F.toFm S O h1 I L hne' hE fun xs σ₁ a D W₁ s₁ e₁ R => ?_
    obtain ⟨m, hm⟩ := R.ns
    refine ⟨m, hm, fun h' hs => ?_⟩
    obtain ⟨σ₂, hp, hr₂⟩ := put e₁
    obtain ⟨W₂, st₂, hv₂, _⟩ := (R.go F.toFm hs).keep k
    refine tgt_store t F st₂.inv st₂.loc hp hx hv₂ fun s₃ st₃ _ => ?_
    rw [hr₂]
    exact ⟨_, σ₂, W₂, rfl, st₂.trans st₃, .next⟩
  | true =>
    rw [exec_Assign_Name_used _ _ _ _ hb]
    refine wpAny_bind (wpAny_standAt (wpAny_bind ?_))
    show wpAny _ A (do let _ ← comprehension (.ListComp e [⟨.Name y zp, i, ifs, 0⟩] cs lp) cs env _ (newList []) false (eval i env) (some (assign (.Name x p) env))) _ _ s
    refine wpAny_bind (comp_core (sound C.base h2) (sound C.base hi) (sound C.base h3) F.toFm S O h1 I L hne' hE fun xs σ₁ a D W₁ s₁ e₁ R => ?_)
    obtain ⟨σ₂, hp, hr₂⟩ := put e₁
    obtain ⟨W₂, st₂, hv₂, hout⟩ := R.raw.keep k
    obtain ⟨m, ⟨oC, es, ep, eC, dC, rC⟩⟩ := R.ns
    have oD := hout D (Ne.symm R.ne) R.outC
    show wpAny _ A (assign (.Name x p) env (.ref a)) _ _ s₁
    refine wpAny_assign_Name (tgt_store t F st₂.inv st₂.loc hp hx hv₂ fun s₃ st₃ hn₃ => ?_)
    have hLD : D ≠ env.locals := fun q => R.outC.notFr (q ▸ F.hL)
    have eC₃ : s₃.heap.get? D = some oC := st₃.nx.ext D oC eC hLD R.outC.notFr oD.notOwn
    refine ⟨m, ⟨oC, es, ep, eC₃, dC, rC⟩, fun h' hs => ?_⟩
    have oD₃ : Out P fr W₂ σ₂.nxt D := oD.step eC st₃.nx
    have st₄ : Step P fr env W σ s W₂ σ₂ { s₃ with heap := h' } := (st₂.trans st₃).aside F.hL R.newC oD₃ (fun b o hb e => (hs.2 b hb).trans e) rfl rfl
    refine wpAny_pure (wpAny_pure ?_)
    rw [hr₂]
    exact ⟨_, σ₂, W₂, rfl, st₄, .next⟩
end
end Mine
end
section
set_option Elab.async false
set_option linter.all false
set_option maxRecDepth 100000
namespace Mine
open PySem PySem.W PyProof.Rows

section
variable {P : Par} {fr : List Nat} {A : Around} {env : Env} {W W' : Wd} {σ σ' : St} {s s' : Shared} {cx hx : Sx}

theorem comp_list {c : Cx} {elt it cond : X} {y : Str} {σ : St} {v : V} {σ' : St} (h : ev c (.comp elt y it cond) σ = .ok v σ') : ∃ xs, v = .list xs := by
  have hev : ev c (.comp elt y it cond) σ = if c.calm = true then .bad else (ev c it σ).bind fun vi σ₁ => match itsV σ₁.toHp vi with
    | some xs => (turns vi xs (compF c elt y cond σ₁.cel) xs σ₁).bind fun vs σ₂ => fits vs.length (.ok (.list vs) { σ₁ with toHp := σ₂.toHp })
    | Option.none => .bad := rfl
  rw [hev] at h
  split at h
  · cases h
  · cases h1 : ev c it σ with
    | ok vi σ₁ =>
      rw [h1, Rs.bind_ok rfl] at h
      split at h
      · rename_i xs _
        cases h2 : turns vi xs (compF c elt y cond σ₁.cel) xs σ₁ with
        | ok vs σ₂ =>
          rw [h2, Rs.bind_ok rfl] at h
          unfold fits at h
          split at h <;> cases h
          exact ⟨_, rfl⟩
        | err c σ₂ => rw [h2] at h; cases h
        | bad => rw [h2] at h; cases h
      · cases h
    | err c σ₁ => rw [h1] at h; cases h
    | bad => rw [h1] at h; cases h

/-- an assignment to a name: the value as it stands -/
theorem assign_ok (C : SxOk P cx) (F : FmS P cx.calm cx.lvl fr A env) {sc : Scope} (S : ScOk sc env) (t : Tgt) {e : X} {v : Expr} {x : Str} {p pos : Pos} (h : Ok e sc (.e v)) (hc : isCompE v = false) (hx : env.kindOf x = some t.kind)
    (I : Inv P fr W σ.toHp s) (L : Loc env W σ s.heap) (hne : ((ev cx.toCx e σ).bind fun u σ₁ => optS (t.put σ₁ x u)) ≠ .bad) :
    wpAny P.M A (exec (.Assign [.Name x p] v pos) env) (PostF P fr env W σ s ((ev cx.toCx e σ).bind fun u σ₁ => optS (t.put σ₁ x u))) (EPost P fr env W σ s ((ev cx.toCx e σ).bind fun u σ₁ => optS (t.put σ₁ x u))) s := by
  refine wpAny_Assign_Name (then1p (sound C.base h fr A env F.toFm S).1 I L hne (fun e s' h => h) fun u c W₁ σ₁ s₁ e₁ st₁ hu => ?_) (swaps_none hc ..)
  rw [Rs.bind_ok e₁] at hne ⊢
  cases hp : t.put σ₁ x u with
  | none => rw [hp] at hne; exact absurd rfl hne
  | some σ₂ => exact tgt_store t F st₁.inv st₁.loc hp hx hu fun s₂ st₂ _ => ⟨_, σ₂, W₁, rfl, st₁.trans st₂, .next⟩
theorem comp_froze {c : Cx} {t : Tgt} {x : Str} {elt it cond : X} {y : Str} {σ : St} : ((ev c (.comp elt y it cond) σ).bind fun u σ₁ => optS (t.put σ₁ x u)) = (ev c (.comp elt y it cond) σ).bind fun u σ₁ => match u with | .list xs => optS (t.put (Keep.froze.st xs σ₁) x (Keep.froze.val xs σ₁)) | _ => .bad := by
  cases he : ev c (.comp elt y it cond) σ with
  | ok u σ₁ => obtain ⟨xs, rfl⟩ := comp_list he; rfl
  | err c σ₁ => rfl
  | bad => rfl
theorem comp_owned {c : Cx} {t : Tgt} {x : Str} {elt it cond : X} {y : Str} {σ : St} : ((ev c (.comp elt y it cond) σ).bind fun u σ₁ => ownR u σ₁ fun r σ₂ => optS (t.put σ₂ x r)) = (ev c (.comp elt y it cond) σ).bind fun u σ₁ => match u with | .list xs => optS (t.put (Keep.owned.st xs σ₁) x (Keep.owned.val xs σ₁)) | _ => .bad := by
  cases he : ev c (.comp elt y it cond) σ with
  | ok u σ₁ => obtain ⟨xs, rfl⟩ := comp_list he; rfl
  | err c σ₁ => rfl
  | bad => rfl
theorem sndS_asg {sc : Scope} {x : Str} {e : X} {v : Expr} {q p : Pos} (h1 : sc.names.lookup x = some .local) (h : Ok e sc (.e v)) (hc : isCompE v = false) : SndS P (.asg x e) sc (.s (.Assign [.Name x q] v p)) :=
  fun cx hx C H _ hl fr A env F S W σ s I L hne => assign_ok C F S .loc h hc (S.loc x h1) I L hne
theorem sndS_asgC {sc : Scope} {x : Str} {e : X} {v : Expr} {q p : Pos} (h1 : sc.names.lookup x = some .cell) (h : Ok e sc (.e v)) (hc : isCompE v = false) : SndS P (.asgC x e) sc (.s (.Assign [.Name x q] v p)) :=
  fun cx hx C H _ hl fr A env F S W σ s I L hne => assign_ok C F S .cel h hc (S.cell x h1) I L hne
section
variable {sc cs : Scope} {elt it cond : X} {y : Str} {e i : Expr} {ifs : List Expr} {x : Str} {p q zp lp : Pos} (hi : Ok it sc (.e i)) (h2 : Ok elt cs (.e e)) (h3 : Ok cond cs (.ofCond ifs)) (h4 : okScope y sc cs = true) (h5 : isSetE i = false)
include hi h2 h3 h4 h5
theorem sndS_asgL (h1 : sc.names.lookup x = some .local) : SndS P (.asg x (.comp elt y it cond)) sc (.s (.Assign [.Name x q] (.ListComp e [⟨.Name y zp, i, ifs, 0⟩] cs lp) p)) :=
  fun cx hx C H _ hl fr A env F S W σ s I L hne => comp_assign C F S .froze .loc hi h2 h3 h4 h5 (S.loc x h1) I L _ (comp_froze (c := cx.toCx) (t := .loc) (x := x) (elt := elt) (it := it) (cond := cond) (y := y) (σ := σ)) hne
theorem sndS_asgCL (h1 : sc.names.lookup x = some .cell) : SndS P (.asgC x (.comp elt y it cond)) sc (.s (.Assign [.Name x q] (.ListComp e [⟨.Name y zp, i, ifs, 0⟩] cs lp) p)) :=
  fun cx hx C H _ hl fr A env F S W σ s I L hne => comp_assign C F S .froze .cel hi h2 h3 h4 h5 (S.cell x h1) I L _ (comp_froze (c := cx.toCx) (t := .cel) (x := x) (elt := elt) (it := it) (cond := cond) (y := y) (σ := σ)) hne
theorem sndS_ownL (h1 : sc.names.lookup x = some .local) : SndS P (.own x (.comp elt y it cond)) sc (.s (.Assign [.Name x q] (.ListComp e [⟨.Name y zp, i, ifs, 0⟩] cs lp) p)) :=
  fun cx hx C H _ hl fr A env F S W σ s I L hne => comp_assign C F S .owned .loc hi h2 h3 h4 h5 (S.loc x h1) I L _ (comp_owned (c := cx.toCx) (t := .loc) (x := x) (elt := elt) (it := it) (cond := cond) (y := y) (σ := σ)) hne
theorem sndS_ownCL (h1 : sc.names.lookup x = some .cell) : SndS P (.ownC x (.comp elt y it cond)) sc (.s (.Assign [.Name x q] (.ListComp e [⟨.Name y zp, i, ifs, 0⟩] cs lp) p)) :=
  fun cx hx C H _ hl fr A env F S W σ s I L hne => comp_assign C F S .owned .cel hi h2 h3 h4 h5 (S.cell x h1) I L _ (comp_owned (c := cx.toCx) (t := .cel) (x := x) (elt := elt) (it := it) (cond := cond) (y := y) (σ := σ)) hne
end

/-- a display's list, ours from now on -/
theorem display_raw (C : SxOk P cx) (F : FmS P cx.calm cx.lvl fr A env) {sc : Scope} (S : ScOk sc env) {es : X} {l : List Expr} {p : Pos} (h : Ok es sc (.es l)) (I : Inv P fr W σ.toHp s) (L : Loc env W σ s.heap) (hne : ev cx.toCx (.list es) σ ≠ .bad) {Q : Value → Shared → Prop} {E : Value → Shared → Prop}
    (hE : ∀ e s', EPost P fr env W σ s (ev cx.toCx (.list es) σ) e s' → E e s') (hq : ∀ xs σ' a W' s', ev cx.toCx (.list es) σ = .ok (.list xs) σ' → Raw P fr env W σ s xs σ' a W' s' → Q (.ref a) s') : wpAny P.M A (eval (.List l p) env) Q E s := by
  have Je := (sound C.base h fr A env F.toFm S) p
  have hev : ev cx.toCx (.list es) σ = (ev cx.toCx es σ).bind fun vs σ₁ => argR vs σ₁ fun xs σ₁ => fits xs.length (.ok (.list xs) σ₁) := rfl
  rw [hev] at hne hE hq
  refine List_ (thenArgs Je.2.2 I L hne hE fun xs cs W' σ' s' e st hv => ?_)
  rw [e] at hne hq
  obtain ⟨hz, r⟩ := fits_ne hne
  rw [r] at hq
  have hz' : cs.length ≤ sizeLine := by rw [hv.length]; exact hz
  have nA : s'.heap.get? s'.heap.objs.size = none := size_new _
  have stp : Step P fr env W' σ' s' W' σ' { s' with heap := s'.heap.push { cls := .type "list", data := .seq cs.toArray } } := Step.push st.inv st.loc _ rfl rfl rfl
  refine wpAny_newObj_type (hq xs σ' _ W' _ rfl ⟨st.trans stp, ?_, Out.new st.inv nA, ⟨cs.toArray, 0, Heap.get?_push_size _ rfl, by simpa using hv⟩, hz⟩) (by show cs.toArray.size ≤ sizeLine; rw [List.size_toArray]; exact hz')
  cases q : s.heap.get? s'.heap.objs.size with
  | none => rfl
  | some o => obtain ⟨o', e'⟩ := st.nx.live _ _ q; rw [nA] at e'; cases e'

theorem own_ok (C : SxOk P cx) (F : FmS P cx.calm cx.lvl fr A env) {sc : Scope} (S : ScOk sc env) (t : Tgt) {es : X} {l : List Expr} {x : Str} {p pos r : Pos} (h : Ok es sc (.es l)) (hx : env.kindOf x = some t.kind)
    (I : Inv P fr W σ.toHp s) (L : Loc env W σ s.heap) (hne : ((ev cx.toCx (.list es) σ).bind fun u σ₁ => ownR u σ₁ fun r σ₂ => optS (t.put σ₂ x r)) ≠ .bad) :
    wpAny P.M A (exec (.Assign [.Name x p] (.List l r) pos) env) (PostF P fr env W σ s ((ev cx.toCx (.list es) σ).bind fun u σ₁ => ownR u σ₁ fun r σ₂ => optS (t.put σ₂ x r))) (EPost P fr env W σ s ((ev cx.toCx (.list es) σ).bind fun u σ₁ => ownR u σ₁ fun r σ₂ => optS (t.put σ₂ x r))) s := by
  refine wpAny_Assign_Name (display_raw C F S h I L (Rs.bind_ne hne) (fun e s' h => h.cast fun _ _ q => Rs.bind_err q) fun xs σ₁ a W₁ s₁ e₁ R => ?_) (swaps_none rfl ..)
  rw [Rs.bind_ok e₁] at hne ⊢
  have hr : ownR (.list xs) σ₁ (fun r σ₂ => optS (t.put σ₂ x r)) = optS (t.put (Keep.owned.st xs σ₁) x (Keep.owned.val xs σ₁)) := rfl
  rw [hr] at hne ⊢
  obtain ⟨W₂, st₂, hv₂, _⟩ := R.keep .owned
  cases hp : t.put (Keep.owned.st xs σ₁) x (Keep.owned.val xs σ₁) with
  | none => rw [hp] at hne; exact absurd rfl hne
  | some σ₂ => exact tgt_store t F st₂.inv st₂.loc hp hx hv₂ fun s₃ st₃ _ => ⟨_, σ₂, W₂, rfl, st₂.trans st₃, .next⟩
theorem sndS_own {sc : Scope} {x : Str} {es : X} {l : List Expr} {q p r : Pos} (h1 : sc.names.lookup x = some .local) (h : Ok es sc (.es l)) : SndS P (.own x (.list es)) sc (.s (.Assign [.Name x q] (.List l r) p)) :=
  fun cx hx C H _ hl fr A env F S W σ s I L hne => own_ok C F S .loc h (S.loc x h1) I L hne
theorem sndS_ownC {sc : Scope} {x : Str} {es : X} {l : List Expr} {q p r : Pos} (h1 : sc.names.lookup x = some .cell) (h : Ok es sc (.es l)) : SndS P (.ownC x (.list es)) sc (.s (.Assign [.Name x q] (.List l r) p)) :=
  fun cx hx C H _ hl fr A env F S W σ s I L hne => own_ok C F S .cel h (S.cell x h1) I L hne

theorem sndS_setA {sc : Scope} {o : X} {f : Str} {e : X} {t v : Expr} {p pos : Pos} (h1 : Ok o sc (.e t)) (h2 : Ok e sc (.e v)) (h3 : isCompE v = false) : SndS P (.setA o f e) sc (.s (.Assign [.Attribute t f p] v pos)) := by
  intro cx hx C H hc hl fr A env F S
  intro W σ s I L hne
  have hev : ex (.setA o f e) cx hx σ = (ev cx.toCx e σ).bind fun v σ₁ => (ev cx.toCx o σ₁).bind fun vo σ₂ => optS ((cx.setA vo f v σ₂.toHp).map fun H => { σ₂ with toHp := H }) := rfl
  rw [hev] at hne ⊢
  refine plainObj_wpAny_Assign_Attribute (then2p (sound C.base h2 fr A env F.toFm S).1 (sound C.base h1 fr A env F.toFm S).1 I L hne (fun e s' h => h) fun W₂ σ₂ s₂ u w cu cw e₂ st₂ hu hw => ?_) (swaps_none h3 ..)
  rw [e₂] at hne ⊢
  cases hp : cx.setA w f u σ₂.toHp with
  | none => rw [hp] at hne; exact absurd rfl hne
  | some Hn => exact C.setA fr A env F.toFm W₂ σ₂ s₂ st₂.inv st₂.loc w f u cw cu Hn hw hu hp _ _ fun W₃ s₃ st₃ => ⟨_, _, W₃, rfl, st₂.trans st₃, .next⟩
end
end Mine
end
section
set_option Elab.async false
set_option linter.all false
set_option maxRecDepth 100000
namespace Mine
open PySem PySem.W PyProof.Rows

section
variable {P : Par} {fr : List Nat} {A : Around} {env : Env} {W W' : Wd} {σ σ' : St} {s s' : Shared} {cx hx : Sx}

theorem augV_ok (I : Inv P fr W σ.toHp s) (L : Loc env W σ s.heap) {op : Operator} {a b : V} {ca cb : Value} (ha : VR W σ.nxt a ca) (hb : VR W σ.nxt b cb) (hne : (augV op a b).st σ ≠ .bad) :
    wpAny P.M A (inplaceOp op ca cb) (Post P fr env W σ s ((augV op a b).st σ)) (EPost P fr env W σ s ((augV op a b).st σ)) s := by
  revert hne
  unfold augV
  split <;> intro hne
  · cases ha; cases hb
    exact PySem.P.iadd_int (post_ok rfl (Step.toks I L _) (.int ..))
  · rename_i x y
    have hx := ha.strLe
    have hy := hb.strLe
    split at hne
    · rename_i hsz
      rw [if_pos hsz]
      cases ha with
      | str _ t _ hx' => cases hb with
        | str _ u _ hy' =>
          refine PySem.P.iadd_str ?_
          split
          · rename_i h; exact post_ok rfl (Step.refl I L) (by rw [str_nil_l h]; exact .str _ _ hy hy')
          · split
            · rename_i h; exact post_ok rfl (Step.refl I L) (by rw [str_nil_r h]; exact .str _ _ hx hx')
            · have hl : (x ++ y).length ≤ sizeLine := by show (x.cps ++ y.cps).size ≤ _; rw [Array.size_append]; exact hsz
              exact ⟨hl, post_ok rfl (Step.toks I L _) (.str _ _ hl (strOk_append hx' hy'))⟩
    · exact absurd rfl hne
  · exact absurd rfl hne

theorem sndS_aug {sc : Scope} {x : Str} {e : X} {v : Expr} {p pos : Pos} (h3 : sc.names.lookup x = some .local) (h4 : Ok e sc (.e v)) : SndS P (.aug x .Add e) sc (.s (.AugAssign (.Name x p) .Add v pos)) := by
  intro cx hx C H hc hl fr A env F S
  have hk := S.loc x h3
  intro W σ s I L hne
  have hev : ex (.aug x .Add e) cx hx σ = (ev cx.toCx (.var x) σ).bind fun u σ₀ => (ev cx.toCx e σ₀).bind fun v σ₁ => ((augV .Add u v).st σ₁).bind fun r σ₂ => .ok .next (σ₂.set x r) := rfl
  rw [hev] at hne ⊢
  have Jx : OkE P fr A env (loadName env x) (ev cx.toCx (.var x)) := fun W σ s I L hne => by
    have hev : ev cx.toCx (.var x) σ = (match σ.loc.lookup x with | some v => .ok v σ | Option.none => .bad) := rfl
    rw [hev] at hne ⊢
    split at hne
    · rename_i v hv
      obtain ⟨m, hn, hl⟩ := L.loc
      obtain ⟨_, c, hm, hr⟩ := hl x v hv
      exact wpAny_loadName_local L.kind hk hn hm (post_ok rfl (Step.refl I L) hr)
    · exact absurd rfl hne
  refine wpAny_AugAssign_Name (then2p Jx (sound C.base h4 fr A env F.toFm S).1 I L hne (fun e s' h => h) fun W₂ σ₂ s₂ u w cu cw e₂ st₂ hu hw => ?_)
  rw [e₂] at hne ⊢
  refine wpAny_mono (augV_ok st₂.inv st₂.loc hu hw (Rs.bind_ne hne)) (fun c s₃ ⟨r, σ₃, W₃, e₃, st₃, hr⟩ => ?_) (fun e s' h => (h.after st₂).cast fun _ _ q => Rs.bind_err q)
  rw [Rs.bind_ok e₃] at hne ⊢
  exact store_ok F st₃.inv st₃.loc hk hr fun s₄ st₄ => ⟨_, _, W₃, rfl, (st₂.trans st₃).trans st₄, .next⟩

theorem condS_ne {v : V} {σ : St} {t e : St → Rs Fl} (h : condS v σ t e ≠ .bad) : (truV σ.toHp v = some true ∧ condS v σ t e = t σ) ∨ (truV σ.toHp v = some false ∧ condS v σ t e = e σ) := by
  unfold condS at h ⊢
  revert h
  split <;> intro h
  · rename_i q; exact .inl ⟨q, rfl⟩
  · rename_i q; exact .inr ⟨q, rfl⟩
  · exact absurd rfl h

theorem cond_tr {c : Cx} {e : X} {t f : St → Rs Fl} {σ : St} (h : ((ev c e σ).bind fun v σ₁ => condS v σ₁ t f) ≠ .bad) : tr (ev c e) σ ≠ .bad := by
  cases hf : ev c e σ with
  | ok v σ₁ =>
    rw [hf] at h
    rw [tr_eq hf]
    rcases condS_ne (h : condS v σ₁ _ _ ≠ .bad) with ⟨q, _⟩ | ⟨q, _⟩ <;> rw [truRs_some q] <;> intro q' <;> cases q'
  | err c σ₁ => rw [tr_err hf]; intro q; cases q
  | bad => rw [hf] at h; exact absurd rfl h

theorem sndS_ite {sc : Scope} {c : X} {a b : S} {t : Expr} {x y : List Stmt} {pos : Pos} (h1 : Ok c sc (.e t)) (ia : SndS P a sc (.l x)) (ib : SndS P b sc (.l y)) : SndS P (.ite c a b) sc (.s (.If t x y pos)) := by
  intro cx hx C H hc hl fr A env F S
  have Ja := ia cx hx C H hc hl fr A env F S
  have Jb := ib cx hx C H hc hl fr A env F S
  intro W σ s I L hne
  have hev : ex (.ite c a b) cx hx σ = (ev cx.toCx c σ).bind fun v σ₁ => condS v σ₁ (ex a cx hx) (ex b cx hx) := rfl
  rw [hev] at hne ⊢
  refine wpAny_If (thenT (sound C.base h1 fr A env F.toFm S).2 I L (cond_tr hne) (fun e s' c' σ' W' ea e0 e st x => ⟨c', σ', W', ea, e0, Rs.bind_err e, st, x⟩) fun bb v σ' W' s' e hb st => ?_)
  rw [Rs.bind_ok e] at hne ⊢
  cases bb with
  | true =>
    rw [if_pos rfl]
    have r : condS v σ' (ex a cx hx) (ex b cx hx) = ex a cx hx σ' := by unfold condS; rw [hb]
    rw [r] at hne ⊢
    exact wpAny_mono (Ja W' σ' s' st.inv st.loc hne) (fun c s' h => h.after st) fun e s' h => h.after st
  | false =>
    rw [if_neg (by decide)]
    have r : condS v σ' (ex a cx hx) (ex b cx hx) = ex b cx hx σ' := by unfold condS; rw [hb]
    rw [r] at hne ⊢
    exact wpAny_mono (Jb W' σ' s' st.inv st.loc hne) (fun c s' h => h.after st) fun e s' h => h.after st

theorem sndS_assert {sc : Scope} {e : X} {t : Expr} {pos : Pos} (h : Ok e sc (.e t)) : SndS P (.assert e) sc (.s (.Assert t none pos)) := by
  intro cx hx C H hc hl fr A env F S
  intro W σ s I L hne
  have hev : ex (.assert e) cx hx σ = (ev cx.toCx e σ).bind fun v σ₁ => condS v σ₁ (fun σ₁ => .ok .next σ₁) (fun σ₁ => if cx.calm = true then .bad else .err "AssertionError" σ₁) := rfl
  rw [hev] at hne ⊢
  have J := (sound C.base h fr A env F.toFm S).2
  cases hcm : cx.calm with
  | true =>
    -- nothing is raised
    refine wpAny_Assert_holds (thenT J I L (cond_tr hne) (fun e s' c' σ' W' ea e0 e st x => ⟨c', σ', W', ea, e0, Rs.bind_err e, st, x⟩) fun bb v σ' W' s' e hb st => ?_)
    rw [Rs.bind_ok e] at hne ⊢
    cases bb with
    | true => exact ⟨rfl, _, σ', W', by unfold condS; rw [hb], st, .next⟩
    | false =>
      have r : condS v σ' (fun σ₁ => Rs.ok Fl.next σ₁) (fun σ₁ => if cx.calm = true then .bad else .err "AssertionError" σ₁) = .bad := by unfold condS; rw [hb]; simp only [hcm, if_true]
      exact absurd r hne
  | false =>
    have hh : A.handled = none := F.handled.resolve_right (by rw [hcm]; decide)
    refine wpAny_Assert_new hh (thenT J I L (cond_tr hne) (fun e s' c' σ' W' ea e0 e st x => ⟨c', σ', W', ea, e0, Rs.bind_err e, st, x⟩) fun bb v σ' W' s' e hb st => ?_)
    rw [Rs.bind_ok e]
    cases bb with
    | true =>
      rw [if_pos rfl]
      exact ⟨_, σ', W', by unfold condS; rw [hb], st, .next⟩
    | false =>
      rw [if_neg (by decide)]
      intro h' ea hx'
      have r : condS v σ' (fun σ₁ => Rs.ok Fl.next σ₁) (fun σ₁ => if cx.calm = true then .bad else .err "AssertionError" σ₁) = .err "AssertionError" σ' := by unfold condS; rw [hb]; simp only [hcm]; rfl
      simp only [hcm] at r
      rw [r]
      exact (exc_new (tk := s'.toks) st.inv st.loc hx').after st
end
end Mine
end
section
set_option Elab.async false
set_option linter.all false
set_option maxRecDepth 100000
namespace Mine
open PySem PySem.W PyProof.Rows

section
variable {P : Par} {fr : List Nat} {A : Around} {env : Env} {W W' : Wd} {σ σ' : St} {s s' : Shared} {cx hx : Sx}

theorem noErr_ne {r : Rs Fl} (h : noErr r ≠ .bad) : noErr r = r ∧ r ≠ .bad ∧ ∀ c σ, r ≠ .err c σ := by
  cases r with
  | ok a σ => exact ⟨rfl, (fun q => by cases q), fun _ _ q => by cases q⟩
  | err c σ => exact absurd rfl h
  | bad => exact absurd rfl h

theorem while_ok {c : St → Rs Bool} {b o : St → Rs Fl} {test : Expr} {body orelse : List Stmt} (hc : OkB P fr A env (isTrue test env (eval test env)) c) (hb : OkS P fr A env (execs body env) b) (ho : OkS P fr A env (execs orelse env) o)
    (n : Nat) (I : Inv P fr W σ.toHp s) (L : Loc env W σ s.heap) (hne : whileF c b o n σ ≠ .bad) {pos : Pos} :
    wpAny P.M A (exec (.While test body orelse pos) env) (PostF P fr env W σ s (whileF c b o n σ)) (EPost P fr env W σ s (whileF c b o n σ)) s := by
  refine wpAny_While ?_
  generalize hr : whileF c b o n σ = r at hne
  refine codeAny_whileLoop (fun k s' => ∃ W' σ', Step P fr env W σ s W' σ' s' ∧ whileF c b o k σ' = r) ?_ n ⟨W, σ, Step.refl I L, hr⟩
  rintro k s₁ ⟨W₁, σ₁, st₁, h₁⟩
  cases k with
  | zero => exact absurd (h₁.symm.trans rfl) hne
  | succ k =>
    unfold whileF at h₁
    have hcne : c σ₁ ≠ .bad := by intro q; rw [q] at h₁; exact hne h₁.symm
    refine wpAny_mono (hc W₁ σ₁ s₁ st₁.inv st₁.loc hcne) (fun bb s₂ ⟨σ₂, W₂, e₂, st₂⟩ => ?_) (fun e s' ⟨cl, σ₂, W₂, ea, _, e₂, _⟩ => by rw [e₂] at h₁; exact absurd h₁.symm hne)
    rw [e₂] at h₁
    have st := st₁.trans st₂
    cases bb with
    | true =>
      rw [if_pos rfl]
      dsimp only at h₁
      have hbne : b σ₂ ≠ .bad := by intro q; rw [q] at h₁; exact hne h₁.symm
      refine wpAny_mono (hb W₂ σ₂ s₂ st.inv st.loc hbne) (fun f s₃ ⟨fl, σ₃, W₃, e₃, st₃, hf⟩ => ?_) (fun e s' ⟨cl, σ₃, W₃, ea, _, e₃, _⟩ => by rw [e₃] at h₁; exact absurd h₁.symm hne)
      rw [e₃] at h₁
      cases hf with
      | next => exact ⟨k, Nat.lt_succ_self _, W₃, σ₃, st.trans st₃, h₁⟩
      | cont => exact ⟨k, Nat.lt_succ_self _, W₃, σ₃, st.trans st₃, h₁⟩
      | brk => exact ⟨_, σ₃, W₃, h₁.symm, st.trans st₃, .next⟩
      | ret hv => exact ⟨_, σ₃, W₃, h₁.symm, st.trans st₃, .ret hv⟩
    | false =>
      rw [if_neg (by decide)]
      dsimp only at h₁
      obtain ⟨q1, q2, q3⟩ := noErr_ne (r := o σ₂) (by rw [h₁]; exact hne)
      rw [q1] at h₁
      refine wpAny_mono (ho W₂ σ₂ s₂ st.inv st.loc q2) (fun f s₃ hf => ?_) (fun e s' ⟨cl, σ₃, W₃, ea, _, e₃, _⟩ => absurd e₃ (q3 _ _))
      rw [← h₁]
      exact hf.after st

theorem sndS_loop {sc : Scope} {n : Nat} {c : X} {b o : S} {t : Expr} {x y : List Stmt} {pos : Pos} (h1 : Ok c sc (.e t)) (ib : SndS P b sc (.l x)) (io : SndS P o sc (.l y)) : SndS P (.loop n c b o) sc (.s (.While t x y pos)) :=
  fun cx hx C H hc hl fr A env F S W σ s I L hne => while_ok (sound C.base h1 fr A env F.toFm S).2 (ib cx hx C H hc hl fr A env F S) (io cx hx C H hc hl fr A env F S) n I L hne

theorem each_its {v : V} {all : List V} {x : Str} {b : St → Rs Fl} {l : List V} {σ : St} (h : eachF v all x b l σ ≠ .bad) : itsV σ.toHp v = some all := by
  cases l <;> (unfold eachF at h; split at h) <;> first | assumption | exact absurd rfl h

theorem each_ok {b : St → Rs Fl} {x : Str} {body : List Stmt} (hh : A.handled = none) (F : FmS P cx.calm cx.lvl fr A env) (hx : env.kindOf x = some .local) (hb : OkS P fr A env (execs body env) b) {v : V} {cv : Value} {xs : List V} (hv : VR W σ.nxt v cv)
    (I : Inv P fr W σ.toHp s) (L : Loc env W σ s.heap) (hne : eachF v xs x b xs σ ≠ .bad) {E : Value → Shared → Prop} {px : Pos} :
    wpAny P.M A (pyIter cv) (fun it s₂ => codeAny P.M A (.forLoop (.Name x px) it body [] env) (fun r s' => match r with | .ok f => PostF P fr env W σ s (eachF v xs x b xs σ) f s' | .error e => cameBackBy P.M A env E e s') s₂) E s := by
  have hits := each_its hne
  generalize hr : eachF v xs x b xs σ = r at hne
  refine iter_start I hv hits fun ob hit => ?_
  have nI : s.heap.get? s.heap.objs.size = none := size_new _
  have oI : Out P fr W σ.nxt s.heap.objs.size := Out.new I nI
  have st₀ : Step P fr env W σ s W σ { s with heap := s.heap.push ob } := Step.push I L _ rfl rfl rfl
  generalize hIa : s.heap.objs.size = Ia at hit nI oI
  refine codeAny_forLoop (fun k s' => ∃ W' σ' j, k = xs.length + 1 - j ∧ j ≤ xs.length ∧ Step P fr env W σ s W' σ' s' ∧ Out P fr W' σ'.nxt Ia ∧ ItAt W' σ'.nxt s'.heap Ia v j ∧ eachF v xs x b (xs.drop j) σ' = r) ?_ (xs.length + 1) ⟨W, σ, 0, rfl, Nat.zero_le _, st₀, oI, hit, hr⟩
  rintro k s₁ ⟨W₁, σ₁, j, rfl, hj, st₁, o₁, it₁, h₁⟩
  have hits₁ : itsV σ₁.toHp v = some xs := each_its (b := b) (x := x) (l := xs.drop j) (by rw [h₁]; exact hne)
  cases hxj : xs[j]? with
  | none =>
    have hd : xs.drop j = [] := List.drop_of_length_le (List.getElem?_eq_none_iff.mp hxj)
    rw [hd] at h₁
    unfold eachF at h₁
    rw [if_pos hits₁] at h₁
    refine iter_end hh st₁.inv it₁ hits₁ hxj fun h' hk => wpAny_execs_nil ?_
    refine ⟨_, σ₁, W₁, h₁.symm, st₁.aside F.hL nI o₁ (fun b o hb e => hk b o hb e) rfl rfl, .next⟩
  | some y =>
    have hlt : j < xs.length := (List.getElem?_eq_some_iff.mp hxj).1
    have hd : xs.drop j = y :: xs.drop (j + 1) := by
      rw [List.drop_eq_getElem_cons hlt, (List.getElem?_eq_some_iff.mp hxj).2]
    rw [hd] at h₁
    unfold eachF at h₁
    rw [if_pos hits₁] at h₁
    refine iter_next st₁.inv it₁ hits₁ hxj fun c h₂ t₂ hvc hit₂ hs₂ => ?_
    have st₂ : Step P fr env W σ s W₁ σ₁ { s₁ with heap := h₂, toks := t₂ } := st₁.aside F.hL nI o₁ (fun b o hb e => (hs₂.2 b hb).trans e) rfl rfl
    refine wpAny_assign_Name (store_ok F st₂.inv st₂.loc hx hvc fun s₃ st₃ => ?_)
    have st₃' := st₂.trans st₃
    obtain ⟨oI₂, eI₂⟩ := hit₂.there
    have hIL : Ia ≠ env.locals := fun q => o₁.notFr (q ▸ F.hL)
    have o₃ : Out P fr W₁ (σ₁.set x y).nxt Ia := o₁
    have it₃ : ItAt W₁ σ₁.nxt s₃.heap Ia v (j + 1) := hit₂.mono (.refl ..) (Nat.le_refl _) fun o e => st₃.nx.ext Ia o e hIL o₁.notFr o₁.notOwn
    have hbne : b (σ₁.set x y) ≠ .bad := by intro q; rw [q] at h₁; exact hne h₁.symm
    refine wpAny_mono (hb W₁ (σ₁.set x y) s₃ st₃.inv st₃.loc hbne) (fun f s₄ ⟨fl, σ₄, W₄, e₄, st₄, hf⟩ => ?_) (fun e s' ⟨cl, σ₄, W₄, ea, _, e₄, _⟩ => by rw [e₄] at h₁; exact absurd h₁.symm hne)
    rw [e₄] at h₁
    obtain ⟨oI₃, eI₃⟩ := it₃.there
    have st₅ := st₃'.trans st₄
    have o₄ := o₃.step eI₃ st₄.nx
    have it₄ : ItAt W₄ σ₄.nxt s₄.heap Ia v (j + 1) := it₃.mono st₄.nx.wle st₄.nx.le fun o e => st₄.nx.ext Ia o e hIL o₃.notFr o₃.notOwn
    cases hf with
    | next => exact ⟨xs.length + 1 - (j + 1), by omega, W₄, σ₄, j + 1, rfl, hlt, st₅, o₄, it₄, h₁⟩
    | cont => exact ⟨xs.length + 1 - (j + 1), by omega, W₄, σ₄, j + 1, rfl, hlt, st₅, o₄, it₄, h₁⟩
    | brk => exact ⟨_, σ₄, W₄, h₁.symm, st₅, .next⟩
    | ret hv => exact ⟨_, σ₄, W₄, h₁.symm, st₅, .ret hv⟩

theorem sndS_each {sc : Scope} {x : Str} {it : X} {b : S} {i : Expr} {z : List Stmt} {px pos : Pos} (h1 : sc.names.lookup x = some .local) (h2 : Ok it sc (.e i)) (ib : SndS P b sc (.l z)) (h4 : isSetE i = false) : SndS P (.each x it b) sc (.s (.For (.Name x px) i z [] pos)) := by
  intro cx hx C H hc hl fr A env F S
  intro W σ s I L hne
  have hcm : cx.calm = false := by
    cases hc : cx.calm with
    | false => rfl
    | true =>
      have e0 : ex (.each x it b) cx hx σ = .bad := by
        show (if cx.calm = true then Rs.bad else _) = _
        rw [if_pos hc]
      exact absurd e0 hne
  have hh : A.handled = none := F.handled.resolve_right (by rw [hcm]; decide)
  have hev : ex (.each x it b) cx hx σ = (ev cx.toCx it σ).bind fun v σ₁ => match itsV σ₁.toHp v with
      | some xs => eachF v xs x (ex b cx hx) xs σ₁
      | none => .bad := by
    show (if cx.calm = true then Rs.bad else _) = _
    rw [if_neg (by rw [hcm]; decide)]; try rfl
  rw [hev] at hne ⊢
  refine wpAny_For (then1p (sound C.base h2 fr A env F.toFm S).1 I L hne (fun e s' h => h) fun v cv W₁ σ₁ s₁ e₁ st₁ hv => ?_) (not_set h4)
  rw [Rs.bind_ok e₁] at hne ⊢
  revert hne
  split <;> intro hne
  · rename_i xs hxs
    refine wpAny_mono (each_ok (E := EPost P fr env W σ s (eachF v xs x (ex b cx hx) xs σ₁)) hh F (S.loc x h1) (ib cx hx C H hc hl fr A env F S) hv st₁.inv st₁.loc hne) (fun it s₂ h => codeAny_mono h fun r s' hr => ?_) fun _ _ e => e
    cases r with
    | ok f => exact PostF.after st₁ hr
    | error e => exact hr
  · exact absurd rfl hne
end
end Mine
end
section
set_option Elab.async false
set_option linter.all false
set_option maxRecDepth 100000
namespace Mine
open PySem PySem.W PyProof.Rows

section
variable {P : Par} {fr : List Nat} {A : Around} {env : Env} {W W' : Wd} {σ σ' : St} {s s' : Shared} {cx hx : Sx}

theorem FmS.marked {cm cm' : Bool} {lv lv' : Nat} (F : FmS P cm lv fr A env) (h : cm' = true) (hl : lv' ≤ lv) (v : Option Value) : FmS P cm' lv' fr (A.mark v) env :=
  ⟨⟨F.hL, .inr h, by have := F.units; show A.units + _ + _ < _; omega, by have := F.depth; show A.depth + _ + _ < _; omega, F.frames⟩, F.top, F.frame⟩

/-- the flight's place is taken off -/
theorem flight_off {Q : Unit → Shared → Prop} {E : Value → Shared → Prop} (st : Step P fr env W σ s W' σ' s') (hL : env.locals ∈ fr) {e : Nat} {cls : String} (x : ExcAt P fr W' σ'.nxt s.heap s'.heap e cls)
    (hq : ∀ s'', Step P fr env W σ s W' σ' s'' → Q () s'') : wpAny P.M A (setFlight (.ref e) none) Q E s' := by
  obtain ⟨ob, vs, h1, h2, h3, h4, h5⟩ := x.there
  unfold setFlight
  rcases h5 with h5 | ⟨T, oT, ts, t1, t2, t3, t4, t5, t6, t7, t8, t9, t10⟩
  · refine wpAny_bind (wpAny_field h1 h3 h5 ?_)
    rw [if_neg (by decide)]
    exact wpAny_pure (hq _ st)
  · refine wpAny_bind (wpAny_field h1 h3 t1 ?_)
    rw [if_pos (show (Value.ref T != Value.none) = true from by simp)]
    refine wpAny_setField t8 t9 (Array.getElem?_eq_some_iff.mp t10).1 ?_
    exact hq _ (st.aside hL t6 ⟨t2, t3, t4, t5⟩ (fun b o hb e' => (Heap.get?_update_other _ _ (Ne.symm hb)).trans e') rfl rfl)

/-- one clause of a try -/
theorem clause_ok {Q : Flow → Shared → Prop} {E : Value → Shared → Prop} (C : SxOk P cx) (H : SxOk P hx) (hc : hx.calm = true) (hl : hx.lvl ≤ cx.lvl) (F : FmS P cx.calm cx.lvl fr A env) {sc : Scope} (Sc : ScOk sc env) {h : S}
    {n : Str} {y₀ : Stmt} {y : List Stmt} {px ph : Pos} {rest : List ExceptHandler} (h0 : sc.names.lookup n = some .globalImplicit) (ih : SndS P h sc (.l (y₀ :: y)))
    (st : Step P fr env W σ s W' σ' s') {e : Nat} {cls : String} (x : ExcAt P fr W' σ'.nxt s.heap s'.heap e cls) {r : Rs Fl}
    (hne : clause cx.sub cls n (noErr (ex h hx hx σ')) r ≠ .bad)
    (hQ : ∀ f s', PostF P fr env W σ s (clause cx.sub cls n (noErr (ex h hx hx σ')) r) f s' → Q f s')
    (hr : clause cx.sub cls n (noErr (ex h hx hx σ')) r = r → wpAny P.M A (handleBy (.ref e) env rest) Q E s') :
    wpAny P.M A (handleBy (.ref e) env (.ExceptHandler (some (.Name n px)) none (y₀ :: y) ph :: rest)) Q E s' := by
  cases hs : cx.sub cls n with
  | none =>
    have : clause cx.sub cls n (noErr (ex h hx hx σ')) r = .bad := by unfold clause; rw [hs]
    exact absurd this hne
  | some b =>
    obtain ⟨T, ⟨c, mg, mb, q1, q2, q3, rfl⟩, hd, s1, s2, s3⟩ := C.sub _ _ _ hs
    have hg := st.loc.glob
    have hb := st.loc.bns
    have hk := Sc.glob n h0
    have nm : ∀ {A' : Around} {Q' : Value → Shared → Prop} {E' : Value → Shared → Prop}, Q' (.type T) s' → wpAny P.M A' (eval (.Name n px) env) Q' E' s' := fun hq' => by
      refine Calls.Name_function_global (env := env) st.loc.kind hk ?_ hd
      rcases q3 with hc | ⟨hc, hb'⟩
      · exact Calls.loadGlobal_global (by rw [hg]; exact keeps_ns st.inv q1) hc hq'
      · exact Calls.loadGlobal_builtin (by rw [hg]; exact keeps_ns st.inv q1) hc (by rw [hb]; exact keeps_ns st.inv q2) hb' hq'
    have hty : s'.TypeIs (.ref e) cls := by
      obtain ⟨ob, vs, e1, e2, e3, _⟩ := x.there
      exact ⟨ob, e1, e2⟩
    refine wpAny_handleBy_builtin s1 s2 s3 (nm ⟨rfl, hty, ?_⟩)
    cases b with
    | false =>
      have e0 : clause cx.sub cls n (noErr (ex h hx hx σ')) r = r := by unfold clause; rw [hs]
      exact hr e0
    | true =>
        have e0 : clause cx.sub cls n (noErr (ex h hx hx σ')) r = noErr (ex h hx hx σ') := by unfold clause; rw [hs]
        rw [e0] at hne hQ
        refine flight_off st F.hL x fun s₂ st₂ => ?_
        have hne' : ex h hx hx σ' ≠ .bad := by intro q; rw [q] at hne; exact hne rfl
        refine wpAny_mono (ih hx hx H H hc (Nat.le_refl _) fr (A.mark (some (.ref e))) env (F.marked hc hl _) Sc W' σ' s₂ st₂.inv st₂.loc hne') (fun f s₃ hf => ?_) (fun e' s₃ ⟨cl, σ₄, W₄, ea, _, e₄, _⟩ => by rw [e₄] at hne; exact absurd rfl hne)
        refine hQ f s₃ ?_
        obtain ⟨v, σ₃, W₃, e₃, st₃, hv⟩ := hf
        exact ⟨v, σ₃, W₃, by rw [e₃]; rfl, st₂.trans st₃, hv⟩

theorem sndS_try1 {sc : Scope} {b : S} {c : Str} {h : S} {x : List Stmt} {px ph pos : Pos} {y₀ : Stmt} {y : List Stmt} (ib : SndS P b sc (.l x)) (ih : SndS P h sc (.l (y₀ :: y))) (h3 : sc.names.lookup c = some .globalImplicit) : SndS P (.try1 b c h) sc (.s (.Try x [.ExceptHandler (some (.Name c px)) none (y₀ :: y) ph] [] [] pos)) := by
  intro cx hx C H hc hl fr A env F Sc
  intro W σ s I L hne
  have hev : ex (.try1 b c h) cx hx σ = caught (ex b cx hx σ) fun cls σ₁ => clause cx.sub cls c (noErr (ex h hx hx σ₁)) .bad := rfl
  rw [hev] at hne ⊢
  have hbne : ex b cx hx σ ≠ .bad := by intro q; rw [q] at hne; exact hne rfl
  refine wpAny_Try_except (wpAny_mono (ib cx hx C H hc hl fr A env F Sc W σ s I L hbne) (fun f s₁ ⟨v, σ₁, W₁, e₁, st₁, hv⟩ => ?_) (fun e s₁ ⟨cls, σ₁, W₁, ea, e0, e₁, st₁, x₁⟩ => ?_))
  · rw [e₁]
    cases hv with
    | next => exact wpAny_execs_nil ⟨_, σ₁, W₁, rfl, st₁, .next⟩
    | brk => exact ⟨_, σ₁, W₁, rfl, st₁, .brk⟩
    | cont => exact ⟨_, σ₁, W₁, rfl, st₁, .cont⟩
    | ret hv => exact ⟨_, σ₁, W₁, rfl, st₁, .ret hv⟩
  · subst e0
    refine note2 F st₁.inv x₁ st₁.nx.live fun h' N => ?_
    have hev2 : caught (ex b cx hx σ) (fun cls σ₁ => clause cx.sub cls c (noErr (ex h hx hx σ₁)) .bad) = clause cx.sub cls c (noErr (ex h hx hx σ₁)) .bad := by rw [e₁]; rfl
    rw [hev2] at hne ⊢
    exact clause_ok C H hc hl F Sc h3 ih (st₁.noted F.hL N) N.exc hne (fun f s' h => h) fun q => absurd q hne

theorem sndS_try2 {sc : Scope} {b : S} {c : Str} {h : S} {c₂ : Str} {h₂ : S} {x : List Stmt} {px ph px₂ ph₂ pos : Pos} {y₀ z₀ : Stmt} {y z : List Stmt} (ib : SndS P b sc (.l x)) (ih : SndS P h sc (.l (y₀ :: y))) (ih₂ : SndS P h₂ sc (.l (z₀ :: z))) (h3 : sc.names.lookup c = some .globalImplicit) (h3' : sc.names.lookup c₂ = some .globalImplicit) :
    SndS P (.try2 b c h c₂ h₂) sc (.s (.Try x [.ExceptHandler (some (.Name c px)) none (y₀ :: y) ph, .ExceptHandler (some (.Name c₂ px₂)) none (z₀ :: z) ph₂] [] [] pos)) := by
  intro cx hx C H hc hl fr A env F Sc
  intro W σ s I L hne
  have hev : ex (.try2 b c h c₂ h₂) cx hx σ = caught (ex b cx hx σ) fun cls σ₁ => clause cx.sub cls c (noErr (ex h hx hx σ₁)) (clause cx.sub cls c₂ (noErr (ex h₂ hx hx σ₁)) .bad) := rfl
  rw [hev] at hne ⊢
  have hbne : ex b cx hx σ ≠ .bad := by intro q; rw [q] at hne; exact hne rfl
  refine wpAny_Try_except (wpAny_mono (ib cx hx C H hc hl fr A env F Sc W σ s I L hbne) (fun f s₁ ⟨v, σ₁, W₁, e₁, st₁, hv⟩ => ?_) (fun e s₁ ⟨cls, σ₁, W₁, ea, e0, e₁, st₁, x₁⟩ => ?_))
  · rw [e₁]
    cases hv with
    | next => exact wpAny_execs_nil ⟨_, σ₁, W₁, rfl, st₁, .next⟩
    | brk => exact ⟨_, σ₁, W₁, rfl, st₁, .brk⟩
    | cont => exact ⟨_, σ₁, W₁, rfl, st₁, .cont⟩
    | ret hv => exact ⟨_, σ₁, W₁, rfl, st₁, .ret hv⟩
  · subst e0
    refine note2 F st₁.inv x₁ st₁.nx.live fun h' N => ?_
    have hev2 : caught (ex b cx hx σ) (fun cls σ₁ => clause cx.sub cls c (noErr (ex h hx hx σ₁)) (clause cx.sub cls c₂ (noErr (ex h₂ hx hx σ₁)) .bad)) = clause cx.sub cls c (noErr (ex h hx hx σ₁)) (clause cx.sub cls c₂ (noErr (ex h₂ hx hx σ₁)) .bad) := by rw [e₁]; rfl
    rw [hev2] at hne ⊢
    have st₂ := st₁.noted F.hL N
    refine clause_ok C H hc hl F Sc h3 ih st₂ N.exc hne (fun f s' h => h) fun q => ?_
    rw [q] at hne ⊢
    exact clause_ok C H hc hl F Sc h3' ih₂ st₂ N.exc hne (fun f s' h => h) fun q => absurd q hne

theorem soundS {st : S} {sc : Scope} {pt : Pt} (h : TieS st sc pt) : SndS P st sc pt := by
  induction h with
  | skip => exact sndS_skip
  | brk => exact sndS_brk
  | cont => exact sndS_cont
  | expr a b => exact sndS_expr a b
  | asg a b c => exact sndS_asg a b c
  | asgL a b c d e f => exact sndS_asgL b c d e f a
  | asgC a b c => exact sndS_asgC a b c
  | asgCL a b c d e f => exact sndS_asgCL b c d e f a
  | own a b => exact sndS_own a b
  | ownL a b c d e f => exact sndS_ownL b c d e f a
  | ownC a b => exact sndS_ownC a b
  | ownCL a b c d e f => exact sndS_ownCL b c d e f a
  | setA a b c => exact sndS_setA a b c
  | aug a b => exact sndS_aug a b
  | ret a => exact sndS_ret a
  | ret0 => exact sndS_ret0
  | ite a _ _ b c => exact sndS_ite a b c
  | loop a _ _ b c => exact sndS_loop a b c
  | each a b _ c d => exact sndS_each a b d c
  | assert a => exact sndS_assert a
  | try1 _ _ a b c => exact sndS_try1 b c a
  | try2 _ _ _ a b c d e => exact sndS_try2 c d e a b
  | nil => exact sndS_nil
  | seq _ _ a b => exact sndS_seq a b
  | unk => exact sndS_unk
end
end Mine
end
section
set_option Elab.async false
set_option linter.all false
set_option maxRecDepth 100000
namespace Mine
open PySem PySem.W PyProof.Rows

/-! ## a def's frame -/
noncomputable def Hp.add (H : Hp) (o : O) : Hp := { obj := fun k => if k = H.nxt then some o else H.obj k, nxt := H.nxt + 1 }
noncomputable def cellsH (bv : List (Str × V)) : List (Str × NameKind) → Hp → List (Str × Nat) → Hp × List (Str × Nat)
  | [], H, c => (H, c)
  | (x, k) :: r, H, c => if k == .cell then cellsH bv r (H.add (.cell (bv.lookup x))) ((x, H.nxt) :: c) else cellsH bv r H c
noncomputable def keyed (names : List (Str × NameKind)) : Bool := match names with
  | [] => true
  | (x, _) :: r => r.all (fun p => p.1 != x) && keyed r
noncomputable def distinct : List Str → Bool
  | [] => true
  | x :: r => r.all (fun y => y != x) && distinct r
noncomputable def fnShape (sc : Scope) (ps : List Str) : Bool := sc.kind == .function && !sc.isCoroutine && !sc.isGenerator && keyed sc.names && sc.names.all (fun p => p.2 != .free) && distinct ps && ps.all (fun x => sc.names.lookup x == some .local || sc.names.lookup x == some .cell)
noncomputable def retR (f : Fl) (σ : St) : Rs V := match f with
  | .ret v => .ok v σ
  | .next => .ok .none σ
  | _ => .bad
noncomputable def entry (sc : Scope) (bv : List (Str × V)) (H : Hp) : St := { toHp := (cellsH bv sc.names H []).1, loc := bv.filter (fun p => sc.names.lookup p.1 == some .local), cel := (cellsH bv sc.names H []).2 }
noncomputable def runFn (sc : Scope) (ps : List Str) (b : S) (cx hx : Sx) (args : List V) (H : Hp) : Rs V :=
  if args.length = ps.length then (ex b cx hx (entry sc (ps.zip args) H)).bind retR else .bad

/-- two ways to look a name up agree -/
noncomputable def Ro (W : Wd) (n : Nat) : Option V → Option Value → Prop
  | some v, some c => VR W n v c
  | none, none => True
  | _, _ => False

theorem zip_rel {W : Wd} {n : Nat} (x : Str) : ∀ (ps : List Str) {args : List V} {cs : List Value}, VRs W n args cs → Ro W n ((ps.zip args).lookup x) ((ps.zip cs).lookup x)
  | [], _, _, _ => by simp [Ro]
  | p :: ps, _, _, .nil => by simp [Ro]
  | p :: ps, _, _, .cons h r => by
    simp only [List.zip_cons_cons, List.lookup]
    cases x == p with
    | true => exact h
    | false => exact zip_rel x ps r

theorem lookup_zip_none {α : Type} {x : Str} : ∀ {ps : List Str} {cs : List α}, ps.all (fun y => y != x) = true → (ps.zip cs).lookup x = none
  | [], _, _ => by simp
  | p :: ps, [], _ => by simp
  | p :: ps, c :: cs, h => by
    simp only [List.all_cons, Bool.and_eq_true, bne_iff_ne, ne_eq] at h
    simp only [List.zip_cons_cons, List.lookup]
    rw [show (x == p) = false from by simpa using fun q => h.1 q.symm]
    exact lookup_zip_none h.2

theorem bindL_at {kd : Str → Option NameKind} {x : Str} : ∀ {ps : List Str} {cs : List Value} {m : Str → Option Value}, distinct ps = true → bindL kd (ps.zip cs) m x = if kd x = some .local then ((ps.zip cs).lookup x).or (m x) else m x
  | [], cs, m, _ => by simp [bindL]
  | p :: ps, [], m, _ => by simp [bindL]
  | p :: ps, c :: cs, m, h => by
    simp only [distinct, Bool.and_eq_true] at h
    simp only [List.zip_cons_cons, bindL]
    rw [bindL_at h.2]
    simp only [List.lookup]
    by_cases hx : x = p
    · subst hx
      rw [lookup_zip_none h.1]
      by_cases hk : kd x = some .local
      · simp [hk]
      · simp [hk]
    · rw [show (x == p) = false from by simpa using hx]
      by_cases hk : kd x = some .local
      · simp only [hk, if_true]
        congr 1
        by_cases hp : kd p = some .local
        · simp [hp, hx]
        · simp [hp]
      · simp only [hk, if_false]
        by_cases hp : kd p = some .local
        · simp [hp, hx]
        · simp [hp]

theorem bindC_at {kd : Str → Option NameKind} {x : Str} (hk : kd x ≠ some .local) : ∀ {ps : List Str} {cs : List Value} {m : Str → Option Value}, distinct ps = true → bindC kd (ps.zip cs) m x = ((ps.zip cs).lookup x).or (m x)
  | [], cs, m, _ => by simp [bindC]
  | p :: ps, [], m, _ => by simp [bindC]
  | p :: ps, c :: cs, m, h => by
    simp only [distinct, Bool.and_eq_true] at h
    simp only [List.zip_cons_cons, bindC]
    rw [bindC_at hk h.2]
    simp only [List.lookup]
    by_cases hx : x = p
    · subst hx
      rw [lookup_zip_none h.1]
      simp [hk]
    · rw [show (x == p) = false from by simpa using hx]
      by_cases hp : kd p = some .local
      · simp [hp]
      · simp [hp, hx]

theorem keyed_lookup {x : Str} {k : NameKind} : ∀ {names : List (Str × NameKind)}, keyed names = true → (x, k) ∈ names → names.lookup x = some k
  | (y, k') :: r, h, hm => by
    simp only [keyed, Bool.and_eq_true] at h
    rcases List.mem_cons.mp hm with q | q
    · cases q; simp [List.lookup]
    · have hne : x ≠ y := by
        have := List.all_eq_true.mp h.1 _ q
        simpa using this
      simp only [List.lookup]
      rw [show (x == y) = false from by simpa using hne]
      exact keyed_lookup h.2 q

theorem mem_of_lookupK {x : Str} {k : NameKind} : ∀ {names : List (Str × NameKind)}, names.lookup x = some k → (x, k) ∈ names
  | [], h => by cases h
  | (y, k') :: r, h => by
    simp only [List.lookup] at h
    cases hq : x == y with
    | true => rw [hq] at h; cases h; rw [show x = y from by simpa using hq]; exact .head _
    | false => rw [hq] at h; exact .tail _ (mem_of_lookupK h)

theorem cells_some {x : Str} : ∀ {names : List (Str × NameKind)} {n : Nat} {acc : List (Str × Addr)}, ((acc.lookup x).isSome = true ∨ (x, NameKind.cell) ∈ names) → ((cellsFrom n names acc).lookup x).isSome = true
  | [], n, acc, h => by
    rcases h with h | h
    · exact h
    · cases h
  | (y, k) :: r, n, acc, h => by
    unfold cellsFrom
    by_cases hk : (k == NameKind.cell) = true
    · rw [if_pos hk]
      refine cells_some ?_
      simp only [List.lookup]
      cases hq : x == y with
      | true => exact .inl rfl
      | false =>
        rcases h with h | h
        · exact .inl h
        · rcases List.mem_cons.mp h with q | q
          · cases q; simp at hq
          · exact .inr q
    · rw [if_neg hk]
      refine cells_some ?_
      rcases h with h | h
      · exact .inl h
      · rcases List.mem_cons.mp h with q | q
        · cases q; exact absurd rfl hk
        · exact .inr q

section
variable {P : Par} {fr : List Nat} {A : Around} {env : Env} {W W' : Wd} {σ σ' : St} {s s' : Shared}

/-- the cells of a frame are ours -/
theorem cells_ok {bv : List (Str × V)} {cm : Str → Option Value} {all : List (Str × Addr)} {L : Nat} (hcell : ∀ x c, (x, c) ∈ all → s'.heap.IsCell c (cm x)) (hrel : ∀ x, Ro W σ.nxt (bv.lookup x) (cm x) ∨ ∀ c, (x, c) ∉ all) :
    ∀ (names : List (Str × NameKind)) (n : Nat) (acc : List (Str × Addr)) (cel : List (Str × Nat)) (H : Hp) (W' : Wd), (∀ p ∈ cellsFrom n names acc, p ∈ all) → Step P fr env W σ s W' { σ with toHp := H } s' → s.heap.get? L = none → L < n → s.heap.objs.size ≤ n →
      Out P fr W' H.nxt L → (∀ a, n ≤ a → Out P fr W' H.nxt a) → (∀ x k, cel.lookup x = some k → k < H.nxt ∧ acc.lookup x = some (W'.ρ k)) →
      ∃ W'', Step P fr env W σ s W'' { σ with toHp := (cellsH bv names H cel).1 } s' ∧ Out P fr W'' (cellsH bv names H cel).1.nxt L ∧ ∀ x k, (cellsH bv names H cel).2.lookup x = some k → k < (cellsH bv names H cel).1.nxt ∧ (cellsFrom n names acc).lookup x = some (W''.ρ k)
  | [], n, acc, cel, H, W', _, st, _, _, _, oL, _, hc => ⟨W', st, oL, hc⟩
  | (x, k) :: r, n, acc, cel, H, W', ha, st, hL, hn, hsz, oL, oa, hc => by
    unfold cellsFrom at ha ⊢
    unfold cellsH
    by_cases hk : (k == NameKind.cell) = true
    · rw [if_pos hk] at ha ⊢
      rw [if_pos hk]
      have hsub : ∀ (names : List (Str × NameKind)) (m : Nat) (ac : List (Str × Addr)), ∀ p ∈ ac, p ∈ cellsFrom m names ac := by
        intro names
        induction names with
        | nil => exact fun _ _ _ h => h
        | cons hd tl ih =>
          intro m ac p h
          obtain ⟨y, ky⟩ := hd
          unfold cellsFrom
          split
          · exact ih _ _ _ (.tail _ h)
          · exact ih _ _ _ h
      have hm : (x, n) ∈ all := ha _ (hsub _ _ _ _ (.head _))
      obtain ⟨ob, e1, d1⟩ := hcell x n hm
      have hnone : s.heap.get? n = none := Heap.get?_none_of_le hsz
      have wl := W'.add_le H.nxt n
      have hor : OR (W'.add H.nxt n) (H.nxt + 1) (.cell (bv.lookup x)) ob := by
        rcases hrel x with q | q
        · revert q d1
          cases bv.lookup x with
          | none => cases cm x with
            | none => exact fun d1 _ => .nocell d1
            | some _ => exact fun _ q => q.elim
          | some v => cases cm x with
            | none => exact fun _ q => q.elim
            | some c => exact fun d1 q => .cell d1 ((VR.mono st.nx.wle st.nx.le q).mono wl (Nat.le_succ _))
        · exact absurd hm (q n)
      have st₂ := Step.addLate (o := .cell (bv.lookup x)) st hnone e1 (oa n (Nat.le_refl _)) hor
      have ρn : (W'.add H.nxt n).ρ H.nxt = n := by show (if H.nxt = H.nxt then _ else _) = _; rw [if_pos rfl]
      have oth : ∀ a, a ≠ n → Out P fr W' H.nxt a → Out P fr (W'.add H.nxt n) (H.nxt + 1) a := fun a hne o => ⟨o.notB, o.notFr, o.notFz, fun j hj => by
        rcases Nat.lt_succ_iff_lt_or_eq.mp hj with h | h
        · rw [wl.ρ j h]; exact o.notOwn j h
        · subst h; rw [ρn]; exact Ne.symm hne⟩
      refine cells_ok hcell hrel r (n + 1) ((x, n) :: acc) ((x, H.nxt) :: cel) (H.add (.cell (bv.lookup x))) (W'.add H.nxt n) ha st₂ hL (by omega) (by omega) (oth L (Nat.ne_of_lt hn) oL) (fun a h => oth a (by omega) (oa a (by omega))) fun y j hj => ?_
      simp only [List.lookup] at hj ⊢
      cases hq : y == x with
      | true => rw [hq] at hj; cases hj; exact ⟨Nat.lt_succ_self _, by rw [ρn]⟩
      | false =>
        rw [hq] at hj
        obtain ⟨p, q⟩ := hc y j hj
        exact ⟨Nat.lt_succ_of_lt p, by rw [wl.ρ j p]; exact q⟩
    · rw [if_neg hk] at ha ⊢
      rw [if_neg hk]
      exact cells_ok hcell hrel r n acc cel H W' ha st hL hn hsz oL oa hc
end
end Mine
end
section
set_option Elab.async false
set_option linter.all false
set_option maxRecDepth 100000
namespace Mine
open PySem PySem.W PyProof.Rows

structure FnOk (P : Par) (f : Addr) (fd : FuncData) (ps : List Str) (body : List Stmt) : Prop where
  there : ∃ o, P.B.get? f = some o ∧ o.data = .func fd
  lim : P.B.NoLimit
  code : P.B.CodeRec fd.code fd.qualname
  body : fd.body = .stmts body
  clo : fd.closure = []
  glob : fd.globals = mainGlobals
  bns : fd.builtins = builtinsNs
  bind : ∀ s : Shared, (∀ b o, P.B.get? b = some o → s.heap.get? b = some o) → ∀ cargs : List Value, cargs.length = ps.length → BindsTo s fd ⟨cargs, []⟩ (ps.zip cargs)
  shape : fnShape fd.scope ps = true

section
variable {P : Par} {fr : List Nat} {A : Around} {env : Env} {W W' : Wd} {σ σ' : St} {s s' : Shared} {cx hx : Sx}

theorem ExcAt.outer {L : Nat} {n : Nat} {h₀ h : Heap} {e : Nat} {cls : String} (x : ExcAt P (L :: fr) W n h₀ h e cls) : ExcAt P fr W n h₀ h e cls := by
  obtain ⟨ob, vs, h1, h2, h3, h4, h5⟩ := x.there
  refine ⟨x.notB, fun q => x.notFr (.tail _ q), x.notFz, x.notOwn, x.new, ob, vs, h1, h2, h3, h4, ?_⟩
  rcases h5 with h5 | ⟨T, oT, ts, t1, t2, t3, t4, t5, t6, t7⟩
  · exact .inl h5
  · exact .inr ⟨T, oT, ts, t1, t2, fun q => t3 (.tail _ q), t4, t5, t6, t7⟩

theorem call_code {f : Addr} {fd : FuncData} {ps : List Str} {body : List Stmt} (K : FnOk P f fd ps body) (C : SxOk P cx) (H : SxOk P hx) (hc : hx.calm = true) (hl : hx.lvl ≤ cx.lvl) {b : S} (hb : TieS b fd.scope (.l body))
    (F : Fm P cx.calm (cx.lvl + 1) fr A env) (I : Inv P fr W σ.toHp s) (L : Loc env W σ s.heap) {args : List V} {cargs : List Value} (ha : VRs W σ.nxt args cargs) (hne : (runFn fd.scope ps b cx hx args σ.toHp).lift σ ≠ .bad) :
    codeAny P.M A (.call (.ref f) ⟨cargs, []⟩) (fun r s' => match r with | .ok (.ret v) => Post P fr env W σ s ((runFn fd.scope ps b cx hx args σ.toHp).lift σ) v s' | .ok _ => False | .error e => EPost P fr env W σ s ((runFn fd.scope ps b cx hx args σ.toHp).lift σ) e s') s := by
  obtain ⟨o, ho, hd⟩ := K.there
  have ho' := I.keep f o ho
  have hlen : args.length = ps.length := by
    refine Decidable.byContradiction fun q => hne ?_
    unfold runFn; rw [if_neg q]; rfl
  have hrun : runFn fd.scope ps b cx hx args σ.toHp = (ex b cx hx (entry fd.scope (ps.zip args) σ.toHp)).bind retR := by unfold runFn; rw [if_pos hlen]
  rw [hrun] at hne ⊢
  have hsh := K.shape
  simp only [fnShape, Bool.and_eq_true, beq_iff_eq, Bool.not_eq_true'] at hsh
  obtain ⟨⟨⟨⟨⟨⟨k1, k2⟩, k3⟩, k4⟩, k5⟩, k6⟩, k7⟩ := hsh
  have hclen : cargs.length = ps.length := ha.length.trans hlen
  have hroom : A.depth < recursionLimit := by have := F.depth; omega
  have hkind : ∀ n, ∀ x ∈ ps.zip cargs, fd.scope.names.lookup x.1 = some .local ∨ (fd.scope.names.lookup x.1 = some .cell ∧ ((cellsFrom n fd.scope.names []).lookup x.1).isSome = true) := fun n x hx' => by
    have hp : x.1 ∈ ps := (List.of_mem_zip (a := x.1) (b := x.2) hx').1
    have := List.all_eq_true.mp k7 _ hp
    simp only [Bool.or_eq_true, beq_iff_eq] at this
    rcases this with q | q
    · exact .inl q
    · exact .inr ⟨q, cells_some (.inr (mem_of_lookupK q))⟩
  refine codeAny_call_function hroom ho' hd k2 k3 K.body (K.code.keeps I.keep) (K.bind s I.keep cargs hclen _ _ _ _ ?_)
  rw [K.clo]
  refine wpAny_newFunctionEnv_cells k1 (hkind _) fun env' he s₁ x => ?_
  subst he
  refine ⟨(K.lim.keeps I.keep).keeps x.toInCall.keep, codeAny_func ?_⟩
  obtain ⟨h₁, tk, es, hk₁⟩ := x.done
  generalize hLL : s.heap.objs.size = LL at x
  have hLn : s.heap.get? LL = none := hLL ▸ size_new _
  generalize hce : newEnv fd.scope LL fd.globals (cellsFrom (LL + 1) fd.scope.names []) (fd.qualname ++ ".<locals>.") (some f) fd.code none fd.builtins = cenv at x
  have c1 : cenv.scope = fd.scope := by rw [← hce]; rfl
  have c2 : cenv.locals = LL := by rw [← hce]; rfl
  have c3 : cenv.cells = cellsFrom (LL + 1) fd.scope.names [] := by rw [← hce]; rfl
  have c4 : cenv.globals = mainGlobals := by rw [← hce]; exact K.glob
  have c5 : cenv.builtins = builtinsNs := by rw [← hce]; exact K.bns
  have c6 : cenv.frame = some LL := by rw [← hce]; rfl
  have c7 : ∀ y, cenv.kindOf y = fd.scope.names.lookup y := fun y => by unfold Env.kindOf; rw [c1]
  have g1 : s₁.gens = s.gens := by rw [es]
  have g2 : s₁.os = s.os := by rw [es]
  have hk₂ : ∀ b o, s.heap.get? b = some o → s₁.heap.get? b = some o := fun b o e => by rw [es]; exact hk₁ b o e
  have st₀ : Step P fr env W σ s W σ s₁ := Step.grow I L hk₂ g1 g2
  have hmemcell : ∀ (names : List (Str × NameKind)) (n : Nat) (acc : List (Str × Addr)) (y : Str) (c : Addr), (y, c) ∈ cellsFrom n names acc → (y, c) ∈ acc ∨ (y, NameKind.cell) ∈ names := by
    intro names
    induction names with
    | nil => exact fun _ _ _ _ h => .inl h
    | cons hd' tl ih =>
      intro n acc y c h
      obtain ⟨z, kz⟩ := hd'
      unfold cellsFrom at h
      split at h
      · rename_i hz
        rcases ih _ _ _ _ h with q | q
        · rcases List.mem_cons.mp q with q | q
          · cases q; right; rw [show kz = NameKind.cell from by simpa using hz]; exact .head _
          · exact .inl q
        · exact .inr (.tail _ q)
      · rcases ih _ _ _ _ h with q | q
        · exact .inl q
        · exact .inr (.tail _ q)
  have hndcell : ∀ (names : List (Str × NameKind)) (n : Nat) (acc : List (Str × Addr)), keyed names = true → (acc.map (·.1)).Nodup → (∀ p ∈ acc, ∀ q ∈ names, q.1 ≠ p.1) → ((cellsFrom n names acc).map (·.1)).Nodup := by
    intro names
    induction names with
    | nil => exact fun _ _ _ h _ => h
    | cons hd' tl ih =>
      intro n acc hky hnd hap
      obtain ⟨z, kz⟩ := hd'
      simp only [keyed, Bool.and_eq_true] at hky
      unfold cellsFrom
      split
      · refine ih _ _ hky.2 ?_ fun p hp q hq => ?_
        · simp only [List.map_cons, List.nodup_cons]
          refine ⟨fun hm => ?_, hnd⟩
          obtain ⟨p, hp, e⟩ := List.mem_map.mp hm
          exact hap p hp _ (.head _) e.symm
        · rcases List.mem_cons.mp hp with e | e
          · subst e; have := List.all_eq_true.mp hky.1 q hq; simpa using this
          · exact hap p e q (.tail _ hq)
      · exact ih _ _ hky.2 hnd fun p hp q hq => hap p hp q (.tail _ hq)
  have hcellAt : ∀ y c, (y, c) ∈ cellsFrom (LL + 1) fd.scope.names [] → s₁.heap.IsCell c (bindC cenv.kindOf (ps.zip cargs) (fun _ => none) y) := fun y c hm => by
    refine x.cell y c ?_
    rw [c3]
    exact lookup_of_mem_nodup (hndcell _ _ _ k4 (by simp) fun p hp => by cases hp) hm
  have hrel : ∀ y, Ro W σ.nxt ((ps.zip args).lookup y) (bindC cenv.kindOf (ps.zip cargs) (fun _ => none) y) ∨ ∀ c, (y, c) ∉ cellsFrom (LL + 1) fd.scope.names [] := fun y => by
    by_cases hy : (y, NameKind.cell) ∈ fd.scope.names
    · left
      have hl' : fd.scope.names.lookup y = some .cell := keyed_lookup k4 hy
      rw [bindC_at (by rw [c7, hl']; intro q; cases q) k6]
      have := zip_rel y ps ha
      cases h1 : (ps.zip cargs).lookup y with
      | none => rw [h1] at this; simpa using this
      | some c => rw [h1] at this; simpa using this
    · right
      intro c hm
      rcases hmemcell _ _ _ _ _ hm with q | q
      · cases q
      · exact hy q
  obtain ⟨W₁, st₁, oL, hcel⟩ := cells_ok (L := LL) (bv := ps.zip args) hcellAt hrel fd.scope.names (LL + 1) [] [] σ.toHp W (fun p hp => hp) st₀ hLn (Nat.lt_succ_self _) (by omega) (Out.new I hLn)
    (fun a h => Out.new I (Heap.get?_none_of_le (by omega))) (fun y k h => by cases h)
  -- the frame itself
  obtain ⟨oF, fes, fep, f1, f2, f3⟩ := x.toInCall.ns
  rw [c2] at f1
  have I₁ : Inv P (LL :: fr) W₁ (entry fd.scope (ps.zip args) σ.toHp).toHp s₁ := Inv.under (σ := { σ with toHp := (cellsH (ps.zip args) fd.scope.names σ.toHp []).1 }) st₁.inv oL f1 fun vs q => by rw [f2] at q; cases q
  have L₁ : Loc cenv W₁ (entry fd.scope (ps.zip args) σ.toHp) s₁.heap := by
    refine ⟨by rw [c1]; exact k1, c4, c5, ⟨_, x.toInCall.ns, fun y v h => ?_⟩, fun y k h => ?_⟩
    · have hf : ∀ (l : List (Str × V)), (l.filter (fun p => fd.scope.names.lookup p.1 == some .local)).lookup y = some v → fd.scope.names.lookup y = some .local ∧ l.lookup y = some v := by
        intro l
        induction l with
        | nil => intro h; cases h
        | cons hd' tl ih =>
          intro h
          obtain ⟨z, u⟩ := hd'
          simp only [List.filter] at h
          cases hz : (fd.scope.names.lookup z == some NameKind.local) with
          | true =>
            rw [hz] at h
            simp only [List.lookup] at h ⊢
            cases hq : y == z with
            | true =>
              rw [hq] at h
              have e : y = z := by simpa using hq
              subst e
              exact ⟨by simpa using hz, h⟩
            | false => rw [hq] at h; exact ih h
          | false =>
            rw [hz] at h
            obtain ⟨p1, p2⟩ := ih h
            refine ⟨p1, ?_⟩
            simp only [List.lookup]
            cases hq : y == z with
            | true =>
              have e : y = z := by simpa using hq
              subst e
              rw [p1] at hz; simp at hz
            | false => exact p2
      obtain ⟨p1, p2⟩ := hf _ h
      have hr := zip_rel y ps ha
      rw [p2] at hr
      refine ⟨by rw [c7]; exact p1, ?_⟩
      cases h1 : (ps.zip cargs).lookup y with
      | none => rw [h1] at hr; exact hr.elim
      | some c =>
        rw [h1] at hr
        refine ⟨c, ?_, VR.mono st₁.nx.wle st₁.nx.le hr⟩
        rw [bindL_at k6, c7, p1, h1]
        rfl
    · obtain ⟨p, q⟩ := hcel y k h
      exact ⟨p, fun _ => by rw [c3]; exact q⟩
  have S₁ : ScOk fd.scope cenv := by
    refine ⟨fun y h => by rw [c7]; exact h, fun y h => by rw [c7]; exact h, fun y h => by rw [c7]; exact h, fun y h => by rw [c7]; exact h, fun y h => ?_⟩
    rw [c7] at h
    rw [c3]
    rcases h with h | h
    · have := cells_some (n := LL + 1) (acc := []) (.inr (mem_of_lookupK h))
      exact Option.isSome_iff_exists.mp this
    · have := List.all_eq_true.mp k5 _ (mem_of_lookupK h)
      simp at this
  obtain ⟨lf, hlf, hfm⟩ := F.frames
  have F₁ : FmS P cx.calm cx.lvl (LL :: fr) (A.deeper cenv) cenv := by
    refine ⟨⟨by rw [c2]; exact .head _, F.handled, by have := F.units; show A.units + 3 + _ + _ < _; omega, by have := F.depth; show A.depth + 1 + _ + _ < _; omega, cenv :: lf, by show A.frames.map _ = _; rw [hlf]; rfl, fun e he => ?_⟩, ⟨lf, by show A.frames.map _ = _; rw [hlf]; rfl⟩, by rw [c2]; exact c6⟩
    rcases List.mem_cons.mp he with q | q
    · subst q; exact ⟨by rw [c1, k1]; decide, LL, c6, .head _⟩
    · obtain ⟨a1, Lx, a2, a3⟩ := hfm e q; exact ⟨a1, Lx, a2, .tail _ a3⟩
  have hne₁ : ex b cx hx (entry fd.scope (ps.zip args) σ.toHp) ≠ .bad := by intro q; rw [q] at hne; exact hne rfl
  have hLC : LL ≠ env.locals := fun q => by
    have := (I.frB _ F.hL).2
    obtain ⟨o', e', _⟩ := this
    rw [← q, hLn] at e'; cases e'
  refine wpAny_mono (soundS hb cx hx C H hc hl (LL :: fr) _ cenv F₁ S₁ W₁ _ s₁ I₁ L₁ hne₁) (fun fl s₂ ⟨v, σ₂, W₂, e₂, st₂, hv⟩ => ?_) (fun e s₂ ⟨cls, σ₂, W₂, ea, e0, e₂, st₂, x₂⟩ => ?_)
  · rw [Rs.bind_ok e₂] at hne ⊢
    have stF := Step.inner (σ₁ := entry fd.scope (ps.zip args) σ.toHp) st₁ F.hL hLn c2 hLC rfl st₂
    cases hv with
    | next => exact ⟨_, _, W₂, rfl, stF, .none⟩
    | ret hv => exact ⟨_, _, W₂, rfl, stF, hv⟩
    | brk => exact absurd rfl hne
    | cont => exact absurd rfl hne
  · subst e0
    rw [Rs.bind_err e₂]
    unfold leaving
    refine wpAny_bind (note2 F₁ st₂.inv x₂ st₂.nx.live fun h' N => ?_)
    have st₃ := st₂.noted (by rw [c2]; exact .head _) N
    have stF := Step.inner (σ₁ := entry fd.scope (ps.zip args) σ.toHp) st₁ F.hL hLn c2 hLC rfl st₃
    exact ⟨cls, _, W₂, ea, rfl, rfl, stF, (N.exc.older fun b o e => ⟨o, hk₂ b o e⟩).outer⟩

theorem call_def {f : Addr} {fd : FuncData} {ps : List Str} {body : List Stmt} (K : FnOk P f fd ps body) (C : SxOk P cx) (H : SxOk P hx) (hc : hx.calm = true) (hl : hx.lvl ≤ cx.lvl) {b : S} (hb : TieS b fd.scope (.l body))
    (F : Fm P cx.calm (cx.lvl + 1) fr A env) (I : Inv P fr W σ.toHp s) (L : Loc env W σ s.heap) {args : List V} {cargs : List Value} (ha : VRs W σ.nxt args cargs) (hne : (runFn fd.scope ps b cx hx args σ.toHp).lift σ ≠ .bad) :
    Keeps P.M A (.ref f) s ∧ wpAny P.M A (call (.ref f) cargs []) (Post P fr env W σ s ((runFn fd.scope ps b cx hx args σ.toHp).lift σ)) (EPost P fr env W σ s ((runFn fd.scope ps b cx hx args σ.toHp).lift σ)) s := by
  obtain ⟨o, ho, hd⟩ := K.there
  have ho' := I.keep f o ho
  refine ⟨fun E Q hq => ?_, wpAny_call (call_code K C H hc hl hb F I L ha hne)⟩
  unfold keeperOf
  refine wpAny_bind (wpAny_load ho' ?_)
  rw [hd]
  exact wpAny_pure (hq _)
end
end Mine
end
section
set_option Elab.async false
set_option linter.all false
set_option maxRecDepth 100000
namespace Mine
open PySem PySem.W PyProof.Rows

section
variable {W : Wd} {n : Nat}

theorem FR.find {x : Str} : ∀ {fs : List (Str × V)} {es : List DictEntry}, FR W n fs es → Ro W n (fs.lookup x) ((es.find? (·.key.isStr x)).map (·.val)) ∧ es.any (·.refKey) = false
  | _, _, .nil => ⟨trivial, rfl⟩
  | _, _, .cons (x := y) (t := t) hv r => by
    obtain ⟨h1, h2⟩ := FR.find (x := x) r
    simp only [List.lookup, List.find?]
    have e : (Value.str y t).isStr x = (y == x) := rfl
    rw [e]
    cases hq : x == y with
    | true =>
      have : y = x := by simpa using (by simpa using hq : x = y).symm
      subst this
      simp only [beq_self_eq_true, Option.map_some]
      exact ⟨hv, by simpa [DictEntry.refKey] using h2⟩
    | false =>
      have : (y == x) = false := by simpa using fun q => (by simpa using hq : x ≠ y) q.symm
      rw [this]
      exact ⟨h1, by simpa [DictEntry.refKey] using h2⟩

theorem FR.look {x : Str} {fs : List (Str × V)} {es : List DictEntry} {e : Nat} (h : FR W n fs es) : ∃ r, lookIn x (dictOf es e) = some r ∧ Ro W n (fs.lookup x) r := by
  obtain ⟨h1, h2⟩ := FR.find (x := x) h
  unfold lookIn
  dsimp only
  cases hq : es.find? (·.key.isStr x) with
  | none => rw [hq] at h1; dsimp only; rw [if_neg (by rw [h2]; decide)]; exact ⟨none, rfl, h1⟩
  | some en => rw [hq] at h1; exact ⟨some en.val, rfl, h1⟩

theorem FR.put {x : Str} {v : V} {c : Value} {hs : Int} {t : Tok} {f : Option DictEntry → DictEntry} (f0 : f none = ⟨hs, .str x t, c⟩) (f1 : ∀ e, f (some e) = { e with val := c }) (hv : VR W n v c) : ∀ {fs : List (Str × V)} {es : List DictEntry}, FR W n fs es →
    ∀ {es' : List DictEntry} {b : Bool}, nsPutIn x.cps.size x.cps.toList f es = (es', b) → FR W n (setF x v fs) es' ∧ es'.length ≤ es.length + 1
  | _, _, .nil, es', b, h => by
    unfold nsPutIn at h
    cases h
    rw [f0]
    exact ⟨.cons hv .nil, by simp⟩
  | _, _, .cons (x := y) (t := u) (fs := fs) (es := es) hy r, es', b, h => by
    have e : (Value.str y u).isStrByCps x.cps.size x.cps.toList = (y == x) := Value.isStrByCps_eq _ _
    unfold nsPutIn at h
    unfold setF
    dsimp only at h
    rw [e] at h
    cases hq : x == y with
    | true =>
      have : y = x := by simpa using (by simpa using hq : x = y).symm
      subst this
      rw [if_pos (by simp)] at h
      rw [if_pos rfl]
      cases h
      rw [f1]
      exact ⟨.cons hv r, by simp⟩
    | false =>
      have : (y == x) = false := by simpa using fun q => (by simpa using hq : x ≠ y) q.symm
      rw [this, if_neg (by decide)] at h
      rw [if_neg (by decide)]
      cases hp : nsPutIn x.cps.size x.cps.toList f es with
      | mk es₁ b₁ =>
        rw [hp] at h
        cases h
        obtain ⟨e2, e3⟩ := FR.put f0 f1 hv r hp
        exact ⟨.cons hy e2, by simp; omega⟩
theorem FR.putName {x : Str} {v : V} {c : Value} {hs : Int} {t : Tok} {e : Nat} {fs : List (Str × V)} {es : List DictEntry} (hv : VR W n v c) (h : FR W n fs es) :
    ∃ es' e', Obj.putName x hs (.str x t) c (dictOf es e) = dictOf es' e' ∧ FR W n (setF x v fs) es' ∧ es'.length ≤ es.length + 1 := by
  unfold Obj.putName
  dsimp only
  split
  · rename_i es' hp
    obtain ⟨e2, e3⟩ := FR.put rfl (fun _ => rfl) hv h hp
    exact ⟨_, _, rfl, e2, e3⟩
  · rename_i es' hp
    obtain ⟨e2, e3⟩ := FR.put rfl (fun _ => rfl) hv h hp
    exact ⟨_, _, rfl, e2, e3⟩
theorem FR.length : ∀ {fs : List (Str × V)} {es : List DictEntry}, FR W n fs es → es.length = fs.length
  | _, _, .nil => rfl
  | _, _, .cons _ r => by simp [FR.length r]
end

/-- what the base heap says of a class -/
structure ClsOk (P : Par) (K : Frag) (C : Addr) : Prop where
  inn : K.In P.B
  makes : makesIn K C = true
  ga : findIn K (.ref C) "__getattribute__" = some (some (.builtin "object.__getattribute__"))
  gt : findIn K (.ref C) "__getattr__" = some none
  sa : findIn K (.ref C) "__setattr__" = some (some (.builtin "object.__setattr__"))
  plain : plainOver K C = true
  dict : hasDictIn K C = true

section
variable {P : Par} {fr : List Nat} {A : Around} {env : Env} {W W' : Wd} {σ σ' : St} {s s' : Shared} {cx hx : Sx} {K : Frag} {C : Addr}

theorem inst_at (I : Inv P fr W σ.toHp s) {k d : Nat} {fs : List (Str × V)} (hk : σ.obj k = some (.inst C d)) (hd : σ.obj d = some (.dict fs)) :
    ∃ es e, FR W σ.nxt fs es ∧ d < σ.nxt ∧ k < σ.nxt ∧ s.heap.get? (W.ρ d) = some (dictOf es e) ∧ InstAt s.heap (W.ρ k) (instObj C (W.ρ d)) C (some (dictOf es e)) := by
  obtain ⟨p, c, h1, h2⟩ := I.obj k _ hk
  obtain ⟨q, c', h3, h4⟩ := I.obj d _ hd
  cases h2
  cases h4 with
  | dict h5 => exact ⟨_, _, h5, q, p, h3, h1, rfl, rfl, h3⟩

theorem get_field {Q : Value → Shared → Prop} {E : Value → Shared → Prop} (X : ClsOk P K C) (I : Inv P fr W σ.toHp s) {k d : Nat} {fs : List (Str × V)} (hk : σ.obj k = some (.inst C d)) (hd : σ.obj d = some (.dict fs)) {f : Str} {v : V} (hf : findIn K (.ref C) f = some none)
    (hv : fs.lookup f = some v) (hh : ∀ c, VR W σ.nxt v c → handedIn c = true) (hQ : ∀ c t, VR W σ.nxt v c → Q c { s with toks := t }) : wpAny P.M A (getAttr (.ref (W.ρ k)) f true) Q E s := by
  obtain ⟨es, e, hr, _, _, h1, ia⟩ := inst_at I hk hd
  obtain ⟨r, h2, h3⟩ := hr.look (x := f) (e := e)
  rw [hv] at h3
  cases r with
  | none => exact h3.elim
  | some c => exact get_value (X.inn.keeps I.keep) ia X.ga (findObj_own X.dict hf rfl h2) (hh c h3) (hQ c _ h3)

theorem get_meth {Q : Value × List Value → Shared → Prop} {E : Value → Shared → Prop} {pl : Sem Bool} (X : ClsOk P K C) (I : Inv P fr W σ.toHp s) {k d : Nat} {fs : List (Str × V)} (hk : σ.obj k = some (.inst C d)) (hd : σ.obj d = some (.dict fs)) {f : Str} {g : Addr} (hf : findIn K (.ref C) f = some (some (.ref g)))
    (hg : typeIn K (.ref g) = some (.type "function")) (hv : fs.lookup f = none) (hQ : Q (.ref g, [.ref (W.ρ k)]) s) : wpAny P.M A (getMethod (.ref (W.ρ k)) f pl) Q E s := by
  obtain ⟨es, e, hr, _, _, h1, ia⟩ := inst_at I hk hd
  obtain ⟨r, h2, h3⟩ := hr.look (x := f) (e := e)
  rw [hv] at h3
  cases r with
  | some _ => exact h3.elim
  | none => exact method_fn (X.inn.keeps I.keep) ia X.ga X.gt hf hg (by show Option.map (·.isSome) (lookIn f (dictOf es e)) = _; rw [h2]; rfl) hQ

theorem set_field {Q : Unit → Shared → Prop} {E : Value → Shared → Prop} (X : ClsOk P K C) (I : Inv P fr W σ.toHp s) (L : Loc env W σ s.heap) (hL : env.locals ∈ fr) {k d : Nat} {fs : List (Str × V)} (hk : σ.obj k = some (.inst C d)) (hd : σ.obj d = some (.dict fs)) {f : Str} {v : V} {c : Value} (hf : findIn K (.ref C) f = some none)
    (hl : fs.length ≤ 100) (hv : VR W σ.nxt v c) (hQ : ∀ s', Step P fr env W σ s W (σ.put d (.dict (setF f v fs))) s' → Q () s') : wpAny P.M A (setAttr (.ref (W.ρ k)) f c) Q E s := by
  obtain ⟨es, e, hr, hdn, hkn, h1, ia⟩ := inst_at I hk hd
  refine set_plain (X.inn.keeps I.keep) ia X.sa ?_
  have I' := I.toks (s.toks + 1)
  refine osa_open (s := { s with toks := s.toks + 1 }) (r := none) (X.inn.keeps I.keep) ia X.plain (by unfold takerIn; rw [hf]; rfl) fun b => ?_
  obtain ⟨cd, hc, hd'⟩ := any_some X.dict
  obtain ⟨es', e', p1, p2, p3⟩ := hr.putName (x := f) (hs := PyData.keyHash P.w.params f) (t := s.toks + 1) (e := e) hv
  obtain ⟨hx, hcl, hn, -⟩ := ia
  refine wpAny_bind (wpAny_pure (wpAny_bind (wpAny_bind (wpAny_loadPart hx (wpAny_bind ((looks_clsIn (X.inn.keeps I'.keep) hc).here ?_))))))
  rw [hd']
  refine wpAny_pure (a := some (W.ρ d)) (wpAny_bind (wpAny_pure (wpAny_bind ?_)))
  unfold nsSet
  refine wpAny_bind (wpAny_bind (wpAny_askSetting (wpAny_pure (wpAny_bind (wpAny_mkText (wpAny_bind (wpAny_loadPart h1 ?_)))))))
  dsimp only
  have hnr := (FR.find (x := f) hr).2
  have c0 : (!es.toArray.any (·.key.isStr f) && es.toArray.any (·.refKey)) = false := by
    rw [← Array.any_toList, ← Array.any_toList, List.toList_toArray, hnr, Bool.and_false]
  rw [aRefKeyMayBeTheName_at, c0]
  refine wpAny_updatePart h1 ?_
  have hu : (s.heap.update (W.ρ d) (Obj.putName f (PyData.keyHash P.w.params f) (.str f (s.toks + 1)) c)).get? (W.ρ d) = some (dictOf es' e') := by
    have := Heap.get?_update_self (Obj.putName f (PyData.keyHash P.w.params f) (.str f (s.toks + 1)) c) h1 (by rw [p1]; rfl)
    rw [p1] at this; exact this
  refine wpAny_bind (wpAny_lookBehind hu (pastItsLine_dict (by rw [List.size_toArray, sizeLine_eq]; have := hr.length; omega)) ?_)
  refine wpAny_pure ?_
  exact hQ _ (Step.put I L hdn hL (.dict (setF f v fs)) (.dict p2) (Heap.SameBut.update ..) hu rfl rfl)
end
end Mine
end
section
set_option Elab.async false
set_option linter.all false
set_option maxRecDepth 100000
namespace Mine
open PySem PySem.W PyProof.Rows Builtin Builtin.ObjectAttr

section
variable {P : Par} {fr : List Nat} {A : Around} {env : Env} {W W' : Wd} {σ σ' : St} {s s' : Shared} {cx hx : Sx} {K : Frag} {C : Addr}

theorem excOf_new (I : Inv P fr W σ.toHp s) (L : Loc env W σ s.heap) {h' : Heap} {tk : Nat} {e : Addr} {cls : String} (x : Heap.NewExcOf s.heap h' e cls) {α : Type} :
    EPost P fr env W σ s (Rs.err (α := α) cls σ) (.ref e) { s with heap := h', toks := tk } := by
  have st : Step P fr env W σ s W σ { s with heap := h', toks := tk } := Step.grow I L x.keeps rfl rfl
  obtain ⟨ob, t, h1, h2, h3, h4⟩ := x.there
  have o := Out.new I x.new
  exact ⟨cls, σ, W, e, rfl, rfl, st, o.notB, o.notFr, o.notFz, o.notOwn, x.new, ob, _, h1, h2, h3, (Array.getElem?_eq_some_iff.mp h4).1, .inl h4⟩

noncomputable def shortName (K : Frag) (C : Addr) : Bool := (clsIn K C).any fun cd => decide (cd.name.cps.foldl (fun k c => k + (Str.utf8Of c).length) 0 ≤ 100) && decide (cd.name.toString.length ≤ 60)

theorem findObj_missing {f : Str} {od : Obj} (hc : hasDictIn K C = true) (hf : findIn K (.ref C) f = some none) (hn : copiedNames.contains f = false) (hl : lookIn f od = some none) : findObj K C (some od) f = some .missing := by
  obtain ⟨cd, h1, h2⟩ := any_some hc
  unfold findObj
  rw [h1, Option.bind_some, hf, Option.bind_some]
  show ((PySem.W.ownOf cd (some od) f).bind _) = _
  unfold PySem.W.ownOf
  rw [if_pos h2]
  show ((lookIn f od).bind _) = _
  rw [hl, Option.bind_some]
  dsimp only
  rw [hn, Bool.false_and, if_neg (by decide)]

theorem get_missing {Q : Value → Shared → Prop} {E : Value → Shared → Prop} (X : ClsOk P K C) (hsn : shortName K C = true) (I : Inv P fr W σ.toHp s) (L : Loc env W σ s.heap) (hA : A.handled = none) {k d : Nat} {fs : List (Str × V)} (hk : σ.obj k = some (.inst C d)) (hd : σ.obj d = some (.dict fs)) {f : Str}
    (hf : findIn K (.ref C) f = some none) (hn : copiedNames.contains f = false) (hfl : f.length ≤ 1000) (hv : fs.lookup f = none) (hE : ∀ e s', EPost P fr env W σ s (Rs.err (α := V) "AttributeError" σ) e s' → E e s') : wpAny P.M A (getAttr (.ref (W.ρ k)) f true) Q E s := by
  obtain ⟨es, e, hr, _, _, h1, ia⟩ := inst_at I hk hd
  obtain ⟨r, h2, h3⟩ := hr.look (x := f) (e := e)
  rw [hv] at h3
  cases r with
  | some _ => exact h3.elim
  | none =>
    refine get_open (X.inn.keeps I.keep) ia X.ga ?_
    have hX := X.inn.keeps I.keep
    have L0 := ia.type (M := P.M)
    have L1 := looks_find (M := P.M) hX ia (findObj_missing X.dict hf hn h2)
    have L2 := looks_findIn (M := P.M) hX X.gt
    obtain ⟨cd, hc, hcs⟩ := any_some hsn
    simp only [Bool.and_eq_true, decide_eq_true_eq] at hcs
    have L3 := looks_clsIn (M := P.M) hX hc
    obtain ⟨hh', gg, dr, t, os⟩ := s
    refine wpAny_bind (wpAny_pure (wpAny_bind (L0.at (wpAny_bind (L1.at (wpAny_bind (L2.at ?_)))))))
    show wpAny _ _ (noSuchAttribute _ _) _ _ _
    unfold noSuchAttribute typeNameOfCut shownTypeOf
    have L4 : Looks P.M hh' (typeNameCut 100 (.ref C)) cd.name.toString := by
      unfold typeNameCut
      refine L3.andThen ?_
      rw [if_pos hcs.1]
      exact .now
    refine wpAny_bind (wpAny_bind (wpAny_bind (L0.at ?_)))
    rw [if_neg (by simp)]
    refine wpAny_pure (L4.at ?_)
    refine wpAny_raiseAttrError hA (fun h' tk ea x => ?_) ?_
    · have hx := x.of
      obtain ⟨t1, u1, he⟩ := x.there
      unfold noteIf
      rw [if_pos rfl]
      have hT : Looks P.M h' (typeOf (.ref ea)) (.type "AttributeError") := (Looks.ld he).andThen .now
      have hS : Looks P.M h' (isInstance (.ref ea) (.type "AttributeError")) true := hT.andThen (Looks.of_pure sub_AttributeError)
      unfold noteAttr lacksNameAndObj
      refine wpAny_bind (wpAny_bind (hS.at ?_))
      rw [if_neg (by decide)]
      refine wpAny_bind (wpAny_loadPart he ?_)
      dsimp only
      rw [if_pos (by simp)]
      refine wpAny_pure ?_
      rw [if_neg (by decide)]
      refine wpAny_pure (hE _ _ (excOf_new (s := ⟨hh', gg, dr, t, os⟩) I L hx))
    · rw [strLen_append, strLen_append, PySem.ofString_length, PySem.ofString_length]
      have e1 : "'".length = 1 := by decide
      have e2 : (toString "'" ++ toString cd.name.toString ++ toString "' object has no attribute '").length ≤ 100 := by
        rw [String.length_append, String.length_append]
        have a1 : (toString "'").length = 1 := by decide
        have a2 : (toString "' object has no attribute '").length = 27 := by decide
        have a3 : toString cd.name.toString = cd.name.toString := rfl
        rw [a1, a2, a3]
        omega
      rw [sizeLine_eq]
      omega
end
end Mine
end
section
set_option Elab.async false
set_option linter.all false
set_option maxRecDepth 100000
namespace Mine
open PySem PySem.W PyProof.Rows

/-- a class is called: an instance is made, and its __init__ runs -/
noncomputable def makeV (C : Addr) (init : List V → Hp → Rs V) (args : List V) (H : Hp) : Rs V :=
  match init (.ref (H.nxt + 1) :: args) ((H.add (.dict [])).add (.inst C H.nxt)) with
  | .ok .none σ => .ok (.ref (H.nxt + 1)) σ
  | .err c σ => .err c σ
  | _ => .bad

section
variable {P : Par} {fr : List Nat} {A : Around} {env : Env} {W W' : Wd} {σ σ' : St} {s s' : Shared} {cx hx : Sx} {K : Frag} {C : Addr}

theorem Fm.under {cm : Bool} {lv lv' : Nat} {C : Addr} {as : List Value} (F : Fm P cm lv fr A env) (h : lv' + 1 ≤ lv) : Fm P cm lv' fr (A.under (.builtin "type.__call__" ⟨.ref C :: as, []⟩)) env := by
  have e1 : (A.under (.builtin "type.__call__" ⟨.ref C :: as, []⟩)).depth = A.depth + 1 := rfl
  have e2 : (A.under (.builtin "type.__call__" ⟨.ref C :: as, []⟩)).units = A.units + 1 := rfl
  have e3 : (A.under (.builtin "type.__call__" ⟨.ref C :: as, []⟩)).frames = A.frames := rfl
  refine ⟨F.hL, F.handled, ?_, ?_, by rw [e3]; exact F.frames⟩
  · have := F.units; rw [e2]; omega
  · have := F.depth; rw [e1]; omega

theorem make_inst {lv : Nat} {init : List V → Hp → Rs V} {fI : Addr} (X : ClsOk P K C) (hi : findIn K (.ref C) "__init__" = some (some (.ref fI))) (hf : typeIn K (.ref fI) = some (.type "function"))
    (hc : ∀ fr A env, Fm P cx.calm lv fr A env → ∀ W σ s, Inv P fr W σ.toHp s → Loc env W σ s.heap → ∀ args cargs, VRs W σ.nxt args cargs → (init args σ.toHp).lift σ ≠ .bad →
      codeAny P.M A (.call (.ref fI) ⟨cargs, []⟩) (fun r s' => match r with | .ok (.ret v) => Post P fr env W σ s ((init args σ.toHp).lift σ) v s' | .ok _ => False | .error e => EPost P fr env W σ s ((init args σ.toHp).lift σ) e s') s)
    (F : Fm P cx.calm (lv + 1) fr A env) (I : Inv P fr W σ.toHp s) (L : Loc env W σ s.heap) {args : List V} {cargs : List Value} (ha : VRs W σ.nxt args cargs) (hne : (makeV C init args σ.toHp).lift σ ≠ .bad) :
    Keeps P.M A (.ref C) s ∧ wpAny P.M A (call (.ref C) cargs []) (Post P fr env W σ s ((makeV C init args σ.toHp).lift σ)) (EPost P fr env W σ s ((makeV C init args σ.toHp).lift σ)) s := by
  have Y := makes_of (M := P.M) (X.inn.keeps I.keep) X.makes
  obtain ⟨⟨oc, od, cd, sl, hC, e1, e2, e4⟩, made, base, self, top, call, typ⟩ := Y
  refine ⟨fun E Q hq => ?_, ?_⟩
  · unfold keeperOf
    refine wpAny_bind (wpAny_load hC ?_)
    dsimp only
    obtain ⟨hh, g, d, t, os⟩ := s
    refine wpAny_bind (call.at ?_)
    exact wpAny_pure (hq _)
  obtain ⟨hh, g, d, t, os⟩ := s
  have Y := makes_of (M := P.M) (X.inn.keeps I.keep) X.makes
  refine wpAny_call (make_core Y (looks_findIn (X.inn.keeps I.keep) hi) (fun self => bind_fn (X.inn.keeps I.keep) self hf) (.inl rfl) ?_)
  -- the dict, and the instance
  have st₁ := Step.add (s := ⟨hh, g, d, t, os⟩) (s' := ⟨hh.push emptyDict, g, d, t, os⟩) I L (.dict []) emptyDict (.dict (es := []) .nil) rfl rfl rfl
  have hd₁ : (W.add σ.nxt hh.objs.size).ρ σ.nxt = hh.objs.size := by show (if σ.nxt = σ.nxt then _ else _) = _; rw [if_pos rfl]
  have hor : OR ((W.add σ.nxt hh.objs.size).add (σ.nxt + 1) (hh.push emptyDict).objs.size) (σ.nxt + 1 + 1) (.inst C σ.nxt) (instObj C hh.objs.size) := by
    have hl := (W.add σ.nxt hh.objs.size).add_le (σ.nxt + 1) (hh.push emptyDict).objs.size
    have key := OR.inst (W := (W.add σ.nxt hh.objs.size).add (σ.nxt + 1) (hh.push emptyDict).objs.size) (n := σ.nxt + 1 + 1) (C := C) (d := σ.nxt) (by omega)
    rw [hl.ρ σ.nxt (Nat.lt_succ_self _), hd₁] at key
    exact key
  have st₂ := Step.add (s := ⟨hh.push emptyDict, g, d, t, os⟩) (s' := ⟨(hh.push emptyDict).push (instObj C hh.objs.size), g, d, t, os⟩) st₁.inv st₁.loc (.inst C σ.nxt) (instObj C hh.objs.size) hor rfl rfl rfl
  have st : Step P fr env W σ ⟨hh, g, d, t, os⟩ ((W.add σ.nxt hh.objs.size).add (σ.nxt + 1) (hh.push emptyDict).objs.size) ((σ.add (.dict [])).add (.inst C σ.nxt)) ⟨(hh.push emptyDict).push (instObj C hh.objs.size), g, d, t, os⟩ := st₁.trans st₂
  generalize hW : ((W.add σ.nxt hh.objs.size).add (σ.nxt + 1) (hh.push emptyDict).objs.size) = W₂ at st
  have hself : W₂.ρ (σ.nxt + 1) = hh.objs.size + 1 := by
    rw [← hW]; show (if σ.nxt + 1 = σ.nxt + 1 then _ else _) = _; rw [if_pos rfl, Heap.size_push]
  have hvs : VRs W₂ (σ.nxt + 1 + 1) (.ref (σ.nxt + 1) :: args) (.ref (hh.objs.size + 1) :: cargs) := by
    refine .cons ?_ (ha.mono st.nx.wle st.nx.le)
    rw [← hself]
    exact .ref (by omega)
  have hmk : (makeV C init args σ.toHp) = (match init (.ref (σ.nxt + 1) :: args) ((σ.add (.dict [])).add (.inst C σ.nxt)).toHp with
    | .ok .none σ' => .ok (.ref (σ.nxt + 1)) σ'
    | .err c σ => .err c σ
    | _ => .bad) := rfl
  have hne' : (init (.ref (σ.nxt + 1) :: args) ((σ.add (.dict [])).add (.inst C σ.nxt)).toHp).lift ((σ.add (.dict [])).add (.inst C σ.nxt)) ≠ .bad := by
    intro q
    refine hne ?_
    rw [hmk]
    cases hq : init (.ref (σ.nxt + 1) :: args) ((σ.add (.dict [])).add (.inst C σ.nxt)).toHp with
    | ok v σ' => rw [hq] at q; cases q
    | err c σ' => rw [hq] at q; cases q
    | bad => rfl
  refine codeAny_mono (hc fr _ env (F.under (Nat.le_refl _)) W₂ _ _ st.inv st.loc _ _ hvs hne') fun r s' z => ?_
  cases hq : init (.ref (σ.nxt + 1) :: args) ((σ.add (.dict [])).add (.inst C σ.nxt)).toHp with
  | ok v σ' =>
    rw [hq] at z hmk
    cases r with
    | error e => obtain ⟨_, _, _, _, _, q, _⟩ := z; cases q
    | ok fl => cases fl with
     | ret cv =>
      obtain ⟨v', σ₃, W₃, q, st₃, hv⟩ := z
      cases q
      cases v with
      | none =>
        cases hv
        refine ⟨rfl, _, _, W₃, by rw [hmk]; rfl, st.trans st₃, ?_⟩
        have := (VR.ref (W := W₂) (n := σ.nxt + 1 + 1) (k := σ.nxt + 1) (by omega)).mono st₃.nx.wle st₃.nx.le
        rw [hself] at this
        exact this
      | _ => rw [hmk] at hne; exact absurd rfl hne
     | _ => exact z.elim
  | err c σ' =>
    rw [hq] at z hmk
    cases r with
    | error e =>
      obtain ⟨cls, σ₃, W₃, ea, e0, q, st₃, x₃⟩ := z
      cases q
      exact ⟨_, _, W₃, ea, e0, by rw [hmk]; rfl, st.trans st₃, x₃.older st.nx.live⟩
    | ok fl => cases fl with
     | ret cv => obtain ⟨_, _, _, q, _⟩ := z; cases q
     | _ => exact z.elim
  | bad => rw [hq] at hmk; rw [hmk] at hne; exact absurd rfl hne
end
end Mine
end
section
set_option Elab.async false
set_option linter.all false
set_option maxRecDepth 100000
namespace Mine
open PySem PySem.W PyProof.Rows

/-! ## builtins -/
noncomputable def okH (v : V) (H : Hp) : Rs V := .ok v { toHp := H, loc := [] }
noncomputable def strsOf : List V → Option (List Str)
  | [] => some []
  | .str x :: r => (strsOf r).map (x :: ·)
  | _ => none
noncomputable def intsOf : List V → Option (List Int)
  | [] => some []
  | .int x :: r => (intsOf r).map (x :: ·)
  | _ => none
noncomputable def rngOf (a b c : Int) : List V := (List.range (Builtin.Range.rangeSize a b c).toNat).map fun (i : Nat) => .int (a + (i : Int) * c)
noncomputable def totLen (sep : Str) (ts : List Str) : Nat := ts.toArray.foldl (· + ·.length + sep.length) 0

noncomputable def lenB (v : V) (H : Hp) : Rs V := match v with
  | .str x => okH (.int x.length) H
  | v => match asList H v with
    | some xs => okH (.int xs.length) H
    | none => .bad
noncomputable def rangeB (args : List V) (H : Hp) : Rs V := match args with
  | [.int n] => if Builtin.Range.small 0 n 1 = true then okH (.rng 0 n 1) H else .bad
  | [.int a, .int b] => if Builtin.Range.small a b 1 = true then okH (.rng a b 1) H else .bad
  | _ => .bad
noncomputable def listB (cm : Bool) (v : V) (H : Hp) : Rs V := match v with
  | .rng a b c => if cm = false ∧ 0 ≤ Builtin.Range.rangeSize a b c ∧ (Builtin.Range.rangeSize a b c).toNat ≤ 2 ^ 24 then okH (.list (rngOf a b c)) H else .bad
  | v => match asList H v with
    | some xs => okH (.list xs) H
    | none => .bad
noncomputable def appendB (v x : V) (H : Hp) : Rs V := match v with
  | .ref k => (match H.obj k with
    | some (.list xs) => if xs.length + 1 ≤ sizeLine then okH .none { H with obj := fun j => if j = k then some (.list (xs ++ [x])) else H.obj j } else .bad
    | _ => .bad)
  | _ => .bad

section
variable {P : Par} {fr : List Nat} {A : Around} {env : Env} {W W' : Wd} {σ σ' : St} {s s' : Shared} {cx hx : Sx}

theorem keeps_builtin {M : Model} {i : String} : Keeps M A (.builtin i) s := fun E Q hq => wpAny_pure (hq _)
theorem keeps_type {M : Model} {i : String} : Keeps M A (.type i) s := fun E Q hq => wpAny_pure (hq _)

theorem post_H {r : Rs V} {v : V} {c : Value} {t : Nat} (I : Inv P fr W σ.toHp s) (L : Loc env W σ s.heap) (e : r = okH v σ.toHp) (hv : VR W σ.nxt v c) : Post P fr env W σ s (r.lift σ) c { s with toks := t } :=
  ⟨v, σ, W, by rw [e]; rfl, Step.toks I L t, hv⟩

theorem len_ok (I : Inv P fr W σ.toHp s) (L : Loc env W σ s.heap) {v : V} {c : Value} (hv : VR W σ.nxt v c) (hne : (lenB v σ.toHp).lift σ ≠ .bad) :
    wpAny P.M A (call (.builtin "len") [c] []) (Post P fr env W σ s ((lenB v σ.toHp).lift σ)) (EPost P fr env W σ s ((lenB v σ.toHp).lift σ)) s := by
  have key : ∀ xs, asList σ.toHp v = some xs → lenB v σ.toHp = okH (.int xs.length) σ.toHp → wpAny P.M A (call (.builtin "len") [c] []) (Post P fr env W σ s ((lenB v σ.toHp).lift σ)) (EPost P fr env W σ s ((lenB v σ.toHp).lift σ)) s := fun xs hx he => by
    obtain ⟨a, items, rfl, hl, hr, hz⟩ := list_at I hv hx
    refine Calls.call_len_list hl (by have := sizeLine_lt63; omega) (post_H I L he ?_)
    have := hr.length
    rw [Array.length_toList] at this
    rw [this]
    exact .int _ _
  have other : (∀ x, v ≠ .str x) → wpAny P.M A (call (.builtin "len") [c] []) (Post P fr env W σ s ((lenB v σ.toHp).lift σ)) (EPost P fr env W σ s ((lenB v σ.toHp).lift σ)) s := fun hn => by
    cases hq : asList σ.toHp v with
    | none =>
      refine absurd ?_ hne
      unfold lenB
      split
      · rename_i x; exact absurd rfl (hn x)
      · rw [hq]; rfl
    | some xs =>
      refine key xs hq ?_
      unfold lenB
      split
      · rename_i x; exact absurd rfl (hn x)
      · rw [hq]
  cases hv with
  | str x t hl ho =>
    refine len_str (by have := sizeLine_lt63; omega) (post_H I L rfl (.int _ _))
  | _ => exact other fun x q => by cases q

theorem range_ok (I : Inv P fr W σ.toHp s) (L : Loc env W σ s.heap) {args : List V} {cargs : List Value} (ha : VRs W σ.nxt args cargs) (hne : (rangeB args σ.toHp).lift σ ≠ .bad) :
    wpAny P.M A (call (.type "range") cargs []) (Post P fr env W σ s ((rangeB args σ.toHp).lift σ)) (EPost P fr env W σ s ((rangeB args σ.toHp).lift σ)) s := by
  unfold rangeB at hne ⊢
  split at hne
  · rename_i n
    cases ha with
    | cons h1 h2 => cases h2 with
      | nil => cases h1 with
        | int _ t =>
          by_cases hq : Builtin.Range.small 0 n 1 = true
          · skip
            rw [if_pos hq]
            refine call_range_1 ?_
            have st := Step.freeze (s' := { s with heap := s.heap.push { cls := .type "range", data := .fields #[.int 0 s.toks, .int n t, .int 1 (s.toks + 1)] }, toks := s.toks + 1 + 1 }) I L { cls := .type "range", data := .fields #[.int 0 s.toks, .int n t, .int 1 (s.toks + 1)] } rfl rfl rfl rfl
            exact ⟨_, _, _, rfl, st, .rng (by show (if _ = _ then _ else _) = _; rw [if_pos rfl]) hq⟩
          · rw [if_neg hq] at hne; exact absurd rfl hne
  · rename_i a b
    cases ha with
    | cons h1 h2 => cases h2 with
      | cons h2 h3 => cases h3 with
        | nil => cases h1 with
          | int _ t => cases h2 with
            | int _ u =>
              by_cases hq : Builtin.Range.small a b 1 = true
              · skip
                rw [if_pos hq]
                refine call_range_2 ?_
                have st := Step.freeze (s' := { s with heap := s.heap.push { cls := .type "range", data := .fields #[.int a t, .int b u, .int 1 s.toks] }, toks := s.toks + 1 }) I L { cls := .type "range", data := .fields #[.int a t, .int b u, .int 1 s.toks] } rfl rfl rfl rfl
                exact ⟨_, _, _, rfl, st, .rng (by show (if _ = _ then _ else _) = _; rw [if_pos rfl]) hq⟩
              · rw [if_neg hq] at hne; exact absurd rfl hne
  · exact absurd rfl hne

theorem append_ok (I : Inv P fr W σ.toHp s) (L : Loc env W σ s.heap) (hL : env.locals ∈ fr) {v x : V} {c d : Value} (hv : VR W σ.nxt v c) (hx : VR W σ.nxt x d) (hne : (appendB v x σ.toHp).lift σ ≠ .bad) :
    wpAny P.M A (call (.builtin "list.append") [c, d] []) (Post P fr env W σ s ((appendB v x σ.toHp).lift σ)) (EPost P fr env W σ s ((appendB v x σ.toHp).lift σ)) s := by
  unfold appendB at hne ⊢
  split at hne
  · rename_i k
    cases hv with
    | ref hk =>
      split at hne
      · rename_i xs ho
        by_cases hz : xs.length + 1 ≤ sizeLine
        · rw [if_pos hz]
          obtain ⟨_, ob, hg, hr⟩ := I.obj _ _ ho
          cases hr with
          | list r z =>
            rename_i items e
            refine call_meets PySem.F.slot_list_append ⟨_, hg, rfl⟩ PySem.F.entry_list_append (PySem.F.args_list_append_2 _ _) (list_append _ items e d z) ⟨hg, ?_⟩
            have hu := IsL.update (n := e) hg (fun xs => xs.push d)
            refine ⟨_, σ.put k (.list (xs ++ [x])), W, rfl, Step.put I L hk hL (.list (xs ++ [x])) (.list (e := _) ?_ ?_) (Heap.SameBut.update ..) hu rfl rfl, .none⟩
            · rw [Array.toList_push]; exact r.append (.cons hx .nil)
            · have := r.length; rw [Array.length_toList] at this; rw [Array.size_push]; omega
        · rw [if_neg hz] at hne; exact absurd rfl hne
      · exact absurd rfl hne
  · exact absurd rfl hne
end
end Mine
end
section
set_option Elab.async false
set_option linter.all false
set_option maxRecDepth 100000
namespace Mine
open PySem PySem.W PyProof.Rows

noncomputable def joinB (sep v : V) (H : Hp) : Rs V := match sep, (asList H v).bind strsOf with
  | .str sp, some ts => if JoinOk sp ts = true ∧ PyData.strOk (Txt.join sp ts) = true then okH (.str (Txt.join sp ts)) H else .bad
  | _, _ => .bad
noncomputable def indexB (v x : V) (H : Hp) : Rs V := match x, (asList H v).bind intsOf with
  | .int k, some ns => if ns.idxOf k < ns.length then okH (.int (ns.idxOf k : Nat)) H else .bad
  | _, _ => .bad

section
variable {P : Par} {fr : List Nat} {A : Around} {env : Env} {W W' : Wd} {σ σ' : St} {s s' : Shared} {cx hx : Sx}

theorem strs_rel {W : Wd} {n : Nat} : ∀ {xs : List V} {cs : List Value} {ts : List Str}, VRs W n xs cs → strsOf xs = some ts → ∃ l : List (Str × Tok), cs = strValues l ∧ l.map (·.1) = ts
  | [], _, ts, h, e => by cases h; cases e; exact ⟨[], rfl, rfl⟩
  | x :: r, _, ts, .cons h h', e => by
    cases h with
    | str y t _ _ =>
      simp only [strsOf, Option.map_eq_some_iff] at e
      obtain ⟨ts', e1, rfl⟩ := e
      obtain ⟨l, rfl, rfl⟩ := strs_rel h' e1
      exact ⟨(y, t) :: l, rfl, rfl⟩
    | _ => cases e
theorem ints_rel {W : Wd} {n : Nat} : ∀ {xs : List V} {cs : List Value} {ts : List Int}, VRs W n xs cs → intsOf xs = some ts → IntsAre cs ts
  | [], _, ts, h, e => by cases h; cases e; exact .nil
  | x :: r, _, ts, .cons h h', e => by
    cases h with
    | int y t =>
      simp only [intsOf, Option.map_eq_some_iff] at e
      obtain ⟨ts', e1, rfl⟩ := e
      exact .cons _ _ (ints_rel h' e1)
    | _ => cases e

theorem join_ok (I : Inv P fr W σ.toHp s) (L : Loc env W σ s.heap) {sp v : V} {c d : Value} (hs : VR W σ.nxt sp c) (hv : VR W σ.nxt v d) (hne : (joinB sp v σ.toHp).lift σ ≠ .bad) :
    wpAny P.M A (call (.builtin "str.join") [c, d] []) (Post P fr env W σ s ((joinB sp v σ.toHp).lift σ)) (EPost P fr env W σ s ((joinB sp v σ.toHp).lift σ)) s := by
  unfold joinB at hne ⊢
  split at hne
  · rename_i sep ts e
    obtain ⟨xs, e1, e2⟩ := Option.bind_eq_some_iff.mp e
    obtain ⟨a, items, rfl, hl, hr, hz⟩ := list_at I hv e1
    obtain ⟨l, e3, rfl⟩ := strs_rel hr e2
    have hl' : s.heap.IsList a (strValues l).toArray := by rw [← e3, Array.toArray_toList]; exact hl
    by_cases hq : JoinOk sep (l.map (·.1)) = true ∧ PyData.strOk (Txt.join sep (l.map (·.1))) = true
    · rw [if_pos hq]
      cases hs with
      | str _ t _ _ =>
        refine call_meets PySem.F.slot_str_join (typeIs_str _ _ _) PySem.F.entry_str_join (PySem.F.args_str_join_2 _ _) (meets_str_join_list sep t a l (by have := hq.1; unfold JoinOk at this; simpa using this)) ⟨hl', ?_⟩
        refine post_join l ⟨joinOk_length hq.1, fun t' k => ?_⟩
        exact post_H I L rfl (.str _ _ (joinOk_length hq.1) hq.2)
    · rw [if_neg hq] at hne; exact absurd rfl hne
  · exact absurd rfl hne

theorem isInt_at {k : Int} : ∀ {vs : List Value} {ns : List Int}, IntsAre vs ns → ∀ (j : Nat) (h : j < vs.length), isInt k vs[j] = (ns[j]? == some k)
  | _, _, .nil, j, h => absurd h (Nat.not_lt_zero _)
  | _, _, .cons n t r, 0, h => by simp [isInt]
  | _, _, .cons n t r, j + 1, h => by simpa using isInt_at r j (by simpa using h)
theorem ints_length : ∀ {vs : List Value} {ns : List Int}, IntsAre vs ns → vs.length = ns.length
  | _, _, .nil => rfl
  | _, _, .cons _ _ r => by simp [ints_length r]

theorem index_ok (I : Inv P fr W σ.toHp s) (L : Loc env W σ s.heap) {v x : V} {c d : Value} (hv : VR W σ.nxt v c) (hx : VR W σ.nxt x d) (hne : (indexB v x σ.toHp).lift σ ≠ .bad) :
    wpAny P.M A (call (.builtin "list.index") [c, d] []) (Post P fr env W σ s ((indexB v x σ.toHp).lift σ)) (EPost P fr env W σ s ((indexB v x σ.toHp).lift σ)) s := by
  unfold indexB at hne ⊢
  split at hne
  · rename_i k ns e
    obtain ⟨xs, e1, e2⟩ := Option.bind_eq_some_iff.mp e
    obtain ⟨a, items, rfl, hl, hr, hz⟩ := list_at I hv e1
    have hi := ints_rel hr e2
    by_cases hq : ns.idxOf k < ns.length
    · rw [if_pos hq]
      cases hx with
      | int _ t =>
        obtain ⟨⟨cls, dd, data, sl⟩, ho, hc, n, hd⟩ := id hl
        simp only at hc hd
        subst hc hd
        have hlen : items.size = ns.length := by have := ints_length hi; simpa using this
        have at_ : ∀ (j : Nat) (h : j < items.size), isInt k items[j] = (ns[j]? == some k) := fun j h => by
          have := isInt_at (k := k) hi j (by simpa using h)
          simpa using this
        refine call_meets PySem.F.slot_list_index ⟨_, ho, rfl⟩ PySem.F.entry_list_index (PySem.F.args_list_index_2 _ _) (SeqAt.list_indexAt a items n dd sl (.int k t) (isInt k) (ns.idxOf k) (by omega) (by have := sizeLine_lt63; omega) ?_ ?_) ⟨ho, fun y hy => (eq_isInt k t hi y (by simpa using hy)).at _ _, ?_⟩
        · rw [at_ _ (by omega), List.getElem?_eq_getElem hq, List.getElem_idxOf hq]; simp
        · intro m hm hlt
          rw [at_ m hm]
          have : ns[m]? ≠ some k := fun q => by
            obtain ⟨h1, h2⟩ := List.getElem?_eq_some_iff.mp q
            have := List.not_of_lt_findIdx (p := (· == k)) (xs := ns) (i := m) hlt
            simp [h2] at this
          simpa using this
        · exact post_H I L rfl (.int _ _)
    · rw [if_neg hq] at hne; exact absurd rfl hne
  · exact absurd rfl hne

theorem list_ok {cm : Bool} (hcm : cm = false → A.handled = none) (I : Inv P fr W σ.toHp s) (L : Loc env W σ s.heap) {v : V} {c : Value} (hv : VR W σ.nxt v c) (hne : (listB cm v σ.toHp).lift σ ≠ .bad) :
    wpAny P.M A (call (.type "list") [c] []) (Post P fr env W σ s ((listB cm v σ.toHp).lift σ)) (EPost P fr env W σ s ((listB cm v σ.toHp).lift σ)) s := by
  have fin : ∀ {xs : List V} {items : Array Value} {h' : Heap} {tk e : Nat} {dd : Option Addr} {sl : Array (Option Value)}, listB cm v σ.toHp = okH (.list xs) σ.toHp → (∀ b o, s.heap.get? b = some o → h'.get? b = some o) → h'.get? s.heap.objs.size = some { cls := .type "list", dict := dd, data := .seq items e, slots := sl } → VRs W σ.nxt xs items.toList → items.size ≤ sizeLine →
      Post P fr env W σ s ((listB cm v σ.toHp).lift σ) (.ref s.heap.objs.size) { s with heap := h', toks := tk } := by
    intro xs items h' tk e dd sl he hk ha hr hz
    have st := Step.freezeAt (s' := { s with heap := h', toks := tk }) I L _ _ (size_new _) hk ha rfl rfl
    exact ⟨_, σ, _, by rw [he]; rfl, st, .list (by show (if _ = _ then _ else _) = _; rw [if_pos rfl]) rfl rfl hz (hr.mono st.nx.wle (Nat.le_refl _))⟩
  have other : (∀ a b c, v ≠ .rng a b c) → wpAny P.M A (call (.type "list") [c] []) (Post P fr env W σ s ((listB cm v σ.toHp).lift σ)) (EPost P fr env W σ s ((listB cm v σ.toHp).lift σ)) s := fun hn => by
    cases hq : asList σ.toHp v with
    | none =>
      refine absurd ?_ hne
      unfold listB
      split
      · rename_i a b c; exact absurd rfl (hn a b c)
      · rw [hq]; rfl
    | some xs =>
      have he : listB cm v σ.toHp = okH (.list xs) σ.toHp := by
        unfold listB
        split
        · rename_i a b c; exact absurd rfl (hn a b c)
        · rw [hq]
      obtain ⟨a, items, rfl, hl, hr, hz⟩ := list_at I hv hq
      obtain ⟨o, ho, hc, n, hd⟩ := hl
      exact call_list_seq a (.inl rfl) ho hc hd (fun h' c' hk ha => fin he hk ha hr hz) hz
  cases hv with
  | rng h1 h2 =>
    rename_i r a b c t u w
    by_cases hq : cm = false ∧ 0 ≤ Builtin.Range.rangeSize a b c ∧ (Builtin.Range.rangeSize a b c).toNat ≤ 2 ^ 24
    · have he : listB cm (.rng a b c) σ.toHp = okH (.list (rngOf a b c)) σ.toHp := by show (if _ then _ else _) = _; rw [if_pos hq]
      refine call_list_range (n := (Builtin.Range.rangeSize a b c).toNat) (hcm hq.1) (I.frz _ _ h1).1 h2 (by omega) hq.2.2 fun h' tk acc' c' hk ha hi => ?_
      refine fin he hk ha ?_ (by rw [hi.1, sizeLine_eq]; omega)
      have gen : ∀ (l : List Value) (n m : Nat), l.length = n → (∀ j x, l[j]? = some x → ∃ t, x = Value.int (a + ((m + j : Nat) : Int) * c) t) → VRs W σ.nxt ((List.range' m n).map fun (i : Nat) => V.int (a + (i : Int) * c)) l := by
        intro l
        induction l with
        | nil => intro n m hn _; cases hn; exact .nil
        | cons x r ih =>
          intro n m hn hj
          cases n with
          | zero => cases hn
          | succ n =>
            obtain ⟨t, rfl⟩ := hj 0 x rfl
            simp only [List.range'_succ, List.map_cons]
            exact .cons (.int _ _) (ih n (m + 1) (by simpa using hn) fun j y hy => by
              obtain ⟨t', e⟩ := hj (j + 1) y (by simpa using hy)
              exact ⟨t', by rw [e]; congr 3; omega⟩)
      have := gen acc'.toList (Builtin.Range.rangeSize a b c).toNat 0 (by simpa using hi.1) fun j x hx => by
        obtain ⟨t', e⟩ := hi.2 j x (by simpa using hx)
        exact ⟨t', by rw [e]; simp⟩
      unfold rngOf
      rw [List.range_eq_range']
      exact this
    · refine absurd ?_ hne
      show Rs.lift (if _ then _ else _) σ = _
      rw [if_neg hq]; rfl
  | _ => exact other fun _ _ _ q => by cases q
end
end Mine
end
section
set_option Elab.async false
set_option linter.all false
set_option maxRecDepth 100000
namespace Mine
open PySem PySem.W PyProof.Rows

/-! ## what a program's names mean -/
structure Prg where
  K : Frag
  C : Addr
  meths : List (Str × Addr)
  flds : List Str
  gl : Str → Option V
  sub : String → Str → Option Bool

noncomputable def handedV : V → Bool
  | .top w => handedIn w
  | _ => true
noncomputable def instOf (G : Prg) (o : V) (H : Hp) : Option (Nat × Nat × List (Str × V)) := match o with
  | .ref k => (match H.obj k with
    | some (.inst C d) => (match H.obj d with
      | some (.dict fs) => if C = G.C then some (k, d, fs) else none
      | _ => none)
    | _ => none)
  | _ => none
noncomputable def fldV (G : Prg) (cm : Bool) (o : V) (f : Str) (H : Hp) : Ov := match instOf G o H with
  | some (_, _, fs) => if G.flds.contains f = true then (match fs.lookup f with
      | some v => if handedV v = true then .ok v else .bad
      | none => if cm = true then .bad else .err "AttributeError") else .bad
  | none => .bad
noncomputable def setV (G : Prg) (o : V) (f : Str) (v : V) (H : Hp) : Option Hp := match instOf G o H with
  | some (_, d, fs) => if G.flds.contains f = true ∧ fs.length ≤ 100 then some { H with obj := fun j => if j = d then some (.dict (setF f v fs)) else H.obj j } else none
  | none => none
noncomputable def strMeth (m : Str) : Option String := if m = ("join" : Str) then some "str.join" else none
noncomputable def listMeth (m : Str) : Option String := if m = ("append" : Str) then some "list.append" else if m = ("index" : Str) then some "list.index" else none
noncomputable def getV (G : Prg) (o : V) (m : Str) (H : Hp) : Option (V × List V) := match o with
  | .str x => (strMeth m).map fun i => (.top (.builtin i), [.str x])
  | o => match instOf G o H with
    | some (_, _, fs) => if fs.lookup m = none then (G.meths.lookup m).map fun g => (.top (.ref g), [o]) else none
    | none => match o with
      | .ref k => (match H.obj k with
        | some (.list _) => (listMeth m).map fun i => (.top (.builtin i), [.ref k])
        | _ => none)
      | _ => none
noncomputable def bapp (i : String) (args : List V) (H : Hp) : Rs V :=
  if i = "len" then (match args with | [v] => lenB v H | _ => .bad)
  else if i = "str.join" then (match args with | [a, b] => joinB a b H | _ => .bad)
  else if i = "list.append" then (match args with | [a, b] => appendB a b H | _ => .bad)
  else if i = "list.index" then (match args with | [a, b] => indexB a b H | _ => .bad)
  else .bad
noncomputable def tapp (cm : Bool) (i : String) (args : List V) (H : Hp) : Rs V :=
  if i = "range" then rangeB args H
  else if i = "list" then (match args with | [v] => listB cm v H | _ => .bad)
  else .bad
abbrev Fns := Addr → List V → Hp → Rs V
noncomputable def appV (cm : Bool) (fns : Fns) (f : V) (args : List V) (H : Hp) : Rs V := match f with
  | .top (.builtin i) => bapp i args H
  | .top (.type i) => tapp cm i args H
  | .top (.ref a) => fns a args H
  | _ => .bad
noncomputable def mk (G : Prg) (cm : Bool) (lv : Nat) (fns : Fns) : Sx := { calm := cm, lvl := lv, gl := G.gl, app := appV cm fns, get := getV G, fld := fldV G cm, setA := setV G, sub := G.sub }

structure PrgOk (P : Par) (G : Prg) : Prop where
  cls : ClsOk P G.K G.C
  short : shortName G.K G.C = true
  meth : ∀ m g, G.meths.lookup m = some g → findIn G.K (.ref G.C) m = some (some (.ref g)) ∧ typeIn G.K (.ref g) = some (.type "function")
  fld : ∀ f, G.flds.contains f = true → findIn G.K (.ref G.C) f = some none ∧ copiedNames.contains f = false ∧ f.length ≤ 1000
  gl : ∀ x v, G.gl x = some v → ∃ c mg mb, P.B.Ns mainGlobals mg ∧ P.B.Ns builtinsNs mb ∧ (mg x = some c ∨ (mg x = none ∧ mb x = some c)) ∧ ∀ W n, VR W n v c
  sub : ∀ X n b, G.sub X n = some b → ∃ T, (∃ c mg mb, P.B.Ns mainGlobals mg ∧ P.B.Ns builtinsNs mb ∧ (mg n = some c ∨ (mg n = none ∧ mb n = some c)) ∧ c = .type T) ∧ (n == ("__debug__" : Str)) = false ∧
    isSubtype (.type T) (.type "BaseException") = pure true ∧ isSubtype (.type ((Manifest.find? T).elim "type" fun x => x.metatype)) (.type "tuple") = pure false ∧ isSubtype (.type X) (.type T) = pure b

/-- the program's own functions answer as fns says -/
noncomputable def FnsOk (P : Par) (cm : Bool) (lv : Nat) (fns : Fns) : Prop := ∀ fr A env, Fm P cm lv fr A env → ∀ W σ s, Inv P fr W σ.toHp s → Loc env W σ s.heap → ∀ a args cargs, VRs W σ.nxt args cargs → (fns a args σ.toHp).lift σ ≠ .bad →
    Keeps P.M A (.ref a) s ∧ wpAny P.M A (call (.ref a) cargs []) (Post P fr env W σ s ((fns a args σ.toHp).lift σ)) (EPost P fr env W σ s ((fns a args σ.toHp).lift σ)) s

section
variable {P : Par} {fr : List Nat} {A : Around} {env : Env} {W W' : Wd} {σ σ' : St} {s s' : Shared} {G : Prg} {cm : Bool} {lv : Nat} {fns : Fns}

theorem instOf_some {o : V} {H : Hp} {k d : Nat} {fs : List (Str × V)} (h : instOf G o H = some (k, d, fs)) : o = .ref k ∧ H.obj k = some (.inst G.C d) ∧ H.obj d = some (.dict fs) := by
  unfold instOf at h
  split at h
  · split at h
    · rename_i hk
      split at h
      · rename_i hd
        split at h
        · rename_i hC; cases h; exact ⟨rfl, hC ▸ hk, hd⟩
        · cases h
      · cases h
    · cases h
  · cases h

theorem handed_ok {W : Wd} {n : Nat} {v : V} {c : Value} (h : handedV v = true) (hv : VR W n v c) : handedIn c = true := by
  cases hv with
  | top => exact h
  | _ => rfl

theorem mk_ok (Q : PrgOk P G) (hF : FnsOk P cm lv fns) : SxOk P (mk G cm lv fns) := by
  refine ⟨⟨Q.gl, ?_, ?_, ?_⟩, ?_, Q.sub⟩
  · intro fr A env F W σ s I L f args cf cargs hf ha hne
    have hh : cm = false → A.handled = none := fun q => F.handled.resolve_right (by show ¬ cm = true; rw [q]; decide)
    revert hne
    show (appV cm fns f args σ.toHp).lift σ ≠ .bad → _ ∧ wpAny _ _ _ (Post P fr env W σ s ((appV cm fns f args σ.toHp).lift σ)) (EPost P fr env W σ s ((appV cm fns f args σ.toHp).lift σ)) s
    unfold appV
    split
    · rename_i i
      cases hf
      intro hne
      refine ⟨keeps_builtin, ?_⟩
      revert hne
      unfold bapp
      split
      · rename_i hi; subst hi
        split
        · intro hne; cases ha with
          | cons h1 h2 => cases h2; exact len_ok I L h1 hne
        · intro hne; exact absurd rfl hne
      split
      · rename_i hi; subst hi
        split
        · intro hne; cases ha with
          | cons h1 h2 => cases h2 with
            | cons h2 h3 => cases h3; exact join_ok I L h1 h2 hne
        · intro hne; exact absurd rfl hne
      split
      · rename_i hi; subst hi
        split
        · intro hne; cases ha with
          | cons h1 h2 => cases h2 with
            | cons h2 h3 => cases h3; exact append_ok I L F.hL h1 h2 hne
        · intro hne; exact absurd rfl hne
      split
      · rename_i hi; subst hi
        split
        · intro hne; cases ha with
          | cons h1 h2 => cases h2 with
            | cons h2 h3 => cases h3; exact index_ok I L h1 h2 hne
        · intro hne; exact absurd rfl hne
      · intro hne; exact absurd rfl hne
    · rename_i i
      cases hf
      intro hne
      refine ⟨keeps_type, ?_⟩
      revert hne
      unfold tapp
      split
      · rename_i hi; subst hi
        intro hne; exact range_ok I L ha hne
      split
      · rename_i hi; subst hi
        split
        · intro hne; cases ha with
          | cons h1 h2 => cases h2; exact list_ok hh I L h1 hne
        · intro hne; exact absurd rfl hne
      · intro hne; exact absurd rfl hne
    · rename_i a
      cases hf
      exact fun hne => hF fr A env F W σ s I L a args cargs ha hne
    · intro hne; exact absurd rfl hne
  · intro fr A env F W σ s I L o m co vf first ho hg pl E R hQ
    have hg' : getV G o m σ.toHp = some (vf, first) := hg
    have inst : ∀ k d fs, instOf G o σ.toHp = some (k, d, fs) → getV G o m σ.toHp = (if fs.lookup m = none then (G.meths.lookup m).map fun g => (V.top (.ref g), [o]) else none) → wpAny P.M A (getMethod co m pl) R E s := fun k d fs hi he => by
      obtain ⟨rfl, h1, h2⟩ := instOf_some hi
      rw [hg'] at he
      split at he
      · rename_i hl
        obtain ⟨g, e1, e2⟩ := Option.map_eq_some_iff.mp he.symm
        cases e2
        cases ho with
        | ref hk => exact get_meth Q.cls I h1 h2 (Q.meth m g e1).1 (Q.meth m g e1).2 hl (hQ _ s W (Step.refl I L) (.top _) (.cons (.ref hk) .nil))
      · cases he
    have lst : ∀ k xs, o = .ref k → σ.obj k = some (.list xs) → (listMeth m).map (fun i => (V.top (.builtin i), [V.ref k])) = some (vf, first) → wpAny P.M A (getMethod co m pl) R E s := fun k xs e1 e2 e3 => by
      subst e1
      obtain ⟨i, e4, e5⟩ := Option.map_eq_some_iff.mp e3
      cases e5
      cases ho with
      | ref hk =>
        obtain ⟨_, ob, hob, hr⟩ := I.obj _ _ e2
        cases hr with
        | list r z =>
          unfold listMeth at e4
          split at e4
          · rename_i hm; subst hm; cases e4
            exact getMethod_builtin ⟨_, hob, rfl⟩ PySem.F.plainAttrs_list PySem.F.slot_list_append PySem.F.type_list_append (fun a e => by cases e; exact ⟨_, hob, rfl⟩) (hQ _ s W (Step.refl I L) (.top _) (.cons (.ref hk) .nil))
          · split at e4
            · rename_i hm; subst hm; cases e4
              exact getMethod_builtin ⟨_, hob, rfl⟩ PySem.F.plainAttrs_list PySem.F.slot_list_index PySem.F.type_list_index (fun a e => by cases e; exact ⟨_, hob, rfl⟩) (hQ _ s W (Step.refl I L) (.top _) (.cons (.ref hk) .nil))
            · cases e4
    have hg₀ := hg'
    unfold getV at hg₀
    split at hg₀
    · rename_i x
      obtain ⟨i, e4, e5⟩ := Option.map_eq_some_iff.mp hg₀
      cases e5
      cases ho with
      | str _ t h1 h2 =>
        unfold strMeth at e4
        split at e4
        · rename_i hm; subst hm; cases e4
          exact GM.join (hQ _ s W (Step.refl I L) (.top _) (.cons (.str _ _ h1 h2) .nil))
        · cases e4
    · rename_i hns
      split at hg₀
      · rename_i k d fs hi
        refine inst k d fs hi ?_
        unfold getV
        split
        · rename_i x; exact absurd rfl (hns x)
        · rw [hi]
      · split at hg₀
        · rename_i k _
          split at hg₀
          · rename_i xs hk; exact lst k xs rfl hk hg₀
          · cases hg₀
        · cases hg₀
  · intro fr A env F W σ s I L o f co ho hne
    revert hne
    show (fldV G cm o f σ.toHp).st σ ≠ .bad → wpAny _ _ _ (Post P fr env W σ s ((fldV G cm o f σ.toHp).st σ)) (EPost P fr env W σ s ((fldV G cm o f σ.toHp).st σ)) s
    unfold fldV
    split
    · rename_i k d fs hi
      obtain ⟨rfl, h1, h2⟩ := instOf_some hi
      split
      · rename_i hf
        obtain ⟨f1, f2, f3⟩ := Q.fld f hf
        cases ho with
        | ref hk =>
          split
          · rename_i v hv
            split
            · rename_i hh
              intro _
              exact get_field Q.cls I h1 h2 f1 hv (fun c hc => handed_ok hh hc) fun c t hc => ⟨_, σ, W, rfl, Step.toks I L t, hc⟩
            · intro hne; exact absurd rfl hne
          · rename_i hv
            split
            · intro hne; exact absurd rfl hne
            · rename_i hcm
              intro _
              have hA : A.handled = none := F.handled.resolve_right hcm
              exact get_missing Q.cls Q.short I L hA h1 h2 f1 f2 f3 hv fun e s' h => h
      · intro hne; exact absurd rfl hne
    · intro hne; exact absurd rfl hne
  · intro fr A env F W σ s I L o f v co c H ho hv hs E R hQ
    have hs' : setV G o f v σ.toHp = some H := hs
    unfold setV at hs'
    split at hs'
    · rename_i k d fs hi
      obtain ⟨rfl, h1, h2⟩ := instOf_some hi
      split at hs'
      · rename_i hf
        cases hs'
        obtain ⟨f1, f2, f3⟩ := Q.fld f hf.1
        cases ho with
        | ref hk => exact set_field Q.cls I L F.hL h1 h2 f1 hf.2 hv fun s' st => hQ W s' st
      · cases hs'
    · cases hs'
end
end Mine
end
section
set_option Elab.async false
set_option linter.all false
set_option maxRecDepth 100000
namespace Mine
open PySem PySem.W PyProof.Rows

/-! ## the program's functions, level by level -/
noncomputable def fnAt (K : Frag) (f : Addr) : Option FuncData := match K.lookup f with
  | some ⟨_, _, .func fd, _⟩ => some fd
  | _ => none
noncomputable def codeB (K : Frag) (cd : Value) (q : Str) : Bool := match cd with
  | .ref c => (match K.lookup c with
    | some ⟨_, _, .fields vs, _⟩ => (match (vs[1]? : Option Value) with | some (.str x _) => x == q | _ => false)
    | _ => false)
  | _ => false
noncomputable def FnRow (K : Frag) (f : Addr) (sc : Scope) (ps : List Str) (b : S) : Prop :=
  ∃ fd body, fnAt K f = some fd ∧ fd.scope = sc ∧ fd.body = .stmts body ∧ fd.closure = [] ∧ fd.globals = mainGlobals ∧ fd.builtins = builtinsNs ∧ codeB K fd.code fd.qualname = true ∧ fnShape sc ps = true ∧ TieS b sc (.l body) ∧
    ∀ cargs : List Value, cargs.length = ps.length → bindArgs fd ⟨cargs, []⟩ = pure (ps.zip cargs)

abbrev Rows := List (Addr × Scope × List Str × S)
noncomputable def rowRun (rows : Rows) (cx hx : Sx) (a : Addr) (args : List V) (H : Hp) : Rs V := match rows.lookup a with
  | some (sc, ps, b) => runFn sc ps b cx hx args H
  | none => .bad
noncomputable def tower (G : Prg) (rows : Rows) (fI : Addr) : Nat → Bool → Sx
  | 0, cm => mk G cm 0 (fun _ _ _ => .bad)
  | 1, cm => mk G cm 1 (rowRun rows (tower G rows fI 0 cm) (tower G rows fI 0 true))
  | n + 2, cm => mk G cm (n + 2) (fun a args H => if a = G.C then makeV G.C (rowRun rows (tower G rows fI n cm) (tower G rows fI n true) fI) args H
    else rowRun rows (tower G rows fI (n + 1) cm) (tower G rows fI (n + 1) true) a args H)

section
variable {P : Par} {fr : List Nat} {A : Around} {env : Env} {W W' : Wd} {σ σ' : St} {s s' : Shared} {G : Prg} {rows : Rows} {fI : Addr}

theorem tower_lvl : ∀ n cm, (tower G rows fI n cm).lvl = n ∧ (tower G rows fI n cm).calm = cm
  | 0, _ => ⟨by unfold tower; rfl, by unfold tower; rfl⟩
  | 1, _ => ⟨by unfold tower; rfl, by unfold tower; rfl⟩
  | _ + 2, _ => ⟨by unfold tower; rfl, by unfold tower; rfl⟩

theorem fn_ok {K : Frag} {f : Addr} {sc : Scope} {ps : List Str} {b : S} (X : K.In P.B) (hl : P.B.NoLimit) (h : FnRow K f sc ps b) : ∃ fd body, FnOk P f fd ps body ∧ fd.scope = sc ∧ TieS b sc (.l body) := by
  obtain ⟨fd, body, h1, h2, h3, h4, h5, h6, h7, h8, h9, h10⟩ := h
  refine ⟨fd, body, ⟨?_, hl, ?_, h3, h4, h5, h6, fun s _ cargs hc => BindsTo.of_eq (h10 cargs hc), by rw [h2]; exact h8⟩, h2, h9⟩
  · unfold fnAt at h1
    split at h1
    · rename_i ho; cases h1; exact ⟨_, X _ _ ho, rfl⟩
    · cases h1
  · unfold codeB at h7
    split at h7
    · split at h7
      · rename_i ho
        split at h7
        · rename_i x t hv
          have : x = fd.qualname := by simpa using h7
          subst this
          exact ⟨_, _, _, t, by assumption, X _ _ ho, rfl, hv⟩
        · cases h7
      · cases h7
    · cases h7

theorem row_code (X : G.K.In P.B) (hlim : P.B.NoLimit) (hR : ∀ a sc ps b, rows.lookup a = some (sc, ps, b) → FnRow G.K a sc ps b) {cx hx : Sx} (C : SxOk P cx) (H : SxOk P hx) (hc : hx.calm = true) (hl : hx.lvl ≤ cx.lvl)
    (F : Fm P cx.calm (cx.lvl + 1) fr A env) (I : Inv P fr W σ.toHp s) (L : Loc env W σ s.heap) {a : Addr} {args : List V} {cargs : List Value} (ha : VRs W σ.nxt args cargs) (hne : (rowRun rows cx hx a args σ.toHp).lift σ ≠ .bad) :
    Keeps P.M A (.ref a) s ∧ codeAny P.M A (.call (.ref a) ⟨cargs, []⟩) (fun r s' => match r with | .ok (.ret v) => Post P fr env W σ s ((rowRun rows cx hx a args σ.toHp).lift σ) v s' | .ok _ => False | .error e => EPost P fr env W σ s ((rowRun rows cx hx a args σ.toHp).lift σ) e s') s := by
  cases hq : rows.lookup a with
  | none =>
    have : rowRun rows cx hx a args σ.toHp = .bad := by unfold rowRun; rw [hq]
    rw [this] at hne; exact absurd rfl hne
  | some r =>
    obtain ⟨sc, ps, b⟩ := r
    have he : rowRun rows cx hx a args σ.toHp = runFn sc ps b cx hx args σ.toHp := by unfold rowRun; rw [hq]
    rw [he] at hne ⊢
    obtain ⟨fd, body, K, rfl, hb⟩ := fn_ok X hlim (hR _ _ _ _ hq)
    exact ⟨(call_def K C H hc hl hb F I L ha hne).1, call_code K C H hc hl hb F I L ha hne⟩

theorem tower_ok (Q : PrgOk P G) (hlim : P.B.NoLimit) (hR : ∀ a sc ps b, rows.lookup a = some (sc, ps, b) → FnRow G.K a sc ps b) (hi : findIn G.K (.ref G.C) "__init__" = some (some (.ref fI))) (hf : typeIn G.K (.ref fI) = some (.type "function")) :
    ∀ n cm, SxOk P (tower G rows fI n cm)
  | 0, cm => by
    unfold tower
    exact mk_ok Q fun fr A env F W σ s I L a args cargs ha hne => absurd rfl hne
  | 1, cm => by
    have C := tower_ok Q hlim hR hi hf 0 cm
    have H := tower_ok Q hlim hR hi hf 0 true
    have l1 := tower_lvl (G := G) (rows := rows) (fI := fI) 0 cm
    have l2 := tower_lvl (G := G) (rows := rows) (fI := fI) 0 true
    unfold tower
    refine mk_ok Q fun fr A env F W σ s I L a args cargs ha hne => ?_
    obtain ⟨k, c⟩ := row_code Q.cls.inn hlim hR C H l2.2 (by rw [l1.1, l2.1]; exact Nat.le_refl _) (by rw [l1.1, l1.2]; exact F) I L ha hne
    exact ⟨k, wpAny_call c⟩
  | n + 2, cm => by
    have C := tower_ok Q hlim hR hi hf (n + 1) cm
    have H := tower_ok Q hlim hR hi hf (n + 1) true
    have l1 := tower_lvl (G := G) (rows := rows) (fI := fI) (n + 1) cm
    have l2 := tower_lvl (G := G) (rows := rows) (fI := fI) (n + 1) true
    have C' := tower_ok Q hlim hR hi hf n cm
    have H' := tower_ok Q hlim hR hi hf n true
    have l3 := tower_lvl (G := G) (rows := rows) (fI := fI) n cm
    have l4 := tower_lvl (G := G) (rows := rows) (fI := fI) n true
    unfold tower
    refine mk_ok Q fun fr A env F W σ s I L a args cargs ha hne => ?_
    by_cases hC : a = G.C
    · subst hC
      rw [if_pos rfl] at hne
      simp only [if_true]
      refine make_inst (cx := tower G rows fI n cm) (lv := n + 1) Q.cls hi hf (fun fr A env F W σ s I L args cargs ha hne => ?_) (by rw [l3.2]; exact F) I L ha hne
      exact (row_code Q.cls.inn hlim hR C' H' l4.2 (by rw [l3.1, l4.1]; exact Nat.le_refl _) (by rw [l3.1]; exact F) I L ha hne).2
    · rw [if_neg hC] at hne
      simp only [if_neg hC]
      obtain ⟨k, c⟩ := row_code Q.cls.inn hlim hR C H l2.2 (by rw [l1.1, l2.1]; exact Nat.le_refl _) (by rw [l1.1, l1.2]; exact F) I L ha hne
      exact ⟨k, wpAny_call c⟩
end
end Mine
end
section
set_option Elab.async false
set_option linter.all false
set_option maxRecDepth 100000
namespace Mine
open PySem PySem.W PyProof.Rows

/-! ## the start of a law's frame -/
theorem cellsFrom_sub : ∀ (names : List (Str × NameKind)) (m : Nat) (ac : List (Str × Addr)), ∀ p ∈ ac, p ∈ cellsFrom m names ac := by
  intro names
  induction names with
  | nil => exact fun _ _ _ h => h
  | cons hd tl ih =>
    intro m ac p h
    obtain ⟨y, ky⟩ := hd
    unfold cellsFrom
    split
    · exact ih _ _ _ (.tail _ h)
    · exact ih _ _ _ h

theorem cells0 {bv : List (Str × V)} {L : Nat} : ∀ (names : List (Str × NameKind)) (acc : List (Str × Addr)) (cel : List (Str × Nat)) (H : Hp), (∀ k, H.nxt ≤ k → H.obj k = none) → (∀ x k, cel.lookup x = some k → k < H.nxt ∧ acc.lookup x = some (L + 1 + k)) →
    (∀ k, (cellsH bv names H cel).1.nxt ≤ k → (cellsH bv names H cel).1.obj k = none) ∧ H.nxt ≤ (cellsH bv names H cel).1.nxt ∧
    (∀ x k, (cellsH bv names H cel).2.lookup x = some k → k < (cellsH bv names H cel).1.nxt ∧ (cellsFrom (L + 1 + H.nxt) names acc).lookup x = some (L + 1 + k)) ∧
    (∀ k, k < H.nxt → (cellsH bv names H cel).1.obj k = H.obj k) ∧
    (∀ k, H.nxt ≤ k → k < (cellsH bv names H cel).1.nxt → ∃ x, (x, L + 1 + k) ∈ cellsFrom (L + 1 + H.nxt) names acc ∧ (cellsH bv names H cel).1.obj k = some (.cell (bv.lookup x)) ∧ (x, NameKind.cell) ∈ names)
  | [], acc, cel, H, h1, h2 => ⟨h1, Nat.le_refl _, h2, fun _ _ => rfl, fun k a b => absurd b (Nat.not_lt.mpr a)⟩
  | (x, kd) :: r, acc, cel, H, h1, h2 => by
    unfold cellsH cellsFrom
    by_cases hk : (kd == NameKind.cell) = true
    · simp only [if_pos hk]
      have ih := cells0 (bv := bv) (L := L) r ((x, L + 1 + H.nxt) :: acc) ((x, H.nxt) :: cel) (H.add (.cell (bv.lookup x))) (fun k hk' => by
          have hk'' : H.nxt + 1 ≤ k := hk'
          show (if k = H.nxt then _ else H.obj k) = none
          rw [if_neg (by omega)]; exact h1 k (by omega)) (fun y k hy => by
          simp only [List.lookup] at hy ⊢
          cases hq : y == x with
          | true => rw [hq] at hy; cases hy; exact ⟨Nat.lt_succ_self _, rfl⟩
          | false => rw [hq] at hy; exact ⟨Nat.lt_succ_of_lt (h2 y k hy).1, (h2 y k hy).2⟩)
      have en : L + 1 + (H.add (.cell (bv.lookup x))).nxt = L + 1 + H.nxt + 1 := rfl
      rw [en] at ih
      obtain ⟨i1, i2, i3, i4, i5⟩ := ih
      have i2' : H.nxt + 1 ≤ (cellsH bv r (H.add (.cell (bv.lookup x))) ((x, H.nxt) :: cel)).1.nxt := i2
      refine ⟨i1, by omega, i3, fun k hk' => ?_, fun k a b => ?_⟩
      · rw [i4 k (Nat.lt_succ_of_lt hk')]
        show (if k = H.nxt then _ else H.obj k) = _
        rw [if_neg (by omega)]
      · by_cases hkn : k = H.nxt
        · subst hkn
          refine ⟨x, cellsFrom_sub _ _ _ _ (.head _), ?_, by rw [show kd = NameKind.cell from by simpa using hk]; exact .head _⟩
          rw [i4 _ (Nat.lt_succ_self _)]
          show (if H.nxt = H.nxt then _ else _) = _
          rw [if_pos rfl]
        · obtain ⟨y, j1, j2, j3⟩ := i5 k (by show H.nxt + 1 ≤ k; omega) b
          exact ⟨y, j1, j2, .tail _ j3⟩
    · simp only [if_neg hk]
      obtain ⟨i1, i2, i3, i4, i5⟩ := cells0 (bv := bv) (L := L) r acc cel H h1 h2
      exact ⟨i1, i2, i3, i4, fun k a b => let ⟨y, j1, j2, j3⟩ := i5 k a b; ⟨y, j1, j2, .tail _ j3⟩⟩

theorem filter_lookup {names : List (Str × NameKind)} {y : Str} {v : V} : ∀ {l : List (Str × V)}, (l.filter (fun p => names.lookup p.1 == some .local)).lookup y = some v → names.lookup y = some .local ∧ l.lookup y = some v
  | [], h => by cases h
  | (z, u) :: tl, h => by
    simp only [List.filter] at h
    cases hz : (names.lookup z == some NameKind.local) with
    | true =>
      rw [hz] at h
      simp only [List.lookup] at h ⊢
      cases hq : y == z with
      | true =>
        rw [hq] at h
        have e : y = z := by simpa using hq
        subst e
        exact ⟨by simpa using hz, h⟩
      | false => rw [hq] at h; exact filter_lookup h
    | false =>
      rw [hz] at h
      obtain ⟨p1, p2⟩ := filter_lookup h
      refine ⟨p1, ?_⟩
      simp only [List.lookup]
      cases hq : y == z with
      | true =>
        have e : y = z := by simpa using hq
        subst e
        rw [p1] at hz; simp at hz
      | false => exact p2

noncomputable def W0 (L : Nat) (fz : Nat → Option Obj) : Wd := ⟨fun k => L + 1 + k, fz⟩
noncomputable def H0 : Hp := ⟨fun _ => none, 0⟩

theorem start_ok {P : Par} {sc : Scope} {ps : List Str} {args : List V} {cargs : List Value} {cenv : Env} {s : Shared} {L : Nat} {fz : Nat → Option Obj} (hsh : fnShape sc ps = true)
    (c1 : cenv.scope = sc) (c2 : cenv.locals = L) (c3 : cenv.cells = cellsFrom (L + 1) sc.names []) (c4 : cenv.globals = mainGlobals) (c5 : cenv.builtins = builtinsNs) (hL : P.B.objs.size = L)
    (hn : s.heap.Ns L (bindL cenv.kindOf (ps.zip cargs) fun _ => none)) (hk : ∀ b o, P.B.get? b = some o → s.heap.get? b = some o)
    (hc : ∀ x c, (x, c) ∈ cellsFrom (L + 1) sc.names [] → s.heap.IsCell c (bindC cenv.kindOf (ps.zip cargs) (fun _ => none) x))
    (hfz : ∀ a o, fz a = some o → P.B.get? a = some o) (ha : VRs (W0 L fz) 0 args cargs) (hg : s.gens = #[]) (ho : s.os = P.os) :
    Inv P [L] (W0 L fz) (entry sc (ps.zip args) H0).toHp s ∧ Loc cenv (W0 L fz) (entry sc (ps.zip args) H0) s.heap ∧ ScOk sc cenv := by
  simp only [fnShape, Bool.and_eq_true, beq_iff_eq, Bool.not_eq_true'] at hsh
  obtain ⟨⟨⟨⟨⟨⟨k1, k2⟩, k3⟩, k4⟩, k5⟩, k6⟩, k7⟩ := hsh
  have c7 : ∀ y, cenv.kindOf y = sc.names.lookup y := fun y => by unfold Env.kindOf; rw [c1]
  obtain ⟨i1, i2, i3, i4, i5⟩ := cells0 (bv := ps.zip args) (L := L) sc.names [] [] H0 (fun _ _ => rfl) (fun x k h => by cases h)
  have en : L + 1 + H0.nxt = L + 1 := rfl
  rw [en] at i3 i5
  have big : ∀ a, L ≤ a → P.B.get? a = none := fun a h => Heap.get?_none_of_le (by omega)
  have wl : Wle 0 (W0 L fz) (W0 L fz) := .refl ..
  have cellAt : ∀ k, k < (cellsH (ps.zip args) sc.names H0 []).1.nxt → ∃ o ob, (cellsH (ps.zip args) sc.names H0 []).1.obj k = some o ∧ s.heap.get? (L + 1 + k) = some ob ∧ OR (W0 L fz) (cellsH (ps.zip args) sc.names H0 []).1.nxt o ob := fun k h => by
    obtain ⟨x, j1, j2, j3⟩ := i5 k (Nat.zero_le _) h
    obtain ⟨ob, e1, d1⟩ := hc x _ j1
    refine ⟨_, ob, j2, e1, ?_⟩
    have hl' : sc.names.lookup x = some .cell := keyed_lookup k4 j3
    rw [bindC_at (by rw [c7, hl']; intro q; cases q) k6] at d1
    have hr := zip_rel x ps ha
    revert d1 hr
    cases (ps.zip args).lookup x with
    | none => cases (ps.zip cargs).lookup x with
      | none => exact fun d1 _ => .nocell d1
      | some _ => exact fun _ q => q.elim
    | some v => cases (ps.zip cargs).lookup x with
      | none => exact fun _ q => q.elim
      | some c => exact fun d1 q => .cell d1 (VR.mono wl (Nat.zero_le _) q)
  refine ⟨⟨hk, fun k _ => big _ (by show L ≤ L + 1 + k; omega), fun k h => ?_, fun k _ q => ?_, fun k _ => ?_, fun i j _ _ q => ?_, fun k o h => ?_, fun a c h => ⟨hk a c (hfz a c h), fun q => ?_⟩, fun a h => ?_, hg, ho⟩, ⟨by rw [c1]; exact k1, c4, c5, ⟨_, by rw [c2]; exact hn, fun y v h => ?_⟩, fun y k h => ?_⟩, ?_⟩
  · obtain ⟨o, ob, _, e, _⟩ := cellAt k h; exact ⟨ob, e⟩
  · have : L + 1 + k = L := by simpa using (show L + 1 + k ∈ [L] from q)
    omega
  · cases hq : fz (L + 1 + k) with
    | none => exact hq
    | some o => have := hfz _ _ hq; rw [big _ (by omega)] at this; cases this
  · have : L + 1 + i = L + 1 + j := q
    omega
  · have hlt : k < (cellsH (ps.zip args) sc.names H0 []).1.nxt := by
      refine Nat.not_le.mp fun hle => ?_
      have h' : (cellsH (ps.zip args) sc.names H0 []).1.obj k = some o := h
      rw [i1 k hle] at h'; cases h'
    obtain ⟨o', ob, e0, e1, e2⟩ := cellAt k hlt
    have h' : (cellsH (ps.zip args) sc.names H0 []).1.obj k = some o := h
    rw [e0] at h'; cases h'
    exact ⟨hlt, ob, e1, e2⟩
  · have : a = L := by simpa using q
    subst this
    have := hfz a c h
    rw [big a (Nat.le_refl _)] at this; cases this
  · have : a = L := by simpa using h
    subst this
    obtain ⟨o, es, ep, e1, e2, _⟩ := hn
    exact ⟨big a (Nat.le_refl _), o, e1, fun vs q => by rw [e2] at q; cases q⟩
  · obtain ⟨p1, p2⟩ := filter_lookup (names := sc.names) h
    have hr := zip_rel y ps ha
    rw [p2] at hr
    refine ⟨by rw [c7]; exact p1, ?_⟩
    cases h1 : (ps.zip cargs).lookup y with
    | none => rw [h1] at hr; exact hr.elim
    | some c =>
      rw [h1] at hr
      refine ⟨c, ?_, VR.mono wl (Nat.zero_le _) hr⟩
      rw [bindL_at k6, c7, p1, h1]
      rfl
  · obtain ⟨p, q⟩ := i3 y k h
    exact ⟨p, fun _ => by rw [c3]; exact q⟩
  · refine ⟨fun y h => by rw [c7]; exact h, fun y h => by rw [c7]; exact h, fun y h => by rw [c7]; exact h, fun y h => by rw [c7]; exact h, fun y h => ?_⟩
    rw [c7] at h
    rw [c3]
    rcases h with h | h
    · exact Option.isSome_iff_exists.mp (cells_some (n := L + 1) (acc := []) (.inr (mem_of_lookupK h)))
    · have := List.all_eq_true.mp k5 _ (mem_of_lookupK h)
      simp at this
end Mine
end
section
set_option Elab.async false
set_option linter.all false
set_option maxRecDepth 100000
namespace Mine
open PySem PySem.W PyProof.Rows

theorem law_run {P : Par} {sc : Scope} {ps : List Str} {args : List V} {cargs : List Value} {cenv : Env} {s : Shared} {L : Nat} {fz : Nat → Option Obj} {cx hx : Sx} {b : S} {body : List Stmt} {v : V} {σ' : St} {Q : Flow → Shared → Prop} {E : Value → Shared → Prop}
    (hsh : fnShape sc ps = true) (c1 : cenv.scope = sc) (c2 : cenv.locals = L) (c3 : cenv.cells = cellsFrom (L + 1) sc.names []) (c4 : cenv.globals = mainGlobals) (c5 : cenv.builtins = builtinsNs) (c6 : cenv.frame = some L) (hL : P.B.objs.size = L)
    (hn : s.heap.Ns L (bindL cenv.kindOf (ps.zip cargs) fun _ => none)) (hk : ∀ b o, P.B.get? b = some o → s.heap.get? b = some o)
    (hc : ∀ x c, (x, c) ∈ cellsFrom (L + 1) sc.names [] → s.heap.IsCell c (bindC cenv.kindOf (ps.zip cargs) (fun _ => none) x))
    (hfz : ∀ a o, fz a = some o → P.B.get? a = some o) (ha : VRs (W0 L fz) 0 args cargs) (hg : s.gens = #[]) (ho : s.os = P.os)
    (C : SxOk P cx) (H : SxOk P hx) (hcm : hx.calm = true) (hlv : hx.lvl ≤ cx.lvl) (hl5 : cx.lvl ≤ 20) (hb : TieS b sc (.l body))
    (hex : ex b cx hx (entry sc (ps.zip args) H0) = .ok (.ret v) σ')
    (hQ : ∀ W c s', VR W σ'.nxt v c → (∀ b o, P.B.get? b = some o → s'.heap.get? b = some o) → s'.os = P.os → s'.gens = #[] → Q (.ret c) s') :
    wpAny P.M (callerA.deeper cenv) (execs body cenv) Q E s := by
  obtain ⟨I, Lc, Sc⟩ := start_ok hsh c1 c2 c3 c4 c5 hL hn hk hc hfz ha hg ho
  have hshk : sc.kind = .function := Lc.kind ▸ c1 ▸ rfl
  have F : FmS P cx.calm cx.lvl [L] (callerA.deeper cenv) cenv := by
    refine ⟨⟨by rw [c2]; exact .head _, .inl rfl, ?_, ?_, [cenv], rfl, fun e he => ?_⟩, ⟨[], rfl⟩, by rw [c2]; exact c6⟩
    · show 4 + 3 + 20 * cx.lvl + 200 < cLine
      unfold cLine; omega
    · show 1 + claimMargin + 1 + 10 * cx.lvl + 100 < recursionLimit
      have : 1 + claimMargin + 1 + 10 * 20 + 100 < recursionLimit := by decide
      omega
    · have : e = cenv := by simpa using he
      subst this
      exact ⟨by rw [c1, hshk]; decide, L, c6, .head _⟩
  refine wpAny_mono (soundS hb cx hx C H hcm hlv [L] _ cenv F Sc (W0 L fz) _ s I Lc (by rw [hex]; intro q; cases q)) (fun f s' ⟨v', σ₂, W₂, e, st, hf⟩ => ?_) (fun e s' ⟨_, _, _, _, _, q, _⟩ => by rw [hex] at q; cases q)
  rw [hex] at e
  cases e
  cases hf with
  | ret hv => exact hQ W₂ _ s' hv st.inv.keep st.inv.os st.inv.gens
end Mine
end
section
set_option Elab.async false
set_option linter.all false
set_option maxRecDepth 100000
namespace Mine
open PySem PySem.W PyProof.Rows

/-! ## plain reasoning about `ex` -/
/-- the run ends well, and Q holds then -/
noncomputable def Gd {α : Type} (r : Rs α) (Q : α → St → Prop) : Prop := ∃ a σ, r = .ok a σ ∧ Q a σ
/-- the run ends with an exception of a class -/
noncomputable def Ba {α : Type} (r : Rs α) (cls : String) (Q : St → Prop) : Prop := ∃ σ, r = .err cls σ ∧ Q σ

section
variable {cx hx : Sx} {σ σ₁ σ₂ : St} {Q : Fl → St → Prop}

theorem Gd.mono {α : Type} {r : Rs α} {Q Q' : α → St → Prop} (h : Gd r Q) (hq : ∀ a σ, Q a σ → Q' a σ) : Gd r Q' := let ⟨a, σ, e, q⟩ := h; ⟨a, σ, e, hq a σ q⟩

theorem gd_seq {a b : S} (h : Gd (ex a cx hx σ) fun f σ₁ => match f with | .next => Gd (ex b cx hx σ₁) Q | f => Q f σ₁) : Gd (ex (.seq a b) cx hx σ) Q := by
  obtain ⟨f, σ₁, e, h⟩ := h
  have hev : ex (.seq a b) cx hx σ = goOn f σ₁ (ex b cx hx) := (Rs.bind_ok e : _)
  rw [hev]
  cases f with
  | next => exact h
  | _ => exact ⟨_, σ₁, rfl, h⟩
theorem gd_nil (h : Q .next σ) : Gd (ex .nil cx hx σ) Q := ⟨_, _, rfl, h⟩
theorem gd_asg {x : Str} {e : X} {v : V} (he : ev cx.toCx e σ = .ok v σ₁) (h : Q .next (σ₁.set x v)) : Gd (ex (.asg x e) cx hx σ) Q := ⟨_, _, (Rs.bind_ok he : _), h⟩
theorem gd_expr {e : X} {v : V} (he : ev cx.toCx e σ = .ok v σ₁) (h : Q .next σ₁) : Gd (ex (.expr e) cx hx σ) Q := ⟨_, _, (Rs.bind_ok he : _), h⟩
theorem gd_ret {e : X} {v : V} (he : ev cx.toCx e σ = .ok v σ₁) (h : Q (.ret v) σ₁) : Gd (ex (.ret e) cx hx σ) Q := ⟨_, _, (Rs.bind_ok he : _), h⟩
theorem gd_own {x : Str} {e : X} {xs : List V} (he : ev cx.toCx e σ = .ok (.list xs) σ₁) (h : Q .next ((σ₁.add (.list xs)).set x (.ref σ₁.nxt))) : Gd (ex (.own x e) cx hx σ) Q := ⟨_, _, (Rs.bind_ok he : _), h⟩
theorem gd_ownC {x : Str} {e : X} {xs : List V} (he : ev cx.toCx e σ = .ok (.list xs) σ₁) (hs : (σ₁.add (.list xs)).setC x (.ref σ₁.nxt) = some σ₂) (h : Q .next σ₂) : Gd (ex (.ownC x e) cx hx σ) Q := by
  refine ⟨_, σ₂, (Rs.bind_ok he : _).trans ?_, h⟩
  show optS ((σ₁.add (.list xs)).setC x (.ref σ₁.nxt)) = _
  rw [hs]; rfl
theorem gd_ite {c : X} {a b : S} {v : V} {t : Bool} (he : ev cx.toCx c σ = .ok v σ₁) (ht : truV σ₁.toHp v = some t) (h1 : t = true → Gd (ex a cx hx σ₁) Q) (h2 : t = false → Gd (ex b cx hx σ₁) Q) : Gd (ex (.ite c a b) cx hx σ) Q := by
  have hev : ex (.ite c a b) cx hx σ = condS v σ₁ (ex a cx hx) (ex b cx hx) := (Rs.bind_ok he : _)
  rw [hev]
  unfold condS
  rw [ht]
  cases t with
  | true => exact h1 rfl
  | false => exact h2 rfl
theorem gd_each {x : Str} {it : X} {b : S} {v : V} {xs : List V} (hc : cx.calm = false) (he : ev cx.toCx it σ = .ok v σ₁) (hi : itsV σ₁.toHp v = some xs) (I : List V → St → Prop) (h0 : I xs σ₁)
    (hst : ∀ l σ, I l σ → itsV σ.toHp v = some xs) (hb : ∀ y r σ, I (y :: r) σ → Gd (ex b cx hx (σ.set x y)) fun f σ' => match f with | .next => I r σ' | .cont => I r σ' | .brk => Q .next σ' | .ret u => Q (.ret u) σ')
    (hend : ∀ σ, I [] σ → Q .next σ) : Gd (ex (.each x it b) cx hx σ) Q := by
  have hev : ex (.each x it b) cx hx σ = eachF v xs x (ex b cx hx) xs σ₁ := by
    show (if cx.calm = true then Rs.bad else _) = _
    rw [if_neg (by rw [hc]; decide), Rs.bind_ok he, hi]
  rw [hev]
  have main : ∀ l σ, I l σ → Gd (eachF v xs x (ex b cx hx) l σ) Q := by
    intro l
    induction l with
    | nil =>
      intro σ hI
      refine ⟨.next, σ, ?_, hend σ hI⟩
      unfold eachF; rw [if_pos (hst _ _ hI)]
    | cons y r ih =>
      intro σ hI
      obtain ⟨f, σ', e, h⟩ := hb y r σ hI
      unfold eachF
      rw [if_pos (hst _ _ hI), e]
      cases f with
      | next => exact ih σ' h
      | cont => exact ih σ' h
      | brk => exact ⟨_, _, rfl, h⟩
      | ret u => exact ⟨_, _, rfl, h⟩
  exact main xs σ₁ h0
end
end Mine
end
section
set_option Elab.async false
set_option linter.all false
set_option maxRecDepth 100000
namespace Mine
open PySem PySem.W PyProof.Rows

section
variable {cx hx : Sx} {σ σ₁ σ₂ : St} {Q : Fl → St → Prop}

theorem gd_setA {o : X} {f : Str} {e : X} {v vo : V} {H : Hp} (he : ev cx.toCx e σ = .ok v σ₁) (ho : ev cx.toCx o σ₁ = .ok vo σ₂) (hs : cx.setA vo f v σ₂.toHp = some H) (h : Q .next { σ₂ with toHp := H }) : Gd (ex (.setA o f e) cx hx σ) Q := by
  refine ⟨_, _, (Rs.bind_ok he : _).trans ((Rs.bind_ok ho : _).trans ?_), h⟩
  show optS ((cx.setA vo f v σ₂.toHp).map _) = _
  rw [hs]; rfl
theorem gd_try1 {b h : S} {c : Str} (hb : Gd (ex b cx hx σ) Q ∨ ∃ cls, Ba (ex b cx hx σ) cls fun σ₁ => cx.sub cls c = some true ∧ Gd (ex h hx hx σ₁) Q) : Gd (ex (.try1 b c h) cx hx σ) Q := by
  have hev : ex (.try1 b c h) cx hx σ = caught (ex b cx hx σ) fun cls σ₁ => clause cx.sub cls c (noErr (ex h hx hx σ₁)) .bad := rfl
  rw [hev]
  rcases hb with ⟨f, σ₁, e, q⟩ | ⟨cls, σ₁, e, hs, f, σ₂, e₂, q⟩
  · rw [e]; exact ⟨_, _, rfl, q⟩
  · rw [e]
    refine ⟨f, σ₂, ?_, q⟩
    show clause _ _ _ _ _ = _
    unfold clause
    rw [hs, e₂]; rfl
theorem gd_try2 {b h h₂ : S} {c c₂ : Str} (hb : Gd (ex b cx hx σ) Q ∨ (∃ cls, Ba (ex b cx hx σ) cls fun σ₁ => cx.sub cls c = some true ∧ Gd (ex h hx hx σ₁) Q) ∨ (∃ cls, Ba (ex b cx hx σ) cls fun σ₁ => cx.sub cls c = some false ∧ cx.sub cls c₂ = some true ∧ Gd (ex h₂ hx hx σ₁) Q)) :
    Gd (ex (.try2 b c h c₂ h₂) cx hx σ) Q := by
  have hev : ex (.try2 b c h c₂ h₂) cx hx σ = caught (ex b cx hx σ) fun cls σ₁ => clause cx.sub cls c (noErr (ex h hx hx σ₁)) (clause cx.sub cls c₂ (noErr (ex h₂ hx hx σ₁)) .bad) := rfl
  rw [hev]
  rcases hb with ⟨f, σ₁, e, q⟩ | ⟨cls, σ₁, e, hs, f, σ₂, e₂, q⟩ | ⟨cls, σ₁, e, hs, hs₂, f, σ₂, e₂, q⟩
  · rw [e]; exact ⟨_, _, rfl, q⟩
  · rw [e]
    refine ⟨f, σ₂, ?_, q⟩
    show clause _ _ _ _ _ = _
    unfold clause
    rw [hs, e₂]; rfl
  · rw [e]
    refine ⟨f, σ₂, ?_, q⟩
    show clause _ _ _ _ _ = _
    unfold clause
    rw [hs]
    dsimp only
    rw [hs₂, e₂]; rfl
theorem ba_asg {x : Str} {e : X} {cls : String} {R : St → Prop} (he : Ba (ev cx.toCx e σ) cls R) : Ba (ex (.asg x e) cx hx σ) cls R := by
  obtain ⟨σ₁, e1, r⟩ := he
  exact ⟨σ₁, (Rs.bind_err e1 : _), r⟩
theorem ba_seq {a b : S} {cls : String} {R : St → Prop} (h : Ba (ex a cx hx σ) cls R) : Ba (ex (.seq a b) cx hx σ) cls R := by
  obtain ⟨σ₁, e1, r⟩ := h
  exact ⟨σ₁, (Rs.bind_err e1 : _), r⟩

/-- a comprehension without calls that change anything: its turns -/
theorem turns_pure {v : V} {all : List V} {f : V → St → Rs (Option V)} {g : V → Option V} (hi : itsV σ.toHp v = some all) : ∀ {l : List V}, (∀ y ∈ l, f y σ = .ok (g y) σ) → turns v all f l σ = .ok (l.filterMap g) σ
  | [], _ => by unfold turns; rw [if_pos hi]; rfl
  | y :: r, h => by
    unfold turns
    rw [if_pos hi, h y (.head _)]
    show (turns v all f r σ).bind _ = _
    rw [turns_pure hi fun z hz => h z (.tail _ hz)]
    show Rs.ok _ _ = _
    rw [List.filterMap_cons]
    cases g y <;> rfl
end
end Mine
end
section
set_option Elab.async false
set_option linter.all false
set_option maxRecDepth 100000
namespace Mine
open PySem PySem.W PyProof.Rows

/-! ## texts -/
theorem join_empty (ts : List Str) : (Txt.join ⟨#[]⟩ ts).cps.toList = (ts.map (·.cps.toList)).flatten := by
  have gen : ∀ (l : List Str) (acc : Array Nat), (l.foldl (fun acc p => acc ++ (⟨#[]⟩ : Str).cps ++ p.cps) acc).toList = acc.toList ++ (l.map (·.cps.toList)).flatten := by
    intro l
    induction l with
    | nil => intro acc; simp
    | cons x r ih => intro acc; rw [List.foldl_cons, ih]; simp
  unfold Txt.join Builtin.Str.glued
  cases ts with
  | nil => rfl
  | cons x r => dsimp only [List.drop, List.headD]; rw [gen]; simp

theorem Str.eq_of {a b : PySem.Str} (h : a.cps.toList = b.cps.toList) : a = b := by
  cases a; cases b; simp only at h; congr; exact Array.toList_inj.mp h
theorem Str.beq_list (a b : PySem.Str) : (a == b) = (a.cps.toList == b.cps.toList) := by
  by_cases h : a = b
  · subst h; simp
  · have : a.cps.toList ≠ b.cps.toList := fun q => h (Str.eq_of q)
    rw [beq_eq_false_iff_ne.mpr h, beq_eq_false_iff_ne.mpr this]

/-! ## the operations, evaluated -/
section
variable {H : Hp} {a b : Int} {x y : PySem.Str}
theorem cEqI : cmpV H .Eq (.int a) (.int b) = .ok (.bool (a == b)) := rfl
theorem cNeI : cmpV H .NotEq (.int a) (.int b) = .ok (.bool (a != b)) := rfl
theorem cLtI : cmpV H .Lt (.int a) (.int b) = .ok (.bool (decide (a < b))) := rfl
theorem cLeI : cmpV H .LtE (.int a) (.int b) = .ok (.bool (decide (a ≤ b))) := rfl
theorem cGtI : cmpV H .Gt (.int a) (.int b) = .ok (.bool (decide (a > b))) := rfl
theorem cGeI : cmpV H .GtE (.int a) (.int b) = .ok (.bool (decide (a ≥ b))) := rfl
theorem cEqS : cmpV H .Eq (.str x) (.str y) = .ok (.bool (x.cps.toList == y.cps.toList)) := by
  rw [← Str.beq_list]; rfl
theorem cNeS : cmpV H .NotEq (.str x) (.str y) = .ok (.bool (x.cps.toList != y.cps.toList)) := by
  show Ov.ok (.bool (!(x == y))) = _
  rw [Str.beq_list]; rfl
theorem cIsNN : cmpV H .Is .none .none = .ok (.bool true) := rfl
theorem cIsNI : cmpV H .Is (.int a) .none = .ok (.bool false) := rfl
theorem cIsntNN : cmpV H .IsNot .none .none = .ok (.bool false) := rfl
theorem cIsntNI : cmpV H .IsNot (.int a) .none = .ok (.bool true) := rfl
theorem bAddI : binV H .Add (.int a) (.int b) = .ok (.int (a + b)) := rfl
theorem bSubI : binV H .Sub (.int a) (.int b) = .ok (.int (a - b)) := rfl
theorem bAddL {xs ys : List V} (h : xs.length + ys.length ≤ sizeLine) : binV H .Add (.list xs) (.list ys) = .ok (.list (xs ++ ys)) := by
  show (if _ then _ else _) = _
  rw [if_pos h]
end
end Mine
end
section
set_option Elab.async false
set_option linter.all false
set_option maxRecDepth 100000
set_option maxHeartbeats 4000000
namespace Mine.L05
open PySem PySem.W PyProof.Rows Mine MineTop

noncomputable def init_S : S := (.seq (.setA (.var "self") "indentwidth" (.var "indentwidth")) (.seq (.setA (.var "self") "tabwidth" (.var "tabwidth")) .nil))
noncomputable def setcode_S : S := (.seq (.assert (.or (.cmp .Eq (.call (.glob "len") (.cons (.var "s") .nil)) (.int 0)) (.cmp .Eq (.idx (.var "s") (.neg (.int 1))) (.str "\n")))) (.seq (.setA (.var "self") "code" (.var "s")) (.seq (.setA (.var "self") "study_level" (.int 0)) .nil)))
noncomputable def setlo_S : S := (.seq (.assert (.or (.cmp .Eq (.var "lo") (.int 0)) (.cmp .Eq (.idx (.attr (.var "self") "code") (.bin .Sub (.var "lo") (.int 1))) (.str "\n")))) (.seq (.ite (.cmp .Gt (.var "lo") (.int 0)) (.seq (.setA (.var "self") "code" (.slc (.attr (.var "self") "code") (.var "lo") .none)) .nil) .nil) .nil))
noncomputable def law_S : S := (.seq (.ownC "rows" (.comp (.idx (.list (.cons (.str "\n") (.cons (.str "a\n") (.cons (.str "de\n") (.cons (.str "\tx:\n") (.cons (.str "") .nil)))))) (.bin .Mod (.var "x") (.int 5))) "x" (.slc (.var "script") .none (.int 8)) (.bool true))) (.seq (.expr (.meth (.cv "rows") "append" (.cons (.idx (.list (.cons (.str "ab\n") (.cons (.str "\n") (.cons (.str "c\n") (.cons (.str "") .nil))))) (.bin .Mod (.call (.glob "len") (.cons (.var "script") .nil)) (.int 4))) .nil))) (.seq (.ownC "rows" (.comp (.var "row") "row" (.cv "rows") (.cmp .NotEq (.var "row") (.str "")))) (.seq (.asg "text" (.meth (.str "") "join" (.cons (.cv "rows") .nil))) (.seq (.asg "size" (.call (.glob "len") (.cons (.var "text") .nil))) (.seq (.own "starts" (.comp (.call (.glob "len") (.cons (.meth (.str "") "join" (.cons (.slc (.cv "rows") .none (.var "k")) .nil)) .nil)) "k" (.call (.glob "range") (.cons (.int 1) (.cons (.bin .Add (.call (.glob "len") (.cons (.cv "rows") .nil)) (.int 1)) .nil))) (.bool true))) (.seq (.each "lo" (.bin .Add (.call (.glob "list") (.cons (.call (.glob "range") (.cons (.bin .Sub (.neg (.var "size")) (.int 3)) (.cons (.bin .Add (.var "size") (.int 4)) .nil))) .nil)) (.slc (.var "script") .none (.int 16))) (.seq (.ite (.cmp .In (.var "lo") (.var "starts")) (.seq (.asg "due" (.list (.cons (.str "taken") (.cons (.meth (.str "") "join" (.cons (.slc (.cv "rows") (.bin .Add (.meth (.var "starts") "index" (.cons (.var "lo") .nil)) (.int 1)) .none) .nil)) .nil)))) .nil) (.seq (.ite (.or (.cmp .Eq (.var "lo") (.int 0)) (.and (.cmp .Lt (.var "lo") (.int 0)) (.cmp .In (.bin .Add (.var "size") (.var "lo")) (.var "starts")))) (.seq (.asg "due" (.list (.cons (.str "taken") (.cons (.var "text") .nil)))) .nil) (.seq (.ite (.cmp2 .LtE .LtE (.bin .Sub (.int 1) (.var "size")) (.var "lo") (.var "size")) (.seq (.asg "due" (.list (.cons (.str "refused") (.cons (.var "text") .nil)))) .nil) (.seq (.asg "due" (.list (.cons (.str "beyond") (.cons (.var "text") .nil)))) .nil)) .nil)) .nil)) (.seq (.asg "parser" (.call (.glob "Parser") (.cons (.int 4) (.cons (.int 8) .nil)))) (.seq (.expr (.meth (.var "parser") "set_code" (.cons (.var "text") .nil))) (.seq (.setA (.var "parser") "study_level" (.bin .Mod (.var "lo") (.int 3))) (.seq (.try2 (.seq (.asg "met" (.ite (.cmp .Is (.meth (.var "parser") "set_lo" (.cons (.var "lo") .nil)) .none) (.str "taken") (.str "odd"))) .nil) "AssertionError" (.seq (.asg "met" (.str "refused")) .nil) "IndexError" (.seq (.asg "met" (.str "beyond")) .nil)) (.seq (.ite (.cmp .NotEq (.list (.cons (.var "met") (.cons (.attr (.var "parser") "code") (.cons (.attr (.var "parser") "study_level") .nil)))) (.bin .Add (.var "due") (.list (.cons (.bin .Mod (.var "lo") (.int 3)) .nil)))) (.seq (.ret (.bool false)) .nil) .nil) .nil))))))) (.seq (.asg "bare" (.call (.glob "Parser") (.cons (.int 4) (.cons (.int 8) .nil)))) (.seq (.each "lo" (.bin .Add (.list (.cons (.int 0) (.cons (.int 1) (.cons (.neg (.int 1)) .nil)))) (.slc (.var "script") .none (.int 16))) (.seq (.try1 (.seq (.asg "fits" (.and (.cmp .Is (.meth (.var "bare") "set_lo" (.cons (.var "lo") .nil)) .none) (.cmp .Eq (.var "lo") (.int 0)))) .nil) "AttributeError" (.seq (.asg "fits" (.cmp .NotEq (.var "lo") (.int 0))) .nil)) (.seq (.ite (.not (.var "fits")) (.seq (.ret (.bool false)) .nil) .nil) .nil))) (.seq (.ret (.bool true)) .nil))))))))))

noncomputable def scF (ns : List Str) : Scope := { kind := .function, names := ns.map fun x => (x, .local), isGenerator := false, isCoroutine := false }
theorem row58 (p : Params) : FnRow (hd.heap_39 p) 58 (scF ["self", "indentwidth", "tabwidth"]) ["self", "indentwidth", "tabwidth"] init_S :=
  ⟨_, _, rfl, rfl, rfl, rfl, rfl, rfl, rfl, by decide +kernel, by repeat' first | exact rfl | decide +kernel | constructor, fun cargs h => by
    match cargs, h with
    | [a, b, c], _ => rfl⟩
noncomputable def scS : Scope := { kind := .function, names := [("self", .local), ("s", .local), ("len", .globalImplicit)], isGenerator := false, isCoroutine := false }
theorem row65 (p : Params) : FnRow (hd.heap_39 p) 65 scS ["self", "s"] setcode_S :=
  ⟨_, _, rfl, rfl, rfl, rfl, rfl, rfl, rfl, by decide +kernel, by repeat' first | exact rfl | decide +kernel | constructor, fun cargs h => by
    match cargs, h with
    | [a, b], _ => rfl⟩
theorem row79 (p : Params) : FnRow (hd.heap_39 p) 79 (scF ["self", "lo"]) ["self", "lo"] setlo_S :=
  ⟨_, _, rfl, rfl, rfl, rfl, rfl, rfl, rfl, by decide +kernel, by repeat' first | exact rfl | decide +kernel | constructor, fun cargs h => by
    match cargs, h with
    | [a, b], _ => rfl⟩
end Mine.L05
end
section
set_option Elab.async false
set_option linter.all false
set_option maxRecDepth 100000
set_option maxHeartbeats 4000000
namespace Mine.L05
open PySem PySem.W PyProof.Rows Mine MineTop

noncomputable def gl5 (x : Str) : Option V :=
  if x = ("len" : Str) then some (.top (.builtin "len"))
  else if x = ("range" : Str) then some (.top (.type "range"))
  else if x = ("list" : Str) then some (.top (.type "list"))
  else if x = ("Parser" : Str) then some (.top (.ref 152))
  else none
noncomputable def sub5 (X : String) (n : Str) : Option Bool :=
  if n = ("AssertionError" : Str) then (if X = "AssertionError" then some true else if X = "IndexError" then some false else none)
  else if n = ("IndexError" : Str) then (if X = "IndexError" then some true else none)
  else if n = ("AttributeError" : Str) then (if X = "AttributeError" then some true else none)
  else none
noncomputable def G5 (p : Params) : Prg := { K := hd.heap_39 p, C := 152, meths := [("set_code", 65), ("set_lo", 79)], flds := ["code", "study_level", "indentwidth", "tabwidth"], gl := gl5, sub := sub5 }
noncomputable def rows5 : Rows := [(58, scF ["self", "indentwidth", "tabwidth"], ["self", "indentwidth", "tabwidth"], init_S), (65, scS, ["self", "s"], setcode_S), (79, scF ["self", "lo"], ["self", "lo"], setlo_S)]

section
variable {P : Par} {pv : Program} {loose : List Str} {mg mb : Str → Option Value} {K : Frag}

theorem glB (X : K.In P.B) (T : TopRead pv loose mg mb P.B) {x : Str} {v : Value} (e : nsIn K mainGlobals x = some none) (hv : bootBuiltins x = some v) (hn : x ≠ "__name__") :
    ∃ c mg mb, P.B.Ns mainGlobals mg ∧ P.B.Ns builtinsNs mb ∧ (mg x = some c ∨ (mg x = none ∧ mb x = some c)) ∧ c = v :=
  ⟨v, mg, mb, T.g, T.b, .inr ⟨mg_none_of X T.g e, (T.builtins x hn).trans hv⟩, rfl⟩
theorem glK (X : K.In P.B) (T : TopRead pv loose mg mb P.B) {x : Str} {v : Value} (e : nsIn K mainGlobals x = some (some v)) :
    ∃ c mg mb, P.B.Ns mainGlobals mg ∧ P.B.Ns builtinsNs mb ∧ (mg x = some c ∨ (mg x = none ∧ mb x = some c)) ∧ c = v :=
  ⟨v, mg, mb, T.g, T.b, .inl (mg_of X T.g e), rfl⟩
theorem gl_top {x : Str} {v : Value} (h : ∃ c mg mb, P.B.Ns mainGlobals mg ∧ P.B.Ns builtinsNs mb ∧ (mg x = some c ∨ (mg x = none ∧ mb x = some c)) ∧ c = v) :
    ∃ c mg mb, P.B.Ns mainGlobals mg ∧ P.B.Ns builtinsNs mb ∧ (mg x = some c ∨ (mg x = none ∧ mb x = some c)) ∧ ∀ W n, VR W n (.top v) c := by
  obtain ⟨c, mg, mb, a, b, d, rfl⟩ := h
  exact ⟨c, mg, mb, a, b, d, fun _ _ => .top _⟩

theorem cls5 (p : Params) (X : (hd.heap_39 p).In P.B) : ClsOk P (hd.heap_39 p) 152 :=
  ⟨X, by rfl, by rfl, by rfl, by rfl, by rfl, by rfl⟩

theorem prg5 (p : Params) (X : (hd.heap_39 p).In P.B) (T : TopRead pv loose mg mb P.B) : PrgOk P (G5 p) := by
  refine ⟨cls5 p X, by rfl, fun m g h => ?_, fun f h => ?_, fun x v h => ?_, fun Xn n b h => ?_⟩
  · have h' : ([(("set_code" : Str), (65 : Addr)), ("set_lo", 79)] : List (Str × Addr)).lookup m = some g := h
    simp only [List.lookup] at h'
    split at h'
    · rename_i hm
      have : m = ("set_code" : Str) := by simpa using hm
      subst this; cases h'
      exact ⟨by rfl, by rfl⟩
    · split at h'
      · rename_i hm
        have : m = ("set_lo" : Str) := by simpa using hm
        subst this; cases h'
        exact ⟨by rfl, by rfl⟩
      · cases h'
  · have h' : f ∈ (["code", "study_level", "indentwidth", "tabwidth"] : List Str) := by
      have : (["code", "study_level", "indentwidth", "tabwidth"] : List Str).contains f = true := h
      simpa using this
    simp only [List.mem_cons, List.not_mem_nil, or_false] at h'
    rcases h' with rfl | rfl | rfl | rfl
    · exact ⟨by rfl, by rfl, by decide⟩
    · exact ⟨by rfl, by rfl, by decide⟩
    · exact ⟨by rfl, by rfl, by decide⟩
    · exact ⟨by rfl, by rfl, by decide⟩
  · have h' : gl5 x = some v := h
    unfold gl5 at h'
    split at h'
    · rename_i hx; subst hx; cases h'; exact gl_top (glB X T (by rfl) (by rfl) (by decide))
    split at h'
    · rename_i hx; subst hx; cases h'; exact gl_top (glB X T (by rfl) (by rfl) (by decide))
    split at h'
    · rename_i hx; subst hx; cases h'; exact gl_top (glB X T (by rfl) (by rfl) (by decide))
    split at h'
    · rename_i hx; subst hx; cases h'; exact gl_top (glK X T (by rfl))
    · cases h'
  · have h' : sub5 Xn n = some b := h
    unfold sub5 at h'
    split at h'
    · rename_i hx; subst hx
      refine ⟨"AssertionError", glB X T (by rfl) (by rfl) (by decide), by decide, by rw [isSubtype_type]; rfl, by rw [isSubtype_type]; rfl, ?_⟩
      split at h'
      · rename_i hX; subst hX; cases h'; rw [isSubtype_type]; rfl
      · split at h'
        · rename_i hX; subst hX; cases h'; rw [isSubtype_type]; rfl
        · cases h'
    split at h'
    · rename_i hx; subst hx
      refine ⟨"IndexError", glB X T (by rfl) (by rfl) (by decide), by decide, by rw [isSubtype_type]; rfl, by rw [isSubtype_type]; rfl, ?_⟩
      split at h'
      · rename_i hX; subst hX; cases h'; rw [isSubtype_type]; rfl
      · cases h'
    split at h'
    · rename_i hx; subst hx
      refine ⟨"AttributeError", glB X T (by rfl) (by rfl) (by decide), by decide, by rw [isSubtype_type]; rfl, by rw [isSubtype_type]; rfl, ?_⟩
      split at h'
      · rename_i hX; subst hX; cases h'; rw [isSubtype_type]; rfl
      · cases h'
    · cases h'

theorem rows5_ok (p : Params) : ∀ a sc ps b, rows5.lookup a = some (sc, ps, b) → FnRow (G5 p).K a sc ps b := by
  intro a sc ps b h
  unfold rows5 at h
  simp only [List.lookup] at h
  split at h
  · rename_i ha; have : a = 58 := by simpa using ha
    subst this; cases h; exact row58 p
  split at h
  · rename_i ha; have : a = 65 := by simpa using ha
    subst this; cases h; exact row65 p
  split at h
  · rename_i ha; have : a = 79 := by simpa using ha
    subst this; cases h; exact row79 p
  · cases h

theorem tower5 (p : Params) (X : (hd.heap_39 p).In P.B) (T : TopRead pv loose mg mb P.B) (n : Nat) (cm : Bool) : SxOk P (tower (G5 p) rows5 58 n cm) :=
  tower_ok (prg5 p X T) T.nolimit (rows5_ok p) (by rfl) (by rfl) n cm
end
end Mine.L05
end
section
set_option Elab.async false
set_option linter.all false
set_option maxRecDepth 100000
set_option maxHeartbeats 8000000
namespace Mine.L05
open PySem PySem.W PyProof.Rows Mine MineTop

noncomputable def start5 (ns : List Int) : St := { obj := fun k => if k = 0 then some (.cell none) else none, nxt := 1, loc := [("script", .list (ns.map .int))], cel := [("rows", 0)] }
noncomputable def Plain5 : Prop := ∀ p, ∀ ns : List Int, ns.length ≤ 63 → ∃ σ', ex law_S (tower (G5 p) rows5 58 4 false) (tower (G5 p) rows5 58 4 true) (start5 ns) = .ok (.ret (.bool true)) σ'

theorem ints_VRs {W : Wd} {n : Nat} : ∀ {vs : List Value} {ns : List Int}, IntsAre vs ns → VRs W n (ns.map .int) vs
  | _, _, .nil => .nil
  | _, _, .cons _ _ r => .cons (.int _ _) (ints_VRs r)

theorem joined (plain : Plain5) : PySem.Challenge.rw_dm0167_05.Holds := hd (by
  k_go0
  rename_i w s₀ s₁ mg mb G Y fa o pm doc ho hg KX X V GL T B TE TW u10 u9 M u8 u7 hcd ns hs hlay0 hL0 hr0 hl2 u5 u4 a vs u1 hL ra hW1 r0 hI hr hcond1 hcond2 K0 hD h₁ tk₁ F wo hcell N0 X0
  obtain ⟨lo, hlo, hlc, ln, hld⟩ := hL
  have hlen : ns.length ≤ 63 := by omega
  obtain ⟨σ', hex⟩ := plain w.params ns hlen
  have hvl := ints_length hI
  have SX := fun n cm => tower5 (P := ⟨PySem.Challenge.rw_dm0167_05.row.prog, w, s₁.heap, s₁.os⟩) w.params KX (topRead_of T) n cm
  refine law_run (P := ⟨PySem.Challenge.rw_dm0167_05.row.prog, w, s₁.heap, s₁.os⟩) (ps := ["script"]) (args := [.list (ns.map .int)]) (cargs := [.ref a]) (L := s₁.heap.objs.size) (fz := fun b => if b = a then some lo else none) (cx := tower (G5 w.params) rows5 58 4 false) (hx := tower (G5 w.params) rows5 58 4 true) (b := law_S)
    (by rfl) rfl rfl rfl rfl rfl rfl rfl F.ns F.keep (fun x c hm => ?_) (fun b ob hb => ?_) (.cons (.list (if_pos rfl) hlc hld ?_ (ints_VRs hI)) .nil) hg rfl
    (SX 4 false) (SX 4 true) (tower_lvl 4 true).2 (by rw [(tower_lvl 4 true).1, (tower_lvl 4 false).1]; exact Nat.le_refl _) (by rw [(tower_lvl 4 false).1]; decide) (by repeat' first | exact rfl | decide +kernel | constructor) hex (fun W c s' hv hk ho hg => ?_)
  · have hm' : (x, c) ∈ [(("rows" : Str), s₁.heap.objs.size + 1)] := hm
    have hm'' := List.mem_singleton.mp hm'
    cases hm''
    exact ⟨wo, (N0 _ (.head _)).1, hcell⟩
  · have hb' : (if b = a then some lo else none) = some ob := hb
    split at hb'
    · rename_i e; subst e; cases hb'; exact hlo
    · cases hb'
  · rw [List.size_toArray, sizeLine_eq]; omega
  · cases hv
    refine ⟨.inl ⟨_, _, _, rfl, fun cls => ?_, .bool true, ?_, fun _ => ⟨List.nodup_nil, fun a ha => by cases ha⟩⟩, hk, ho, hg⟩
    · rfl
    · first | rfl | kernel_rfl | w_fin)
end Mine.L05
end
section
set_option Elab.async false
set_option linter.all false
set_option maxRecDepth 100000
set_option maxHeartbeats 4000000
namespace Mine.L05
open PySem PySem.W PyProof.Rows Mine

/-! ## the plain law: rows -/
noncomputable def pick5 (x : Int) : Str := (["\n", "a\n", "de\n", "\tx:\n", ""] : List Str).getD (x.fmod 5).toNat ""
noncomputable def pick4 (x : Int) : Str := (["ab\n", "\n", "c\n", ""] : List Str).getD (x.fmod 4).toNat ""
noncomputable def rowsOf (ns : List Int) : List Str := ((ns.take 8).map pick5 ++ [pick4 ns.length]).filter (· ≠ ⟨#[]⟩)

/-- one line: it ends with its only newline -/
noncomputable def IsRow (r : Str) : Prop := ∃ l : List Nat, r.cps.toList = l ++ [10] ∧ 10 ∉ l ∧ l.length ≤ 3 ∧ PyData.strOk r = true

theorem isRow_of {r : Str} (h : r ∈ (["\n", "a\n", "de\n", "\tx:\n", "", "ab\n", "c\n"] : List Str)) (hne : r ≠ ⟨#[]⟩) : IsRow r := by
  simp only [List.mem_cons, List.not_mem_nil, or_false] at h
  rcases h with rfl | rfl | rfl | rfl | rfl | rfl | rfl
  · exact ⟨[], by decide, by decide, by decide, by decide +kernel⟩
  · exact ⟨[97], by decide, by decide, by decide, by decide +kernel⟩
  · exact ⟨[100, 101], by decide, by decide, by decide, by decide +kernel⟩
  · exact ⟨[9, 120, 58], by decide, by decide, by decide, by decide +kernel⟩
  · exact absurd (by decide) hne
  · exact ⟨[97, 98], by decide, by decide, by decide, by decide +kernel⟩
  · exact ⟨[99], by decide, by decide, by decide, by decide +kernel⟩
end Mine.L05
end
section
set_option Elab.async false
set_option linter.all false
set_option maxRecDepth 100000
set_option maxHeartbeats 4000000
namespace Mine.L05
open PySem PySem.W PyProof.Rows Mine

noncomputable def startsOf : List (List Nat) → List Nat
  | [] => []
  | r :: rs => r.length :: (startsOf rs).map (· + r.length)
noncomputable def Line (r : List Nat) : Prop := ∃ l, r = l ++ [10] ∧ 10 ∉ l

theorem starts_pos : ∀ {rs : List (List Nat)}, (∀ r ∈ rs, Line r) → ∀ s ∈ startsOf rs, 1 ≤ s
  | [], _, s, h => by cases h
  | r :: rs, hl, s, h => by
    obtain ⟨l, rfl, _⟩ := hl r (.head _)
    simp only [startsOf, List.mem_cons, List.mem_map] at h
    rcases h with rfl | ⟨t, ht, rfl⟩
    · simp
    · simp; omega

theorem newline_iff : ∀ {rs : List (List Nat)}, (∀ r ∈ rs, Line r) → ∀ j, rs.flatten[j]? = some 10 ↔ (j + 1) ∈ startsOf rs
  | [], _, j => by simp [startsOf]
  | r :: rs, hl, j => by
    have ih := newline_iff (rs := rs) (fun r hr => hl r (.tail _ hr))
    have hp := starts_pos (rs := rs) (fun r hr => hl r (.tail _ hr))
    obtain ⟨l, rfl, hn⟩ := hl r (.head _)
    simp only [List.flatten_cons, startsOf, List.mem_cons, List.mem_map]
    by_cases hj : j < (l ++ [10]).length
    · rw [List.getElem?_append_left hj]
      constructor
      · intro h
        left
        by_cases h2 : j < l.length
        · rw [List.getElem?_append_left h2] at h
          exact absurd (List.mem_of_getElem? h) hn
        · simp at hj ⊢; omega
      · intro h
        rcases h with h | ⟨t, ht, h⟩
        · have : j = l.length := by simp at h; omega
          subst this; simp
        · have := hp t ht; simp at h hj; omega
    · rw [List.getElem?_append_right (by omega), ih]
      constructor
      · intro h
        exact .inr ⟨_, h, by omega⟩
      · intro h
        rcases h with h | ⟨t, ht, h⟩
        · omega
        · have : t = j - (l ++ [10]).length + 1 := by omega
          rw [← this]; exact ht

theorem starts_le : ∀ {rs : List (List Nat)}, ∀ s ∈ startsOf rs, s ≤ rs.flatten.length
  | [], s, h => by cases h
  | r :: rs, s, h => by
    simp only [startsOf, List.mem_cons, List.mem_map] at h
    simp only [List.flatten_cons, List.length_append]
    rcases h with rfl | ⟨t, ht, rfl⟩
    · omega
    · have := starts_le t ht; omega

theorem drop_start : ∀ {rs : List (List Nat)}, (∀ r ∈ rs, Line r) → ∀ s ∈ startsOf rs, rs.flatten.drop s = (rs.drop ((startsOf rs).idxOf s + 1)).flatten
  | [], _, s, h => by cases h
  | r :: rs, hl, s, h => by
    have hp := starts_pos (rs := rs) (fun r hr => hl r (.tail _ hr))
    simp only [startsOf, List.mem_cons, List.mem_map] at h
    by_cases hs : s = r.length
    · subst hs
      simp [startsOf, List.idxOf_cons_self]
    · rcases h with h | ⟨t, ht, rfl⟩
      · exact absurd h hs
      · have ih := drop_start (rs := rs) (fun r hr => hl r (.tail _ hr)) t ht
        have hidx : (startsOf (r :: rs)).idxOf (t + r.length) = (startsOf rs).idxOf t + 1 := by
          simp only [startsOf]
          rw [List.idxOf_cons, show (r.length == t + r.length) = false from beq_eq_false_iff_ne.mpr fun q => hs q.symm]
          show _ + 1 = _
          congr 1
          have gen : ∀ (l : List Nat), (l.map (· + r.length)).idxOf (t + r.length) = l.idxOf t := by
            intro l
            induction l with
            | nil => rfl
            | cons x xs ih' =>
              simp only [List.map_cons, List.idxOf_cons]
              rw [ih']
              by_cases hx : x = t
              · subst hx; simp
              · have : (x == t) = false := by simpa using hx
                have h2 : (x + r.length == t + r.length) = false := by simpa using hx
                rw [this, h2]
          exact gen _
        rw [hidx]
        simp only [List.flatten_cons, List.drop_succ_cons]
        rw [← ih, List.drop_append]
        have : r.drop (t + r.length) = [] := List.drop_of_length_le (by omega)
        rw [this]; simp
end Mine.L05
end
section
set_option Elab.async false
set_option linter.all false
set_option maxRecDepth 100000
set_option maxHeartbeats 4000000
namespace Mine.L05
open PySem PySem.W PyProof.Rows Mine

/-- an instance with its fields -/
noncomputable def Has (H : Hp) (k d : Nat) (fs : List (Str × V)) : Prop := H.obj k = some (.inst 152 d) ∧ H.obj d = some (.dict fs) ∧ k ≠ d

theorem instOf_has {p : Params} {H : Hp} {k d : Nat} {fs : List (Str × V)} (h : Has H k d fs) : instOf (G5 p) (.ref k) H = some (k, d, fs) := by
  unfold instOf
  simp only [h.1, h.2.1]
  exact if_pos rfl

theorem set_has {p : Params} {H : Hp} {k d : Nat} {fs : List (Str × V)} (h : Has H k d fs) {f : Str} {v : V} (hf : (G5 p).flds.contains f = true) (hl : fs.length ≤ 100) :
    ∃ H', setV (G5 p) (.ref k) f v H = some H' ∧ Has H' k d (setF f v fs) ∧ H'.nxt = H.nxt ∧ ∀ j, j ≠ d → H'.obj j = H.obj j := by
  refine ⟨{ H with obj := fun j => if j = d then some (.dict (setF f v fs)) else H.obj j }, ?_, ?_⟩
  · unfold setV
    rw [instOf_has h]
    exact if_pos ⟨hf, hl⟩
  · refine ⟨⟨?_, ?_, h.2.2⟩, rfl, fun j hj => if_neg hj⟩
    · show (if k = d then _ else H.obj k) = _
      rw [if_neg h.2.2]; exact h.1
    · show (if d = d then _ else _) = _
      rw [if_pos rfl]

theorem fld_has {p : Params} {cm : Bool} {H : Hp} {k d : Nat} {fs : List (Str × V)} (h : Has H k d fs) {f : Str} {v : V} (hf : (G5 p).flds.contains f = true) (hv : fs.lookup f = some v) (hh : handedV v = true) :
    fldV (G5 p) cm (.ref k) f H = .ok v := by
  unfold fldV
  rw [instOf_has h]
  simp only [hf, hv, hh, if_true]
end Mine.L05
end
section
set_option Elab.async false
set_option linter.all false
set_option maxRecDepth 100000
set_option maxHeartbeats 4000000
namespace Mine.L05
open PySem PySem.W PyProof.Rows Mine

theorem ev_var {cx : Cx} {x : Str} {σ : St} {v : V} (h : σ.loc.lookup x = some v) : ev cx (.var x) σ = .ok v σ := by
  show (match σ.loc.lookup x with | some v => Rs.ok v σ | none => .bad) = _
  rw [h]
theorem ev_cmp {cx : Cx} {op : CmpOp} {a b : X} {σ σ₁ σ₂ : St} {u v r : V} (h1 : ev cx a σ = .ok u σ₁) (h2 : ev cx b σ₁ = .ok v σ₂) (h3 : cmpV σ₂.toHp op u v = .ok r) : ev cx (.cmp op a b) σ = .ok r σ₂ := by
  show (ev cx a σ).bind _ = _
  rw [h1]
  show (ev cx b σ₁).bind _ = _
  rw [h2]
  show (cmpV σ₂.toHp op u v).st σ₂ = _
  rw [h3]; rfl
theorem ev_bin {cx : Cx} {op : Operator} {a b : X} {σ σ₁ σ₂ : St} {u v r : V} (h1 : ev cx a σ = .ok u σ₁) (h2 : ev cx b σ₁ = .ok v σ₂) (h3 : binV σ₂.toHp op u v = .ok r) : ev cx (.bin op a b) σ = .ok r σ₂ := by
  show (ev cx a σ).bind _ = _
  rw [h1]
  show (ev cx b σ₁).bind _ = _
  rw [h2]
  show (binV σ₂.toHp op u v).st σ₂ = _
  rw [h3]; rfl
theorem ev_int {cx : Cx} {i : Int} {σ : St} : ev cx (.int i) σ = .ok (.int i) σ := rfl
theorem ev_str {cx : Cx} {x : Str} {σ : St} : ev cx (.str x) σ = .ok (.str x) σ := rfl
theorem ev_idx {cx : Cx} {a b : X} {σ σ₁ σ₂ : St} {u v r : V} (h1 : ev cx a σ = .ok u σ₁) (h2 : ev cx b σ₁ = .ok v σ₂) (h3 : idxV σ₂.toHp u v = .ok r) : ev cx (.idx a b) σ = .ok r σ₂ := by
  show (ev cx a σ).bind _ = _
  rw [h1]
  show (ev cx b σ₁).bind _ = _
  rw [h2]
  show ((idxV σ₂.toHp u v).calm cx.calm).st σ₂ = _
  rw [h3]; rfl
theorem ev_attr {cx : Cx} {o : X} {f : Str} {σ σ₁ : St} {u r : V} (h1 : ev cx o σ = .ok u σ₁) (h3 : cx.fld u f σ₁.toHp = .ok r) : ev cx (.attr o f) σ = .ok r σ₁ := by
  show (ev cx o σ).bind _ = _
  rw [h1]
  show (cx.fld u f σ₁.toHp).st σ₁ = _
  rw [h3]; rfl
end Mine.L05
end
section
set_option Elab.async false
set_option linter.all false
set_option maxRecDepth 100000
set_option maxHeartbeats 4000000
namespace Mine.L05
open PySem PySem.W PyProof.Rows Mine

/-! ## set_lo, plainly -/
section
variable {cx hx : Sx} {σ : St} {k : Nat} {T : Str} {lo : Int}

theorem setlo_zero (h2 : σ.loc.lookup ("lo" : Str) = some (.int 0)) : ex setlo_S cx hx σ = .ok .next σ := by
  simp [setlo_S, ex, ev, h2, Rs.bind, cEqI, cNeI, cLtI, cLeI, cGtI, cGeI, cEqS, cNeS, cIsNN, cIsNI, condR, truV, condS, goOn, Ov.st]
theorem setlo_missing (h1 : σ.loc.lookup ("self" : Str) = some (.ref k)) (h2 : σ.loc.lookup ("lo" : Str) = some (.int lo)) (h0 : lo ≠ 0) (hf : cx.fld (.ref k) "code" σ.toHp = .err "AttributeError") : ex setlo_S cx hx σ = .err "AttributeError" σ := by
  have hz : (lo == 0) = false := by simpa using h0
  simp [setlo_S, ex, ev, h1, h2, Rs.bind, cEqI, cNeI, cLtI, cLeI, cGtI, cGeI, cEqS, cNeS, cIsNN, cIsNI, condR, truV, condS, goOn, Ov.st, hz, hf]
theorem setlo_beyond (h1 : σ.loc.lookup ("self" : Str) = some (.ref k)) (h2 : σ.loc.lookup ("lo" : Str) = some (.int lo)) (h0 : lo ≠ 0) (hf : cx.fld (.ref k) "code" σ.toHp = .ok (.str T)) (hc : cx.calm = false)
    (hi : idxV σ.toHp (.str T) (.int (lo - 1)) = .err "IndexError") : ex setlo_S cx hx σ = .err "IndexError" σ := by
  have hz : (lo == 0) = false := by simpa using h0
  simp [setlo_S, ex, ev, h1, h2, Rs.bind, cEqI, cNeI, cLtI, cLeI, cGtI, cGeI, cEqS, cNeS, cIsNN, cIsNI, condR, truV, condS, goOn, Ov.st, hz, hf, bAddI, bSubI, hi, hc, Ov.calm]
theorem setlo_refused {ch : Str} (h1 : σ.loc.lookup ("self" : Str) = some (.ref k)) (h2 : σ.loc.lookup ("lo" : Str) = some (.int lo)) (h0 : lo ≠ 0) (hf : cx.fld (.ref k) "code" σ.toHp = .ok (.str T)) (hc : cx.calm = false)
    (hi : idxV σ.toHp (.str T) (.int (lo - 1)) = .ok (.str ch)) (hch : (ch.cps.toList == ("\n" : Str).cps.toList) = false) : ex setlo_S cx hx σ = .err "AssertionError" σ := by
  have hz : (lo == 0) = false := by simpa using h0
  simp only [setlo_S, ex, ev, h1, h2, Rs.bind, cEqI, cNeI, cLtI, cLeI, cGtI, cGeI, cEqS, cNeS, cIsNN, cIsNI, condR, truV, condS, goOn, Ov.st, hz, hf, bAddI, bSubI, hi, hc, Ov.calm, hch]
  rfl
theorem setlo_neg {ch : Str} (h1 : σ.loc.lookup ("self" : Str) = some (.ref k)) (h2 : σ.loc.lookup ("lo" : Str) = some (.int lo)) (h0 : lo < 0) (hf : cx.fld (.ref k) "code" σ.toHp = .ok (.str T)) (hc : cx.calm = false)
    (hi : idxV σ.toHp (.str T) (.int (lo - 1)) = .ok (.str ch)) (hch : (ch.cps.toList == ("\n" : Str).cps.toList) = true) : ex setlo_S cx hx σ = .ok .next σ := by
  have hz : (lo == 0) = false := by simpa using (show lo ≠ 0 by omega)
  have hg : decide (lo > 0) = false := by simp; omega
  simp only [setlo_S, ex, ev, h1, h2, Rs.bind, cEqI, cNeI, cLtI, cLeI, cGtI, cGeI, cEqS, cNeS, cIsNN, cIsNI, condR, truV, condS, goOn, Ov.st, hz, hf, bAddI, bSubI, hi, hc, Ov.calm, hch, hg]
theorem setlo_pos {ch : Str} {H : Hp} (h1 : σ.loc.lookup ("self" : Str) = some (.ref k)) (h2 : σ.loc.lookup ("lo" : Str) = some (.int lo)) (h0 : 0 < lo) (hf : cx.fld (.ref k) "code" σ.toHp = .ok (.str T)) (hc : cx.calm = false)
    (hi : idxV σ.toHp (.str T) (.int (lo - 1)) = .ok (.str ch)) (hch : (ch.cps.toList == ("\n" : Str).cps.toList) = true)
    (hs : cx.setA (.ref k) "code" (.str ⟨(cut T.cps.toList (some lo) none).toArray⟩) σ.toHp = some H) : ex setlo_S cx hx σ = .ok .next { σ with toHp := H } := by
  have hz : (lo == 0) = false := by simpa using (show lo ≠ 0 by omega)
  have hg : decide (lo > 0) = true := by simp; omega
  simp only [setlo_S, ex, ev, h1, h2, Rs.bind, cEqI, cNeI, cLtI, cLeI, cGtI, cGeI, cEqS, cNeS, cIsNN, cIsNI, condR, truV, condS, goOn, Ov.st, hz, hf, bAddI, bSubI, hi, hc, Ov.calm, hch, hg, slcV, asPart, hs, Option.map_some, optS]
end
end Mine.L05
end
section
set_option Elab.async false
set_option linter.all false
set_option maxRecDepth 100000
set_option maxHeartbeats 4000000
namespace Mine.L05
open PySem PySem.W PyProof.Rows Mine

section
variable {cx hx : Sx} {σ : St} {k : Nat} {T : Str} {lo : Int}

/-- set_code, on a text that is empty or ends with a newline -/
theorem setcode_ok {H H' : Hp} (h1 : σ.loc.lookup ("self" : Str) = some (.ref k)) (h2 : σ.loc.lookup ("s" : Str) = some (.str T)) (hg : cx.gl "len" = some (.top (.builtin "len"))) (ha : cx.app (.top (.builtin "len")) [.str T] σ.toHp = okH (.int T.length) σ.toHp)
    (hT : T.length = 0 ∨ idxV σ.toHp (.str T) (.int (-1)) = .ok (.str "\n"))
    (hs : cx.setA (.ref k) "code" (.str T) σ.toHp = some H) (hs' : cx.setA (.ref k) "study_level" (.int 0) H = some H') : ex setcode_S cx hx σ = .ok .next { σ with toHp := H' } := by
  by_cases h0 : T.length = 0
  · have hz : ((T.length : Int) == 0) = true := by rw [h0]; rfl
    simp only [setcode_S, ex, ev, h1, h2, hg, Rs.bind, argR, ha, okH, Rs.lift, cEqI, cNeI, cLtI, cLeI, cGtI, cGeI, cEqS, cNeS, cIsNN, cIsNI, hz, condR, truV, condS, goOn, Ov.st, hs, hs', Option.map_some, optS]
  · have hz : ((T.length : Int) == 0) = false := by simpa using h0
    have hi := hT.resolve_left h0
    have hch : (("\n" : Str).cps.toList == ("\n" : Str).cps.toList) = true := by simp
    simp only [setcode_S, ex, ev, h1, h2, hg, Rs.bind, argR, ha, okH, Rs.lift, cEqI, cNeI, cLtI, cLeI, cGtI, cGeI, cEqS, cNeS, cIsNN, cIsNI, hz, condR, truV, condS, goOn, Ov.st, negV, hi, Ov.calm, hch, hs, hs', Option.map_some, optS]
end
end Mine.L05
end
section
set_option Elab.async false
set_option linter.all false
set_option maxRecDepth 100000
set_option maxHeartbeats 4000000
namespace Mine.L05
open PySem PySem.W PyProof.Rows Mine

section
variable {p : Params} {cx hx : Sx} {σ : St} {k d : Nat} {T : Str} {lo : Int} {H : Hp}

theorem tower_setA (n : Nat) (cm : Bool) : (tower (G5 p) rows5 58 n cm).setA = setV (G5 p) := by
  match n with
  | 0 => unfold tower; rfl
  | 1 => unfold tower; rfl
  | n + 2 => unfold tower; rfl
theorem tower_fld (n : Nat) (cm : Bool) : (tower (G5 p) rows5 58 n cm).fld = fldV (G5 p) cm := by
  match n with
  | 0 => unfold tower; rfl
  | 1 => unfold tower; rfl
  | n + 2 => unfold tower; rfl
theorem tower_get (n : Nat) (cm : Bool) : (tower (G5 p) rows5 58 n cm).get = getV (G5 p) := by
  match n with
  | 0 => unfold tower; rfl
  | 1 => unfold tower; rfl
  | n + 2 => unfold tower; rfl
theorem tower_gl (n : Nat) (cm : Bool) : (tower (G5 p) rows5 58 n cm).gl = gl5 := by
  match n with
  | 0 => unfold tower; rfl
  | 1 => unfold tower; rfl
  | n + 2 => unfold tower; rfl
theorem tower_sub (n : Nat) (cm : Bool) : (tower (G5 p) rows5 58 n cm).sub = sub5 := by
  match n with
  | 0 => unfold tower; rfl
  | 1 => unfold tower; rfl
  | n + 2 => unfold tower; rfl
theorem tower_calm (n : Nat) (cm : Bool) : (tower (G5 p) rows5 58 n cm).calm = cm := (tower_lvl n cm).2
theorem tower_b (n : Nat) (cm : Bool) (i : String) (args : List V) (H : Hp) : (tower (G5 p) rows5 58 n cm).app (.top (.builtin i)) args H = bapp i args H := by
  match n with
  | 0 => unfold tower; rfl
  | 1 => unfold tower; rfl
  | n + 2 => unfold tower; rfl
theorem tower_t (n : Nat) (cm : Bool) (i : String) (args : List V) (H : Hp) : (tower (G5 p) rows5 58 n cm).app (.top (.type i)) args H = tapp cm i args H := by
  match n with
  | 0 => unfold tower; rfl
  | 1 => unfold tower; rfl
  | n + 2 => unfold tower; rfl
theorem tower_r (n : Nat) (cm : Bool) (a : Addr) (ha : a ≠ 152) (args : List V) (H : Hp) : (tower (G5 p) rows5 58 (n + 2) cm).app (.top (.ref a)) args H = rowRun rows5 (tower (G5 p) rows5 58 (n + 1) cm) (tower (G5 p) rows5 58 (n + 1) true) a args H := by
  rw [tower]
  exact if_neg ha
theorem tower_C (n : Nat) (cm : Bool) (args : List V) (H : Hp) : (tower (G5 p) rows5 58 (n + 2) cm).app (.top (.ref 152)) args H = makeV 152 (rowRun rows5 (tower (G5 p) rows5 58 n cm) (tower (G5 p) rows5 58 n true) 58) args H := by
  rw [tower]
  rfl
end
end Mine.L05
end
section
set_option Elab.async false
set_option linter.all false
set_option maxRecDepth 100000
set_option maxHeartbeats 4000000
namespace Mine.L05
open PySem PySem.W PyProof.Rows Mine

section
variable {p : Params} {k d : Nat} {T : Str} {lo : Int} {H : Hp}

theorem entry2 (a b : Str) (hab : a ≠ b) (u v : V) (H : Hp) : entry (scF [a, b]) ([a, b].zip [u, v]) H = { toHp := H, loc := [(a, u), (b, v)], cel := [] } := by
  have h1 : (b == a) = false := by simpa using fun h : b = a => hab h.symm
  simp [entry, scF, cellsH, List.lookup, h1]
theorem entry3 (H : Hp) (u v w : V) : entry (scF ["self", "indentwidth", "tabwidth"]) ((["self", "indentwidth", "tabwidth"] : List Str).zip [u, v, w]) H = { toHp := H, loc := [("self", u), ("indentwidth", v), ("tabwidth", w)], cel := [] } := by
  have h1 : (("indentwidth" : Str) == ("self" : Str)) = false := by decide
  have h2 : (("tabwidth" : Str) == ("self" : Str)) = false := by decide
  have h3 : (("tabwidth" : Str) == ("indentwidth" : Str)) = false := by decide
  simp [entry, scF, cellsH, List.lookup, h1, h2, h3]

theorem runFn_eq {sc : Scope} {ps : List Str} {b : S} {cx hx : Sx} {args : List V} {H : Hp} (h : args.length = ps.length) : runFn sc ps b cx hx args H = (ex b cx hx (entry sc (ps.zip args) H)).bind retR := if_pos h

/-- a new parser -/
theorem make5 (cm : Bool) (σ : St) : ∃ H', ((tower (G5 p) rows5 58 4 cm).app (.top (.ref 152)) [.int 4, .int 8] σ.toHp).lift σ = .ok (.ref (σ.nxt + 1)) { σ with toHp := H' } ∧
    Has H' (σ.nxt + 1) σ.nxt [("indentwidth", .int 4), ("tabwidth", .int 8)] ∧ H'.nxt = σ.nxt + 2 ∧ ∀ j, j < σ.nxt → H'.obj j = σ.obj j := by
  rw [tower_C 2 cm]
  let H1 := (σ.toHp.add (.dict [])).add (.inst 152 σ.nxt)
  have hh : Has H1 (σ.nxt + 1) σ.nxt [] := by
    refine ⟨?_, ?_, by omega⟩
    · show (if σ.nxt + 1 = σ.nxt + 1 then _ else _) = _
      rw [if_pos rfl]
    · show (if σ.nxt = σ.nxt + 1 then _ else if σ.nxt = σ.nxt then _ else _) = _
      rw [if_neg (by omega), if_pos rfl]
  obtain ⟨H2, e2, h2, n2, o2⟩ := set_has (p := p) (f := "indentwidth") (v := .int 4) hh (by rfl) (by decide)
  obtain ⟨H3, e3, h3, n3, o3⟩ := set_has (p := p) (f := "tabwidth") (v := .int 8) h2 (by rfl) (by decide)
  have hrow : rows5.lookup 58 = some (scF ["self", "indentwidth", "tabwidth"], (["self", "indentwidth", "tabwidth"] : List Str), init_S) := by rfl
  have l1 : (("indentwidth" : Str) == ("self" : Str)) = false := by decide
  have l2 : (("tabwidth" : Str) == ("self" : Str)) = false := by decide
  have l3 : (("tabwidth" : Str) == ("indentwidth" : Str)) = false := by decide
  refine ⟨H3, ?_, h3, by rw [n3, n2]; rfl, fun j hj => ?_⟩
  · unfold makeV rowRun
    rw [hrow]
    dsimp only
    rw [runFn_eq rfl, entry3]
    have e2' : setV (G5 p) (.ref (σ.toHp.nxt + 1)) "indentwidth" (.int 4) ((σ.toHp.add (.dict [])).add (.inst 152 σ.toHp.nxt)) = some H2 := e2
    simp only [init_S, ex, ev, List.lookup, beq_self_eq_true, l1, l2, l3, Rs.bind, tower_setA, e2', e3, Option.map_some, optS, goOn, retR, Rs.lift]
  · rw [o3 j (by omega), o2 j (by omega)]
    show (if j = σ.nxt + 1 then _ else if j = σ.nxt then _ else _) = _
    rw [if_neg (by omega), if_neg (by omega)]

/-- set_lo, called -/
theorem callLo (n : Nat) (cm : Bool) (σ : St) (lo : Int) : ((tower (G5 p) rows5 58 (n + 2) cm).app (.top (.ref 79)) [.ref k, .int lo] σ.toHp).lift σ = ((ex setlo_S (tower (G5 p) rows5 58 (n + 1) cm) (tower (G5 p) rows5 58 (n + 1) true) { toHp := σ.toHp, loc := [("self", .ref k), ("lo", .int lo)], cel := [] }).bind retR).lift σ := by
  have hrow : rows5.lookup 79 = some (scF ["self", "lo"], (["self", "lo"] : List Str), setlo_S) := by rfl
  rw [tower_r n cm 79 (by decide)]
  unfold rowRun
  rw [hrow]
  dsimp only
  rw [runFn_eq rfl, entry2 _ _ (by decide)]
theorem callCode (n : Nat) (cm : Bool) (σ : St) (T : Str) : ((tower (G5 p) rows5 58 (n + 2) cm).app (.top (.ref 65)) [.ref k, .str T] σ.toHp).lift σ = ((ex setcode_S (tower (G5 p) rows5 58 (n + 1) cm) (tower (G5 p) rows5 58 (n + 1) true) { toHp := σ.toHp, loc := [("self", .ref k), ("s", .str T)], cel := [] }).bind retR).lift σ := by
  have hrow : rows5.lookup 65 = some (scS, (["self", "s"] : List Str), setcode_S) := by rfl
  rw [tower_r n cm 65 (by decide)]
  unfold rowRun
  rw [hrow]
  dsimp only
  rw [runFn_eq rfl]
  have l1 : (("s" : Str) == ("self" : Str)) = false := by decide
  have : entry scS ((["self", "s"] : List Str).zip [.ref k, .str T]) σ.toHp = { toHp := σ.toHp, loc := [("self", .ref k), ("s", .str T)], cel := [] } := by
    simp [entry, scS, cellsH, List.lookup, l1]
  rw [this]
end
end Mine.L05
end
section
set_option Elab.async false
set_option linter.all false
set_option maxRecDepth 100000
set_option maxHeartbeats 4000000
namespace Mine.L05
open PySem PySem.W PyProof.Rows Mine

noncomputable def linesOf (ns : List Int) : List (List Nat) := (rowsOf ns).map (·.cps.toList)
noncomputable def textOf (ns : List Int) : Str := Txt.join ⟨#[]⟩ (rowsOf ns)
noncomputable def stsOf (ns : List Int) : List Nat := startsOf (linesOf ns)
theorem text_list (ns : List Int) : (textOf ns).cps.toList = (linesOf ns).flatten := join_empty _
theorem text_len (ns : List Int) : (textOf ns).length = (linesOf ns).flatten.length := by
  rw [← text_list]; simp [Str.length]

theorem pick_mem (i : Nat) (d : Str) (l : List Str) (hd : d ∈ l) : l.getD i d ∈ l := by
  by_cases h : i < l.length
  · rw [List.getD_eq_getElem?_getD, List.getElem?_eq_getElem h]; exact List.getElem_mem h
  · rw [List.getD_eq_getElem?_getD, List.getElem?_eq_none (by omega)]; exact hd

theorem isRows (ns : List Int) : ∀ r ∈ rowsOf ns, IsRow r := by
  intro r hr
  unfold rowsOf at hr
  rw [List.mem_filter] at hr
  obtain ⟨h1, h2⟩ := hr
  have hne : r ≠ ⟨#[]⟩ := by simpa using h2
  refine isRow_of ?_ hne
  rw [List.mem_append] at h1
  rcases h1 with h1 | h1
  · obtain ⟨x, _, rfl⟩ := List.mem_map.mp h1
    have : pick5 x ∈ (["\n", "a\n", "de\n", "\tx:\n", ""] : List Str) := pick_mem _ _ _ (by simp)
    simp only [List.mem_cons, List.not_mem_nil, or_false] at this ⊢
    rcases this with h | h | h | h | h <;> simp [h]
  · rw [List.mem_singleton] at h1
    subst h1
    have : pick4 ns.length ∈ (["ab\n", "\n", "c\n", ""] : List Str) := pick_mem _ _ _ (by simp)
    simp only [List.mem_cons, List.not_mem_nil, or_false] at this ⊢
    rcases this with h | h | h | h <;> simp [h]
theorem areLines (ns : List Int) : ∀ r ∈ linesOf ns, Line r := by
  intro r hr
  obtain ⟨x, hx, rfl⟩ := List.mem_map.mp hr
  obtain ⟨l, h1, h2, _⟩ := isRows ns x hx
  exact ⟨l, h1, h2⟩
theorem rows_le (ns : List Int) : (rowsOf ns).length ≤ 9 := by
  unfold rowsOf
  refine Nat.le_trans (List.length_filter_le _ _) ?_
  simp; omega
theorem flat_le : ∀ (l : List Str), (∀ r ∈ l, IsRow r) → (l.map (·.cps.toList)).flatten.length ≤ 4 * l.length
  | [], _ => by simp
  | r :: l, h => by
    have ih := flat_le l fun x hx => h x (.tail _ hx)
    obtain ⟨y, h1, _, h3, _⟩ := h r (.head _)
    simp only [List.map_cons, List.flatten_cons, List.length_append, List.length_cons, h1, List.length_nil]
    omega
theorem size_le (ns : List Int) : (textOf ns).length ≤ 36 := by
  rw [text_len]
  have := flat_le _ (isRows ns)
  have := rows_le ns
  unfold linesOf
  omega

/-! ## what is due -/
inductive Due (ns : List Int) (lo : Int) : Str → Str → Prop
  | cut (n : Nat) : lo = n → n ∈ stsOf ns → Due ns lo "taken" ⟨((linesOf ns).flatten.drop n).toArray⟩
  | all : lo ∉ (stsOf ns).map Int.ofNat → (lo = 0 ∨ (lo < 0 ∧ (textOf ns).length + lo ∈ (stsOf ns).map Int.ofNat)) → Due ns lo "taken" (textOf ns)
  | ref : lo ∉ (stsOf ns).map Int.ofNat → ¬ (lo = 0 ∨ (lo < 0 ∧ (textOf ns).length + lo ∈ (stsOf ns).map Int.ofNat)) → 1 - ((textOf ns).length : Int) ≤ lo → lo ≤ (textOf ns).length → Due ns lo "refused" (textOf ns)
  | bey : lo ∉ (stsOf ns).map Int.ofNat → ¬ (lo = 0 ∨ (lo < 0 ∧ (textOf ns).length + lo ∈ (stsOf ns).map Int.ofNat)) → ¬ (1 - ((textOf ns).length : Int) ≤ lo ∧ lo ≤ (textOf ns).length) → Due ns lo "beyond" (textOf ns)

theorem mem_sts {ns : List Int} {n : Nat} : (n : Int) ∈ (stsOf ns).map Int.ofNat ↔ n ∈ stsOf ns := by
  rw [List.mem_map]
  constructor
  · rintro ⟨m, h1, h2⟩; have : m = n := Int.ofNat.inj h2; subst this; exact h1
  · intro h; exact ⟨n, h, rfl⟩

theorem idx_in {H : Hp} {T : Str} {i : Int} {n : Nat} (hn : (n : Int) = if i < 0 then i + T.length else i) (hlt : n < T.length) (hT : T.length ≤ 1000) : ∃ c, T.cps.toList[n]? = some c ∧ idxV H (.str T) (.int i) = .ok (.str ⟨#[c]⟩) := by
  have hl : n < T.cps.toList.length := by simpa [Str.length] using hlt
  refine ⟨T.cps.toList[n], List.getElem?_eq_getElem hl, ?_⟩
  have hf : fitsIx i = true := by
    unfold fitsIx
    simp only [Bool.and_eq_true, decide_eq_true_eq]
    constructor <;> split at hn <;> omega
  have hs : seqIndex? i T.length = some n := by
    unfold seqIndex?
    simp only
    rw [← hn]
    simp; exact hlt
  unfold idxV
  simp only [hf, if_true, hs, Option.bind_some]
  have : T.cps[n]? = some T.cps.toList[n] := by
    rw [← Array.getElem?_toList, List.getElem?_eq_getElem hl]
  rw [this]
theorem idx_out {H : Hp} {T : Str} {i : Int} (h : ¬ (0 ≤ (if i < 0 then i + (T.length : Int) else i) ∧ (if i < 0 then i + (T.length : Int) else i) < T.length)) : idxV H (.str T) (.int i) = .err "IndexError" := by
  have hs : seqIndex? i T.length = none := by
    unfold seqIndex?
    simp only
    rw [if_neg]
    simpa using h
  unfold idxV
  simp only [hs, Option.bind_none, ite_self]
theorem nl_iff {c : Nat} : ((⟨#[c]⟩ : Str).cps.toList == ("\n" : Str).cps.toList) = decide (c = 10) := by
  have : ("\n" : Str).cps.toList = [10] := by decide
  rw [this]
  by_cases h : c = 10
  · subst h; simp
  · simp [h]
end Mine.L05
end
section
set_option Elab.async false
set_option linter.all false
set_option maxRecDepth 100000
set_option maxHeartbeats 4000000
namespace Mine.L05
open PySem PySem.W PyProof.Rows Mine

theorem lookup_setF {x y : Str} {v : V} : ∀ {l : List (Str × V)}, (setF x v l).lookup y = if y = x then some v else l.lookup y
  | [] => by
    unfold setF
    by_cases h : y = x
    · subst h; simp [List.lookup]
    · have : (y == x) = false := by simpa using h
      simp [List.lookup, this, h]
  | (z, u) :: r => by
    unfold setF
    by_cases hx : x = z
    · subst hx
      simp only [beq_self_eq_true, if_true, List.lookup]
      by_cases h : y = x
      · subst h; simp
      · have : (y == x) = false := by simpa using h
        simp [this, h]
    · have hx' : (x == z) = false := by simpa using hx
      simp only [hx', Bool.false_eq_true, if_false, List.lookup]
      by_cases h : y = z
      · subst h
        have : ¬ y = x := fun q => hx q.symm
        simp [this]
      · have : (y == z) = false := by simpa using h
        simp only [this]
        exact lookup_setF
theorem len_setF {x : Str} {v : V} : ∀ {l : List (Str × V)}, (setF x v l).length ≤ l.length + 1
  | [] => by simp [setF]
  | (z, u) :: r => by
    unfold setF
    split
    · simp
    · have := len_setF (x := x) (v := v) (l := r); simp; omega

noncomputable def fmLo (H : Hp) (k : Nat) (lo : Int) : St := ⟨H, [("self", .ref k), ("lo", .int lo)], []⟩
section
variable {p : Params} {k d : Nat} {lo : Int} {w E : Str} {ns : List Int} {fs : List (Str × V)}

/-- what a call of set_lo leaves -/
inductive After (σ : St) (k d : Nat) (fs : List (Str × V)) (E : Str) : Str → Rs V → Prop
  | ok (H' : Hp) (fs' : List (Str × V)) : Has H' k d fs' → fs'.lookup ("code" : Str) = some (.str E) → fs'.lookup ("study_level" : Str) = fs.lookup ("study_level" : Str) → H'.nxt = σ.nxt → (∀ j, j ≠ d → H'.obj j = σ.obj j) → After σ k d fs E "taken" (.ok .none { σ with toHp := H' })
  | ref : fs.lookup ("code" : Str) = some (.str E) → After σ k d fs E "refused" (.err "AssertionError" σ)
  | bey : fs.lookup ("code" : Str) = some (.str E) → After σ k d fs E "beyond" (.err "IndexError" σ)

theorem lo_due {σ : St} (D : Due ns lo w E) (h : Has σ.toHp k d fs) (hc : fs.lookup ("code" : Str) = some (.str (textOf ns))) (hl : fs.length ≤ 100) (n : Nat) :
    After σ k d fs E w (((tower (G5 p) rows5 58 (n + 2) false).app (.top (.ref 79)) [.ref k, .int lo] σ.toHp).lift σ) := by
  rw [callLo]
  show After σ k d fs E w (((ex setlo_S (tower (G5 p) rows5 58 (n + 1) false) (tower (G5 p) rows5 58 (n + 1) true) (fmLo σ.toHp k lo)).bind retR).lift σ)
  have l1 : (("lo" : Str) == ("self" : Str)) = false := by decide
  have q1 : List.lookup ("self" : Str) [(("self" : Str), V.ref k), ("lo", .int lo)] = some (.ref k) := by simp [List.lookup]
  have q2 : List.lookup ("lo" : Str) [(("self" : Str), V.ref k), ("lo", .int lo)] = some (.int lo) := by simp [List.lookup, l1]
  have hf : (tower (G5 p) rows5 58 (n + 1) false).fld (.ref k) "code" σ.toHp = .ok (.str (textOf ns)) := by
    rw [tower_fld]; exact fld_has h (by rfl) hc rfl
  have hcalm : (tower (G5 p) rows5 58 (n + 1) false).calm = false := tower_calm _ _
  have hsz := size_le ns
  have hnl := newline_iff (areLines ns)
  have hle := starts_le (rs := linesOf ns)
  have hpos := starts_pos (areLines ns)
  have htl := text_len ns
  cases D with
  | cut m e hm =>
    subst e
    have hm1 := hpos m hm
    have hm2 := hle m hm
    obtain ⟨c, hc1, hc2⟩ := idx_in (H := σ.toHp) (T := textOf ns) (i := (m : Int) - 1) (n := m - 1) (by rw [if_neg (by omega)]; omega) (by omega) (by omega)
    have h10 : c = 10 := by
      rw [text_list] at hc1
      have := (hnl (m - 1)).mpr (by rw [Nat.sub_add_cancel hm1]; exact hm)
      rw [hc1] at this; exact Option.some.inj this
    obtain ⟨H', s1, s2, s3, s4⟩ := set_has (p := p) (f := "code") (v := .str ⟨(cut (textOf ns).cps.toList (some (m : Int)) none).toArray⟩) h (by rfl) hl
    have hcut : cut (textOf ns).cps.toList (some (m : Int)) none = (linesOf ns).flatten.drop m := by
      rw [text_list]
      unfold cut
      have : clipAt (linesOf ns).flatten.length (m : Int) = m := by
        unfold clipAt
        rw [if_neg (by omega)]
        omega
      simp only [Option.elim_some, Option.elim_none, this]
      rw [List.take_of_length_le (by simp)]
    rw [setlo_pos (σ := fmLo σ.toHp k _) (k := k) (lo := m) (H := H') q1 q2 (by omega) hf hcalm hc2 (by rw [nl_iff, h10]; rfl) (by rw [tower_setA]; exact s1)]
    rw [hcut] at s2
    refine .ok H' _ s2 ?_ ?_ s3 s4
    · rw [lookup_setF, if_pos rfl]
    · rw [lookup_setF, if_neg (by decide)]
  | all h1 h2 =>
    rcases h2 with h2 | ⟨h2, h3⟩
    · subst h2
      rw [setlo_zero (σ := fmLo σ.toHp k _) q2]
      exact .ok σ.toHp fs h hc rfl rfl (fun _ _ => rfl)
    · obtain ⟨m, hm, e⟩ := List.mem_map.mp h3
      have e' : ((m : Nat) : Int) = (textOf ns).length + lo := e
      have hm1 := hpos m hm
      have hm2 := hle m hm
      obtain ⟨c, hc1, hc2⟩ := idx_in (H := σ.toHp) (T := textOf ns) (i := lo - 1) (n := m - 1) (by rw [if_pos (by omega)]; omega) (by omega) (by omega)
      have h10 : c = 10 := by
        rw [text_list] at hc1
        have := (hnl (m - 1)).mpr (by rw [Nat.sub_add_cancel hm1]; exact hm)
        rw [hc1] at this; exact Option.some.inj this
      rw [setlo_neg (σ := fmLo σ.toHp k _) (k := k) (lo := lo) q1 q2 h2 hf hcalm hc2 (by rw [nl_iff, h10]; rfl)]
      exact .ok σ.toHp fs h hc rfl rfl (fun _ _ => rfl)
  | ref h1 h2 h3 h4 =>
    have h0 : lo ≠ 0 := fun q => h2 (.inl q)
    by_cases hp : 0 < lo
    · obtain ⟨c, hc1, hc2⟩ := idx_in (H := σ.toHp) (T := textOf ns) (i := lo - 1) (n := lo.toNat - 1) (by rw [if_neg (by omega)]; omega) (by omega) (by omega)
      have h10 : c ≠ 10 := by
        rintro rfl
        rw [text_list] at hc1
        have := (hnl _).mp hc1
        refine h1 (?_ : lo ∈ _)
        have e : lo = ((lo.toNat - 1 + 1 : Nat) : Int) := by omega
        rw [e]; exact mem_sts.mpr this
      rw [setlo_refused (σ := fmLo σ.toHp k _) (k := k) (lo := lo) q1 q2 h0 hf hcalm hc2 (by rw [nl_iff]; simpa using h10)]
      exact .ref hc
    · obtain ⟨c, hc1, hc2⟩ := idx_in (H := σ.toHp) (T := textOf ns) (i := lo - 1) (n := ((textOf ns).length + lo).toNat - 1) (by rw [if_pos (by omega)]; omega) (by omega) (by omega)
      have h10 : c ≠ 10 := by
        rintro rfl
        rw [text_list] at hc1
        have := (hnl _).mp hc1
        refine h2 (.inr ⟨by omega, ?_⟩)
        have e : (textOf ns).length + lo = ((((textOf ns).length + lo).toNat - 1 + 1 : Nat) : Int) := by omega
        rw [e]; exact mem_sts.mpr this
      rw [setlo_refused (σ := fmLo σ.toHp k _) (k := k) (lo := lo) q1 q2 h0 hf hcalm hc2 (by rw [nl_iff]; simpa using h10)]
      exact .ref hc
  | bey h1 h2 h3 =>
    have h0 : lo ≠ 0 := fun q => h2 (.inl q)
    rw [setlo_beyond (σ := fmLo σ.toHp k _) (k := k) (lo := lo) (T := textOf ns) q1 q2 h0 hf hcalm (idx_out ?_)]
    · exact .bey hc
    · split <;> omega
end
end Mine.L05
end
section
set_option Elab.async false
set_option linter.all false
set_option maxRecDepth 100000
set_option maxHeartbeats 4000000
namespace Mine.L05
open PySem PySem.W PyProof.Rows Mine

theorem strsOf_map : ∀ (l : List Str), strsOf (l.map .str) = some l
  | [] => rfl
  | x :: r => by simp [strsOf, strsOf_map r]
theorem intsOf_map : ∀ (l : List Int), intsOf (l.map .int) = some l
  | [] => rfl
  | x :: r => by simp [intsOf, intsOf_map r]
theorem dats_int (H : Hp) (n : Nat) : ∀ (l : List Int), (l.map V.int).mapM (dat H n) = some (l.map PyData.int)
  | [] => rfl
  | x :: r => by
    have : dat H n (.int x) = some (.int x) := by cases n <;> rfl
    simp [List.mapM_cons, this, dats_int H n r]
theorem any_int (x : Int) : ∀ (l : List Int), ((l.map PyData.int).any fun y => PyData.eqv y (.int x)) = decide (x ∈ l)
  | [] => by simp
  | y :: r => by
    have ih := any_int x r
    rw [List.map_cons, List.any_cons, ih]
    have : PyData.eqv (.int y) (.int x) = decide (x = y) := by
      show (y == x) = _
      by_cases h : y = x
      · subst h; simp
      · have h' : ¬ x = y := fun q => h q.symm
        simp [h, h']
    rw [this]
    by_cases h : x = y <;> simp [h]

theorem in_sts {H : Hp} {j : Nat} {l : List Int} (h : H.obj j = some (.list (l.map .int))) (x : Int) : cmpV H .In (.int x) (.ref j) = .ok (.bool (decide (x ∈ l))) := by
  show boolO (inB H (.int x) (.ref j)) = _
  unfold inB
  have h1 : dat H 8 (.int x) = some (.int x) := rfl
  have h2 : asList H (.ref j) = some (l.map .int) := by unfold asList; simp only [h]
  simp only [h1, h2, Option.bind_some, dats_int, any_int, boolO]

theorem foldl_len (l : List Str) (n : Nat) : l.foldl (fun a (x : Str) => a + x.length + ("" : Str).length) n = n + (l.map (·.cps.toList)).flatten.length := by
  have h0 : ("" : Str).length = 0 := by decide
  induction l generalizing n with
  | nil => simp
  | cons x r ih =>
    rw [List.foldl_cons, ih, h0]
    simp only [List.map_cons, List.flatten_cons, List.length_append]
    have : x.cps.toList.length = x.length := by simp [Str.length]
    omega
theorem empty_eq : ("" : Str) = ⟨#[]⟩ := by decide
theorem strOk_iff (x : Str) : PyData.strOk x = true ↔ ∀ c ∈ x.cps.toList, c < 0x110000 := by
  unfold PyData.strOk
  rw [Array.all_eq_true_iff_forall_mem]
  simp
theorem join_rows {H : Hp} {l : List Str} (h : ∀ r ∈ l, IsRow r) (hl : l.length ≤ 9) {v : V} (hv : asList H v = some (l.map .str)) : bapp "str.join" [.str "", v] H = okH (.str (Txt.join ⟨#[]⟩ l)) H := by
  have e : bapp "str.join" [.str "", v] H = joinB (.str "") v H := by
    unfold bapp
    rw [if_neg (by decide), if_pos rfl]
  rw [e]
  unfold joinB
  rw [hv]
  simp only [Option.bind_some, strsOf_map]
  have h1 : JoinOk "" l = true := by
    unfold JoinOk
    rw [List.foldl_toArray, foldl_len]
    have := flat_le l h
    unfold Builtin.Str.tooLong
    simp only [Bool.not_eq_true', decide_eq_false_iff_not]
    rw [sizeLine_eq]
    omega
  have h2 : PyData.strOk (Txt.join "" l) = true := by
    rw [strOk_iff, empty_eq, join_empty]
    intro c hc
    obtain ⟨y, hy, hcy⟩ := List.mem_flatten.mp hc
    obtain ⟨r, hr, rfl⟩ := List.mem_map.mp hy
    obtain ⟨_, _, _, _, q⟩ := h r hr
    exact (strOk_iff r).mp q c hcy
  rw [if_pos ⟨h1, h2⟩, empty_eq]
end Mine.L05
end
section
set_option Elab.async false
set_option linter.all false
set_option maxRecDepth 100000
set_option maxHeartbeats 4000000
namespace Mine.L05
open PySem PySem.W PyProof.Rows Mine

structure Base (ns : List Int) (σ : St) : Prop where
  scr : σ.loc.lookup ("script" : Str) = some (.list (ns.map .int))
  txt : σ.loc.lookup ("text" : Str) = some (.str (textOf ns))
  siz : σ.loc.lookup ("size" : Str) = some (.int (textOf ns).length)
  sta : σ.loc.lookup ("starts" : Str) = some (.ref 3)
  cel : σ.cel.lookup ("rows" : Str) = some 0
  o0 : σ.obj 0 = some (.cell (some (.ref 2)))
  o2 : σ.obj 2 = some (.list ((rowsOf ns).map .str))
  o3 : σ.obj 3 = some (.list (((stsOf ns).map Int.ofNat).map .int))
  nxt : 4 ≤ σ.nxt

theorem look_set {σ : St} {x y : Str} {v : V} : (σ.set x v).loc.lookup y = if y = x then some v else σ.loc.lookup y := lookup_setL
theorem Base.set {ns : List Int} {σ : St} (B : Base ns σ) {x : Str} {v : V} (h1 : x ≠ "script") (h2 : x ≠ "text") (h3 : x ≠ "size") (h4 : x ≠ "starts") : Base ns (σ.set x v) :=
  ⟨by rw [look_set, if_neg h1.symm]; exact B.scr, by rw [look_set, if_neg h2.symm]; exact B.txt, by rw [look_set, if_neg h3.symm]; exact B.siz, by rw [look_set, if_neg h4.symm]; exact B.sta, B.cel, B.o0, B.o2, B.o3, B.nxt⟩
theorem Base.hp {ns : List Int} {σ : St} (B : Base ns σ) {H : Hp} (hn : σ.nxt ≤ H.nxt) (ho : ∀ j, j < 4 → H.obj j = σ.obj j) : Base ns { σ with toHp := H } :=
  ⟨B.scr, B.txt, B.siz, B.sta, B.cel, (ho 0 (by decide)).trans B.o0, (ho 2 (by decide)).trans B.o2, (ho 3 (by decide)).trans B.o3, Nat.le_trans B.nxt hn⟩

noncomputable def due_S : S := (.ite (.cmp .In (.var "lo") (.var "starts")) (.seq (.asg "due" (.list (.cons (.str "taken") (.cons (.meth (.str "") "join" (.cons (.slc (.cv "rows") (.bin .Add (.meth (.var "starts") "index" (.cons (.var "lo") .nil)) (.int 1)) .none) .nil)) .nil)))) .nil) (.seq (.ite (.or (.cmp .Eq (.var "lo") (.int 0)) (.and (.cmp .Lt (.var "lo") (.int 0)) (.cmp .In (.bin .Add (.var "size") (.var "lo")) (.var "starts")))) (.seq (.asg "due" (.list (.cons (.str "taken") (.cons (.var "text") .nil)))) .nil) (.seq (.ite (.cmp2 .LtE .LtE (.bin .Sub (.int 1) (.var "size")) (.var "lo") (.var "size")) (.seq (.asg "due" (.list (.cons (.str "refused") (.cons (.var "text") .nil)))) .nil) (.seq (.asg "due" (.list (.cons (.str "beyond") (.cons (.var "text") .nil)))) .nil)) .nil)) .nil))

section
variable {p : Params} {ns : List Int} {σ : St} {lo : Int} {hx : Sx}

theorem fits2 (r : Rs V) : fits (0 + 1 + 1) r = r := by unfold fits; rw [if_pos (by decide)]
theorem Rs.lift_okH {v : V} {σ : St} : (okH v σ.toHp).lift σ = .ok v σ := rfl

theorem idxOf_map (l : List Nat) (n : Nat) : (l.map Int.ofNat).idxOf (n : Int) = l.idxOf n := by
  induction l with
  | nil => rfl
  | cons x r ih =>
    simp only [List.map_cons, List.idxOf_cons]
    rw [ih]
    by_cases h : x = n
    · subst h; simp
    · have h1 : (x == n) = false := by simpa using h
      have h2 : (Int.ofNat x == (n : Int)) = false := by simpa using fun q : (x : Int) = n => h (by omega)
      rw [h1, h2]

theorem due_ok (B : Base ns σ) (hlo : σ.loc.lookup ("lo" : Str) = some (.int lo)) :
    ∃ w E, ex due_S (tower (G5 p) rows5 58 4 false) hx σ = .ok .next (σ.set "due" (.list [.str w, .str E])) ∧ Due ns lo w E := by
  have hin := in_sts B.o3
  have hal : asList σ.toHp (.ref 2) = some ((rowsOf ns).map .str) := by unfold asList; simp only [B.o2]
  by_cases h1 : lo ∈ (stsOf ns).map Int.ofNat
  · obtain ⟨n, hn, rfl⟩ := List.mem_map.mp h1
    refine ⟨_, _, ?_, .cut n rfl hn⟩
    have hidx : (tower (G5 p) rows5 58 4 false).app (.top (.builtin "list.index")) [.ref 3, .int (Int.ofNat n)] σ.toHp = okH (.int ((stsOf ns).idxOf n : Nat)) σ.toHp := by
      rw [tower_b]
      unfold bapp
      rw [if_neg (by decide), if_neg (by decide), if_neg (by decide), if_pos rfl]
      unfold indexB
      have : asList σ.toHp (.ref 3) = some (((stsOf ns).map Int.ofNat).map .int) := by unfold asList; simp only [B.o3]
      simp only [this, Option.bind_some, intsOf_map]
      have e := idxOf_map (stsOf ns) n
      rw [if_pos (List.idxOf_lt_length_of_mem h1)]
      show okH (.int (((stsOf ns).map Int.ofNat).idxOf (n : Int) : Nat)) _ = _
      rw [e]
    have g1 : (tower (G5 p) rows5 58 4 false).get (.ref 3) "index" σ.toHp = some (.top (.builtin "list.index"), [.ref 3]) := by
      rw [tower_get]; unfold getV instOf; simp only [B.o3]; rfl
    have g2 : (tower (G5 p) rows5 58 4 false).get (.str "") "join" σ.toHp = some (.top (.builtin "str.join"), [.str ""]) := by
      rw [tower_get]; rfl
    have hcut : cut ((rowsOf ns).map V.str) (some ((((stsOf ns).idxOf n : Nat) : Int) + 1)) none = ((rowsOf ns).drop ((stsOf ns).idxOf n + 1)).map .str := by
      unfold cut
      have : clipAt ((rowsOf ns).map V.str).length ((((stsOf ns).idxOf n : Nat) : Int) + 1) = min ((stsOf ns).idxOf n + 1) (rowsOf ns).length := by
        unfold clipAt
        rw [if_neg (by omega), List.length_map]
        omega
      simp only [Option.elim_some, Option.elim_none, this]
      rw [List.take_of_length_le (by simp), ← List.map_drop]
      congr 1
      by_cases hh : (stsOf ns).idxOf n + 1 ≤ (rowsOf ns).length
      · rw [Nat.min_eq_left hh]
      · rw [Nat.min_eq_right (by omega), List.drop_of_length_le (Nat.le_refl _), List.drop_of_length_le (by omega)]
    have hj : (tower (G5 p) rows5 58 4 false).app (.top (.builtin "str.join")) [.str "", .list (((rowsOf ns).drop ((stsOf ns).idxOf n + 1)).map .str)] σ.toHp = okH (.str ⟨((linesOf ns).flatten.drop n).toArray⟩) σ.toHp := by
      rw [tower_b, join_rows (l := (rowsOf ns).drop ((stsOf ns).idxOf n + 1)) (fun r hr => isRows ns r (List.mem_of_mem_drop hr)) (by have := rows_le ns; simp; omega) rfl]
      have : Txt.join ⟨#[]⟩ ((rowsOf ns).drop ((stsOf ns).idxOf n + 1)) = ⟨((linesOf ns).flatten.drop n).toArray⟩ := by
        apply Str.eq_of
        rw [join_empty]
        show _ = (linesOf ns).flatten.drop n
        rw [drop_start (areLines ns) n hn]
        unfold linesOf stsOf linesOf
        rw [List.map_drop]
      rw [this]
    simp only [due_S, ex, ev, hlo, B.sta, hin, h1, decide_true, Rs.bind, Ov.st, condS, truV, g1, g2, argR, hidx, Rs.lift, okH, bAddI, bSubI, B.cel, B.o0, slcV, asPart, asList, B.o2, hcut, List.cons_append, List.nil_append, hj, List.length_cons, List.length_nil, fits2, goOn]
  · have hA : ∀ b, (decide (lo = 0 ∨ (lo < 0 ∧ ((textOf ns).length : Int) + lo ∈ (stsOf ns).map Int.ofNat)) = b) → ev (tower (G5 p) rows5 58 4 false).toCx (.or (.cmp .Eq (.var "lo") (.int 0)) (.and (.cmp .Lt (.var "lo") (.int 0)) (.cmp .In (.bin .Add (.var "size") (.var "lo")) (.var "starts")))) σ = .ok (.bool b) σ := by
      intro b hb
      by_cases hz : lo = 0
      · subst hz
        have : b = true := by rw [← hb]; simp
        subst this
        simp only [ev, hlo, Rs.bind, cEqI, cNeI, cLtI, cLeI, cGtI, cGeI, cEqS, cNeS, cIsNN, cIsNI, Ov.st, condR, truV, beq_self_eq_true]
      · have hz' : (lo == 0) = false := by simpa using hz
        by_cases hn : lo < 0
        · have hd : decide (lo < 0) = true := by simpa using hn
          have : b = decide (((textOf ns).length : Int) + lo ∈ (stsOf ns).map Int.ofNat) := by rw [← hb]; simp [hz, hn]
          subst this
          have hin' := hin (((textOf ns).length : Int) + lo)
          simp only [ev, hlo, Rs.bind, B.siz, B.sta, bAddI, bSubI, Ov.st, condR, truV, hin', show cmpV σ.toHp .Eq (.int lo) (.int 0) = .ok (.bool false) by rw [cEqI, hz'], show cmpV σ.toHp .Lt (.int lo) (.int 0) = .ok (.bool true) by rw [cLtI, hd]]
        · have hd : decide (lo < 0) = false := by simpa using hn
          have : b = false := by rw [← hb]; simp [hz, hn]
          subst this
          simp only [ev, hlo, Rs.bind, B.siz, B.sta, bAddI, bSubI, Ov.st, condR, truV, show cmpV σ.toHp .Eq (.int lo) (.int 0) = .ok (.bool false) by rw [cEqI, hz'], show cmpV σ.toHp .Lt (.int lo) (.int 0) = .ok (.bool false) by rw [cLtI, hd]]
    by_cases h2 : lo = 0 ∨ (lo < 0 ∧ ((textOf ns).length : Int) + lo ∈ (stsOf ns).map Int.ofNat)
    · refine ⟨_, _, ?_, .all h1 h2⟩
      have hA' := hA true (by simpa using h2)
      simp only [due_S, ex]
      rw [show ev (tower (G5 p) rows5 58 4 false).toCx (.cmp .In (.var "lo") (.var "starts")) σ = .ok (.bool false) σ by simp only [ev, hlo, B.sta, hin, h1, decide_false, Rs.bind, Ov.st]]
      simp only [Rs.bind, condS, truV]
      rw [hA']
      simp only [Rs.bind, condS, truV, ev, B.txt, argR, goOn, List.length_cons, List.length_nil, fits2]
    · have hA' := hA false (by simpa using h2)
      have hC : ev (tower (G5 p) rows5 58 4 false).toCx (.cmp2 .LtE .LtE (.bin .Sub (.int 1) (.var "size")) (.var "lo") (.var "size")) σ = .ok (.bool (decide (1 - ((textOf ns).length : Int) ≤ lo ∧ lo ≤ (textOf ns).length))) σ := by
        by_cases hc : 1 - ((textOf ns).length : Int) ≤ lo
        · simp [ev, hlo, Rs.bind, B.siz, bAddI, bSubI, Ov.st, condR, truV, cEqI, cNeI, cLtI, cLeI, cGtI, cGeI, cEqS, cNeS, cIsNN, cIsNI, hc]
        · simp [ev, hlo, Rs.bind, B.siz, bAddI, bSubI, Ov.st, condR, truV, cEqI, cNeI, cLtI, cLeI, cGtI, cGeI, cEqS, cNeS, cIsNN, cIsNI, hc]
      by_cases h3 : 1 - ((textOf ns).length : Int) ≤ lo ∧ lo ≤ (textOf ns).length
      · refine ⟨_, _, ?_, .ref h1 h2 h3.1 h3.2⟩
        simp only [due_S, ex]
        rw [show ev (tower (G5 p) rows5 58 4 false).toCx (.cmp .In (.var "lo") (.var "starts")) σ = .ok (.bool false) σ by simp only [ev, hlo, B.sta, hin, h1, decide_false, Rs.bind, Ov.st]]
        simp only [Rs.bind, condS, truV]
        rw [hA']
        simp only [Rs.bind, condS, truV]
        rw [hC]
        simp only [h3, and_self, decide_true, Rs.bind, condS, truV, ev, B.txt, argR, goOn, List.length_cons, List.length_nil, fits2]
      · refine ⟨_, _, ?_, .bey h1 h2 h3⟩
        simp only [due_S, ex]
        rw [show ev (tower (G5 p) rows5 58 4 false).toCx (.cmp .In (.var "lo") (.var "starts")) σ = .ok (.bool false) σ by simp only [ev, hlo, B.sta, hin, h1, decide_false, Rs.bind, Ov.st]]
        simp only [Rs.bind, condS, truV]
        rw [hA']
        simp only [Rs.bind, condS, truV]
        rw [hC]
        simp only [h3, decide_false, Rs.bind, condS, truV, ev, B.txt, argR, goOn, List.length_cons, List.length_nil, fits2]
end
end Mine.L05
end
section
set_option Elab.async false
set_option linter.all false
set_option linter.unusedSimpArgs false
set_option maxRecDepth 100000
set_option maxHeartbeats 4000000
namespace Mine.L05
open PySem PySem.W PyProof.Rows Mine

noncomputable def try_S : S := (.try2 (.seq (.asg "met" (.ite (.cmp .Is (.meth (.var "parser") "set_lo" (.cons (.var "lo") .nil)) .none) (.str "taken") (.str "odd"))) .nil) "AssertionError" (.seq (.asg "met" (.str "refused")) .nil) "IndexError" (.seq (.asg "met" (.str "beyond")) .nil))
noncomputable def cmp_S : S := (.ite (.cmp .NotEq (.list (.cons (.var "met") (.cons (.attr (.var "parser") "code") (.cons (.attr (.var "parser") "study_level") .nil)))) (.bin .Add (.var "due") (.list (.cons (.bin .Mod (.var "lo") (.int 3)) .nil)))) (.seq (.ret (.bool false)) .nil) .nil)
noncomputable def turn_S : S := (.seq due_S (.seq (.asg "parser" (.call (.glob "Parser") (.cons (.int 4) (.cons (.int 8) .nil)))) (.seq (.expr (.meth (.var "parser") "set_code" (.cons (.var "text") .nil))) (.seq (.setA (.var "parser") "study_level" (.bin .Mod (.var "lo") (.int 3))) (.seq try_S (.seq cmp_S .nil))))))

section
variable {p : Params} {ns : List Int} {σ : St} {lo : Int} {w E : Str} {k d : Nat} {fs : List (Str × V)}

theorem meth_has {H : Hp} (h : Has H k d fs) {m : Str} {g : Addr} (hm : fs.lookup m = none) (hg : (G5 p).meths.lookup m = some g) (n : Nat) (cm : Bool) :
    (tower (G5 p) rows5 58 n cm).get (.ref k) m H = some (.top (.ref g), [.ref k]) := by
  rw [tower_get]; unfold getV
  dsimp only
  rw [instOf_has h]
  simp only [hm, if_true, hg, Option.map_some]

theorem text_ends (ns : List Int) (H : Hp) : (textOf ns).length = 0 ∨ idxV H (.str (textOf ns)) (.int (-1)) = .ok (.str "\n") := by
  by_cases h0 : (textOf ns).length = 0
  · exact .inl h0
  · right
    have hsz := size_le ns
    obtain ⟨c, h1, h2⟩ := idx_in (H := H) (T := textOf ns) (i := -1) (n := (textOf ns).length - 1) (by rw [if_pos (by omega)]; omega) (by omega) (by omega)
    have hne : linesOf ns ≠ [] := by
      intro q
      apply h0
      rw [text_len, q]; rfl
    have hlast : (linesOf ns).flatten[(linesOf ns).flatten.length - 1]? = some 10 := by
      obtain ⟨init, r, hr⟩ : ∃ init r, linesOf ns = init ++ [r] := ⟨(linesOf ns).dropLast, (linesOf ns).getLast hne, (List.dropLast_concat_getLast hne).symm⟩
      obtain ⟨l, hl, _⟩ := areLines ns r (by rw [hr]; simp)
      have : (linesOf ns).flatten = (init.flatten ++ l) ++ [10] := by rw [hr, List.flatten_append]; simp [hl]
      rw [this]
      simp
    rw [text_list, text_len, hlast] at h1
    have : c = 10 := (Option.some.inj h1).symm
    subst this
    rw [h2]
    rfl

theorem code_call (h : Has σ.toHp k d fs) (hl : fs.length ≤ 99) (n : Nat) :
    ∃ H', ((tower (G5 p) rows5 58 (n + 2) false).app (.top (.ref 65)) [.ref k, .str (textOf ns)] σ.toHp).lift σ = .ok .none { σ with toHp := H' } ∧ Has H' k d (setF "study_level" (.int 0) (setF "code" (.str (textOf ns)) fs)) ∧ H'.nxt = σ.nxt ∧ ∀ j, j ≠ d → H'.obj j = σ.obj j := by
  obtain ⟨H1, a1, a2, a3, a4⟩ := set_has (p := p) (f := "code") (v := .str (textOf ns)) h (by rfl) (by omega)
  obtain ⟨H2, b1, b2, b3, b4⟩ := set_has (p := p) (f := "study_level") (v := .int 0) a2 (by rfl) (by have := len_setF (x := "code") (v := .str (textOf ns)) (l := fs); omega)
  refine ⟨H2, ?_, b2, by rw [b3, a3], fun j hj => by rw [b4 j hj, a4 j hj]⟩
  rw [callCode]
  have l1 : (("s" : Str) == ("self" : Str)) = false := by decide
  have := setcode_ok (σ := ⟨σ.toHp, [("self", .ref k), ("s", .str (textOf ns))], []⟩) (cx := tower (G5 p) rows5 58 (n + 1) false) (hx := tower (G5 p) rows5 58 (n + 1) true) (k := k) (T := textOf ns) (H := H1) (H' := H2) (by simp [List.lookup]) (by simp [List.lookup, l1])
    (by rw [tower_gl]; rfl) (by rw [tower_b]; rfl) (text_ends ns _) (by rw [tower_setA]; exact a1) (by rw [tower_setA]; exact b1)
  show Rs.lift (Rs.bind (ex setcode_S _ _ ⟨σ.toHp, [("self", .ref k), ("s", .str (textOf ns))], []⟩) retR) σ = _
  rw [this]
  rfl

theorem try_ok (D : Due ns lo w E) (hlo : σ.loc.lookup ("lo" : Str) = some (.int lo)) (hp : σ.loc.lookup ("parser" : Str) = some (.ref k)) (h : Has σ.toHp k d fs) (hc : fs.lookup ("code" : Str) = some (.str (textOf ns))) (hl : fs.length ≤ 100) (hm : fs.lookup ("set_lo" : Str) = none) :
    ∃ H' fs', ex try_S (tower (G5 p) rows5 58 4 false) (tower (G5 p) rows5 58 4 true) σ = .ok .next ({ σ with toHp := H' }.set "met" (.str w)) ∧ Has H' k d fs' ∧ fs'.lookup ("code" : Str) = some (.str E) ∧ fs'.lookup ("study_level" : Str) = fs.lookup ("study_level" : Str) ∧ H'.nxt = σ.nxt ∧ ∀ j, j ≠ d → H'.obj j = σ.obj j := by
  have A := lo_due (p := p) D h hc hl 2
  have g : (tower (G5 p) rows5 58 4 false).get (.ref k) "set_lo" σ.toHp = some (.top (.ref 79), [.ref k]) := meth_has h hm (by rfl) 4 false
  generalize hr : ((tower (G5 p) rows5 58 (2 + 2) false).app (.top (.ref 79)) [.ref k, .int lo] σ.toHp).lift σ = r at A
  have hr' : ((tower (G5 p) rows5 58 4 false).app (.top (.ref 79)) [.ref k, .int lo] σ.toHp).lift σ = r := hr
  cases A with
  | ok H' fs' a1 a2 a3 a4 a5 =>
    refine ⟨H', fs', ?_, a1, a2, a3, a4, a5⟩
    simp only [try_S, ex, ev, hp, hlo, Rs.bind, g, argR, List.cons_append, List.nil_append, hr', cEqI, cNeI, cLtI, cLeI, cGtI, cGeI, cEqS, cNeS, cIsNN, cIsNI, Ov.st, condR, truV, goOn, caught]
  | ref a1 =>
    refine ⟨σ.toHp, fs, ?_, h, a1, rfl, rfl, fun _ _ => rfl⟩
    have s1 : (tower (G5 p) rows5 58 4 false).sub "AssertionError" "AssertionError" = some true := by rw [tower_sub]; rfl
    simp only [try_S, ex, ev, hp, hlo, Rs.bind, g, argR, List.cons_append, List.nil_append, hr', cEqI, cNeI, cLtI, cLeI, cGtI, cGeI, cEqS, cNeS, cIsNN, cIsNI, Ov.st, condR, truV, goOn, caught, clause, s1, noErr]
  | bey a1 =>
    refine ⟨σ.toHp, fs, ?_, h, a1, rfl, rfl, fun _ _ => rfl⟩
    have s1 : (tower (G5 p) rows5 58 4 false).sub "IndexError" "AssertionError" = some false := by rw [tower_sub]; rfl
    have s2 : (tower (G5 p) rows5 58 4 false).sub "IndexError" "IndexError" = some true := by rw [tower_sub]; rfl
    simp only [try_S, ex, ev, hp, hlo, Rs.bind, g, argR, List.cons_append, List.nil_append, hr', cEqI, cNeI, cLtI, cLeI, cGtI, cGeI, cEqS, cNeS, cIsNN, cIsNI, Ov.st, condR, truV, goOn, caught, clause, s1, s2, noErr]

theorem cmp_ok (hlo : σ.loc.lookup ("lo" : Str) = some (.int lo)) (hp : σ.loc.lookup ("parser" : Str) = some (.ref k)) (hm : σ.loc.lookup ("met" : Str) = some (.str w)) (hd : σ.loc.lookup ("due" : Str) = some (.list [.str w, .str E])) (h : Has σ.toHp k d fs)
    (h1 : fs.lookup ("code" : Str) = some (.str E)) (h2 : fs.lookup ("study_level" : Str) = some (.int (lo.fmod 3))) {hx : Sx} : ex cmp_S (tower (G5 p) rows5 58 4 false) hx σ = .ok .next σ := by
  have f1 : (tower (G5 p) rows5 58 4 false).fld (.ref k) "code" σ.toHp = .ok (.str E) := by rw [tower_fld]; exact fld_has h (by rfl) h1 rfl
  have f2 : (tower (G5 p) rows5 58 4 false).fld (.ref k) "study_level" σ.toHp = .ok (.int (lo.fmod 3)) := by rw [tower_fld]; exact fld_has h (by rfl) h2 rfl
  have b1 : binV σ.toHp .Mod (.int lo) (.int 3) = .ok (.int (lo.fmod 3)) := by rfl
  have b2 : binV σ.toHp .Add (.list [.str w, .str E]) (.list [.int (lo.fmod 3)]) = .ok (.list [.str w, .str E, .int (lo.fmod 3)]) := by
    exact bAddL (by simp [sizeLine_eq])
  have c1 : cmpV σ.toHp .NotEq (.list [.str w, .str E, .int (lo.fmod 3)]) (.list [.str w, .str E, .int (lo.fmod 3)]) = .ok (.bool false) := by
    have hdat : dat σ.toHp 8 (.list [.str w, .str E, .int (lo.fmod 3)]) = some (.list [.str w, .str E, .int (lo.fmod 3)]) := by rfl
    unfold cmpV cmpB
    dsimp only
    unfold eqB
    simp only [hdat]
    simp [PyData.eqv, PyData.eqvAll, boolO]
  have ft (r : Rs V) : fits (0 + 1 + 1 + 1) r = r := by unfold fits; rw [if_pos (by decide)]
  have ft1 (r : Rs V) : fits (0 + 1) r = r := by unfold fits; rw [if_pos (by decide)]
  simp only [cmp_S, ex, ev, hlo, hp, hm, hd, Rs.bind, f1, f2, Ov.st, argR, List.length_cons, List.length_nil, ft, ft1, b1, b2, c1, condS, truV]

theorem turn_ok (B : Base ns σ) (hlo : σ.loc.lookup ("lo" : Str) = some (.int lo)) :
    ∃ σ', ex turn_S (tower (G5 p) rows5 58 4 false) (tower (G5 p) rows5 58 4 true) σ = .ok .next σ' ∧ Base ns σ' := by
  obtain ⟨w, E, hdue, D⟩ := due_ok (p := p) (hx := tower (G5 p) rows5 58 4 true) B hlo
  have B1 : Base ns (σ.set "due" (.list [.str w, .str E])) := B.set (by decide) (by decide) (by decide) (by decide)
  have n1 : (σ.set "due" (.list [.str w, .str E])).nxt = σ.nxt := rfl
  obtain ⟨H1, m1, m2, m3, m4⟩ := make5 (p := p) false (σ.set "due" (.list [.str w, .str E]))
  generalize hσ1 : σ.set "due" (.list [.str w, .str E]) = σ1 at *
  have lo1 : σ1.loc.lookup ("lo" : Str) = some (.int lo) := by rw [← hσ1, look_set, if_neg (by decide)]; exact hlo
  have du1 : σ1.loc.lookup ("due" : Str) = some (.list [.str w, .str E]) := by rw [← hσ1, look_set, if_pos rfl]
  have B2 : Base ns { σ1 with toHp := H1 } := B1.hp (by omega) (fun j hj => m4 j (by have := B1.nxt; omega))
  have B3 : Base ns (({ σ1 with toHp := H1 } : St).set "parser" (.ref (σ1.nxt + 1))) := B2.set (by decide) (by decide) (by decide) (by decide)
  have hH3 : (({ σ1 with toHp := H1 } : St).set "parser" (.ref (σ1.nxt + 1))).toHp = H1 := rfl
  have e1 : ex (.asg "parser" (.call (.glob "Parser") (.cons (.int 4) (.cons (.int 8) .nil)))) (tower (G5 p) rows5 58 4 false) (tower (G5 p) rows5 58 4 true) σ1 = .ok .next (({ σ1 with toHp := H1 } : St).set "parser" (.ref (σ1.nxt + 1))) := by
    have hg : (tower (G5 p) rows5 58 4 false).gl "Parser" = some (.top (.ref 152)) := by rw [tower_gl]; rfl
    simp only [ex, ev, hg, Rs.bind, argR, m1]
  generalize hσ3 : ({ σ1 with toHp := H1 } : St).set "parser" (.ref (σ1.nxt + 1)) = σ3 at *
  have lo3 : σ3.loc.lookup ("lo" : Str) = some (.int lo) := by rw [← hσ3, look_set, if_neg (by decide)]; exact lo1
  have du3 : σ3.loc.lookup ("due" : Str) = some (.list [.str w, .str E]) := by rw [← hσ3, look_set, if_neg (by decide)]; exact du1
  have pa3 : σ3.loc.lookup ("parser" : Str) = some (.ref (σ1.nxt + 1)) := by rw [← hσ3, look_set, if_pos rfl]
  have hN : 4 ≤ σ1.nxt := B1.nxt
  generalize hk : σ1.nxt + 1 = k at *
  generalize hd : σ1.nxt = d at *
  have h3 : Has σ3.toHp k d [("indentwidth", .int 4), ("tabwidth", .int 8)] := by rw [hH3]; exact m2
  obtain ⟨H4, a1, a2, a3, a4⟩ := code_call (p := p) (ns := ns) h3 (by decide) 2
  have g : (tower (G5 p) rows5 58 4 false).get (.ref k) "set_code" σ3.toHp = some (.top (.ref 65), [.ref k]) := meth_has h3 (by rfl) (by rfl) 4 false
  have B4 : Base ns { σ3 with toHp := H4 } := B3.hp (by omega) (fun j hj => a4 j (by omega))
  have e2 : ex (.expr (.meth (.var "parser") "set_code" (.cons (.var "text") .nil))) (tower (G5 p) rows5 58 4 false) (tower (G5 p) rows5 58 4 true) σ3 = .ok .next { σ3 with toHp := H4 } := by
    simp only [ex, ev, pa3, Rs.bind, g, B3.txt, argR, List.cons_append, List.nil_append, a1]
  have hlen1 : (setF "study_level" (.int 0) (setF "code" (.str (textOf ns)) [("indentwidth", .int 4), ("tabwidth", .int 8)])).length ≤ 100 := by
    refine Nat.le_trans len_setF ?_
    have := len_setF (x := "code") (v := .str (textOf ns)) (l := [("indentwidth", .int 4), ("tabwidth", .int 8)])
    simp only [List.length_cons, List.length_nil] at this
    omega
  have hlen2 : (setF "study_level" (.int (lo.fmod 3)) (setF "study_level" (.int 0) (setF "code" (.str (textOf ns)) [("indentwidth", .int 4), ("tabwidth", .int 8)]))).length ≤ 100 := by
    refine Nat.le_trans len_setF ?_
    have := len_setF (x := "code") (v := .str (textOf ns)) (l := [("indentwidth", .int 4), ("tabwidth", .int 8)])
    have := len_setF (x := "study_level") (v := .int 0) (l := (setF "code" (.str (textOf ns)) [("indentwidth", .int 4), ("tabwidth", .int 8)]))
    simp only [List.length_cons, List.length_nil] at *
    omega
  obtain ⟨H5, b1, b2, b3, b4⟩ := set_has (p := p) (f := "study_level") (v := .int (lo.fmod 3)) a2 (by rfl) hlen1
  have B5 : Base ns { σ3 with toHp := H5 } := B3.hp (by omega) (fun j hj => (b4 j (by omega)).trans (a4 j (by omega)))
  have e3 : ex (.setA (.var "parser") "study_level" (.bin .Mod (.var "lo") (.int 3))) (tower (G5 p) rows5 58 4 false) (tower (G5 p) rows5 58 4 true) { σ3 with toHp := H4 } = .ok .next { σ3 with toHp := H5 } := by
    have bm : binV H4 .Mod (.int lo) (.int 3) = .ok (.int (lo.fmod 3)) := by rfl
    simp only [ex, ev, pa3, lo3, Rs.bind, bm, Ov.st, tower_setA, b1, Option.map_some, optS]
  obtain ⟨H6, fs', t1, t2, t3, t4, t5, t6⟩ := try_ok (p := p) (σ := { σ3 with toHp := H5 }) D lo3 pa3 b2 (by rw [lookup_setF, if_neg (by decide), lookup_setF, if_neg (by decide), lookup_setF, if_pos rfl]) hlen2 (by rfl)
  have st : fs'.lookup ("study_level" : Str) = some (.int (lo.fmod 3)) := by rw [t4, lookup_setF, if_pos rfl]
  have B6 : Base ns ({ σ3 with toHp := H6 }.set "met" (.str w)) := Base.set (B3.hp (by show _ ≤ H6.nxt; have t5' : H6.nxt = H5.nxt := t5; omega) (fun j hj => ((t6 j (by omega)).trans (b4 j (by omega))).trans (a4 j (by omega)))) (by decide) (by decide) (by decide) (by decide)
  refine ⟨{ σ3 with toHp := H6 }.set "met" (.str w), ?_, B6⟩
  have e5 := cmp_ok (p := p) (σ := { σ3 with toHp := H6 }.set "met" (.str w)) (hx := tower (G5 p) rows5 58 4 true) (k := k) (d := d) (fs := fs') (w := w) (E := E) (lo := lo)
    (by rw [look_set, if_neg (by decide)]; exact lo3) (by rw [look_set, if_neg (by decide)]; exact pa3) (by rw [look_set, if_pos rfl]) (by rw [look_set, if_neg (by decide)]; exact du3) t2 t3 st
  have sq : ∀ a b (cx hx : Sx) σ σ', ex a cx hx σ = .ok .next σ' → ex (.seq a b) cx hx σ = ex b cx hx σ' := fun a b cx hx σ σ' h => (Rs.bind_ok h : _)
  unfold turn_S
  rw [sq _ _ _ _ _ _ hdue, sq _ _ _ _ _ _ e1, sq _ _ _ _ _ _ e2, sq _ _ _ _ _ _ e3, sq _ _ _ _ _ _ t1, sq _ _ _ _ _ _ e5]
  rfl
end
end Mine.L05
end
section
set_option Elab.async false
set_option linter.all false
set_option linter.unusedSimpArgs false
set_option maxRecDepth 100000
set_option maxHeartbeats 4000000
namespace Mine.L05
open PySem PySem.W PyProof.Rows Mine

theorem turns_calm {v : V} {all : List V} {f : V → St → Rs (Option V)} {g : V → Option V} {H : Hp} (hi : itsV H v = some all) : ∀ {l : List V} {σ : St}, σ.toHp = H → (∀ y ∈ l, ∀ σ' : St, σ'.toHp = H → ∃ σ'' : St, f y σ' = .ok (g y) σ'' ∧ σ''.toHp = H) → ∃ σ'' : St, turns v all f l σ = .ok (l.filterMap g) σ'' ∧ σ''.toHp = H
  | [], σ, h, _ => ⟨σ, by unfold turns; rw [if_pos (by rw [h]; exact hi)]; rfl, h⟩
  | y :: r, σ, h, hf => by
    obtain ⟨σ1, e1, h1⟩ := hf y (.head _) σ h
    obtain ⟨σ2, e2, h2⟩ := turns_calm hi (l := r) h1 fun z hz => hf z (.tail _ hz)
    refine ⟨σ2, ?_, h2⟩
    unfold turns
    rw [if_pos (by rw [h]; exact hi), e1]
    show (turns v all f r σ1).bind _ = _
    rw [e2]
    show Rs.ok _ _ = _
    rw [List.filterMap_cons]
    cases g y <;> rfl

theorem ev_comp_pure {cx : Cx} {σ : St} {elt it cond : X} {x : Str} {vi : V} {xs : List V} (g : V → Option V) (hc : cx.calm = false) (hi : ev cx it σ = .ok vi σ) (hx : itsV σ.toHp vi = some xs)
    (hg : ∀ y ∈ xs, (ev cx cond ⟨σ.toHp, [(x, y)], σ.cel⟩).bind (fun b σ₃ => condO b σ₃ (ev cx elt)) = .ok (g y) ⟨σ.toHp, [(x, y)], σ.cel⟩) (hn : (xs.filterMap g).length ≤ sizeLine) :
    ev cx (.comp elt x it cond) σ = .ok (.list (xs.filterMap g)) σ := by
  obtain ⟨σ2, e2, h2⟩ := turns_calm (f := fun v σ₂ => (ev cx cond { σ₂ with loc := [(x, v)], cel := σ.cel }).bind fun b σ₃ => condO b σ₃ (ev cx elt)) (g := g) hx (l := xs) (σ := σ) rfl (fun y hy σ' h' => ⟨⟨σ.toHp, [(x, y)], σ.cel⟩, by
    have : ({ σ' with loc := [(x, y)], cel := σ.cel } : St) = ⟨σ.toHp, [(x, y)], σ.cel⟩ := by rw [← h']
    show (ev cx cond { σ' with loc := [(x, y)], cel := σ.cel }).bind _ = _
    rw [this]; exact hg y hy, rfl⟩)
  show (if cx.calm = true then Rs.bad else (ev cx it σ).bind _) = _
  rw [if_neg (by rw [hc]; decide), hi]
  show (match itsV σ.toHp vi with | some xs => _ | none => _) = _
  rw [hx]
  show (turns vi xs _ xs σ).bind _ = _
  rw [e2]
  show fits _ (Rs.ok _ { σ with toHp := σ2.toHp }) = _
  unfold fits
  rw [if_pos hn, h2]

section
variable {p : Params} {ns : List Int} {σ : St} {lo : Int} {k d : Nat}

theorem idx_list {H : Hp} {l : List Str} {i : Nat} {x : Str} (hx : l[i]? = some x) (hl : l.length < 100) : idxV H (.list (l.map .str)) (.int i) = .ok (.str x) := by
  have hi : i < l.length := by
    by_cases h : i < l.length
    · exact h
    · rw [List.getElem?_eq_none (by omega)] at hx; cases hx
  unfold idxV
  have h1 : asList H (.list (l.map .str)) = some (l.map .str) := rfl
  have h2 : fitsIx (i : Int) = true := by unfold fitsIx; simp only [Bool.and_eq_true, decide_eq_true_eq]; omega
  have h3 : seqIndex? (i : Int) (l.map V.str).length = some i := by
    unfold seqIndex?
    simp only [List.length_map]
    have hn : ¬ ((i : Int) < 0) := by omega
    simp [hn, hi]
  simp only [h1, h2, if_true, h3, Option.bind_some, List.getElem?_map, hx, Option.map_some]

theorem pick5_ok {H : Hp} (x : Int) : idxV H (.list (([("\n" : Str), "a\n", "de\n", "\tx:\n", ""] : List Str).map .str)) (.int (x.fmod 5)) = .ok (.str (pick5 x)) := by
  have h0 := Int.fmod_nonneg_of_pos x (show (0 : Int) < 5 by decide)
  have h1 := Int.fmod_lt_of_pos x (show (0 : Int) < 5 by decide)
  have e : x.fmod 5 = (((x.fmod 5).toNat : Nat) : Int) := by omega
  have hl : (x.fmod 5).toNat < ([("\n" : Str), "a\n", "de\n", "\tx:\n", ""] : List Str).length := by simp; omega
  rw [e]
  refine idx_list ?_ (by simp)
  unfold pick5
  rw [List.getD_eq_getElem?_getD, List.getElem?_eq_getElem hl]; rfl
theorem pick4_ok {H : Hp} (x : Int) : idxV H (.list (([("ab\n" : Str), "\n", "c\n", ""] : List Str).map .str)) (.int (x.fmod 4)) = .ok (.str (pick4 x)) := by
  have h0 := Int.fmod_nonneg_of_pos x (show (0 : Int) < 4 by decide)
  have h1 := Int.fmod_lt_of_pos x (show (0 : Int) < 4 by decide)
  have e : x.fmod 4 = (((x.fmod 4).toNat : Nat) : Int) := by omega
  have hl : (x.fmod 4).toNat < ([("ab\n" : Str), "\n", "c\n", ""] : List Str).length := by simp; omega
  rw [e]
  refine idx_list ?_ (by simp)
  unfold pick4
  rw [List.getD_eq_getElem?_getD, List.getElem?_eq_getElem hl]; rfl

noncomputable def turn2_S : S := (.seq (.try1 (.seq (.asg "fits" (.and (.cmp .Is (.meth (.var "bare") "set_lo" (.cons (.var "lo") .nil)) .none) (.cmp .Eq (.var "lo") (.int 0)))) .nil) "AttributeError" (.seq (.asg "fits" (.cmp .NotEq (.var "lo") (.int 0))) .nil)) (.seq (.ite (.not (.var "fits")) (.seq (.ret (.bool false)) .nil) .nil) .nil))

theorem turn2_ok (hlo : σ.loc.lookup ("lo" : Str) = some (.int lo)) (hb : σ.loc.lookup ("bare" : Str) = some (.ref k)) (h : Has σ.toHp k d [("indentwidth", .int 4), ("tabwidth", .int 8)]) :
    ex turn2_S (tower (G5 p) rows5 58 4 false) (tower (G5 p) rows5 58 4 true) σ = .ok .next (σ.set "fits" (.bool true)) := by
  have g : (tower (G5 p) rows5 58 4 false).get (.ref k) "set_lo" σ.toHp = some (.top (.ref 79), [.ref k]) := meth_has h (by rfl) (by rfl) 4 false
  have l1 : (("lo" : Str) == ("self" : Str)) = false := by decide
  have q1 : List.lookup ("self" : Str) [(("self" : Str), V.ref k), ("lo", .int lo)] = some (.ref k) := by simp [List.lookup]
  have q2 : List.lookup ("lo" : Str) [(("self" : Str), V.ref k), ("lo", .int lo)] = some (.int lo) := by simp [List.lookup, l1]
  have hcall : ((tower (G5 p) rows5 58 4 false).app (.top (.ref 79)) [.ref k, .int lo] σ.toHp).lift σ = ((ex setlo_S (tower (G5 p) rows5 58 3 false) (tower (G5 p) rows5 58 3 true) (fmLo σ.toHp k lo)).bind retR).lift σ := callLo 2 false σ lo
  have fx : (σ.set "fits" (.bool true)).loc.lookup ("fits" : Str) = some (.bool true) := by rw [look_set, if_pos rfl]
  by_cases h0 : lo = 0
  · subst h0
    have hr : ((tower (G5 p) rows5 58 4 false).app (.top (.ref 79)) [.ref k, .int 0] σ.toHp).lift σ = .ok .none σ := by
      rw [hcall, setlo_zero (σ := fmLo σ.toHp k 0) q2]; rfl
    simp only [turn2_S, ex, ev, hlo, hb, Rs.bind, g, argR, List.cons_append, List.nil_append, hr, cEqI, cNeI, cLtI, cLeI, cGtI, cGeI, cEqS, cNeS, cIsNN, cIsNI, Ov.st, condR, truV, goOn, caught, beq_self_eq_true, fx, Bool.not_true, condS]
  · have hr : ((tower (G5 p) rows5 58 4 false).app (.top (.ref 79)) [.ref k, .int lo] σ.toHp).lift σ = .err "AttributeError" σ := by
      rw [hcall, setlo_missing (σ := fmLo σ.toHp k lo) (k := k) q1 q2 h0 (by
        rw [tower_fld]; unfold fldV
        have := instOf_has (p := p) h
        have t : (fmLo σ.toHp k lo).toHp = σ.toHp := rfl
        rw [t, this]; rfl)]
      rfl
    have s1 : (tower (G5 p) rows5 58 4 false).sub "AttributeError" "AttributeError" = some true := by rw [tower_sub]; rfl
    have hz : (lo != 0) = true := by simpa using h0
    simp only [turn2_S, ex, ev, hlo, hb, Rs.bind, g, argR, List.cons_append, List.nil_append, hr, cEqI, cNeI, cLtI, cLeI, cGtI, cGeI, cEqS, cNeS, cIsNN, cIsNI, Ov.st, condR, truV, goOn, caught, clause, s1, noErr, hz, fx, Bool.not_true, condS]
end
end Mine.L05
end
section
set_option Elab.async false
set_option linter.all false
set_option linter.unusedSimpArgs false
set_option maxRecDepth 100000
set_option maxHeartbeats 4000000
namespace Mine.L05
open PySem PySem.W PyProof.Rows Mine

theorem rangeSize_one (a b : Int) : Builtin.Range.rangeSize a b 1 = if a < b then b - a else 0 := by
  unfold Builtin.Range.rangeSize
  rw [if_pos (by decide)]
  split <;> omega

theorem starts_list : ∀ (rs : List (List Nat)), startsOf rs = (List.range rs.length).map fun i => (rs.take (i + 1)).flatten.length
  | [] => rfl
  | r :: rs => by
    unfold startsOf
    rw [starts_list rs, List.length_cons, List.range_succ_eq_map, List.map_cons, List.map_map, List.map_map]
    congr 1
    · simp
    · apply List.map_congr_left
      intro i _
      simp [List.take_succ_cons]
      omega

section
variable {p : Params} {ns : List Int}

noncomputable def pre_S (rest : S) : S := (.seq (.ownC "rows" (.comp (.idx (.list (.cons (.str "\n") (.cons (.str "a\n") (.cons (.str "de\n") (.cons (.str "\tx:\n") (.cons (.str "") .nil)))))) (.bin .Mod (.var "x") (.int 5))) "x" (.slc (.var "script") .none (.int 8)) (.bool true))) (.seq (.expr (.meth (.cv "rows") "append" (.cons (.idx (.list (.cons (.str "ab\n") (.cons (.str "\n") (.cons (.str "c\n") (.cons (.str "") .nil))))) (.bin .Mod (.call (.glob "len") (.cons (.var "script") .nil)) (.int 4))) .nil))) (.seq (.ownC "rows" (.comp (.var "row") "row" (.cv "rows") (.cmp .NotEq (.var "row") (.str "")))) (.seq (.asg "text" (.meth (.str "") "join" (.cons (.cv "rows") .nil))) (.seq (.asg "size" (.call (.glob "len") (.cons (.var "text") .nil))) (.seq (.own "starts" (.comp (.call (.glob "len") (.cons (.meth (.str "") "join" (.cons (.slc (.cv "rows") .none (.var "k")) .nil)) .nil)) "k" (.call (.glob "range") (.cons (.int 1) (.cons (.bin .Add (.call (.glob "len") (.cons (.cv "rows") .nil)) (.int 1)) .nil))) (.bool true))) rest))))))

theorem fitsN {n : Nat} (h : n ≤ 100) (r : Rs V) : fits n r = r := by unfold fits; rw [if_pos (by rw [sizeLine_eq]; omega)]

theorem pre1 (ns : List Int) (hl : ns.length ≤ 63) : ev (tower (G5 p) rows5 58 4 false).toCx (.comp (.idx (.list (.cons (.str "\n") (.cons (.str "a\n") (.cons (.str "de\n") (.cons (.str "\tx:\n") (.cons (.str "") .nil)))))) (.bin .Mod (.var "x") (.int 5))) "x" (.slc (.var "script") .none (.int 8)) (.bool true)) (start5 ns)
    = .ok (.list (((ns.take 8).map pick5).map .str)) (start5 ns) := by
  have hcut : cut (ns.map V.int) none (some 8) = (ns.take 8).map .int := by
    unfold cut
    have : clipAt (ns.map V.int).length 8 = min 8 ns.length := by
      unfold clipAt; rw [if_neg (by decide), List.length_map]; omega
    simp only [Option.elim_some, Option.elim_none, this, List.drop_zero, Nat.sub_zero, ← List.map_take]
    congr 1
    by_cases h : 8 ≤ ns.length
    · rw [Nat.min_eq_left h]
    · rw [Nat.min_eq_right (by omega), List.take_of_length_le (Nat.le_refl _), List.take_of_length_le (by omega)]
  have key := ev_comp_pure (cx := (tower (G5 p) rows5 58 4 false).toCx) (σ := start5 ns) (elt := (.idx (.list (.cons (.str "\n") (.cons (.str "a\n") (.cons (.str "de\n") (.cons (.str "\tx:\n") (.cons (.str "") .nil)))))) (.bin .Mod (.var "x") (.int 5)))) (it := (.slc (.var "script") .none (.int 8))) (cond := .bool true) (x := "x") (vi := .list ((ns.take 8).map .int)) (xs := (ns.take 8).map .int)
    (fun v => match v with | .int x => some (.str (pick5 x)) | _ => none) (tower_calm _ _) ?_ rfl ?_ ?_
  · rw [key]
    congr 2
    rw [List.filterMap_map, List.map_map]
    rw [← List.filterMap_eq_map]
    rfl
  · have : (start5 ns).loc.lookup ("script" : Str) = some (.list (ns.map .int)) := by simp [start5, List.lookup]
    simp only [ev, this, Rs.bind, slcV, asPart, asList, hcut, Ov.st]
  · intro y hy
    obtain ⟨x, _, rfl⟩ := List.mem_map.mp hy
    have lk (u : V) : List.lookup ("x" : Str) [(("x" : Str), u)] = some u := by simp [List.lookup]
    have h5 := pick5_ok (H := (start5 ns).toHp) x
    simp only [List.map_cons, List.map_nil] at h5
    have bm : binV (start5 ns).toHp .Mod (.int x) (.int 5) = .ok (.int (x.fmod 5)) := by rfl
    simp only [ev, Rs.bind, condO, truV, lk, argR, List.length_cons, List.length_nil, fitsN (show 0 + 1 + 1 + 1 + 1 + 1 ≤ 100 by decide), bm, Ov.st, h5, Ov.calm]
  · refine Nat.le_trans (List.length_filterMap_le _ _) ?_
    rw [sizeLine_eq]; simp; omega
end
end Mine.L05
end
section
set_option Elab.async false
set_option linter.all false
set_option linter.unusedSimpArgs false
set_option maxRecDepth 100000
set_option maxHeartbeats 4000000
namespace Mine.L05
open PySem PySem.W PyProof.Rows Mine

section
variable {p : Params} {ns : List Int}

theorem small_one {a b : Int} (h1 : -1000000 ≤ a) (h2 : a ≤ 1000000) (h3 : -1000000 ≤ b) (h4 : b ≤ 1000000) : Builtin.Range.small a b 1 = true := by
  unfold Builtin.Range.small
  rw [rangeSize_one]
  unfold Builtin.Range.rangeFitsLong
  have e : (1 : Int) > 0 := by decide
  simp only [e, if_true]
  split <;> simp <;> omega

structure P1 (ns : List Int) (σ : St) : Prop where
  scr : σ.loc.lookup ("script" : Str) = some (.list (ns.map .int))
  cel : σ.cel.lookup ("rows" : Str) = some 0
  o0 : σ.obj 0 = some (.cell (some (.ref 1)))
  o1 : σ.obj 1 = some (.list (((ns.take 8).map pick5).map .str))
  nxt : σ.nxt = 2

noncomputable def s1 : S := (.ownC "rows" (.comp (.idx (.list (.cons (.str "\n") (.cons (.str "a\n") (.cons (.str "de\n") (.cons (.str "\tx:\n") (.cons (.str "") .nil)))))) (.bin .Mod (.var "x") (.int 5))) "x" (.slc (.var "script") .none (.int 8)) (.bool true)))
noncomputable def s2 : S := (.expr (.meth (.cv "rows") "append" (.cons (.idx (.list (.cons (.str "ab\n") (.cons (.str "\n") (.cons (.str "c\n") (.cons (.str "") .nil))))) (.bin .Mod (.call (.glob "len") (.cons (.var "script") .nil)) (.int 4))) .nil)))
noncomputable def s3 : S := (.ownC "rows" (.comp (.var "row") "row" (.cv "rows") (.cmp .NotEq (.var "row") (.str ""))))
noncomputable def s4 : S := (.asg "text" (.meth (.str "") "join" (.cons (.cv "rows") .nil)))
noncomputable def s5 : S := (.asg "size" (.call (.glob "len") (.cons (.var "text") .nil)))
noncomputable def s6e : X := (.comp (.call (.glob "len") (.cons (.meth (.str "") "join" (.cons (.slc (.cv "rows") .none (.var "k")) .nil)) .nil)) "k" (.call (.glob "range") (.cons (.int 1) (.cons (.bin .Add (.call (.glob "len") (.cons (.cv "rows") .nil)) (.int 1)) .nil))) (.bool true))
noncomputable def s6 : S := (.own "starts" s6e)

theorem st1 {hx : Sx} (hl : ns.length ≤ 63) : ∃ σ, ex s1 (tower (G5 p) rows5 58 4 false) hx (start5 ns) = .ok .next σ ∧ P1 ns σ := by
  refine ⟨_, (Rs.bind_ok (pre1 ns hl) : _), ?_⟩
  refine ⟨?_, ?_, ?_, ?_, ?_⟩
  · rfl
  · rfl
  · rfl
  · rfl
  · rfl

structure P2 (ns : List Int) (σ : St) : Prop where
  scr : σ.loc.lookup ("script" : Str) = some (.list (ns.map .int))
  cel : σ.cel.lookup ("rows" : Str) = some 0
  o0 : σ.obj 0 = some (.cell (some (.ref 1)))
  o1 : σ.obj 1 = some (.list (((ns.take 8).map pick5 ++ [pick4 ns.length]).map .str))
  nxt : σ.nxt = 2

theorem st2 {hx : Sx} {σ : St} (h : P1 ns σ) (hl : ns.length ≤ 63) : ∃ σ', ex s2 (tower (G5 p) rows5 58 4 false) hx σ = .ok .next σ' ∧ P2 ns σ' := by
  have g : (tower (G5 p) rows5 58 4 false).get (.ref 1) "append" σ.toHp = some (.top (.builtin "list.append"), [.ref 1]) := by
    rw [tower_get]; unfold getV instOf; simp only [h.o1]; rfl
  have hg : (tower (G5 p) rows5 58 4 false).gl "len" = some (.top (.builtin "len")) := by rw [tower_gl]; rfl
  have hlen : (tower (G5 p) rows5 58 4 false).app (.top (.builtin "len")) [.list (ns.map .int)] σ.toHp = okH (.int ns.length) σ.toHp := by
    rw [tower_b]; unfold bapp; rw [if_pos rfl]; simp [lenB, asList]
  have bm : binV σ.toHp .Mod (.int ns.length) (.int 4) = .ok (.int ((ns.length : Int).fmod 4)) := by rfl
  have h4 := pick4_ok (H := σ.toHp) ns.length
  simp only [List.map_cons, List.map_nil] at h4
  have happ : (tower (G5 p) rows5 58 4 false).app (.top (.builtin "list.append")) [.ref 1, .str (pick4 ns.length)] σ.toHp = okH .none { σ.toHp with obj := fun j => if j = 1 then some (.list (((ns.take 8).map pick5).map .str ++ [.str (pick4 ns.length)])) else σ.obj j } := by
    rw [tower_b]; unfold bapp; rw [if_neg (by decide), if_neg (by decide), if_pos rfl]
    unfold appendB
    simp only [h.o1]
    rw [if_pos (by rw [sizeLine_eq]; simp; omega)]
  refine ⟨{ σ with obj := fun j => if j = 1 then some (.list (((ns.take 8).map pick5).map .str ++ [.str (pick4 ns.length)])) else σ.obj j }, ?_, ?_⟩
  · simp only [s2, ex, ev, h.cel, h.o0, h.scr, Rs.bind, g, hg, argR, hlen, okH, Rs.lift, bm, Ov.st, h4, List.length_cons, List.length_nil, fitsN (show 0 + 1 + 1 + 1 + 1 ≤ 100 by decide), Ov.calm, List.cons_append, List.nil_append, happ]
  · refine ⟨h.scr, h.cel, ?_, ?_, h.nxt⟩
    · exact h.o0
    · show some (O.list (((ns.take 8).map pick5).map .str ++ [.str (pick4 ns.length)])) = _; simp

structure P3 (ns : List Int) (σ : St) : Prop where
  scr : σ.loc.lookup ("script" : Str) = some (.list (ns.map .int))
  cel : σ.cel.lookup ("rows" : Str) = some 0
  o0 : σ.obj 0 = some (.cell (some (.ref 2)))
  o2 : σ.obj 2 = some (.list ((rowsOf ns).map .str))
  nxt : σ.nxt = 3

theorem str_beq (a b : Str) : (a.cps.toList != b.cps.toList) = decide (a ≠ b) := by
  by_cases h : a = b
  · subst h; simp
  · have : a.cps.toList ≠ b.cps.toList := fun q => h (Str.eq_of q)
    simp [h, this]

theorem st3 {hx : Sx} {σ : St} (h : P2 ns σ) : ∃ σ', ex s3 (tower (G5 p) rows5 58 4 false) hx σ = .ok .next σ' ∧ P3 ns σ' := by
  have hal : asList σ.toHp (.ref 1) = some (((ns.take 8).map pick5 ++ [pick4 ns.length]).map .str) := by unfold asList; simp only [h.o1]
  have key := ev_comp_pure (cx := (tower (G5 p) rows5 58 4 false).toCx) (σ := σ) (elt := .var "row") (it := .cv "rows") (cond := .cmp .NotEq (.var "row") (.str "")) (x := "row") (vi := .ref 1) (xs := ((ns.take 8).map pick5 ++ [pick4 ns.length]).map .str)
    (fun v => match v with | .str x => if x ≠ ⟨#[]⟩ then some (.str x) else none | _ => none) (tower_calm _ _) (by simp only [ev, h.cel, h.o0]) hal ?_ ?_
  · have e : (((ns.take 8).map pick5 ++ [pick4 ns.length]).map V.str).filterMap (fun v => match v with | .str x => if x ≠ ⟨#[]⟩ then some (V.str x) else none | _ => none) = (rowsOf ns).map .str := by
      rw [List.filterMap_map]
      unfold rowsOf
      generalize (ns.take 8).map pick5 ++ [pick4 ns.length] = l
      induction l with
      | nil => rfl
      | cons x r ih =>
        rw [List.filterMap_cons, List.filter_cons]
        by_cases hx : x = ⟨#[]⟩
        · simp only [Function.comp, hx, ne_eq, not_true, if_false, decide_false, Bool.false_eq_true]
          try exact ih
        · simp only [Function.comp, hx, ne_eq, not_false_eq_true, if_true, decide_true, List.map_cons]
          rw [← ih]
          try rfl
    rw [e] at key
    have hsc : (σ.add (.list ((rowsOf ns).map .str))).setC "rows" (.ref σ.nxt) = some { (σ.add (.list ((rowsOf ns).map .str))) with obj := fun j => if j = 0 then some (.cell (some (.ref σ.nxt))) else (σ.add (.list ((rowsOf ns).map .str))).obj j } := by
      unfold St.setC
      have c0 : (σ.add (.list ((rowsOf ns).map .str))).cel.lookup ("rows" : Str) = some 0 := h.cel
      rw [c0]
      have o0 : (σ.add (.list ((rowsOf ns).map .str))).obj 0 = some (.cell (some (.ref 1))) := by
        show (if 0 = σ.nxt then _ else σ.obj 0) = _
        rw [if_neg (by rw [h.nxt]; decide)]; exact h.o0
      simp only [o0]
    have eq : ex s3 (tower (G5 p) rows5 58 4 false) hx σ = .ok .next { (σ.add (.list ((rowsOf ns).map .str))) with obj := fun j => if j = 0 then some (.cell (some (.ref σ.nxt))) else (σ.add (.list ((rowsOf ns).map .str))).obj j } := by
      unfold s3
      show (ev _ _ _).bind _ = _
      rw [key]
      show optS ((σ.add (.list ((rowsOf ns).map .str))).setC "rows" (.ref σ.nxt)) = _
      rw [hsc]
      rfl
    refine ⟨_, eq, ?_⟩
    · refine ⟨h.scr, h.cel, ?_, ?_, ?_⟩
      · show some (O.cell (some (.ref σ.nxt))) = _; rw [h.nxt]
      · show (if 2 = σ.nxt then _ else σ.obj 2) = _
        rw [h.nxt, if_pos rfl]
      · show σ.nxt + 1 = 3; rw [h.nxt]
  · intro y hy
    obtain ⟨x, _, rfl⟩ := List.mem_map.mp hy
    have lk (u : V) : List.lookup ("row" : Str) [(("row" : Str), u)] = some u := by simp [List.lookup]
    have hb := str_beq x ("" : Str)
    by_cases hx : x = ⟨#[]⟩
    · have hb' : (x.cps.toList != ("" : Str).cps.toList) = false := by rw [hb, empty_eq]; simpa using hx
      simp only [ev, Rs.bind, lk, cEqI, cNeI, cLtI, cLeI, cGtI, cGeI, cEqS, cNeS, cIsNN, cIsNI, Ov.st, condO, truV, hb']
      rw [if_neg (fun q => q hx)]
    · have hb' : (x.cps.toList != ("" : Str).cps.toList) = true := by rw [hb, empty_eq]; simpa using hx
      simp only [ev, Rs.bind, lk, cEqI, cNeI, cLtI, cLeI, cGtI, cGeI, cEqS, cNeS, cIsNN, cIsNI, Ov.st, condO, truV, hb']
      rw [if_pos hx]
  · refine Nat.le_trans (List.length_filterMap_le _ _) ?_
    rw [sizeLine_eq]; simp; omega

structure P5 (ns : List Int) (σ : St) : Prop extends P3 ns σ where
  txt : σ.loc.lookup ("text" : Str) = some (.str (textOf ns))
  siz : σ.loc.lookup ("size" : Str) = some (.int (textOf ns).length)

theorem st45 {hx : Sx} {σ : St} (h : P3 ns σ) : ∃ σ', ex s4 (tower (G5 p) rows5 58 4 false) hx σ = .ok .next σ' ∧ ∃ σ'', ex s5 (tower (G5 p) rows5 58 4 false) hx σ' = .ok .next σ'' ∧ P5 ns σ'' := by
  have hal : asList σ.toHp (.ref 2) = some ((rowsOf ns).map .str) := by unfold asList; simp only [h.o2]
  have g2 : (tower (G5 p) rows5 58 4 false).get (.str "") "join" σ.toHp = some (.top (.builtin "str.join"), [.str ""]) := by rw [tower_get]; rfl
  have hj : (tower (G5 p) rows5 58 4 false).app (.top (.builtin "str.join")) [.str "", .ref 2] σ.toHp = okH (.str (textOf ns)) σ.toHp := by
    rw [tower_b]; exact join_rows (isRows ns) (rows_le ns) hal
  have hg : (tower (G5 p) rows5 58 4 false).gl "len" = some (.top (.builtin "len")) := by rw [tower_gl]; rfl
  have hlen (H : Hp) : (tower (G5 p) rows5 58 4 false).app (.top (.builtin "len")) [.str (textOf ns)] H = okH (.int (textOf ns).length) H := by
    rw [tower_b]; rfl
  have lk : (σ.set "text" (.str (textOf ns))).loc.lookup ("text" : Str) = some (.str (textOf ns)) := by rw [look_set, if_pos rfl]
  refine ⟨σ.set "text" (.str (textOf ns)), ?_, (σ.set "text" (.str (textOf ns))).set "size" (.int (textOf ns).length), ?_, ?_⟩
  · simp only [s4, ex, ev, h.cel, h.o0, Rs.bind, g2, argR, List.cons_append, List.nil_append, hj, okH, Rs.lift]
  · simp only [s5, ex, ev, lk, Rs.bind, hg, argR, hlen, okH, Rs.lift]
  · refine ⟨⟨?_, h.cel, h.o0, h.o2, h.nxt⟩, ?_, ?_⟩
    · rw [look_set, if_neg (by decide), look_set, if_neg (by decide)]; exact h.scr
    · rw [look_set, if_neg (by decide)]; exact lk
    · rw [look_set, if_pos rfl]

theorem its_rows {H : Hp} (n : Nat) : itsV H (.rng 1 ((n : Int) + 1) 1) = some ((List.range n).map fun (i : Nat) => .int (1 + (i : Int) * 1)) := by
  have hsz : (Builtin.Range.rangeSize 1 ((n : Int) + 1) 1).toNat = n := by
    rw [rangeSize_one]; split <;> omega
  unfold itsV
  dsimp only
  rw [hsz]
theorem e_sts (ns : List Int) : ((List.range (rowsOf ns).length).map fun (i : Nat) => V.int (1 + (i : Int) * 1)).filterMap (fun v => match v with | .int x => some (V.int (((linesOf ns).take x.toNat).flatten.length : Nat)) | _ => none) = ((stsOf ns).map Int.ofNat).map .int := by
  rw [List.filterMap_map]
  unfold stsOf
  rw [starts_list, List.map_map, List.map_map]
  have hll : (linesOf ns).length = (rowsOf ns).length := by unfold linesOf; simp
  rw [hll]
  generalize List.range (rowsOf ns).length = l
  induction l with
  | nil => rfl
  | cons i r ih =>
    rw [List.filterMap_cons, List.map_cons]
    simp only [Function.comp] at ih ⊢
    rw [ih, show (1 + (i : Int) * 1).toNat = i + 1 by omega]
    rfl
theorem cut_rows (l : List Str) (i : Nat) (hi : i < l.length) : cut (l.map V.str) none (some (1 + (i : Int) * 1)) = (l.take (i + 1)).map .str := by
  unfold cut
  have : clipAt (l.map V.str).length (1 + (i : Int) * 1) = i + 1 := by
    unfold clipAt
    rw [if_neg (by omega), List.length_map]
    omega
  simp only [Option.elim_some, Option.elim_none, this, List.drop_zero, Nat.sub_zero, ← List.map_take]
theorem hT_rows (ns : List Int) (i : Nat) : (Txt.join ⟨#[]⟩ ((rowsOf ns).take (i + 1))).length = ((linesOf ns).take (1 + (i : Int) * 1).toNat).flatten.length := by
  have := congrArg List.length (join_empty ((rowsOf ns).take (i + 1)))
  rw [show (1 + (i : Int) * 1).toNat = i + 1 by omega]
  unfold linesOf
  rw [← List.map_take, ← this]
  simp [Str.length]

end
end Mine.L05
end
section
set_option Elab.async false
set_option linter.all false
set_option linter.unusedSimpArgs false
set_option maxRecDepth 100000
set_option maxHeartbeats 4000000
namespace Mine.L05
open PySem PySem.W PyProof.Rows Mine

section
variable {p : Params} {ns : List Int}
theorem ev_call {cx : Cx} {f as : X} {σ σ₁ σ₂ : St} {vf : V} {xs : List V} (hf : ev cx f σ = .ok vf σ₁) (ha : ev cx as σ₁ = .ok (.list xs) σ₂) : ev cx (.call f as) σ = (cx.app vf xs σ₂.toHp).lift σ₂ := by
  rw [ev, hf]
  show (ev cx as σ₁).bind _ = _
  rw [ha]
  rfl
theorem ev_cons {cx : Cx} {a as : X} {σ σ₁ σ₂ : St} {v : V} {xs : List V} (hf : ev cx a σ = .ok v σ₁) (ha : ev cx as σ₁ = .ok (.list xs) σ₂) : ev cx (.cons a as) σ = .ok (.list (v :: xs)) σ₂ := by
  rw [ev, hf]
  show (ev cx as σ₁).bind _ = _
  rw [ha]
  rfl
theorem ev_nil {cx : Cx} {σ : St} : ev cx .nil σ = .ok (.list []) σ := by rw [ev]
theorem ev_glob {cx : Cx} {σ : St} {x : Str} {v : V} (h : cx.gl x = some v) : ev cx (.glob x) σ = .ok v σ := by rw [ev, h]

theorem s6_it {σ : St} (h : P5 ns σ) : ev (tower (G5 p) rows5 58 4 false).toCx (.call (.glob "range") (.cons (.int 1) (.cons (.bin .Add (.call (.glob "len") (.cons (.cv "rows") .nil)) (.int 1)) .nil))) σ = .ok (.rng 1 ((rowsOf ns).length + 1) 1) σ := by
  have hal : asList σ.toHp (.ref 2) = some ((rowsOf ns).map .str) := by unfold asList; simp only [h.o2]
  have hg : (tower (G5 p) rows5 58 4 false).gl "len" = some (.top (.builtin "len")) := by rw [tower_gl]; rfl
  have hgr : (tower (G5 p) rows5 58 4 false).gl "range" = some (.top (.type "range")) := by rw [tower_gl]; rfl
  have hle := rows_le ns
  have hlen : (tower (G5 p) rows5 58 4 false).app (.top (.builtin "len")) [.ref 2] σ.toHp = okH (.int (rowsOf ns).length) σ.toHp := by
    rw [tower_b]; unfold bapp; rw [if_pos rfl]; simp [lenB, hal]
  have hsm : Builtin.Range.small 1 ((rowsOf ns).length + 1) 1 = true := small_one (by omega) (by omega) (by omega) (by omega)
  have hr : (tower (G5 p) rows5 58 4 false).app (.top (.type "range")) [.int 1, .int ((rowsOf ns).length + 1)] σ.toHp = okH (.rng 1 ((rowsOf ns).length + 1) 1) σ.toHp := by
    rw [tower_t]; unfold tapp; rw [if_pos rfl]; unfold rangeB; simp only [hsm, if_true]
  have bA : binV σ.toHp .Add (.int (rowsOf ns).length) (.int 1) = .ok (.int ((rowsOf ns).length + 1)) := rfl
  have e1 : ev (tower (G5 p) rows5 58 4 false).toCx (.call (.glob "len") (.cons (.cv "rows") .nil)) σ = .ok (.int (rowsOf ns).length) σ := by
    simp only [ev, hg, h.cel, h.o0, Rs.bind, argR, hlen, okH, Rs.lift]
  have e2 : ev (tower (G5 p) rows5 58 4 false).toCx (.bin .Add (.call (.glob "len") (.cons (.cv "rows") .nil)) (.int 1)) σ = .ok (.int ((rowsOf ns).length + 1)) σ := ev_bin e1 ev_int bA
  rw [ev_call (ev_glob hgr) (ev_cons ev_int (ev_cons e2 ev_nil)), hr]
  rfl

theorem s6_el {σ : St} (h : P5 ns σ) (i : Nat) (hi' : i < (rowsOf ns).length) : (ev (tower (G5 p) rows5 58 4 false).toCx (.bool true) ⟨σ.toHp, [("k", .int (1 + (i : Int) * 1))], σ.cel⟩).bind (fun b σ₃ => condO b σ₃ (ev (tower (G5 p) rows5 58 4 false).toCx (.call (.glob "len") (.cons (.meth (.str "") "join" (.cons (.slc (.cv "rows") .none (.var "k")) .nil)) .nil))))
    = .ok (some (.int (((linesOf ns).take (1 + (i : Int) * 1).toNat).flatten.length : Nat))) ⟨σ.toHp, [("k", .int (1 + (i : Int) * 1))], σ.cel⟩ := by
  have hle := rows_le ns
  have g2 : (tower (G5 p) rows5 58 4 false).get (.str "") "join" σ.toHp = some (.top (.builtin "str.join"), [.str ""]) := by rw [tower_get]; rfl
  have hg : (tower (G5 p) rows5 58 4 false).gl "len" = some (.top (.builtin "len")) := by rw [tower_gl]; rfl
  have lk (u : V) : List.lookup ("k" : Str) [(("k" : Str), u)] = some u := by simp [List.lookup]
  have hcut := cut_rows (rowsOf ns) i hi'
  have hj : (tower (G5 p) rows5 58 4 false).app (.top (.builtin "str.join")) [.str "", .list (((rowsOf ns).take (i + 1)).map .str)] σ.toHp = okH (.str (Txt.join ⟨#[]⟩ ((rowsOf ns).take (i + 1)))) σ.toHp := by
    rw [tower_b]; exact join_rows (fun r hr => isRows ns r (List.mem_of_mem_take hr)) (by simp; omega) rfl
  have hlen' (T : Str) (H : Hp) : (tower (G5 p) rows5 58 4 false).app (.top (.builtin "len")) [.str T] H = okH (.int T.length) H := by
    rw [tower_b]; rfl
  have hT := hT_rows ns i
  simp only [ev, Rs.bind, condO, truV, lk, hg, g2, h.cel, h.o0, argR, slcV, asPart, asList, h.o2, hcut, Ov.st, List.cons_append, List.nil_append, hj, okH, Rs.lift, hlen', hT]

theorem s6_ev {σ : St} (h : P5 ns σ) : ev (tower (G5 p) rows5 58 4 false).toCx s6e σ = .ok (.list (((stsOf ns).map Int.ofNat).map .int)) σ := by
  have hle := rows_le ns
  have key := ev_comp_pure (cx := (tower (G5 p) rows5 58 4 false).toCx) (σ := σ) (elt := (.call (.glob "len") (.cons (.meth (.str "") "join" (.cons (.slc (.cv "rows") .none (.var "k")) .nil)) .nil))) (it := (.call (.glob "range") (.cons (.int 1) (.cons (.bin .Add (.call (.glob "len") (.cons (.cv "rows") .nil)) (.int 1)) .nil)))) (cond := .bool true) (x := "k") (vi := .rng 1 ((rowsOf ns).length + 1) 1) (xs := (List.range (rowsOf ns).length).map fun (i : Nat) => .int (1 + (i : Int) * 1))
    (fun v => match v with | .int x => some (.int (((linesOf ns).take x.toNat).flatten.length : Nat)) | _ => none) (tower_calm _ _) (s6_it h) (its_rows _) ?_ ?_
  · refine key.trans ?_
    exact congrArg (fun l => Rs.ok (V.list l) σ) (e_sts ns)
  · intro y hy
    obtain ⟨i, hi, rfl⟩ := List.mem_map.mp hy
    exact s6_el h i (by simpa using hi)
  · refine Nat.le_trans (List.length_filterMap_le _ _) ?_
    rw [sizeLine_eq, List.length_map, List.length_range]; omega

theorem st6 {hx : Sx} {σ : St} (h : P5 ns σ) : ∃ σ', ex s6 (tower (G5 p) rows5 58 4 false) hx σ = .ok .next σ' ∧ Base ns σ' := by
  have key := s6_ev (p := p) h
  have hev : ex s6 (tower (G5 p) rows5 58 4 false) hx σ = .ok .next ((σ.add (.list (((stsOf ns).map Int.ofNat).map .int))).set "starts" (.ref σ.nxt)) := by
    unfold s6
    rw [ex, key]
    rfl
  refine ⟨_, hev, ?_⟩
  have hn := h.nxt
  refine ⟨?_, ?_, ?_, ?_, h.cel, ?_, ?_, ?_, ?_⟩
  · rw [look_set, if_neg (by decide)]; exact h.scr
  · rw [look_set, if_neg (by decide)]; exact h.txt
  · rw [look_set, if_neg (by decide)]; exact h.siz
  · rw [look_set, if_pos rfl, hn]
  · show (if 0 = σ.nxt then _ else σ.obj 0) = _
    rw [if_neg (by omega)]; exact h.o0
  · show (if 2 = σ.nxt then _ else σ.obj 2) = _
    rw [if_neg (by omega)]; exact h.o2
  · show (if 3 = σ.nxt then _ else σ.obj 3) = _
    rw [if_pos hn.symm]
  · show 4 ≤ σ.nxt + 1
    omega
end
end Mine.L05
end
section
set_option Elab.async false
set_option linter.all false
set_option linter.unusedSimpArgs false
set_option maxRecDepth 100000
set_option maxHeartbeats 4000000
namespace Mine.L05
open PySem PySem.W PyProof.Rows Mine

section
variable {p : Params} {ns : List Int}

noncomputable def it1 : X := (.bin .Add (.call (.glob "list") (.cons (.call (.glob "range") (.cons (.bin .Sub (.neg (.var "size")) (.int 3)) (.cons (.bin .Add (.var "size") (.int 4)) .nil))) .nil)) (.slc (.var "script") .none (.int 16)))
noncomputable def it2 : X := (.bin .Add (.list (.cons (.int 0) (.cons (.int 1) (.cons (.neg (.int 1)) .nil)))) (.slc (.var "script") .none (.int 16)))
noncomputable def bare_S : S := (.asg "bare" (.call (.glob "Parser") (.cons (.int 4) (.cons (.int 8) .nil))))
theorem law_eq : law_S = .seq s1 (.seq s2 (.seq s3 (.seq s4 (.seq s5 (.seq s6 (.seq (.each "lo" it1 turn_S) (.seq bare_S (.seq (.each "lo" it2 turn2_S) (.seq (.ret (.bool true)) .nil))))))))) := rfl

noncomputable def isIntV : V → Prop | .int _ => True | _ => False

theorem cut16 {H : Hp} (ns : List Int) : ∃ l : List Int, slcV H (.list (ns.map .int)) .none (.int 16) = .ok (.list (l.map .int)) ∧ l.length ≤ ns.length := by
  refine ⟨cut ns none (some 16), ?_, ?_⟩
  · unfold slcV
    simp only [asPart, asList]
    have : cut (ns.map V.int) none (some 16) = (cut ns none (some 16)).map .int := by
      unfold cut
      simp only [List.length_map, Option.elim_some, Option.elim_none, List.drop_zero, Nat.sub_zero, List.map_take]
    rw [this]
  · unfold cut; simp; omega

theorem it1_ok {σ : St} (B : Base ns σ) (hl : ns.length ≤ 63) : ∃ l : List Int, ev (tower (G5 p) rows5 58 4 false).toCx it1 σ = .ok (.list (l.map .int)) σ := by
  obtain ⟨l2, c2, hl2⟩ := cut16 (H := σ.toHp) ns
  have hsz := size_le ns
  have hgr : (tower (G5 p) rows5 58 4 false).gl "range" = some (.top (.type "range")) := by rw [tower_gl]; rfl
  have hgl : (tower (G5 p) rows5 58 4 false).gl "list" = some (.top (.type "list")) := by rw [tower_gl]; rfl
  have ev1 : ev (tower (G5 p) rows5 58 4 false).toCx (.var "size") σ = .ok (.int (textOf ns).length) σ := ev_var B.siz
  generalize hm : ((textOf ns).length : Int) = m at ev1
  have hm0 : 0 ≤ m := by omega
  have hm1 : m ≤ 36 := by omega
  have ev2 : ev (tower (G5 p) rows5 58 4 false).toCx (.bin .Sub (.neg (.var "size")) (.int 3)) σ = .ok (.int (-m - 3)) σ := by
    refine ev_bin (u := .int (-m)) (σ₁ := σ) ?_ ev_int rfl
    rw [ev, ev1]; rfl
  have ev3 : ev (tower (G5 p) rows5 58 4 false).toCx (.bin .Add (.var "size") (.int 4)) σ = .ok (.int (m + 4)) σ := ev_bin ev1 ev_int rfl
  have hr : (tower (G5 p) rows5 58 4 false).app (.top (.type "range")) [.int (-m - 3), .int (m + 4)] σ.toHp = okH (.rng (-m - 3) (m + 4) 1) σ.toHp := by
    rw [tower_t]; unfold tapp; rw [if_pos rfl]; unfold rangeB
    have : Builtin.Range.small (-m - 3) (m + 4) 1 = true := small_one (by omega) (by omega) (by omega) (by omega)
    simp only [this, if_true]
  have ev4 : ev (tower (G5 p) rows5 58 4 false).toCx (.call (.glob "range") (.cons (.bin .Sub (.neg (.var "size")) (.int 3)) (.cons (.bin .Add (.var "size") (.int 4)) .nil))) σ = .ok (.rng (-m - 3) (m + 4) 1) σ := by
    rw [ev_call (ev_glob hgr) (ev_cons ev2 (ev_cons ev3 ev_nil)), hr]; rfl
  have hrs : Builtin.Range.rangeSize (-m - 3) (m + 4) 1 = 2 * m + 7 := by rw [rangeSize_one, if_pos (by omega)]; omega
  have hli : (tower (G5 p) rows5 58 4 false).app (.top (.type "list")) [.rng (-m - 3) (m + 4) 1] σ.toHp = okH (.list (rngOf (-m - 3) (m + 4) 1)) σ.toHp := by
    rw [tower_t]; unfold tapp; rw [if_neg (by decide), if_pos rfl]
    show (if _ then _ else _) = _
    rw [if_pos ⟨rfl, by rw [hrs]; omega, by rw [hrs]; omega⟩]
  have ev5 : ev (tower (G5 p) rows5 58 4 false).toCx (.call (.glob "list") (.cons (.call (.glob "range") (.cons (.bin .Sub (.neg (.var "size")) (.int 3)) (.cons (.bin .Add (.var "size") (.int 4)) .nil))) .nil)) σ = .ok (.list (rngOf (-m - 3) (m + 4) 1)) σ := by
    rw [ev_call (ev_glob hgl) (ev_cons ev4 ev_nil), hli]; rfl
  have ev6 : ev (tower (G5 p) rows5 58 4 false).toCx (.slc (.var "script") .none (.int 16)) σ = .ok (.list (l2.map .int)) σ := by
    rw [ev, ev_var B.scr]
    show (slcV σ.toHp (.list (ns.map .int)) .none (.int 16)).st σ = _
    rw [c2]; rfl
  obtain ⟨l1, e1⟩ : ∃ l1 : List Int, rngOf (-m - 3) (m + 4) 1 = l1.map .int := by
    refine ⟨(List.range (Builtin.Range.rangeSize (-m - 3) (m + 4) 1).toNat).map fun (i : Nat) => (-m - 3) + (i : Int) * 1, ?_⟩
    unfold rngOf
    rw [List.map_map]; rfl
  have hl1 : l1.length ≤ 100 := by
    have := congrArg List.length e1
    unfold rngOf at this
    simp only [List.length_map, List.length_range, hrs] at this
    omega
  rw [e1] at ev5
  refine ⟨l1 ++ l2, ?_⟩
  unfold it1
  refine ev_bin ev5 ev6 ?_
  rw [bAddL (by rw [sizeLine_eq]; simp; omega), List.map_append]

theorem it2_ok {σ : St} (hs : σ.loc.lookup ("script" : Str) = some (.list (ns.map .int))) (hl : ns.length ≤ 63) : ∃ l : List Int, ev (tower (G5 p) rows5 58 4 false).toCx it2 σ = .ok (.list (l.map .int)) σ := by
  obtain ⟨l2, c2, hl2⟩ := cut16 (H := σ.toHp) ns
  have ev6 : ev (tower (G5 p) rows5 58 4 false).toCx (.slc (.var "script") .none (.int 16)) σ = .ok (.list (l2.map .int)) σ := by
    rw [ev, ev_var hs]
    show (slcV σ.toHp (.list (ns.map .int)) .none (.int 16)).st σ = _
    rw [c2]; rfl
  have ev5 : ev (tower (G5 p) rows5 58 4 false).toCx (.list (.cons (.int 0) (.cons (.int 1) (.cons (.neg (.int 1)) .nil)))) σ = .ok (.list (([0, 1, -1] : List Int).map .int)) σ := by
    have en : ev (tower (G5 p) rows5 58 4 false).toCx (.neg (.int 1)) σ = .ok (.int (-1)) σ := by rw [ev, ev_int]; rfl
    rw [ev, ev_cons ev_int (ev_cons ev_int (ev_cons en ev_nil))]
    show fits [V.int 0, V.int 1, V.int (-1)].length (Rs.ok (V.list [V.int 0, V.int 1, V.int (-1)]) σ) = _
    rw [fitsN (by decide)]
    rfl
  refine ⟨[0, 1, -1] ++ l2, ?_⟩
  unfold it2
  refine ev_bin ev5 ev6 ?_
  rw [bAddL (by rw [sizeLine_eq]; simp; omega), List.map_append]

theorem sq {a b : S} {cx hx : Sx} {σ σ' : St} (h : ex a cx hx σ = .ok .next σ') : ex (.seq a b) cx hx σ = ex b cx hx σ' := (Rs.bind_ok h : _)

theorem loop1 {σ : St} (B : Base ns σ) (hl : ns.length ≤ 63) : ∃ σ', ex (.each "lo" it1 turn_S) (tower (G5 p) rows5 58 4 false) (tower (G5 p) rows5 58 4 true) σ = .ok .next σ' ∧ Base ns σ' := by
  obtain ⟨l, e⟩ := it1_ok (p := p) B hl
  have key : Gd (ex (.each "lo" it1 turn_S) (tower (G5 p) rows5 58 4 false) (tower (G5 p) rows5 58 4 true) σ) (fun f σ' => f = .next ∧ Base ns σ') := by
    refine gd_each (tower_calm _ _) e rfl (fun l' σ' => Base ns σ' ∧ ∀ y ∈ l', ∃ i : Int, y = .int i) ⟨B, fun y hy => ?_⟩ (fun _ _ _ => rfl) (fun y r σ' ⟨B', hi⟩ => ?_) (fun σ' h => ⟨rfl, h.1⟩)
    · obtain ⟨i, _, rfl⟩ := List.mem_map.mp hy; exact ⟨i, rfl⟩
    · obtain ⟨i, rfl⟩ := hi y (.head _)
      obtain ⟨σ2, e2, B2⟩ := turn_ok (p := p) (lo := i) (B'.set (x := "lo") (v := .int i) (by decide) (by decide) (by decide) (by decide)) (by rw [look_set, if_pos rfl])
      exact ⟨.next, σ2, e2, B2, fun z hz => hi z (.tail _ hz)⟩
  obtain ⟨f, σ', e', rfl, B'⟩ := key
  exact ⟨σ', e', B'⟩

structure Bare (ns : List Int) (k d : Nat) (σ : St) : Prop where
  scr : σ.loc.lookup ("script" : Str) = some (.list (ns.map .int))
  bar : σ.loc.lookup ("bare" : Str) = some (.ref k)
  has : Has σ.toHp k d [("indentwidth", .int 4), ("tabwidth", .int 8)]

theorem loop2 {σ : St} {k d : Nat} (B : Bare ns k d σ) (hl : ns.length ≤ 63) : ∃ σ', ex (.each "lo" it2 turn2_S) (tower (G5 p) rows5 58 4 false) (tower (G5 p) rows5 58 4 true) σ = .ok .next σ' := by
  obtain ⟨l, e⟩ := it2_ok (p := p) B.scr hl
  have key : Gd (ex (.each "lo" it2 turn2_S) (tower (G5 p) rows5 58 4 false) (tower (G5 p) rows5 58 4 true) σ) (fun f σ' => f = .next) := by
    refine gd_each (tower_calm _ _) e rfl (fun l' σ' => Bare ns k d σ' ∧ ∀ y ∈ l', ∃ i : Int, y = .int i) ⟨B, fun y hy => ?_⟩ (fun _ _ _ => rfl) (fun y r σ' ⟨B', hi⟩ => ?_) (fun σ' h => rfl)
    · obtain ⟨i, _, rfl⟩ := List.mem_map.mp hy; exact ⟨i, rfl⟩
    · obtain ⟨i, rfl⟩ := hi y (.head _)
      have t := turn2_ok (p := p) (σ := σ'.set "lo" (.int i)) (lo := i) (k := k) (d := d) (by rw [look_set, if_pos rfl]) (by rw [look_set, if_neg (by decide)]; exact B'.bar) B'.has
      refine ⟨.next, _, t, ⟨?_, ?_, B'.has⟩, fun z hz => hi z (.tail _ hz)⟩
      · rw [look_set, if_neg (by decide), look_set, if_neg (by decide)]; exact B'.scr
      · rw [look_set, if_neg (by decide), look_set, if_neg (by decide)]; exact B'.bar
  obtain ⟨f, σ', e', rfl⟩ := key
  exact ⟨σ', e'⟩

theorem plain5 : Plain5 := by
  intro p ns hl
  rw [law_eq]
  obtain ⟨σ1, e1, h1⟩ := st1 (p := p) (hx := tower (G5 p) rows5 58 4 true) hl
  obtain ⟨σ2, e2, h2⟩ := st2 (p := p) (hx := tower (G5 p) rows5 58 4 true) h1 hl
  obtain ⟨σ3, e3, h3⟩ := st3 (p := p) (hx := tower (G5 p) rows5 58 4 true) h2
  obtain ⟨σ4, e4, σ5, e5, h5⟩ := st45 (p := p) (hx := tower (G5 p) rows5 58 4 true) h3
  obtain ⟨σ6, e6, h6⟩ := st6 (p := p) (hx := tower (G5 p) rows5 58 4 true) h5
  obtain ⟨σ7, e7, h7⟩ := loop1 (p := p) h6 hl
  obtain ⟨H8, m1, m2, m3, m4⟩ := make5 (p := p) false σ7
  have e8 : ex bare_S (tower (G5 p) rows5 58 4 false) (tower (G5 p) rows5 58 4 true) σ7 = .ok .next (({ σ7 with toHp := H8 } : St).set "bare" (.ref (σ7.nxt + 1))) := by
    have hg : (tower (G5 p) rows5 58 4 false).gl "Parser" = some (.top (.ref 152)) := by rw [tower_gl]; rfl
    simp only [bare_S, ex, ev, hg, Rs.bind, argR, m1]
  have h8 : Bare ns (σ7.nxt + 1) σ7.nxt (({ σ7 with toHp := H8 } : St).set "bare" (.ref (σ7.nxt + 1))) :=
    ⟨by rw [look_set, if_neg (by decide)]; exact h7.scr, by rw [look_set, if_pos rfl], m2⟩
  obtain ⟨σ9, e9⟩ := loop2 (p := p) h8 hl
  refine ⟨σ9, ?_⟩
  rw [sq e1, sq e2, sq e3, sq e4, sq e5, sq e6, sq e7, sq e8, sq e9]
  rfl
end
end Mine.L05
end
set_option maxRecDepth 100000 in
theorem PySem.Challenge.cw_dm0167_05_holds : PySem.Challenge.rw_dm0167_05.Holds :=
  Mine.L05.joined Mine.L05.plain5
