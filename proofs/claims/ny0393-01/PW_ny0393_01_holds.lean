import PyProof.Rows.All
import Wide.All
import OpenK.AllK
import Wide.FinOn
import Lean
import PySem.Challenge.RW_ny0393_01
set_option Elab.async false
set_option maxRecDepth 100000
set_option maxHeartbeats 0
set_option linter.all false
set_option genSizeOf false
set_option genSizeOfSpec false
set_option genInjectivity false
set_option compiler.extract_closed false
set_option compiler.reuse false
namespace Mine
section
open Nat.Internal.Linear in
/- orders of natural numbers, each with how often it is taken -/
inductive Ord1 where
  | nil
  | le (k : Nat) (l r : Expr) (c : Ord1)
  | nle (k : Nat) (l r : Expr) (c : Ord1)
  | eq (k : Nat) (l r : Expr) (c : Ord1)
  | eqs (k : Nat) (l r : Expr) (c : Ord1)
open Nat.Internal.Linear in
noncomputable def Ord1.imp (ctx : Context) (G : Prop) (c : Ord1) : Prop :=
  Ord1.rec (motive := fun _ => Prop) G
    (fun _ l r _ p => l.denote ctx ≤ r.denote ctx → p)
    (fun _ l r _ p => ¬ l.denote ctx ≤ r.denote ctx → p)
    (fun _ l r _ p => l.denote ctx = r.denote ctx → p)
    (fun _ l r _ p => l.denote ctx = r.denote ctx → p) c
open Nat.Internal.Linear in
noncomputable def Ord1.sum (c : Ord1) (L R : Expr) : Bool :=
  Ord1.rec (motive := fun _ => Expr → Expr → Bool) (fun L R => (ExprCnstr.mk false L R).toNormPoly.isUnsat)
    (fun k l r _ p L R => p (.add L (.mulL k l)) (.add R (.mulL k r)))
    (fun k l r _ p L R => p (.add L (.mulL k (.add r (.num 1)))) (.add R (.mulL k l)))
    (fun k l r _ p L R => p (.add L (.mulL k l)) (.add R (.mulL k r)))
    (fun k l r _ p L R => p (.add L (.mulL k r)) (.add R (.mulL k l))) c L R
open Nat.Internal.Linear in
theorem Ord1.of (ctx : Context) (G : Prop) : ∀ (c : Ord1) (L R : Expr), (L.denote ctx ≤ R.denote ctx ∨ G) → c.sum L R = true → c.imp ctx G
  | .nil, L, R, h, e => by
    have h := h
    cases h with
    | inr h => exact h
    | inl h =>
      have := ExprCnstr.eq_false_of_isUnsat ctx ⟨false, L, R⟩ e
      exact (this ▸ h : False).elim
  | .le k l r c, L, R, h, e => fun p => of ctx G c _ _ (h.imp_left fun h => Nat.add_le_add h (Nat.mul_le_mul_left k p)) e
  | .nle k l r c, L, R, h, e => fun p => of ctx G c _ _ (h.imp_left fun h => Nat.add_le_add h (Nat.mul_le_mul_left k (Nat.lt_of_not_le p))) e
  | .eq k l r c, L, R, h, e => fun p => of ctx G c _ _ (h.imp_left fun h => Nat.add_le_add h (Nat.mul_le_mul_left k (Nat.le_of_eq p))) e
  | .eqs k l r c, L, R, h, e => fun p => of ctx G c _ _ (h.imp_left fun h => Nat.add_le_add h (Nat.mul_le_mul_left k (Nat.le_of_eq p.symm))) e
theorem intLo {i : Int} (h : 0 ≤ i) : -2 ^ 63 ≤ i := Int.le_trans (by decide) h
theorem intHi {i k : Int} (h : i < k) (hk : k ≤ 2 ^ 63) : i < 2 ^ 63 := Int.lt_of_lt_of_le h hk
open Nat.Internal.Linear in
theorem lin_no (ctx : Context) (c : Ord1) (e : c.sum (.num 0) (.num 0) = true) : c.imp ctx False :=
  Ord1.of ctx _ c _ _ (.inl (Nat.le_refl _)) e
open Nat.Internal.Linear in
theorem lin_le (ctx : Context) (l r : Expr) (c : Ord1) (e : c.sum (.add r (.num 1)) l = true) : c.imp ctx (l.denote ctx ≤ r.denote ctx) :=
  Ord1.of ctx _ c _ _ ((Nat.lt_or_ge _ _).imp_right id) e
theorem drop_lt {α : Type} {l r : List α} {m : Nat} {x : α} (h : l.drop m = x :: r) : m < l.length := by
  apply Nat.lt_of_not_le
  intro z
  rw [List.drop_of_length_le z] at h
  cases h
theorem drop_gt {α : Type} {l r : List α} {m q : Nat} {P : α → Bool} (hl : m < l.length) (hr : l.drop (m + 1) = r) (h : l.drop q = r.dropWhile P) : m < q := by
  apply Nat.lt_of_not_le
  intro z
  have h1 := congrArg List.length h
  have h2 := (List.dropWhile_suffix (l := r) P).length_le
  rw [← hr] at h1 h2
  rw [List.length_drop] at h1 h2
  rw [← h1] at h2
  exact absurd (Nat.sub_lt_sub_left hl (Nat.lt_succ_self m)) (Nat.not_lt_of_le (Nat.le_trans (Nat.sub_le_sub_left z _) h2))
open Lean Meta Elab Tactic
namespace Drv
/- small words, none of them taken apart by the compiler at each use -/
def isC (e : Expr) (s : String) (n : Nat) : Bool := e.isAppOfArity s.toName n
def isK (e : Expr) (s : String) : Bool := e.isAppOf s.toName
def ap (s : String) (as : List Expr) (ls : List Level := []) : Expr := mkAppN (mkConst s.toName ls) as.toArray
def ap0 (s : String) (as : List Expr) : Expr := ap s as [0]
def ap1 (s : String) (as : List Expr) : Expr := ap s as [1]
def arg (e : Expr) (i : Nat) : Expr := e.getArgD i e
def lst (e : Expr) : Expr := e.getRevArgD 0 e
def fn (e : Expr) : Expr := e.getBoundedAppFn 1
def body (e : Expr) : Expr := match e with | .lam _ _ b _ => b | e => e
/- f, that may call itself -/
def fixM {α β : Type} (z : α → MetaM β) (f : (α → MetaM β) → α → MetaM β) : Nat → α → MetaM β
  | 0 => z
  | n + 1 => f (fixM z f n)
def fix {α β : Type} : ((α → MetaM β) → α → MetaM β) → Nat → α → MetaM β := fixM fun _ => throwError "deep"
def fixP {α β : Type} (z : α → β) (f : (α → β) → α → β) : Nat → α → β
  | 0 => z
  | n + 1 => f (fixP z f n)
def fold {α σ : Type} (f : σ → α → σ) (s : σ) : List α → σ
  | [] => s
  | a :: r => fold f (f s a) r
def foldM' {α σ : Type} (f : σ → α → MetaM σ) (s : σ) : List α → MetaM σ
  | [] => pure s
  | a :: r => do foldM' f (← f s a) r
/- again and again, till it says no -/
def rep {σ : Type} (f : σ → MetaM (Bool × σ)) (n : Nat) (s : σ) : MetaM σ := fixM pure (fun go s => do
    let r ← f s
    if r.1 then go r.2 else pure r.2) n s
/- the first of which f tells something -/
def fst {α β : Type} (f : α → MetaM (Option β)) (l : List α) : MetaM (Option β) :=
  foldM' (fun o a => if o.isSome then pure o else f a) none l
def mapM' {α β : Type} (f : α → MetaM β) (l : List α) : MetaM (List β) := do
  return (← foldM' (fun o a => do return (← f a) :: o) [] l).reverse
def map' {α β : Type} (f : α → β) (l : List α) : List β := (fold (fun o a => f a :: o) [] l).reverse
def all' {α : Type} (f : α → Bool) (l : List α) : Bool := fold (fun o a => if o then f a else o) true l
def filter' {α : Type} (f : α → Bool) (l : List α) : List α := (fold (fun o a => if f a then a :: o else o) [] l).reverse
def number {α : Type} (l : List α) : List (Nat × α) := (fold (fun (o : Nat × List (Nat × α)) a => (o.1 + 1, (o.1, a) :: o.2)) (0, []) l).2.reverse
/- the first of which f says yes, and the others -/
def pull {α : Type} (f : α → Bool) (l : List α) : Option (α × List α) :=
  let r := fold (fun (o : Option α × List α) a => if o.1.isNone && f a then (some a, o.2) else (o.1, a :: o.2)) (none, []) l
  match r.1 with
  | some a => some (a, r.2.reverse)
  | none => none
def find' {α : Type} (f : α → Bool) (l : List α) : Option α := fold (fun o a => if o.isNone && f a then some a else o) none l
/- what stands in the context: type, name -/
def locs : MetaM (List (Expr × Expr)) := do
  let l ← getLCtx
  mapM' (fun i => do return (← instantiateMVars (l.get! i).type, mkFVar i)) (filter' (fun i => !(l.get! i).isImplementationDetail) l.getFVarIds.toList)
/- done, or as before -/
def optM {α : Type} (x : MetaM (Option α)) : MetaM (Option α) := do
  let s ← saveState
  let r ← try x catch _ => pure none
  if r.isNone then s.restore
  return r
/- a goal by a line of tactics -/
def byTac (g : MVarId) (s : String) : MetaM (List MVarId) := do
  let x ← ofExcept (Parser.runParserCategory (← getEnv) `tactic s)
  (Tactic.run g (evalTactic x)).run'
def fail {α : Type} (s : String) : MetaM α := throwError s
abbrev LRow := List Int × List Int × Bool
def gt (l : List Int) (i : Nat) : Int := l.getD i 0
def numL? (e : Expr) : Option Nat := (if isC e "OfNat.ofNat" 3 then arg e 1 else e).rawNatLit?
def natL? (e : Expr) : Option Nat :=
  if isC e "Nat.zero" 0 then some 0 else if isC e "HPow.hPow" 6 then
    match numL? (arg e 4), numL? (arg e 5) with
    | some a, some b => if b < 100 then some (a ^ b) else none
    | _, _ => none
  else numL? e
def pAdd (a b : List Int) (x y : Int) : List Int :=
  map' (fun i => x * gt a i + y * gt b i) (List.range (max a.length b.length))
def one (i : Nat) (s : Int) : List Int := (List.replicate i (0 : Int)) ++ [s]
def lx (s : String) (as : List Expr) : Expr := ap ("Nat.Internal.Linear.Expr." ++ s) as
def isAdd (e : Expr) : Bool := isC e "HAdd.hAdd" 6 || isC e "Nat.add" 2 || isC e "Add.add" 4
/- the atom's number -/
def atom (at_ : IO.Ref (List Expr)) (e : Expr) : MetaM Nat := do
  let as ← at_.get
  let near (h : Expr → MetaM Bool) : MetaM (Option Nat) := fst (fun (a : Nat × Expr) => do if ← h a.2 then return some a.1 else return none) (number as)
  if let some i ← near (fun a => pure (a == e)) then return i
  if let some i ← near (fun a => if a.getAppFn == e.getAppFn then withReducible (isDefEq a e) else pure false) then return i
  at_.set (as ++ [e])
  return as.length
/- a sum, as the tree and as coefficients (the number first) -/
def reify (at_ : IO.Ref (List Expr)) (e : Expr) : MetaM (Expr × List Int) := fix (fun go (e : Expr) => do
    let e := e.consumeMData
    if let some n := natL? e then return (lx "num" [mkRawNatLit n], [(n : Int)])
    let two (s : String) (a b : Expr) (x y : List Int) (k : Int) : MetaM (Expr × List Int) := return (lx s [a, b], pAdd x y k 1)
    if isC e "Nat.succ" 1 then
      let (b, y) ← go (lst e)
      return ← two "add" b (lx "num" [mkRawNatLit 1]) y [1] 1
    let l := (lst (fn e))
    let r := (lst e)
    if isAdd e then
      let (a, x) ← go l
      let (b, y) ← go r
      return ← two "add" a b x y 1
    if isC e "HMul.hMul" 6 || isC e "Nat.mul" 2 then
      if let some k := natL? l then
        let (b, y) ← go r
        return ← two "mulL" (mkRawNatLit k) b y [] k
      if let some k := natL? r then
        let (b, y) ← go l
        return ← two "mulR" b (mkRawNatLit k) y [] k
    let i ← atom at_ e
    return (lx "var" [mkRawNatLit i], one (i + 1) 1)) 200 e
/- kind (le, nle, eq), the smaller side, the other; one more on the left or not -/
abbrev Ord := String × Expr × Expr × Bool
def ordOf (t : Expr) : MetaM (Option Ord) := do
  let t := t.consumeMData
  let n := isC t "Not" 1
  let t := if n then (lst t).consumeMData else t
  let le := isC t "LE.le" 4
  let lt := isC t "LT.lt" 4
  let gt := isC t "GT.gt" 4
  let eq := isC t "Eq" 3 && !n
  if le || lt || gt || eq || isC t "GE.ge" 4 then
    if (← whnfR (arg t 0)).isConstOf ``Nat then
      let a := (lst (fn t))
      let b := (lst t)
      return some (if eq then "eq" else if n then "nle" else "le", if le || lt || eq then (a, b, lt) else (b, a, gt))
  return none
def facts (pt : Expr × Expr) : MetaM (List (Expr × Ord)) := fix (fun go (pt : Expr × Expr) => do
    let t := pt.1.consumeMData
    if isC t "And" 2 then
      let a := (lst (fn t))
      let b := (lst t)
      return (← go (a, ap "And.left" [a, b, pt.2])) ++ (← go (b, ap "And.right" [a, b, pt.2]))
    match ← ordOf t with
    | some x => return [(pt.2, x)]
    | none => return []) 9 pt
/- a row that cannot be -/
def good (r : LRow) : Option LRow :=
  let pos (s : Int) : Bool := s * gt r.1 0 > 0 && all' (fun c => s * c ≥ 0) r.1.tail
  if pos 1 then some r
  else if r.2.2 && pos (-1) then some (pAdd r.1 [] (-1) 0, pAdd r.2.1 [] (-1) 0, r.2.2)
  else none
def comb (s t : Int) (a b : LRow) : LRow := (pAdd a.1 b.1 s t, pAdd a.2.1 b.2.1 s t, a.2.2 && b.2.2)
/- the rows where a variable stands below nothing, above, in an equation -/
def cost (rs : List LRow) (x : Nat) : Nat :=
  let n (f : Int → Bool) (e : Bool) : Nat := (filter' (fun r : LRow => f (gt r.1 x) && (r.2.2 || e)) rs).length
  if n (· != 0) false > 0 then 1 else 2 + n (· > 0) true * n (· < 0) true
/- a variable is driven out -/
def elim (x : Nat) (rs : List LRow) : List LRow :=
  match pull (fun r : LRow => r.2.2 && gt r.1 x != 0) rs with
  | some (e, rest) =>
    let c := gt e.1 x
    let s : Int := if c > 0 then 1 else -1
    -- the variable is no number below nothing
    map' (fun r : LRow => if gt r.1 x == 0 then r else comb c.natAbs (-s * gt r.1 x) r e) rest ++ [((pAdd e.1 [] s 0).set x 0, pAdd e.2.1 [] s 0, false)]
  | none =>
    fold (fun o (r : LRow) =>
      let c := gt r.1 x
      if c == 0 then o ++ [r]
      else if c > 0 then o ++ (r.1.set x 0, r.2) :: map' (fun s : LRow => comb (- gt s.1 x) c r s) (filter' (fun r : LRow => gt r.1 x < 0) rs)
      else o) [] rs
/- of two with the same left side the tighter -/
def tidy (rs : List LRow) : List LRow :=
  fold (fun o (r : LRow) =>
      match pull (fun q : LRow => !q.2.2 && !r.2.2 && q.1.tail == r.1.tail) o with
      | some (q, rest) => if gt q.1 0 < gt r.1 0 then r :: rest else o
      | none => r :: o) [] rs
/- Fourier and Motzkin, over natural numbers -/
def fm (n : Nat) (rows : List LRow) : Option LRow :=
  fixP (fun _ => none) (fun go (p : List Nat × List LRow) =>
    match find' (fun r => (good r).isSome) p.2 with
    | some r => good r
    | none =>
      -- the cheapest variable
      let b := fold (fun (b : Nat × Nat) x =>
        let w := cost p.2 x
        if w < b.2 then (x, w) else b) (0, 1000000000) p.1
      let rs := tidy (elim b.1 p.2)
      if b.1 == 0 || rs.length > 600 then none else go (filter' (· != b.1) p.1, rs)) (n + 1) ((List.range (n + 1)).tail, rows)
def Ord.lhs (x : Ord) : Expr := if x.2.2.2 then mkNatAdd x.2.1 (mkNatLit 1) else x.2.1
def sides (at_ : IO.Ref (List Expr)) (x : Ord) : MetaM (List (Expr × List Int)) := mapM' (reify at_) [Ord.lhs x, x.2.2.1]
def rowOf (at_ : IO.Ref (List Expr)) (neg : Bool) (i : Nat) (x : Ord) : MetaM LRow := do
  let s := map' (·.2) (← sides at_ x)
  let d := pAdd (s.headD []) (s.getD 1 []) 1 (-1)
  return if neg then (pAdd d [1] (-1) 1, one i 1, false) else (d, one i 1, x.1 == "eq")
/- what the goal touches -/
def touch (rows : List LRow) : List LRow :=
  let sq (r : LRow) : List Int := map' (fun c => c * c) r.1.tail
  fixP (fun _ => rows) (fun go (p : List LRow × List LRow × List Int) =>
    match pull (fun r => !all' (fun i => gt (sq r) i == 0 || gt p.2.2 i == 0) (List.range r.1.length)) p.2.1 with
    | none => p.1
    | some (r, rest) => go (p.1 ++ [r], rest, pAdd p.2.2 (sq r) 1 1)) 1000 (rows.take 1, rows.tail, sq (rows.headD ([], [], false)))
def tree (as : List Expr) : Expr :=
  fixP (fun _ => default) (fun go (p : Nat × Nat) =>
    let mid := (p.1 + p.2) / 2
    if p.1 + 1 ≥ p.2 then ap0 "Lean.RArray.leaf" [mkConst ``Nat, as.getD p.1 (mkRawNatLit 0)]
    else ap0 "Lean.RArray.branch" [mkConst ``Nat, mkRawNatLit mid, go (p.1, mid), go (mid, p.2)]) 20 (0, as.length)
def boolE (b : Bool) : Expr := if b then mkConst ``Bool.true else mkConst ``Bool.false
def reflT (b : Bool) : Expr := ap1 "Eq.refl" [mkConst ``Bool, boolE b]
/- the way that was found, as a term: (the facts, the certificate) -/
def certOf (at2 : IO.Ref (List Expr)) (fs : List (Expr × Ord)) (r : LRow) : MetaM (List Expr × Expr) :=
  foldM' (fun (o : List Expr × Expr) (x : Nat × Expr × Ord) => do
    let c := gt r.2.1 (x.1 + 1)
    if c == 0 then return o
    let eq := x.2.2.1 == "eq"
    if c < 0 && !eq then fail "lin: sign"
    return (x.2.1 :: o.1, ap ("Mine.Ord1." ++ if c < 0 then "eqs" else x.2.2.1) (mkRawNatLit c.natAbs :: map' (·.1) (← sides at2 x.2.2) ++ [o.2]))) ([], mkConst `Mine.Ord1.nil) (number fs).reverse
def linCore (g : MVarId) (goal : Option Ord) : MetaM (Option Unit) := g.withContext do
  let at_ ← IO.mkRef []
  let fs := (← mapM' facts (← locs)).flatten
  let rows ← mapM' (rowOf at_ true 0) goal.toList
  let more ← mapM' (fun (x : Nat × Expr × Ord) => rowOf at_ (x.2.2.1 == "nle") (x.1 + 1) x.2.2) (number fs)
  let n := (← at_.get).length
  let rows := map' (fun r : LRow => (pAdd r.1 (one n 0) 1 0, r.2)) (rows ++ more)
  let some r := fm n (if goal.isSome then touch rows else rows) | fail "lin: no proof"
  let gm := gt r.2.1 0
  if gm != 0 && gm != 1 then fail "lin: the goal counts more than once"
  let at2 ← IO.mkRef []
  let hd ← mapM' (sides at2) (if gm == 1 then goal.toList else [])
  let (ps, c) ← certOf at2 fs r
  let ctx := tree (← at2.get)
  let t ← g.getType
  match hd with
  | [] =>
    let p := ap "Mine.lin_no" (ctx :: c :: reflT true :: ps)
    g.assign (if goal.isSome then ap0 "False.elim" [t, p] else p)
  | h :: _ => g.assign (ap "Mine.lin_le" (ctx :: map' (·.1) h ++ c :: reflT true :: ps))
  return some ()
def lin (g : MVarId) : MetaM (Option Unit) := fix (fun go (g : MVarId) => g.withContext do
    let t := (← instantiateMVars (← g.getType)).consumeMData
    if t.isConstOf ``False then return ← linCore g none
    if isC t "Not" 1 || t.isArrow || isC t "Ne" 3 then return ← go (← g.intro1).2
    if isC t "And" 2 then
      let _ ← mapM' go (← g.constructor)
      return some ()
    let some x ← ordOf t | fail "lin: goal"
    if x.1 != "eq" then return ← linCore g x
    let m (a b : Expr) : MetaM Expr := do
      let m ← mkFreshExprSyntheticOpaqueMVar (mkNatLE a b)
      let _ ← linCore m.mvarId! (some ("le", a, b, false))
      return m
    let a := x.2.1
    let b := x.2.2.1
    g.assign (ap "Nat.le_antisymm" [a, b, ← m a b, ← m b a])
    return some ()) 20 g
def lomegaM (g : MVarId) : MetaM (Option Unit) := do
  if (← optM (lin g)).isSome then return some ()
  let gs ← byTac g "first | with_reducible exact Mine.intLo (by assumption) | with_reducible exact Mine.intHi (by assumption) (by decide) | omega"
  return if gs.isEmpty then some () else none
def lomega : TacticM Unit := do
  let _ ← lomegaM (← getMainGoal)
  replaceMainGoal []
end Drv
end
section
open PySem PySem.W PySem.W.X PyProof.Rows
noncomputable def topRunT (tb : String → Option Builtin) (p : Program) (w : World) (n₀ : Nat) (ann : Option Value) : Nat → SharedT → Thread → Option SharedT
  | 0, _, _ => none
  | n + 1, s, t => match through t with
    | true => some s
    | false => match stepOk n₀ ann t with
      | false => none
      | true => match stepT (denote tb) p w s t with
        | some (s', t') => topRunT tb p w n₀ ann n s' t'
        | none => none
theorem topRunT_abs {tb : String → Option Builtin} {p : Program} {w : World} {n₀ : Nat} {ann : Option Value} : ∀ {n : Nat} {s s' : SharedT} {t : Thread},
    topRunT tb p w n₀ ann n s t = some s' → topRun tb p w n₀ ann n s.abs t = some s'.abs
  | 0, _, _, _, h => by cases h
  | n + 1, s, s', t, h => by
    unfold topRunT at h
    unfold topRun
    cases ht : through t with
    | true => rw [ht] at h; cases h; rfl
    | false =>
      rw [ht] at h
      cases hk : stepOk n₀ ann t with
      | false => rw [hk] at h; cases h
      | true =>
        rw [hk] at h
        cases hs : stepT (denote tb) p w s t with
        | none => rw [hs] at h; cases h
        | some r => obtain ⟨s₂, t₂⟩ := r; rw [hs] at h; rw [stepT_spec hs]; exact topRunT_abs h
noncomputable def pushAll : List Obj → Nat → BT → Option BT
  | [], _, t => some t
  | o :: r, n, t => match ((t.ins n o).get n).isSome with
    | true => pushAll r (n + 1) (t.ins n o)
    | false => none
theorem pushAll_abs {life : Life} : ∀ {l : List Obj} {n : Nat} {t t' : BT} {pre : List Obj}, pre.length = n → absHeap t n life = ⟨pre.toArray, life⟩ → pushAll l n t = some t' →
    absHeap t' (n + l.length) life = ⟨(pre ++ l).toArray, life⟩
  | [], n, t, t', pre, _, e, h => by cases h; rw [List.append_nil]; exact e
  | o :: r, n, t, t', pre, hn, e, h => by
    unfold pushAll at h
    cases q : ((t.ins n o).get n).isSome with
    | false => rw [q] at h; cases h
    | true =>
      rw [q] at h
      have e' : absHeap (t.ins n o) (n + 1) life = ⟨(pre ++ [o]).toArray, life⟩ := by
        rw [absHeap_ins q, e]
        show Heap.mk _ _ = Heap.mk _ _
        simp
      have z := pushAll_abs (pre := pre ++ [o]) (by simp [hn]) e' h
      rw [List.append_assoc, List.singleton_append] at z
      rw [List.length_cons, ← z]
      congr 1
      (run_tac Drv.lomega)
noncomputable def toT (s : Shared) : Option SharedT := (pushAll s.heap.objs.toList 0 .nil).map fun t => ⟨t, s.heap.objs.size, s.heap.life, s.gens, s.drawn, s.toks, s.os⟩
theorem toT_abs {s : Shared} {t : SharedT} (h : toT s = some t) : t.abs = s := by
  obtain ⟨b, hb, rfl⟩ := Option.map_eq_some_iff.mp h
  obtain ⟨⟨⟨l⟩, life⟩, g, d, tk, os⟩ := s
  have z : absHeap b (0 + l.length) life = ⟨([] ++ l).toArray, life⟩ := pushAll_abs (life := life) (n := 0) (t := .nil) (pre := []) rfl (by simp [absHeap, BT.list]) hb
  rw [Nat.zero_add, List.nil_append] at z
  show Shared.mk (absHeap b l.length life) g d tk os = _
  rw [z]
noncomputable def topFromT (tb : String → Option Builtin) (p : Program) (w : World) (N : Nat) (s₀ : Shared) : Option SharedT :=
  match s₀.heap.isNs mainGlobals && s₀.gens.size == 0 with
  | true => ((toT s₀).bind fun t₀ => topRunT tb p w s₀.heap.objs.size (s₀.heap.nsMap mainGlobals "__annotations__") N t₀ (topStub p)).bind fun s₁ =>
      match staticsOk (importedModules p.main.body) s₀.heap s₁.abs.heap && namesBound p s₁.abs.heap && gensDone s₁.abs && laidKept s₀.heap s₁.abs.heap with
      | true => some s₁
      | false => none
  | false => none
theorem topFromT_abs {tb : String → Option Builtin} {p : Program} {w : World} {N : Nat} {s₀ : Shared} {s : SharedT} (h : topFromT tb p w N s₀ = some s) : topFrom tb p w N s₀ = some s.abs := by
  unfold topFromT at h
  unfold topFrom
  cases hg : (s₀.heap.isNs mainGlobals && s₀.gens.size == 0) with
  | false => rw [hg] at h; cases h
  | true =>
    rw [hg] at h
    obtain ⟨s₁, h1, h2⟩ := Option.bind_eq_some_iff.mp h
    obtain ⟨t₀, h3, h4⟩ := Option.bind_eq_some_iff.mp h1
    have z := topRunT_abs h4
    rw [toT_abs h3] at z
    show (topRun tb p w s₀.heap.objs.size (s₀.heap.nsMap mainGlobals "__annotations__") N s₀ (topStub p)).bind _ = _
    rw [z]
    show (match _ with | true => _ | false => _) = _
    cases hs : (staticsOk (importedModules p.main.body) s₀.heap s₁.abs.heap && namesBound p s₁.abs.heap && gensDone s₁.abs && laidKept s₀.heap s₁.abs.heap) with
    | false => rw [hs] at h2; cases h2
    | true => rw [hs] at h2; cases h2; rfl
noncomputable def topRunS (st : SharedT → Thread → Option (SharedT × Thread)) (ok : Thread → Bool) : Nat → SharedT → Thread → Option SharedT
  | 0, _, _ => none
  | n + 1, s, t => match through t with
    | true => some s
    | false => match ok t with
      | false => none
      | true => match st s t with
        | some (s', t') => topRunS st ok n s' t'
        | none => none
theorem topRunS_eq {tb : String → Option Builtin} {p : Program} {w : World} {n₀ : Nat} {ann : Option Value} : ∀ (n : Nat) (s : SharedT) (t : Thread),
    topRunS (stepT (denote tb) p w) (stepOk n₀ ann) n s t = topRunT tb p w n₀ ann n s t
  | 0, _, _ => rfl
  | n + 1, s, t => by
    unfold topRunS topRunT
    cases through t with
    | true => rfl
    | false =>
      cases stepOk n₀ ann t with
      | false => rfl
      | true =>
        cases h : stepT (denote tb) p w s t with
        | none => rfl
        | some r => obtain ⟨s', t'⟩ := r; exact topRunS_eq n s' t'
noncomputable def topFromG (stp : (Code → Sem Fin) → Program → World → SharedT → Thread → Option (SharedT × Thread)) (den : (String → Option Builtin) → Code → Sem Fin) (tb : String → Option Builtin) (sk : Nat → Option Value → Thread → Bool)
    (p : Program) (w : World) (N : Nat) (s₀ : Shared) : Option SharedT :=
  match s₀.heap.isNs mainGlobals && s₀.gens.size == 0 with
  | true => ((toT s₀).bind fun t₀ => topRunS (stp (den tb) p w) (sk s₀.heap.objs.size (s₀.heap.nsMap mainGlobals "__annotations__")) N t₀ (topStub p)).bind fun s₁ =>
      match staticsOk (importedModules p.main.body) s₀.heap s₁.abs.heap && namesBound p s₁.abs.heap && gensDone s₁.abs && laidKept s₀.heap s₁.abs.heap with
      | true => some s₁
      | false => none
  | false => none
theorem topFromG_eq (tb : String → Option Builtin) (p : Program) (w : World) (N : Nat) (s₀ : Shared) : topFromG stepT denote tb stepOk p w N s₀ = topFromT tb p w N s₀ := by
  unfold topFromG topFromT
  simp only [topRunS_eq]
noncomputable def endsG (stp : (Code → Sem Fin) → Program → World → SharedT → Thread → Option (SharedT × Thread)) (den : (String → Option Builtin) → Code → Sem Fin) (tb : String → Option Builtin) (sk : Nat → Option Value → Thread → Bool) (p : Program) (w : World) (N : Nat) : Option SharedT :=
  (fencedOpening treeTable p w N).bind fun s₀ => topFromG stp den tb sk p w N s₀
theorem left_of_T {p q : Program} {loose : List Str} {Xt : Shared → Bool} {α : Type} {Yf : Shared → α} {Ya : World → α} {N : Nat}
    (h : ∀ w, (endsG stepT denote treeTable stepOk p w N).map (fun s => (openSeen q loose (importedModules p.main.body) Xt true s.abs, Yf s.abs)) = some (openGood q loose, Ya w)) : LeftO p q loose Xt Yf Ya N := fun w => by
  obtain ⟨s, h3, h4⟩ := Option.map_eq_some_iff.mp (h w)
  obtain ⟨s₀, h1, h2⟩ := Option.bind_eq_some_iff.mp h3
  rw [topFromG_eq] at h2
  unfold openEnds
  rw [h1]
  show (topFrom treeTable p w N s₀).map _ = _
  rw [topFromT_abs h2]
  exact congrArg some h4
end
section
open PySem PySem.W PySem.W.X PySem.Spec PySem.Calls PyProof.Rows
theorem said : PySem.Challenge.rw_ny0393_01.wellSaid = true := by
  unfold OpenLaw.wellSaid OpenRow.wellSaid OpenRow.partSaid looksOpen
  repeat (any_goals with_reducible refine look_both ?_ ?_)

  all_goals decide +kernel
end
section
open PySem PySem.W PySem.W.X PyProof.Rows
noncomputable abbrev S (x : String) : Str := Str.ofString x
noncomputable abbrev PW : Program := PySem.Challenge.pw_ny0393_01
noncomputable def ent (P : Params) (x : Str) (t : Tok) (v : Value) : DictEntry := ⟨PyData.keyHash P x, .str x t, v⟩
structure FnP where
  params : Arguments
  body : List Stmt
  scope : Scope
noncomputable def fnP : Option Stmt → FnP
  | some (.FunctionDef _ a b _ _ _ sc _ _ _) => ⟨a, b, sc⟩
  | _ => ⟨⟨[], [], none, [], [], none, []⟩, [], default⟩
noncomputable def topFn (i : Nat) : FnP := fnP PW.main.body[i]?
noncomputable def clsFn (i j : Nat) : FnP := match PW.main.body[i]? with
  | some (.ClassDef _ _ _ b _ _ _ _ _ _ _) => fnP b[j]?
  | _ => fnP none
noncomputable def sc63 : Scope := { kind := .function, names := [(⟨#[110]⟩, .local), (⟨#[119, 104, 97, 116]⟩, .local), (⟨#[116, 121, 112, 101]⟩, .globalImplicit), (⟨#[105, 110, 116]⟩, .globalImplicit), (⟨#[98, 111, 111, 108]⟩, .globalImplicit), (⟨#[95, 119, 97, 108, 108]⟩, .globalImplicit)], isGenerator := false, isCoroutine := false, more := [] }
noncomputable def fd63 : FuncData := { name := ⟨#[95, 105, 110, 100, 101, 120]⟩, qualname := ⟨#[95, 105, 110, 100, 101, 120]⟩, params := (topFn 6).params, body := .stmts (topFn 6).body, scope := sc63, globals := 3, closure := [], defaults := .none, kwdefaults := .none, doc := .none, pyModule := .str ⟨#[105, 111]⟩ 371, annotations := none, code := .ref 62, closureTuple := .none, builtins := 0 }
noncomputable def sc90 : Scope := { kind := .function, names := [(⟨#[99, 108, 115]⟩, .local), (⟨#[97, 114, 103, 115]⟩, .local), (⟨#[107, 119, 97, 114, 103, 115]⟩, .local), (⟨#[66, 121, 116, 101, 115, 73, 79]⟩, .globalImplicit), (⟨#[83, 116, 114, 105, 110, 103, 73, 79]⟩, .globalImplicit), (⟨#[95, 119, 97, 108, 108]⟩, .globalImplicit), (⟨#[111, 98, 106, 101, 99, 116]⟩, .globalImplicit)], isGenerator := false, isCoroutine := false, more := [] }
noncomputable def fd90 : FuncData := { name := ⟨#[95, 95, 110, 101, 119, 95, 95]⟩, qualname := ⟨#[73, 79, 66, 97, 115, 101, 46, 95, 95, 110, 101, 119, 95, 95]⟩, params := (clsFn 8 1).params, body := .stmts (clsFn 8 1).body, scope := sc90, globals := 3, closure := [], defaults := .none, kwdefaults := .none, doc := .none, pyModule := .str ⟨#[105, 111]⟩ 371, annotations := none, code := .ref 89, closureTuple := .none, builtins := 0 }
noncomputable def sc367 : Scope := { kind := .function, names := [(⟨#[115, 101, 108, 102]⟩, .local), (⟨#[105, 110, 105, 116, 105, 97, 108, 95, 118, 97, 108, 117, 101]⟩, .local), (⟨#[110, 101, 119, 108, 105, 110, 101]⟩, .local), (⟨#[116, 121, 112, 101]⟩, .globalImplicit), (⟨#[115, 116, 114]⟩, .globalImplicit), (⟨#[95, 119, 97, 108, 108]⟩, .globalImplicit), (⟨#[86, 97, 108, 117, 101, 69, 114, 114, 111, 114]⟩, .globalImplicit)], isGenerator := false, isCoroutine := false, more := [] }
noncomputable def fd367 : FuncData := { name := ⟨#[95, 95, 105, 110, 105, 116, 95, 95]⟩, qualname := ⟨#[83, 116, 114, 105, 110, 103, 73, 79, 46, 95, 95, 105, 110, 105, 116, 95, 95]⟩, params := (clsFn 12 1).params, body := .stmts (clsFn 12 1).body, scope := sc367, globals := 3, closure := [], defaults := .ref 360, kwdefaults := .none, doc := .none, pyModule := .str ⟨#[105, 111]⟩ 371, annotations := none, code := .ref 366, closureTuple := .none, builtins := 0 }
noncomputable def sc374 : Scope := { kind := .function, names := [(⟨#[115, 101, 108, 102]⟩, .local), (⟨#[115]⟩, .local), (⟨#[110, 101, 119, 108, 105, 110, 101]⟩, .local)], isGenerator := false, isCoroutine := false, more := [] }
noncomputable def fd374 : FuncData := { name := ⟨#[95, 95, 116, 114, 97, 110, 115, 108, 97, 116, 101, 100]⟩, qualname := ⟨#[83, 116, 114, 105, 110, 103, 73, 79, 46, 95, 95, 116, 114, 97, 110, 115, 108, 97, 116, 101, 100]⟩, params := (clsFn 12 2).params, body := .stmts (clsFn 12 2).body, scope := sc374, globals := 3, closure := [], defaults := .none, kwdefaults := .none, doc := .none, pyModule := .str ⟨#[105, 111]⟩ 371, annotations := none, code := .ref 373, closureTuple := .none, builtins := 0 }
noncomputable def sc381 : Scope := { kind := .function, names := [(⟨#[115, 101, 108, 102]⟩, .local), (⟨#[86, 97, 108, 117, 101, 69, 114, 114, 111, 114]⟩, .globalImplicit)], isGenerator := false, isCoroutine := false, more := [] }
noncomputable def fd381 : FuncData := { name := ⟨#[95, 95, 99, 104, 101, 99, 107]⟩, qualname := ⟨#[83, 116, 114, 105, 110, 103, 73, 79, 46, 95, 95, 99, 104, 101, 99, 107]⟩, params := (clsFn 12 3).params, body := .stmts (clsFn 12 3).body, scope := sc381, globals := 3, closure := [], defaults := .none, kwdefaults := .none, doc := .none, pyModule := .str ⟨#[105, 111]⟩ 371, annotations := none, code := .ref 380, closureTuple := .none, builtins := 0 }
noncomputable def sc543 : Scope := { kind := .function, names := [(⟨#[115, 101, 108, 102]⟩, .local), (⟨#[115, 105, 122, 101]⟩, .local), (⟨#[115, 116, 97, 114, 116]⟩, .local), (⟨#[115, 116, 111, 112]⟩, .local), (⟨#[95, 105, 110, 100, 101, 120]⟩, .globalImplicit), (⟨#[108, 101, 110]⟩, .globalImplicit)], isGenerator := false, isCoroutine := false, more := [] }
noncomputable def fd543 : FuncData := { name := ⟨#[114, 101, 97, 100]⟩, qualname := ⟨#[83, 116, 114, 105, 110, 103, 73, 79, 46, 114, 101, 97, 100]⟩, params := (clsFn 12 25).params, body := .stmts (clsFn 12 25).body, scope := sc543, globals := 3, closure := [], defaults := .ref 536, kwdefaults := .none, doc := .none, pyModule := .str ⟨#[105, 111]⟩ 371, annotations := none, code := .ref 542, closureTuple := .none, builtins := 0 }
noncomputable def sc656 : Scope := { kind := .function, names := [(⟨#[115, 101, 108, 102]⟩, .local), (⟨#[105, 110, 115, 116, 114, 101, 97, 109]⟩, .local), (⟨#[105, 110, 102, 105, 108, 101]⟩, .local), (⟨#[112, 111, 115, 105, 120]⟩, .local), (⟨#[112, 117, 110, 99, 116, 117, 97, 116, 105, 111, 110, 95, 99, 104, 97, 114, 115]⟩, .local), (⟨#[116]⟩, .local), (⟨#[105, 115, 105, 110, 115, 116, 97, 110, 99, 101]⟩, .globalImplicit), (⟨#[115, 116, 114]⟩, .globalImplicit), (⟨#[83, 116, 114, 105, 110, 103, 73, 79]⟩, .globalImplicit), (⟨#[95, 119, 97, 108, 108]⟩, .globalImplicit), (⟨#[100, 101, 113, 117, 101]⟩, .globalImplicit), (⟨#[100, 105, 99, 116]⟩, .globalImplicit)], isGenerator := false, isCoroutine := false, more := [] }
noncomputable def fd656 : FuncData := { name := ⟨#[95, 95, 105, 110, 105, 116, 95, 95]⟩, qualname := ⟨#[115, 104, 108, 101, 120, 46, 95, 95, 105, 110, 105, 116, 95, 95]⟩, params := (clsFn 22 0).params, body := .stmts (clsFn 22 0).body, scope := sc656, globals := 3, closure := [], defaults := .ref 649, kwdefaults := .none, doc := .none, pyModule := .str ⟨#[99, 112, 121, 51, 49, 51, 46, 115, 104, 108, 101, 120]⟩ 1087, annotations := none, code := .ref 655, closureTuple := .none, builtins := 0 }
noncomputable def sc663 : Scope := { kind := .function, names := [(⟨#[115, 101, 108, 102]⟩, .local)], isGenerator := false, isCoroutine := false, more := [] }
noncomputable def fd663 : FuncData := { name := ⟨#[112, 117, 110, 99, 116, 117, 97, 116, 105, 111, 110, 95, 99, 104, 97, 114, 115]⟩, qualname := ⟨#[115, 104, 108, 101, 120, 46, 112, 117, 110, 99, 116, 117, 97, 116, 105, 111, 110, 95, 99, 104, 97, 114, 115]⟩, params := (clsFn 22 1).params, body := .stmts (clsFn 22 1).body, scope := sc663, globals := 3, closure := [], defaults := .none, kwdefaults := .none, doc := .none, pyModule := .str ⟨#[99, 112, 121, 51, 49, 51, 46, 115, 104, 108, 101, 120]⟩ 1087, annotations := none, code := .ref 662, closureTuple := .none, builtins := 0 }
noncomputable def sc693 : Scope := { kind := .function, names := [(⟨#[115, 101, 108, 102]⟩, .local), (⟨#[116, 111, 107]⟩, .local), (⟨#[114, 97, 119]⟩, .local), (⟨#[115, 112, 101, 99]⟩, .local), (⟨#[110, 101, 119, 102, 105, 108, 101]⟩, .local), (⟨#[110, 101, 119, 115, 116, 114, 101, 97, 109]⟩, .local), (⟨#[112, 114, 105, 110, 116]⟩, .globalImplicit), (⟨#[114, 101, 112, 114]⟩, .globalImplicit)], isGenerator := false, isCoroutine := false, more := [] }
noncomputable def fd693 : FuncData := { name := ⟨#[103, 101, 116, 95, 116, 111, 107, 101, 110]⟩, qualname := ⟨#[115, 104, 108, 101, 120, 46, 103, 101, 116, 95, 116, 111, 107, 101, 110]⟩, params := (clsFn 22 5).params, body := .stmts (clsFn 22 5).body, scope := sc693, globals := 3, closure := [], defaults := .none, kwdefaults := .none, doc := .none, pyModule := .str ⟨#[99, 112, 121, 51, 49, 51, 46, 115, 104, 108, 101, 120]⟩ 1087, annotations := none, code := .ref 692, closureTuple := .none, builtins := 0 }
noncomputable def sc700 : Scope := { kind := .function, names := [(⟨#[115, 101, 108, 102]⟩, .local), (⟨#[113, 117, 111, 116, 101, 100]⟩, .local), (⟨#[101, 115, 99, 97, 112, 101, 100, 115, 116, 97, 116, 101]⟩, .local), (⟨#[110, 101, 120, 116, 99, 104, 97, 114]⟩, .local), (⟨#[114, 101, 115, 117, 108, 116]⟩, .local), (⟨#[112, 114, 105, 110, 116]⟩, .globalImplicit), (⟨#[86, 97, 108, 117, 101, 69, 114, 114, 111, 114]⟩, .globalImplicit), (⟨#[114, 101, 112, 114]⟩, .globalImplicit)], isGenerator := false, isCoroutine := false, more := [] }
noncomputable def fd700 : FuncData := { name := ⟨#[114, 101, 97, 100, 95, 116, 111, 107, 101, 110]⟩, qualname := ⟨#[115, 104, 108, 101, 120, 46, 114, 101, 97, 100, 95, 116, 111, 107, 101, 110]⟩, params := (clsFn 22 6).params, body := .stmts (clsFn 22 6).body, scope := sc700, globals := 3, closure := [], defaults := .none, kwdefaults := .none, doc := .none, pyModule := .str ⟨#[99, 112, 121, 51, 49, 51, 46, 115, 104, 108, 101, 120]⟩ 1087, annotations := none, code := .ref 699, closureTuple := .none, builtins := 0 }
noncomputable def sc722 : Scope := { kind := .function, names := [(⟨#[115, 101, 108, 102]⟩, .local)], isGenerator := false, isCoroutine := false, more := [] }
noncomputable def fd722 : FuncData := { name := ⟨#[95, 95, 105, 116, 101, 114, 95, 95]⟩, qualname := ⟨#[115, 104, 108, 101, 120, 46, 95, 95, 105, 116, 101, 114, 95, 95]⟩, params := (clsFn 22 9).params, body := .stmts (clsFn 22 9).body, scope := sc722, globals := 3, closure := [], defaults := .none, kwdefaults := .none, doc := .none, pyModule := .str ⟨#[99, 112, 121, 51, 49, 51, 46, 115, 104, 108, 101, 120]⟩ 1087, annotations := none, code := .ref 721, closureTuple := .none, builtins := 0 }
noncomputable def sc729 : Scope := { kind := .function, names := [(⟨#[115, 101, 108, 102]⟩, .local), (⟨#[116, 111, 107, 101, 110]⟩, .local), (⟨#[83, 116, 111, 112, 73, 116, 101, 114, 97, 116, 105, 111, 110]⟩, .globalImplicit)], isGenerator := false, isCoroutine := false, more := [] }
noncomputable def fd729 : FuncData := { name := ⟨#[95, 95, 110, 101, 120, 116, 95, 95]⟩, qualname := ⟨#[115, 104, 108, 101, 120, 46, 95, 95, 110, 101, 120, 116, 95, 95]⟩, params := (clsFn 22 10).params, body := .stmts (clsFn 22 10).body, scope := sc729, globals := 3, closure := [], defaults := .none, kwdefaults := .none, doc := .none, pyModule := .str ⟨#[99, 112, 121, 51, 49, 51, 46, 115, 104, 108, 101, 120]⟩ 1087, annotations := none, code := .ref 728, closureTuple := .none, builtins := 0 }
noncomputable def sc744 : Scope := { kind := .function, names := [(⟨#[115]⟩, .local), (⟨#[99, 111, 109, 109, 101, 110, 116, 115]⟩, .local), (⟨#[112, 111, 115, 105, 120]⟩, .local), (⟨#[108, 101, 120]⟩, .local), (⟨#[86, 97, 108, 117, 101, 69, 114, 114, 111, 114]⟩, .globalImplicit), (⟨#[115, 104, 108, 101, 120]⟩, .globalImplicit), (⟨#[108, 105, 115, 116]⟩, .globalImplicit)], isGenerator := false, isCoroutine := false, more := [] }
noncomputable def fd744 : FuncData := { name := ⟨#[115, 112, 108, 105, 116]⟩, qualname := ⟨#[115, 112, 108, 105, 116]⟩, params := (topFn 23).params, body := .stmts (topFn 23).body, scope := sc744, globals := 3, closure := [], defaults := .ref 737, kwdefaults := .none, doc := .none, pyModule := .str ⟨#[99, 112, 121, 51, 49, 51, 46, 115, 104, 108, 101, 120]⟩ 1087, annotations := none, code := .ref 743, closureTuple := .none, builtins := 0 }
noncomputable def sc751 : Scope := { kind := .function, names := [(⟨#[115, 112, 108, 105, 116, 95, 99, 111, 109, 109, 97, 110, 100]⟩, .local)], isGenerator := false, isCoroutine := false, more := [] }
noncomputable def fd751 : FuncData := { name := ⟨#[106, 111, 105, 110]⟩, qualname := ⟨#[106, 111, 105, 110]⟩, params := (topFn 24).params, body := .stmts (topFn 24).body, scope := sc751, globals := 3, closure := [], defaults := .none, kwdefaults := .none, doc := .none, pyModule := .str ⟨#[99, 112, 121, 51, 49, 51, 46, 115, 104, 108, 101, 120]⟩ 1087, annotations := none, code := .ref 750, closureTuple := .none, builtins := 0 }
noncomputable def sc759 : Scope := { kind := .function, names := [(⟨#[115]⟩, .local), (⟨#[95, 102, 105, 110, 100, 95, 117, 110, 115, 97, 102, 101]⟩, .globalImplicit)], isGenerator := false, isCoroutine := false, more := [] }
noncomputable def fd759 : FuncData := { name := ⟨#[113, 117, 111, 116, 101]⟩, qualname := ⟨#[113, 117, 111, 116, 101]⟩, params := (topFn 27).params, body := .stmts (topFn 27).body, scope := sc759, globals := 3, closure := [], defaults := .none, kwdefaults := .none, doc := .none, pyModule := .str ⟨#[99, 112, 121, 51, 49, 51, 46, 115, 104, 108, 101, 120]⟩ 1087, annotations := none, code := .ref 758, closureTuple := .none, builtins := 0 }
noncomputable def sc766 : Scope := { kind := .function, names := [(⟨#[97, 100, 100, 114]⟩, .local), (⟨#[112, 111, 115]⟩, .local), (⟨#[101, 115, 99, 97, 112, 101]⟩, .local), (⟨#[99, 104]⟩, .local), (⟨#[101, 110, 117, 109, 101, 114, 97, 116, 101]⟩, .globalImplicit)], isGenerator := true, isCoroutine := false, more := [] }
noncomputable def fd766 : FuncData := { name := ⟨#[95, 105, 116, 101, 114, 95, 101, 115, 99, 97, 112, 101, 100, 95, 99, 104, 97, 114, 115]⟩, qualname := ⟨#[95, 105, 116, 101, 114, 95, 101, 115, 99, 97, 112, 101, 100, 95, 99, 104, 97, 114, 115]⟩, params := (topFn 29).params, body := .stmts (topFn 29).body, scope := sc766, globals := 3, closure := [], defaults := .none, kwdefaults := .none, doc := .none, pyModule := .str ⟨#[99, 112, 121, 51, 49, 51, 46, 101, 109, 97, 105, 108, 46, 117, 116, 105, 108, 115]⟩ 1255, annotations := none, code := .ref 765, closureTuple := .none, builtins := 0 }
noncomputable def sc773 : Scope := { kind := .function, names := [(⟨#[97, 100, 100, 114]⟩, .local), (⟨#[115, 116, 97, 114, 116]⟩, .local), (⟨#[111, 112, 101, 110, 95, 112, 111, 115]⟩, .local), (⟨#[114, 101, 115, 117, 108, 116]⟩, .local), (⟨#[112, 111, 115]⟩, .local), (⟨#[99, 104]⟩, .local), (⟨#[95, 105, 116, 101, 114, 95, 101, 115, 99, 97, 112, 101, 100, 95, 99, 104, 97, 114, 115]⟩, .globalImplicit), (⟨#[108, 101, 110]⟩, .globalImplicit)], isGenerator := false, isCoroutine := false, more := [] }
noncomputable def fd773 : FuncData := { name := ⟨#[95, 115, 116, 114, 105, 112, 95, 113, 117, 111, 116, 101, 100, 95, 114, 101, 97, 108, 110, 97, 109, 101, 115]⟩, qualname := ⟨#[95, 115, 116, 114, 105, 112, 95, 113, 117, 111, 116, 101, 100, 95, 114, 101, 97, 108, 110, 97, 109, 101, 115]⟩, params := (topFn 30).params, body := .stmts (topFn 30).body, scope := sc773, globals := 3, closure := [], defaults := .none, kwdefaults := .none, doc := .none, pyModule := .str ⟨#[99, 112, 121, 51, 49, 51, 46, 101, 109, 97, 105, 108, 46, 117, 116, 105, 108, 115]⟩ 1255, annotations := none, code := .ref 772, closureTuple := .none, builtins := 0 }
noncomputable def sc780 : Scope := { kind := .function, names := [(⟨#[97, 100, 100, 114]⟩, .local), (⟨#[111, 112, 101, 110, 115]⟩, .local), (⟨#[112, 111, 115]⟩, .local), (⟨#[99, 104]⟩, .local), (⟨#[95, 115, 116, 114, 105, 112, 95, 113, 117, 111, 116, 101, 100, 95, 114, 101, 97, 108, 110, 97, 109, 101, 115]⟩, .globalImplicit), (⟨#[95, 105, 116, 101, 114, 95, 101, 115, 99, 97, 112, 101, 100, 95, 99, 104, 97, 114, 115]⟩, .globalImplicit)], isGenerator := false, isCoroutine := false, more := [] }
noncomputable def fd780 : FuncData := { name := ⟨#[95, 99, 104, 101, 99, 107, 95, 112, 97, 114, 101, 110, 116, 104, 101, 115, 105, 115]⟩, qualname := ⟨#[95, 99, 104, 101, 99, 107, 95, 112, 97, 114, 101, 110, 116, 104, 101, 115, 105, 115]⟩, params := (topFn 31).params, body := .stmts (topFn 31).body, scope := sc780, globals := 3, closure := [], defaults := .none, kwdefaults := .none, doc := .none, pyModule := .str ⟨#[99, 112, 121, 51, 49, 51, 46, 101, 109, 97, 105, 108, 46, 117, 116, 105, 108, 115]⟩ 1255, annotations := none, code := .ref 779, closureTuple := .none, builtins := 0 }
noncomputable def sc787 : Scope := { kind := .function, names := [(⟨#[101, 109, 97, 105, 108, 95, 104, 101, 97, 100, 101, 114, 95, 102, 105, 101, 108, 100, 115]⟩, .local), (⟨#[97, 99, 99, 101, 112, 116, 101, 100, 95, 118, 97, 108, 117, 101, 115]⟩, .local), (⟨#[118]⟩, .local), (⟨#[95, 99, 104, 101, 99, 107, 95, 112, 97, 114, 101, 110, 116, 104, 101, 115, 105, 115]⟩, .globalImplicit)], isGenerator := false, isCoroutine := false, more := [] }
noncomputable def fd787 : FuncData := { name := ⟨#[95, 112, 114, 101, 95, 112, 97, 114, 115, 101, 95, 118, 97, 108, 105, 100, 97, 116, 105, 111, 110]⟩, qualname := ⟨#[95, 112, 114, 101, 95, 112, 97, 114, 115, 101, 95, 118, 97, 108, 105, 100, 97, 116, 105, 111, 110]⟩, params := (topFn 32).params, body := .stmts (topFn 32).body, scope := sc787, globals := 3, closure := [], defaults := .none, kwdefaults := .none, doc := .none, pyModule := .str ⟨#[99, 112, 121, 51, 49, 51, 46, 101, 109, 97, 105, 108, 46, 117, 116, 105, 108, 115]⟩ 1255, annotations := none, code := .ref 786, closureTuple := .none, builtins := 0 }
noncomputable def sc794 : Scope := { kind := .function, names := [(⟨#[101, 120, 112, 101, 99, 116, 101, 100]⟩, .local), (⟨#[97, 99, 116, 117, 97, 108]⟩, .local), (⟨#[105]⟩, .local), (⟨#[106]⟩, .local), (⟨#[109, 105, 115, 115, 105, 110, 103]⟩, .local), (⟨#[117, 110, 101, 120, 112, 101, 99, 116, 101, 100]⟩, .local), (⟨#[101]⟩, .local), (⟨#[97]⟩, .local), (⟨#[73, 110, 100, 101, 120, 69, 114, 114, 111, 114]⟩, .globalImplicit)], isGenerator := false, isCoroutine := false, more := [] }
noncomputable def fd794 : FuncData := { name := ⟨#[115, 111, 114, 116, 101, 100, 95, 108, 105, 115, 116, 95, 100, 105, 102, 102, 101, 114, 101, 110, 99, 101]⟩, qualname := ⟨#[115, 111, 114, 116, 101, 100, 95, 108, 105, 115, 116, 95, 100, 105, 102, 102, 101, 114, 101, 110, 99, 101]⟩, params := (topFn 34).params, body := .stmts (topFn 34).body, scope := sc794, globals := 3, closure := [], defaults := .none, kwdefaults := .none, doc := .none, pyModule := .str ⟨#[99, 112, 121, 51, 49, 51, 46, 117, 110, 105, 116, 116, 101, 115, 116, 46, 117, 116, 105, 108]⟩ 1298, annotations := none, code := .ref 793, closureTuple := .none, builtins := 0 }
noncomputable def sc801 : Scope := { kind := .function, names := [(⟨#[115, 99, 114, 105, 112, 116]⟩, .local), (⟨#[114, 111, 119, 115]⟩, .local), (⟨#[120]⟩, .local), (⟨#[110, 117, 109, 98, 101, 114]⟩, .local), (⟨#[119, 111, 114, 100]⟩, .local)], isGenerator := false, isCoroutine := false, more := [] }
noncomputable def fd801 : FuncData := { name := ⟨#[95, 108, 97, 119, 95, 98, 111, 111, 107]⟩, qualname := ⟨#[95, 108, 97, 119, 95, 98, 111, 111, 107]⟩, params := (topFn 36).params, body := .stmts (topFn 36).body, scope := sc801, globals := 3, closure := [], defaults := .none, kwdefaults := .none, doc := .none, pyModule := .str ⟨#[108, 97, 119, 95, 110, 121, 48, 51, 57, 51, 95, 48, 49]⟩ 1314, annotations := none, code := .ref 800, closureTuple := .none, builtins := 0 }
noncomputable def sc806 : Scope := { kind := .function, names := [(⟨#[114, 111, 119]⟩, .local), (⟨#[115, 105, 103, 110, 115]⟩, .local), (⟨#[119, 111, 114, 100]⟩, .local), (⟨#[112, 108, 97, 105, 110]⟩, .local)], isGenerator := false, isCoroutine := false, more := [(⟨#[102, 97, 115, 116]⟩, .str ⟨#[114, 111, 119]⟩), (⟨#[102, 97, 115, 116]⟩, .str ⟨#[115, 105, 103, 110, 115]⟩), (⟨#[102, 97, 115, 116]⟩, .str ⟨#[119, 111, 114, 100]⟩), (⟨#[102, 97, 115, 116]⟩, .str ⟨#[112, 108, 97, 105, 110]⟩), (⟨#[102, 97, 115, 116]⟩, .str ⟨#[115, 105, 103, 110]⟩)] }
noncomputable def fd806 : FuncData := { name := ⟨#[95, 108, 97, 119, 95, 99, 108, 111, 115, 101, 100]⟩, qualname := ⟨#[95, 108, 97, 119, 95, 99, 108, 111, 115, 101, 100]⟩, params := (topFn 37).params, body := .stmts (topFn 37).body, scope := sc806, globals := 3, closure := [], defaults := .none, kwdefaults := .none, doc := .none, pyModule := .str ⟨#[108, 97, 119, 95, 110, 121, 48, 51, 57, 51, 95, 48, 49]⟩ 1314, annotations := none, code := .ref 805, closureTuple := .none, builtins := 0 }
noncomputable def sc813 : Scope := { kind := .function, names := [(⟨#[119, 111, 114, 100, 115]⟩, .local), (⟨#[111, 116, 104, 101, 114, 115]⟩, .local), (⟨#[98, 101, 121, 111, 110, 100]⟩, .local), (⟨#[107]⟩, .local), (⟨#[114, 97, 110, 103, 101]⟩, .globalImplicit), (⟨#[108, 101, 110]⟩, .globalImplicit)], isGenerator := false, isCoroutine := false, more := [] }
noncomputable def fd813 : FuncData := { name := ⟨#[95, 108, 97, 119, 95, 98, 101, 121, 111, 110, 100]⟩, qualname := ⟨#[95, 108, 97, 119, 95, 98, 101, 121, 111, 110, 100]⟩, params := (topFn 38).params, body := .stmts (topFn 38).body, scope := sc813, globals := 3, closure := [], defaults := .none, kwdefaults := .none, doc := .none, pyModule := .str ⟨#[108, 97, 119, 95, 110, 121, 48, 51, 57, 51, 95, 48, 49]⟩ 1314, annotations := none, code := .ref 812, closureTuple := .none, builtins := 0 }
noncomputable def sc818 : Scope := { kind := .function, names := [(⟨#[115, 99, 114, 105, 112, 116]⟩, .local), (⟨#[114, 111, 119, 115]⟩, .local), (⟨#[114, 101, 99, 101, 105, 118, 101, 100]⟩, .local), (⟨#[114, 111, 119]⟩, .local), (⟨#[108, 105, 110, 101]⟩, .local), (⟨#[100, 117, 101]⟩, .local), (⟨#[115, 101, 110, 116]⟩, .local), (⟨#[102, 105, 108, 101, 100]⟩, .local), (⟨#[116, 111, 108, 100]⟩, .local), (⟨#[95, 108, 97, 119, 95, 98, 111, 111, 107]⟩, .globalImplicit), (⟨#[95, 112, 114, 101, 95, 112, 97, 114, 115, 101, 95, 118, 97, 108, 105, 100, 97, 116, 105, 111, 110]⟩, .globalImplicit), (⟨#[115, 112, 108, 105, 116]⟩, .globalImplicit), (⟨#[95, 115, 116, 114, 105, 112, 95, 113, 117, 111, 116, 101, 100, 95, 114, 101, 97, 108, 110, 97, 109, 101, 115]⟩, .globalImplicit), (⟨#[95, 108, 97, 119, 95, 99, 108, 111, 115, 101, 100]⟩, .globalImplicit), (⟨#[115, 111, 114, 116, 101, 100]⟩, .globalImplicit), (⟨#[115, 111, 114, 116, 101, 100, 95, 108, 105, 115, 116, 95, 100, 105, 102, 102, 101, 114, 101, 110, 99, 101]⟩, .globalImplicit), (⟨#[95, 108, 97, 119, 95, 98, 101, 121, 111, 110, 100]⟩, .globalImplicit)], isGenerator := false, isCoroutine := false, more := [(⟨#[102, 97, 115, 116]⟩, .str ⟨#[115, 99, 114, 105, 112, 116]⟩), (⟨#[102, 97, 115, 116]⟩, .str ⟨#[114, 111, 119, 115]⟩), (⟨#[102, 97, 115, 116]⟩, .str ⟨#[114, 101, 99, 101, 105, 118, 101, 100]⟩), (⟨#[102, 97, 115, 116]⟩, .str ⟨#[114, 111, 119]⟩), (⟨#[102, 97, 115, 116]⟩, .str ⟨#[108, 105, 110, 101]⟩), (⟨#[102, 97, 115, 116]⟩, .str ⟨#[100, 117, 101]⟩), (⟨#[102, 97, 115, 116]⟩, .str ⟨#[119, 111, 114, 100]⟩), (⟨#[102, 97, 115, 116]⟩, .str ⟨#[115, 101, 110, 116]⟩), (⟨#[102, 97, 115, 116]⟩, .str ⟨#[102, 105, 108, 101, 100]⟩), (⟨#[102, 97, 115, 116]⟩, .str ⟨#[116, 111, 108, 100]⟩)] }
noncomputable def fd818 : FuncData := { name := ⟨#[108, 97, 119]⟩, qualname := ⟨#[108, 97, 119]⟩, params := (topFn 39).params, body := .stmts (topFn 39).body, scope := sc818, globals := 3, closure := [], defaults := .none, kwdefaults := .none, doc := .none, pyModule := .str ⟨#[108, 97, 119, 95, 110, 121, 48, 51, 57, 51, 95, 48, 49]⟩ 1314, annotations := none, code := .ref 817, closureTuple := .none, builtins := 0 }
noncomputable def o0 (P : Params) : Obj := ⟨.type "dict", none, .dict #[ent P ⟨#[95, 95, 110, 97, 109, 101, 95, 95]⟩ 1 (.str ⟨#[98, 117, 105, 108, 116, 105, 110, 115]⟩ 160), ent P ⟨#[95, 95, 100, 111, 99, 95, 95]⟩ 2 (.builtin "builtins.__doc__:str#opaque"), ent P ⟨#[95, 95, 112, 97, 99, 107, 97, 103, 101, 95, 95]⟩ 3 (.builtin "builtins.__package__:str#opaque"), ent P ⟨#[95, 95, 108, 111, 97, 100, 101, 114, 95, 95]⟩ 4 (.builtin "builtins.__loader__:shared#opaque"), ent P ⟨#[95, 95, 115, 112, 101, 99, 95, 95]⟩ 5 (.builtin "builtins.__spec__#opaque"), ent P ⟨#[95, 95, 98, 117, 105, 108, 100, 95, 99, 108, 97, 115, 115, 95, 95]⟩ 6 (.builtin "__build_class__"), ent P ⟨#[95, 95, 105, 109, 112, 111, 114, 116, 95, 95]⟩ 7 (.builtin "__import__"), ent P ⟨#[97, 98, 115]⟩ 8 (.builtin "abs"), ent P ⟨#[97, 108, 108]⟩ 9 (.builtin "all"), ent P ⟨#[97, 110, 121]⟩ 10 (.builtin "any"), ent P ⟨#[97, 115, 99, 105, 105]⟩ 11 (.builtin "ascii"), ent P ⟨#[98, 105, 110]⟩ 12 (.builtin "bin"), ent P ⟨#[98, 114, 101, 97, 107, 112, 111, 105, 110, 116]⟩ 13 (.builtin "breakpoint"), ent P ⟨#[99, 97, 108, 108, 97, 98, 108, 101]⟩ 14 (.builtin "callable"), ent P ⟨#[99, 104, 114]⟩ 15 (.builtin "chr"), ent P ⟨#[99, 111, 109, 112, 105, 108, 101]⟩ 16 (.builtin "compile"), ent P ⟨#[100, 101, 108, 97, 116, 116, 114]⟩ 17 (.builtin "delattr"), ent P ⟨#[100, 105, 114]⟩ 18 (.builtin "dir"), ent P ⟨#[100, 105, 118, 109, 111, 100]⟩ 19 (.builtin "divmod"), ent P ⟨#[101, 118, 97, 108]⟩ 20 (.builtin "eval"), ent P ⟨#[101, 120, 101, 99]⟩ 21 (.builtin "exec"), ent P ⟨#[102, 111, 114, 109, 97, 116]⟩ 22 (.builtin "format"), ent P ⟨#[103, 101, 116, 97, 116, 116, 114]⟩ 23 (.builtin "getattr"), ent P ⟨#[103, 108, 111, 98, 97, 108, 115]⟩ 24 (.builtin "globals"), ent P ⟨#[104, 97, 115, 97, 116, 116, 114]⟩ 25 (.builtin "hasattr"), ent P ⟨#[104, 97, 115, 104]⟩ 26 (.builtin "hash"), ent P ⟨#[104, 101, 120]⟩ 27 (.builtin "hex"), ent P ⟨#[105, 100]⟩ 28 (.builtin "id"), ent P ⟨#[105, 110, 112, 117, 116]⟩ 29 (.builtin "input"), ent P ⟨#[105, 115, 105, 110, 115, 116, 97, 110, 99, 101]⟩ 30 (.builtin "isinstance"), ent P ⟨#[105, 115, 115, 117, 98, 99, 108, 97, 115, 115]⟩ 31 (.builtin "issubclass"), ent P ⟨#[105, 116, 101, 114]⟩ 32 (.builtin "iter"), ent P ⟨#[97, 105, 116, 101, 114]⟩ 33 (.builtin "aiter"), ent P ⟨#[108, 101, 110]⟩ 34 (.builtin "len"), ent P ⟨#[108, 111, 99, 97, 108, 115]⟩ 35 (.builtin "locals"), ent P ⟨#[109, 97, 120]⟩ 36 (.builtin "max"), ent P ⟨#[109, 105, 110]⟩ 37 (.builtin "min"), ent P ⟨#[110, 101, 120, 116]⟩ 38 (.builtin "next"), ent P ⟨#[97, 110, 101, 120, 116]⟩ 39 (.builtin "anext"), ent P ⟨#[111, 99, 116]⟩ 40 (.builtin "oct"), ent P ⟨#[111, 114, 100]⟩ 41 (.builtin "ord"), ent P ⟨#[112, 111, 119]⟩ 42 (.builtin "pow"), ent P ⟨#[112, 114, 105, 110, 116]⟩ 43 (.builtin "print"), ent P ⟨#[114, 101, 112, 114]⟩ 44 (.builtin "repr"), ent P ⟨#[114, 111, 117, 110, 100]⟩ 45 (.builtin "round"), ent P ⟨#[115, 101, 116, 97, 116, 116, 114]⟩ 46 (.builtin "setattr"), ent P ⟨#[115, 111, 114, 116, 101, 100]⟩ 47 (.builtin "sorted"), ent P ⟨#[115, 117, 109]⟩ 48 (.builtin "sum"), ent P ⟨#[118, 97, 114, 115]⟩ 49 (.builtin "vars"), ent P ⟨#[78, 111, 110, 101]⟩ 50 (.none), ent P ⟨#[69, 108, 108, 105, 112, 115, 105, 115]⟩ 51 (.ellipsis), ent P ⟨#[78, 111, 116, 73, 109, 112, 108, 101, 109, 101, 110, 116, 101, 100]⟩ 52 (.notImplemented), ent P ⟨#[70, 97, 108, 115, 101]⟩ 53 (.bool false), ent P ⟨#[84, 114, 117, 101]⟩ 54 (.bool true), ent P ⟨#[98, 111, 111, 108]⟩ 55 (.type "bool"), ent P ⟨#[109, 101, 109, 111, 114, 121, 118, 105, 101, 119]⟩ 56 (.type "memoryview"), ent P ⟨#[98, 121, 116, 101, 97, 114, 114, 97, 121]⟩ 57 (.type "bytearray"), ent P ⟨#[98, 121, 116, 101, 115]⟩ 58 (.type "bytes"), ent P ⟨#[99, 108, 97, 115, 115, 109, 101, 116, 104, 111, 100]⟩ 59 (.type "classmethod"), ent P ⟨#[99, 111, 109, 112, 108, 101, 120]⟩ 60 (.type "complex"), ent P ⟨#[100, 105, 99, 116]⟩ 61 (.type "dict"), ent P ⟨#[101, 110, 117, 109, 101, 114, 97, 116, 101]⟩ 62 (.type "enumerate"), ent P ⟨#[102, 105, 108, 116, 101, 114]⟩ 63 (.type "filter"), ent P ⟨#[102, 108, 111, 97, 116]⟩ 64 (.type "float"), ent P ⟨#[102, 114, 111, 122, 101, 110, 115, 101, 116]⟩ 65 (.type "frozenset"), ent P ⟨#[112, 114, 111, 112, 101, 114, 116, 121]⟩ 66 (.type "property"), ent P ⟨#[105, 110, 116]⟩ 67 (.type "int"), ent P ⟨#[108, 105, 115, 116]⟩ 68 (.type "list"), ent P ⟨#[109, 97, 112]⟩ 69 (.type "map"), ent P ⟨#[111, 98, 106, 101, 99, 116]⟩ 70 (.type "object"), ent P ⟨#[114, 97, 110, 103, 101]⟩ 71 (.type "range"), ent P ⟨#[114, 101, 118, 101, 114, 115, 101, 100]⟩ 72 (.type "reversed"), ent P ⟨#[115, 101, 116]⟩ 73 (.type "set"), ent P ⟨#[115, 108, 105, 99, 101]⟩ 74 (.type "slice"), ent P ⟨#[115, 116, 97, 116, 105, 99, 109, 101, 116, 104, 111, 100]⟩ 75 (.type "staticmethod"), ent P ⟨#[115, 116, 114]⟩ 76 (.type "str"), ent P ⟨#[115, 117, 112, 101, 114]⟩ 77 (.type "super"), ent P ⟨#[116, 117, 112, 108, 101]⟩ 78 (.type "tuple"), ent P ⟨#[116, 121, 112, 101]⟩ 79 (.type "type"), ent P ⟨#[122, 105, 112]⟩ 80 (.type "zip"), ent P ⟨#[95, 95, 100, 101, 98, 117, 103, 95, 95]⟩ 81 (.bool true), ent P ⟨#[66, 97, 115, 101, 69, 120, 99, 101, 112, 116, 105, 111, 110]⟩ 82 (.type "BaseException"), ent P ⟨#[66, 97, 115, 101, 69, 120, 99, 101, 112, 116, 105, 111, 110, 71, 114, 111, 117, 112]⟩ 83 (.type "BaseExceptionGroup"), ent P ⟨#[69, 120, 99, 101, 112, 116, 105, 111, 110]⟩ 84 (.type "Exception"), ent P ⟨#[71, 101, 110, 101, 114, 97, 116, 111, 114, 69, 120, 105, 116]⟩ 85 (.type "GeneratorExit"), ent P ⟨#[75, 101, 121, 98, 111, 97, 114, 100, 73, 110, 116, 101, 114, 114, 117, 112, 116]⟩ 86 (.type "KeyboardInterrupt"), ent P ⟨#[83, 121, 115, 116, 101, 109, 69, 120, 105, 116]⟩ 87 (.type "SystemExit"), ent P ⟨#[65, 114, 105, 116, 104, 109, 101, 116, 105, 99, 69, 114, 114, 111, 114]⟩ 88 (.type "ArithmeticError"), ent P ⟨#[65, 115, 115, 101, 114, 116, 105, 111, 110, 69, 114, 114, 111, 114]⟩ 89 (.type "AssertionError"), ent P ⟨#[65, 116, 116, 114, 105, 98, 117, 116, 101, 69, 114, 114, 111, 114]⟩ 90 (.type "AttributeError"), ent P ⟨#[66, 117, 102, 102, 101, 114, 69, 114, 114, 111, 114]⟩ 91 (.type "BufferError"), ent P ⟨#[69, 79, 70, 69, 114, 114, 111, 114]⟩ 92 (.type "EOFError"), ent P ⟨#[73, 109, 112, 111, 114, 116, 69, 114, 114, 111, 114]⟩ 93 (.type "ImportError"), ent P ⟨#[76, 111, 111, 107, 117, 112, 69, 114, 114, 111, 114]⟩ 94 (.type "LookupError"), ent P ⟨#[77, 101, 109, 111, 114, 121, 69, 114, 114, 111, 114]⟩ 95 (.type "MemoryError"), ent P ⟨#[78, 97, 109, 101, 69, 114, 114, 111, 114]⟩ 96 (.type "NameError"), ent P ⟨#[79, 83, 69, 114, 114, 111, 114]⟩ 97 (.type "OSError"), ent P ⟨#[82, 101, 102, 101, 114, 101, 110, 99, 101, 69, 114, 114, 111, 114]⟩ 98 (.type "ReferenceError"), ent P ⟨#[82, 117, 110, 116, 105, 109, 101, 69, 114, 114, 111, 114]⟩ 99 (.type "RuntimeError"), ent P ⟨#[83, 116, 111, 112, 65, 115, 121, 110, 99, 73, 116, 101, 114, 97, 116, 105, 111, 110]⟩ 100 (.type "StopAsyncIteration"), ent P ⟨#[83, 116, 111, 112, 73, 116, 101, 114, 97, 116, 105, 111, 110]⟩ 101 (.type "StopIteration"), ent P ⟨#[83, 121, 110, 116, 97, 120, 69, 114, 114, 111, 114]⟩ 102 (.type "SyntaxError"), ent P ⟨#[83, 121, 115, 116, 101, 109, 69, 114, 114, 111, 114]⟩ 103 (.type "SystemError"), ent P ⟨#[84, 121, 112, 101, 69, 114, 114, 111, 114]⟩ 104 (.type "TypeError"), ent P ⟨#[86, 97, 108, 117, 101, 69, 114, 114, 111, 114]⟩ 105 (.type "ValueError"), ent P ⟨#[87, 97, 114, 110, 105, 110, 103]⟩ 106 (.type "Warning"), ent P ⟨#[70, 108, 111, 97, 116, 105, 110, 103, 80, 111, 105, 110, 116, 69, 114, 114, 111, 114]⟩ 107 (.type "FloatingPointError"), ent P ⟨#[79, 118, 101, 114, 102, 108, 111, 119, 69, 114, 114, 111, 114]⟩ 108 (.type "OverflowError"), ent P ⟨#[90, 101, 114, 111, 68, 105, 118, 105, 115, 105, 111, 110, 69, 114, 114, 111, 114]⟩ 109 (.type "ZeroDivisionError"), ent P ⟨#[66, 121, 116, 101, 115, 87, 97, 114, 110, 105, 110, 103]⟩ 110 (.type "BytesWarning"), ent P ⟨#[68, 101, 112, 114, 101, 99, 97, 116, 105, 111, 110, 87, 97, 114, 110, 105, 110, 103]⟩ 111 (.type "DeprecationWarning"), ent P ⟨#[69, 110, 99, 111, 100, 105, 110, 103, 87, 97, 114, 110, 105, 110, 103]⟩ 112 (.type "EncodingWarning"), ent P ⟨#[70, 117, 116, 117, 114, 101, 87, 97, 114, 110, 105, 110, 103]⟩ 113 (.type "FutureWarning"), ent P ⟨#[73, 109, 112, 111, 114, 116, 87, 97, 114, 110, 105, 110, 103]⟩ 114 (.type "ImportWarning"), ent P ⟨#[80, 101, 110, 100, 105, 110, 103, 68, 101, 112, 114, 101, 99, 97, 116, 105, 111, 110, 87, 97, 114, 110, 105, 110, 103]⟩ 115 (.type "PendingDeprecationWarning"), ent P ⟨#[82, 101, 115, 111, 117, 114, 99, 101, 87, 97, 114, 110, 105, 110, 103]⟩ 116 (.type "ResourceWarning"), ent P ⟨#[82, 117, 110, 116, 105, 109, 101, 87, 97, 114, 110, 105, 110, 103]⟩ 117 (.type "RuntimeWarning"), ent P ⟨#[83, 121, 110, 116, 97, 120, 87, 97, 114, 110, 105, 110, 103]⟩ 118 (.type "SyntaxWarning"), ent P ⟨#[85, 110, 105, 99, 111, 100, 101, 87, 97, 114, 110, 105, 110, 103]⟩ 119 (.type "UnicodeWarning"), ent P ⟨#[85, 115, 101, 114, 87, 97, 114, 110, 105, 110, 103]⟩ 120 (.type "UserWarning"), ent P ⟨#[66, 108, 111, 99, 107, 105, 110, 103, 73, 79, 69, 114, 114, 111, 114]⟩ 121 (.type "BlockingIOError"), ent P ⟨#[67, 104, 105, 108, 100, 80, 114, 111, 99, 101, 115, 115, 69, 114, 114, 111, 114]⟩ 122 (.type "ChildProcessError"), ent P ⟨#[67, 111, 110, 110, 101, 99, 116, 105, 111, 110, 69, 114, 114, 111, 114]⟩ 123 (.type "ConnectionError"), ent P ⟨#[70, 105, 108, 101, 69, 120, 105, 115, 116, 115, 69, 114, 114, 111, 114]⟩ 124 (.type "FileExistsError"), ent P ⟨#[70, 105, 108, 101, 78, 111, 116, 70, 111, 117, 110, 100, 69, 114, 114, 111, 114]⟩ 125 (.type "FileNotFoundError"), ent P ⟨#[73, 110, 116, 101, 114, 114, 117, 112, 116, 101, 100, 69, 114, 114, 111, 114]⟩ 126 (.type "InterruptedError"), ent P ⟨#[73, 115, 65, 68, 105, 114, 101, 99, 116, 111, 114, 121, 69, 114, 114, 111, 114]⟩ 127 (.type "IsADirectoryError"), ent P ⟨#[78, 111, 116, 65, 68, 105, 114, 101, 99, 116, 111, 114, 121, 69, 114, 114, 111, 114]⟩ 128 (.type "NotADirectoryError"), ent P ⟨#[80, 101, 114, 109, 105, 115, 115, 105, 111, 110, 69, 114, 114, 111, 114]⟩ 129 (.type "PermissionError"), ent P ⟨#[80, 114, 111, 99, 101, 115, 115, 76, 111, 111, 107, 117, 112, 69, 114, 114, 111, 114]⟩ 130 (.type "ProcessLookupError"), ent P ⟨#[84, 105, 109, 101, 111, 117, 116, 69, 114, 114, 111, 114]⟩ 131 (.type "TimeoutError"), ent P ⟨#[73, 110, 100, 101, 110, 116, 97, 116, 105, 111, 110, 69, 114, 114, 111, 114]⟩ 132 (.type "IndentationError"), ent P ⟨#[95, 73, 110, 99, 111, 109, 112, 108, 101, 116, 101, 73, 110, 112, 117, 116, 69, 114, 114, 111, 114]⟩ 133 (.type "_IncompleteInputError"), ent P ⟨#[73, 110, 100, 101, 120, 69, 114, 114, 111, 114]⟩ 134 (.type "IndexError"), ent P ⟨#[75, 101, 121, 69, 114, 114, 111, 114]⟩ 135 (.type "KeyError"), ent P ⟨#[77, 111, 100, 117, 108, 101, 78, 111, 116, 70, 111, 117, 110, 100, 69, 114, 114, 111, 114]⟩ 136 (.type "ModuleNotFoundError"), ent P ⟨#[78, 111, 116, 73, 109, 112, 108, 101, 109, 101, 110, 116, 101, 100, 69, 114, 114, 111, 114]⟩ 137 (.type "NotImplementedError"), ent P ⟨#[80, 121, 116, 104, 111, 110, 70, 105, 110, 97, 108, 105, 122, 97, 116, 105, 111, 110, 69, 114, 114, 111, 114]⟩ 138 (.type "PythonFinalizationError"), ent P ⟨#[82, 101, 99, 117, 114, 115, 105, 111, 110, 69, 114, 114, 111, 114]⟩ 139 (.type "RecursionError"), ent P ⟨#[85, 110, 98, 111, 117, 110, 100, 76, 111, 99, 97, 108, 69, 114, 114, 111, 114]⟩ 140 (.type "UnboundLocalError"), ent P ⟨#[85, 110, 105, 99, 111, 100, 101, 69, 114, 114, 111, 114]⟩ 141 (.type "UnicodeError"), ent P ⟨#[66, 114, 111, 107, 101, 110, 80, 105, 112, 101, 69, 114, 114, 111, 114]⟩ 142 (.type "BrokenPipeError"), ent P ⟨#[67, 111, 110, 110, 101, 99, 116, 105, 111, 110, 65, 98, 111, 114, 116, 101, 100, 69, 114, 114, 111, 114]⟩ 143 (.type "ConnectionAbortedError"), ent P ⟨#[67, 111, 110, 110, 101, 99, 116, 105, 111, 110, 82, 101, 102, 117, 115, 101, 100, 69, 114, 114, 111, 114]⟩ 144 (.type "ConnectionRefusedError"), ent P ⟨#[67, 111, 110, 110, 101, 99, 116, 105, 111, 110, 82, 101, 115, 101, 116, 69, 114, 114, 111, 114]⟩ 145 (.type "ConnectionResetError"), ent P ⟨#[84, 97, 98, 69, 114, 114, 111, 114]⟩ 146 (.type "TabError"), ent P ⟨#[85, 110, 105, 99, 111, 100, 101, 68, 101, 99, 111, 100, 101, 69, 114, 114, 111, 114]⟩ 147 (.type "UnicodeDecodeError"), ent P ⟨#[85, 110, 105, 99, 111, 100, 101, 69, 110, 99, 111, 100, 101, 69, 114, 114, 111, 114]⟩ 148 (.type "UnicodeEncodeError"), ent P ⟨#[85, 110, 105, 99, 111, 100, 101, 84, 114, 97, 110, 115, 108, 97, 116, 101, 69, 114, 114, 111, 114]⟩ 149 (.type "UnicodeTranslateError"), ent P ⟨#[69, 120, 99, 101, 112, 116, 105, 111, 110, 71, 114, 111, 117, 112]⟩ 150 (.type "ExceptionGroup"), ent P ⟨#[69, 110, 118, 105, 114, 111, 110, 109, 101, 110, 116, 69, 114, 114, 111, 114]⟩ 151 (.type "OSError"), ent P ⟨#[73, 79, 69, 114, 114, 111, 114]⟩ 152 (.type "OSError"), ent P ⟨#[111, 112, 101, 110]⟩ 153 (.builtin "open"), ent P ⟨#[113, 117, 105, 116]⟩ 154 (.builtin "builtins.quit#opaque"), ent P ⟨#[101, 120, 105, 116]⟩ 155 (.builtin "builtins.exit#opaque"), ent P ⟨#[99, 111, 112, 121, 114, 105, 103, 104, 116]⟩ 156 (.builtin "builtins.copyright#opaque"), ent P ⟨#[99, 114, 101, 100, 105, 116, 115]⟩ 157 (.builtin "builtins.credits#opaque"), ent P ⟨#[108, 105, 99, 101, 110, 115, 101]⟩ 158 (.builtin "builtins.license#opaque"), ent P ⟨#[104, 101, 108, 112]⟩ 159 (.builtin "builtins.help#opaque")] 159, #[]⟩
noncomputable def o1 (P : Params) : Obj := ⟨.type "dict", none, .dict #[ent P ⟨#[98, 117, 105, 108, 116, 105, 110, 115]⟩ 162 (.ref 4), ent P ⟨#[95, 95, 109, 97, 105, 110, 95, 95]⟩ 163 (.ref 5), ent P ⟨#[95, 115, 114, 101]⟩ 244 (.ref 12), ent P ⟨#[95, 99, 111, 108, 108, 101, 99, 116, 105, 111, 110, 115]⟩ 292 (.ref 30)] 4, #[]⟩
noncomputable def o2 (P : Params) : Obj := ⟨.none, none, .dict #[ent P ⟨#[105, 109, 112, 111, 114, 116, 46, 108, 111, 97, 100, 101, 100, 46, 95, 115, 114, 101]⟩ 183 (.bool true), ent P ⟨#[99, 108, 97, 115, 115, 46, 95, 102, 114, 111, 122, 101, 110, 95, 105, 109, 112, 111, 114, 116, 108, 105, 98, 46, 66, 117, 105, 108, 116, 105, 110, 73, 109, 112, 111, 114, 116, 101, 114]⟩ 185 (.ref 14), ent P ⟨#[119, 97, 116, 99, 104, 101, 100, 46, 105, 109, 112, 111, 114, 116]⟩ 206 (.ref 18), ent P ⟨#[99, 108, 97, 115, 115, 46, 95, 102, 114, 111, 122, 101, 110, 95, 105, 109, 112, 111, 114, 116, 108, 105, 98, 46, 77, 111, 100, 117, 108, 101, 83, 112, 101, 99]⟩ 216 (.ref 22), ent P ⟨#[115, 121, 115, 46, 109, 111, 100, 117, 108, 101, 115, 46, 98, 111, 111, 107, 101, 100, 45, 101, 112, 111, 99, 104]⟩ 245 (.int 4 0), ent P ⟨#[105, 109, 112, 111, 114, 116, 46, 108, 97, 116, 101, 114, 45, 108, 97, 105, 100, 46, 95, 115, 114, 101]⟩ 270 (.bool true), ent P ⟨#[119, 97, 116, 99, 104, 101, 100, 46, 108, 105, 98, 114, 97, 114, 121]⟩ 272 (.ref 27), ent P ⟨#[119, 97, 116, 99, 104, 101, 100, 46, 108, 105, 98, 114, 97, 114, 121, 45, 111, 98, 106, 101, 99, 116, 115]⟩ 0 (.str ⟨#[12, 30]⟩ 0), ent P ⟨#[119, 97, 116, 99, 104, 101, 100, 46, 108, 105, 98, 114, 97, 114, 121, 45, 100, 101, 101, 112, 46, 95, 115, 114, 101]⟩ 273 (.str ⟨#[4, 0, 0, 11, 4, 0, 0, 11, 4, 0, 0, 3, 4, 0, 0, 11, 8, 4, 100, 105, 99, 116, 2]⟩ 0), ent P ⟨#[105, 109, 112, 111, 114, 116, 46, 108, 111, 97, 100, 101, 100, 46, 95, 99, 111, 108, 108, 101, 99, 116, 105, 111, 110, 115]⟩ 280 (.bool true), ent P ⟨#[115, 121, 115, 46, 109, 111, 100, 117, 108, 101, 115, 46, 108, 97, 110, 100, 101, 100, 46, 95, 99, 111, 108, 108, 101, 99, 116, 105, 111, 110, 115]⟩ 294 (.bool true), ent P ⟨#[105, 109, 112, 111, 114, 116, 46, 108, 97, 116, 101, 114, 45, 108, 97, 105, 100, 46, 95, 99, 111, 108, 108, 101, 99, 116, 105, 111, 110, 115]⟩ 309 (.bool true), ent P ⟨#[119, 97, 116, 99, 104, 101, 100, 46, 108, 105, 98, 114, 97, 114, 121, 45, 100, 101, 101, 112, 46, 95, 99, 111, 108, 108, 101, 99, 116, 105, 111, 110, 115]⟩ 311 (.str ⟨#[4, 0, 0, 29, 4, 0, 0, 29, 4, 0, 0, 3, 4, 0, 0, 29, 8, 4, 100, 105, 99, 116, 2]⟩ 0), ent P ⟨#[116, 121, 112, 101, 46, 95, 95, 115, 117, 98, 99, 108, 97, 115, 115, 101, 115, 95, 95, 46, 79, 83, 69, 114, 114, 111, 114, 46, 48]⟩ 407 (.int 73 0), ent P ⟨#[116, 121, 112, 101, 46, 95, 95, 115, 117, 98, 99, 108, 97, 115, 115, 101, 115, 95, 95, 46, 79, 83, 69, 114, 114, 111, 114, 46, 110]⟩ 408 (.int 1 0)] 15, #[]⟩
noncomputable def o3 (P : Params) : Obj := ⟨.type "dict", none, .dict #[ent P ⟨#[95, 95, 110, 97, 109, 101, 95, 95]⟩ 165 (.str ⟨#[108, 97, 119, 95, 110, 121, 48, 51, 57, 51, 95, 48, 49]⟩ 1314), ent P ⟨#[95, 95, 100, 111, 99, 95, 95]⟩ 166 (.none), ent P ⟨#[95, 95, 112, 97, 99, 107, 97, 103, 101, 95, 95]⟩ 167 (.none), ent P ⟨#[95, 95, 108, 111, 97, 100, 101, 114, 95, 95]⟩ 168 (.builtin "__main__.__loader__#opaque"), ent P ⟨#[95, 95, 115, 112, 101, 99, 95, 95]⟩ 169 (.none), ent P ⟨#[95, 95, 97, 110, 110, 111, 116, 97, 116, 105, 111, 110, 115, 95, 95]⟩ 170 (.ref 6), ent P ⟨#[95, 95, 98, 117, 105, 108, 116, 105, 110, 115, 95, 95]⟩ 171 (.ref 4), ent P ⟨#[95, 95, 102, 105, 108, 101, 95, 95]⟩ 173 (.str ⟨#[47, 99, 108, 97, 105, 109, 47, 99, 117, 116, 46, 112, 121]⟩ 172), ent P ⟨#[95, 95, 99, 97, 99, 104, 101, 100, 95, 95]⟩ 174 (.none), ent P ⟨#[95, 115, 114, 101]⟩ 275 (.ref 12), ent P ⟨#[100, 101, 113, 117, 101]⟩ 317 (.type "collections.deque"), ent P ⟨#[95, 119, 97, 108, 108]⟩ 330 (.ref 44), ent P ⟨#[95, 116, 119, 105, 110, 95, 114, 101, 95, 49]⟩ 370 (.ref 49), ent P ⟨#[95, 119, 104, 101, 110, 99, 101]⟩ 380 (.ref 56), ent P ⟨#[95, 105, 110, 100, 101, 120]⟩ 388 (.ref 63), ent P ⟨#[85, 110, 115, 117, 112, 112, 111, 114, 116, 101, 100, 79, 112, 101, 114, 97, 116, 105, 111, 110]⟩ 410 (.ref 73), ent P ⟨#[73, 79, 66, 97, 115, 101]⟩ 442 (.ref 93), ent P ⟨#[66, 117, 102, 102, 101, 114, 101, 100, 73, 79, 66, 97, 115, 101]⟩ 460 (.ref 108), ent P ⟨#[84, 101, 120, 116, 73, 79, 66, 97, 115, 101]⟩ 478 (.ref 120), ent P ⟨#[66, 121, 116, 101, 115, 73, 79]⟩ 740 (.ref 350), ent P ⟨#[83, 116, 114, 105, 110, 103, 73, 79]⟩ 1027 (.ref 597), ent P ⟨#[95, 107, 105, 110, 100]⟩ 1038 (.ref 606), ent P ⟨#[95, 102, 115, 112, 97, 116, 104]⟩ 1047 (.ref 613), ent P ⟨#[95, 99, 104, 101, 99, 107, 95, 97, 114, 103, 95, 116, 121, 112, 101, 115]⟩ 1057 (.ref 620), ent P ⟨#[105, 115, 97, 98, 115]⟩ 1064 (.ref 627), ent P ⟨#[106, 111, 105, 110]⟩ 1075 (.ref 751), ent P ⟨#[106, 111, 105, 110, 95, 112, 97, 116, 104]⟩ 1076 (.ref 634), ent P ⟨#[100, 105, 114, 110, 97, 109, 101]⟩ 1086 (.ref 641), ent P ⟨#[115, 104, 108, 101, 120]⟩ 1227 (.ref 732), ent P ⟨#[115, 112, 108, 105, 116]⟩ 1237 (.ref 744), ent P ⟨#[106, 111, 105, 110, 95, 115, 104, 108, 101, 120]⟩ 1245 (.ref 751), ent P ⟨#[95, 102, 105, 110, 100, 95, 117, 110, 115, 97, 102, 101]⟩ 1247 (.ref 752), ent P ⟨#[113, 117, 111, 116, 101]⟩ 1254 (.ref 759), ent P ⟨#[95, 105, 116, 101, 114, 95, 101, 115, 99, 97, 112, 101, 100, 95, 99, 104, 97, 114, 115]⟩ 1266 (.ref 766), ent P ⟨#[95, 115, 116, 114, 105, 112, 95, 113, 117, 111, 116, 101, 100, 95, 114, 101, 97, 108, 110, 97, 109, 101, 115]⟩ 1278 (.ref 773), ent P ⟨#[95, 99, 104, 101, 99, 107, 95, 112, 97, 114, 101, 110, 116, 104, 101, 115, 105, 115]⟩ 1288 (.ref 780), ent P ⟨#[95, 112, 114, 101, 95, 112, 97, 114, 115, 101, 95, 118, 97, 108, 105, 100, 97, 116, 105, 111, 110]⟩ 1297 (.ref 787), ent P ⟨#[115, 111, 114, 116, 101, 100, 95, 108, 105, 115, 116, 95, 100, 105, 102, 102, 101, 114, 101, 110, 99, 101]⟩ 1313 (.ref 794), ent P ⟨#[95, 108, 97, 119, 95, 98, 111, 111, 107]⟩ 1326 (.ref 801), ent P ⟨#[95, 108, 97, 119, 95, 99, 108, 111, 115, 101, 100]⟩ 1332 (.ref 806), ent P ⟨#[95, 108, 97, 119, 95, 98, 101, 121, 111, 110, 100]⟩ 1342 (.ref 813), ent P ⟨#[108, 97, 119]⟩ 1348 (.ref 818)] 42, #[]⟩
noncomputable def o4 (P : Params) : Obj := ⟨.type "module", some 0, .plain, #[]⟩
noncomputable def o48 (P : Params) : Obj := ⟨.type "tuple", none, .seq #[.int 14 0, .int 17 0, .int 4 0, .int 1 0, .int 1 0, .int 21 0, .int 9 0, .int 0 0, .int 604043296 0, .int 1 0, .int 0 0, .int 0 0, .int 0 0, .int 0 0, .int 0 0, .int 8 0, .int 4 0, .int 0 0, .int 13 0, .int 14 0, .int 21 0, .int 9 0, .int 0 0, .int 604043296 0, .int 1 0, .int 0 0, .int 0 0, .int 0 0, .int 0 0, .int 0 0, .int 8 0, .int 4 0, .int 0 0, .int 1 0] 0, #[]⟩
noncomputable def o49 (P : Params) : Obj := ⟨.type "re.Pattern", none, .fields #[.str ⟨#[91, 94, 92, 119, 64, 37, 43, 61, 58, 44, 46, 47, 45, 93]⟩ 332, .int 256 369, .int 0 0, .none, .none, .ref 48, .int 0 0], #[]⟩
noncomputable def o62 (P : Params) : Obj := ⟨.type "code", none, .fields #[.str ⟨#[95, 105, 110, 100, 101, 120]⟩ 381, .str ⟨#[95, 105, 110, 100, 101, 120]⟩ 382, .str ⟨#[47, 99, 108, 97, 105, 109, 47, 99, 117, 116, 46, 112, 121]⟩ 383, .int 13 0, .int 2 0, .int 0 0, .int 0 0, .int 3 0, .ref 57, .bool true, .int 318 0, .ref 58, .none, .ref 59, .ref 60, .ref 61, .int 386 0, .int 13 0, .str ⟨#[47, 99, 108, 97, 105, 109, 47, 99, 117, 116, 46, 112, 121]⟩ 387], #[]⟩
noncomputable def o63 (P : Params) : Obj := ⟨.type "function", none, .func fd63, #[]⟩
noncomputable def o89 (P : Params) : Obj := ⟨.type "code", none, .fields #[.str ⟨#[95, 95, 110, 101, 119, 95, 95]⟩ 425, .str ⟨#[73, 79, 66, 97, 115, 101, 46, 95, 95, 110, 101, 119, 95, 95]⟩ 426, .str ⟨#[47, 99, 108, 97, 105, 109, 47, 99, 117, 116, 46, 112, 121]⟩ 427, .int 25 0, .int 1 0, .int 1 0, .int 0 0, .int 15 0, .ref 84, .bool true, .int 318 0, .ref 85, .none, .ref 86, .ref 87, .ref 88, .int 431 0, .int 25 0, .str ⟨#[47, 99, 108, 97, 105, 109, 47, 99, 117, 116, 46, 112, 121]⟩ 432], #[]⟩
noncomputable def o90 (P : Params) : Obj := ⟨.type "function", none, .func fd90, #[]⟩
noncomputable def o92 (P : Params) : Obj := ⟨.type "dict", none, .dict #[ent P ⟨#[95, 95, 109, 111, 100, 117, 108, 101, 95, 95]⟩ 418 (.str ⟨#[105, 111]⟩ 423), ent P ⟨#[95, 95, 102, 105, 114, 115, 116, 108, 105, 110, 101, 110, 111, 95, 95]⟩ 422 (.int 22 421), ent P ⟨#[95, 95, 110, 101, 119, 95, 95]⟩ 433 (.ref 94), ent P ⟨#[95, 95, 115, 116, 97, 116, 105, 99, 95, 97, 116, 116, 114, 105, 98, 117, 116, 101, 115, 95, 95]⟩ 434 (.ref 91), ent P ⟨#[95, 95, 100, 105, 99, 116, 95, 95]⟩ 437 (.ref 95), ent P ⟨#[95, 95, 119, 101, 97, 107, 114, 101, 102, 95, 95]⟩ 439 (.ref 96), ent P ⟨#[95, 95, 100, 111, 99, 95, 95]⟩ 440 (.none)] 4, #[]⟩
noncomputable def o93 (P : Params) : Obj := ⟨.type "type", none, .cls { name := ⟨#[73, 79, 66, 97, 115, 101]⟩, bases := [.type "object"], mro := [.ref 93, .type "object"], ns := 92, qualname := ⟨#[73, 79, 66, 97, 115, 101]⟩, hasDict := true, slotNames := [], subclasses := [.ref 108, .ref 120], abstract := false, collection := none, hasDel := false }, #[none, none, some (.str ⟨#[73, 79, 66, 97, 115, 101]⟩ 411), some (.str ⟨#[73, 79, 66, 97, 115, 101]⟩ 419), some (.none), some (.bool true)]⟩
noncomputable def o94 (P : Params) : Obj := ⟨.type "staticmethod", none, .fields #[.ref 90], #[]⟩
noncomputable def o119 (P : Params) : Obj := ⟨.type "dict", none, .dict #[ent P ⟨#[95, 95, 109, 111, 100, 117, 108, 101, 95, 95]⟩ 468 (.str ⟨#[105, 111]⟩ 473), ent P ⟨#[95, 95, 102, 105, 114, 115, 116, 108, 105, 110, 101, 110, 111, 95, 95]⟩ 472 (.int 31 471), ent P ⟨#[95, 95, 115, 116, 97, 116, 105, 99, 95, 97, 116, 116, 114, 105, 98, 117, 116, 101, 115, 95, 95]⟩ 475 (.ref 118), ent P ⟨#[95, 95, 100, 111, 99, 95, 95]⟩ 476 (.none)] 2, #[]⟩
noncomputable def o120 (P : Params) : Obj := ⟨.type "type", none, .cls { name := ⟨#[84, 101, 120, 116, 73, 79, 66, 97, 115, 101]⟩, bases := [.ref 93], mro := [.ref 120, .ref 93, .type "object"], ns := 119, qualname := ⟨#[84, 101, 120, 116, 73, 79, 66, 97, 115, 101]⟩, hasDict := true, slotNames := [], subclasses := [.ref 597], abstract := false, collection := none, hasDel := false }, #[some (.ref 111), none, some (.str ⟨#[84, 101, 120, 116, 73, 79, 66, 97, 115, 101]⟩ 461), some (.str ⟨#[84, 101, 120, 116, 73, 79, 66, 97, 115, 101]⟩ 469), some (.none), some (.bool true)]⟩
noncomputable def o350 (P : Params) : Obj := ⟨.type "type", none, .cls { name := ⟨#[66, 121, 116, 101, 115, 73, 79]⟩, bases := [.ref 108], mro := [.ref 350, .ref 108, .ref 93, .type "object"], ns := 349, qualname := ⟨#[66, 121, 116, 101, 115, 73, 79]⟩, hasDict := true, slotNames := [], subclasses := [], abstract := false, collection := none, hasDel := false }, #[some (.ref 123), none, some (.str ⟨#[66, 121, 116, 101, 115, 73, 79]⟩ 479), some (.str ⟨#[66, 121, 116, 101, 115, 73, 79]⟩ 487), some (.none), some (.bool true)]⟩
noncomputable def o360 (P : Params) : Obj := ⟨.type "tuple", none, .seq #[.str ⟨#[]⟩ 755, .str ⟨#[10]⟩ 756] 0, #[]⟩
noncomputable def o366 (P : Params) : Obj := ⟨.type "code", none, .fields #[.str ⟨#[95, 95, 105, 110, 105, 116, 95, 95]⟩ 757, .str ⟨#[83, 116, 114, 105, 110, 103, 73, 79, 46, 95, 95, 105, 110, 105, 116, 95, 95]⟩ 758, .str ⟨#[47, 99, 108, 97, 105, 109, 47, 99, 117, 116, 46, 112, 121]⟩ 759, .int 206 0, .int 3 0, .int 0 0, .int 0 0, .int 3 0, .ref 361, .bool true, .int 318 0, .ref 362, .none, .ref 363, .ref 364, .ref 365, .int 763 0, .int 206 0, .str ⟨#[47, 99, 108, 97, 105, 109, 47, 99, 117, 116, 46, 112, 121]⟩ 764], #[]⟩
noncomputable def o367 (P : Params) : Obj := ⟨.type "function", none, .func fd367, #[]⟩
noncomputable def o373 (P : Params) : Obj := ⟨.type "code", none, .fields #[.str ⟨#[95, 95, 116, 114, 97, 110, 115, 108, 97, 116, 101, 100]⟩ 766, .str ⟨#[83, 116, 114, 105, 110, 103, 73, 79, 46, 95, 95, 116, 114, 97, 110, 115, 108, 97, 116, 101, 100]⟩ 767, .str ⟨#[47, 99, 108, 97, 105, 109, 47, 99, 117, 116, 46, 112, 121]⟩ 768, .int 219 0, .int 2 0, .int 0 0, .int 0 0, .int 3 0, .ref 368, .bool true, .int 318 0, .ref 369, .none, .ref 370, .ref 371, .ref 372, .int 772 0, .int 219 0, .str ⟨#[47, 99, 108, 97, 105, 109, 47, 99, 117, 116, 46, 112, 121]⟩ 773], #[]⟩
noncomputable def o374 (P : Params) : Obj := ⟨.type "function", none, .func fd374, #[]⟩
noncomputable def o380 (P : Params) : Obj := ⟨.type "code", none, .fields #[.str ⟨#[95, 95, 99, 104, 101, 99, 107]⟩ 775, .str ⟨#[83, 116, 114, 105, 110, 103, 73, 79, 46, 95, 95, 99, 104, 101, 99, 107]⟩ 776, .str ⟨#[47, 99, 108, 97, 105, 109, 47, 99, 117, 116, 46, 112, 121]⟩ 777, .int 227 0, .int 1 0, .int 0 0, .int 0 0, .int 3 0, .ref 375, .bool true, .int 318 0, .ref 376, .none, .ref 377, .ref 378, .ref 379, .int 779 0, .int 227 0, .str ⟨#[47, 99, 108, 97, 105, 109, 47, 99, 117, 116, 46, 112, 121]⟩ 780], #[]⟩
noncomputable def o381 (P : Params) : Obj := ⟨.type "function", none, .func fd381, #[]⟩
noncomputable def o536 (P : Params) : Obj := ⟨.type "tuple", none, .seq #[.int (-1) 948] 0, #[]⟩
noncomputable def o542 (P : Params) : Obj := ⟨.type "code", none, .fields #[.str ⟨#[114, 101, 97, 100]⟩ 949, .str ⟨#[83, 116, 114, 105, 110, 103, 73, 79, 46, 114, 101, 97, 100]⟩ 950, .str ⟨#[47, 99, 108, 97, 105, 109, 47, 99, 117, 116, 46, 112, 121]⟩ 951, .int 349 0, .int 2 0, .int 2 0, .int 0 0, .int 3 0, .ref 537, .bool true, .int 318 0, .ref 538, .none, .ref 539, .ref 540, .ref 541, .int 956 0, .int 349 0, .str ⟨#[47, 99, 108, 97, 105, 109, 47, 99, 117, 116, 46, 112, 121]⟩ 957], #[]⟩
noncomputable def o543 (P : Params) : Obj := ⟨.type "function", none, .func fd543, #[]⟩
noncomputable def o596 (P : Params) : Obj := ⟨.type "dict", none, .dict #[ent P ⟨#[95, 95, 109, 111, 100, 117, 108, 101, 95, 95]⟩ 748 (.str ⟨#[95, 105, 111]⟩ 753), ent P ⟨#[95, 95, 102, 105, 114, 115, 116, 108, 105, 110, 101, 110, 111, 95, 95]⟩ 752 (.int 203 751), ent P ⟨#[95, 95, 105, 110, 105, 116, 95, 95]⟩ 765 (.ref 367), ent P ⟨#[95, 83, 116, 114, 105, 110, 103, 73, 79, 95, 95, 116, 114, 97, 110, 115, 108, 97, 116, 101, 100]⟩ 774 (.ref 374), ent P ⟨#[95, 83, 116, 114, 105, 110, 103, 73, 79, 95, 95, 99, 104, 101, 99, 107]⟩ 781 (.ref 381), ent P ⟨#[95, 83, 116, 114, 105, 110, 103, 73, 79, 95, 95, 99, 104, 101, 99, 107, 95, 100, 111, 116]⟩ 788 (.ref 388), ent P ⟨#[95, 83, 116, 114, 105, 110, 103, 73, 79, 95, 95, 108, 105, 110, 101]⟩ 803 (.ref 395), ent P ⟨#[99, 108, 111, 115, 101, 100]⟩ 811 (.ref 403), ent P ⟨#[108, 105, 110, 101, 95, 98, 117, 102, 102, 101, 114, 105, 110, 103]⟩ 819 (.ref 411), ent P ⟨#[110, 101, 119, 108, 105, 110, 101, 115]⟩ 827 (.ref 419), ent P ⟨#[101, 110, 99, 111, 100, 105, 110, 103]⟩ 835 (.ref 427), ent P ⟨#[101, 114, 114, 111, 114, 115]⟩ 843 (.ref 435), ent P ⟨#[99, 108, 111, 115, 101]⟩ 850 (.ref 442), ent P ⟨#[95, 95, 101, 110, 116, 101, 114, 95, 95]⟩ 857 (.ref 449), ent P ⟨#[95, 95, 101, 120, 105, 116, 95, 95]⟩ 865 (.ref 456), ent P ⟨#[114, 101, 97, 100, 97, 98, 108, 101]⟩ 872 (.ref 463), ent P ⟨#[119, 114, 105, 116, 97, 98, 108, 101]⟩ 879 (.ref 470), ent P ⟨#[115, 101, 101, 107, 97, 98, 108, 101]⟩ 886 (.ref 477), ent P ⟨#[105, 115, 97, 116, 116, 121]⟩ 893 (.ref 484), ent P ⟨#[102, 108, 117, 115, 104]⟩ 900 (.ref 491), ent P ⟨#[102, 105, 108, 101, 110, 111]⟩ 907 (.ref 498), ent P ⟨#[100, 101, 116, 97, 99, 104]⟩ 914 (.ref 505), ent P ⟨#[103, 101, 116, 118, 97, 108, 117, 101]⟩ 921 (.ref 512), ent P ⟨#[116, 101, 108, 108]⟩ 928 (.ref 519), ent P ⟨#[115, 101, 101, 107]⟩ 938 (.ref 527), ent P ⟨#[116, 114, 117, 110, 99, 97, 116, 101]⟩ 946 (.ref 535), ent P ⟨#[114, 101, 97, 100]⟩ 958 (.ref 543), ent P ⟨#[114, 101, 97, 100, 108, 105, 110, 101]⟩ 968 (.ref 551), ent P ⟨#[114, 101, 97, 100, 108, 105, 110, 101, 115]⟩ 978 (.ref 559), ent P ⟨#[95, 95, 105, 116, 101, 114, 95, 95]⟩ 985 (.ref 566), ent P ⟨#[95, 95, 110, 101, 120, 116, 95, 95]⟩ 993 (.ref 573), ent P ⟨#[119, 114, 105, 116, 101]⟩ 1005 (.ref 580), ent P ⟨#[119, 114, 105, 116, 101, 108, 105, 110, 101, 115]⟩ 1013 (.ref 587), ent P ⟨#[95, 95, 114, 101, 112, 114, 95, 95]⟩ 1020 (.ref 594), ent P ⟨#[95, 95, 115, 116, 97, 116, 105, 99, 95, 97, 116, 116, 114, 105, 98, 117, 116, 101, 115, 95, 95]⟩ 1024 (.ref 595), ent P ⟨#[95, 95, 100, 111, 99, 95, 95]⟩ 1025 (.none)] 2, #[]⟩
noncomputable def o597 (P : Params) : Obj := ⟨.type "type", none, .cls { name := ⟨#[83, 116, 114, 105, 110, 103, 73, 79]⟩, bases := [.ref 120], mro := [.ref 597, .ref 120, .ref 93, .type "object"], ns := 596, qualname := ⟨#[83, 116, 114, 105, 110, 103, 73, 79]⟩, hasDict := true, slotNames := [], subclasses := [], abstract := false, collection := none, hasDel := false }, #[some (.ref 353), none, some (.str ⟨#[83, 116, 114, 105, 110, 103, 73, 79]⟩ 741), some (.str ⟨#[83, 116, 114, 105, 110, 103, 73, 79]⟩ 749), some (.none), some (.bool true)]⟩
noncomputable def o649 (P : Params) : Obj := ⟨.type "tuple", none, .seq #[.none, .none, .bool false, .bool false] 0, #[]⟩
noncomputable def o655 (P : Params) : Obj := ⟨.type "code", none, .fields #[.str ⟨#[95, 95, 105, 110, 105, 116, 95, 95]⟩ 1101, .str ⟨#[115, 104, 108, 101, 120, 46, 95, 95, 105, 110, 105, 116, 95, 95]⟩ 1102, .str ⟨#[47, 99, 108, 97, 105, 109, 47, 99, 117, 116, 46, 112, 121]⟩ 1103, .int 475 0, .int 5 0, .int 0 0, .int 0 0, .int 3 0, .ref 650, .bool true, .int 318 0, .ref 651, .none, .ref 652, .ref 653, .ref 654, .int 1110 0, .int 475 0, .str ⟨#[47, 99, 108, 97, 105, 109, 47, 99, 117, 116, 46, 112, 121]⟩ 1111], #[]⟩
noncomputable def o656 (P : Params) : Obj := ⟨.type "function", none, .func fd656, #[]⟩
noncomputable def o662 (P : Params) : Obj := ⟨.type "code", none, .fields #[.str ⟨#[112, 117, 110, 99, 116, 117, 97, 116, 105, 111, 110, 95, 99, 104, 97, 114, 115]⟩ 1113, .str ⟨#[115, 104, 108, 101, 120, 46, 112, 117, 110, 99, 116, 117, 97, 116, 105, 111, 110, 95, 99, 104, 97, 114, 115]⟩ 1114, .str ⟨#[47, 99, 108, 97, 105, 109, 47, 99, 117, 116, 46, 112, 121]⟩ 1115, .int 516 0, .int 1 0, .int 0 0, .int 0 0, .int 3 0, .ref 657, .bool true, .int 318 0, .ref 658, .none, .ref 659, .ref 660, .ref 661, .int 1117 0, .int 516 0, .str ⟨#[47, 99, 108, 97, 105, 109, 47, 99, 117, 116, 46, 112, 121]⟩ 1118], #[]⟩
noncomputable def o663 (P : Params) : Obj := ⟨.type "function", none, .func fd663, #[]⟩
noncomputable def o664 (P : Params) : Obj := ⟨.type "property", none, .fields #[.ref 663, .none, .none, .none, .str ⟨#[112, 117, 110, 99, 116, 117, 97, 116, 105, 111, 110, 95, 99, 104, 97, 114, 115]⟩ 1120, .bool false], #[]⟩
noncomputable def o692 (P : Params) : Obj := ⟨.type "code", none, .fields #[.str ⟨#[103, 101, 116, 95, 116, 111, 107, 101, 110]⟩ 1145, .str ⟨#[115, 104, 108, 101, 120, 46, 103, 101, 116, 95, 116, 111, 107, 101, 110]⟩ 1146, .str ⟨#[47, 99, 108, 97, 105, 109, 47, 99, 117, 116, 46, 112, 121]⟩ 1147, .int 543 0, .int 1 0, .int 0 0, .int 0 0, .int 3 0, .ref 687, .bool true, .int 318 0, .ref 688, .none, .ref 689, .ref 690, .ref 691, .int 1154 0, .int 543 0, .str ⟨#[47, 99, 108, 97, 105, 109, 47, 99, 117, 116, 46, 112, 121]⟩ 1155], #[]⟩
noncomputable def o693 (P : Params) : Obj := ⟨.type "function", none, .func fd693, #[]⟩
noncomputable def o699 (P : Params) : Obj := ⟨.type "code", none, .fields #[.str ⟨#[114, 101, 97, 100, 95, 116, 111, 107, 101, 110]⟩ 1157, .str ⟨#[115, 104, 108, 101, 120, 46, 114, 101, 97, 100, 95, 116, 111, 107, 101, 110]⟩ 1158, .str ⟨#[47, 99, 108, 97, 105, 109, 47, 99, 117, 116, 46, 112, 121]⟩ 1159, .int 570 0, .int 1 0, .int 0 0, .int 0 0, .int 3 0, .ref 694, .bool true, .int 318 0, .ref 695, .none, .ref 696, .ref 697, .ref 698, .int 1165 0, .int 570 0, .str ⟨#[47, 99, 108, 97, 105, 109, 47, 99, 117, 116, 46, 112, 121]⟩ 1166], #[]⟩
noncomputable def o700 (P : Params) : Obj := ⟨.type "function", none, .func fd700, #[]⟩
noncomputable def o721 (P : Params) : Obj := ⟨.type "code", none, .fields #[.str ⟨#[95, 95, 105, 116, 101, 114, 95, 95]⟩ 1185, .str ⟨#[115, 104, 108, 101, 120, 46, 95, 95, 105, 116, 101, 114, 95, 95]⟩ 1186, .str ⟨#[47, 99, 108, 97, 105, 109, 47, 99, 117, 116, 46, 112, 121]⟩ 1187, .int 717 0, .int 1 0, .int 0 0, .int 0 0, .int 3 0, .ref 716, .bool true, .int 318 0, .ref 717, .none, .ref 718, .ref 719, .ref 720, .int 1189 0, .int 717 0, .str ⟨#[47, 99, 108, 97, 105, 109, 47, 99, 117, 116, 46, 112, 121]⟩ 1190], #[]⟩
noncomputable def o722 (P : Params) : Obj := ⟨.type "function", none, .func fd722, #[]⟩
noncomputable def o728 (P : Params) : Obj := ⟨.type "code", none, .fields #[.str ⟨#[95, 95, 110, 101, 120, 116, 95, 95]⟩ 1192, .str ⟨#[115, 104, 108, 101, 120, 46, 95, 95, 110, 101, 120, 116, 95, 95]⟩ 1193, .str ⟨#[47, 99, 108, 97, 105, 109, 47, 99, 117, 116, 46, 112, 121]⟩ 1194, .int 720 0, .int 1 0, .int 0 0, .int 0 0, .int 3 0, .ref 723, .bool true, .int 318 0, .ref 724, .none, .ref 725, .ref 726, .ref 727, .int 1197 0, .int 720 0, .str ⟨#[47, 99, 108, 97, 105, 109, 47, 99, 117, 116, 46, 112, 121]⟩ 1198], #[]⟩
noncomputable def o729 (P : Params) : Obj := ⟨.type "function", none, .func fd729, #[]⟩
noncomputable def o731 (P : Params) : Obj := ⟨.type "dict", none, .dict #[ent P ⟨#[95, 95, 109, 111, 100, 117, 108, 101, 95, 95]⟩ 1096 (.str ⟨#[99, 112, 121, 51, 49, 51, 46, 115, 104, 108, 101, 120]⟩ 1087), ent P ⟨#[95, 95, 102, 105, 114, 115, 116, 108, 105, 110, 101, 110, 111, 95, 95]⟩ 1100 (.int 473 1099), ent P ⟨#[95, 95, 105, 110, 105, 116, 95, 95]⟩ 1112 (.ref 656), ent P ⟨#[112, 117, 110, 99, 116, 117, 97, 116, 105, 111, 110, 95, 99, 104, 97, 114, 115]⟩ 1120 (.ref 664), ent P ⟨#[112, 117, 115, 104, 95, 116, 111, 107, 101, 110]⟩ 1128 (.ref 671), ent P ⟨#[112, 117, 115, 104, 95, 115, 111, 117, 114, 99, 101]⟩ 1137 (.ref 679), ent P ⟨#[112, 111, 112, 95, 115, 111, 117, 114, 99, 101]⟩ 1144 (.ref 686), ent P ⟨#[103, 101, 116, 95, 116, 111, 107, 101, 110]⟩ 1156 (.ref 693), ent P ⟨#[114, 101, 97, 100, 95, 116, 111, 107, 101, 110]⟩ 1167 (.ref 700), ent P ⟨#[115, 111, 117, 114, 99, 101, 104, 111, 111, 107]⟩ 1175 (.ref 707), ent P ⟨#[101, 114, 114, 111, 114, 95, 108, 101, 97, 100, 101, 114]⟩ 1184 (.ref 715), ent P ⟨#[95, 95, 105, 116, 101, 114, 95, 95]⟩ 1191 (.ref 722), ent P ⟨#[95, 95, 110, 101, 120, 116, 95, 95]⟩ 1199 (.ref 729), ent P ⟨#[95, 95, 115, 116, 97, 116, 105, 99, 95, 97, 116, 116, 114, 105, 98, 117, 116, 101, 115, 95, 95]⟩ 1220 (.ref 730), ent P ⟨#[95, 95, 100, 105, 99, 116, 95, 95]⟩ 1222 (.ref 733), ent P ⟨#[95, 95, 119, 101, 97, 107, 114, 101, 102, 95, 95]⟩ 1224 (.ref 734), ent P ⟨#[95, 95, 100, 111, 99, 95, 95]⟩ 1225 (.none)] 4, #[]⟩
noncomputable def o732 (P : Params) : Obj := ⟨.type "type", none, .cls { name := ⟨#[115, 104, 108, 101, 120]⟩, bases := [.type "object"], mro := [.ref 732, .type "object"], ns := 731, qualname := ⟨#[115, 104, 108, 101, 120]⟩, hasDict := true, slotNames := [], subclasses := [], abstract := false, collection := none, hasDel := false }, #[none, none, some (.str ⟨#[115, 104, 108, 101, 120]⟩ 1089), some (.str ⟨#[115, 104, 108, 101, 120]⟩ 1097), some (.builtin "object.__new__"), some (.bool true)]⟩
noncomputable def o737 (P : Params) : Obj := ⟨.type "tuple", none, .seq #[.bool false, .bool true] 0, #[]⟩
noncomputable def o743 (P : Params) : Obj := ⟨.type "code", none, .fields #[.str ⟨#[115, 112, 108, 105, 116]⟩ 1228, .str ⟨#[115, 112, 108, 105, 116]⟩ 1229, .str ⟨#[47, 99, 108, 97, 105, 109, 47, 99, 117, 116, 46, 112, 121]⟩ 1230, .int 725 0, .int 3 0, .int 0 0, .int 0 0, .int 3 0, .ref 738, .bool true, .int 318 0, .ref 739, .none, .ref 740, .ref 741, .ref 742, .int 1235 0, .int 725 0, .str ⟨#[47, 99, 108, 97, 105, 109, 47, 99, 117, 116, 46, 112, 121]⟩ 1236], #[]⟩
noncomputable def o744 (P : Params) : Obj := ⟨.type "function", none, .func fd744, #[]⟩
noncomputable def o746 (P : Params) : Obj := ⟨.none, none, .fields #[], #[]⟩
noncomputable def o750 (P : Params) : Obj := ⟨.type "code", none, .fields #[.str ⟨#[106, 111, 105, 110]⟩ 1238, .str ⟨#[106, 111, 105, 110]⟩ 1239, .str ⟨#[47, 99, 108, 97, 105, 109, 47, 99, 117, 116, 46, 112, 121]⟩ 1240, .int 733 0, .int 1 0, .int 0 0, .int 0 0, .int 3 0, .ref 745, .bool true, .int 318 0, .ref 746, .none, .ref 747, .ref 748, .ref 749, .int 1242 0, .int 733 0, .str ⟨#[47, 99, 108, 97, 105, 109, 47, 99, 117, 116, 46, 112, 121]⟩ 1243], #[]⟩
noncomputable def o751 (P : Params) : Obj := ⟨.type "function", none, .func fd751, #[]⟩
noncomputable def o752 (P : Params) : Obj := ⟨.type "builtin_function_or_method", none, .fields #[.builtin "re.Pattern.search", .ref 49], #[]⟩
noncomputable def o758 (P : Params) : Obj := ⟨.type "code", none, .fields #[.str ⟨#[113, 117, 111, 116, 101]⟩ 1248, .str ⟨#[113, 117, 111, 116, 101]⟩ 1249, .str ⟨#[47, 99, 108, 97, 105, 109, 47, 99, 117, 116, 46, 112, 121]⟩ 1250, .int 737 0, .int 1 0, .int 0 0, .int 0 0, .int 3 0, .ref 753, .bool true, .int 318 0, .ref 754, .none, .ref 755, .ref 756, .ref 757, .int 1252 0, .int 737 0, .str ⟨#[47, 99, 108, 97, 105, 109, 47, 99, 117, 116, 46, 112, 121]⟩ 1253], #[]⟩
noncomputable def o759 (P : Params) : Obj := ⟨.type "function", none, .func fd759, #[]⟩
noncomputable def o765 (P : Params) : Obj := ⟨.type "code", none, .fields #[.str ⟨#[95, 105, 116, 101, 114, 95, 101, 115, 99, 97, 112, 101, 100, 95, 99, 104, 97, 114, 115]⟩ 1257, .str ⟨#[95, 105, 116, 101, 114, 95, 101, 115, 99, 97, 112, 101, 100, 95, 99, 104, 97, 114, 115]⟩ 1258, .str ⟨#[47, 99, 108, 97, 105, 109, 47, 99, 117, 116, 46, 112, 121]⟩ 1259, .int 744 0, .int 1 0, .int 0 0, .int 0 0, .int 35 0, .ref 760, .bool true, .int 318 0, .ref 761, .none, .ref 762, .ref 763, .ref 764, .int 1264 0, .int 744 0, .str ⟨#[47, 99, 108, 97, 105, 109, 47, 99, 117, 116, 46, 112, 121]⟩ 1265], #[]⟩
noncomputable def o766 (P : Params) : Obj := ⟨.type "function", none, .func fd766, #[]⟩
noncomputable def o772 (P : Params) : Obj := ⟨.type "code", none, .fields #[.str ⟨#[95, 115, 116, 114, 105, 112, 95, 113, 117, 111, 116, 101, 100, 95, 114, 101, 97, 108, 110, 97, 109, 101, 115]⟩ 1267, .str ⟨#[95, 115, 116, 114, 105, 112, 95, 113, 117, 111, 116, 101, 100, 95, 114, 101, 97, 108, 110, 97, 109, 101, 115]⟩ 1268, .str ⟨#[47, 99, 108, 97, 105, 109, 47, 99, 117, 116, 46, 112, 121]⟩ 1269, .int 757 0, .int 1 0, .int 0 0, .int 0 0, .int 3 0, .ref 767, .bool true, .int 318 0, .ref 768, .none, .ref 769, .ref 770, .ref 771, .int 1276 0, .int 757 0, .str ⟨#[47, 99, 108, 97, 105, 109, 47, 99, 117, 116, 46, 112, 121]⟩ 1277], #[]⟩
noncomputable def o773 (P : Params) : Obj := ⟨.type "function", none, .func fd773, #[]⟩
noncomputable def o779 (P : Params) : Obj := ⟨.type "code", none, .fields #[.str ⟨#[95, 99, 104, 101, 99, 107, 95, 112, 97, 114, 101, 110, 116, 104, 101, 115, 105, 115]⟩ 1279, .str ⟨#[95, 99, 104, 101, 99, 107, 95, 112, 97, 114, 101, 110, 116, 104, 101, 115, 105, 115]⟩ 1280, .str ⟨#[47, 99, 108, 97, 105, 109, 47, 99, 117, 116, 46, 112, 121]⟩ 1281, .int 775 0, .int 1 0, .int 0 0, .int 0 0, .int 3 0, .ref 774, .bool true, .int 318 0, .ref 775, .none, .ref 776, .ref 777, .ref 778, .int 1286 0, .int 775 0, .str ⟨#[47, 99, 108, 97, 105, 109, 47, 99, 117, 116, 46, 112, 121]⟩ 1287], #[]⟩
noncomputable def o780 (P : Params) : Obj := ⟨.type "function", none, .func fd780, #[]⟩
noncomputable def o786 (P : Params) : Obj := ⟨.type "code", none, .fields #[.str ⟨#[95, 112, 114, 101, 95, 112, 97, 114, 115, 101, 95, 118, 97, 108, 105, 100, 97, 116, 105, 111, 110]⟩ 1289, .str ⟨#[95, 112, 114, 101, 95, 112, 97, 114, 115, 101, 95, 118, 97, 108, 105, 100, 97, 116, 105, 111, 110]⟩ 1290, .str ⟨#[47, 99, 108, 97, 105, 109, 47, 99, 117, 116, 46, 112, 121]⟩ 1291, .int 786 0, .int 1 0, .int 0 0, .int 0 0, .int 3 0, .ref 781, .bool true, .int 318 0, .ref 782, .none, .ref 783, .ref 784, .ref 785, .int 1295 0, .int 786 0, .str ⟨#[47, 99, 108, 97, 105, 109, 47, 99, 117, 116, 46, 112, 121]⟩ 1296], #[]⟩
noncomputable def o787 (P : Params) : Obj := ⟨.type "function", none, .func fd787, #[]⟩
noncomputable def o793 (P : Params) : Obj := ⟨.type "code", none, .fields #[.str ⟨#[115, 111, 114, 116, 101, 100, 95, 108, 105, 115, 116, 95, 100, 105, 102, 102, 101, 114, 101, 110, 99, 101]⟩ 1300, .str ⟨#[115, 111, 114, 116, 101, 100, 95, 108, 105, 115, 116, 95, 100, 105, 102, 102, 101, 114, 101, 110, 99, 101]⟩ 1301, .str ⟨#[47, 99, 108, 97, 105, 109, 47, 99, 117, 116, 46, 112, 121]⟩ 1302, .int 794 0, .int 2 0, .int 0 0, .int 0 0, .int 3 0, .ref 788, .bool true, .int 318 0, .ref 789, .none, .ref 790, .ref 791, .ref 792, .int 1311 0, .int 794 0, .str ⟨#[47, 99, 108, 97, 105, 109, 47, 99, 117, 116, 46, 112, 121]⟩ 1312], #[]⟩
noncomputable def o794 (P : Params) : Obj := ⟨.type "function", none, .func fd794, #[]⟩
noncomputable def o800 (P : Params) : Obj := ⟨.type "code", none, .fields #[.str ⟨#[95, 108, 97, 119, 95, 98, 111, 111, 107]⟩ 1316, .str ⟨#[95, 108, 97, 119, 95, 98, 111, 111, 107]⟩ 1317, .str ⟨#[47, 99, 108, 97, 105, 109, 47, 99, 117, 116, 46, 112, 121]⟩ 1318, .int 827 0, .int 1 0, .int 0 0, .int 0 0, .int 3 0, .ref 795, .bool true, .int 318 0, .ref 796, .none, .ref 797, .ref 798, .ref 799, .int 1324 0, .int 827 0, .str ⟨#[47, 99, 108, 97, 105, 109, 47, 99, 117, 116, 46, 112, 121]⟩ 1325], #[]⟩
noncomputable def o801 (P : Params) : Obj := ⟨.type "function", none, .func fd801, #[]⟩
noncomputable def o805 (P : Params) : Obj := ⟨.type "code", none, .fields #[.str ⟨#[95, 108, 97, 119, 95, 99, 108, 111, 115, 101, 100]⟩ 1327, .str ⟨#[95, 108, 97, 119, 95, 99, 108, 111, 115, 101, 100]⟩ 1328, .str ⟨#[47, 99, 108, 97, 105, 109, 47, 99, 117, 116, 46, 112, 121]⟩ 1329, .int 840 0, .int 1 0, .int 0 0, .int 0 0, .int 3 0, .ref 802, .bool true, .int 318 0, .ref 803, .none, .none, .none, .ref 804, .int 1330 0, .int 840 0, .str ⟨#[47, 99, 108, 97, 105, 109, 47, 99, 117, 116, 46, 112, 121]⟩ 1331], #[]⟩
noncomputable def o806 (P : Params) : Obj := ⟨.type "function", none, .func fd806, #[]⟩
noncomputable def o812 (P : Params) : Obj := ⟨.type "code", none, .fields #[.str ⟨#[95, 108, 97, 119, 95, 98, 101, 121, 111, 110, 100]⟩ 1333, .str ⟨#[95, 108, 97, 119, 95, 98, 101, 121, 111, 110, 100]⟩ 1334, .str ⟨#[47, 99, 108, 97, 105, 109, 47, 99, 117, 116, 46, 112, 121]⟩ 1335, .int 848 0, .int 2 0, .int 0 0, .int 0 0, .int 3 0, .ref 807, .bool true, .int 318 0, .ref 808, .none, .ref 809, .ref 810, .ref 811, .int 1340 0, .int 848 0, .str ⟨#[47, 99, 108, 97, 105, 109, 47, 99, 117, 116, 46, 112, 121]⟩ 1341], #[]⟩
noncomputable def o813 (P : Params) : Obj := ⟨.type "function", none, .func fd813, #[]⟩
noncomputable def o817 (P : Params) : Obj := ⟨.type "code", none, .fields #[.str ⟨#[108, 97, 119]⟩ 1343, .str ⟨#[108, 97, 119]⟩ 1344, .str ⟨#[47, 99, 108, 97, 105, 109, 47, 99, 117, 116, 46, 112, 121]⟩ 1345, .int 855 0, .int 1 0, .int 0 0, .int 0 0, .int 3 0, .ref 814, .bool true, .int 318 0, .ref 815, .none, .none, .none, .ref 816, .int 1346 0, .int 855 0, .str ⟨#[47, 99, 108, 97, 105, 109, 47, 99, 117, 116, 46, 112, 121]⟩ 1347], #[]⟩
noncomputable def o818 (P : Params) : Obj := ⟨.type "function", none, .func fd818, #[]⟩
noncomputable def K (P : Params) : List (Addr × Obj) := [(0, o0 P), (1, o1 P), (2, o2 P), (3, o3 P), (4, o4 P), (48, o48 P), (49, o49 P), (62, o62 P), (63, o63 P), (89, o89 P), (90, o90 P), (92, o92 P), (93, o93 P), (94, o94 P), (119, o119 P), (120, o120 P), (350, o350 P), (360, o360 P), (366, o366 P), (367, o367 P), (373, o373 P), (374, o374 P), (380, o380 P), (381, o381 P), (536, o536 P), (542, o542 P), (543, o543 P), (596, o596 P), (597, o597 P), (649, o649 P), (655, o655 P), (656, o656 P), (662, o662 P), (663, o663 P), (664, o664 P), (692, o692 P), (693, o693 P), (699, o699 P), (700, o700 P), (721, o721 P), (722, o722 P), (728, o728 P), (729, o729 P), (731, o731 P), (732, o732 P), (737, o737 P), (743, o743 P), (744, o744 P), (750, o750 P), (751, o751 P), (752, o752 P), (758, o758 P), (759, o759 P), (765, o765 P), (766, o766 P), (772, o772 P), (773, o773 P), (779, o779 P), (780, o780 P), (786, o786 P), (787, o787 P), (793, o793 P), (794, o794 P), (800, o800 P), (801, o801 P), (805, o805 P), (806, o806 P), (812, o812 P), (813, o813 P), (817, o817 P), (818, o818 P)]
noncomputable def bodyOf (fd : FuncData) : List Stmt := match fd.body with
  | .stmts b => b
  | .expr _ => []
/- the environment of a call of one of the text's defs -/
noncomputable def fEnv (fd : FuncData) (a L : Addr) : Env := { scope := fd.scope, locals := L, globals := fd.globals, cells := fd.closure, qual := fd.qualname ++ (⟨#[46, 60, 108, 111, 99, 97, 108, 115, 62, 46]⟩ : Str), func := some a, code := fd.code, frame := some L, builtins := fd.builtins }
end
section
open PySem PySem.W PySem.W.X PyProof.Rows
noncomputable def q : Program := { PW with main := { PW.main with body := PW.main.body.drop 39 } }
noncomputable def loose : List Str := PW.boundNames.filter fun n => n != (Str.ofString "law")
noncomputable def ads : List Addr := [746, 0, 1, 2, 3, 4, 48, 49, 62, 63, 89, 90, 92, 93, 94, 119, 120, 350, 360, 366, 367, 373, 374, 380, 381, 536, 542, 543, 596, 597, 649, 655, 656, 662, 663, 664, 692, 693, 699, 700, 721, 722, 728, 729, 731, 732, 737, 743, 744, 750, 751, 752, 758, 759, 765, 766, 772, 773, 779, 780, 786, 787, 793, 794, 800, 801, 805, 806, 812, 813, 817, 818]
noncomputable def K' (P : Params) : List (Addr × Obj) := (746, o746 P) :: K P
noncomputable def obs (stp : (Code → Sem Fin) → Program → World → SharedT → Thread → Option (SharedT × Thread)) (den : (String → Option Builtin) → Code → Sem Fin) (tb : String → Option Builtin) (sk : Nat → Option Value → Thread → Bool) (w : World) :=
  (endsG stp den tb sk PW w 12000).map (fun s => (openSeen q loose (importedModules PW.main.body) (fun s => xlAt q [] s && recOk [] s) true s.abs, obsZ ads s.abs))
theorem obsQ : ∀ w, obs PySem.W.Fast.tw10156331382660048174 PySem.W.Fast.tw11892475500146522536 PySem.W.Fast.tw14364793385576792824 PySem.W.Fast.tw6613529449190102663 w = some (openGood q loose, valZ K' 819 1349 w) := fun w => by kernel_rfl
theorem obsT : ∀ w, obs stepT denote treeTable stepOk w = some (openGood q loose, valZ K' 819 1349 w) := fun w => by
  rw [PySem.W.Fast.te10156331382660048174, PySem.W.Fast.te11892475500146522536, PySem.W.Fast.te14364793385576792824, PySem.W.Fast.te6613529449190102663]
  exact obsQ w
end
section
open PySem PySem.W PySem.W.X PyProof.Rows

/- the callers of the tree at hand, inside one evaluation -/
inductive Kt where
  | base
  | ret (c : Code) (hd : Option Value) (k : Result → Sem Fin) (κ : Kt)

/- what stands at the bottom of an evaluation: a plain caller, or a generator's own frames -/
structure Base (M : Model) where
  A : Around
  P : Sem Fin → Shared → Prop
  step : ∀ {α : Type} (m : Sem α) (K : α → Sem Fin) (H : Value → Sem Fin) (gd : Bool → Bool) (lv : List Value → List Value) (s : Shared),
    wpAny M A m (fun a s' => P (K a) s') (fun x s' => P (H x) s') s → P (m.wrap K H gd lv) s
theorem wp_wrap {α β : Type} (M : Model) (Γ : Ctx) (m : Sem α) (K : α → Sem β) (H : Value → Sem β) (gd : Bool → Bool) (lv : List Value → List Value) (Q : β → Pos → Shared → Prop) (E : Value → Pos → Shared → Prop) (p : Pos) (s : Shared) :
    Sem.wp M Γ (m.wrap K H gd lv) Q E p s = Sem.wp M Γ m (fun a p' s' => Sem.wp M Γ (K a) Q E p' s') (fun e p' s' => Sem.wp M Γ (H e) Q E p' s') p s := by
  induction m generalizing p s <;> simp only [Sem.wrap, Sem.wp, *]
/- a plain caller -/
noncomputable def plainBase (M : Model) (A : Around) (Q : Fin → Shared → Prop) (E : Value → Shared → Prop) : Base M :=
  ⟨A, fun t s => wpAny M A t Q E s, fun m K H gd lv s h Γ p hΓ => by
    rw [wp_wrap]
    exact Sem.wp_mono M Γ m (fun a p' s' h' => h' Γ p' hΓ) (fun e p' s' h' => h' Γ p' hΓ) p s (h Γ p hΓ)⟩
/- a generator's frames -/
noncomputable def genBase (w : World) (A : Around) (c : Code) (fs : List Frame) (Φ : End → Shared → Prop) : Base (model PW w) :=
  ⟨A.over c fs, fun t s => SegX (model PW w) A c t fs s Φ, fun m K H gd lv s h => by
    rintro Γ p rfl hΓ
    obtain ⟨e, s', hr, hq⟩ := runs_wrap_of_wp (Φ := fun e s' => e.quiet = true ∧ Φ e s') K H gd lv m (h (Γ.over fs) p (hΓ.over fs)) (fun a p' s' h' => h' Γ p' rfl hΓ) (fun x p' s' h' => h' Γ p' rfl hΓ)
    exact ⟨e, s', hr, hq⟩⟩

section
variable (M : Model) (b : Base M)
noncomputable def aA (A : Around) : Kt → Around
  | .base => A
  | .ret c hd _ κ => ((aA A κ).mark hd).under c
/- the codes on the stack, as far as they are known -/
noncomputable def InK : Kt → List (Code × Pos) → Prop
  | .base, _ => True
  | .ret c _ _ κ, st => ∃ p r, st = (c, p) :: r ∧ InK κ r
noncomputable def AtK : Kt → Ctx → Prop
  | .base, _ => True
  | .ret c _ _ κ, Γ => Γ.code = c ∧ InK κ Γ.below
theorem inK_enter {κ : Kt} {Γ : Ctx} (h : AtK κ Γ) (c : Code) (hd : Option Value) (p : Pos) : InK κ (Γ.enter c hd p).below := by
  cases κ with
  | base => trivial
  | ret c₀ hd₀ k₀ κ₀ => exact ⟨p, Γ.below, by rw [← h.1]; rfl, h.2⟩
noncomputable def codeK (A : Around) (κ : Kt) (c : Code) (R : Result → Shared → Prop) (s : Shared) : Prop := ∀ Γ p, Γ.code = c → Γ.Below A → InK κ Γ.below → wpCode M Γ R p s
noncomputable def Means : Kt → Sem Fin → Shared → Prop
  | .base, t, s => b.P t s
  | .ret c hd k κ, t, s => ∀ Γ p, (Γ.code = c ∧ InK κ Γ.below) → Γ.Below ((aA b.A κ).mark hd) → Sem.wp M Γ t (fun fin _ s' => match fin with
        | .done f => Means κ (k (.ok f)) s'
        | .again c' => c'.quiet = true ∧ codeK M ((aA b.A κ).mark hd) κ c' (fun r s' => Means κ (k r) s') s')
      (fun e _ s' => Means κ (k (.error e)) s') p s
variable {M b}
theorem means_stepK {α : Type} (m : Sem α) (K : α → Sem Fin) (H : Value → Sem Fin) (gd : Bool → Bool) (lv : List Value → List Value) : ∀ {κ : Kt} {s : Shared},
    (∀ Γ p, Γ.In (aA b.A κ) → AtK κ Γ → Sem.wp M Γ m (fun a _ s' => Means M b κ (K a) s') (fun x _ s' => Means M b κ (H x) s') p s) → Means M b κ (m.wrap K H gd lv) s
  | .base, s, h => b.step m K H gd lv s fun Γ p hΓ => h Γ p hΓ trivial
  | .ret c hd k κ, s, h => fun Γ p hc hΓ => by
    rw [wp_wrap]
    exact Sem.wp_mono M Γ m (fun a p' s' h' => h' Γ p' hc hΓ) (fun e p' s' h' => h' Γ p' hc hΓ) p s (h Γ p (by
      show Γ.In (((aA b.A κ).mark hd).under c)
      rw [← hc.1]; exact hΓ.in) hc)
theorem means_step {α : Type} (m : Sem α) (K : α → Sem Fin) (H : Value → Sem Fin) (gd : Bool → Bool) (lv : List Value → List Value) {κ : Kt} {s : Shared}
    (h : wpAny M (aA b.A κ) m (fun a s' => Means M b κ (K a) s') (fun x s' => Means M b κ (H x) s') s) : Means M b κ (m.wrap K H gd lv) s :=
  means_stepK m K H gd lv fun Γ p hΓ _ => h Γ p hΓ
theorem means_cmd {α : Type} (m : Sem α) (K : α → Sem Fin) {κ : Kt} {s : Shared} (h : ∀ Γ p, Γ.In (aA b.A κ) → Sem.wp M Γ m (fun a _ s' => Means M b κ (K a) s') (fun x _ s' => Means M b κ (.raise x) s') p s) : Means M b κ (m.wrap K .raise id id) s := means_step m K .raise id id h
theorem means_call {κ : Kt} {c : Code} {hd : Option Value} {g : Bool} {l : List Value} {k : Result → Sem Fin} {s : Shared} (hnb : hd ≠ some byPass)
    (h : codeK M ((aA b.A κ).mark hd) κ c (fun r s' => Means M b κ (k r) s') s) : Means M b κ (.call c hd g l k) s :=
  means_stepK (.call c hd g l .pure) k .raise id id fun Γ p hΓ ha => wpCode_mono (fun _ _ q => q) (h _ p rfl (hΓ.enter c hd p hnb) (inK_enter ha c hd p))
theorem means_enter {κ : Kt} {c : Code} {hd : Option Value} {k : Result → Sem Fin} {s : Shared}
    (h : Means M b (.ret c hd k κ) (M.den c) s) : codeK M ((aA b.A κ).mark hd) κ c (fun r s' => Means M b κ (k r) s') s := fun Γ p hc hΓ hk => by
  rw [wpCode_iff_wp, hc]
  refine Sem.wp_mono M Γ _ (fun fin p' s' h' => ?_) (fun _ _ _ h' => h') p s (h Γ p ⟨hc, hk⟩ hΓ)
  cases fin with
  | done f => exact h'
  | again c' => exact ⟨h'.1, h'.2 (Γ.goto c') p' rfl (hΓ.goto c') hk⟩
end

noncomputable def okMark (hd : Option Value) : Bool := match hd with
  | none => true
  | some v => !decide (v = byPass)
theorem okMark_ne {hd : Option Value} (h : okMark hd = true) : hd ≠ some byPass := by
  intro e; subst e; simp [okMark] at h

/- codes that an evaluation steps into: the machine's own; of the text's defs those at the written addresses -/
noncomputable def okc (fs : List Nat) : Code → Bool
  | .builtin id _ => !fs.any (Nat.beq (id.utf8ByteSize + 100000))
  | .call (.builtin _) _ => !fs.any (Nat.beq 300000)
  | .call (.type _) _ => true
  | .block _ _ => true
  | .handlers _ _ _ => !fs.any (Nat.beq 200000)
  | .call (.ref a) _ => fs.any (Nat.beq a)
  | .func _ e => match e.func with
    | some a => fs.any (Nat.beq a)
    | none => false
  | _ => false

inductive Hint where
  | k (i : Nat)
  | g
  | l (i : Nat)

structure EvS where
  κ : Kt
  t : Sem Fin
  l : List (Addr × Obj)
  g : Array Value
  n : Nat
  c : Nat
  T : Nat
structure Cfg where
  den : Code → Sem Fin
  S : Setting
  K : List (Addr × Obj)
  hnd : Option Value
  fs : List Nat

noncomputable def handledOf (h : Option Value) : Kt → Option Value
  | .base => h
  | .ret _ hd _ κ => match hd with
    | some e => some e
    | none => handledOf h κ

noncomputable def pick (C : Cfg) (l : List (Addr × Obj)) (g : Array Value) : Hint → Option (Addr × Obj)
  | .k i => C.K[i]?
  | .g => some (746, tableObj g)
  | .l i => l[i]?

noncomputable def ev (C : Cfg) (b : Nat) (n : Nat) : List Hint → List (Addr × Addr) → Kt → Sem Fin → List (Addr × Obj) → Array Value → Nat → Nat → Nat × EvS × List (Addr × Addr) :=
  Nat.rec (motive := fun _ => List Hint → List (Addr × Addr) → Kt → Sem Fin → List (Addr × Obj) → Array Value → Nat → Nat → Nat × EvS × List (Addr × Addr))
  (fun _ ob κ t l g c T => (0, ⟨κ, t, l, g, b, c, T⟩, ob)) (fun n go hs ob κ t l g c T => match t with
    | .rule _ k => go hs ob κ (k ()) l g c T
    | .at _ k => go hs ob κ (k ()) l g c T
    | .point _ k => go hs ob κ (k ()) l g c T
    | .ask k => go hs ob κ (k C.S) l g c T
    | .fresh k => go hs ob κ (k T) l g c (T + 1)
    | .handled own k => match own with
      | false => go hs ob κ (k (handledOf C.hnd κ)) l g c T
      | true => (n + 1, ⟨κ, .handled true k, l, g, b, c, T⟩, ob)
    | .load a q k => match hs with
      | [] => (n + 1, ⟨κ, .load a q k, l, g, b, c, T⟩, ob)
      | h :: hs' => match pick C l g h with
        | some p => go hs' ((a, p.1) :: ob) κ (k p.2) l g c T
        | none => (n + 1, ⟨κ, .load a q k, l, g, b, c, T⟩, ob)
    | .loadIfAlive a k => match hs with
      | [] => (n + 1, ⟨κ, .loadIfAlive a k, l, g, b, c, T⟩, ob)
      | h :: hs' => match pick C l g h with
        | some p => go hs' ((a, p.1) :: ob) κ (k (some p.2)) l g c T
        | none => (n + 1, ⟨κ, .loadIfAlive a k, l, g, b, c, T⟩, ob)
    | .alloc o k => match o.isFreed with
      | true => (n + 1, ⟨κ, .alloc o k, l, g, b, c, T⟩, ob)
      | false => go hs ob κ (k (b + c)) ((b + c, o) :: l) g (c + 1) T
    | .update a q f k => match hs with
      | [] => (n + 1, ⟨κ, .update a q f k, l, g, b, c, T⟩, ob)
      | h :: hs' => match h with
        | .l i => match l[i]? with
          | some p => match (f p.2).isFreed with
            | true => (n + 1, ⟨κ, .update a q f k, l, g, b, c, T⟩, ob)
            | false => go hs' ((a, p.1) :: ob) κ (k ()) (l.set i (p.1, f p.2)) g c T
          | none => (n + 1, ⟨κ, .update a q f k, l, g, b, c, T⟩, ob)
        | .g => match tabOf (f (tableObj g)) with
          | some g' => go hs' ((a, 746) :: ob) κ (k ()) l g' c T
          | none => (n + 1, ⟨κ, .update a q f k, l, g, b, c, T⟩, ob)
        | .k _ => (n + 1, ⟨κ, .update a q f k, l, g, b, c, T⟩, ob)
    | .call c' hd gd lv k => match okc C.fs c' && okMark hd with
      | true => go hs ob (.ret c' hd k κ) (C.den c') l g c T
      | false => (n + 1, ⟨κ, .call c' hd gd lv k, l, g, b, c, T⟩, ob)
    | .pure fin => match κ with
      | .base => (n + 1, ⟨.base, .pure fin, l, g, b, c, T⟩, ob)
      | .ret c₀ hd k κ' => match fin with
        | .done f => go hs ob κ' (k (.ok f)) l g c T
        | .again c' => match okc C.fs c' && c'.quiet with
          | true => go hs ob (.ret c' hd k κ') (C.den c') l g c T
          | false => (n + 1, ⟨.ret c₀ hd k κ', .pure (.again c'), l, g, b, c, T⟩, ob)
    | .raise e => match κ with
      | .base => (n + 1, ⟨.base, .raise e, l, g, b, c, T⟩, ob)
      | .ret _ _ k κ' => go hs ob κ' (k (.error e)) l g c T
    | .stack k => (n + 1, ⟨κ, .stack k, l, g, b, c, T⟩, ob)
    | t => (n + 1, ⟨κ, t, l, g, b, c, T⟩, ob)) n

section
variable (C : Cfg) (b n : Nat) (hs : List Hint) (ob : List (Addr × Addr)) (κ : Kt) (l : List (Addr × Obj)) (g : Array Value) (c T : Nat)
theorem ev_rule (q k) : ev C b (n + 1) hs ob κ (.rule q k) l g c T = ev C b n hs ob κ (k ()) l g c T := rfl
theorem ev_at (q k) : ev C b (n + 1) hs ob κ (.at q k) l g c T = ev C b n hs ob κ (k ()) l g c T := rfl
theorem ev_point (q k) : ev C b (n + 1) hs ob κ (.point q k) l g c T = ev C b n hs ob κ (k ()) l g c T := rfl
theorem ev_ask (k) : ev C b (n + 1) hs ob κ (.ask k) l g c T = ev C b n hs ob κ (k C.S) l g c T := rfl
theorem ev_fresh (k) : ev C b (n + 1) hs ob κ (.fresh k) l g c T = ev C b n hs ob κ (k T) l g c (T + 1) := rfl
theorem ev_handledF (k) : ev C b (n + 1) hs ob κ (.handled false k) l g c T = ev C b n hs ob κ (k (handledOf C.hnd κ)) l g c T := rfl
theorem ev_load (a q k) (h : Hint) : ev C b (n + 1) (h :: hs) ob κ (.load a q k) l g c T = (match pick C l g h with
        | some p => ev C b n hs ((a, p.1) :: ob) κ (k p.2) l g c T
        | none => (n + 1, ⟨κ, .load a q k, l, g, b, c, T⟩, ob)) := rfl
theorem ev_alive (a k) (h : Hint) : ev C b (n + 1) (h :: hs) ob κ (.loadIfAlive a k) l g c T = (match pick C l g h with
        | some p => ev C b n hs ((a, p.1) :: ob) κ (k (some p.2)) l g c T
        | none => (n + 1, ⟨κ, .loadIfAlive a k, l, g, b, c, T⟩, ob)) := rfl
theorem ev_alloc (o k) : ev C b (n + 1) hs ob κ (.alloc o k) l g c T = (match o.isFreed with
      | true => (n + 1, ⟨κ, .alloc o k, l, g, b, c, T⟩, ob)
      | false => ev C b n hs ob κ (k (b + c)) ((b + c, o) :: l) g (c + 1) T) := rfl
theorem ev_updL (a q f k) (i : Nat) : ev C b (n + 1) (.l i :: hs) ob κ (.update a q f k) l g c T = (match l[i]? with
          | some p => match (f p.2).isFreed with
            | true => (n + 1, ⟨κ, .update a q f k, l, g, b, c, T⟩, ob)
            | false => ev C b n hs ((a, p.1) :: ob) κ (k ()) (l.set i (p.1, f p.2)) g c T
          | none => (n + 1, ⟨κ, .update a q f k, l, g, b, c, T⟩, ob)) := rfl
theorem ev_updG (a q f k) : ev C b (n + 1) (.g :: hs) ob κ (.update a q f k) l g c T = (match tabOf (f (tableObj g)) with
          | some g' => ev C b n hs ((a, 746) :: ob) κ (k ()) l g' c T
          | none => (n + 1, ⟨κ, .update a q f k, l, g, b, c, T⟩, ob)) := rfl
theorem ev_call (c' hd gd lv k) : ev C b (n + 1) hs ob κ (.call c' hd gd lv k) l g c T = (match okc C.fs c' && okMark hd with
      | true => ev C b n hs ob (.ret c' hd k κ) (C.den c') l g c T
      | false => (n + 1, ⟨κ, .call c' hd gd lv k, l, g, b, c, T⟩, ob)) := rfl
theorem ev_done (c₀ hd k f) : ev C b (n + 1) hs ob (.ret c₀ hd k κ) (.pure (.done f)) l g c T = ev C b n hs ob κ (k (.ok f)) l g c T := rfl
theorem ev_again (c₀ hd k c') : ev C b (n + 1) hs ob (.ret c₀ hd k κ) (.pure (.again c')) l g c T = (match okc C.fs c' && c'.quiet with
          | true => ev C b n hs ob (.ret c' hd k κ) (C.den c') l g c T
          | false => (n + 1, ⟨.ret c₀ hd k κ, .pure (.again c'), l, g, b, c, T⟩, ob)) := rfl
theorem ev_raise (c₀ hd k e) : ev C b (n + 1) hs ob (.ret c₀ hd k κ) (.raise e) l g c T = ev C b n hs ob κ (k (.error e)) l g c T := rfl
end
theorem ev_mono (C : Cfg) (b : Nat) : ∀ (n : Nat) (hs : List Hint) (ob : List (Addr × Addr)) (κ : Kt) (t : Sem Fin) (l : List (Addr × Obj)) (g : Array Value) (c T : Nat) (p : Addr × Addr), p ∈ ob → p ∈ (ev C b n hs ob κ t l g c T).2.2 := by
  intro n
  induction n with
  | zero => intro hs ob κ t l g c T p h; exact h
  | succ n ih =>
    intro hs ob κ t l g c T p h
    cases t with
    | rule q k => exact ih _ _ _ _ _ _ _ _ _ h
    | «at» q k => exact ih _ _ _ _ _ _ _ _ _ h
    | point q k => exact ih _ _ _ _ _ _ _ _ _ h
    | ask k => exact ih _ _ _ _ _ _ _ _ _ h
    | fresh k => exact ih _ _ _ _ _ _ _ _ _ h
    | handled own k =>
      cases own with
      | false => exact ih _ _ _ _ _ _ _ _ _ h
      | true => exact h
    | load a q k =>
      cases hs with
      | nil => exact h
      | cons hd hs =>
        rw [ev_load]
        cases pick C l g hd with
        | none => exact h
        | some r => exact ih _ _ _ _ _ _ _ _ _ (.tail _ h)
    | loadIfAlive a k =>
      cases hs with
      | nil => exact h
      | cons hd hs =>
        rw [ev_alive]
        cases pick C l g hd with
        | none => exact h
        | some r => exact ih _ _ _ _ _ _ _ _ _ (.tail _ h)
    | alloc o k =>
      rw [ev_alloc]
      cases o.isFreed with
      | true => exact h
      | false => exact ih _ _ _ _ _ _ _ _ _ h
    | update a q f k =>
      cases hs with
      | nil => exact h
      | cons hd hs =>
        cases hd with
        | l i =>
          rw [ev_updL]
          cases l[i]? with
          | none => exact h
          | some r =>
            dsimp only
            cases (f r.2).isFreed with
            | true => exact h
            | false => exact ih _ _ _ _ _ _ _ _ _ (.tail _ h)
        | g =>
          rw [ev_updG]
          cases tabOf (f (tableObj g)) with
          | none => exact h
          | some r => exact ih _ _ _ _ _ _ _ _ _ (.tail _ h)
        | k _ => exact h
    | call c' hd gd lv k =>
      rw [ev_call]
      cases okc C.fs c' && okMark hd with
      | true => exact ih _ _ _ _ _ _ _ _ _ h
      | false => exact h
    | pure fin =>
      cases κ with
      | base => exact h
      | ret c₀ hd k κ =>
        cases fin with
        | done f => exact ih _ _ _ _ _ _ _ _ _ h
        | again c' =>
          rw [ev_again]
          cases okc C.fs c' && c'.quiet with
          | true => exact ih _ _ _ _ _ _ _ _ _ h
          | false => exact h
    | raise e =>
      cases κ with
      | base => exact h
      | ret c₀ hd k κ => exact ih _ _ _ _ _ _ _ _ _ h
    | _ => exact h

/- what is known of the heap: the text's own objects as they were laid (one code table may have grown), the call's own ones as written, the heap's size -/
structure Own (h₀ h : Heap) (g : Array Value) (l : List (Addr × Obj)) (N : Nat) : Prop where
  keep : ∀ b o, h₀.get? b = some o → b ≠ 746 → h.get? b = some o
  tab : h.get? 746 = some (tableObj g)
  nw : ∀ p ∈ l, h.get? p.1 = some p.2 ∧ 820 ≤ p.1
  nd : (l.map (·.1)).Nodup
  size : h.objs.size = N
  big : 820 ≤ N

structure BaseF (P : Params) (h₀ : Heap) : Prop where
  st : ∀ p ∈ K P, h₀.get? p.1 = some p.2
  no : ∀ p ∈ K P, p.1 ≠ 746
  size : h₀.objs.size = 820
theorem Own.alloc {h₀ h : Heap} {g : Array Value} {l : List (Addr × Obj)} {N : Nat} (O : Own h₀ h g l N) {o : Obj} (hf : o.isFreed = false) : Own h₀ (h.push o) g ((N, o) :: l) (N + 1) := by
  have hN := O.size
  refine ⟨fun b o' e q => Heap.get?_push_of_some _ (O.keep b o' e q), Heap.get?_push_of_some _ O.tab, fun p hp => ?_, ?_, by rw [Heap.size_push, hN], Nat.le_succ_of_le O.big⟩
  · cases hp with
    | head => exact ⟨by rw [← hN]; exact Heap.get?_push_size _ hf, O.big⟩
    | tail _ hp => exact ⟨Heap.get?_push_of_some _ (O.nw p hp).1, (O.nw p hp).2⟩
  · rw [List.map_cons, List.nodup_cons]
    refine ⟨fun hm => ?_, O.nd⟩
    obtain ⟨p, hp, e⟩ := List.mem_map.mp hm
    have := Heap.lt_size (O.nw p hp).1
    rw [hN, e] at this
    exact Nat.lt_irrefl _ this
theorem Own.update {h₀ h : Heap} {g : Array Value} {l : List (Addr × Obj)} {N : Nat} (B : h₀.objs.size = 820) (O : Own h₀ h g l N) {i : Nat} {p : Addr × Obj} {f : Obj → Obj} (hi : l[i]? = some p) (hf : (f p.2).isFreed = false) :
    Own h₀ (h.update p.1 f) g (l.set i (p.1, f p.2)) N := by
  have hp := O.nw p (List.mem_of_getElem? hi)
  have hs : Heap.SameBut p.1 h (h.update p.1 f) := Heap.SameBut.update ..
  have ge : (h.update p.1 f).get? p.1 = some (f p.2) := by first | exact Heap.get?_update_self f hp.1 hf | exact Heap.get?_update_self _ hp.1 hf
  obtain ⟨hl, he⟩ := List.getElem?_eq_some_iff.mp hi
  have hm : (l.set i (p.1, f p.2)).map (·.1) = l.map (·.1) := by
    rw [List.map_set]
    have : (l.map (·.1))[i]? = some p.1 := by rw [List.getElem?_map, hi]; rfl
    exact set_same this
  refine ⟨fun b o e q => (hs.2 b fun z => ?_).trans (O.keep b o e q), (hs.2 746 fun z => ?_).trans O.tab, fun x hx => ?_, by rw [hm]; exact O.nd, by rw [hs.1]; exact O.size, O.big⟩
  · have h1 := Heap.lt_size e
    rw [B, z] at h1
    exact absurd hp.2 (Nat.not_le_of_lt h1)
  · have h1 := hp.2
    rw [← z] at h1
    exact absurd h1 (by decide)
  · obtain ⟨j, hj⟩ := List.getElem?_of_mem hx
    rw [List.getElem?_set] at hj
    by_cases ij : i = j
    · subst ij
      rw [if_pos rfl, if_pos hl] at hj
      cases hj
      exact ⟨ge, hp.2⟩
    · rw [if_neg ij] at hj
      have y := O.nw x (List.mem_of_getElem? hj)
      refine ⟨(hs.2 x.1 fun z => ij ?_).trans y.1, y.2⟩
      obtain ⟨hl', he'⟩ := List.getElem?_eq_some_iff.mp hj
      have := (List.getElem_inj (h₀ := by rw [List.length_map]; exact hl) (h₁ := by rw [List.length_map]; exact hl') O.nd).mp (by rw [List.getElem_map, List.getElem_map, he, he', z])
      exact this
theorem Own.table {h₀ h : Heap} {g g' : Array Value} {l : List (Addr × Obj)} {N : Nat} (B : h₀.objs.size = 820) (O : Own h₀ h g l N) {f : Obj → Obj} (hf : f (tableObj g) = tableObj g') : Own h₀ (h.update 746 f) g' l N := by
  have hs : Heap.SameBut 746 h (h.update 746 f) := Heap.SameBut.update ..
  have hfr : (f (tableObj g)).isFreed = false := by rw [hf]; rfl
  have ge : (h.update 746 f).get? 746 = some (f (tableObj g)) := by first | exact Heap.get?_update_self f O.tab hfr | exact Heap.get?_update_self _ O.tab hfr
  refine ⟨fun b o e q => (hs.2 b q).trans (O.keep b o e q), by rw [ge, hf], fun x hx => ⟨(hs.2 x.1 fun z => ?_).trans (O.nw x hx).1, (O.nw x hx).2⟩, O.nd, by rw [hs.1]; exact O.size, O.big⟩
  have h1 := (O.nw x hx).2
  rw [z] at h1
  exact absurd h1 (by decide)
theorem Own.sub {h₀ h : Heap} {g : Array Value} {l l' : List (Addr × Obj)} {N : Nat} (O : Own h₀ h g l N) (hs : l'.Sublist l) : Own h₀ h g l' N :=
  ⟨O.keep, O.tab, fun p hp => O.nw p (hs.subset hp), O.nd.sublist (hs.map _), O.size, O.big⟩
theorem Own.perm {h₀ h : Heap} {g : Array Value} {l l' : List (Addr × Obj)} {N : Nat} (O : Own h₀ h g l N) (hs : l'.Perm l) : Own h₀ h g l' N :=
  ⟨O.keep, O.tab, fun p hp => O.nw p (hs.mem_iff.mp hp), ((hs.map _).nodup_iff).mpr O.nd, O.size, O.big⟩

/- the setting of one evaluation -/
structure Env0 where
  w : World
  h₀ : Heap
  b : Base (model PW w)
  gs : Array GenState
  d : Drawn
  os : OsState
noncomputable abbrev Env0.M (X : Env0) : Model := model PW X.w
noncomputable abbrev Env0.A (X : Env0) : Around := X.b.A
noncomputable abbrev denQ : Code → Sem Fin := PySem.W.Fast.tw11892475500146522536 PySem.W.Fast.tw14364793385576792824
theorem denQ_eq : denQ = denote table := by
  show PySem.W.Fast.tw11892475500146522536 PySem.W.Fast.tw14364793385576792824 = _
  rw [← PySem.W.Fast.te11892475500146522536, ← PySem.W.Fast.te14364793385576792824, table_eq_tree]
noncomputable abbrev Env0.C (X : Env0) (fs : List Nat) : Cfg := ⟨denQ, ⟨PW, X.w.params⟩, K X.w.params, none, fs⟩

noncomputable def Go (X : Env0) (s : EvS) : Prop := ∀ h, Own X.h₀ h s.g s.l (s.n + s.c) → Means X.M X.b s.κ s.t ⟨h, X.gs, X.d, s.T, X.os⟩

theorem handled_aA {A : Around} (hA : A.handled = none) : ∀ κ, (aA A κ).handled = handledOf none κ
  | .base => hA
  | .ret c hd k κ => by
    show (hd.or (aA A κ).handled) = _
    cases hd with
    | none => rw [handled_aA hA κ]; rfl
    | some e => rfl

theorem pick_get {X : Env0} (B : BaseF X.w.params X.h₀) {l : List (Addr × Obj)} {g : Array Value} {N : Nat} {h : Heap} (O : Own X.h₀ h g l N) {fs : List Nat} {hi : Hint} {p : Addr × Obj} (e : pick (X.C fs) l g hi = some p) : h.get? p.1 = some p.2 := by
  cases hi with
  | k i => exact O.keep _ _ (B.st _ (List.mem_of_getElem? e)) (B.no _ (List.mem_of_getElem? e))
  | g => cases e; exact O.tab
  | l i => exact (O.nw _ (List.mem_of_getElem? e)).1

theorem ev_sound {X : Env0} {fs : List Nat} {b : Nat} (B : BaseF X.w.params X.h₀) (hA : X.A.handled = none) : ∀ (n : Nat) (hs : List Hint) (ob : List (Addr × Addr)) (κ : Kt) (t : Sem Fin) (l : List (Addr × Obj)) (g : Array Value) (c T : Nat),
    (∀ p ∈ (ev (X.C fs) b n hs ob κ t l g c T).2.2, p.1 = p.2) → Go X (ev (X.C fs) b n hs ob κ t l g c T).2.1 → Go X ⟨κ, t, l, g, b, c, T⟩ := by
  intro n
  induction n with
  | zero => intro hs ob κ t l g c T hob h; exact h
  | succ n ih =>
    intro hs ob κ t l g c T hob h
    cases t with
    | rule tag k => exact fun hp O => means_cmd (.rule tag .pure) k fun Γ p hΓ => ih hs ob _ _ _ _ _ _ hob h hp O
    | «at» q k => exact fun hp O => means_cmd (.at q .pure) k fun Γ p hΓ => ih hs ob _ _ _ _ _ _ hob h hp O
    | point lv k => exact fun hp O => means_cmd (.point lv .pure) k fun Γ p hΓ => ih hs ob _ _ _ _ _ _ hob h hp O
    | ask k => exact fun hp O => means_cmd (.ask .pure) k fun Γ p hΓ => ih hs ob _ _ _ _ _ _ hob h hp O
    | fresh k => exact fun hp O => means_cmd (.fresh .pure) k fun Γ p hΓ => ih hs ob _ _ _ _ _ _ hob h hp O
    | handled own k =>
      cases own with
      | true => exact h
      | false =>
        rw [ev_handledF] at hob h
        intro hp O
        have z := ih hs ob _ _ _ _ _ _ hob h hp O
        refine means_cmd (.handled false .pure) k fun Γ p hΓ => ?_
        show Means _ _ _ (k Γ.handled) _
        rw [hΓ.1, handled_aA hA κ]; exact z
    | load a q k =>
      cases hs with
      | nil => exact h
      | cons hi hs' =>
        rw [ev_load] at hob h
        cases e : pick (X.C fs) l g hi with
        | none => rw [e] at h; exact h
        | some p =>
          rw [e] at hob h
          intro hp O
          have ha : a = p.1 := hob (a, p.1) (ev_mono _ _ _ _ _ _ _ _ _ _ _ _ (.head _))
          have z := ih _ _ _ _ _ _ _ _ hob h hp O
          exact means_cmd (.load a q .pure) k fun Γ q' hΓ => ⟨p.2, by rw [ha]; exact pick_get B O e, z⟩
    | loadIfAlive a k =>
      cases hs with
      | nil => exact h
      | cons hi hs' =>
        rw [ev_alive] at hob h
        cases e : pick (X.C fs) l g hi with
        | none => rw [e] at h; exact h
        | some p =>
          rw [e] at hob h
          intro hp O
          have ha : a = p.1 := hob (a, p.1) (ev_mono _ _ _ _ _ _ _ _ _ _ _ _ (.head _))
          have z := ih _ _ _ _ _ _ _ _ hob h hp O
          refine means_cmd (.loadIfAlive a .pure) k fun Γ pp hΓ => ?_
          show Means _ _ _ (k (hp.get? a)) _
          rw [ha, pick_get B O e]
          exact z
    | alloc o k =>
      rw [ev_alloc] at hob h
      cases hf : o.isFreed with
      | true => rw [hf] at h; exact h
      | false =>
        rw [hf] at hob h
        intro hp O
        have hN := O.size
        have z := ih _ _ _ _ _ _ _ _ hob h (hp.push o) (O.alloc hf)
        refine means_cmd (.alloc o .pure) k fun Γ q hΓ => ?_
        show Means _ _ _ (k hp.objs.size) _
        rw [hN]; exact z
    | update a q f k =>
      cases hs with
      | nil => exact h
      | cons hi hs' =>
        cases hi with
        | l i =>
          rw [ev_updL] at hob h
          cases e : l[i]? with
          | none => rw [e] at h; exact h
          | some p =>
            rw [e] at hob h
            dsimp only at hob h
            cases hf : (f p.2).isFreed with
            | true => rw [hf] at h; exact h
            | false =>
              rw [hf] at hob h
              intro hp O
              have ha : a = p.1 := hob (a, p.1) (ev_mono _ _ _ _ _ _ _ _ _ _ _ _ (.head _))
              subst ha
              have ho : hp.get? p.1 = some p.2 := (O.nw _ (List.mem_of_getElem? e)).1
              exact means_cmd (.update p.1 q f .pure) k fun Γ q' hΓ => ⟨by rw [ho]; rfl, ih _ _ _ _ _ _ _ _ hob h (hp.update p.1 f) (O.update B.size e hf)⟩
        | g =>
          rw [ev_updG] at hob h
          cases e : tabOf (f (tableObj g)) with
          | none => rw [e] at h; exact h
          | some g' =>
            rw [e] at hob h
            intro hp O
            have ha : a = 746 := hob (a, 746) (ev_mono _ _ _ _ _ _ _ _ _ _ _ _ (.head _))
            subst ha
            exact means_cmd (.update 746 q f .pure) k fun Γ q' hΓ => ⟨by rw [O.tab]; rfl, ih _ _ _ _ _ _ _ _ hob h (hp.update 746 f) (O.table B.size (tabOf_eq e))⟩
        | k _ => exact h
    | call c' hd gd lv k =>
      rw [ev_call] at hob h
      cases e : (okc (X.C fs).fs c' && okMark hd) with
      | false => rw [e] at h; exact h
      | true =>
        rw [e] at hob h
        intro hp O
        have z := ih _ _ _ _ _ _ _ _ hob h hp O
        refine means_call (okMark_ne (Bool.and_eq_true_iff.mp e).2) (means_enter ?_)
        rw [show X.M.den c' = denQ c' from (congrFun denQ_eq c').symm]
        exact z
    | pure fin =>
      cases κ with
      | base => exact h
      | ret c₀ hd k κ =>
        cases fin with
        | done f => exact fun hp O Γ q _ hΓ => ih _ _ _ _ _ _ _ _ hob h hp O
        | again c' =>
          rw [ev_again] at hob h
          cases e : (okc (X.C fs).fs c' && c'.quiet) with
          | false => rw [e] at h; exact h
          | true =>
            rw [e] at hob h
            intro hp O Γ q _ hΓ
            refine And.intro (Bool.and_eq_true_iff.mp e).2 (means_enter ?_)
            rw [show X.M.den c' = denQ c' from (congrFun denQ_eq c').symm]
            exact ih _ _ _ _ _ _ _ _ hob h hp O
    | raise e =>
      cases κ with
      | base => exact h
      | ret c₀ hd k κ => exact fun hp O Γ q _ hΓ => ih _ _ _ _ _ _ _ _ hob h hp O
    | _ => exact h

theorem obl_of : ∀ {ob : List (Addr × Addr)}, ob.map Prod.fst = ob.map Prod.snd → ∀ p ∈ ob, p.1 = p.2
  | [], _, _, h => nomatch h
  | _ :: _, e, _, h => by
    rw [List.map_cons, List.map_cons] at e
    injection e with e1 e2
    cases h with
    | head => exact e1
    | tail _ h => exact obl_of e2 _ h
theorem go_ev {X : Env0} (B : BaseF X.w.params X.h₀) (hA : X.A.handled = none) (fs : List Nat) (m : Nat) (hs : List Hint) (κ : Kt) (t : Sem Fin) (l : List (Addr × Obj)) (g : Array Value) (n c T : Nat) (s' : EvS)
    (e : ((ev (X.C fs) n m hs [] κ t l g c T).2.1, (ev (X.C fs) n m hs [] κ t l g c T).2.2.map Prod.fst) = (s', (ev (X.C fs) n m hs [] κ t l g c T).2.2.map Prod.snd)) (h : Go X s') : Go X ⟨κ, t, l, g, n, c, T⟩ :=
  ev_sound (fs := fs) B hA m hs [] κ t l g c T (obl_of (congrArg Prod.snd e)) (by rw [show (ev (X.C fs) n m hs [] κ t l g c T).2.1 = s' from congrArg Prod.fst e]; exact h)
theorem go_stack {X : Env0} {c₀ : Code} {hd : Option Value} {k₀ : Result → Sem Fin} {κ : Kt} {k : List (Code × Pos) → Sem Fin} {l : List (Addr × Obj)} {g : Array Value} {n c T : Nat}
    (h : ∀ p below, Lies (aA X.A (.ret c₀ hd k₀ κ)) ((c₀, p) :: below) → Go X ⟨.ret c₀ hd k₀ κ, k ((c₀, p) :: below), l, g, n, c, T⟩) : Go X ⟨.ret c₀ hd k₀ κ, .stack k, l, g, n, c, T⟩ := fun hp O Γ p e hΓ => by
  have hl : Lies (aA X.A (.ret c₀ hd k₀ κ)) ((Γ.code, p) :: Γ.below) := lies_of (by
    show Γ.In (((aA X.A κ).mark hd).under c₀)
    rw [← e.1]; exact hΓ.in)
  rw [e.1] at hl
  show Sem.wp _ _ (k ((Γ.code, p) :: Γ.below)) _ _ _ _
  rw [e.1]
  exact h p Γ.below hl hp O Γ p e hΓ
theorem go_stack2 {X : Env0} {c₀ c₁ : Code} {hd hd₁ : Option Value} {k₀ k₁ : Result → Sem Fin} {κ : Kt} {k : List (Code × Pos) → Sem Fin} {l : List (Addr × Obj)} {g : Array Value} {n c T : Nat}
    (h : ∀ p p₁ below, Lies (aA X.A (.ret c₀ hd k₀ (.ret c₁ hd₁ k₁ κ))) ((c₀, p) :: (c₁, p₁) :: below) → Go X ⟨.ret c₀ hd k₀ (.ret c₁ hd₁ k₁ κ), k ((c₀, p) :: (c₁, p₁) :: below), l, g, n, c, T⟩) : Go X ⟨.ret c₀ hd k₀ (.ret c₁ hd₁ k₁ κ), .stack k, l, g, n, c, T⟩ := fun hp O Γ p e hΓ => by
  have hl : Lies (aA X.A (.ret c₀ hd k₀ (.ret c₁ hd₁ k₁ κ))) ((Γ.code, p) :: Γ.below) := lies_of (by
    show Γ.In (((aA X.A (.ret c₁ hd₁ k₁ κ)).mark hd).under c₀)
    rw [← e.1]; exact hΓ.in)
  obtain ⟨p₁, r, hb, hr⟩ := e.2
  rw [e.1, hb] at hl
  show Sem.wp _ _ (k ((Γ.code, p) :: Γ.below)) _ _ _ _
  rw [e.1, hb]
  exact h p p₁ r hl hp O Γ p e hΓ
theorem go_eq {X : Env0} (α : Type) (a b : α) (F : α → EvS) (e : a = b) (x : Go X (F b)) : Go X (F a) := by rw [e]; exact x
theorem go_enter {X : Env0} {κ : Kt} {c : Code} {hd : Option Value} {gd : Bool} {lv : List Value} {k : Result → Sem Fin} {l : List (Addr × Obj)} {g : Array Value} {n cc T : Nat} (hnb : okMark hd = true)
    (h : Go X ⟨.ret c hd k κ, denQ c, l, g, n, cc, T⟩) : Go X ⟨κ, .call c hd gd lv k, l, g, n, cc, T⟩ := fun hp O => means_call (okMark_ne hnb) (means_enter (by
    rw [show X.M.den c = denQ c from (congrFun denQ_eq c).symm]
    exact h hp O))
theorem go_again {X : Env0} {κ : Kt} {c c' : Code} {hd : Option Value} {k : Result → Sem Fin} {l : List (Addr × Obj)} {g : Array Value} {n cc T : Nat} (hq : c'.quiet = true)
    (h : Go X ⟨.ret c' hd k κ, denQ c', l, g, n, cc, T⟩) : Go X ⟨.ret c hd k κ, .pure (.again c'), l, g, n, cc, T⟩ := fun hp O Γ q _ hΓ => And.intro hq (means_enter (by
    rw [show X.M.den c' = denQ c' from (congrFun denQ_eq c').symm]
    exact h hp O))
theorem go_drop {X : Env0} {κ : Kt} {t : Sem Fin} {l : List (Addr × Obj)} {g : Array Value} {n c T : Nat} (l' : List (Addr × Obj)) (hs : l'.Sublist l)
    (h : ∀ n' T', T ≤ T' → Go X ⟨κ, t, l', g, n', 820, T'⟩) : Go X ⟨κ, t, l, g, n, c, T⟩ := fun hp O =>
  h (n + c - 820) T (Nat.le_refl _) hp (by
    have e : n + c - 820 + 820 = n + c := Nat.sub_add_cancel O.big
    show Own X.h₀ hp g l' (n + c - 820 + 820)
    rw [e]; exact O.sub hs)
theorem go_perm {X : Env0} {κ : Kt} {t : Sem Fin} {l : List (Addr × Obj)} {g : Array Value} {n c T : Nat} (l' : List (Addr × Obj)) (hs : l'.Perm l)
    (h : Go X ⟨κ, t, l', g, n, c, T⟩) : Go X ⟨κ, t, l, g, n, c, T⟩ := fun hp O => h hp (O.perm hs)
theorem go_base {X : Env0} {κ : Kt} {t : Sem Fin} {l : List (Addr × Obj)} {g : Array Value} {n c T : Nat} (k : Nat) (e : 820 + k = c)
    (h : Go X ⟨κ, t, l, g, n + k, 820, T⟩) : Go X ⟨κ, t, l, g, n, c, T⟩ := fun hp O => h hp (by
    show Own X.h₀ hp g l (n + k + 820)
    rw [Nat.add_assoc, Nat.add_comm k, e]; exact O)

/- room above: the frames and the machine's units -/
structure Room (X : Env0) (κ : Kt) (d u : Nat) : Prop where
  d : (aA X.A κ).depth ≤ d
  u : (aA X.A κ).units ≤ u
theorem Room.ret {X : Env0} {κ : Kt} {d u : Nat} {c : Code} {hd : Option Value} {k : Result → Sem Fin} (R : Room X κ d u) : Room X (.ret c hd k κ) (d + c.weight) (u + c.cUnits) :=
  ⟨Nat.add_le_add_right R.d _, Nat.add_le_add_right R.u _⟩
theorem Room.le {X : Env0} {κ : Kt} {d u d' u' : Nat} (R : Room X κ d u) (h1 : Nat.ble d d' = true) (h2 : Nat.ble u u' = true) : Room X κ d' u' :=
  ⟨Nat.le_trans R.d (Nat.le_of_ble_eq_true h1), Nat.le_trans R.u (Nat.le_of_ble_eq_true h2)⟩
theorem no_near {X : Env0} {κ : Kt} {d u : Nat} {st : List (Code × Pos)} {own : Nat} (l : Lies (aA X.A κ) st) (R : Room X κ d u) (h : Nat.ble d 999 = true) :
    ¬ (nearTheLimitUnderAClaim (st.map (·.1)) ((((st.map (·.1)).map (·.frames)).sum - own) + ((st.map (·.1)).filter Code.isCreation).length) recursionLimit = true) := by
  rw [l.near (Nat.lt_of_le_of_lt R.d (Nat.lt_succ_of_le (Nat.le_of_ble_eq_true h))) own]; exact Bool.false_ne_true
theorem no_over {X : Env0} {κ : Kt} {d u : Nat} {st : List (Code × Pos)} {own : Nat} (l : Lies (aA X.A κ) st) (R : Room X κ d u) (h : Nat.ble d 999 = true) :
    ¬ (((st.map (·.1)).map (·.frames)).sum - own ≥ recursionLimit) := by
  have := l.sum (Nat.lt_of_le_of_lt R.d (Nat.lt_succ_of_le (Nat.le_of_ble_eq_true h)))
  intro z
  have z := Nat.le_trans z (Nat.sub_le _ _)
  (run_tac Drv.lomega)
theorem no_warm {X : Env0} {κ : Kt} {d u : Nat} {st : List (Code × Pos)} {own : Nat} (l : Lies (aA X.A κ) st) (R : Room X κ d u) (h : Nat.ble d 999 = true) :
    ¬ ((((st.map (·.1)).map (·.frames)).sum - own) + ((st.map (·.1)).filter Code.isCreation).length ≥ recursionLimit) := by
  have := l.sum (Nat.lt_of_le_of_lt R.d (Nat.lt_succ_of_le (Nat.le_of_ble_eq_true h)))
  intro z
  have z := Nat.le_trans z (Nat.add_le_add_right (Nat.sub_le _ _) _)
  (run_tac Drv.lomega)
theorem no_room {X : Env0} {κ : Kt} {d u : Nat} {st : List (Code × Pos)} (l : Lies (aA X.A κ) st) (R : Room X κ d u) (h : Nat.ble u 9899 = true) :
    ¬ ((st.map (·.1.cUnits)).sum ≥ cLine) := by
  have h1 := l.units
  have h2 := R.u
  have h3 := Nat.le_of_ble_eq_true h
  show ¬ (_ ≥ 9900)
  (run_tac Drv.lomega)

theorem no_nearQ {X : Env0} {κ : Kt} {d u : Nat} {st : List (Code × Pos)} {own : Nat} (l : Lies (aA X.A κ) st) (R : Room X κ d u) (h : Nat.ble d 999 = true) :
    ¬ (Fast.tw5677729350657522027 (W.R.mapR (fun x => x.fst) st)
      (Fast.tw3755427657022040156 (W.R.mapR (fun x => Fast.tw10353961693711113640 x) (W.R.mapR (fun x => x.fst) st)) - own +
        (W.R.filterR (fun x => Fast.tw1023096502101629575 (fun _ => Bool) x (fun _ _ _ => true) fun _ => false)
            (W.R.mapR (fun x => x.fst) st)).length) recursionLimit = true) := by
  rw [← Fast.te5677729350657522027, ← Fast.te3755427657022040156, ← Fast.te10353961693711113640, ← Fast.te1023096502101629575, ← W.R.mapR_eq, ← W.R.filterR_eq]
  exact no_near l R h
theorem no_overQ {X : Env0} {κ : Kt} {d u : Nat} {st : List (Code × Pos)} {own : Nat} (l : Lies (aA X.A κ) st) (R : Room X κ d u) (h : Nat.ble d 999 = true) :
    ¬ (Fast.tw3755427657022040156 (W.R.mapR (fun x => Fast.tw10353961693711113640 x) (W.R.mapR (fun x => x.fst) st)) - own ≥ recursionLimit) := by
  rw [← Fast.te3755427657022040156, ← Fast.te10353961693711113640, ← W.R.mapR_eq]
  exact no_over l R h
theorem no_warmQ {X : Env0} {κ : Kt} {d u : Nat} {st : List (Code × Pos)} {own : Nat} (l : Lies (aA X.A κ) st) (R : Room X κ d u) (h : Nat.ble d 999 = true) :
    ¬ (Fast.tw3755427657022040156 (W.R.mapR (fun x => Fast.tw10353961693711113640 x) (W.R.mapR (fun x => x.fst) st)) - own +
        (W.R.filterR (fun x => Fast.tw1023096502101629575 (fun _ => Bool) x (fun _ _ _ => true) fun _ => false)
            (W.R.mapR (fun x => x.fst) st)).length ≥ recursionLimit) := by
  rw [← Fast.te3755427657022040156, ← Fast.te10353961693711113640, ← Fast.te1023096502101629575, ← W.R.mapR_eq, ← W.R.filterR_eq]
  exact no_warm l R h
theorem no_nearQ0 {X : Env0} {κ : Kt} {d u : Nat} {st : List (Code × Pos)} (l : Lies (aA X.A κ) st) (R : Room X κ d u) (h : Nat.ble d 999 = true) :
    ¬ (Fast.tw5677729350657522027 (W.R.mapR (fun x => x.fst) st)
      (Fast.tw3755427657022040156 (W.R.mapR (fun x => Fast.tw10353961693711113640 x) (W.R.mapR (fun x => x.fst) st)) +
        (W.R.filterR (fun x => Fast.tw1023096502101629575 (fun _ => Bool) x (fun _ _ _ => true) fun _ => false)
            (W.R.mapR (fun x => x.fst) st)).length) recursionLimit = true) := by
  have := no_nearQ (own := 0) l R h
  rwa [Nat.sub_zero] at this
theorem no_warmQ0 {X : Env0} {κ : Kt} {d u : Nat} {st : List (Code × Pos)} (l : Lies (aA X.A κ) st) (R : Room X κ d u) (h : Nat.ble d 999 = true) :
    ¬ (Fast.tw3755427657022040156 (W.R.mapR (fun x => Fast.tw10353961693711113640 x) (W.R.mapR (fun x => x.fst) st)) +
        (W.R.filterR (fun x => Fast.tw1023096502101629575 (fun _ => Bool) x (fun _ _ _ => true) fun _ => false)
            (W.R.mapR (fun x => x.fst) st)).length ≥ recursionLimit) := by
  have := no_warmQ (own := 0) l R h
  rwa [Nat.sub_zero] at this
theorem no_roomQ {X : Env0} {κ : Kt} {d u : Nat} {st : List (Code × Pos)} (l : Lies (aA X.A κ) st) (R : Room X κ d u) (h : Nat.ble u 9899 = true) :
    ¬ (Fast.tw3755427657022040156 (W.R.mapR (fun x => Fast.tw165980757501359005 x.1) st) ≥ cLine) := by
  rw [← Fast.te3755427657022040156, ← Fast.te165980757501359005, ← W.R.mapR_eq]
  exact no_room l R h

noncomputable def sL (l : List Nat) : Str := ⟨l.toArray⟩
theorem sL_app (l m : List Nat) : sL l ++ sL m = sL (l ++ m) := by
  show (⟨l.toArray ++ m.toArray⟩ : Str) = _
  rw [List.append_toArray]; rfl
theorem sL_len (l : List Nat) : (sL l).length = l.length := by show l.toArray.size = _; simp
theorem catL (a b : List Nat) : @HAppend.hAppend Str Str Str (@instHAppendOfAppend Str Fast.tw178013285451222756) (sL a) (sL b) = sL (a ++ b) := by
  rw [← Fast.te178013285451222756]; exact sL_app a b
theorem appR {α : Type} (a b : List α) : W.R.appendR a b = a ++ b := by rw [← W.R.appendR_eq]; rfl
/- a text as one number: for the driver alone -/
noncomputable def encStr (s : Str) : Nat := W.R.foldlR (fun a c => a * 2097152 + (c + 1)) 0 s.cps.toList
theorem sizeMk {α : Type} (a : List α) : (Array.mk a).size = a.length := rfl
theorem cells_len (f : Addr) (h : Bool) (st : List (Code × Pos)) : (EntryCells.cells f h st).length = 2 := by
  unfold EntryCells.cells
  split <;> rfl
/- a traceback's entry is short -/
theorem no_traceQ {v0 v1 v2 v3 v4 a b c d : Value} {p : Pos} {f : Addr} {h : Bool} {st : List (Code × Pos)} :
    ¬ (sizeLine + 2 < ([v0, v1, v2, v3, v4] ++ if (if (p.line == 0) = true then [] else [a, b, c, d] ++ Fast.tw10967294825066124259 f h st).isEmpty = true then List.replicate 6 Value.none
      else if (p.line == 0) = true then [] else [a, b, c, d] ++ Fast.tw10967294825066124259 f h st).toArray.size) := by
  rw [← Fast.te10967294825066124259]
  have := cells_len f h st
  show ¬ (16777216 + 2 < _)
  rw [List.size_toArray, List.length_append]
  split
  · simp
  · split
    · simp
    · rw [List.length_append, this]; simp
theorem noLimit_of {P : Params} {h : Heap} (e : h.get? 2 = some (o2 P)) : h.NoLimit := by
  have x : h.isNs cStatics = true := by
    unfold Heap.isNs
    rw [show h.get? cStatics = some (o2 P) from e]
    kernel_rfl
  refine ⟨_, Heap.Ns.of_isNs x, ?_⟩
  unfold Heap.nsMap
  rw [show h.get? cStatics = some (o2 P) from e]
  kernel_rfl
theorem Own.noLimit {P : Params} {h₀ h : Heap} {g : Array Value} {l : List (Addr × Obj)} {N : Nat} (B : BaseF P h₀) (O : Own h₀ h g l N) : h.NoLimit :=
  noLimit_of (O.keep 2 _ (B.st (2, o2 P) (List.mem_of_getElem? (i := 2) rfl)) (by decide))
/- a frame is entered -/
theorem go_frame {X : Env0} (B : BaseF X.w.params X.h₀) {κ : Kt} {t : Sem Fin} {l : List (Addr × Obj)} {g : Array Value} {n c T d u : Nat} (R : Room X κ d u) (hd : Nat.ble d 999 = true)
    (h : Go X ⟨κ, t, l, g, n, c, T⟩) : Go X ⟨κ, W.R.bindR (Fast.tw15066281185411960212 0) (fun _ => t), l, g, n, c, T⟩ := by
  rw [← W.R.bindR_eq, ← Fast.te15066281185411960212]
  intro hp O
  show Means X.M X.b κ (Sem.bind (enterFrame 0) _) _
  rw [Sem.bind_eq_wrap]
  refine means_step _ _ _ _ _ ?_
  have z := wpAny_enterFrame (M := X.M) (A := aA X.A κ) (E := fun _ _ => False) (s := ⟨hp, X.gs, X.d, T, X.os⟩) (Q := fun _ s' => s' = ⟨hp, X.gs, X.d, T, X.os⟩) (O.noLimit B) (Nat.lt_of_le_of_lt R.d (Nat.lt_succ_of_le (Nat.le_of_ble_eq_true hd))) rfl
  refine wpAny_mono z (fun a s' e => ?_) (fun _ _ e => e.elim)
  subst e
  exact h hp O
theorem go_tree {X : Env0} {κ : Kt} {t t' : Sem Fin} {l : List (Addr × Obj)} {g : Array Value} {n c T : Nat} (e : t = t') (h : Go X ⟨κ, t', l, g, n, c, T⟩) : Go X ⟨κ, t, l, g, n, c, T⟩ := by rw [e]; exact h

theorem frames_ret {X : Env0} {κ : Kt} {c : Code} {hd : Option Value} {k : Result → Sem Fin} {es : List Env} (h : (aA X.A κ).frames = some es) : (aA X.A (.ret c hd k κ)).frames = some (c.envs ++ es) := by
  show pushEnvs c.envs (aA X.A κ).frames = _
  rw [pushEnvs_eq, h]; rfl
/- the frames of the stack are known -/
theorem go_stackE {X : Env0} {c₀ : Code} {hd : Option Value} {k₀ : Result → Sem Fin} {κ : Kt} {k : List Env → Sem Fin} {es : List Env} {l : List (Addr × Obj)} {g : Array Value} {n c T : Nat} (hF : (aA X.A (.ret c₀ hd k₀ κ)).frames = some es)
    (h : Go X ⟨.ret c₀ hd k₀ κ, k es, l, g, n, c, T⟩) : Go X ⟨.ret c₀ hd k₀ κ, .stack (fun st => k (List.filterMap (fun x => x.1.env?) (W.R.filterR (fun x => x.1.isFrame) st))), l, g, n, c, T⟩ := fun hp O Γ p e hΓ => by
  have hl : Lies (aA X.A (.ret c₀ hd k₀ κ)) ((Γ.code, p) :: Γ.below) := lies_of (by
    show Γ.In (((aA X.A κ).mark hd).under c₀)
    rw [← e.1]; exact hΓ.in)
  have he := hl.frames es hF
  show Sem.wp _ _ (k (List.filterMap (fun x => x.1.env?) (W.R.filterR (fun x => x.1.isFrame) ((Γ.code, p) :: Γ.below)))) _ _ _ _
  rw [← W.R.filterR_eq]
  unfold envsOf at he
  rw [he]
  exact h hp O Γ p e hΓ

/- generators -/
theorem go_newGen {X : Env0} {κ : Kt} {c : Code} {k : Nat → Sem Fin} {l : List (Addr × Obj)} {g : Array Value} {n cc T : Nat}
    (h : Go { X with gs := X.gs.push (.fresh c) } ⟨κ, k X.gs.size, l, g, n, cc, T⟩) : Go X ⟨κ, .newGen c k, l, g, n, cc, T⟩ := fun hp O =>
  means_cmd (.newGen c .pure) k fun Γ p hΓ => h hp O
theorem go_genState {X : Env0} {κ : Kt} {i : Nat} {k : GenStatus × Option (List (Code × Pos)) → Sem Fin} {l : List (Addr × Obj)} {g : Array Value} {n cc T : Nat} {st : GenState} (hg : X.gs[i]? = some st)
    (h : Go X ⟨κ, k st.seen, l, g, n, cc, T⟩) : Go X ⟨κ, .genState i k, l, g, n, cc, T⟩ := fun hp O =>
  means_cmd (.genState i .pure) k fun Γ p hΓ => ⟨st, hg, h hp O⟩
/- the setting inside generator i, resumed from κ, k; its code and its frames -/
noncomputable def genX (X : Env0) (κ : Kt) (i : Nat) (k : GenResult → Sem Fin) (c : Code) (fs : List Frame) : Env0 :=
  { X with b := genBase X.w (aA X.A κ) c fs (fun e s' => Means X.M X.b κ (k e.result) (s'.setGen i e.genState)), gs := X.gs.setIfInBounds i .running }
theorem go_resume_fresh {X : Env0} {κ : Kt} {i : Nat} {c : Code} {lv : List Value} {k : GenResult → Sem Fin} {l : List (Addr × Obj)} {g : Array Value} {n cc T : Nat} (hg : X.gs[i]? = some (.fresh c))
    (h : Go (genX X κ i k c []) ⟨.base, denQ c, l, g, n, cc, T⟩) : Go X ⟨κ, .resume i (.send .none) lv k, l, g, n, cc, T⟩ := fun hp O =>
  means_cmd (.resume i (.send .none) lv .pure) k fun Γ p hΓ => by
    obtain ⟨e, s', hr, hq, hΦ⟩ := h hp O (Γ.wake c p) p rfl (hΓ.wake c p)
    rw [show denQ c = X.M.den c from congrFun denQ_eq c] at hr
    exact ⟨_, _, by unfold Wakes; rw [hg]; exact ⟨e, s', hr, hq, rfl, rfl⟩, hΦ⟩
theorem go_resume {X : Env0} {κ : Kt} {i : Nat} {c : Code} {lv l₀ : List Value} {k : GenResult → Sem Fin} {k₀ : Resume → Sem Fin} {p₀ : Pos} {fs : List Frame} {cl : Bool} {r : Resume} {l : List (Addr × Obj)} {g : Array Value} {n cc T : Nat} (hg : X.gs[i]? = some (.suspended k₀ l₀ c p₀ fs cl))
    (h : Go (genX X κ i k c fs) ⟨.base, k₀ r, l, g, n, cc, T⟩) : Go X ⟨κ, .resume i r lv k, l, g, n, cc, T⟩ := fun hp O =>
  means_cmd (.resume i r lv .pure) k fun Γ p hΓ => by
    obtain ⟨e, s', hr, hq, hΦ⟩ := h hp O (Γ.wake c p) p₀ rfl (hΓ.wake c p)
    exact ⟨_, _, by unfold Wakes; rw [hg]; exact ⟨e, s', hr, hq, rfl, rfl⟩, hΦ⟩
theorem set_set {α : Type} (a : Array α) (i : Nat) (x y : α) : (a.setIfInBounds i x).setIfInBounds i y = a.setIfInBounds i y := by
  simp
theorem go_yield {X : Env0} {κ : Kt} {i : Nat} {c : Code} {lv : List Value} {k : GenResult → Sem Fin} {k' : Resume → Sem Fin} {fs : List Frame} {v : Value} {l : List (Addr × Obj)} {g : Array Value} {n cc T : Nat} (hfs : splitAtGen fs = none) (hfg : fs.any Frame.guarded = false)
    (h : ∀ p, Go { X with gs := X.gs.setIfInBounds i (.suspended k' lv c p fs false) } ⟨κ, k (.yielded v), l, g, n, cc, T⟩) : Go (genX X κ i k c fs) ⟨.base, .yield v false lv k', l, g, n, cc, T⟩ := fun hp O => by
  refine s_yield PW X.w _ _ _ _ _ _ _ _ hfs hfg fun p => ?_
  show Means X.M X.b κ (k (.yielded v)) (Shared.mk hp ((X.gs.setIfInBounds i .running).setIfInBounds i (.suspended k' lv c p fs (false || fs.any Frame.guarded))) X.d T X.os)
  rw [set_set, hfg]
  exact h p hp O
theorem go_gend {X : Env0} {κ : Kt} {i : Nat} {c : Code} {k : GenResult → Sem Fin} {f : Flow} {l : List (Addr × Obj)} {g : Array Value} {n cc T : Nat}
    (h : Go { X with gs := X.gs.setIfInBounds i .finished } ⟨κ, k (.returned (match f with | .ret v => v | _ => .none)), l, g, n, cc, T⟩) : Go (genX X κ i k c []) ⟨.base, .pure (.done f), l, g, n, cc, T⟩ := fun hp O => by
  refine s_end PW X.w _ _ _ _ (.ok f) _ rfl ?_
  show Means X.M X.b κ _ (Shared.mk hp ((X.gs.setIfInBounds i .running).setIfInBounds i .finished) X.d T X.os)
  rw [set_set]
  exact h hp O
theorem go_gpush {X : Env0} {κ : Kt} {i : Nat} {c c' : Code} {hd : Option Value} {gd : Bool} {lv : List Value} {k : GenResult → Sem Fin} {k' : Result → Sem Fin} {fs : List Frame} {l : List (Addr × Obj)} {g : Array Value} {n cc T : Nat}
    (h : ∀ p, Go (genX X κ i k c' (.ret k' hd gd lv c p [] :: fs)) ⟨.base, denQ c', l, g, n, cc, T⟩) : Go (genX X κ i k c fs) ⟨.base, .call c' hd gd lv k', l, g, n, cc, T⟩ := fun hp O => by
  refine s_call PW X.w _ _ _ _ _ _ _ _ _ _ fun p => ?_
  have z := h p hp O
  rw [show denote table c' = denQ c' from (congrFun denQ_eq c').symm]
  exact z
theorem go_gpop {X : Env0} {κ : Kt} {i : Nat} {c c₁ : Code} {hd : Option Value} {gd : Bool} {lv : List Value} {k : GenResult → Sem Fin} {k' : Result → Sem Fin} {fs : List Frame} {p₁ : Pos} {kp} {f : Flow} {l : List (Addr × Obj)} {g : Array Value} {n cc T : Nat}
    (h : Go (genX X κ i k c₁ fs) ⟨.base, k' (.ok f), l, g, n, cc, T⟩) : Go (genX X κ i k c (.ret k' hd gd lv c₁ p₁ kp :: fs)) ⟨.base, .pure (.done f), l, g, n, cc, T⟩ := fun hp O => by
  refine s_pop PW X.w _ _ _ _ _ (.ok f) _ rfl _ _ _ _ _ _ _ ?_
  exact h hp O
theorem go_gagain {X : Env0} {κ : Kt} {i : Nat} {c c' : Code} {k : GenResult → Sem Fin} {fs : List Frame} {l : List (Addr × Obj)} {g : Array Value} {n cc T : Nat} (hq : c'.quiet = true)
    (h : Go (genX X κ i k c' fs) ⟨.base, denQ c', l, g, n, cc, T⟩) : Go (genX X κ i k c fs) ⟨.base, .pure (.again c'), l, g, n, cc, T⟩ := fun hp O => by
  refine s_again PW X.w _ _ _ _ _ _ hq ?_
  have z := h hp O
  rw [show denote table c' = denQ c' from (congrFun denQ_eq c').symm]
  exact z
/- a state with another tree -/
noncomputable def EvS.wt (s : EvS) (t : Sem Fin) : EvS := ⟨s.κ, t, s.l, s.g, s.n, s.c, s.T⟩
noncomputable def evL (X : Env0) (fs : List Nat) (m : Nat) (hs : List Hint) (s : EvS) : EvS × List Addr := ((ev (X.C fs) s.n m hs [] s.κ s.t s.l s.g s.c s.T).2.1, (ev (X.C fs) s.n m hs [] s.κ s.t s.l s.g s.c s.T).2.2.map Prod.fst)
noncomputable def evB (X : Env0) (fs : List Nat) (m : Nat) (hs : List Hint) (s : EvS) : List Addr := (ev (X.C fs) s.n m hs [] s.κ s.t s.l s.g s.c s.T).2.2.map Prod.snd
theorem evRfl (X : Env0) (fs : List Nat) (m : Nat) (hs : List Hint) (s : EvS) : evL X fs m hs s = evL X fs m hs s := rfl
noncomputable def hint1 (c : Nat) : Hint := match Nat.beq c 1 with
  | true => .g
  | false => match Nat.beq (c % 2) 0 with
    | true => .k (c / 2 - 1)
    | false => .l (c / 2 - 1)
/- hints written as one number -/
noncomputable def hintD : Nat → Nat → List Hint
  | 0, _ => []
  | f + 1, n => hint1 (n % 512) :: hintD f (n / 512)
theorem go_evS {X : Env0} (B : BaseF X.w.params X.h₀) (hA : X.A.handled = none) (fs : List Nat) (m : Nat) (hs : List Hint) (s s' : EvS) (e : evL X fs m hs s = (s', evB X fs m hs s)) (h : Go X s') : Go X s :=
  go_ev B hA fs m hs s.κ s.t s.l s.g s.n s.c s.T s' e h
theorem go_trueT {X : Env0} (s : EvS) (p : Prop) (d : Decidable p) (F : Decidable p → Sem Fin) (hp : p) (x : Go X (s.wt (F (.isTrue hp)))) : Go X (s.wt (F d)) := by
  have : d = .isTrue hp := Subsingleton.elim _ _
  rw [this]; exact x
theorem go_falseT {X : Env0} (s : EvS) (p : Prop) (d : Decidable p) (F : Decidable p → Sem Fin) (hp : ¬ p) (x : Go X (s.wt (F (.isFalse hp)))) : Go X (s.wt (F d)) := by
  have : d = .isFalse hp := Subsingleton.elim _ _
  rw [this]; exact x
theorem go_eqT {X : Env0} (s : EvS) (α : Type) (a b : α) (F : α → Sem Fin) (e : a = b) (x : Go X (s.wt (F b))) : Go X (s.wt (F a)) := by rw [e]; exact x
noncomputable def evLT (X : Env0) (fs : List Nat) (m : Nat) (hs : List Hint) (s : EvS) (p : Prop) (F : Decidable p → Sem Fin) : p → EvS × List Addr := fun h => evL X fs m hs (s.wt (F (.isTrue h)))
noncomputable def evRT (X : Env0) (fs : List Nat) (m : Nat) (hs : List Hint) (s : EvS) (p : Prop) (F : Decidable p → Sem Fin) (s' : EvS) : p → EvS × List Addr := fun h => (s', evB X fs m hs (s.wt (F (.isTrue h))))
noncomputable def evLF (X : Env0) (fs : List Nat) (m : Nat) (hs : List Hint) (s : EvS) (p : Prop) (F : Decidable p → Sem Fin) : ¬ p → EvS × List Addr := fun h => evL X fs m hs (s.wt (F (.isFalse h)))
noncomputable def evRF (X : Env0) (fs : List Nat) (m : Nat) (hs : List Hint) (s : EvS) (p : Prop) (F : Decidable p → Sem Fin) (s' : EvS) : ¬ p → EvS × List Addr := fun h => (s', evB X fs m hs (s.wt (F (.isFalse h))))
theorem evRflT (X : Env0) (fs : List Nat) (m : Nat) (hs : List Hint) (s : EvS) (p : Prop) (F : Decidable p → Sem Fin) : evLT X fs m hs s p F = evLT X fs m hs s p F := rfl
theorem evRflF (X : Env0) (fs : List Nat) (m : Nat) (hs : List Hint) (s : EvS) (p : Prop) (F : Decidable p → Sem Fin) : evLF X fs m hs s p F = evLF X fs m hs s p F := rfl
theorem go_sameT {X : Env0} (B : BaseF X.w.params X.h₀) (hA : X.A.handled = none) (fs : List Nat) (s : EvS) (p : Prop) (d : Decidable p) (F : Decidable p → Sem Fin) (m1 : Nat) (hs1 : List Hint) (m2 : Nat) (hs2 : List Hint) (s' : EvS)
    (e1 : evLT X fs m1 hs1 s p F = evRT X fs m1 hs1 s p F s') (e2 : evLF X fs m2 hs2 s p F = evRF X fs m2 hs2 s p F s') (x : Go X s') : Go X (s.wt (F d)) := by
  cases d with
  | isTrue h => exact go_evS B hA fs m1 hs1 _ s' (congrFun e1 h) x
  | isFalse h => exact go_evS B hA fs m2 hs2 _ s' (congrFun e2 h) x
/- ways that meet: what is shown once -/
theorem go_cut {p q : Prop} (h : p → q) (hp : p) : q := h hp
end
section
open Lean Meta Elab Tactic
namespace Drv
theorem le_step {x y z i j g g' : Nat} (h : x + i ≤ y + j) (h2 : y + g' ≤ z) (k : Nat.ble (g + j) (i + g') = true) : x + g ≤ z := by
  have := Nat.le_of_ble_eq_true k
  run_tac lomega
theorem le_end {x g k : Nat} (h : Nat.ble g k = true) : x + g ≤ x + k := Nat.add_le_add_left (Nat.le_of_ble_eq_true h) _
theorem not_of_false {b : Bool} (h : b = false) : ¬ (b = true) := by rw [h]; exact Bool.false_ne_true
def ads : List Nat := map' String.toNat! ("0 1 2 3 4 48 49 62 63 89 90 92 93 94 119 120 350 360 366 367 373 374 380 381 536 542 543 596 597 649 655 656 662 663 664 692 693 699 700 721 722 728 729 731 732 737 743 744 750 751 752 758 759 765 766 772 773 779 780 786 787 793 794 800 801 805 806 812 813 817 818".splitOn " ")
def typeNames : List String := "frame dict list tuple str_ascii_iterator list_iterator generator function cell code object str int range_iterator range enumerate slice method IndexError StopIteration traceback re.Match collections.deque".splitOn " "
def semRec : Name := `PySem.Sem.rec
structure Cx where
  env : Environment
  lctx : LocalContext
  P : Expr
  X : Expr
  B : Expr
  hA : Expr
  fs : Expr
  more : String
  stop : Bool
def kw (c : Cx) (e : Expr) : Expr := match Kernel.whnf c.env c.lctx e with
  | .ok x => x
  | .error _ => e
def defEqK (c : Cx) (a b : Expr) : Bool := match Kernel.isDefEq c.env c.lctx a b with
  | .ok b => b
  | .error _ => false
def now (c : Cx) : MetaM Cx := return { c with env := ← getEnv, lctx := ← getLCtx }
def lamOf (ty : Expr) (f : Expr → MetaM Expr) : MetaM Expr := withLocalDeclD `d ty fun d => do mkLambdaFVars #[d] (← f d)
def put (e a b : Expr) : Expr := e.replace fun y => if y == a then some b else none
def hole (ty : Expr) : MetaM Expr := mkFreshExprSyntheticOpaqueMVar ty
def natT : Expr := mkConst ``Nat
def litOf? (e : Expr) : Option Nat := if isC e "Nat.zero" 0 then some 0 else numL? e
/- again and again, till it says no -/
def repP {σ : Type} (f : σ → Bool × σ) (n : Nat) (s : σ) : σ := (fixP id (fun go (s : Bool × σ) => if s.1 then go (f s.2) else s) n (true, s)).2
/- a look into what is no sum -/
def natIn (c : Cx) (e : Expr) : Expr :=
  let p : Option (Nat × Expr) := match e with
    | .proj _ i b => some (i, b)
    | _ => match c.env.getProjectionFnInfo? e.getAppFn.constName with
      | some f => if e.getAppNumArgs == f.numParams + 1 then some (f.i, lst e) else none
      | none => none
  let o : Option Expr := match p with
    | some (i, b) =>
      let st := kw c b
      match c.env.find? st.getAppFn.constName with
      | some (.ctorInfo k) => some (arg st (k.numParams + i))
      | _ => none
    | none => none
  match o with
  | some x => x
  | none =>
    let x := kw c e
    if x.isFVar || isC x "Nat.succ" 1 || (litOf? x).isSome then x else e
/- a natural number as base + literal -/
def natOf (c : Cx) (e : Expr) : Option Expr × Nat :=
  let r := repP (fun (s : List Expr × Nat × List Expr) =>
    match s.1 with
    | [] => (false, s)
    | e :: r => (true, match litOf? e with
      | some n => (r, s.2.1 + n, s.2.2)
      | none =>
        if isC e "Nat.succ" 1 then (lst e :: r, s.2.1 + 1, s.2.2)
        else if isAdd e then (lst (fn e) :: lst e :: r, s.2)
        else
          let x := if e.isFVar then e else natIn c e
          if x == e then (r, s.2.1, e :: s.2.2) else (x :: r, s.2))) 5000 ([e], 0, [])
  (match r.2.2.reverse with
  | [] => none
  | b :: r => some (fold mkNatAdd b r), r.2.1)
def normNat (c : Cx) (e : Expr) : Expr :=
  match natOf c e with
  | (none, k) => mkNatLit k
  | (some b, k) => if k == 0 then b else mkNatAdd b (mkNatLit k)
/- what the kernel has unfolded of a list's append, folded again -/
def foldApp1 (e : Expr) : Option Expr :=
  if isC e "List.rec" 5 then
    let b := (arg e 3).getLambdaBody
    if (arg e 3).getNumHeadLambdas == 3 && isC b "List.cons" 3 && arg b 1 == .bvar 2 && arg b 2 == .bvar 0 then
      some (ap "PySem.W.R.appendR" [arg e 0, arg e 4, arg e 2] (e.getAppFn.constLevels!.drop 1))
    else none
  else
    let b := if isC e "Array.toList" 2 then lst e else if e.isProj then e.projExpr! else e
    if (b != e) && isC b "Array.mk" 2 then some (lst b) else none
def foldApp (e : Expr) : Expr := fixP id (fun go (e : Expr) => e.replace fun x => if x.isHeadBetaTarget then some (go x.headBeta) else (foldApp1 x).map go) 1000 e
def isCons (e : Expr) : Bool := isC e "List.cons" 3
def isNil (e : Expr) : Bool := isC e "List.nil" 1
/- a list's spine: its end, the items, the last first -/
def spine (c : Cx) {α : Type} (f : Expr → α) (e : Expr) : Expr × Expr × List α :=
  repP (fun (s : Expr × Expr × List α) =>
    let r := lst s.2.1
    if isCons s.2.1 then (true, r, if isCons r || isNil r then r else kw c r, f s.2.1 :: s.2.2) else (false, s)) 100000 (e, kw c e, [])
/- a list's spine, each item by f -/
def listNorm (f : Cx → Expr → Expr) (c : Cx) (e : Expr) : Expr :=
  let (raw, e, out) := spine c (fun e => (arg e 0, f c (arg e 1))) e
  let r := foldApp raw
  let e := if (foldApp1 e).isSome then foldApp e
    else if isNil e || e.isFVar then e
    else if r.getAppFn.isConst && r.getAppFn.constName != ``List.rec then r else e
  fold (fun r (x : Expr × Expr) => ap0 "List.cons" [x.1, x.2, r]) e out
def arrNorm (f : Cx → Expr → Expr) (c : Cx) (e : Expr) : Expr :=
  let e := kw c e
  if isC e "Array.mk" 2 then mkApp (fn e) (listNorm f c (lst e)) else e
/- a text without variables, written out -/
def isLits (e : Expr) : Bool := fixP (fun _ => false) (fun go e => if isCons e then (litOf? (arg e 1)).isSome && go (lst e) else isNil e) 100000 e
def strNorm (c : Cx) (e : Expr) : Expr :=
  if e.hasFVar || e.hasMVar || (isC e "PySem.Str.mk" 1 && (isC (lst e) "Array.mk" 2 || isC (lst e) "List.toArray" 2) && isLits (lst (lst e))) then e
  else match litOf? (kw c (ap "Mine.encStr" [e])) with
    | none => e
    | some m => ap "PySem.Str.mk" [ap0 "Array.mk" [natT, (repP (fun (p : Nat × Expr) => if p.1 == 0 then (false, p) else (true, p.1 / 2097152, ap0 "List.cons" [natT, mkNatLit (p.1 % 2097152 - 1), p.2])) 100000 (m, ap0 "List.nil" [natT])).2]]
def typeNorm (c : Cx) (e : Expr) : Expr :=
  let e := repP (fun e =>
    let d := kw c (arg e 2)
    if isC e "ite" 5 then (true, if isK d "Decidable.isTrue" then arg e 3 else if isK d "Decidable.isFalse" then arg e 4 else e) else (false, e)) 5 e
  match find' (fun n : String => isC e ("PySem.W.SL.s" ++ toString (hash n) ++ "x" ++ toString n.length) 0) typeNames with
  | some n => mkStrLit n
  | none => e
def valNorm (c : Cx) (v : Expr) : Expr :=
  let v := kw c v
  if isC v "PySem.Value.ref" 1 || isC v "PySem.Value.int" 2 then mkApp (fn v) (normNat c (lst v))
  else if isC v "PySem.Value.str" 2 then ap "PySem.Value.str" [strNorm c (arg v 0), normNat c (lst v)]
  else if isC v "PySem.Value.type" 1 then mkApp (fn v) (typeNorm c (lst v))
  else v
def entNorm (c : Cx) (e : Expr) : Expr :=
  if isC e "Mine.ent" 4 then ap "Mine.ent" [arg e 0, arg e 1, normNat c (arg e 2), valNorm c (arg e 3)] else
  let e := kw c e
  let k := valNorm c (arg e 1)
  let v := valNorm c (arg e 2)
  if !isC e "PySem.DictEntry.mk" 3 then e
  else if isC k "PySem.Value.str" 2 && !(arg k 0).hasFVar then ap "Mine.ent" [c.P, arg k 0, arg k 1, v] else ap "PySem.DictEntry.mk" [arg e 0, k, v]
def objNorm (c : Cx) (e : Expr) : Expr :=
  let e := kw c e
  let dt := kw c (arg e 2)
  let x := arg dt 0
  let n (f : Cx → Expr → Expr) : Expr := mkApp2 dt.getAppFn (arrNorm f c x) (normNat c (arg dt 1))
  let d := kw c (arg e 1)
  if !isC e "PySem.Obj.mk" 4 then e else
  ap "PySem.Obj.mk" [valNorm c (arg e 0), if isC d "Option.some" 2 then mkApp (fn d) (normNat c (lst d)) else d,
    if isK dt "PySem.Data.dict" then n entNorm
    else if isK dt "PySem.Data.seq" then n valNorm
    else if isK dt "PySem.Data.fields" then mkApp dt.getAppFn (arrNorm valNorm c x)
    else dt, kw c (arg e 3)]
structure St where
  κ : Expr
  t : Expr
  l : List (Expr × Expr)
  tl : Expr
  g : Expr
  n : Expr
  c : Nat
  T : Expr
abbrev Pairs := List (Expr × Expr)
abbrev Hint := Nat × Nat
def prodT (a b : Expr) : Expr := ap "Prod" [a, b] [0, 0]
def addrT : Expr := mkConst ``PySem.Addr
def lE (s : St) : Expr := fold (fun r (p : Expr × Expr) => ap0 "List.cons" [prodT addrT (mkConst ``PySem.Obj), ap "Prod.mk" [addrT, mkConst ``PySem.Obj, p.1, p.2] [0, 0], r]) s.tl s.l.reverse
def St.as (s : St) : List Expr := [lE s, s.g, s.n, mkNatLit s.c, s.T]
def St.e (s : St) : Expr := ap "Mine.EvS.mk" (s.κ :: s.t :: s.as)
def St.wt (s : St) (t : Expr) : St := { s with t := t }
/- the ledger read; what stood before (known) is kept as it was -/
def readSt (c : Cx) (known : Pairs) (e : Expr) : Option St :=
  let e := kw c e
  if !isC e "Mine.EvS.mk" 7 then none else
  let (_, tl, l) := spine c (fun e =>
    let p := kw c (arg e 1)
    match find' (· == (arg p 2, arg p 3)) known with
    | some k => k
    | none => (normNat c (arg p 2), objNorm c (arg p 3))) (arg e 2)
  let g := arg e 3
  some { κ := arg e 0, t := arg e 1, l := l.reverse, tl, g := if g.isFVar then g else arrNorm valNorm c g, n := arg e 4, c := (natOf c (arg e 5)).2, T := normNat c (arg e 6) }
def hintsE (hs : List Hint) : Expr := fold (fun r (h : Hint) => ap0 "List.cons" [mkConst ``Mine.Hint,
  if h.1 == 1 then mkConst ``Hint.g else ap (if h.1 == 0 then "Mine.Hint.k" else "Mine.Hint.l") [mkRawNatLit h.2], r]) (ap0 "List.nil" [mkConst ``Mine.Hint]) hs.reverse
/- the same as one number -/
def hintsC (hs : List Hint) : Expr :=
  ap "Mine.hintD" [mkRawNatLit hs.length, mkRawNatLit (fold (fun r (h : Hint) => r * 512 + (if h.1 == 0 then 2 * h.2 + 2 else if h.1 == 1 then 1 else 2 * h.2 + 3)) 0 hs.reverse)]
/- run: (steps used, state), or none where it is stuck -/
def runE (c : Cx) (hs : List Hint) (s : St) (fuel : Nat) : Option (Nat × St) :=
  let r := kw c (ap "Mine.ev" ([ap "Mine.Env0.C" [c.X, c.fs], s.n, mkRawNatLit fuel, hintsE hs, ap0 "List.nil" [prodT addrT addrT], s.κ, s.t] ++ (s.as.eraseIdx 2)))
  if isC r "Prod.mk" 4 then (readSt c s.l (arg (kw c (arg r 3)) 2)).map fun st => (fuel - (natOf c (arg r 2)).2, st)
  else none
/- what the kernel has unfolded of the trees' own words, folded again: smaller terms -/
def foldHere (c : Cx) (go : Expr → Expr) (e : Expr) : Option Expr :=
  let a := e.getAppArgs
  let at_ (i : Nat) : Expr := a.getD i e
  let mb := body (at_ 1)
  let R := "PySem.W.R."
  -- the word's own unfolding, but for one place
  let try_ (yes : Bool) (w : String) (as : List Expr) (k : Nat) : Option Expr :=
    let as := at_ 0 :: as
    let x : Array Expr := match if yes then c.env.find? (R ++ w).toName else none with | some d => (d.value!.beta as.toArray).getAppArgs | none => #[]
    if x.size == 29 && all' (fun i => i < 2 || i == k || x[i]! == a[i]!) (List.range 28) then some (ap (R ++ w) (map' go as)) else none
  let f := at_ 2
  let b := body f
  let f := if f.isLambda && b.isApp && lst b == .bvar 0 && !(fn b).hasLooseBVars then fn b else f
  let p := (at_ 12).getLambdaBody
  let vs := lst (fn (arg p 1))
  let h := at_ 3
  let m := at_ 28
  let same := at_ 0 == lst mb
  let r := try_ (isC mb "PySem.Sem" 1 && !mb.hasLooseBVars) "bindR" [lst mb, m, f] 2
  let r := if r.isSome then r else try_ (same && (at_ 12).getNumHeadLambdas == 3 && isC p "PySem.Sem.point" 3 && !vs.hasLooseBVars) "keepR" [vs, m] 0
  let r := if r.isSome then r else try_ (same && h.isLambda) "catchR" [m, h] 3
  if r.isSome || !same then r else
    let hb := go (body h)
    try_ (isC hb (R ++ "bindR") 4) "onRaiseR" [m, match h with | .lam n t _ i => .lam n t (arg hb 2) i | h => h] 3
/- the bound variable stands once, where the tree is worked on first -/
def onceAt (b : Expr) : Bool := fixP (fun _ => false) (fun go (b : Expr) =>
  if b == .bvar 0 then true else if !b.isApp then false else
    let f := fn b
    let x := lst b
    let R := "PySem.W.R."
    if isC b (R ++ "bindR") 4 || isC b (R ++ "onRaiseR") 3 || isC b (R ++ "catchR") 3 then
      !x.hasLooseBVar 0 && !(fn f).hasLooseBVar 0 && go (lst f)
    else !f.hasLooseBVar 0 && go x) 200 b
def foldSem (c : Cx) (e : Expr) : Expr :=
  let e := fixP id (fun go (e : Expr) => e.replace fun x => if x.isAppOfArity semRec 29 then foldHere c go x else none) 1000 e
  fixP id (fun go (e : Expr) => e.replace fun x => if x.isApp && (fn x).isLambda then
      let f := go (fn x)
      let a := go (lst x)
      some (if onceAt (body f) then (body f).instantiate1 a else mkApp f a)
    else none) 1000 e
def findHint (c : Cx) (s : St) (a : Expr) : Option Hint :=
  let (b, k) := natOf c a
  if b.isNone then (if k == 746 then some (1, 0) else (find' (·.2 == k) (number ads)).map fun x => (0, x.1))
  else (find' (fun (x : Nat × Expr × Expr) => natOf c x.2.1 == (b, k)) (number s.l)).map fun x => (2, x.1)
def isAsk (t : Expr) : Bool := isK t "PySem.Sem.load" || isK t "PySem.Sem.loadIfAlive" || isK t "PySem.Sem.update"
/- explores from s: the hints, the steps, the state, why it stopped (0: a node that no step takes; 1: the tree does not come to a node; 2: an address not known) -/
def explore (c : Cx) (s0 : St) : List Hint × Nat × St × Nat × List Hint × Nat :=
  repP (fun (hints, steps, s, _, pend, top) =>
    -- one stretch
    let (got, top) := fold (fun (o : Option (Nat × St) × Nat) f => if o.1.isSome || f > o.2 then o else
      match runE c pend s f with
      | none => (none, f - 1)
      | r => (r, o.2)) (none, top) [96, 12, 3, 1]
    match got with
    | none => (false, hints, steps, s, 1, pend, top)
    | some (u, s') =>
      let out (go : Bool) (why : Nat) (p : List Hint) (top : Nat) : Bool × List Hint × Nat × St × Nat × List Hint × Nat := (go, hints ++ pend, steps + u, s', why, p, top)
      if !isAsk s'.t then out (u != 0 || !pend.isEmpty) 0 [] (if top == 0 then 1 else top)
      else match findHint c s' (arg s'.t 1) with
      | some h => if isK s'.t "PySem.Sem.update" && (h.1 == 0 || c.stop) then out false 0 [] top else out true 0 [h] top
      | none => out false 2 [] top) 20000 ([], 0, s0, 0, [], 96)
def argsNorm (c : Cx) (e : Expr) : Expr :=
  let e := kw c e
  if isC e "PySem.Args.mk" 2 then ap "PySem.Args.mk" [listNorm valNorm c (arg e 0), listNorm (fun c x =>
    let x := kw c x
    if isC x "Prod.mk" 4 then mkApp2 (fn (fn x)) (strNorm c (arg x 2)) (valNorm c (arg x 3)) else x) c (arg e 1)]
  else e
def treeN (c : Cx) (t : Expr) : Expr :=
  let t := kw c t
  -- the code that a call names, written out
  let k := kw c (arg t 1)
  let x := kw c (lst k)
  if isC t "PySem.Sem.call" 6 then
    mkAppN t.getAppFn (t.getAppArgs.set! 1 (if isC k "PySem.Code.call" 2 then ap "PySem.Code.call" [valNorm c (arg k 0), argsNorm c (arg k 1)] else k))
  else if isC t "PySem.Sem.pure" 2 then
    mkApp (fn t) (if isC k "PySem.Fin.done" 1 then mkApp (fn k) (if isC x "PySem.Flow.ret" 1 then mkApp (fn x) (valNorm c (lst x)) else x) else k)
  else t
/- a state not yet written: its mvar, and how it is written unless a decision follows -/
abbrev Pend := Option (Expr × Expr)
def setP (p : Pend) (e : Expr) : MetaM Unit := do
  if let some p := p then
    unless ← p.1.mvarId!.isAssigned do p.1.mvarId!.assign e
def fill (p : Pend) : MetaM Unit := setP p (p.getD (natT, natT)).2
def dumT : Expr := ap "PySem.Sem.pure" [mkConst ``PySem.Fin, ap "PySem.Fin.done" [mkConst ``PySem.Flow.next]]
def goE (c : Cx) (s : Expr) : Expr := ap "Mine.Go" [c.X, s]
def raw (n : Nat) (hs : List Hint) : List Expr := [mkRawNatLit n, hintsC hs]
def evsT : Expr := mkConst ``Mine.EvS
def foldSt (c : Cx) (s : St) : Expr := ({ s with t := foldSem c s.t, κ := foldSem c s.κ } : St).e
/- the proof of one stretch: the new goal, the new state -/
def stretchT (g : MVarId) (c : Cx) (s0 : St) (cur : Option Expr) (hints : List Hint) (steps : Nat) (sEnd : St) : MetaM (MVarId × Expr × Pend) := do
  let s1 := foldSt c (sEnd.wt (treeN c sEnd.t))
  let sx := cur.getD s0.e
  let pm ← hole evsT
  let m ← hole (goE c s1)
  g.assign (ap "Mine.go_evS" (c.X :: c.B :: c.hA :: c.fs :: raw steps hints ++ [sx, pm, ap "Mine.evRfl" (c.X :: c.fs :: raw steps hints ++ [sx]), m]))
  return (m.mvarId!, pm, some (pm, s1))
/- the innermost thing that a stuck term waits for, of a kind that can be told -/
def recMajor (c : Cx) (e : Expr) : Option Expr :=
  if e.isProj then some e.projExpr! else
  match c.env.find? e.getAppFn.constName with
  | some (.recInfo r) => e.getAppArgs[r.getMajorIdx]?
  | _ => none
/- path of majors from the outside in: (term, its major) -/
def waits (c : Cx) (e : Expr) : Pairs :=
  (repP (fun (s : Expr × Pairs) =>
    match recMajor c s.1 with
    | none => (false, s)
    | some m =>
      let m' := kw c m
      (!(m' == m && (recMajor c m).isNone), m', (s.1, m) :: s.2)) 60 (e, [])).2.reverse
def decOf (m : Expr) : MetaM (Option Expr) := do
  let ty ← whnfCore (← inferType m)
  return if isC ty "Decidable" 1 then some (lst ty) else none
/- a variable of such a type -/
def hasFV (c : Cx) (e : Expr) (f : Expr → Bool) : Bool := (e.find? fun x => x.isFVar && f (c.lctx.get! x.fvarId!).type).isSome
def ofStack (c : Cx) (p : Expr) : Bool := hasFV c p fun t => isC t "List" 1 && isC (lst t) "Prod" 2 && isC (arg (lst t) 0) "PySem.Code" 0
def isRow (c : Cx) (p : Expr) : Bool := isC p "Eq" 3 && (((arg p 1).find? fun x => isC x "PySem.Params.followText" 0).isSome || hasFV c (arg p 1) fun t => isC t "PySem.Sre.Seen" 0)
/- closed numbers written out -/
def propNorm (c : Cx) (p : Expr) : Expr :=
  let num (x : Expr) : Expr :=
    let y := kw c x
    if x.isFVar || x.hasMVar || (litOf? x).isSome || isC x "HAdd.hAdd" 6 then x
    else if y.isFVar then y
    else match litOf? y with | some n => mkNatLit n | none => x
  let one (p : Expr) : Expr :=
    let ty := kw c (arg p 0)
    if isC p "Eq" 3 && isC ty "Nat" 0 then mkApp3 p.getAppFn ty (num (arg p 1)) (num (arg p 2)) else p
  if isC p "Not" 1 then mkApp (fn p) (one (lst p)) else one p
def natS (e : Expr) : Expr × Nat :=
  let e := e.consumeMData
  match if isC e "HAdd.hAdd" 6 then litOf? (lst e) else none with
  | some n => (arg e 4, n)
  | none => (e, 0)
/- x + i ≤ y + j, as an order of natural numbers says it -/
def leOf (t : Expr) : Option ((Expr × Nat) × (Expr × Nat)) :=
  let t := t.consumeMData
  let lt := isC t "LT.lt" 4
  if (lt || isC t "LE.le" 4) && (isC (arg t 0) "Nat" 0 || isC (arg t 0) "PySem.Addr" 0 || isC (arg t 0) "PySem.Tok" 0) then
    let (x, i) := natS (arg t 2)
    some ((x, if lt then i + 1 else i), natS (arg t 3))
  else none
/- a chain of orders in the context -/
def leProof (g : MVarId) : MetaM (Option Unit) := g.withContext do
  let some ((x, gx), (z, kz)) := leOf (← instantiateMVars (← g.getType)) | return none
  let zE := if kz == 0 then z else mkNatAdd z (mkRawNatLit kz)
  let ds ← locs
  let lits (l : List Nat) := map' mkRawNatLit l
  let r := fixP (fun _ => none) (fun go (todo : List (Expr × Nat × List Expr × (Expr → Expr))) =>
    match todo with
    | [] => none
    | (u, q, seen, pf) :: rest =>
      if u == z && q ≤ kz then some (pf (ap "Mine.Drv.le_end" (z :: lits [q, kz] ++ [reflT true])))
      else go (rest ++ fold (fun o (d : Expr × Expr) =>
        match leOf d.1 with
        | some ((a, i), (b, j)) =>
          if a == u && !seen.contains b && b != x && seen.length < 16 then
            let q' := q + j - i
            o ++ [(b, q', u :: seen, fun p => pf (ap "Mine.Drv.le_step" ([a, b, zE] ++ lits [i, j, q, q'] ++ [d.2, p, reflT true])))]
          else o
        | none => o) [] ds)) 401 [(x, gx, [], id)]
  if let some p := r then g.assign p
  return r.map fun _ => ()
/- a chain, else lomega -/
def tom : TacticM Unit := do
  let g ← getMainGoal
  let _ ← fst (· g) [leProof, lomegaM]
  replaceMainGoal []
def roomS : String := "repeat first | assumption | apply Mine.Room.ret"
def liesS : String := "first" ++ fold (fun o (w : String × String) => o ++ fold (fun o n => o ++ " | " ++ w.1 ++ "exact Mine.no_" ++ n ++ " (by assumption) (by " ++ roomS ++ ") (by " ++ w.2 ++ ")") "" ["nearQ", "overQ", "warmQ", "nearQ0", "warmQ0", "roomQ"]) "" [("with_reducible ", "with_unfolding_all rfl"), ("", "rfl")] ++ " | exact Mine.no_traceQ"
/- lines that a decision may fall to -/
def decS : String := "first
  | (simp only [decide_eq_true_eq, ge_iff_le, gt_iff_lt, Int.not_le, Int.not_lt, Nat.not_le, Nat.not_lt]; run_tac Mine.Drv.lomega)
  | (simp only [Mine.appR, Mine.sizeMk, Mine.sL_len, List.size_toArray, List.length_append, List.length_cons, List.length_nil, PySem.sizeLine]; run_tac Mine.Drv.lomega)
  | (simp only [Mine.ent, PySem.Builtin.List.listSameRef, Bool.or_eq_true, Bool.and_eq_true, beq_iff_eq, reduceCtorEq, or_false, false_or, and_false, false_and, not_false_eq_true, PySem.Value.ref.injEq]; first | done | run_tac Mine.Drv.lomega | (intro hx; have hy : @Eq Nat _ _ := hx; run_tac Mine.Drv.lomega))"
/- lines of single texts -/
def m1 : String := "with_reducible first | exact Mine.dec1 (by run_tac Mine.Drv.tom) | exact Mine.dec2 (by run_tac Mine.Drv.tom) (by run_tac Mine.Drv.tom) | exact Mine.dec3 (by run_tac Mine.Drv.tom) (by run_tac Mine.Drv.tom) | exact Mine.dec4 (by assumption) (by run_tac Mine.Drv.tom) | exact Mine.dec5 (by assumption) (by run_tac Mine.Drv.tom)"
def m2 : String := "with_reducible exact Mine.no_sizeQ (by assumption) (by with_unfolding_all rfl)"
def m4 : String := "with_reducible first | exact Mine.decS (by simp only [Mine.sL_len]; run_tac Mine.Drv.lomega) | exact Mine.decL (by run_tac Mine.Drv.tom)"
def lenS : String := "first | exact Mine.no_len (by repeat first | exact Mine.len_le (by assumption) | assumption | apply Mine.cat_le | with_unfolding_all exact Nat.le_refl _) (by rfl) | exact Mine.no_long (by run_tac Mine.Drv.tom) (by simp only [List.length_cons]; run_tac Mine.Drv.lomega) (by first | decide +kernel"
def m3 : String := lenS ++ ")"
def m5 : String := lenS ++ " | (simp only [Mine.sL_len]; run_tac Mine.Drv.lomega))"
/- a lemma of its own -/
def aux (p r : Expr) : MetaM Expr := do
  withOptions (Elab.async.set · false) (mkAuxTheorem (← instantiateMVars p) (← instantiateMVars r) (zetaDelta := true))
def notE (p : Expr) : Expr := ap "Not" [p]
def tryProve (c : Cx) (p : Expr) (st : Bool) : MetaM (Option Expr) := do
  let p := foldApp (propNorm c p)
  let m ← hole p
  let g := m.mvarId!
  let by_ (s : String) : MetaM (Option Unit) := optM do return if (← byTac g s).isEmpty then some () else none
  optM do
    let _ ← fst id (if st then [by_ liesS] else [leProof g, by_ c.more, by_ "assumption", optM (lomegaM g), by_ decS])
    let r ← instantiateMVars m
    if r.hasExprMVar then return none
    if st || (← r.numObjs) < 160 then return some r
    return some (← aux p r)
/- an equation in the context that tells a term -/
def toldBy (c : Cx) (a : Expr) : MetaM (Option (Expr × Expr)) := do
  fst (fun (d : Expr × Expr) => do
    let l := arg d.1 1
    let hd := isK a "Mine.handledOf"
    let yes ← if !isC d.1 "Eq" 3 || l.getAppFn != a.getAppFn then pure (isC d.1 "Eq" 3 && l == a)
      else if hd then isDefEq l a else withReducible (isDefEq l a)
    return if yes || (!hd && isC d.1 "Eq" 3 && l.getAppFn.isConst && l.getAppFn == a.getAppFn && l.getAppNumArgs == a.getAppNumArgs && defEqK c l a) then some (arg d.1 2, d.2) else none) (← locs)
def toldHead (m : Expr) : Bool :=
  m.getAppFn.constName.getPrefix == `PySem.W.Fast || isK m "Mine.handledOf" || isK m "PySem.codeAmong" || isK m "GetElem?.getElem?" || isK m "PySem.Builtin.Str.tooLong" || isK m "HSub.hSub"
def sListOf (c : Cx) (a : Expr) : Option Expr :=
  if isC a "Mine.sL" 1 then some (lst a) else
  let z := strNorm c a
  if isC z "PySem.Str.mk" 1 && !a.hasFVar then some (lst (lst z)) else none
/- where l stands, up to unfolding -/
def seek (c : Cx) (l t : Expr) : Option Expr := t.find? fun e => e.getAppFn == l.getAppFn && e.getAppNumArgs == l.getAppNumArgs && !e.hasLooseBVars && !e.hasMVar && (e == l || defEqK c l e)
/- a part of the tree that is told by an equation at hand, or by the sum of two texts -/
def toldAny (c : Cx) (t : Expr) : MetaM (Option (Expr × Expr × Expr)) := do
  let two (e : Expr) : List Expr := [arg e 4, arg e 5]
  let cat := t.find? fun e => isC e "HAppend.hAppend" 6 && !e.hasLooseBVars && isC (arg e 0) "PySem.Str" 0 && isC (arg e 1) "PySem.Str" 0
    && ((arg e 3).find? fun x => isC x "PySem.W.Fast.tw178013285451222756" 0).isSome
    && !all' (fun a => !isC a "Mine.sL" 1) (two e) && all' (fun a => isC a "Mine.sL" 1 || !a.hasFVar) (two e)
  if let some e := cat then
    let l := ap0 "List" [natT]
    if let [some a, some b] := map' (sListOf c) (two e) then
      return some (e, ap "Mine.sL" [ap "HAppend.hAppend" [l, l, l, ap0 "instHAppendOfAppend" [l, ap0 "List.instAppend" [natT]], a, b] [0, 0, 0]], ap "Mine.catL" [a, b])
  fst (fun (d : Expr × Expr) => do
    let l := arg d.1 1
    return if isC d.1 "Eq" 3 && (l.getAppFn.constName.getPrefix == `PySem.W.Fast || isK l "HAppend.hAppend" || isK l "PySem.Builtin.Str.tooLong" || isK l "Array.all") then
      (seek c l t).map fun e => (e, arg d.1 2, d.2) else none) (← locs)
/- one step; the hint found -/
def oneStep (c : Cx) (s : St) : Option (St × List Hint) :=
  let s := s.wt (kw c s.t)
  let hs := if isAsk s.t then (findHint c s (arg s.t 1)).map fun h => [h] else some []
  match hs with
  | none => none
  | some hs => match runE c hs s 1 with
    | some (n, s') => if n == 1 then some (s'.wt (kw c s'.t), hs) else none
    | none => none
/- steps as long as f says so: the states and the hints on the way -/
def stepsW (c : Cx) (f : St → Bool) (n : Nat) (s : St) : List (St × List Hint) :=
  let s := s.wt (kw c s.t)
  (repP (fun (s : St × List Hint × List (St × List Hint)) =>
    match if f s.1 then oneStep c s.1 else none with
    | some (x, h) => (true, x, s.2.1 ++ h, (x, s.2.1 ++ h) :: s.2.2)
    | none => (false, s)) n (s, [], [(s, [])])).2.2.reverse
def ctxOf (ws : Pairs) (x : Expr) : Expr := fold (fun c (w : Expr × Expr) => put w.1 w.2 c) x ws.reverse
/- a Bool that waits for decisions that can be proved: its value and the proof of the equation -/
def boolIt (b : Expr) : Cx → MetaM (Option (Bool × Expr)) := fun c => fix (fun go (b : Expr) => do
  let c ← now c
  let v := kw c b
  let yes := isC v "Bool.true" 0
  if yes || isC v "Bool.false" 0 then return some (yes, reflT yes)
  let ws := waits c v
  -- m, told to be x by h
  let fin (w : Pairs) (ty m x h : Expr) : MetaM (Option (Bool × Expr)) := do
    let F ← lamOf ty fun d => return ctxOf w d
    let some (r, pr) ← go (ctxOf w x) | return none
    let bT := mkConst ``Bool
    return some (r, ap1 "Eq.trans" [bT, b, ctxOf w x, boolE r, ap "congrArg" [ty, bT, m, x, F, h] [1, 1], pr])
  let r ← fst (fun (i, _, m) => do
    let some p ← decOf m | return none
    if p.hasLooseBVars then return none
    fst (fun no => do
      let some h ← tryProve c (if no then notE p else p) false | return none
      let d := ap (if no then "Decidable.isFalse" else "Decidable.isTrue") [p, h]
      let ty := ap "Decidable" [p]
      return some (← fin (ws.take (i + 1)) ty m d (ap1 "Subsingleton.elim" [ty, ap "instSubsingletonDecidable" [p], m, d]))) [true, false]) (number ws)
  if let some r := r then return r
  let some (_, m) := ws.getLast? | return none
  let some (x, h) ← toldBy c m | return none
  fin ws (← inferType m) m x h) 40 b
abbrev Res := Option (MVarId × Option Expr × Pend)
def wtE (sd t : Expr) : Expr := ap "Mine.EvS.wt" [sd, t]
/- the goal by an equation or a decision: the tree as F at a, and at b -/
def swap (g : MVarId) (c : Cx) (s : St) (pend : Pend) (ty a b h : Expr) (w : String) (as : List Expr) (f : Expr → Expr) : MetaM Res := do
  let sd := (s.wt dumT).e
  let F ← lamOf ty fun d => return foldSem c (f d)
  setP pend (wtE sd (mkApp F a))
  let m ← hole (goE c (s.wt (mkApp F b)).e)
  g.assign (ap w ([c.X, sd] ++ as ++ [F, h, m]))
  return some (m.mvarId!, some (wtE sd (mkApp F b)), none)
def sameSt (a b : St) : Bool := a.t == b.t && a.κ == b.κ && a.T == b.T && a.c == b.c && a.l == b.l
/- the ways of a decision that the world takes: where they meet -/
def meet (g : MVarId) (c : Cx) (s : St) (ws : Pairs) (pend : Pend) (p m : Expr) : MetaM Res := do
  let mT := ap "Decidable" [p]
  let r ← IO.mkRef none
  let _ ← lamOf p fun h => lamOf (notE p) fun h' => do
    let c ← now c
    let way (k : String) (h : Expr) : List (St × List Hint) := stepsW c (fun _ => true) 60 (s.wt (ctxOf ws (ap ("Decidable.is" ++ k) [p, h])))
    let b := number (way "False" h')
    r.set (← fst (fun (i, x, hs) => return (find' (fun y : Nat × St × List Hint => sameSt x y.2.1) b).map fun y => (raw i hs, raw y.1 y.2.2, x)) (number (way "True" h)))
    return p
  let some (hs, hs', sM) ← r.get | return none
  let sM := foldSt c sM
  let sd := (s.wt dumT).e
  let pm ← hole evsT
  let F ← lamOf mT fun d => return foldSem c (ctxOf ws d)
  setP pend (wtE sd (mkApp F m))
  let m' ← hole (goE c sM)
  let e (w : String) (hs : List Expr) : Expr := ap w ([c.X, c.fs] ++ hs ++ [sd, p, F])
  g.assign (ap "Mine.go_sameT" ([c.X, c.B, c.hA, c.fs, sd, p, m, F] ++ hs ++ hs' ++ [pm, e "Mine.evRflT" hs, e "Mine.evRflF" hs', m']))
  return some (m'.mvarId!, some pm, some (pm, sM))
/- what the context says of p -/
def hitOf (p : Expr) (deep : Bool) : MetaM (Option (Bool × Expr)) := do
  fst (fun (t, h) => do
    let no := isC t "Not" 1
    let x := if no then lst t else t
    let near := isC x "Eq" 3 && isC p "Eq" 3 && isC (arg x 0) "Bool" 0 && (deep || (arg x 2 == arg p 2 && (no || (arg x 1).getAppFn == (arg p 1).getAppFn)))
    let yes ← if near then (if deep then isDefEq x p else withReducible (isDefEq x p)) else pure (x == p || (no && x.headBeta == p))
    return if yes then some (!no, h) else none) (← locs)
/- a stuck tree: the decision taken, the new goal -/
def decideAt (g : MVarId) (c : Cx) (s : St) (pend : Pend) (ws : Pairs) : MetaM Res := do
  let some (_, m) := ws.getLast? | return none
  let some p ← decOf m |
    let some (v, h) ← toldBy c m | return none
    let ty ← whnfCore (← inferType m)
    return ← swap g c s pend ty m v h "Mine.go_eqT" [ty, m, v] fun d => put (ctxOf ws d) m d
  let no := notE p
  let l := arg p 1
  let st := ofStack c p
  let row := isRow c p
  let bool : MetaM (Option (Bool × Expr)) := do
    if st || !isC p "Eq" 3 || !isC (arg p 0) "Bool" 0 || !isC (arg p 2) "Bool.true" 0 then return none
    let some (v, h) ← boolIt l c | return none
    return some (v, ← aux (if v then p else no) (if v then h else ap "Mine.Drv.not_of_false" [l, h]))
  let prove (v : Bool) : MetaM (Option (Bool × Expr)) := do
    if v && st then return none
    return (← tryProve c (if v then p else no) st).map fun h => (v, h)
  match ← fst id (hitOf p false :: if row then [hitOf p true] else [optM bool, prove false, prove true]) with
  | some (v, h) => swap g c s pend (ap "Decidable" [p]) m (ap (if v then "Decidable.isTrue" else "Decidable.isFalse") [p, h]) h (if v then "Mine.go_trueT" else "Mine.go_falseT") [p, m] fun d => ctxOf ws d
  | none => if st && !row then return none else meet g c s ws pend p m
def decideIt (g : MVarId) (c : Cx) (s : St) (pend : Pend) : MetaM Res := do
  if let some (e, r, h) ← toldAny c s.t then
    let eT ← inferType e
    return ← swap g c s pend eT e r h "Mine.go_eqT" [eT, e, r] fun d => put s.t e d
  let ws := waits c s.t
  -- first what is told, then what comes
  let at_ (first : Bool) : MetaM (Option Res) := fst (fun (i, _, m) => do
    let dec := !first && (← decOf m).isSome
    let told ← if toldHead m && !m.hasLooseBVars then pure (← toldBy c m).isSome else pure false
    if !(dec || told || (!first && (isK m "Mine.handledOf" || i + 1 == ws.length))) then return none
    let r ← decideAt g c s pend (ws.take (i + 1))
    return if dec || r.isSome then some r else none) (number ws)
  return (← fst at_ [true, false]).getD none
def codePosT : Expr := prodT (mkConst ``PySem.Code) (mkConst ``PySem.Pos)
/- a stack node that enters a frame -/
def frameIt (g : MVarId) (c : Cx) (s : St) : MetaM (Option MVarId) := do
  let l := stepsW c (fun s => !isC s.t "PySem.Sem.pure" 2) 6 (s.wt (mkApp (arg s.t 1) (ap0 "List.nil" [codePosT])))
  let some (z, _) := l.getLast? | return none
  let fin := kw c (lst z.t)
  let k := kw c (lst fin)
  let env := kw c (lst k)
  let f := kw c (arg env 5)
  if !(isC z.t "PySem.Sem.pure" 2 && isC fin "PySem.Fin.again" 1 && isC k "PySem.Code.func" 2) then return none
  let nm := (`Mine).str ("fd" ++ toString (natOf c (lst f)).2)
  let k := if isK env "PySem.Env.mk" && isC f "Option.some" 2 && c.env.contains nm then
    ap "PySem.Code.func" [ap "Mine.bodyOf" [mkConst nm], ap "Mine.fEnv" [mkConst nm, normNat c (lst f), normNat c (arg env 1)]] else k
  let t' := mkApp (fn z.t) (mkApp (fn fin) k)
  let rhs ← mkAppM ``PySem.W.R.bindR #[ap "PySem.W.Fast.tw15066281185411960212" [mkRawNatLit 0], .lam `x (mkConst ``PUnit [1]) t' .default]
  let e := ap1 "Eq.refl" [← inferType rhs, rhs]
  -- the room
  let du ← mapM' (fun t => mkFreshExprMVar t) [natT, natT]
  let R ← mkFreshExprMVar (ap "Mine.Room" ([c.X, s.κ] ++ du))
  if !(← byTac R.mvarId! roomS).isEmpty then return none
  let m ← hole (goE c (s.wt t').e)
  g.assign (ap "Mine.go_tree" ([c.X, s.κ, s.t, rhs] ++ s.as ++ [e, ap "Mine.go_frame" ([c.X, c.B, s.κ, t'] ++ s.as ++ (← mapM' instantiateMVars (du ++ [R])) ++ [reflT true, m])]))
  return some m.mvarId!
/- a stack node that asks for the frames -/
def envsIt (g : MVarId) (c : Cx) (s : St) : MetaM (Option MVarId) := do
  let κ := kw c s.κ
  if !isC κ "Mine.Kt.ret" 4 then return none
  let envT := ap0 "List" [mkConst ``PySem.Env]
  let k ← lamOf (ap0 "List" [codePosT]) fun st => do
    let b := fixP id (fun go (e : Expr) => e.replace fun x =>
      if x.isHeadBetaTarget then some (go x.headBeta)
      else if isC x "PySem.W.R.bindR" 4 && isC (arg x 2) "PySem.Sem.pure" 2 then some (go (mkApp (lst x) (lst (arg x 2))).headBeta) else none) 1000 (mkApp (arg s.t 1) st)
    lamOf envT fun es => return b.replace fun e => if isC e "List.filterMap" 4 && isC (lst e) "PySem.W.R.filterR" 3 && lst (lst e) == st then some es else none
  let k := body k
  if k.hasLooseBVars || !(body k).hasLooseBVars then return none
  let es ← mkFreshExprMVar envT
  let hF ← mkFreshExprMVar (← mkEq (← mkAppM ``PySem.Around.frames #[ap "Mine.aA" [← mkAppM ``Env0.A #[c.X], κ]]) (← mkAppM ``Option.some #[es]))
  if !(← byTac hF.mvarId! "repeat first | assumption | apply Mine.frames_ret").isEmpty then return none
  let es := listNorm (fun _ e => e) c (← instantiateMVars es)
  let m ← hole (goE c (s.wt (mkApp k es).headBeta).e)
  g.assign (ap "Mine.go_stackE" ([c.X] ++ κ.getAppArgs.toList ++ [k, es] ++ s.as ++ [← instantiateMVars hF, m]))
  return some m.mvarId!
def begin_ (more : String) (fs : List Nat) (g : MVarId) : MetaM (Cx × St) := do
  let ty := (← instantiateMVars (← g.getType)).consumeMData
  let X := arg ty 0
  let w := ap "Mine.Env0.w" [X]
  let w ← if X.isFVar then pure w else whnf w
  let w := if w.isProj then ap "Mine.Env0.w" [w.projExpr!] else w
  let ds := (← locs).reverse
  let at_ (f : Expr → Bool) : Expr := ((find' (fun d => f d.1) ds).getD (X, X)).2
  let c : Cx := ⟨← getEnv, ← getLCtx, ap "PySem.World.params" [w], X, at_ (isC · "Mine.BaseF" 2), at_ fun t => isC t "Eq" 3 && isC (arg t 1) "PySem.Around.handled" 1,
    fold (fun r k => ap0 "List.cons" [natT, mkRawNatLit k, r]) (ap0 "List.nil" [natT]) fs.reverse, more, !all' (· != 400000) fs⟩
  let some s ← pure (readSt c [] (lst ty)) | fail "drv: the state"
  return (c, s)
/- one turn: a stretch, and what stands behind it -/
def turn (more : String) (fs : List Nat) (last : Bool) (g : MVarId) (cur : Option Expr) (pend : Pend) : MetaM (Bool × MVarId × Option Expr × Pend) := g.withContext do
  let (c, s0) ← begin_ more fs g
  let (hints, steps, s, why, _) := explore c s0
  let t := kw c s0.t
  let (g, cur, pend) ← if steps != 0 then do
      fill pend
      let (g, pm, p) ← stretchT g c s0 cur hints steps s
      pure (g, some pm, p)
    else if t.getAppFn == s0.t.getAppFn || t.getAppFn.constName == semRec then pure (g, cur, pend)
    else pure (← g.replaceTargetDefEq (goE c (s0.wt (foldSem c t)).e), cur, pend)
  let stop := (false, g, cur, pend)
  if last || why == 2 then return stop
  let (c, s1) ← begin_ more fs g
  if why == 1 then return match ← decideIt g c (s1.wt (kw c s1.t)) pend with
    | some r => (true, r)
    | none => stop
  if !isK s1.t "PySem.Sem.stack" then return stop
  fill pend
  let gs : MetaM (Option MVarId) := do
    let m ← hole (← g.getType)
    g.assign m
    let n := if isC s1.κ "Mine.Kt.ret" 4 && isC (lst s1.κ) "Mine.Kt.ret" 4 then 4 else 3
    let gs ← m.mvarId!.apply (mkConst (if n == 4 then `Mine.go_stack2 else `Mine.go_stack))
    return some (← (gs.headD g).introNP n).2
  let r ← fst id [optM (frameIt g c s1), optM (envsIt g c s1), gs]
  return (true, r.getD g, none, none)
def driveN (lim : Nat) (fs : List Nat) (more : String := "fail") : TacticM Unit := do
  let (_, g, _, p) ← rep (fun (i, g, cur, p) => do
    let (go, r) ← turn more fs (i == 1) g cur p
    return (go && i != 1, i - 1, r)) lim (lim, ← getMainGoal, none, none)
  fill p
  replaceMainGoal [g]
def drive (fs : List Nat) (more : String := "fail") : TacticM Unit := driveN 400 fs more
/- an equation used in the tree, as the kernel unfolds it, up to unfolding -/
def toldN (n : Name) : TacticM Unit := do
  let g ← getMainGoal
  let r ← g.withContext do
    let (c, s) ← begin_ "" [] g
    let some d := c.lctx.findFromUserName? n | fail "told: no name"
    let t := (← instantiateMVars d.type)
    let s := s.wt (kw c s.t)
    let e := (seek c (arg t 1) s.t).getD t
    swap g c s none (arg t 0) e (arg t 2) d.toExpr "Mine.go_eqT" [arg t 0, e, arg t 2] (put s.t e)
  replaceMainGoal (r.toList.map (·.1))
end Drv
end
section
open PySem PySem.W PySem.W.X PyProof.Rows
/- the ledger's first object is changed -/
theorem go_upd {X : Env0} (B : BaseF X.w.params X.h₀) {κ : Kt} {a : Addr} {q : Option Value} {f : Obj → Obj} {k : Unit → Sem Fin} {l : List (Addr × Obj)} {g : Array Value} {n c T : Nat} {o o' : Obj} (hf : f o = o') (hfr : o'.isFreed = false)
    (h : Go X ⟨κ, k (), (a, o') :: l, g, n, c, T⟩) : Go X ⟨κ, .update a q f k, (a, o) :: l, g, n, c, T⟩ := fun hp O => by
  have ho : hp.get? a = some o := (O.nw _ (.head _)).1
  exact means_cmd (.update a q f .pure) k fun Γ q' hΓ => ⟨by rw [ho]; rfl, h (hp.update a f) (by
    have := O.update B.size (i := 0) (p := (a, o)) (f := f) rfl (by rw [hf]; exact hfr)
    rw [hf] at this
    exact this)⟩
end
section
open PySem PySem.W PySem.W.X PyProof.Rows
noncomputable def sio (d : Addr) : Obj := ⟨.ref 597, some d, .plain, #[]⟩
noncomputable def sioD (P : Params) (t1 t2 t3 t4 t5 t6: Nat) (buf : Str) (p : Int) (e : Nat) : Obj :=
  ⟨.type "dict", none, .dict #[ent P ⟨#[95, 83, 116, 114, 105, 110, 103, 73, 79, 95, 95, 110, 101, 119, 108, 105, 110, 101]⟩ t1 (.str ⟨#[10]⟩ t2), ent P ⟨#[95, 83, 116, 114, 105, 110, 103, 73, 79, 95, 95, 98, 117, 102]⟩ t3 (.str buf t4), ent P ⟨#[95, 83, 116, 114, 105, 110, 103, 73, 79, 95, 95, 112, 111, 115]⟩ t5 (.int p t6)] e, #[]⟩
theorem slice1 {p len : Nat} (h : p + 1 ≤ len) : Fast.tw163193231618251289 (some (p : Int)) (some ((p : Int) + 1)) 1 len = [p] := by
  rw [← Fast.te163193231618251289]
  have := StrLaws.strSliceIndices_plain (a := p) (b := p + 1) (len := len) (by run_tac Drv.tom) h
  rw [show (((p + 1 : Nat) : Int)) = (p : Int) + 1 from by run_tac Drv.tom] at this
  rw [this, show p + 1 - p = 1 from by run_tac Drv.tom]
  rfl
theorem slice1' {p len : Nat} (h : len = p + 1) : Fast.tw163193231618251289 (some (p : Int)) (some (len : Int)) 1 len = [p] := by
  have := slice1 (p := p) (len := len) (by run_tac Drv.tom)
  rw [show (p : Int) + 1 = (len : Int) from by run_tac Drv.tom] at this
  exact this
theorem dec1 {p len : Nat} (h : p + 1 < len) : ¬ ((Option.getD (none : Option Int) 1 == 1 && (Fast.tw163193231618251289 (some (p : Int)) (some ((p : Int) + 1)) (Option.getD (none : Option Int) 1) len).length == len) = true) := by
  rw [Option.getD_none, slice1 (by run_tac Drv.tom)]
  simp only [List.length_cons, List.length_nil, Bool.and_eq_true, beq_iff_eq, BEq.rfl, true_and]
  (run_tac Drv.lomega)
theorem dec2 {p len : Nat} (h : len = p + 1) (h1 : len ≠ 1) : ¬ ((Option.getD (none : Option Int) 1 == 1 && (Fast.tw163193231618251289 (some (p : Int)) (some (len : Int)) (Option.getD (none : Option Int) 1) len).length == len) = true) := by
  rw [Option.getD_none, slice1' (by run_tac Drv.tom)]
  simp only [List.length_cons, List.length_nil, Bool.and_eq_true, beq_iff_eq, BEq.rfl, true_and]
  (run_tac Drv.lomega)
theorem dec3 {p len : Nat} (h : len = p + 1) (h1 : len = 1) : ((Option.getD (none : Option Int) 1 == 1 && (Fast.tw163193231618251289 (some (p : Int)) (some (len : Int)) (Option.getD (none : Option Int) 1) len).length == len) = true) := by
  rw [Option.getD_none, slice1' (by run_tac Drv.tom)]
  simp only [List.length_cons, List.length_nil, Bool.and_eq_true, beq_iff_eq, BEq.rfl, true_and]
  (run_tac Drv.lomega)
theorem str1 {buf : Str} {p c : Nat} (hc : buf.cps[p]? = some c) (h : p + 1 ≤ buf.length) :
    (⟨(List.filterMap (fun x => buf.cps[x]?) (Fast.tw163193231618251289 (some (p : Int)) (some ((p : Int) + 1)) (Option.getD (none : Option Int) 1) buf.length)).toArray⟩ : Str) = ⟨#[c]⟩ := by
  rw [Option.getD_none, slice1 h]
  simp [hc]
theorem str2 {buf : Str} {p c : Nat} (hc : buf.cps[p]? = some c) (h : buf.length = p + 1) :
    (⟨(List.filterMap (fun x => buf.cps[x]?) (Fast.tw163193231618251289 (some (p : Int)) (some (buf.length : Int)) (Option.getD (none : Option Int) 1) buf.length)).toArray⟩ : Str) = ⟨#[c]⟩ := by
  rw [Option.getD_none, slice1' h]
  simp [hc]
theorem dec4 {buf : Str} {p c : Nat} (hc : buf.cps[p]? = some c) (h : p + 1 ≤ buf.length) :
    ¬ (sizeLine < (⟨(List.filterMap (fun x => buf.cps[x]?) (Fast.tw163193231618251289 (some (p : Int)) (some ((p : Int) + 1)) (Option.getD (none : Option Int) 1) buf.length)).toArray⟩ : Str).length) := by
  rw [str1 hc h]; show ¬ (16777216 < 1); decide
theorem dec5 {buf : Str} {p c : Nat} (hc : buf.cps[p]? = some c) (h : buf.length = p + 1) :
    ¬ (sizeLine < (⟨(List.filterMap (fun x => buf.cps[x]?) (Fast.tw163193231618251289 (some (p : Int)) (some (buf.length : Int)) (Option.getD (none : Option Int) 1) buf.length)).toArray⟩ : Str).length) := by
  rw [str2 hc h]; show ¬ (16777216 < 1); decide
theorem str3 {buf : Str} {c : Nat} (hc : buf.cps[0]? = some c) (h : buf.length = 1) : buf = ⟨#[c]⟩ := by
  obtain ⟨⟨l⟩⟩ := buf
  match l, h with
  | [x], _ => simp at hc; simp [hc]
theorem go_str {X : Env0} {κ : Kt} {k : Result → Sem Fin} {s : Str} {t : Tok} {l : List (Addr × Obj)} {g : Array Value} {n c T : Nat} (s' : Str) (e : s = s')
    (h : Go X ⟨κ, k (.ok (.ret (.str s' t))), l, g, n, c, T⟩) : Go X ⟨κ, k (.ok (.ret (.str s t))), l, g, n, c, T⟩ := by rw [e]; exact h
theorem read_char (X : Env0) (B : BaseF X.w.params X.h₀) (hA : X.A.handled = none) (κ : Kt) (R : Room X κ 900 6000) (k : Result → Sem Fin) (gd : Bool) (lv : List Value) (n T a b t1 t2 t3 t4 t5 t6 tk e : Nat) (buf : Str) (p c : Nat) (rest : List (Addr × Obj)) (g : Array Value)
    (hc : buf.cps[p]? = some c) (hb : buf.length < 1000)
    (h : ∀ n' T' t6' tk', T ≤ T' → Go X ⟨κ, k (.ok (.ret (.str ⟨#[c]⟩ tk'))), (b, sio (a)) :: (a, sioD X.w.params t1 t2 t3 t4 t5 t6' buf ((p + 1 : Nat) : Int) e) :: rest, g, n', 820, T'⟩) :
    Go X ⟨κ, .call (.call (.ref 543) ⟨[.ref (b), .int 1 tk], []⟩) none gd lv k, (b, sio (a)) :: (a, sioD X.w.params t1 t2 t3 t4 t5 t6 buf p e) :: rest, g, n, 820, T⟩ := by
  have hp : p < buf.length := by
    obtain ⟨hl, _⟩ := Array.getElem?_eq_some_iff.mp hc
    exact hl
  refine go_enter rfl ?_
  run_tac Drv.drive [543, 381, 63] Drv.m1
  by_cases hq : p + 1 < buf.length
  · run_tac Drv.drive [543, 381, 63] Drv.m1
    refine go_str _ (str1 hc (by run_tac Drv.tom)) ?_
    refine go_drop ((b, sio (a)) :: (a, sioD X.w.params t1 t2 t3 t4 t5 _ buf _ e) :: rest) (by repeat (first | exact List.Sublist.refl _ | apply List.Sublist.cons_cons | apply List.Sublist.cons)) ?_
    intro n' T' hT
    exact h n' T' _ _ (by run_tac Drv.tom)
  · have hl : buf.length = p + 1 := by run_tac Drv.tom
    by_cases hr : buf.length = 1
    · run_tac Drv.drive [543, 381, 63] Drv.m1
      have h0 : p = 0 := by run_tac Drv.tom
      subst h0
      refine go_str _ (str3 hc hr) ?_
      rw [hl]
      refine go_drop ((b, sio (a)) :: (a, sioD X.w.params t1 t2 t3 t4 t5 _ buf _ e) :: rest) (by repeat (first | exact List.Sublist.refl _ | apply List.Sublist.cons_cons | apply List.Sublist.cons)) ?_
      intro n' T' hT
      exact h n' T' _ _ (by run_tac Drv.tom)
    · run_tac Drv.drive [543, 381, 63] Drv.m1
      refine go_str _ (str2 hc hl) ?_
      rw [hl]
      refine go_drop ((b, sio (a)) :: (a, sioD X.w.params t1 t2 t3 t4 t5 _ buf _ e) :: rest) (by repeat (first | exact List.Sublist.refl _ | apply List.Sublist.cons_cons | apply List.Sublist.cons)) ?_
      intro n' T' hT
      exact h n' T' _ _ (by run_tac Drv.tom)
theorem read_eof (X : Env0) (B : BaseF X.w.params X.h₀) (hA : X.A.handled = none) (κ : Kt) (R : Room X κ 900 6000) (k : Result → Sem Fin) (gd : Bool) (lv : List Value) (n T a b t1 t2 t3 t4 t5 t6 tk e : Nat) (buf : Str) (p : Nat) (rest : List (Addr × Obj)) (g : Array Value)
    (hc : p = buf.length) (hb : buf.length < 1000)
    (h : ∀ n' T' tk', T ≤ T' → Go X ⟨κ, k (.ok (.ret (.str ⟨#[]⟩ tk'))), (b, sio (a)) :: (a, sioD X.w.params t1 t2 t3 t4 t5 t6 buf (p : Int) e) :: rest, g, n', 820, T'⟩) :
    Go X ⟨κ, .call (.call (.ref 543) ⟨[.ref (b), .int 1 tk], []⟩) none gd lv k, (b, sio (a)) :: (a, sioD X.w.params t1 t2 t3 t4 t5 t6 buf p e) :: rest, g, n, 820, T⟩ := by
  refine go_enter rfl ?_
  run_tac Drv.drive [543, 381, 63] Drv.m1
  refine go_str ⟨#[]⟩ (by decide +kernel) ?_
  refine go_drop ((b, sio (a)) :: (a, sioD X.w.params t1 t2 t3 t4 t5 t6 buf _ e) :: rest) (by repeat (first | exact List.Sublist.refl _ | apply List.Sublist.cons_cons | apply List.Sublist.cons)) ?_
  intro n' T' hT
  exact h n' T' _ (by run_tac Drv.tom)
end
section
open PySem PySem.W PySem.W.X PyProof.Rows
noncomputable def wc : Str := ⟨#[97, 98, 99, 100, 102, 101, 103, 104, 105, 106, 107, 108, 109, 110, 111, 112, 113, 114, 115, 116, 117, 118, 119, 120, 121, 122, 65, 66, 67, 68, 69, 70, 71, 72, 73, 74, 75, 76, 77, 78, 79, 80, 81, 82, 83, 84, 85, 86, 87, 88, 89, 90, 48, 49, 50, 51, 52, 53, 54, 55, 56, 57, 95, 223, 224, 225, 226, 227, 228, 229, 230, 231, 232, 233, 234, 235, 236, 237, 238, 239, 240, 241, 242, 243, 244, 245, 246, 248, 249, 250, 251, 252, 253, 254, 255, 192, 193, 194, 195, 196, 197, 198, 199, 200, 201, 202, 203, 204, 205, 206, 207, 208, 209, 210, 211, 212, 213, 214, 216, 217, 218, 219, 220, 221, 222]⟩
noncomputable def lexO (d : Addr) : Obj := ⟨.ref 732, some d, .plain, #[]⟩
noncomputable def dqO : Obj := ⟨.type "collections.deque", none, .fields #[.none, .int 0 0], #[]⟩
noncomputable def lexD (P : Params) (tk : Nat → Nat) (si pb fs : Addr) (sv tv : Value) : Obj := ⟨.type "dict", none, .dict #[ent P ⟨#[105, 110, 115, 116, 114, 101, 97, 109]⟩ (tk 0) (.ref si),
  ent P ⟨#[105, 110, 102, 105, 108, 101]⟩ (tk 2) .none,
  ent P ⟨#[112, 111, 115, 105, 120]⟩ (tk 4) (.bool true),
  ent P ⟨#[101, 111, 102]⟩ (tk 6) .none,
  ent P ⟨#[99, 111, 109, 109, 101, 110, 116, 101, 114, 115]⟩ (tk 8) (.str ⟨#[]⟩ (tk 9)),
  ent P ⟨#[119, 111, 114, 100, 99, 104, 97, 114, 115]⟩ (tk 10) (.str wc (tk 11)),
  ent P ⟨#[119, 104, 105, 116, 101, 115, 112, 97, 99, 101]⟩ (tk 12) (.str ⟨#[32, 9, 13, 10]⟩ (tk 13)),
  ent P ⟨#[119, 104, 105, 116, 101, 115, 112, 97, 99, 101, 95, 115, 112, 108, 105, 116]⟩ (tk 14) (.bool true),
  ent P ⟨#[113, 117, 111, 116, 101, 115]⟩ (tk 16) (.str ⟨#[39, 34]⟩ (tk 17)),
  ent P ⟨#[101, 115, 99, 97, 112, 101]⟩ (tk 18) (.str ⟨#[92]⟩ (tk 19)),
  ent P ⟨#[101, 115, 99, 97, 112, 101, 100, 113, 117, 111, 116, 101, 115]⟩ (tk 20) (.str ⟨#[34]⟩ (tk 21)),
  ent P ⟨#[115, 116, 97, 116, 101]⟩ (tk 22) sv,
  ent P ⟨#[112, 117, 115, 104, 98, 97, 99, 107]⟩ (tk 24) (.ref pb),
  ent P ⟨#[108, 105, 110, 101, 110, 111]⟩ (tk 26) (.int 1 (tk 27)),
  ent P ⟨#[100, 101, 98, 117, 103]⟩ (tk 28) (.int 0 (tk 29)),
  ent P ⟨#[116, 111, 107, 101, 110]⟩ (tk 30) tv,
  ent P ⟨#[102, 105, 108, 101, 115, 116, 97, 99, 107]⟩ (tk 32) (.ref fs),
  ent P ⟨#[115, 111, 117, 114, 99, 101]⟩ (tk 34) .none,
  ent P ⟨#[95, 112, 117, 110, 99, 116, 117, 97, 116, 105, 111, 110, 95, 99, 104, 97, 114, 115]⟩ (tk 36) (.str ⟨#[]⟩ (tk 37))] 19, #[]⟩
/- read_token's frame, before and after its first turn -/
noncomputable def rtF0 (P : Params) (tk : Nat → Nat) (x : Addr) (q : Bool) : Obj := ⟨.type "frame", none, .dict #[ent P ⟨#[115, 101, 108, 102]⟩ (tk 0) (.ref x), ent P ⟨#[113, 117, 111, 116, 101, 100]⟩ (tk 1) (.bool q), ent P ⟨#[101, 115, 99, 97, 112, 101, 100, 115, 116, 97, 116, 101]⟩ (tk 2) (.str ⟨#[32]⟩ (tk 3))] 3, #[]⟩
noncomputable def rtF (P : Params) (tk : Nat → Nat) (x : Addr) (q : Bool) (nc : Value) : Obj := ⟨.type "frame", none, .dict #[ent P ⟨#[115, 101, 108, 102]⟩ (tk 0) (.ref x), ent P ⟨#[113, 117, 111, 116, 101, 100]⟩ (tk 1) (.bool q), ent P ⟨#[101, 115, 99, 97, 112, 101, 100, 115, 116, 97, 116, 101]⟩ (tk 2) (.str ⟨#[32]⟩ (tk 3)), ent P ⟨#[110, 101, 120, 116, 99, 104, 97, 114]⟩ (tk 4) nc] 4, #[]⟩
noncomputable def rtLoop (L : Addr) : Code := match (bodyOf fd700).drop 2 with
  | Stmt.While t b e _ :: _ => .whileLoop t b e (fEnv fd700 700 L)
  | _ => default
theorem perm_pick {α : Type} : ∀ {l : List α} {i : Nat} {p : α}, l[i]? = some p → ∃ r, l.Perm (p :: r)
  | [], _, _, h => by simp at h
  | a :: l, 0, p, h => by simp at h; subst h; exact ⟨l, .refl _⟩
  | a :: l, i + 1, p, h => by
    simp at h
    obtain ⟨r, hr⟩ := perm_pick h
    exact ⟨a :: r, (hr.cons a).trans (.swap p a r)⟩
theorem perm_two {α : Type} : ∀ {l : List α} {i j : Nat} {p q : α}, i ≠ j → l[i]? = some p → l[j]? = some q → ∃ r, l.Perm (p :: q :: r) ∧ ∀ q', (l.set j q').Perm (p :: q' :: r)
  | [], _, _, _, _, _, h, _ => by simp at h
  | a :: l, 0, 0, p, q, hn, h1, h2 => absurd rfl hn
  | a :: l, 0, j + 1, p, q, hn, h1, h2 => by
    simp at h1 h2
    subst h1
    have : ∀ {l : List α} {j : Nat}, l[j]? = some q → ∃ r, l.Perm (q :: r) ∧ ∀ q', (l.set j q').Perm (q' :: r) := by
      intro l
      induction l with
      | nil => intro j h; simp at h
      | cons b l ih =>
        intro j h
        cases j with
        | zero => simp at h; subst h; exact ⟨l, .refl _, fun _ => .refl _⟩
        | succ j =>
          simp at h
          obtain ⟨r, h1, h2⟩ := ih h
          exact ⟨b :: r, (h1.cons b).trans (.swap q b r), fun q' => ((h2 q').cons b).trans (.swap q' b r)⟩
    obtain ⟨r, e1, e2⟩ := this h2
    exact ⟨r, e1.cons a, fun q' => (e2 q').cons a⟩
  | a :: l, i + 1, 0, p, q, hn, h1, h2 => by
    simp at h1 h2
    subst h2
    obtain ⟨r, e⟩ := perm_pick h1
    exact ⟨r, (e.cons a).trans (.swap p a r), fun q' => (e.cons q').trans (.swap p q' r)⟩
  | a :: l, i + 1, j + 1, p, q, hn, h1, h2 => by
    simp at h1 h2
    obtain ⟨r, e1, e2⟩ := perm_two (fun z => hn (by rw [z])) h1 h2
    refine ⟨a :: r, (e1.cons a).trans ?_, fun q' => ((e2 q').cons a).trans ?_⟩
    · exact (List.Perm.swap p a (q :: r)).trans ((List.Perm.swap q a r).cons p)
    · exact (List.Perm.swap p a (q' :: r)).trans ((List.Perm.swap q' a r).cons p)
/- StringIO.read(1) wherever the stream lies in the ledger -/
theorem maxmin (a b : Nat) : max (0 : Int) (min (a : Int) (b : Int)) = ((min a b : Nat) : Int) := by
  rcases Nat.le_total a b with h | h
  · rw [Nat.min_eq_left h, Int.min_eq_left (Int.ofNat_le.mpr h), Int.max_eq_right (Int.natCast_nonneg a)]
  · rw [Nat.min_eq_right h, Int.min_eq_right (Int.ofNat_le.mpr h), Int.max_eq_right (Int.natCast_nonneg b)]
theorem read_char' (i j : Nat) (X : Env0) (B : BaseF X.w.params X.h₀) (hA : X.A.handled = none) (κ : Kt) (R : Room X κ 900 6000) (k : Result → Sem Fin) (gd : Bool) (lv : List Value) (n c₀ T a b t1 t2 t3 t4 t5 t6 tk e : Nat) (buf : Str) (p c : Nat) (l : List (Addr × Obj)) (g : Array Value)
    (hij : i ≠ j) (hi : l[i]? = some (b, sio a)) (hj : l[j]? = some (a, sioD X.w.params t1 t2 t3 t4 t5 t6 buf p e)) (hc : buf.cps[p]? = some c) (hb : buf.length < 1000)
    (h : ∀ n' T' t6' tk', T ≤ T' → Go X ⟨κ, k (.ok (.ret (.str ⟨#[c]⟩ tk'))), l.set j (a, sioD X.w.params t1 t2 t3 t4 t5 t6' buf ((p + 1 : Nat) : Int) e), g, n', 820, T'⟩) :
    Go X ⟨κ, .call (.call (.ref 543) ⟨[.ref b, .int 1 tk], []⟩) none gd lv k, l, g, n, c₀, T⟩ := by
  obtain ⟨r, e1, e2⟩ := perm_two hij hi hj
  refine go_perm _ e1.symm (go_drop _ (List.Sublist.refl _) fun n' T' hT => ?_)
  exact read_char X B hA κ R k gd lv n' T' a b t1 t2 t3 t4 t5 t6 tk e buf p c r g hc hb fun n' T' t6' tk' hT' => go_perm _ (e2 _) (h n' T' t6' tk' (by run_tac Drv.tom))
theorem read_eof' (i j : Nat) (X : Env0) (B : BaseF X.w.params X.h₀) (hA : X.A.handled = none) (κ : Kt) (R : Room X κ 900 6000) (k : Result → Sem Fin) (gd : Bool) (lv : List Value) (n c₀ T a b t1 t2 t3 t4 t5 t6 tk e : Nat) (buf : Str) (p : Nat) (l : List (Addr × Obj)) (g : Array Value)
    (hij : i ≠ j) (hi : l[i]? = some (b, sio a)) (hj : l[j]? = some (a, sioD X.w.params t1 t2 t3 t4 t5 t6 buf p e)) (hc : p = buf.length) (hb : buf.length < 1000)
    (h : ∀ n' T' tk', T ≤ T' → Go X ⟨κ, k (.ok (.ret (.str ⟨#[]⟩ tk'))), l, g, n', 820, T'⟩) :
    Go X ⟨κ, .call (.call (.ref 543) ⟨[.ref b, .int 1 tk], []⟩) none gd lv k, l, g, n, c₀, T⟩ := by
  obtain ⟨r, e1, e2⟩ := perm_two hij hi hj
  refine go_perm _ e1.symm (go_drop _ (List.Sublist.refl _) fun n' T' hT => ?_)
  exact read_eof X B hA κ R k gd lv n' T' a b t1 t2 t3 t4 t5 t6 tk e buf p r g hc hb fun n' T' tk' hT' => go_perm _ e1 (h n' T' tk' (by run_tac Drv.tom))
end
section
open PySem PySem.W PySem.W.X PyProof.Rows
noncomputable def upd (f : Nat → Nat) (i v : Nat) : Nat → Nat := fun j => bif Nat.beq j i then v else f j
noncomputable def sS (c t : Nat) : Value := .str ⟨#[c]⟩ t
theorem no_size {tok r : Str} (h : tok.length < 1000) (hr : r.length = 1) : ¬ (sizeLine < (tok ++ r).length) := by
  show ¬ (16777216 < (tok.cps ++ r.cps).size)
  have h1 : tok.cps.size < 1000 := h
  have h2 : r.cps.size = 1 := hr
  rw [Array.size_append]
  (run_tac Drv.lomega)
theorem no_sizeQ {tok r : Str} (h : tok.length < 1000) (hr : r.length = 1) : ¬ (sizeLine < (@HAppend.hAppend Str Str Str (@instHAppendOfAppend Str Fast.tw178013285451222756) tok r).length) := by
  rw [← Fast.te178013285451222756]; exact no_size h hr
theorem nil_app {tok r : Str} (h : tok.length = 0) : tok ++ r = r := by
  obtain ⟨⟨l⟩⟩ := tok
  cases l with
  | nil => show (⟨#[] ++ r.cps⟩ : Str) = r; simp
  | cons => cases h
theorem n7 {c : Nat} (h : c = 97 ∨ c = 98 ∨ c = 44 ∨ c = 40 ∨ c = 41 ∨ c = 39 ∨ c = 32) : ¬ c = 10 := by rcases h with rfl | rfl | rfl | rfl | rfl | rfl | rfl <;> decide
theorem n8 {c : Nat} (h : c = 97 ∨ c = 98 ∨ c = 44 ∨ c = 40 ∨ c = 41 ∨ c = 92 ∨ c = 39 ∨ c = 32) : ¬ c = 10 := by rcases h with rfl | rfl | rfl | rfl | rfl | rfl | rfl | rfl <;> decide
theorem n5 {c : Nat} (h : c = 97 ∨ c = 98 ∨ c = 44 ∨ c = 40 ∨ c = 39) : ¬ c = 10 ∧ ¬ 32 = c ∧ ¬ 9 = c ∧ ¬ 13 = c ∧ ¬ 10 = c := by rcases h with rfl | rfl | rfl | rfl | rfl <;> decide
section
variable (X : Env0) (B : BaseF X.w.params X.h₀) (hA : X.A.handled = none) (κ : Kt) (R : Room X κ 800 5000) (k : Result → Sem Fin) (n T x y a b L t1 t2 t3 t4 t5 t6 e pb fs ts tt: Nat) (tk tl : Nat → Nat) (q : Bool) (nc : Value) (tok buf : Str) (p : Nat) (rest : List (Addr × Obj)) (g : Array Value)
include B hA R
theorem turn_a (c : Nat) (hcs : c = 97 ∨ c = 98 ∨ c = 44 ∨ c = 40 ∨ c = 41 ∨ c = 39 ∨ c = 32) (hc : buf.cps[p]? = some c) (hb : buf.length < 1000) (hts : ts < T) (hl : tok.length < 1000) (htq : tok.length = 0 → q = true)
    (hw : c ≠ 39 → c ≠ 32 → ∀ n' T' t6' tt' nc', T ≤ T' → Go X ⟨.ret (rtLoop L) none k κ, denQ (rtLoop L), (L, (rtF X.w.params tl x q nc')) :: (x, lexO y) :: (y, lexD X.w.params tk b pb fs (sS 97 ts) (.str (tok ++ ⟨#[c]⟩) tt')) :: (b, sio a) :: (a, sioD X.w.params t1 t2 t3 t4 t5 t6' buf ((p + 1 : Nat) : Int) e) :: rest, g, n', 820, T'⟩)
    (hq : c = 39 → ∀ n' T' t6' ts' nc', T ≤ T' → Go X ⟨.ret (rtLoop L) none k κ, denQ (rtLoop L), (L, (rtF X.w.params tl x q nc')) :: (x, lexO y) :: (y, lexD X.w.params tk b pb fs (sS 39 ts') (.str tok tt)) :: (b, sio a) :: (a, sioD X.w.params t1 t2 t3 t4 t5 t6' buf ((p + 1 : Nat) : Int) e) :: rest, g, n', 820, T'⟩)
    (hs : c = 32 → ∀ n' T' t6' ts' nc', T ≤ T' → Go X ⟨κ, k (.ok .next), (L, (rtF X.w.params tl x q nc')) :: (x, lexO y) :: (y, lexD X.w.params tk b pb fs (sS 32 ts') (.str tok tt)) :: (b, sio a) :: (a, sioD X.w.params t1 t2 t3 t4 t5 t6' buf ((p + 1 : Nat) : Int) e) :: rest, g, n', 820, T'⟩) :
    Go X ⟨.ret (rtLoop L) none k κ, denQ (rtLoop L), (L, (rtF X.w.params tl x q nc)) :: (x, lexO y) :: (y, lexD X.w.params tk b pb fs (sS 97 ts) (.str tok tt)) :: (b, sio a) :: (a, sioD X.w.params t1 t2 t3 t4 t5 t6 buf p e) :: rest, g, n, 820, T⟩ := by
  have h10 := n7 hcs
  run_tac Drv.drive [663] Drv.m2
  refine read_char' 4 5 X B hA _ (by exact R.ret.le rfl rfl) _ _ _ _ _ _ _ _ _ _ _ _ _ _ _ _ _ _ _ _ _ (by decide) rfl rfl hc hb ?_
  intro n' T' t6' tk' hT'
  run_tac Drv.drive [663] Drv.m2
  rcases hcs with rfl | rfl | rfl | rfl | rfl | rfl | rfl
  · run_tac Drv.drive [663] Drv.m2
    by_cases h0 : tok.length = 0
    · run_tac Drv.drive [663] Drv.m2
      refine go_again rfl ?_
      refine go_drop ((L, (rtF X.w.params tl x q _)) :: (x, lexO y) :: (y, lexD X.w.params tk b pb fs (sS 97 ts) (.str ⟨#[97]⟩ _)) :: (b, sio a) :: (a, sioD X.w.params t1 t2 t3 t4 t5 _ buf ((p + 1 : Nat) : Int) e) :: rest) (by repeat (first | exact List.Sublist.refl _ | apply List.Sublist.cons_cons | apply List.Sublist.cons)) ?_
      intro n2 T2 hT2
      rw [nil_app h0] at hw
      exact hw (by decide) (by decide) n2 T2 _ _ _ (by run_tac Drv.tom)
    · run_tac Drv.drive [663] Drv.m2
      refine go_again rfl ?_
      rw [← Fast.te178013285451222756]
      refine go_drop ((L, (rtF X.w.params tl x q _)) :: (x, lexO y) :: (y, lexD X.w.params tk b pb fs (sS 97 ts) (.str (tok ++ ⟨#[97]⟩) _)) :: (b, sio a) :: (a, sioD X.w.params t1 t2 t3 t4 t5 _ buf ((p + 1 : Nat) : Int) e) :: rest) (by repeat (first | exact List.Sublist.refl _ | apply List.Sublist.cons_cons | apply List.Sublist.cons)) ?_
      intro n2 T2 hT2
      exact hw (by decide) (by decide) n2 T2 _ _ _ (by run_tac Drv.tom)
  · run_tac Drv.drive [663] Drv.m2
    by_cases h0 : tok.length = 0
    · run_tac Drv.drive [663] Drv.m2
      refine go_again rfl ?_
      refine go_drop ((L, (rtF X.w.params tl x q _)) :: (x, lexO y) :: (y, lexD X.w.params tk b pb fs (sS 97 ts) (.str ⟨#[98]⟩ _)) :: (b, sio a) :: (a, sioD X.w.params t1 t2 t3 t4 t5 _ buf ((p + 1 : Nat) : Int) e) :: rest) (by repeat (first | exact List.Sublist.refl _ | apply List.Sublist.cons_cons | apply List.Sublist.cons)) ?_
      intro n2 T2 hT2
      rw [nil_app h0] at hw
      exact hw (by decide) (by decide) n2 T2 _ _ _ (by run_tac Drv.tom)
    · run_tac Drv.drive [663] Drv.m2
      refine go_again rfl ?_
      rw [← Fast.te178013285451222756]
      refine go_drop ((L, (rtF X.w.params tl x q _)) :: (x, lexO y) :: (y, lexD X.w.params tk b pb fs (sS 97 ts) (.str (tok ++ ⟨#[98]⟩) _)) :: (b, sio a) :: (a, sioD X.w.params t1 t2 t3 t4 t5 _ buf ((p + 1 : Nat) : Int) e) :: rest) (by repeat (first | exact List.Sublist.refl _ | apply List.Sublist.cons_cons | apply List.Sublist.cons)) ?_
      intro n2 T2 hT2
      exact hw (by decide) (by decide) n2 T2 _ _ _ (by run_tac Drv.tom)
  · run_tac Drv.drive [663] Drv.m2
    by_cases h0 : tok.length = 0
    · run_tac Drv.drive [663] Drv.m2
      refine go_again rfl ?_
      refine go_drop ((L, (rtF X.w.params tl x q _)) :: (x, lexO y) :: (y, lexD X.w.params tk b pb fs (sS 97 ts) (.str ⟨#[44]⟩ _)) :: (b, sio a) :: (a, sioD X.w.params t1 t2 t3 t4 t5 _ buf ((p + 1 : Nat) : Int) e) :: rest) (by repeat (first | exact List.Sublist.refl _ | apply List.Sublist.cons_cons | apply List.Sublist.cons)) ?_
      intro n2 T2 hT2
      rw [nil_app h0] at hw
      exact hw (by decide) (by decide) n2 T2 _ _ _ (by run_tac Drv.tom)
    · run_tac Drv.drive [663] Drv.m2
      refine go_again rfl ?_
      rw [← Fast.te178013285451222756]
      refine go_drop ((L, (rtF X.w.params tl x q _)) :: (x, lexO y) :: (y, lexD X.w.params tk b pb fs (sS 97 ts) (.str (tok ++ ⟨#[44]⟩) _)) :: (b, sio a) :: (a, sioD X.w.params t1 t2 t3 t4 t5 _ buf ((p + 1 : Nat) : Int) e) :: rest) (by repeat (first | exact List.Sublist.refl _ | apply List.Sublist.cons_cons | apply List.Sublist.cons)) ?_
      intro n2 T2 hT2
      exact hw (by decide) (by decide) n2 T2 _ _ _ (by run_tac Drv.tom)
  · run_tac Drv.drive [663] Drv.m2
    by_cases h0 : tok.length = 0
    · run_tac Drv.drive [663] Drv.m2
      refine go_again rfl ?_
      refine go_drop ((L, (rtF X.w.params tl x q _)) :: (x, lexO y) :: (y, lexD X.w.params tk b pb fs (sS 97 ts) (.str ⟨#[40]⟩ _)) :: (b, sio a) :: (a, sioD X.w.params t1 t2 t3 t4 t5 _ buf ((p + 1 : Nat) : Int) e) :: rest) (by repeat (first | exact List.Sublist.refl _ | apply List.Sublist.cons_cons | apply List.Sublist.cons)) ?_
      intro n2 T2 hT2
      rw [nil_app h0] at hw
      exact hw (by decide) (by decide) n2 T2 _ _ _ (by run_tac Drv.tom)
    · run_tac Drv.drive [663] Drv.m2
      refine go_again rfl ?_
      rw [← Fast.te178013285451222756]
      refine go_drop ((L, (rtF X.w.params tl x q _)) :: (x, lexO y) :: (y, lexD X.w.params tk b pb fs (sS 97 ts) (.str (tok ++ ⟨#[40]⟩) _)) :: (b, sio a) :: (a, sioD X.w.params t1 t2 t3 t4 t5 _ buf ((p + 1 : Nat) : Int) e) :: rest) (by repeat (first | exact List.Sublist.refl _ | apply List.Sublist.cons_cons | apply List.Sublist.cons)) ?_
      intro n2 T2 hT2
      exact hw (by decide) (by decide) n2 T2 _ _ _ (by run_tac Drv.tom)
  · run_tac Drv.drive [663] Drv.m2
    by_cases h0 : tok.length = 0
    · run_tac Drv.drive [663] Drv.m2
      refine go_again rfl ?_
      refine go_drop ((L, (rtF X.w.params tl x q _)) :: (x, lexO y) :: (y, lexD X.w.params tk b pb fs (sS 97 ts) (.str ⟨#[41]⟩ _)) :: (b, sio a) :: (a, sioD X.w.params t1 t2 t3 t4 t5 _ buf ((p + 1 : Nat) : Int) e) :: rest) (by repeat (first | exact List.Sublist.refl _ | apply List.Sublist.cons_cons | apply List.Sublist.cons)) ?_
      intro n2 T2 hT2
      rw [nil_app h0] at hw
      exact hw (by decide) (by decide) n2 T2 _ _ _ (by run_tac Drv.tom)
    · run_tac Drv.drive [663] Drv.m2
      refine go_again rfl ?_
      rw [← Fast.te178013285451222756]
      refine go_drop ((L, (rtF X.w.params tl x q _)) :: (x, lexO y) :: (y, lexD X.w.params tk b pb fs (sS 97 ts) (.str (tok ++ ⟨#[41]⟩) _)) :: (b, sio a) :: (a, sioD X.w.params t1 t2 t3 t4 t5 _ buf ((p + 1 : Nat) : Int) e) :: rest) (by repeat (first | exact List.Sublist.refl _ | apply List.Sublist.cons_cons | apply List.Sublist.cons)) ?_
      intro n2 T2 hT2
      exact hw (by decide) (by decide) n2 T2 _ _ _ (by run_tac Drv.tom)
  · run_tac Drv.drive [663] Drv.m2
    refine go_again rfl ?_
    refine go_drop ((L, (rtF X.w.params tl x q _)) :: (x, lexO y) :: (y, lexD X.w.params tk b pb fs (sS 39 _) (.str tok tt)) :: (b, sio a) :: (a, sioD X.w.params t1 t2 t3 t4 t5 _ buf ((p + 1 : Nat) : Int) e) :: rest) (by repeat (first | exact List.Sublist.refl _ | apply List.Sublist.cons_cons | apply List.Sublist.cons)) ?_
    intro n2 T2 hT2
    exact hq rfl n2 T2 _ _ _ (by run_tac Drv.tom)
  · run_tac Drv.drive [663] Drv.m2
    by_cases h0 : tok.length = 0
    · have hq' := htq h0
      subst hq'
      run_tac Drv.drive [663] Drv.m2
      refine go_drop ((L, (rtF X.w.params tl x true _)) :: (x, lexO y) :: (y, lexD X.w.params tk b pb fs (sS 32 _) (.str tok tt)) :: (b, sio a) :: (a, sioD X.w.params t1 t2 t3 t4 t5 _ buf ((p + 1 : Nat) : Int) e) :: rest) (by repeat (first | exact List.Sublist.refl _ | apply List.Sublist.cons_cons | apply List.Sublist.cons)) ?_
      intro n2 T2 hT2
      exact hs rfl n2 T2 _ _ _ (by run_tac Drv.tom)
    · run_tac Drv.drive [663] Drv.m2
      refine go_drop ((L, (rtF X.w.params tl x q _)) :: (x, lexO y) :: (y, lexD X.w.params tk b pb fs (sS 32 _) (.str tok tt)) :: (b, sio a) :: (a, sioD X.w.params t1 t2 t3 t4 t5 _ buf ((p + 1 : Nat) : Int) e) :: rest) (by repeat (first | exact List.Sublist.refl _ | apply List.Sublist.cons_cons | apply List.Sublist.cons)) ?_
      intro n2 T2 hT2
      exact hs rfl n2 T2 _ _ _ (by run_tac Drv.tom)
theorem turn_q (c : Nat) (hcs : c = 97 ∨ c = 98 ∨ c = 44 ∨ c = 40 ∨ c = 41 ∨ c = 92 ∨ c = 39 ∨ c = 32) (hc : buf.cps[p]? = some c) (hb : buf.length < 1000) (hl : tok.length < 1000)
    (hw : c ≠ 39 → ∀ n' T' t6' tt' nc', T ≤ T' → Go X ⟨.ret (rtLoop L) none k κ, denQ (rtLoop L), (L, (rtF X.w.params tl x true nc')) :: (x, lexO y) :: (y, lexD X.w.params tk b pb fs (sS 39 ts) (.str (tok ++ ⟨#[c]⟩) tt')) :: (b, sio a) :: (a, sioD X.w.params t1 t2 t3 t4 t5 t6' buf ((p + 1 : Nat) : Int) e) :: rest, g, n', 820, T'⟩)
    (hq : c = 39 → ∀ n' T' t6' ts' nc', T ≤ T' → ts' < T' → Go X ⟨.ret (rtLoop L) none k κ, denQ (rtLoop L), (L, (rtF X.w.params tl x true nc')) :: (x, lexO y) :: (y, lexD X.w.params tk b pb fs (sS 97 ts') (.str tok tt)) :: (b, sio a) :: (a, sioD X.w.params t1 t2 t3 t4 t5 t6' buf ((p + 1 : Nat) : Int) e) :: rest, g, n', 820, T'⟩) :
    Go X ⟨.ret (rtLoop L) none k κ, denQ (rtLoop L), (L, (rtF X.w.params tl x q nc)) :: (x, lexO y) :: (y, lexD X.w.params tk b pb fs (sS 39 ts) (.str tok tt)) :: (b, sio a) :: (a, sioD X.w.params t1 t2 t3 t4 t5 t6 buf p e) :: rest, g, n, 820, T⟩ := by
  have h10 := n8 hcs
  run_tac Drv.drive [663] Drv.m2
  refine read_char' 4 5 X B hA _ (by exact R.ret.le rfl rfl) _ _ _ _ _ _ _ _ _ _ _ _ _ _ _ _ _ _ _ _ _ (by decide) rfl rfl hc hb ?_
  intro n' T' t6' tk' hT'
  run_tac Drv.drive [663] Drv.m2
  by_cases h39 : c = 39
  · run_tac Drv.drive [663] Drv.m2
    refine go_again rfl ?_
    refine go_drop ((L, (rtF X.w.params tl x true _)) :: (x, lexO y) :: (y, lexD X.w.params tk b pb fs (sS 97 _) (.str tok tt)) :: (b, sio a) :: (a, sioD X.w.params t1 t2 t3 t4 t5 _ buf ((p + 1 : Nat) : Int) e) :: rest) (by repeat (first | exact List.Sublist.refl _ | apply List.Sublist.cons_cons | apply List.Sublist.cons)) ?_
    intro n2 T2 hT2
    exact hq h39 n2 T2 _ _ _ (by run_tac Drv.tom) (by run_tac Drv.tom)
  · run_tac Drv.drive [663] Drv.m2
    by_cases h92 : c = 92
    · run_tac Drv.drive [663] Drv.m2
      by_cases h0 : tok.length = 0
      · run_tac Drv.drive [663] Drv.m2
        refine go_again rfl ?_
        refine go_drop ((L, (rtF X.w.params tl x true _)) :: (x, lexO y) :: (y, lexD X.w.params tk b pb fs (sS 39 ts) (.str ⟨#[c]⟩ _)) :: (b, sio a) :: (a, sioD X.w.params t1 t2 t3 t4 t5 _ buf ((p + 1 : Nat) : Int) e) :: rest) (by repeat (first | exact List.Sublist.refl _ | apply List.Sublist.cons_cons | apply List.Sublist.cons)) ?_
        intro n2 T2 hT2
        rw [nil_app h0] at hw
        exact hw h39 n2 T2 _ _ _ (by run_tac Drv.tom)
      · run_tac Drv.drive [663] Drv.m2
        refine go_again rfl ?_
        rw [← Fast.te178013285451222756]
        refine go_drop ((L, (rtF X.w.params tl x true _)) :: (x, lexO y) :: (y, lexD X.w.params tk b pb fs (sS 39 ts) (.str (tok ++ ⟨#[c]⟩) _)) :: (b, sio a) :: (a, sioD X.w.params t1 t2 t3 t4 t5 _ buf ((p + 1 : Nat) : Int) e) :: rest) (by repeat (first | exact List.Sublist.refl _ | apply List.Sublist.cons_cons | apply List.Sublist.cons)) ?_
        intro n2 T2 hT2
        exact hw h39 n2 T2 _ _ _ (by run_tac Drv.tom)
    · run_tac Drv.drive [663] Drv.m2
      by_cases h0 : tok.length = 0
      · run_tac Drv.drive [663] Drv.m2
        refine go_again rfl ?_
        refine go_drop ((L, (rtF X.w.params tl x true _)) :: (x, lexO y) :: (y, lexD X.w.params tk b pb fs (sS 39 ts) (.str ⟨#[c]⟩ _)) :: (b, sio a) :: (a, sioD X.w.params t1 t2 t3 t4 t5 _ buf ((p + 1 : Nat) : Int) e) :: rest) (by repeat (first | exact List.Sublist.refl _ | apply List.Sublist.cons_cons | apply List.Sublist.cons)) ?_
        intro n2 T2 hT2
        rw [nil_app h0] at hw
        exact hw h39 n2 T2 _ _ _ (by run_tac Drv.tom)
      · run_tac Drv.drive [663] Drv.m2
        refine go_again rfl ?_
        rw [← Fast.te178013285451222756]
        refine go_drop ((L, (rtF X.w.params tl x true _)) :: (x, lexO y) :: (y, lexD X.w.params tk b pb fs (sS 39 ts) (.str (tok ++ ⟨#[c]⟩) _)) :: (b, sio a) :: (a, sioD X.w.params t1 t2 t3 t4 t5 _ buf ((p + 1 : Nat) : Int) e) :: rest) (by repeat (first | exact List.Sublist.refl _ | apply List.Sublist.cons_cons | apply List.Sublist.cons)) ?_
        intro n2 T2 hT2
        exact hw h39 n2 T2 _ _ _ (by run_tac Drv.tom)
theorem turn_a_eof (hc : p = buf.length) (hb : buf.length < 1000) (hts : ts < T)
    (h : ∀ n' T' nc', T ≤ T' → Go X ⟨κ, k (.ok .next), (L, (rtF X.w.params tl x q nc')) :: (x, lexO y) :: (y, lexD X.w.params tk b pb fs .none (.str tok tt)) :: (b, sio a) :: (a, sioD X.w.params t1 t2 t3 t4 t5 t6 buf p e) :: rest, g, n', 820, T'⟩) :
    Go X ⟨.ret (rtLoop L) none k κ, denQ (rtLoop L), (L, (rtF X.w.params tl x q nc)) :: (x, lexO y) :: (y, lexD X.w.params tk b pb fs (sS 97 ts) (.str tok tt)) :: (b, sio a) :: (a, sioD X.w.params t1 t2 t3 t4 t5 t6 buf p e) :: rest, g, n, 820, T⟩ := by
  run_tac Drv.drive [663] Drv.m2
  refine read_eof' 4 5 X B hA _ (by exact R.ret.le rfl rfl) _ _ _ _ _ _ _ _ _ _ _ _ _ _ _ _ _ _ _ _ (by decide) rfl rfl hc hb ?_
  intro n' T' tk' hT'
  run_tac Drv.drive [663] Drv.m2
  refine go_drop ((L, (rtF X.w.params tl x q _)) :: (x, lexO y) :: (y, lexD X.w.params tk b pb fs .none (.str tok tt)) :: (b, sio a) :: (a, sioD X.w.params t1 t2 t3 t4 t5 t6 buf p e) :: rest) (by repeat (first | exact List.Sublist.refl _ | apply List.Sublist.cons_cons | apply List.Sublist.cons)) ?_
  intro n2 T2 hT2
  exact h n2 T2 _ (by run_tac Drv.tom)
theorem turn_n_eof (hc : p = buf.length) (hb : buf.length < 1000)
    (h : ∀ n' T' tt' tl' nc', T ≤ T' → Go X ⟨κ, k (.ok .next), (L, (rtF X.w.params tl' x q nc')) :: (x, lexO y) :: (y, lexD X.w.params tk b pb fs .none (.str ⟨#[]⟩ tt')) :: (b, sio a) :: (a, sioD X.w.params t1 t2 t3 t4 t5 t6 buf p e) :: rest, g, n', 820, T'⟩) :
    Go X ⟨.ret (rtLoop L) none k κ, denQ (rtLoop L), (L, (rtF0 X.w.params tl x q)) :: (x, lexO y) :: (y, lexD X.w.params tk b pb fs .none (.str tok tt)) :: (b, sio a) :: (a, sioD X.w.params t1 t2 t3 t4 t5 t6 buf p e) :: rest, g, n, 820, T⟩ := by
  run_tac Drv.drive [663] Drv.m2
  refine read_eof' 4 5 X B hA _ (by exact R.ret.le rfl rfl) _ _ _ _ _ _ _ _ _ _ _ _ _ _ _ _ _ _ _ _ (by decide) rfl rfl hc hb ?_
  intro n' T' tk' hT'
  run_tac Drv.drive [663] Drv.m2
  refine go_drop ((L, (rtF X.w.params (upd tl 4 _) x q _)) :: (x, lexO y) :: (y, lexD X.w.params tk b pb fs .none (.str ⟨#[]⟩ _)) :: (b, sio a) :: (a, sioD X.w.params t1 t2 t3 t4 t5 t6 buf p e) :: rest) (by repeat (first | exact List.Sublist.refl _ | apply List.Sublist.cons_cons | apply List.Sublist.cons)) ?_
  intro n2 T2 hT2
  exact h n2 T2 _ _ _ (by run_tac Drv.tom)
theorem turn_s_eof (hc : p = buf.length) (hb : buf.length < 1000)
    (h : ∀ n' T' tl' nc', T ≤ T' → Go X ⟨κ, k (.ok .next), (L, (rtF X.w.params tl' x q nc')) :: (x, lexO y) :: (y, lexD X.w.params tk b pb fs .none (.str tok tt)) :: (b, sio a) :: (a, sioD X.w.params t1 t2 t3 t4 t5 t6 buf p e) :: rest, g, n', 820, T'⟩) :
    Go X ⟨.ret (rtLoop L) none k κ, denQ (rtLoop L), (L, (rtF0 X.w.params tl x q)) :: (x, lexO y) :: (y, lexD X.w.params tk b pb fs (sS 32 ts) (.str tok tt)) :: (b, sio a) :: (a, sioD X.w.params t1 t2 t3 t4 t5 t6 buf p e) :: rest, g, n, 820, T⟩ := by
  run_tac Drv.drive [663] Drv.m2
  refine read_eof' 4 5 X B hA _ (by exact R.ret.le rfl rfl) _ _ _ _ _ _ _ _ _ _ _ _ _ _ _ _ _ _ _ _ (by decide) rfl rfl hc hb ?_
  intro n' T' tk' hT'
  run_tac Drv.drive [663] Drv.m2
  refine go_drop ((L, (rtF X.w.params (upd tl 4 _) x q _)) :: (x, lexO y) :: (y, lexD X.w.params tk b pb fs .none (.str tok tt)) :: (b, sio a) :: (a, sioD X.w.params t1 t2 t3 t4 t5 t6 buf p e) :: rest) (by repeat (first | exact List.Sublist.refl _ | apply List.Sublist.cons_cons | apply List.Sublist.cons)) ?_
  intro n2 T2 hT2
  exact h n2 T2 _ _ (by run_tac Drv.tom)
theorem turn_s (c : Nat) (hcs : c = 97 ∨ c = 98 ∨ c = 44 ∨ c = 40 ∨ c = 39) (hc : buf.cps[p]? = some c) (hb : buf.length < 1000)
    (hw : c ≠ 39 → ∀ n' T' t6' tt' ts' tl' nc', T ≤ T' → ts' < T' → Go X ⟨.ret (rtLoop L) none k κ, denQ (rtLoop L), (L, (rtF X.w.params tl' x q nc')) :: (x, lexO y) :: (y, lexD X.w.params tk b pb fs (sS 97 ts') (.str ⟨#[c]⟩ tt')) :: (b, sio a) :: (a, sioD X.w.params t1 t2 t3 t4 t5 t6' buf ((p + 1 : Nat) : Int) e) :: rest, g, n', 820, T'⟩)
    (hq : c = 39 → ∀ n' T' t6' ts' tl' nc', T ≤ T' → Go X ⟨.ret (rtLoop L) none k κ, denQ (rtLoop L), (L, (rtF X.w.params tl' x q nc')) :: (x, lexO y) :: (y, lexD X.w.params tk b pb fs (sS 39 ts') (.str tok tt)) :: (b, sio a) :: (a, sioD X.w.params t1 t2 t3 t4 t5 t6' buf ((p + 1 : Nat) : Int) e) :: rest, g, n', 820, T'⟩) :
    Go X ⟨.ret (rtLoop L) none k κ, denQ (rtLoop L), (L, (rtF0 X.w.params tl x q)) :: (x, lexO y) :: (y, lexD X.w.params tk b pb fs (sS 32 ts) (.str tok tt)) :: (b, sio a) :: (a, sioD X.w.params t1 t2 t3 t4 t5 t6 buf p e) :: rest, g, n, 820, T⟩ := by
  obtain ⟨h10, h32, h9, h13, h10'⟩ := n5 hcs
  run_tac Drv.drive [663] Drv.m2
  refine read_char' 4 5 X B hA _ (by exact R.ret.le rfl rfl) _ _ _ _ _ _ _ _ _ _ _ _ _ _ _ _ _ _ _ _ _ (by decide) rfl rfl hc hb ?_
  intro n' T' t6' tk' hT'
  run_tac Drv.drive [663] Drv.m2
  rcases hcs with rfl | rfl | rfl | rfl | rfl
  · run_tac Drv.drive [663] Drv.m2
    refine go_again rfl ?_
    refine go_drop ((L, (rtF X.w.params (upd tl 4 _) x q _)) :: (x, lexO y) :: (y, lexD X.w.params tk b pb fs (sS 97 _) (.str ⟨#[97]⟩ _)) :: (b, sio a) :: (a, sioD X.w.params t1 t2 t3 t4 t5 _ buf ((p + 1 : Nat) : Int) e) :: rest) (by repeat (first | exact List.Sublist.refl _ | apply List.Sublist.cons_cons | apply List.Sublist.cons)) ?_
    intro n2 T2 hT2
    exact hw (by decide) n2 T2 _ _ _ _ _ (by run_tac Drv.tom) (by run_tac Drv.tom)
  · run_tac Drv.drive [663] Drv.m2
    refine go_again rfl ?_
    refine go_drop ((L, (rtF X.w.params (upd tl 4 _) x q _)) :: (x, lexO y) :: (y, lexD X.w.params tk b pb fs (sS 97 _) (.str ⟨#[98]⟩ _)) :: (b, sio a) :: (a, sioD X.w.params t1 t2 t3 t4 t5 _ buf ((p + 1 : Nat) : Int) e) :: rest) (by repeat (first | exact List.Sublist.refl _ | apply List.Sublist.cons_cons | apply List.Sublist.cons)) ?_
    intro n2 T2 hT2
    exact hw (by decide) n2 T2 _ _ _ _ _ (by run_tac Drv.tom) (by run_tac Drv.tom)
  · run_tac Drv.drive [663] Drv.m2
    refine go_again rfl ?_
    refine go_drop ((L, (rtF X.w.params (upd tl 4 _) x q _)) :: (x, lexO y) :: (y, lexD X.w.params tk b pb fs (sS 97 _) (.str ⟨#[44]⟩ _)) :: (b, sio a) :: (a, sioD X.w.params t1 t2 t3 t4 t5 _ buf ((p + 1 : Nat) : Int) e) :: rest) (by repeat (first | exact List.Sublist.refl _ | apply List.Sublist.cons_cons | apply List.Sublist.cons)) ?_
    intro n2 T2 hT2
    exact hw (by decide) n2 T2 _ _ _ _ _ (by run_tac Drv.tom) (by run_tac Drv.tom)
  · run_tac Drv.drive [663] Drv.m2
    refine go_again rfl ?_
    refine go_drop ((L, (rtF X.w.params (upd tl 4 _) x q _)) :: (x, lexO y) :: (y, lexD X.w.params tk b pb fs (sS 97 _) (.str ⟨#[40]⟩ _)) :: (b, sio a) :: (a, sioD X.w.params t1 t2 t3 t4 t5 _ buf ((p + 1 : Nat) : Int) e) :: rest) (by repeat (first | exact List.Sublist.refl _ | apply List.Sublist.cons_cons | apply List.Sublist.cons)) ?_
    intro n2 T2 hT2
    exact hw (by decide) n2 T2 _ _ _ _ _ (by run_tac Drv.tom) (by run_tac Drv.tom)
  · run_tac Drv.drive [663] Drv.m2
    refine go_again rfl ?_
    refine go_drop ((L, (rtF X.w.params (upd tl 4 _) x q _)) :: (x, lexO y) :: (y, lexD X.w.params tk b pb fs (sS 39 _) (.str tok tt)) :: (b, sio a) :: (a, sioD X.w.params t1 t2 t3 t4 t5 _ buf ((p + 1 : Nat) : Int) e) :: rest) (by repeat (first | exact List.Sublist.refl _ | apply List.Sublist.cons_cons | apply List.Sublist.cons)) ?_
    intro n2 T2 hT2
    exact hq rfl n2 T2 _ _ _ _ (by run_tac Drv.tom)
end
end
section
open PySem PySem.W PySem.W.X PyProof.Rows
theorem drop_get {bl : List Nat} {p c : Nat} {r : List Nat} (h : bl.drop p = c :: r) : (sL bl).cps[p]? = some c := by
  show bl.toArray[p]? = _
  rw [List.getElem?_toArray, ← Nat.add_zero p, ← List.getElem?_drop, h]; rfl
theorem drop_next {bl : List Nat} {p c : Nat} {r : List Nat} (h : bl.drop p = c :: r) : bl.drop (p + 1) = r := by
  rw [← List.drop_drop, h]; rfl
theorem drop_end {bl : List Nat} {p : Nat} (hp : p ≤ bl.length) (h : bl.drop p = []) : p = (sL bl).length := by
  rw [sL_len]
  have := List.drop_eq_nil_iff.mp h
  (run_tac Drv.lomega)
/- a piece of a line: a bare sign, or signs within apostrophes -/
inductive Sg where
  | b (c : Nat)
  | q (cs : List Nat)
noncomputable def Sg.r : Sg → List Nat
  | .b c => [c]
  | .q cs => 39 :: (cs ++ [39])
noncomputable def Sg.c : Sg → List Nat
  | .b c => [c]
  | .q cs => cs
noncomputable def Sg.isq : Sg → Bool
  | .b _ => false
  | .q _ => true
noncomputable def Qc (c : Nat) : Prop := c = 97 ∨ c = 98 ∨ c = 44 ∨ c = 40 ∨ c = 41 ∨ c = 92 ∨ c = 32
noncomputable def Sg.ok : Sg → Prop
  | .b c => c = 97 ∨ c = 98 ∨ c = 44 ∨ c = 40 ∨ c = 41
  | .q cs => ∀ c ∈ cs, Qc c
theorem qc_ne {c : Nat} (h : Qc c) : c ≠ 39 := by rcases h with rfl | rfl | rfl | rfl | rfl | rfl | rfl <;> decide
theorem qc_cs {c : Nat} (h : Qc c) : c = 97 ∨ c = 98 ∨ c = 44 ∨ c = 40 ∨ c = 41 ∨ c = 92 ∨ c = 39 ∨ c = 32 := by rcases h with rfl | rfl | rfl | rfl | rfl | rfl | rfl <;> decide
theorem b5_a {c : Nat} (h : c = 97 ∨ c = 98 ∨ c = 44 ∨ c = 40 ∨ c = 41) : c = 97 ∨ c = 98 ∨ c = 44 ∨ c = 40 ∨ c = 41 ∨ c = 39 ∨ c = 32 := by rcases h with rfl | rfl | rfl | rfl | rfl <;> decide
theorem b5_39 {c : Nat} (h : c = 97 ∨ c = 98 ∨ c = 44 ∨ c = 40 ∨ c = 41) : c ≠ 39 := by rcases h with rfl | rfl | rfl | rfl | rfl <;> decide
theorem b5_32 {c : Nat} (h : c = 97 ∨ c = 98 ∨ c = 44 ∨ c = 40 ∨ c = 41) : c ≠ 32 := by rcases h with rfl | rfl | rfl | rfl | rfl <;> decide
theorem b5_s {c : Nat} (h : c = 97 ∨ c = 98 ∨ c = 44 ∨ c = 40 ∨ c = 41) (h1 : c ≠ 41) : c = 97 ∨ c = 98 ∨ c = 44 ∨ c = 40 ∨ c = 39 := by
  rcases h with rfl | rfl | rfl | rfl | rfl
  · decide
  · decide
  · decide
  · decide
  · exact absurd rfl h1
noncomputable def rend (l : List Sg) : List Nat := l.flatMap Sg.r
noncomputable def cont (l : List Sg) : List Nat := l.flatMap Sg.c
noncomputable abbrev LD (P : Params) (L : Addr) (fr : Obj) (x y : Addr) (tk : Nat → Nat) (b pb fs : Addr) (sv tv : Value) (a : Addr) (t1 t2 t3 t4 t5 t6 : Nat) (buf : Str) (p : Int) (e : Nat) (rest : List (Addr × Obj)) : List (Addr × Obj) :=
  (L, fr) :: (x, lexO y) :: (y, lexD P tk b pb fs sv tv) :: (b, sio a) :: (a, sioD P t1 t2 t3 t4 t5 t6 buf p e) :: rest
section
variable (X : Env0) (B : BaseF X.w.params X.h₀) (hA : X.A.handled = none) (κ : Kt) (R : Room X κ 800 5000) (k : Result → Sem Fin) (x y a b L t1 t2 t3 t4 t5 e pb fs: Nat) (tk : Nat → Nat) (bl : List Nat) (hb : bl.length < 1000) (rest : List (Addr × Obj)) (g : Array Value)
include B hA R hb
theorem loop_q (r : List Nat) : ∀ (cs : List Nat) (hcs : ∀ c ∈ cs, Qc c) (n T t6 ts tt : Nat) (tl : Nat → Nat) (nc : Value) (q : Bool) (tok : List Nat) (p : Nat) (hp : bl.drop p = cs ++ 39 :: r) (hl : tok.length + cs.length < 1000)
    (h : ∀ n' T' t6' ts' tt' nc', T ≤ T' → ts' < T' → Go X ⟨.ret (rtLoop L) none k κ, denQ (rtLoop L), LD X.w.params L (rtF X.w.params tl x true nc') x y tk b pb fs (sS 97 ts') (.str (sL (tok ++ cs)) tt') a t1 t2 t3 t4 t5 t6' (sL bl) ((p + cs.length + 1 : Nat) : Int) e rest, g, n', 820, T'⟩),
    Go X ⟨.ret (rtLoop L) none k κ, denQ (rtLoop L), LD X.w.params L (rtF X.w.params tl x q nc) x y tk b pb fs (sS 39 ts) (.str (sL tok) tt) a t1 t2 t3 t4 t5 t6 (sL bl) p e rest, g, n, 820, T⟩ := by
  intro zs
  induction zs with
  | nil =>
    intro hcs n T t6 ts tt tl nc q tok p hp hl h
    refine turn_q X B hA κ R k n T x y a b L t1 t2 t3 t4 t5 t6 e pb fs ts tt tk tl q nc (sL tok) (sL bl) p rest g 39 (by decide) (drop_get hp) (by rw [sL_len]; exact hb) (by rw [sL_len]; simp at hl; (run_tac Drv.lomega)) (fun z => absurd rfl z) (fun _ n' T' t6' ts' nc' h1 h2 => ?_)
    have z := h n' T' t6' ts' tt nc' h1 h2
    rw [List.append_nil] at z
    exact z
  | cons c cs ih =>
    intro hcs n T t6 ts tt tl nc q tok p hp hl h
    have hc := hcs c (.head _)
    have hn : c ≠ 39 := qc_ne hc
    refine turn_q X B hA κ R k n T x y a b L t1 t2 t3 t4 t5 t6 e pb fs ts tt tk tl q nc (sL tok) (sL bl) p rest g c (qc_cs hc) (drop_get hp) (by rw [sL_len]; exact hb) (by rw [sL_len]; simp at hl; (run_tac Drv.lomega)) (fun _ n' T' t6' tt' nc' h1 => ?_) (fun z => absurd z hn)
    rw [show (⟨#[c]⟩ : Str) = sL [c] from rfl, sL_app]
    refine ih (fun d hd => hcs d (.tail _ hd)) n' T' t6' ts tt' tl nc' true (tok ++ [c]) (p + 1) (drop_next hp) (by simp at hl ⊢; (run_tac Drv.lomega)) fun n2 T2 t62 ts2 tt2 nc2 h3 h4 => ?_
    have z := h n2 T2 t62 ts2 tt2 nc2 (by run_tac Drv.tom) h4
    rw [List.append_assoc, List.singleton_append]
    rw [List.length_cons] at z
    rw [show p + 1 + cs.length + 1 = p + (cs.length + 1) + 1 from by run_tac Drv.tom]
    exact z
/- in a word: the rest of the word, up to the blank or the end -/
theorem loop_a : ∀ (sg : List Sg) (hsg : ∀ s ∈ sg, s.ok) (n T t6 ts tt : Nat) (tl : Nat → Nat) (nc : Value) (q : Bool) (tok : List Nat) (p : Nat) (r : List Nat) (hp : bl.drop p = rend sg ++ r) (hple : p ≤ bl.length) (hr : r = [] ∨ ∃ r', r = 32 :: r') (hl : tok.length + (cont sg).length < 1000) (hts : ts < T) (htq : tok.length = 0 → q = true)
    (h1 : r = [] → ∀ n' T' t6' tt' nc', T ≤ T' → Go X ⟨κ, k (.ok .next), LD X.w.params L (rtF X.w.params tl x (q || sg.any Sg.isq) nc') x y tk b pb fs .none (.str (sL (tok ++ cont sg)) tt') a t1 t2 t3 t4 t5 t6' (sL bl) ((sL bl).length : Nat) e rest, g, n', 820, T'⟩)
    (h2 : ∀ r', r = 32 :: r' → ∀ n' T' t6' ts' tt' nc', T ≤ T' → Go X ⟨κ, k (.ok .next), LD X.w.params L (rtF X.w.params tl x (q || sg.any Sg.isq) nc') x y tk b pb fs (sS 32 ts') (.str (sL (tok ++ cont sg)) tt') a t1 t2 t3 t4 t5 t6' (sL bl) ((p + (rend sg).length + 1 : Nat) : Int) e rest, g, n', 820, T'⟩),
    Go X ⟨.ret (rtLoop L) none k κ, denQ (rtLoop L), LD X.w.params L (rtF X.w.params tl x q nc) x y tk b pb fs (sS 97 ts) (.str (sL tok) tt) a t1 t2 t3 t4 t5 t6 (sL bl) p e rest, g, n, 820, T⟩
  | [], hsg, n, T, t6, ts, tt, tl, nc, q, tok, p, r, hp, hple, hr, hl, hts, htq, h1, h2 => by
    rw [show rend [] ++ r = r from rfl] at hp
    rcases hr with hr | ⟨r', hr⟩
    · rw [hr] at hp
      have hpe := drop_end hple hp
      refine turn_a_eof X B hA κ R k n T x y a b L t1 t2 t3 t4 t5 t6 e pb fs ts tt tk tl q nc (sL tok) (sL bl) p rest g hpe (by rw [sL_len]; exact hb) hts (fun n' T' nc' h3 => ?_)
      have z := h1 hr n' T' t6 tt nc' h3
      rw [show tok ++ cont [] = tok from List.append_nil _, show (q || List.any [] Sg.isq) = q from Bool.or_false _] at z
      rw [show (p : Int) = (((sL bl).length : Nat) : Int) from by rw [← hpe]]
      exact z
    · rw [hr] at hp
      refine turn_a X B hA κ R k n T x y a b L t1 t2 t3 t4 t5 t6 e pb fs ts tt tk tl q nc (sL tok) (sL bl) p rest g 32 (by decide) (drop_get hp) (by rw [sL_len]; exact hb) hts (by rw [sL_len]; simp [cont] at hl; (run_tac Drv.lomega)) (by rw [sL_len]; exact htq) (fun _ z => absurd rfl z) (fun z => absurd z (by decide)) (fun _ n' T' t6' ts' nc' h3 => ?_)
      have z := h2 r' hr n' T' t6' ts' tt nc' h3
      rw [show tok ++ cont [] = tok from List.append_nil _, show (q || List.any [] Sg.isq) = q from Bool.or_false _] at z
      exact z
  | .b c :: sg, hsg, n, T, t6, ts, tt, tl, nc, q, tok, p, r, hp, hple, hr, hl, hts, htq, h1, h2 => by
    have hc : c = 97 ∨ c = 98 ∨ c = 44 ∨ c = 40 ∨ c = 41 := hsg _ (.head _)
    have hp' : bl.drop p = c :: (rend sg ++ r) := hp
    have hlt : p < bl.length := drop_lt hp'
    refine turn_a X B hA κ R k n T x y a b L t1 t2 t3 t4 t5 t6 e pb fs ts tt tk tl q nc (sL tok) (sL bl) p rest g c (b5_a hc) (drop_get hp') (by rw [sL_len]; exact hb) hts (by rw [sL_len]; (run_tac Drv.lomega)) (by rw [sL_len]; exact htq) (fun _ _ n' T' t6' tt' nc' h3 => ?_) (fun z => absurd z (b5_39 hc)) (fun z => absurd z (b5_32 hc))
    rw [show (⟨#[c]⟩ : Str) = sL [c] from rfl, sL_app]
    refine loop_a sg (fun s hs => hsg s (.tail _ hs)) n' T' t6' ts tt' tl nc' q (tok ++ [c]) (p + 1) r (drop_next hp') (by run_tac Drv.tom) hr (by simp [cont, Sg.c] at hl ⊢; (run_tac Drv.lomega)) (by run_tac Drv.tom) (fun z => by simp at z) (fun z n2 T2 t62 tt2 nc2 h4 => ?_) (fun r' z n2 T2 t62 ts2 tt2 nc2 h4 => ?_)
    · have w := h1 z n2 T2 t62 tt2 nc2 (by run_tac Drv.tom)
      rw [show tok ++ cont (.b c :: sg) = tok ++ [c] ++ cont sg from by simp [cont, Sg.c]] at w
      exact w
    · have w := h2 r' z n2 T2 t62 ts2 tt2 nc2 (by run_tac Drv.tom)
      rw [show tok ++ cont (.b c :: sg) = tok ++ [c] ++ cont sg from by simp [cont, Sg.c], show p + (rend (.b c :: sg)).length + 1 = p + 1 + (rend sg).length + 1 from by simp [rend, Sg.r]; (run_tac Drv.lomega)] at w
      exact w
  | .q cs :: sg, hsg, n, T, t6, ts, tt, tl, nc, q, tok, p, r, hp, hple, hr, hl, hts, htq, h1, h2 => by
    have hc : ∀ c ∈ cs, Qc c := hsg _ (.head _)
    have hp' : bl.drop p = 39 :: (cs ++ 39 :: (rend sg ++ r)) := by rw [hp]; simp [rend, Sg.r]
    have hlt : p + 1 + cs.length + 1 ≤ bl.length := by
      have : (bl.drop p).length = bl.length - p := List.length_drop
      rw [hp'] at this
      simp at this
      (run_tac Drv.lomega)
    have hl' : tok.length + (cs.length + (cont sg).length) < 1000 := by simpa [cont, Sg.c] using hl
    refine turn_a X B hA κ R k n T x y a b L t1 t2 t3 t4 t5 t6 e pb fs ts tt tk tl q nc (sL tok) (sL bl) p rest g 39 (by decide) (drop_get hp') (by rw [sL_len]; exact hb) hts (by rw [sL_len]; (run_tac Drv.lomega)) (by rw [sL_len]; exact htq) (fun z => absurd rfl z) (fun _ n' T' t6' ts' nc' h3 => ?_) (fun z => absurd z (by decide))
    refine loop_q X B hA κ R k x y a b L t1 t2 t3 t4 t5 e pb fs tk bl hb rest g (rend sg ++ r) cs hc n' T' t6' ts' tt tl nc' q tok (p + 1) (drop_next hp') (by run_tac Drv.tom) fun n2 T2 t62 ts2 tt2 nc2 h4 h5 => ?_
    refine loop_a sg (fun s hs => hsg s (.tail _ hs)) n2 T2 t62 ts2 tt2 tl nc2 true (tok ++ cs) (p + 1 + cs.length + 1) r (drop_next (p := p + 1 + cs.length) (c := 39) (by rw [← List.drop_drop, drop_next hp', List.drop_left])) (by run_tac Drv.tom) hr (by simp; (run_tac Drv.lomega)) h5 (fun _ => rfl) (fun z n2 T2 t62 tt2 nc2 h4 => ?_) (fun r' z n2 T2 t62 ts2 tt2 nc2 h4 => ?_)
    · have w := h1 z n2 T2 t62 tt2 nc2 (by run_tac Drv.tom)
      rw [show tok ++ cont (.q cs :: sg) = tok ++ cs ++ cont sg from by simp [cont, Sg.c], show (q || List.any (.q cs :: sg) Sg.isq) = (true || sg.any Sg.isq) from by simp [Sg.isq]] at w
      exact w
    · have w := h2 r' z n2 T2 t62 ts2 tt2 nc2 (by run_tac Drv.tom)
      rw [show tok ++ cont (.q cs :: sg) = tok ++ cs ++ cont sg from by simp [cont, Sg.c], show p + (rend (.q cs :: sg)).length + 1 = p + 1 + cs.length + 1 + (rend sg).length + 1 from by simp [rend, Sg.r]; (run_tac Drv.lomega), show (q || List.any (.q cs :: sg) Sg.isq) = (true || sg.any Sg.isq) from by simp [Sg.isq]] at w
      exact w
/- a word from its first sign -/
theorem loop_w (s₀ : Sg) (sg : List Sg) (h0 : ∀ c, s₀ = .b c → c ≠ 41) (hsg : ∀ s ∈ s₀ :: sg, s.ok) (n T t6 ts tt : Nat) (tl : Nat → Nat) (p : Nat) (r : List Nat) (hp : bl.drop p = rend (s₀ :: sg) ++ r) (hr : r = [] ∨ ∃ r', r = 32 :: r') (hl : (cont (s₀ :: sg)).length < 1000)
    (h1 : r = [] → ∀ n' T' t6' tt' tl' nc', T ≤ T' → Go X ⟨κ, k (.ok .next), LD X.w.params L (rtF X.w.params tl' x ((s₀ :: sg).any Sg.isq) nc') x y tk b pb fs .none (.str (sL (cont (s₀ :: sg))) tt') a t1 t2 t3 t4 t5 t6' (sL bl) ((sL bl).length : Nat) e rest, g, n', 820, T'⟩)
    (h2 : ∀ r', r = 32 :: r' → ∀ n' T' t6' ts' tt' tl' nc', T ≤ T' → Go X ⟨κ, k (.ok .next), LD X.w.params L (rtF X.w.params tl' x ((s₀ :: sg).any Sg.isq) nc') x y tk b pb fs (sS 32 ts') (.str (sL (cont (s₀ :: sg))) tt') a t1 t2 t3 t4 t5 t6' (sL bl) ((p + (rend (s₀ :: sg)).length + 1 : Nat) : Int) e rest, g, n', 820, T'⟩) :
    Go X ⟨.ret (rtLoop L) none k κ, denQ (rtLoop L), LD X.w.params L (rtF0 X.w.params tl x false) x y tk b pb fs (sS 32 ts) (.str (sL []) tt) a t1 t2 t3 t4 t5 t6 (sL bl) p e rest, g, n, 820, T⟩ := by
  have hle : ∀ {c : Nat} {r : List Nat}, bl.drop p = c :: r → p + (c :: r).length ≤ bl.length := by
    intro c r hq
    have : (bl.drop p).length = bl.length - p := List.length_drop
    rw [hq] at this
    simp at this ⊢
    (run_tac Drv.lomega)
  cases s₀ with
  | b c =>
    have hc : c = 97 ∨ c = 98 ∨ c = 44 ∨ c = 40 ∨ c = 41 := hsg _ (.head _)
    have hc' := h0 c rfl
    have hp' : bl.drop p = c :: (rend sg ++ r) := hp
    have hlt := hle hp'
    rw [List.length_cons] at hlt
    refine turn_s X B hA κ R k n T x y a b L t1 t2 t3 t4 t5 t6 e pb fs ts tt tk tl false (sL []) (sL bl) p rest g c (b5_s hc hc') (drop_get hp') (by rw [sL_len]; exact hb) (fun _ n' T' t6' tt' ts' tl' nc' h3 h4 => ?_) (fun z => absurd z (b5_39 hc))
    refine loop_a X B hA κ R k x y a b L t1 t2 t3 t4 t5 e pb fs tk bl hb rest g sg (fun s hs => hsg s (.tail _ hs)) n' T' t6' ts' tt' tl' nc' false [c] (p + 1) r (drop_next hp') (by run_tac Drv.tom) hr (by simp [cont, Sg.c] at hl ⊢; (run_tac Drv.lomega)) h4 (fun z => by simp at z) (fun z n2 T2 t62 tt2 nc2 h5 => ?_) (fun r' z n2 T2 t62 ts2 tt2 nc2 h5 => ?_)
    · exact h1 z n2 T2 t62 tt2 tl' nc2 (by run_tac Drv.tom)
    · have w := h2 r' z n2 T2 t62 ts2 tt2 tl' nc2 (by run_tac Drv.tom)
      rw [show p + (rend (.b c :: sg)).length + 1 = p + 1 + (rend sg).length + 1 from by simp [rend, Sg.r]; (run_tac Drv.lomega)] at w
      exact w
  | q cs =>
    have hc : ∀ c ∈ cs, Qc c := hsg _ (.head _)
    have hp' : bl.drop p = 39 :: (cs ++ 39 :: (rend sg ++ r)) := by rw [hp]; simp [rend, Sg.r]
    have hlt := hle hp'
    have hl' : (cs.length + (cont sg).length) < 1000 := by simpa [cont, Sg.c] using hl
    simp at hlt
    refine turn_s X B hA κ R k n T x y a b L t1 t2 t3 t4 t5 t6 e pb fs ts tt tk tl false (sL []) (sL bl) p rest g 39 (by decide) (drop_get hp') (by rw [sL_len]; exact hb) (fun z => absurd rfl z) (fun _ n' T' t6' ts' tl' nc' h3 => ?_)
    refine loop_q X B hA κ R k x y a b L t1 t2 t3 t4 t5 e pb fs tk bl hb rest g (rend sg ++ r) cs hc n' T' t6' ts' tt tl' nc' false [] (p + 1) (drop_next hp') (by simp; (run_tac Drv.lomega)) fun n2 T2 t62 ts2 tt2 nc2 h4 h5 => ?_
    refine loop_a X B hA κ R k x y a b L t1 t2 t3 t4 t5 e pb fs tk bl hb rest g sg (fun s hs => hsg s (.tail _ hs)) n2 T2 t62 ts2 tt2 tl' nc2 true ([] ++ cs) (p + 1 + cs.length + 1) r (drop_next (p := p + 1 + cs.length) (c := 39) (by rw [← List.drop_drop, drop_next hp', List.drop_left])) (by run_tac Drv.tom) hr (by simp; (run_tac Drv.lomega)) h5 (fun _ => rfl) (fun z n2 T2 t62 tt2 nc2 h4 => ?_) (fun r' z n2 T2 t62 ts2 tt2 nc2 h4 => ?_)
    · exact h1 z n2 T2 t62 tt2 tl' nc2 (by run_tac Drv.tom)
    · have w := h2 r' z n2 T2 t62 ts2 tt2 tl' nc2 (by run_tac Drv.tom)
      rw [show p + (rend (.q cs :: sg)).length + 1 = p + 1 + cs.length + 1 + (rend sg).length + 1 from by simp [rend, Sg.r]; (run_tac Drv.lomega)] at w
      exact w
end
end
section
open PySem PySem.W PySem.W.X PyProof.Rows
open Builtin.Str StrLaws
/- where y stands in a text, from the left, not overlapping -/
noncomputable def scan (y : List Nat) : List Nat → Nat → Nat → List Nat
  | [], _, _ => []
  | c :: r, i, 0 => if y.isPrefixOf (c :: r) then i :: scan y r (i + 1) (y.length - 1) else scan y r (i + 1) 0
  | _ :: r, i, k + 1 => scan y r (i + 1) k
/- z for y -/
noncomputable def repl (y z : List Nat) : List Nat → Nat → List Nat
  | [], _ => []
  | c :: r, 0 => if y.isPrefixOf (c :: r) then z ++ repl y z r (y.length - 1) else c :: repl y z r 0
  | _ :: r, k + 1 => repl y z r k
theorem pre_iff (x y : List Nat) (i : Nat) : (i + (sL y).length ≤ x.length ∧ subAt (sL x) (sL y) i = true) ↔ (i ≤ x.length ∧ y.isPrefixOf (x.drop i) = true) := by
  rw [subAt_eq, sL_len, List.isPrefixOf_iff_prefix, List.prefix_iff_eq_take]
  show (_ ∧ ((x.drop i).take y.length == y) = true) ↔ _
  rw [beq_iff_eq]
  constructor
  · rintro ⟨h1, h2⟩; exact ⟨by run_tac Drv.tom, h2.symm⟩
  · rintro ⟨h1, h2⟩
    refine ⟨?_, h2.symm⟩
    have := congrArg List.length h2
    rw [List.length_take, List.length_drop] at this
    (run_tac Drv.lomega)
noncomputable abbrev oR (x y : List Nat) (lim : Nat) (l : List Nat) (st : Array Nat × Nat) : Array Nat × Nat := (forIn l st (occBody (sL x) (sL y) x.length lim)).run
theorem occ_scan (x y : List Nat) (hy : y ≠ []) (lim : Nat) (hlim : x.length < lim) : ∀ (rem : List Nat) (i k : Nat) (st : Array Nat), x.drop i = rem → i ≤ x.length → st.size ≤ i →
    (forIn (List.range' i (x.length + 1 - i)) (st, i + k) (occBody (sL x) (sL y) x.length lim)).run.fst.toList = st.toList ++ scan y rem i k
  | [], i, k, st, h, hi, hs => by
    have e : i = x.length := by have := List.drop_eq_nil_iff.mp h; (run_tac Drv.lomega)
    have hyl : 1 ≤ y.length := by cases y with | nil => exact absurd rfl hy | cons => simp
    rw [show x.length + 1 - i = 1 from by run_tac Drv.tom, show List.range' i 1 = [i] from rfl, List.forIn_cons]
    unfold occBody
    rw [if_neg (by rw [sL_len]; (run_tac Drv.lomega))]
    simp [scan]
  | c :: r, i, k, st, h, hi, hs => by
    have hlt : i < x.length := drop_lt h
    have hr : x.drop (i + 1) = r := by rw [← List.drop_drop, h]; rfl
    have hyl : 1 ≤ y.length := by cases y with | nil => exact absurd rfl hy | cons => simp
    have hle : i ≤ x.length := by run_tac Drv.tom
    rw [show x.length + 1 - i = (x.length + 1 - (i + 1)) + 1 from by rw [Nat.add_sub_add_right]; exact Nat.succ_sub hle, List.range'_succ, List.forIn_cons]
    have hiff := pre_iff x y i
    rw [h] at hiff
    cases k with
    | zero =>
      by_cases hp : y.isPrefixOf (c :: r) = true
      · have hc := hiff.mpr ⟨hi, hp⟩
        rw [show occBody (sL x) (sL y) x.length lim i (st, i + 0) = pure (ForInStep.yield (st.push i, i + (sL y).length)) from by
          unfold occBody; rw [if_pos ⟨⟨⟨by show st.size < lim; (run_tac Drv.lomega), by show i + 0 ≤ i; (run_tac Drv.lomega)⟩, hc.1⟩, hc.2⟩]]
        show (oR x y lim _ (st.push i, i + (sL y).length)).fst.toList = _
        have ih := occ_scan x y hy lim hlim r (i + 1) (y.length - 1) (st.push i) hr (by run_tac Drv.tom) (by simp; (run_tac Drv.lomega))
        rw [show i + 1 + (y.length - 1) = i + (sL y).length from by rw [sL_len]; (run_tac Drv.lomega)] at ih
        rw [ih]
        simp [scan, hp]
      · rw [show occBody (sL x) (sL y) x.length lim i (st, i + 0) = pure (ForInStep.yield (st, i + 0)) from by
          unfold occBody; rw [if_neg fun z => hp (hiff.mp ⟨z.1.2, z.2⟩).2]]
        show (oR x y lim _ (st, i)).fst.toList = _
        by_cases hnil : x.length + 1 - (i + 1) = 0
        · (run_tac Drv.lomega)
        · -- the free place lags one behind
          have lag : ∀ (l : List Nat) (s : Array Nat) (f : Nat), (∀ j ∈ l, f + 1 ≤ j) → (oR x y lim l (s, f)).fst = (oR x y lim l (s, f + 1)).fst := by
            intro l
            induction l with
            | nil => intro s f _; rfl
            | cons j l ihl =>
              intro s f hf
              have hj := hf j (.head _)
              unfold oR
              rw [List.forIn_cons, List.forIn_cons]
              by_cases hc : (s.size < lim ∧ j + (sL y).length ≤ x.length) ∧ subAt (sL x) (sL y) j = true
              · rw [show occBody (sL x) (sL y) x.length lim j (s, f) = pure (ForInStep.yield (s.push j, j + (sL y).length)) from by
                    unfold occBody; rw [if_pos ⟨⟨⟨hc.1.1, by show f ≤ j; (run_tac Drv.lomega)⟩, hc.1.2⟩, hc.2⟩],
                  show occBody (sL x) (sL y) x.length lim j (s, f + 1) = pure (ForInStep.yield (s.push j, j + (sL y).length)) from by
                    unfold occBody; rw [if_pos ⟨⟨⟨hc.1.1, by show f + 1 ≤ j; (run_tac Drv.lomega)⟩, hc.1.2⟩, hc.2⟩]]
              · rw [show occBody (sL x) (sL y) x.length lim j (s, f) = pure (ForInStep.yield (s, f)) from by
                    unfold occBody; rw [if_neg fun z => hc ⟨⟨z.1.1.1, z.1.2⟩, z.2⟩],
                  show occBody (sL x) (sL y) x.length lim j (s, f + 1) = pure (ForInStep.yield (s, f + 1)) from by
                    unfold occBody; rw [if_neg fun z => hc ⟨⟨z.1.1.1, z.1.2⟩, z.2⟩]]
                exact ihl s f fun j' hj' => hf j' (.tail _ hj')
          rw [lag (List.range' (i + 1) (x.length + 1 - (i + 1))) st i (fun j hj => by have := List.mem_range'_1.mp hj; (run_tac Drv.lomega))]
          have ih := occ_scan x y hy lim hlim r (i + 1) 0 st hr (by run_tac Drv.tom) (by run_tac Drv.tom)
          rw [Nat.add_zero] at ih
          rw [ih]
          simp [scan, hp]
    | succ k =>
      rw [show occBody (sL x) (sL y) x.length lim i (st, i + (k + 1)) = pure (ForInStep.yield (st, i + (k + 1))) from by
          unfold occBody; rw [if_neg fun z => by have := z.1.1.2; dsimp only at this; (run_tac Drv.lomega)]]
      show (oR x y lim _ (st, i + (k + 1))).fst.toList = _
      have ih := occ_scan x y hy lim hlim r (i + 1) k st hr (by run_tac Drv.tom) (by run_tac Drv.tom)
      rw [show i + 1 + k = i + (k + 1) from by run_tac Drv.tom] at ih
      rw [ih]
      rfl
theorem occ_is (x y : List Nat) (hy : y ≠ []) : occurrences (sL x) (sL y) 0 (sL x).length ((sL x).length + 1) = scan y x 0 0 := by
  rw [occ_eq, sL_len]
  have := occ_scan x y hy (x.length + 1) (by run_tac Drv.tom) x 0 0 #[] rfl (by run_tac Drv.tom) (by simp)
  rw [Nat.sub_zero] at this ⊢
  rw [this]; rfl
theorem sub_sL (x : List Nat) (a b : Nat) : strSub (sL x) a b = sL ((x.drop a).take (b - a)) := by
  apply Str.ext'
  apply Array.toList_inj.mp
  rw [strSub_toList]
  simp [sL]
theorem join_cons (z : Str) (p : Str) {l : List Str} (h : ∃ q r, l = q :: r) : Str.join z (p :: l) = p ++ z ++ Str.join z l := by
  obtain ⟨q, r, rfl⟩ := h; rfl
theorem join_scan (x y z : List Nat) (hy : y ≠ []) : ∀ (rem : List Nat) (i : Nat), x.drop i = rem → i ≤ x.length →
    (∀ a, a ≤ i → Str.join (sL z) (partsFrom (sL x) y.length a (scan y rem i 0)) = sL ((x.drop a).take (i - a) ++ repl y z rem 0)) ∧
    (∀ k, i + k ≤ x.length → Str.join (sL z) (partsFrom (sL x) y.length (i + k) (scan y rem i k)) = sL (repl y z rem k))
  | [], i, h, hi => by
    have e : i = x.length := by have := List.drop_eq_nil_iff.mp h; (run_tac Drv.lomega)
    refine ⟨fun a ha => ?_, fun k hk => ?_⟩
    · show strSub (sL x) a (sL x).length = _
      rw [sub_sL, sL_len, e]; simp [repl]
    · have : k = 0 := by run_tac Drv.tom
      subst this
      show strSub (sL x) (i + 0) (sL x).length = _
      rw [sub_sL, sL_len, e]; simp [repl]
  | c :: r, i, h, hi => by
    have hlt : i < x.length := drop_lt h
    have hr : x.drop (i + 1) = r := by rw [← List.drop_drop, h]; rfl
    have hyl : 1 ≤ y.length := by cases y with | nil => exact absurd rfl hy | cons => simp
    obtain ⟨ih1, ih2⟩ := join_scan x y z hy r (i + 1) hr (by run_tac Drv.tom)
    have p1 : ∀ a, a ≤ i → Str.join (sL z) (partsFrom (sL x) y.length a (scan y (c :: r) i 0)) = sL ((x.drop a).take (i - a) ++ repl y z (c :: r) 0) := by
      intro a ha
      by_cases hp : y.isPrefixOf (c :: r) = true
      · have hle : i + y.length ≤ x.length := by
          have := (pre_iff x y i).mpr ⟨hi, by rw [h]; exact hp⟩
          rw [sL_len] at this; exact this.1
        have hw := ih2 (y.length - 1) (by run_tac Drv.tom)
        rw [show i + 1 + (y.length - 1) = i + y.length from by run_tac Drv.tom] at hw
        rw [show scan y (c :: r) i 0 = i :: scan y r (i + 1) (y.length - 1) from by simp [scan, hp]]
        show Str.join (sL z) (strSub (sL x) a i :: partsFrom (sL x) y.length (i + y.length) (scan y r (i + 1) (y.length - 1))) = _
        rw [join_cons _ _ (partsFrom_ne _ _ _ _), hw, sub_sL, sL_app, sL_app]
        simp [repl, hp]
      · rw [show scan y (c :: r) i 0 = scan y r (i + 1) 0 from by simp [scan, hp], ih1 a (by run_tac Drv.tom)]
        have e : (x.drop a).take (i + 1 - a) = (x.drop a).take (i - a) ++ [c] := by
          have hg : (x.drop a)[i - a]? = some c := by
            rw [List.getElem?_drop, show a + (i - a) = i from by run_tac Drv.tom, ← Nat.add_zero i, ← List.getElem?_drop, h]; rfl
          rw [show i + 1 - a = (i - a) + 1 from Nat.succ_sub (by run_tac Drv.tom), List.take_add_one, hg]; rfl
        rw [e]
        simp [repl, hp]
    refine ⟨p1, fun k hk => ?_⟩
    cases k with
    | zero =>
      have := p1 i (Nat.le_refl _)
      rw [Nat.sub_self, List.take_zero, List.nil_append] at this
      exact this
    | succ k =>
      have := ih2 k (by run_tac Drv.tom)
      rw [show i + (k + 1) = i + 1 + k from by run_tac Drv.tom]
      exact this
theorem glue_is (x y z : List Nat) (hy : y ≠ []) : glued (sL z) (partsBetween (sL x) (scan y x 0 0) (sL y).length) = sL (repl y z x 0) := by
  rw [glued_eq_join, partsBetween_eq, sL_len]
  have := (join_scan x y z hy x 0 rfl (by run_tac Drv.tom)).1 0 (by run_tac Drv.tom)
  rw [this]; rfl
theorem scan_len (y : List Nat) : ∀ (l : List Nat) (i k : Nat), (scan y l i k).length ≤ l.length
  | [], _, _ => by simp [scan]
  | c :: r, i, 0 => by
    unfold scan
    split
    · have := scan_len y r (i + 1) (y.length - 1)
      simp; exact this
    · have := scan_len y r (i + 1) 0
      simp; (run_tac Drv.lomega)
  | c :: r, i, k + 1 => by
    have := scan_len y r (i + 1) k
    unfold scan
    simp; (run_tac Drv.lomega)
theorem repl_nil (y z : List Nat) : ∀ (l : List Nat) (i : Nat), scan y l i 0 = [] → repl y z l 0 = l
  | [], _, _ => rfl
  | c :: r, i, h => by
    unfold scan at h
    unfold repl
    split at h
    · cases h
    · rename_i hp
      rw [if_neg hp, repl_nil y z r _ h]
theorem repl_len (y z : List Nat) : ∀ (l : List Nat) (k : Nat), (repl y z l k).length ≤ l.length * (z.length + 1)
  | [], _ => by simp [repl]
  | c :: r, 0 => by
    unfold repl
    split
    · have := repl_len y z r (y.length - 1)
      simp only [List.length_append, List.length_cons, Nat.add_mul, Nat.one_mul]; (run_tac Drv.lomega)
    · have := repl_len y z r 0
      simp only [List.length_cons, Nat.add_mul, Nat.one_mul]; (run_tac Drv.lomega)
  | c :: r, k + 1 => by
    have := repl_len y z r k
    unfold repl
    simp only [List.length_cons, Nat.add_mul, Nat.one_mul]; (run_tac Drv.lomega)
/- lengths, for the driver's questions -/
theorem len_le {s : Str} {m : Nat} (h : s.length < m) : s.length ≤ m := Nat.le_of_lt h
theorem cat_le {a b : Str} {m n : Nat} (ha : a.length ≤ m) (hb : b.length ≤ n) : (@HAppend.hAppend Str Str Str (@instHAppendOfAppend Str Fast.tw178013285451222756) a b).length ≤ m + n := by
  rw [← Fast.te178013285451222756]
  show (a.cps ++ b.cps).size ≤ m + n
  rw [Array.size_append]
  exact Nat.add_le_add ha hb
theorem no_len {s : Str} {m : Nat} (h : s.length ≤ m) (hm : Nat.ble m 16777216 = true) : ¬ (sizeLine < s.length) := by
  have := Nat.le_of_ble_eq_true hm
  show ¬ (16777216 < s.length)
  (run_tac Drv.lomega)
theorem no_long {a b c : Nat} (ha : a ≤ 1000) (hb : b ≤ 1000) (hc : c ≤ 1000) : ¬ (tooLong (a + b * c) = true) := by
  have : b * c ≤ 1000 * 1000 := Nat.mul_le_mul hb hc
  unfold tooLong
  rw [decide_eq_true_eq]
  show ¬ (16777216 < _)
  (run_tac Drv.lomega)
theorem tocc (x y : List Nat) (hy : y ≠ []) {l : List Nat} (h : scan y x 0 0 = l) : Fast.tw15715988071286343644 (sL x) (sL y) 0 (sL x).length ((sL x).length + 1) = l := by
  rw [← Fast.te15715988071286343644, occ_is x y hy]; exact h
theorem tglue (x y z : List Nat) (hy : y ≠ []) {l : List Nat} (h : scan y x 0 0 = l) : Fast.tw10206770168876983080 (sL z) (Fast.tw12214900134317702014 (sL x) l (sL y).length) = sL (repl y z x 0) := by
  rw [← Fast.te10206770168876983080, ← Fast.te12214900134317702014, ← h, glue_is x y z hy]
end
section
open PySem PySem.W PySem.W.X PyProof.Rows
open PySem.Sre
/- the pattern's code -/
noncomputable def C₀ : Array Nat := #[14, 17, 4, 1, 1, 21, 9, 0, 604043296, 1, 0, 0, 0, 0, 0, 8, 4, 0, 13, 14, 21, 9, 0, 604043296, 1, 0, 0, 0, 0, 0, 8, 4, 0, 1]
/- the eight signs -/
noncomputable def Al (c : Nat) : Prop := c = 97 ∨ c = 98 ∨ c = 32 ∨ c = 39 ∨ c = 92 ∨ c = 40 ∨ c = 41 ∨ c = 44
theorem al_128 {c : Nat} (h : Al c) : c < 128 := by rcases h with rfl | rfl | rfl | rfl | rfl | rfl | rfl | rfl <;> decide
theorem al_34 {c : Nat} (h : Al c) : c ≠ 34 := by rcases h with rfl | rfl | rfl | rfl | rfl | rfl | rfl | rfl <;> decide
noncomputable def uns (c : Nat) : Bool := !(c == 97 || c == 98 || c == 44)
noncomputable def s0 : Sre.Seen := ⟨16384, 0⟩
noncomputable def sc : Sre.Seen := ⟨2114048, 0⟩
noncomputable def sw : Sre.Seen := ⟨2114304, 65536⟩
noncomputable def su : Sre.Seen := ⟨2114305, 65536⟩
noncomputable def nx (c : Nat) (s : Sre.Seen) : Sre.Seen := bif uns c then su else bif (c == 44 && s.others == 0) then sc else sw
theorem inSet5 (c : Nat) (h : Al c) (seen : Sre.Seen) (hs : seen = s0 ∨ seen = sc ∨ seen = sw) : ∃ s', inSet C₀ c 34 5 true seen = .ok (uns c, s') ∧ (uns c = false → s' = sc ∨ s' = sw) ∧ (uns c = true → s' = su) := by
  refine ⟨nx c seen, ?_, fun z => ?_, fun z => ?_⟩
  · rcases hs with rfl | rfl | rfl <;> rcases h with rfl | rfl | rfl | rfl | rfl | rfl | rfl | rfl <;> kernel_rfl
  · unfold nx
    rw [z]
    cases (c == 44 && seen.others == 0)
    · exact .inr rfl
    · exact .inl rfl
  · unfold nx
    rw [z]; rfl
theorem inSet20 (c : Nat) (h : Al c) (hu : uns c = true) : inSet C₀ c 34 20 true (su.add 13) = .ok (uns c, ⟨2122497, 65536⟩) := by
  rcases h with rfl | rfl | rfl | rfl | rfl | rfl | rfl | rfl <;> first | (exact absurd hu (by decide)) | kernel_rfl
noncomputable def M1 (w : List Nat) (n : Nat) (σ : Sre.Seen) : M := { code := C₀, text := ⟨w⟩, lim := n, start := 0, lastStart := n, pc := 18, pos := 0, handed := 0, marks := #[], mustAdvance := false, seen := σ }
theorem search_eq (w : List Nat) (n : Nat) : forSearch C₀ ⟨w⟩ 0 0 n false = if (decide (0 > n) || decide (n - 0 < 1)) = true then M.say { M1 w n (({} : Sre.Seen).add 14) with lastStart := 0 } false else M.attemptFrom (M1 w n (({} : Sre.Seen).add 14)) 0 true := by kernel_rfl
noncomputable def firstU : List Nat → Option Nat
  | [] => none
  | c :: r => if uns c then some 0 else (firstU r).map (· + 1)
theorem admit (w : List Nat) (hw : ∀ c ∈ w, Al c) (σ₁ : Sre.Seen) : ∀ (rem : List Nat) (s : Nat) (seen : Sre.Seen), seen = s0 ∨ seen = sc ∨ seen = sw → w.drop s = rem → ∃ σ, M.admitted (M1 w w.length σ₁) (w.length + 1 - s) s seen = .ok ((firstU rem).map (s + ·), σ) ∧ (rem = [] → σ = seen) ∧ (firstU rem = none → rem ≠ [] → σ = sc ∨ σ = sw) ∧ (firstU rem ≠ none → σ = su)
  | [], s, seen, hse, h => by
    have hs : w.length ≤ s := List.drop_eq_nil_iff.mp h
    refine ⟨seen, ?_, fun _ => rfl, fun _ z => absurd rfl z, fun z => absurd rfl z⟩
    by_cases h1 : w.length + 1 - s = 0
    · rw [h1]; rfl
    · obtain ⟨k, hk⟩ := Nat.exists_eq_succ_of_ne_zero h1
      rw [hk]
      unfold M.admitted
      rw [if_pos (show s ≥ (M1 w w.length σ₁).lim from hs)]; rfl
  | c :: rem, s, seen, hse, h => by
    have hlt : s < w.length := drop_lt h
    have hk : w.length + 1 - s = (w.length - s) + 1 := Nat.succ_sub (by run_tac Drv.tom)
    have hc : w[s]? = some c := by rw [← Nat.add_zero s, ← List.getElem?_drop, h]; rfl
    have hcm : c ∈ w := List.mem_of_getElem? hc
    have hg : (M1 w w.length σ₁).text.getD s 0 = c := by
      show (Array.mk w).getD s 0 = c
      rw [Array.getD_eq_getD_getElem?, List.getElem?_toArray, hc]; rfl
    obtain ⟨s', e, hsafe, huns⟩ := inSet5 c (hw c hcm) seen hse
    rw [hk]
    unfold M.admitted
    rw [if_neg (show ¬ s ≥ (M1 w w.length σ₁).lim from by show ¬ s ≥ w.length; (run_tac Drv.lomega))]
    rw [show inSet (M1 w w.length σ₁).code ((M1 w w.length σ₁).text.getD s 0) (M1 w w.length σ₁).code.size 5 true seen = inSet C₀ c 34 5 true seen from by rw [hg]; rfl, e]
    by_cases hu : uns c = true
    · rw [hu]
      refine ⟨s', ?_, fun z => by simp at z, fun z => by simp [firstU, hu] at z, fun _ => huns hu⟩
      show Except.ok (some s, s') = _
      simp [firstU, hu]
    · rw [Bool.not_eq_true] at hu
      rw [hu]
      have hs' := hsafe hu
      obtain ⟨σ, e2, f1, f2, f3⟩ := admit w hw σ₁ rem (s + 1) s' (.inr hs') (by rw [← List.drop_drop, h]; rfl)
      refine ⟨σ, ?_, fun z => by simp at z, fun z _ => ?_, fun z => f3 fun y => z (by simp [firstU, hu, y])⟩
      · show M.admitted (M1 w w.length σ₁) (w.length - s) (s + 1) s' = _
        rw [show w.length - s = w.length + 1 - (s + 1) from by run_tac Drv.tom, e2]
        simp only [firstU, hu, Bool.false_eq_true, if_false, Option.map_map]
        congr 2
        cases firstU rem with
        | none => rfl
        | some i => simp only [Option.map_some, Function.comp]; congr 1; (run_tac Drv.lomega)
      · by_cases hr : rem = []
        · rw [f1 hr]; exact hs'
        · exact f2 (by simpa [firstU, hu] using z) hr
theorem firstU_none {w : List Nat} : firstU w = none ↔ ∀ c ∈ w, uns c = false := by
  induction w with
  | nil => simp [firstU]
  | cons c r ih =>
    unfold firstU
    by_cases hu : uns c = true
    · simp [hu]
    · rw [Bool.not_eq_true] at hu
      simp [hu, ih]
theorem firstU_some : ∀ {w : List Nat} {i : Nat}, firstU w = some i → ∃ c, w[i]? = some c ∧ uns c = true
  | [], i, h => by simp [firstU] at h
  | c :: r, i, h => by
    unfold firstU at h
    by_cases hu : uns c = true
    · simp [hu] at h; subst h; exact ⟨c, rfl, hu⟩
    · rw [Bool.not_eq_true] at hu
      simp [hu] at h
      obtain ⟨j, hj, rfl⟩ := h
      obtain ⟨d, h1, h2⟩ := firstU_some hj
      exact ⟨d, by rw [List.getElem?_cons_succ]; exact h1, h2⟩
theorem search_safe (w : List Nat) (hw : ∀ c ∈ w, Al c) (hn : w ≠ []) (hs : ∀ c ∈ w, uns c = false) :
    ∃ σ, (σ = sc ∨ σ = sw) ∧ M.runFor 4 (forSearch C₀ ⟨w⟩ 0 0 w.length false) = { M1 w w.length σ with answer := some false, outcome := some .failed } := by
  have hl : w.length ≠ 0 := fun z => hn (List.length_eq_zero_iff.mp z)
  obtain ⟨σ, e, f1, f2, f3⟩ := admit w hw (({} : Sre.Seen).add 14) w 0 (({} : Sre.Seen).add 14) (.inl (by kernel_rfl)) rfl
  rw [search_eq, if_neg (by simp; (run_tac Drv.lomega))]
  refine ⟨σ, f2 (firstU_none.mpr hs) hn, ?_⟩
  have z : M.attemptFrom (M1 w w.length (({} : Sre.Seen).add 14)) 0 true = M.say (M1 w w.length σ) false := by
    unfold M.attemptFrom
    rw [if_neg (by show ¬ ((!M.hasFirstSet _) = true); have : M.hasFirstSet (M1 w w.length (({} : Sre.Seen).add 14)) = true := by kernel_rfl
                   rw [this]; decide)]
    rw [show M.admitted (M1 w w.length (({} : Sre.Seen).add 14)) ((M1 w w.length (({} : Sre.Seen).add 14)).lim + 1 - 0) 0 (M1 w w.length (({} : Sre.Seen).add 14)).seen = M.admitted (M1 w w.length (({} : Sre.Seen).add 14)) (w.length + 1 - 0) 0 (({} : Sre.Seen).add 14) from rfl, e, firstU_none.mpr hs]
    rfl
  rw [z]
  kernel_rfl
theorem found_run (w : List Nat) (i c : Nat) (σ σ2 : Sre.Seen) (hi : i < w.length) (hc : w[i]? = some c) (e2 : inSet C₀ c 34 20 true (σ.add 13) = .ok (true, σ2)) :
    M.runFor 4 (M.attemptAt (M1 w w.length σ) i true) = { M1 w w.length (σ2.add 1) with start := i, pos := i, handed := i + 1, pc := 18, answer := some true, outcome := some .matched } := by
  have s1 : M.step (M.attemptAt (M1 w w.length σ) i true) = { M1 w w.length σ2 with start := i, frames := [{ wait := .nextStart, pc := 18, pos := i, outermost := true }], weight := 1, pos := i + 1, handed := i, pc := 33 } := by
    have hg : (Array.mk w).getD i 0 = c := by
      rw [Array.getD_eq_getD_getElem?, List.getElem?_toArray, hc]; rfl
    have hx : M.step (M.attemptAt (M1 w w.length σ) i true) = (if i ≥ w.length then M.say { M1 w w.length (σ.add 13) with start := i, frames := [{ wait := .nextStart, pc := 18, pos := i, outermost := true }], weight := 1, pos := i, handed := i } false else
        match accepts C₀ 18 ((Array.mk w).getD i 0) (σ.add 13) with
        | .error why => M.stick { M1 w w.length (σ.add 13) with start := i, frames := [{ wait := .nextStart, pc := 18, pos := i, outermost := true }], weight := 1, pos := i, handed := i } why
        | .ok (false, seen) => M.say { M1 w w.length seen with start := i, frames := [{ wait := .nextStart, pc := 18, pos := i, outermost := true }], weight := 1, pos := i, handed := i } false
        | .ok (true, seen) => { M1 w w.length seen with start := i, frames := [{ wait := .nextStart, pc := 18, pos := i, outermost := true }], weight := 1, pos := i + 1, handed := i, pc := 33 }) := by kernel_rfl
    rw [hx, if_neg (by run_tac Drv.tom), hg, show accepts C₀ 18 c (σ.add 13) = inSet C₀ c 34 20 true (σ.add 13) from by kernel_rfl, e2]
  have s2 : M.runFor 4 (M.attemptAt (M1 w w.length σ) i true) = M.runFor 3 (M.step (M.attemptAt (M1 w w.length σ) i true)) := by kernel_rfl
  rw [s2, s1]
  kernel_rfl
theorem search_found (w : List Nat) (hw : ∀ c ∈ w, Al c) (hn : w ≠ []) (hs : ¬ ∀ c ∈ w, uns c = false) :
    ∃ i, M.runFor 4 (forSearch C₀ ⟨w⟩ 0 0 w.length false) = { M1 w w.length ⟨2122499, 65536⟩ with start := i, pos := i, handed := i + 1, pc := 18, answer := some true, outcome := some .matched } := by
  have hl : w.length ≠ 0 := fun z => hn (List.length_eq_zero_iff.mp z)
  obtain ⟨σ, e, f1, f2, f3⟩ := admit w hw (({} : Sre.Seen).add 14) w 0 (({} : Sre.Seen).add 14) (.inl (by kernel_rfl)) rfl
  rw [search_eq, if_neg (by simp; (run_tac Drv.lomega))]
  cases hf : firstU w with
  | none => exact absurd (firstU_none.mp hf) hs
  | some i =>
    obtain ⟨c, hc, hu⟩ := firstU_some hf
    have hi : i < w.length := (List.getElem?_eq_some_iff.mp hc).1
    have hσ := f3 (by rw [hf]; simp)
    have e2 := inSet20 c (hw c (List.mem_of_getElem? hc)) hu
    rw [hu, ← hσ] at e2
    have z : M.attemptFrom (M1 w w.length (({} : Sre.Seen).add 14)) 0 true = M.attemptAt (M1 w w.length σ) i true := by
      unfold M.attemptFrom
      rw [if_neg (by show ¬ ((!M.hasFirstSet _) = true); have : M.hasFirstSet (M1 w w.length (({} : Sre.Seen).add 14)) = true := by kernel_rfl
                     rw [this]; decide)]
      rw [show M.admitted (M1 w w.length (({} : Sre.Seen).add 14)) ((M1 w w.length (({} : Sre.Seen).add 14)).lim + 1 - 0) 0 (M1 w w.length (({} : Sre.Seen).add 14)).seen = M.admitted (M1 w w.length (({} : Sre.Seen).add 14)) (w.length + 1 - 0) 0 (({} : Sre.Seen).add 14) from rfl, e, hf]
      simp only [Option.map_some, Nat.zero_add]
      rfl
    rw [z, found_run w i c σ _ hi hc e2, show Sre.Seen.add ⟨2122497, 65536⟩ 1 = (⟨2122499, 65536⟩ : Sre.Seen) from by kernel_rfl]
    exact ⟨i, rfl⟩
end
section
open PySem PySem.W PySem.W.X PyProof.Rows
open PySem.Builtin.Str PySem.StrLaws
theorem tin_no (x : List Nat) (c : Nat) (h : c ∉ x) : Fast.tw15715988071286343644 (sL x) (sL [c]) 0 (sL x).length 1 = [] := by
  rw [← Fast.te15715988071286343644]
  have := found_one (sL x) c
  rw [decide_eq_false (by simpa [sL] using h)] at this
  have e : (occurrences (sL x) ⟨#[c]⟩ 0 (sL x).length 1).isEmpty = true := by
    cases hc : (occurrences (sL x) ⟨#[c]⟩ 0 (sL x).length 1).isEmpty with
    | true => rfl
    | false => rw [hc] at this; cases this
  exact List.isEmpty_iff.mp e
theorem tin_yes (x : List Nat) (c : Nat) (h : c ∈ x) : ∃ i r, Fast.tw15715988071286343644 (sL x) (sL [c]) 0 (sL x).length 1 = i :: r := by
  rw [← Fast.te15715988071286343644]
  have := found_one (sL x) c
  rw [decide_eq_true (by simpa [sL] using h)] at this
  show ∃ i r, occurrences (sL x) ⟨#[c]⟩ 0 (sL x).length 1 = i :: r
  cases hc : occurrences (sL x) ⟨#[c]⟩ 0 (sL x).length 1 with
  | nil => rw [hc] at this; cases this
  | cons i r => exact ⟨i, r, rfl⟩
end
section
open PySem PySem.W PySem.W.X PyProof.Rows
noncomputable def tl4 (a b c d : Nat) : Nat → Nat
  | 0 => a
  | 1 => b
  | 2 => c
  | _ => d
theorem rot {α : Type} (u v R : List α) : (u ++ (v ++ R)).Perm (v ++ (u ++ R)) := by
  rw [← List.append_assoc, ← List.append_assoc]
  exact List.perm_append_comm.append_right R
noncomputable abbrev LX (P : Params) (x y : Addr) (tk : Nat → Nat) (b pb fs : Addr) (sv tv : Value) (a : Addr) (t1 t2 t3 t4 t5 t6 : Nat) (buf : Str) (p : Int) (e : Nat) (rest : List (Addr × Obj)) : List (Addr × Obj) :=
  (x, lexO y) :: (y, lexD P tk b pb fs sv tv) :: (b, sio a) :: (a, sioD P t1 t2 t3 t4 t5 t6 buf p e) :: (pb, dqO) :: (fs, dqO) :: rest
theorem sg_ne (s₀ : Sg) (sg : List Sg) (h : (s₀ :: sg).any Sg.isq = false) : (cont (s₀ :: sg)).length ≠ 0 := by
  cases s₀ with
  | b c => simp [cont, Sg.c]
  | q cs => simp [Sg.isq] at h
section
variable (X : Env0) (B : BaseF X.w.params X.h₀) (hA : X.A.handled = none) (κ : Kt) (R : Room X κ 800 5000) (k : Result → Sem Fin) (x y a b L t1 t2 t3 t4 t5 e pb fs: Nat) (tk : Nat → Nat) (bl : List Nat) (hb : bl.length < 1000) (rest : List (Addr × Obj)) (g : Array Value)
include B hA R hb
theorem loop_w' (s₀ : Sg) (sg : List Sg) (h0 : ∀ c, s₀ = .b c → c ≠ 41) (hsg : ∀ s ∈ s₀ :: sg, s.ok) (n T t6 ts tt : Nat) (tl : Nat → Nat) (p : Nat) (r : List Nat) (hp : bl.drop p = rend (s₀ :: sg) ++ r) (hr : r = [] ∨ ∃ r', r = 32 :: r') (hl : (cont (s₀ :: sg)).length < 1000)
    (h : ∀ sv' (p' : Nat) n' T' t6' tt' tl' nc', T ≤ T' → ((r = [] ∧ sv' = .none ∧ p' = (sL bl).length) ∨ (∃ ts', r ≠ [] ∧ sv' = sS 32 ts' ∧ p' = p + (rend (s₀ :: sg)).length + 1)) → Go X ⟨κ, k (.ok .next), LD X.w.params L (rtF X.w.params tl' x ((s₀ :: sg).any Sg.isq) nc') x y tk b pb fs sv' (.str (sL (cont (s₀ :: sg))) tt') a t1 t2 t3 t4 t5 t6' (sL bl) p' e rest, g, n', 820, T'⟩) :
    Go X ⟨.ret (rtLoop L) none k κ, denQ (rtLoop L), LD X.w.params L (rtF0 X.w.params tl x false) x y tk b pb fs (sS 32 ts) (.str (sL []) tt) a t1 t2 t3 t4 t5 t6 (sL bl) p e rest, g, n, 820, T⟩ :=
  loop_w X B hA κ R k x y a b L t1 t2 t3 t4 t5 e pb fs tk bl hb rest g s₀ sg h0 hsg n T t6 ts tt tl p r hp hr hl
    (fun z n' T' t6' tt' tl' nc' h3 => h _ _ n' T' t6' tt' tl' nc' h3 (.inl ⟨z, rfl, rfl⟩))
    (fun r' z n' T' t6' ts' tt' tl' nc' h3 => h _ _ n' T' t6' tt' tl' nc' h3 (.inr ⟨ts', by rw [z]; simp, rfl, rfl⟩))
theorem loop_e (n T t6 tt : Nat) (tl : Nat → Nat) (sv : Value) (hsv : sv = .none ∨ ∃ ts, sv = sS 32 ts)
    (h : ∀ n' T' tt' tl' nc', T ≤ T' → Go X ⟨κ, k (.ok .next), LD X.w.params L (rtF X.w.params tl' x false nc') x y tk b pb fs .none (.str (sL []) tt') a t1 t2 t3 t4 t5 t6 (sL bl) ((sL bl).length : Nat) e rest, g, n', 820, T'⟩) :
    Go X ⟨.ret (rtLoop L) none k κ, denQ (rtLoop L), LD X.w.params L (rtF0 X.w.params tl x false) x y tk b pb fs sv (.str (sL []) tt) a t1 t2 t3 t4 t5 t6 (sL bl) ((sL bl).length : Nat) e rest, g, n, 820, T⟩ := by
  rcases hsv with rfl | ⟨ts, rfl⟩
  · exact turn_n_eof X B hA κ R k n T x y a b L t1 t2 t3 t4 t5 t6 e pb fs tt tk tl false (sL []) (sL bl) _ rest g rfl (by rw [sL_len]; exact hb) (fun n' T' tt' tl' nc' h3 => h n' T' tt' tl' nc' h3)
  · exact turn_s_eof X B hA κ R k n T x y a b L t1 t2 t3 t4 t5 t6 e pb fs ts tt tk tl false (sL []) (sL bl) _ rest g rfl (by rw [sL_len]; exact hb) (fun n' T' tl' nc' h3 => h n' T' tt tl' nc' h3)
end
section
variable (X : Env0) (B : BaseF X.w.params X.h₀) (hA : X.A.handled = none) (κ : Kt) (R : Room X κ 700 4000) (k : Result → Sem Fin) (x y a b t1 t2 t3 t4 t5 e pb fs: Nat) (tk : Nat → Nat) (bl : List Nat) (hb : bl.length < 1000) (rest : List (Addr × Obj)) (g : Array Value)
include B hA R hb
theorem next_w (gd : Bool) (lv : List Value) (s₀ : Sg) (sg : List Sg) (h0 : ∀ c, s₀ = .b c → c ≠ 41) (hsg : ∀ s ∈ s₀ :: sg, s.ok) (n T t6 ts tt : Nat) (p : Nat) (r : List Nat) (hp : bl.drop p = rend (s₀ :: sg) ++ r) (hr : r = [] ∨ ∃ r', r = 32 :: r') (hl : (cont (s₀ :: sg)).length < 1000) 
    (h : ∀ sv' (p' : Nat) n' T' t6' tt' t2', T ≤ T' → ((r = [] ∧ sv' = .none ∧ p' = (sL bl).length) ∨ (∃ ts', r ≠ [] ∧ sv' = sS 32 ts' ∧ p' = p + (rend (s₀ :: sg)).length + 1)) → Go X ⟨κ, k (.ok (.ret (.str (sL (cont (s₀ :: sg))) t2'))), LX X.w.params x y tk b pb fs sv' (.str (sL []) tt') a t1 t2 t3 t4 t5 t6' (sL bl) p' e rest, g, n', 820, T'⟩) :
    Go X ⟨κ, .call (.call (.ref 729) ⟨[.ref x], []⟩) none gd lv k, LX X.w.params x y tk b pb fs (sS 32 ts) (.str (sL []) tt) a t1 t2 t3 t4 t5 t6 (sL bl) p e rest, g, n, 820, T⟩ := by
  refine go_enter rfl ?_
  run_tac Drv.drive [729, 693, 700]
  refine go_enter rfl ?_
  refine go_perm (LD X.w.params (n + 822) (rtF0 X.w.params (tl4 (T + 5) (T + 6) (T + 8) (T + 7)) x false) x y tk b pb fs (sS 32 ts) (.str (sL []) tt) a t1 t2 t3 t4 t5 t6 (sL bl) p e (_ :: _ :: (pb, dqO) :: (fs, dqO) :: rest)) ((rot [_, _, _, _] [_, _] _).cons _) ?_
  refine go_base 3 rfl ?_
  refine loop_w' X B hA _ (by exact (R.ret.ret.ret.le rfl rfl)) _ x y a b (n + 822) t1 t2 t3 t4 t5 e pb fs tk bl hb _ g s₀ sg h0 hsg _ _ t6 ts tt _ p r hp hr hl (fun sv' p' n' T' t6' tt' tl' nc' h3 hsv => ?_)
  have hne : (s₀ :: sg).any Sg.isq = false → (cont (s₀ :: sg)).length ≠ 0 := sg_ne s₀ sg
  have h' := fun n' T' tt' t2' z => h sv' p' n' T' t6' tt' t2' z hsv
  clear h hsv hl hp h0 hsg hr
  generalize (s₀ :: sg).any Sg.isq = q at *
  generalize cont (s₀ :: sg) = ct at *
  cases q with
  | true =>
    run_tac Drv.drive [729, 693, 700]
    refine go_enter rfl ?_
    run_tac Drv.drive [729, 693, 700]
    refine go_drop (LX X.w.params x y tk b pb fs sv' (.str (sL []) _) a t1 t2 t3 t4 t5 t6' (sL bl) p' e rest) (by repeat (first | exact List.Sublist.refl _ | apply List.Sublist.cons_cons | apply List.Sublist.cons)) ?_
    intro n2 T2 hT2
    exact h' n2 T2 _ _ (by run_tac Drv.tom)
  | false =>
    have hne := hne rfl
    cases ct with
    | nil => exact absurd rfl hne
    | cons c ct =>
      run_tac Drv.drive [729, 693, 700]
      refine go_enter rfl ?_
      run_tac Drv.drive [729, 693, 700]
      refine go_drop (LX X.w.params x y tk b pb fs sv' (.str (sL []) _) a t1 t2 t3 t4 t5 t6' (sL bl) p' e rest) (by repeat (first | exact List.Sublist.refl _ | apply List.Sublist.cons_cons | apply List.Sublist.cons)) ?_
      intro n2 T2 hT2
      exact h' n2 T2 _ _ (by run_tac Drv.tom)
theorem next_end (hκ : handledOf none κ = none) (L1 L0 e1 e0 : Nat) (en1 en0 : Array DictEntry) (sl : Array (Option Value)) (hF : (aA X.A κ).frames = some [fEnv fd744 744 L1, fEnv fd818 818 L0]) (gd : Bool) (lv : List Value) (n T t6 tt : Nat) (sv : Value) (hsv : sv = .none ∨ ∃ ts, sv = sS 32 ts)
    (h : ∀ n' T' a1 a2 a3 sl1 sl', T ≤ T' → Go X ⟨κ, k (.error (.ref a1)), (a1, ⟨.type "StopIteration", none, .fields #[.ref a2, .ref a3, .none, .none, .bool false, .none], #[]⟩) :: (L1, ⟨.type "frame", none, .dict en1 e1, sl1⟩) :: (L0, ⟨.type "frame", none, .dict en0 e0, sl'⟩) :: rest, g, n', 820, T'⟩) :
    Go X ⟨κ, .call (.call (.ref 729) ⟨[.ref x], []⟩) none gd lv k, LX X.w.params x y tk b pb fs sv (.str (sL []) tt) a t1 t2 t3 t4 t5 t6 (sL bl) ((sL bl).length : Nat) e ((L1, ⟨.type "frame", none, .dict en1 e1, #[]⟩) :: (L0, ⟨.type "frame", none, .dict en0 e0, sl⟩) :: rest), g, n, 820, T⟩ := by
  refine go_enter rfl ?_
  run_tac Drv.drive [729, 693, 700]
  refine go_enter rfl ?_
  refine go_perm (LD X.w.params (n + 822) (rtF0 X.w.params (tl4 (T + 5) (T + 6) (T + 8) (T + 7)) x false) x y tk b pb fs sv (.str (sL []) tt) a t1 t2 t3 t4 t5 t6 (sL bl) ((sL bl).length : Nat) e (_ :: _ :: (pb, dqO) :: (fs, dqO) :: (L1, ⟨.type "frame", none, .dict en1 e1, #[]⟩) :: (L0, ⟨.type "frame", none, .dict en0 e0, sl⟩) :: rest)) ((rot [_, _, _, _] [_, _] _).cons _) ?_
  refine go_base 3 rfl ?_
  refine loop_e X B hA _ (by exact (R.ret.ret.ret.le rfl rfl)) _ x y a b (n + 822) t1 t2 t3 t4 t5 e pb fs tk bl hb _ g _ _ t6 tt _ sv hsv (fun n' T' tt' tl' nc' h3 => ?_)
  run_tac Drv.drive [729, 693, 700]
  refine go_enter rfl ?_
  run_tac Drv.drive [729, 693, 700]
  by_cases hsl : (sl.getD 3 none).isSome = true
  · run_tac Drv.drive [729, 693, 700]
    refine go_drop ((_, ⟨.type "StopIteration", none, .fields #[.ref _, .ref _, .none, .none, .bool false, .none], #[]⟩) :: (L1, ⟨.type "frame", none, .dict en1 e1, _⟩) :: (L0, ⟨.type "frame", none, .dict en0 e0, _⟩) :: rest) (by repeat (first | exact List.Sublist.refl _ | apply List.Sublist.cons_cons | apply List.Sublist.cons)) ?_
    intro n2 T2 hT2
    exact h n2 T2 _ _ _ _ _ (by run_tac Drv.tom)
  · run_tac Drv.drive [729, 693, 700]
    refine go_drop ((_, ⟨.type "StopIteration", none, .fields #[.ref _, .ref _, .none, .none, .bool false, .none], #[]⟩) :: (L1, ⟨.type "frame", none, .dict en1 e1, _⟩) :: (L0, ⟨.type "frame", none, .dict en0 e0, _⟩) :: rest) (by repeat (first | exact List.Sublist.refl _ | apply List.Sublist.cons_cons | apply List.Sublist.cons)) ?_
    intro n2 T2 hT2
    exact h n2 T2 _ _ _ _ _ (by run_tac Drv.tom)
end
end
section
open PySem PySem.W PySem.W.X PyProof.Rows
noncomputable def lstO (vs : List Value) (e : Nat) : Obj := ⟨.type "list", none, .seq ⟨vs⟩ e, #[]⟩
theorem perm_at1 {α : Type} : ∀ {s : List α} {x : α} (i : Nat) (h : s[i]? = some x), (x :: s.eraseIdx i).Perm s
  | [], _, _, h => by simp at h
  | a :: s, x, 0, h => by simp at h; subst h; exact .refl _
  | a :: s, x, i + 1, h => by
    simp at h
    rw [List.eraseIdx_cons_succ]
    exact (List.Perm.swap a x _).trans ((perm_at1 i h).cons a)
theorem perm_at {α : Type} {s t : List α} {x : α} (i : Nat) (h : s[i]? = some x) (ih : t.Perm (s.eraseIdx i)) : (x :: t).Perm s :=
  (ih.cons x).trans (perm_at1 i h)
/- texts with their tokens -/
noncomputable def vsP (ps : List (List Nat × Nat)) : List Value := ps.map fun p => .str (sL p.1) p.2
noncomputable def wcont (w : Sg × List Sg) : List Nat := cont (w.1 :: w.2)
noncomputable def WOk (w : Sg × List Sg) : Prop := (∀ c, w.1 = .b c → c ≠ 41) ∧ (∀ s ∈ w.1 :: w.2, s.ok) ∧ (cont (w.1 :: w.2)).length < 1000
noncomputable def lineR : List (Sg × List Sg) → List Nat
  | [] => []
  | [w] => rend (w.1 :: w.2)
  | w :: w' :: ws => rend (w.1 :: w.2) ++ 32 :: lineR (w' :: ws)
noncomputable def exL (l it : Addr) : Code := .builtin SL.s9316426964554523096x16 ⟨[.ref l, .ref it, .none], []⟩
section
variable (X : Env0) (B : BaseF X.w.params X.h₀) (hA : X.A.handled = none) (κ : Kt) (R : Room X κ 690 3900) (k : Result → Sem Fin) (x y a b l t1 t2 t3 t4 t5 e pb fs : Nat) (tk : Nat → Nat) (bl : List Nat) (hb : bl.length < 1000) (rest : List (Addr × Obj)) (g : Array Value)
include B hA R hb
theorem ext_w (s₀ : Sg) (sg : List Sg) (h0 : ∀ c, s₀ = .b c → c ≠ 41) (hsg : ∀ s ∈ s₀ :: sg, s.ok) (n T t6 ts tt ep : Nat) (vs : List Value) (hvs : vs.length < 1000) (p : Nat) (r : List Nat) (hp : bl.drop p = rend (s₀ :: sg) ++ r) (hr : r = [] ∨ ∃ r', r = 32 :: r') (hl : (cont (s₀ :: sg)).length < 1000) 
    (h : ∀ sv' (p' : Nat) n' T' t6' tt' t2' ep', T ≤ T' → ((r = [] ∧ sv' = .none ∧ p' = (sL bl).length) ∨ (∃ ts', r ≠ [] ∧ sv' = sS 32 ts' ∧ p' = p + (rend (s₀ :: sg)).length + 1)) → Go X ⟨.ret (exL l x) none k κ, denQ (exL l x), LX X.w.params x y tk b pb fs sv' (.str (sL []) tt') a t1 t2 t3 t4 t5 t6' (sL bl) p' e ((l, lstO (vs ++ [.str (sL (cont (s₀ :: sg))) t2']) ep') :: rest), g, n', 820, T'⟩) :
    Go X ⟨.ret (exL l x) none k κ, denQ (exL l x), LX X.w.params x y tk b pb fs (sS 32 ts) (.str (sL []) tt) a t1 t2 t3 t4 t5 t6 (sL bl) p e ((l, lstO vs ep) :: rest), g, n, 820, T⟩ := by
  run_tac Drv.drive [100016]
  refine next_w X B hA _ (by exact R.ret.le rfl rfl) _ x y a b t1 t2 t3 t4 t5 e pb fs tk bl hb _ g _ _ s₀ sg h0 hsg _ _ t6 ts tt p r hp hr hl fun sv' p' n' T' t6' tt' t2' h1 h2 => ?_
  run_tac Drv.drive [100016]
  simp only [appR]
  refine go_again (by kernel_rfl) ?_
  refine go_drop (LX X.w.params x y tk b pb fs sv' (.str (sL []) tt') a t1 t2 t3 t4 t5 t6' (sL bl) p' e ((l, lstO (vs ++ [.str (sL (cont (s₀ :: sg))) t2']) _) :: rest)) (by repeat (first | exact List.Sublist.refl _ | apply List.Sublist.cons_cons | apply List.Sublist.cons)) ?_
  intro n2 T2 hT2
  exact h sv' p' n2 T2 t6' tt' t2' _ (by run_tac Drv.tom) h2
theorem ext_end (hκ : handledOf none κ = none) (L1 L0 e1 e0 : Nat) (en1 en0 : Array DictEntry) (sl : Array (Option Value)) (hF : (aA X.A κ).frames = some [fEnv fd744 744 L1, fEnv fd818 818 L0]) (n T t6 tt ep : Nat) (vs : List Value) (sv : Value) (hsv : sv = .none ∨ ∃ ts, sv = sS 32 ts)
    (h : ∀ n' T' sl1 sl', T ≤ T' → Go X ⟨κ, k (.ok (.ret .none)), (L1, ⟨.type "frame", none, .dict en1 e1, sl1⟩) :: (L0, ⟨.type "frame", none, .dict en0 e0, sl'⟩) :: (l, lstO vs ep) :: rest, g, n', 820, T'⟩) :
    Go X ⟨.ret (exL l x) none k κ, denQ (exL l x), LX X.w.params x y tk b pb fs sv (.str (sL []) tt) a t1 t2 t3 t4 t5 t6 (sL bl) ((sL bl).length : Nat) e ((l, lstO vs ep) :: (L1, ⟨.type "frame", none, .dict en1 e1, #[]⟩) :: (L0, ⟨.type "frame", none, .dict en0 e0, sl⟩) :: rest), g, n, 820, T⟩ := by
  refine go_perm (LX X.w.params x y tk b pb fs sv (.str (sL []) tt) a t1 t2 t3 t4 t5 t6 (sL bl) ((sL bl).length : Nat) e ((L1, ⟨.type "frame", none, .dict en1 e1, #[]⟩) :: (L0, ⟨.type "frame", none, .dict en0 e0, sl⟩) :: (l, lstO vs ep) :: rest)) ((((((((rot [_, _] [_] _).cons _).cons _).cons _).cons _).cons _).cons _)) ?_
  run_tac Drv.drive [100016]
  refine next_end X B hA _ (by exact R.ret.le rfl rfl) _ x y a b t1 t2 t3 t4 t5 e pb fs tk bl hb _ g (by exact hκ) L1 L0 e1 e0 en1 en0 sl (by exact frames_ret hF) _ _ _ _ t6 tt sv hsv fun n' T' a1 a2 a3 sl1 sl' h1 => ?_
  run_tac Drv.drive [100016]
  refine go_drop ((L1, ⟨.type "frame", none, .dict en1 e1, sl1⟩) :: (L0, ⟨.type "frame", none, .dict en0 e0, sl'⟩) :: (l, lstO vs ep) :: rest) (by repeat (first | exact List.Sublist.refl _ | apply List.Sublist.cons_cons | apply List.Sublist.cons)) ?_
  intro n2 T2 hT2
  exact h n2 T2 sl1 sl' (by run_tac Drv.tom)
/- all the words of a line -/
theorem ext_all (hκ : handledOf none κ = none) (L1 L0 e1 e0 : Nat) (en1 en0 : Array DictEntry) (sl : Array (Option Value)) (hF : (aA X.A κ).frames = some [fEnv fd744 744 L1, fEnv fd818 818 L0]) :
    ∀ (ws : List (Sg × List Sg)) (hws : ∀ w ∈ ws, WOk w) (n T t6 tt ep : Nat) (vs : List Value) (sv : Value) (p : Nat) (hvs : vs.length + ws.length < 1000)
    (h0 : ws = [] → p = (sL bl).length ∧ (sv = .none ∨ ∃ ts, sv = sS 32 ts)) (h1 : ws ≠ [] → bl.drop p = lineR ws ∧ (∃ ts, sv = sS 32 ts))
    (h : ∀ n' T' sl1 sl' ep' ps, T ≤ T' → ps.map Prod.fst = ws.map wcont → Go X ⟨κ, k (.ok (.ret .none)), (L1, ⟨.type "frame", none, .dict en1 e1, sl1⟩) :: (L0, ⟨.type "frame", none, .dict en0 e0, sl'⟩) :: (l, lstO (vs ++ vsP ps) ep') :: rest, g, n', 820, T'⟩),
    Go X ⟨.ret (exL l x) none k κ, denQ (exL l x), LX X.w.params x y tk b pb fs sv (.str (sL []) tt) a t1 t2 t3 t4 t5 t6 (sL bl) p e ((l, lstO vs ep) :: (L1, ⟨.type "frame", none, .dict en1 e1, #[]⟩) :: (L0, ⟨.type "frame", none, .dict en0 e0, sl⟩) :: rest), g, n, 820, T⟩ := by
  intro zs
  induction zs with
  | nil =>
    intro hws n T t6 tt ep vs sv p hvs h0 h1 h
    obtain ⟨hp, hsv⟩ := h0 rfl
    rw [hp]
    refine ext_end X B hA κ R k x y a b l t1 t2 t3 t4 t5 e pb fs tk bl hb rest g hκ L1 L0 e1 e0 en1 en0 sl hF n T t6 tt ep vs sv hsv fun n' T' sl1 sl' hT => ?_
    have z := h n' T' sl1 sl' ep [] hT rfl
    rw [show vs ++ vsP [] = vs from List.append_nil _] at z
    exact z
  | cons w ws ih =>
    intro hws n T t6 tt ep vs sv p hvs h0 h1 h
    obtain ⟨hp, ts, hsv⟩ := h1 (by simp)
    have hw := hws w (.head _)
    rw [hsv]
    obtain ⟨s₀, sg⟩ := w
    rw [List.length_cons] at hvs
    have hline : ∃ r, bl.drop p = rend (s₀ :: sg) ++ r ∧ (ws = [] → r = []) ∧ (ws ≠ [] → r = 32 :: lineR ws) := by
      cases ws with
      | nil => exact ⟨[], by rw [hp]; simp [lineR], fun _ => rfl, fun z => absurd rfl z⟩
      | cons w' ws' => exact ⟨32 :: lineR (w' :: ws'), by rw [hp]; rfl, fun z => by simp at z, fun _ => rfl⟩
    obtain ⟨r, hr, hr0, hr1⟩ := hline
    refine ext_w X B hA κ R k x y a b l t1 t2 t3 t4 t5 e pb fs tk bl hb _ g s₀ sg hw.1 hw.2.1 n T t6 ts tt ep vs (by run_tac Drv.tom) p r hr (by
      cases ws with
      | nil => exact .inl (hr0 rfl)
      | cons w' ws' => exact .inr ⟨_, hr1 (by simp)⟩) hw.2.2 fun sv' p' n' T' t6' tt' t2' ep' hT hc => ?_
    refine ih (fun w hw => hws w (.tail _ hw)) n' T' t6' tt' ep' _ sv' p' (by simp; (run_tac Drv.lomega)) (fun z => ?_) (fun z => ?_) fun n2 T2 sl1 sl' ep2 ps hT2 hps => ?_
    · rcases hc with ⟨_, h2, h3⟩ | ⟨ts', h2, _⟩
      · exact ⟨h3, .inl h2⟩
      · exact absurd (hr0 z) h2
    · rcases hc with ⟨h2, _⟩ | ⟨ts', _, h3, h4⟩
      · rw [hr1 z] at h2; cases h2
      · refine ⟨?_, ts', h3⟩
        rw [h4, Nat.add_assoc, ← List.drop_drop, hr, ← List.drop_drop, List.drop_left, hr1 z]; rfl
    · have z := h n2 T2 sl1 sl' ep2 ((cont (s₀ :: sg), t2') :: ps) (by run_tac Drv.tom) (by rw [List.map_cons, hps]; rfl)
      rw [List.append_assoc]
      exact z
end
end
section
open PySem PySem.W PySem.W.X PyProof.Rows
noncomputable def tkF (T : Nat) : Nat → Nat
  | 0 => T + 36
  | 2 => T + 38
  | 4 => T + 40
  | 6 => T + 42
  | 8 => T + 45
  | 9 => T + 96
  | 10 => T + 48
  | 11 => T + 52
  | 12 => T + 57
  | 13 => T + 55
  | 14 => T + 59
  | 16 => T + 62
  | 17 => T + 60
  | 18 => T + 65
  | 19 => T + 63
  | 20 => T + 68
  | 21 => T + 66
  | 22 => T + 71
  | 24 => T + 73
  | 26 => T + 76
  | 27 => T + 74
  | 28 => T + 79
  | 29 => T + 77
  | 30 => T + 82
  | 32 => T + 84
  | 34 => T + 86
  | 36 => T + 90
  | 37 => T + 87
  | _ => 0

/- split reads a line of words -/
theorem split_s (X : Env0) (B : BaseF X.w.params X.h₀) (hA : X.A.handled = none) (κ : Kt) (R : Room X κ 600 3000) (hκ : handledOf none κ = none) (k : Result → Sem Fin) (gd : Bool) (lv : List Value) (n T ts L0 e0 : Nat) (en0 : Array DictEntry) (sl : Array (Option Value)) (hF : (aA X.A κ).frames = some [fEnv fd818 818 L0]) (ws : List (Sg × List Sg)) (hws : ∀ w ∈ ws, WOk w) (hwl : ws.length < 1000) (hb : (lineR ws).length < 1000) (rest : List (Addr × Obj)) (g : Array Value)
    (h : ∀ n' T' l sl' ep ps, T ≤ T' → ps.map Prod.fst = ws.map wcont → Go X ⟨κ, k (.ok (.ret (.ref l))), (l, lstO (vsP ps) ep) :: (L0, ⟨.type "frame", none, .dict en0 e0, sl'⟩) :: rest, g, n', 820, T'⟩) :
    Go X ⟨κ, .call (.call (.ref 744) ⟨[.str (sL (lineR ws)) ts], []⟩) none gd lv k, (L0, ⟨.type "frame", none, .dict en0 e0, sl⟩) :: rest, g, n, 820, T⟩ := by
  have hb' : (sL (lineR ws)).length < 1000 := by rw [sL_len]; exact hb
  refine go_enter rfl ?_
  generalize hbl : lineR ws = bl at *
  run_tac Drv.drive [744, 732, 656, 597, 90, 367, 374, 381, 722, 100016]
  refine go_again (by kernel_rfl) ?_
  refine go_perm ((n + 822, lexO (n + 821)) :: (n + 821, lexD X.w.params (tkF T) (n + 828) (n + 831) (n + 832) (sS 32 (T + 69)) (.str (sL []) (T + 80))) :: (n + 828, sio (n + 827)) :: (n + 827, sioD X.w.params (T + 19) 756 (T + 22) ts (T + 25) (T + 23) (sL bl) (0 : Nat) 3) :: (n + 831, dqO) :: (n + 832, dqO) :: (n + 833, lstO [] 2) :: (n + 820, _) :: (L0, ⟨.type "frame", none, .dict en0 e0, sl⟩) :: _)
    (perm_at 12 rfl (perm_at 12 rfl (perm_at 6 rfl (perm_at 6 rfl (perm_at 3 rfl (perm_at 2 rfl (perm_at 1 rfl (perm_at 7 rfl (perm_at 7 rfl (.refl _)))))))))) ?_
  refine go_drop (LX X.w.params (n + 822) (n + 821) (tkF T) (n + 828) (n + 831) (n + 832) (sS 32 (T + 69)) (.str (sL []) (T + 80)) (n + 827) (T + 19) 756 (T + 22) ts (T + 25) (T + 23) (sL bl) (0 : Nat) 3 ((n + 833, lstO [] 2) :: (n + 820, ⟨.type "frame", none, .dict _ _, #[]⟩) :: (L0, ⟨.type "frame", none, .dict en0 e0, sl⟩) :: rest)) (by repeat (first | exact List.Sublist.refl _ | apply List.Sublist.cons_cons | apply List.Sublist.cons)) ?_
  intro n1 T1 hT1
  refine ext_all X B hA _ (by exact R.ret.ret.le rfl rfl) _ (n + 822) (n + 821) (n + 827) (n + 828) (n + 833) _ _ _ _ _ _ (n + 831) (n + 832) (tkF T) bl hb rest g (by exact hκ) (n + 820) L0 _ e0 _ en0 sl (by exact frames_ret (frames_ret hF)) ws hws n1 T1 (T + 23) (T + 80) 2 [] _ 0 (by simp; exact hwl) (fun z => ⟨?_, .inr ⟨_, rfl⟩⟩) (fun z => ⟨hbl.symm, _, rfl⟩) fun n2 T2 sl1 sl' ep' ps hT2 hps => ?_
  · subst z
    rw [← hbl]; rfl
  · run_tac Drv.drive [744]
    refine go_perm ((n + 833, lstO (vsP ps) ep') :: (L0, ⟨.type "frame", none, .dict en0 e0, sl'⟩) :: _) (perm_at 2 rfl (perm_at 1 rfl (.refl _))) ?_
    refine go_drop ((n + 833, lstO (vsP ps) ep') :: (L0, ⟨.type "frame", none, .dict en0 e0, sl'⟩) :: rest) (by repeat (first | exact List.Sublist.refl _ | apply List.Sublist.cons_cons | apply List.Sublist.cons)) ?_
    intro n3 T3 hT3
    exact h n3 T3 _ sl' _ ps (by run_tac Drv.tom) hps
end
section
open PySem PySem.W PySem.W.X PyProof.Rows
theorem tsearch {w : List Nat} {m : Sre.M} (hl : w.length < 100) (h : Sre.M.runFor 4 (Sre.forSearch C₀ ⟨w⟩ 0 0 w.length false) = m) :
    Fast.tw8316600638463587285 4 (Fast.tw17975430018945453453 C₀ ⟨w⟩ 0 (min (Int.toNat 0) w.length) (min (Int.toNat 9223372036854775807) w.length) false) = m := by
  rw [← Fast.te8316600638463587285, ← Fast.te17975430018945453453, show min (Int.toNat 0) w.length = 0 from by simp, show min (Int.toNat 9223372036854775807) w.length = w.length from by
    show min 9223372036854775807 w.length = w.length; (run_tac Drv.lomega)]; exact h
noncomputable def qt (w : List Nat) : List Nat := if w = [] then [39, 39] else if (w.all fun c => !uns c) = true then w else [39] ++ repl [39] [39, 34, 39, 34, 39] w 0 ++ [39]
section
variable (X : Env0) (B : BaseF X.w.params X.h₀) (hA : X.A.handled = none) (κ : Kt) (R : Room X κ 600 3000) (k : Result → Sem Fin) (gd : Bool) (lv : List Value) (n T ts : Nat) (w : List Nat) (rest : List (Addr × Obj)) (g : Array Value)
include B hA R
theorem quote_safe (hl : w.length < 100) (hw : ∀ c ∈ w, Al c) (hn : w ≠ []) (hs : ∀ c ∈ w, uns c = false)
    (h : ∀ n' T', T ≤ T' → Go X ⟨κ, k (.ok (.ret (.str (sL w) ts))), rest, g, n', 820, T'⟩) :
    Go X ⟨κ, .call (.call (.ref 759) ⟨[.str (sL w) ts], []⟩) none gd lv k, rest, g, n, 820, T⟩ := by
  have hl' : (sL w).length < 100 := by rw [sL_len]; exact hl
  have h0 : (sL w).length ≠ 0 := by rw [sL_len]; exact fun z => hn (List.length_eq_zero_iff.mp z)
  obtain ⟨σ, hσ, e⟩ := search_safe w hw hn hs
  have e := tsearch hl e
  refine go_enter rfl ?_
  rcases hσ with rfl | rfl
  · run_tac Drv.drive [759, 752] Drv.m3
    refine go_drop rest (by repeat (first | exact List.Sublist.refl _ | apply List.Sublist.cons_cons | apply List.Sublist.cons)) ?_
    intro n2 T2 hT2
    exact h n2 T2 (by run_tac Drv.tom)
  · run_tac Drv.drive [759, 752] Drv.m3
    refine go_drop rest (by repeat (first | exact List.Sublist.refl _ | apply List.Sublist.cons_cons | apply List.Sublist.cons)) ?_
    intro n2 T2 hT2
    exact h n2 T2 (by run_tac Drv.tom)
theorem quote_uns (hl : w.length < 100) (hw : ∀ c ∈ w, Al c) (hn : w ≠ []) (hs : ¬ ∀ c ∈ w, uns c = false)
    (h : ∀ n' T' t', T ≤ T' → Go X ⟨κ, k (.ok (.ret (.str (sL ([39] ++ repl [39] [39, 34, 39, 34, 39] w 0 ++ [39])) t'))), rest, g, n', 820, T'⟩) :
    Go X ⟨κ, .call (.call (.ref 759) ⟨[.str (sL w) ts], []⟩) none gd lv k, rest, g, n, 820, T⟩ := by
  have hl' : (sL w).length < 100 := by rw [sL_len]; exact hl
  have h0 : (sL w).length ≠ 0 := by rw [sL_len]; exact fun z => hn (List.length_eq_zero_iff.mp z)
  obtain ⟨i, e⟩ := search_found w hw hn hs
  have e := tsearch hl e
  refine go_enter rfl ?_
  have hsl := scan_len [39] w 0 0
  cases hsc : scan [39] w 0 0 with
  | nil =>
    have ho := tocc w [39] (by simp) hsc
    rw [repl_nil [39] [39, 34, 39, 34, 39] w 0 hsc] at h
    run_tac Drv.drive [759, 752] Drv.m3
    refine go_drop rest (by repeat (first | exact List.Sublist.refl _ | apply List.Sublist.cons_cons | apply List.Sublist.cons)) ?_
    intro n2 T2 hT2
    exact h n2 T2 _ (by run_tac Drv.tom)
  | cons j cs =>
    have ho := tocc w [39] (by simp) hsc
    have hrl := repl_len [39] [39, 34, 39, 34, 39] w 0
    have hrp : (repl [39] [39, 34, 39, 34, 39] w 0).length ≠ 0 := by
      cases w with
      | nil => exact absurd rfl hn
      | cons c r => unfold repl; split <;> simp
    simp only [List.length_cons, List.length_nil] at hrl
    have hgl := tglue w [39] [39, 34, 39, 34, 39] (by simp) hsc
    generalize repl [39] [39, 34, 39, 34, 39] w 0 = rp at *
    rw [hsc, List.length_cons] at hsl
    have hcs : cs.length < 100 := by run_tac Drv.tom
    run_tac Drv.drive [759, 752] Drv.m3
    refine go_drop rest (by repeat (first | exact List.Sublist.refl _ | apply List.Sublist.cons_cons | apply List.Sublist.cons)) ?_
    intro n2 T2 hT2
    exact h n2 T2 _ (by run_tac Drv.tom)
theorem quote_nil (h : ∀ n' T' t', T ≤ T' → Go X ⟨κ, k (.ok (.ret (.str (sL [39, 39]) t'))), rest, g, n', 820, T'⟩) :
    Go X ⟨κ, .call (.call (.ref 759) ⟨[.str (sL []) ts], []⟩) none gd lv k, rest, g, n, 820, T⟩ := by
  refine go_enter rfl ?_
  run_tac Drv.drive [759, 752] Drv.m3
  refine go_str (sL [39, 39]) (by with_unfolding_all rfl) ?_
  refine go_drop rest (by repeat (first | exact List.Sublist.refl _ | apply List.Sublist.cons_cons | apply List.Sublist.cons)) ?_
  intro n2 T2 hT2
  exact h n2 T2 _ (by run_tac Drv.tom)
/- what quote makes of a word -/
theorem quote_all (hl : w.length < 100) (hw : ∀ c ∈ w, Al c)
    (h : ∀ n' T' t', T ≤ T' → Go X ⟨κ, k (.ok (.ret (.str (sL (qt w)) t'))), rest, g, n', 820, T'⟩) :
    Go X ⟨κ, .call (.call (.ref 759) ⟨[.str (sL w) ts], []⟩) none gd lv k, rest, g, n, 820, T⟩ := by
  unfold qt at h
  by_cases hn : w = []
  · subst hn
    exact quote_nil X B hA κ R k gd lv n T ts rest g fun n' T' t' hT => h n' T' t' hT
  · rw [if_neg hn] at h
    by_cases hs : ∀ c ∈ w, uns c = false
    · rw [if_pos (by rw [List.all_eq_true]; intro c hc; rw [hs c hc]; rfl)] at h
      exact quote_safe X B hA κ R k gd lv n T ts w rest g hl hw hn hs fun n' T' hT => h n' T' ts hT
    · rw [if_neg (by rw [List.all_eq_true]; intro z; exact hs fun c hc => by have := z c hc; cases hu : uns c with | false => rfl | true => rw [hu] at this; cases this)] at h
      exact quote_uns X B hA κ R k gd lv n T ts w rest g hl hw hn hs h
end
end
section
open PySem PySem.W PySem.W.X PyProof.Rows
/- what a generator's next item looks like: its value, the objects that come with it -/
noncomputable abbrev Item := Value → List (Addr × Obj) → Prop
/- generator j in state gs, its own objects lo, yields these items, then ends; K₀ is kept as it is -/
noncomputable def Yields (w : World) (h₀ : Heap) (j : Nat) (K₀ : List (Addr × Obj)) : List Item → GenState → List (Addr × Obj) → Prop
  | [], gs, lo => ((gs.status = .fresh ∨ gs.status = .suspended) ∧ gs.bare = true) ∧ ∀ (b : Base (model PW w)) (ga : Array GenState) (d : Drawn) (os : OsState) (κ : Kt) (k : GenResult → Sem Fin) (lv : List Value) (rest : List (Addr × Obj)) (g : Array Value) (n T : Nat),
      b.A.handled = none → handledOf none κ = none → Room ⟨w, h₀, b, ga, d, os⟩ κ 540 2400 → ga[j]? = some gs →
      (∀ n' T', T ≤ T' → Go ⟨w, h₀, b, ga.setIfInBounds j .finished, d, os⟩ ⟨κ, k (.returned .none), K₀ ++ rest, g, n', 820, T'⟩) →
      Go ⟨w, h₀, b, ga, d, os⟩ ⟨κ, .resume j (.send .none) lv k, lo ++ (K₀ ++ rest), g, n, 820, T⟩
  | I :: Is, gs, lo => ((gs.status = .fresh ∨ gs.status = .suspended) ∧ gs.bare = true) ∧ ∀ (b : Base (model PW w)) (ga : Array GenState) (d : Drawn) (os : OsState) (κ : Kt) (k : GenResult → Sem Fin) (lv : List Value) (rest : List (Addr × Obj)) (g : Array Value) (n T : Nat),
      b.A.handled = none → handledOf none κ = none → Room ⟨w, h₀, b, ga, d, os⟩ κ 540 2400 → ga[j]? = some gs →
      (∀ n' T' v nl gs' lo', T ≤ T' → I v nl → Yields w h₀ j K₀ Is gs' lo' → Go ⟨w, h₀, b, ga.setIfInBounds j gs', d, os⟩ ⟨κ, k (.yielded v), nl ++ (lo' ++ (K₀ ++ rest)), g, n', 820, T'⟩) →
      Go ⟨w, h₀, b, ga, d, os⟩ ⟨κ, .resume j (.send .none) lv k, lo ++ (K₀ ++ rest), g, n, 820, T⟩
theorem gen_room {X : Env0} {κ : Kt} {i : Nat} {k : GenResult → Sem Fin} {c : Code} {d u : Nat} (R : Room X κ d u) : Room (genX X κ i k c []) .base (d + c.weight) (u + c.cUnits) :=
  ⟨by
    have := R.d
    show (aA X.A κ).depth + frameCount ([].map Frame.where_) + c.weight ≤ d + c.weight
    simp [frameCount]; (run_tac Drv.lomega), by
    have := R.u
    show (aA X.A κ).units + unitsOf ([].map Frame.where_) + c.cUnits ≤ u + c.cUnits
    simp [unitsOf]; (run_tac Drv.lomega)⟩
theorem gen_room1 {X : Env0} {κ : Kt} {i : Nat} {k : GenResult → Sem Fin} {c c₁ : Code} {k₁ : Result → Sem Fin} {hd : Option Value} {gd : Bool} {lv : List Value} {p : Pos} {kp} {d u : Nat} (R : Room X κ d u) : Room (genX X κ i k c [.ret k₁ hd gd lv c₁ p kp]) .base (d + c₁.weight + c.weight) (u + c₁.cUnits + c.cUnits) :=
  ⟨by
    have := R.d
    show (aA X.A κ).depth + frameCount ([(c₁, p)]) + c.weight ≤ d + c₁.weight + c.weight
    simp [frameCount]; (run_tac Drv.lomega), by
    have := R.u
    show (aA X.A κ).units + unitsOf ([(c₁, p)]) + c.cUnits ≤ u + c₁.cUnits + c.cUnits
    simp [unitsOf]; (run_tac Drv.lomega)⟩
theorem gen_handled {X : Env0} {κ : Kt} {i : Nat} {k : GenResult → Sem Fin} {c : Code} (hA : X.A.handled = none) (hκ : handledOf none κ = none) : (genX X κ i k c []).A.handled = none := by
  show (aA X.A κ).handled = none
  rw [handled_aA hA κ, hκ]
theorem gen_handled1 {X : Env0} {κ : Kt} {i : Nat} {k : GenResult → Sem Fin} {c c₁ : Code} {k₁ : Result → Sem Fin} {gd : Bool} {lv : List Value} {p : Pos} {kp} (hA : X.A.handled = none) (hκ : handledOf none κ = none) : (genX X κ i k c [.ret k₁ none gd lv c₁ p kp]).A.handled = none := by
  show (aA X.A κ).handled = none
  rw [handled_aA hA κ, hκ]
theorem go_newGenA {w : World} {h₀ : Heap} {b : Base (model PW w)} {ga : Array GenState} {d : Drawn} {os : OsState} {κ : Kt} {c : Code} {k : Nat → Sem Fin} {l : List (Addr × Obj)} {g : Array Value} {n cc T : Nat}
    (h : ∀ ga', ga' = ga.push (.fresh c) → ga'[ga.size]? = some (.fresh c) → Go ⟨w, h₀, b, ga', d, os⟩ ⟨κ, k ga.size, l, g, n, cc, T⟩) : Go ⟨w, h₀, b, ga, d, os⟩ ⟨κ, .newGen c k, l, g, n, cc, T⟩ :=
  go_newGen (h _ rfl (by simp))
end
section
open PySem PySem.W PySem.W.X PyProof.Rows
noncomputable def gexpr : Expr := match bodyOf fd751 with
  | [Stmt.Return (some (Expr.Call _ [e] _ _)) _] => e
  | _ => default
noncomputable def gscope : Scope := match gexpr with
  | .GeneratorExp _ _ s _ => s
  | _ => default
noncomputable def genEnvJ (L : Addr) (cv : Value) (q : Str) : Env := { scope := gscope, locals := L, globals := 3, cells := [], qual := q, code := cv, frame := some L }
noncomputable def itO (a : Addr) (i : Nat) : Obj := ⟨.type "list_iterator", none, .fields #[.ref a, .int i 0], #[]⟩
noncomputable def gf0 (P : Params) (it : Addr) (t : Nat) : Obj := ⟨.type "frame", none, .dict #[ent P ⟨#[46, 48]⟩ t (.ref it)] 1, #[]⟩
noncomputable def gf1 (P : Params) (it : Addr) (t t2 : Nat) (v : Value) : Obj := ⟨.type "frame", none, .dict #[ent P ⟨#[46, 48]⟩ t (.ref it), ent P ⟨#[97, 114, 103]⟩ t2 v] 2, #[]⟩
noncomputable abbrev gcL (it L : Addr) (cv : Value) (q : Str) : Code := .compLoop gexpr 0 (.ref it) .none (genEnvJ L cv q)
section
variable (X : Env0) (B : BaseF X.w.params X.h₀) (hA : X.A.handled = none) (R : Room X .base 550 2500) (n T a e L it t: Nat) (cv : Value) (q : Str) (ps : List (List Nat × Nat)) (rest : List (Addr × Obj)) (g : Array Value)
include B hA R
theorem gstart (l : List (Addr × Obj))
    (h : ∀ n' T', T ≤ T' → Go X ⟨.base, .pure (.again (gcL it L cv q)), (it, itO a 0) :: l, g, n', 820, T'⟩) :
    Go X ⟨.base, denQ (.compStart gexpr 0 (.ref it) .none (genEnvJ L cv q)), (it, itO a 0) :: l, g, n, 820, T⟩ := by
  by_cases hrow : X.w.params.followText "comprehension-iter-twice" = true
  · run_tac Drv.drive [751]
    refine go_drop _ (List.Sublist.refl _) fun n' T' hT => h n' T' (by run_tac Drv.tom)
  · run_tac Drv.drive [751]
    refine go_drop _ (List.Sublist.refl _) fun n' T' hT => h n' T' (by run_tac Drv.tom)
theorem gturn (fr : Obj) (hfr : fr = gf0 X.w.params it t ∨ ∃ t2 v, fr = gf1 X.w.params it t t2 v) (w : List Nat) (tw i : Nat) (hg : (Array.mk (vsP ps))[(i : Int).toNat]? = some (.str (sL w) tw)) (hl : w.length < 100) (hw : ∀ c ∈ w, Al c)
    (h : ∀ n' T' t' t2 (k' : Resume → Sem Fin), T ≤ T' → (∀ (Y : Env0) (l : List (Addr × Obj)) (g : Array Value) (n T : Nat), BaseF Y.w.params Y.h₀ → Y.A.handled = none → Room Y .base 550 2500 → (∀ n' T', T ≤ T' → Go Y ⟨.base, .pure (.again (gcL it L cv q)), l, g, n', 820, T'⟩) → Go Y ⟨.base, k' (.send .none), l, g, n, 820, T⟩) →
      Go X ⟨.base, .yield (.str (sL (qt w)) t') false [] k', (L, gf1 X.w.params it t t2 (.str (sL w) tw)) :: (it, itO a (i + 1)) :: (a, lstO (vsP ps) e) :: rest, g, n', 820, T'⟩) :
    Go X ⟨.base, denQ (gcL it L cv q), (L, fr) :: (it, itO a i) :: (a, lstO (vsP ps) e) :: rest, g, n, 820, T⟩ := by
  rcases hfr with rfl | ⟨t2, v, rfl⟩
  · run_tac Drv.drive [751]
    refine go_drop ((L, _) :: (it, itO a (i + 1)) :: (a, lstO (vsP ps) e) :: rest) (by repeat (first | exact List.Sublist.refl _ | apply List.Sublist.cons_cons | apply List.Sublist.cons)) ?_
    intro n1 T1 hT1
    refine quote_all X B hA .base (by exact R.le rfl rfl) _ _ _ _ _ _ w _ g hl hw fun n2 T2 t2 hT2 => ?_
    run_tac Drv.drive [751]
    refine h n2 T2 _ _ _ (by run_tac Drv.tom) ?_
    intro Y l g n T BY hAY RY hY
    run_tac Drv.drive [751]
    exact hY n T (Nat.le_refl _)
  · run_tac Drv.drive [751]
    refine go_drop ((L, _) :: (it, itO a (i + 1)) :: (a, lstO (vsP ps) e) :: rest) (by repeat (first | exact List.Sublist.refl _ | apply List.Sublist.cons_cons | apply List.Sublist.cons)) ?_
    intro n1 T1 hT1
    refine quote_all X B hA .base (by exact R.le rfl rfl) _ _ _ _ _ _ w _ g hl hw fun n2 T2 t2 hT2 => ?_
    run_tac Drv.drive [751]
    refine h n2 T2 _ _ _ (by run_tac Drv.tom) ?_
    intro Y l g n T BY hAY RY hY
    run_tac Drv.drive [751]
    exact hY n T (Nat.le_refl _)
theorem gend (fr : Obj) (hfr : fr = gf0 X.w.params it t ∨ ∃ t2 v, fr = gf1 X.w.params it t t2 v) (i : Nat) (hg : (Array.mk (vsP ps))[(i : Int).toNat]? = none)
    (h : ∀ n' T', T ≤ T' → Go X ⟨.base, .pure (.done .next), (a, lstO (vsP ps) e) :: rest, g, n', 820, T'⟩) :
    Go X ⟨.base, denQ (gcL it L cv q), (L, fr) :: (it, itO a i) :: (a, lstO (vsP ps) e) :: rest, g, n, 820, T⟩ := by
  rcases hfr with rfl | ⟨t2, v, rfl⟩
  · run_tac Drv.drive [751]
    refine go_drop ((a, lstO (vsP ps) e) :: rest) (by repeat (first | exact List.Sublist.refl _ | apply List.Sublist.cons_cons | apply List.Sublist.cons)) ?_
    exact fun n' T' hT => h n' T' (by run_tac Drv.tom)
  · run_tac Drv.drive [751]
    refine go_drop ((a, lstO (vsP ps) e) :: rest) (by repeat (first | exact List.Sublist.refl _ | apply List.Sublist.cons_cons | apply List.Sublist.cons)) ?_
    exact fun n' T' hT => h n' T' (by run_tac Drv.tom)
end
noncomputable def strI (w : List Nat) : Item := fun v nl => (∃ t, v = .str (sL w) t) ∧ nl = []
theorem vs_get {ps : List (List Nat × Nat)} {i : Nat} {p : List Nat × Nat} {r : List (List Nat × Nat)} (h : ps.drop i = p :: r) : (Array.mk (vsP ps))[(i : Int).toNat]? = some (.str (sL p.1) p.2) := by
  rw [Int.toNat_natCast, List.getElem?_toArray]
  show (ps.map _)[i]? = _
  rw [List.getElem?_map, ← Nat.add_zero i, ← List.getElem?_drop, h]; rfl
theorem vs_none {ps : List (List Nat × Nat)} {i : Nat} (h : ps.drop i = []) : (Array.mk (vsP ps))[(i : Int).toNat]? = none := by
  rw [Int.toNat_natCast, List.getElem?_toArray]
  show (ps.map _)[i]? = _
  rw [List.getElem?_map, ← Nat.add_zero i, ← List.getElem?_drop, h]; rfl
section
variable (w : World) (h₀ : Heap) (B : BaseF w.params h₀) (j a e it L : Nat) (cv : Value) (q : Str) (ps : List (List Nat × Nat)) (hps : ∀ p ∈ ps, p.1.length < 100 ∧ ∀ c ∈ p.1, Al c)
include B hps
/- the loop of the generator, at its i-th word -/
theorem gloop : ∀ (rem : List (List Nat × Nat)) (i : Nat), ps.drop i = rem → ∀ (t : Nat) (fr : Obj), (fr = gf0 w.params it t ∨ ∃ t2 v, fr = gf1 w.params it t t2 v) →
    ∀ (b : Base (model PW w)) (ga : Array GenState) (d : Drawn) (os : OsState) (κ : Kt) (k : GenResult → Sem Fin) (rest : List (Addr × Obj)) (g : Array Value) (n T : Nat),
      b.A.handled = none → handledOf none κ = none → Room ⟨w, h₀, b, ga, d, os⟩ κ 540 2400 →
      (rem = [] → ∀ n' T', T ≤ T' → Go ⟨w, h₀, b, ga.setIfInBounds j .finished, d, os⟩ ⟨κ, k (.returned .none), (a, lstO (vsP ps) e) :: rest, g, n', 820, T'⟩) →
      (∀ p r, rem = p :: r → ∀ n' T' v nl gs' lo', T ≤ T' → strI (qt p.1) v nl → Yields w h₀ j [(a, lstO (vsP ps) e)] (r.map fun p => strI (qt p.1)) gs' lo' → Go ⟨w, h₀, b, ga.setIfInBounds j gs', d, os⟩ ⟨κ, k (.yielded v), nl ++ (lo' ++ ((a, lstO (vsP ps) e) :: rest)), g, n', 820, T'⟩) →
      Go (genX ⟨w, h₀, b, ga, d, os⟩ κ j k (gcL it L cv q) []) ⟨.base, denQ (gcL it L cv q), (L, fr) :: (it, itO a i) :: (a, lstO (vsP ps) e) :: rest, g, n, 820, T⟩
  | [], i, hi, t, fr, hfr, b, ga, d, os, κ, k, rest, g, n, T, hA, hκ, R, h1, h2 => by
    refine gend (genX ⟨w, h₀, b, ga, d, os⟩ κ j k (gcL it L cv q) []) B (gen_handled hA hκ) ((gen_room R).le rfl rfl) n T a e L it t cv q ps rest g fr hfr i (vs_none hi) fun n' T' hT => ?_
    refine go_gend ?_
    exact h1 rfl n' T' hT
  | p :: r, i, hi, t, fr, hfr, b, ga, d, os, κ, k, rest, g, n, T, hA, hκ, R, h1, h2 => by
    have hp : p ∈ ps := List.mem_of_mem_drop (by rw [hi]; exact .head _)
    refine gturn (genX ⟨w, h₀, b, ga, d, os⟩ κ j k (gcL it L cv q) []) B (gen_handled hA hκ) ((gen_room R).le rfl rfl) n T a e L it t cv q ps rest g fr hfr p.1 p.2 i (vs_get hi) (hps p hp).1 (hps p hp).2 fun n' T' t' t2 k' hT htail => ?_
    refine go_yield rfl rfl fun pp => ?_
    refine h2 p r rfl n' T' _ [] (.suspended k' [] (gcL it L cv q) pp [] false) [(L, gf1 w.params it t t2 (.str (sL p.1) p.2)), (it, itO a (i + 1))] hT ⟨⟨t', rfl⟩, rfl⟩ ?_
    have hr : ps.drop (i + 1) = r := by rw [← List.drop_drop, hi]; rfl
    cases r with
    | nil =>
      refine ⟨⟨.inr rfl, rfl⟩, fun b ga d os κ k lv rest g n T hA hκ R hga hk => go_resume hga ?_⟩
      refine htail _ _ g n T B (gen_handled hA hκ) ((gen_room R).le rfl rfl) fun n' T' hT => go_gagain (by kernel_rfl) ?_
      exact gloop [] (i + 1) hr t _ (.inr ⟨_, _, rfl⟩) b ga d os κ k rest g n' T' hA hκ R (fun _ n2 T2 hT2 => hk n2 T2 (by run_tac Drv.tom)) (fun p r z => by cases z)
    | cons p' r' =>
      refine ⟨⟨.inr rfl, rfl⟩, fun b ga d os κ k lv rest g n T hA hκ R hga hk => go_resume hga ?_⟩
      refine htail _ _ g n T B (gen_handled hA hκ) ((gen_room R).le rfl rfl) fun n' T' hT => go_gagain (by kernel_rfl) ?_
      exact gloop (p' :: r') (i + 1) hr t _ (.inr ⟨_, _, rfl⟩) b ga d os κ k rest g n' T' hA hκ R (fun z => by cases z) (fun p r z n2 T2 v nl gs' lo' hT2 hI hY => by
        cases z
        exact hk n2 T2 v nl gs' lo' (by run_tac Drv.tom) hI hY)
/- the generator in join, made of a list of words, yields each word quoted -/
theorem gex_yields (t : Nat) : Yields w h₀ j [(a, lstO (vsP ps) e)] (ps.map fun p => strI (qt p.1)) (.fresh (.compStart gexpr 0 (.ref it) .none (genEnvJ L cv q))) [(L, gf0 w.params it t), (it, itO a 0)] := by
  have key : ∀ (b : Base (model PW w)) (ga : Array GenState) (d : Drawn) (os : OsState) (κ : Kt) (k : GenResult → Sem Fin) (lv : List Value) (rest : List (Addr × Obj)) (g : Array Value) (n T : Nat),
      b.A.handled = none → handledOf none κ = none → Room ⟨w, h₀, b, ga, d, os⟩ κ 540 2400 → ga[j]? = some (.fresh (.compStart gexpr 0 (.ref it) .none (genEnvJ L cv q))) →
      (ps = [] → ∀ n' T', T ≤ T' → Go ⟨w, h₀, b, ga.setIfInBounds j .finished, d, os⟩ ⟨κ, k (.returned .none), (a, lstO (vsP ps) e) :: rest, g, n', 820, T'⟩) →
      (∀ p r, ps = p :: r → ∀ n' T' v nl gs' lo', T ≤ T' → strI (qt p.1) v nl → Yields w h₀ j [(a, lstO (vsP ps) e)] (r.map fun p => strI (qt p.1)) gs' lo' → Go ⟨w, h₀, b, ga.setIfInBounds j gs', d, os⟩ ⟨κ, k (.yielded v), nl ++ (lo' ++ ((a, lstO (vsP ps) e) :: rest)), g, n', 820, T'⟩) →
      Go ⟨w, h₀, b, ga, d, os⟩ ⟨κ, .resume j (.send .none) lv k, (L, gf0 w.params it t) :: (it, itO a 0) :: (a, lstO (vsP ps) e) :: rest, g, n, 820, T⟩ := by
    intro b ga d os κ k lv rest g n T hA hκ R hga h1 h2
    refine go_resume_fresh hga ?_
    refine go_perm ((it, itO a 0) :: (L, gf0 w.params it t) :: (a, lstO (vsP ps) e) :: rest) (.swap _ _ _) ?_
    refine gstart (genX ⟨w, h₀, b, ga, d, os⟩ κ j k _ []) B (gen_handled hA hκ) ((gen_room R).le rfl rfl) n T a L it cv q g _ fun n' T' hT => ?_
    refine go_gagain (by kernel_rfl) ?_
    refine go_perm ((L, gf0 w.params it t) :: (it, itO a 0) :: (a, lstO (vsP ps) e) :: rest) (.swap _ _ _) ?_
    exact gloop w h₀ B j a e it L cv q ps hps ps 0 rfl t _ (.inl rfl) b ga d os κ k rest g n' T' hA hκ R (fun z n2 T2 hT2 => h1 z n2 T2 (by run_tac Drv.tom)) (fun p r z n2 T2 v nl gs' lo' hT2 hI hY => h2 p r z n2 T2 v nl gs' lo' (by run_tac Drv.tom) hI hY)
  cases hc : ps with
  | nil =>
    rw [hc] at key
    exact ⟨⟨.inl rfl, rfl⟩, fun b ga d os κ k lv rest g n T hA hκ R hga hk => key b ga d os κ k lv rest g n T hA hκ R hga (fun _ => hk) (fun p r z => by cases z)⟩
  | cons p r =>
    rw [hc] at key
    exact ⟨⟨.inl rfl, rfl⟩, fun b ga d os κ k lv rest g n T hA hκ R hga hk => key b ga d os κ k lv rest g n T hA hκ R hga (fun z => by cases z) (fun p' r' z n2 T2 v nl gs' lo' hT2 hI hY => by
        cases z
        exact hk n2 T2 v nl gs' lo' hT2 hI hY)⟩
end
end
section
open PySem PySem.W PySem.W.X PyProof.Rows
noncomputable def exG (l ge : Addr) : Code := .builtin SL.s9316426964554523096x16 ⟨[.ref l, .ref ge, .ref l], []⟩
noncomputable def genO (j : Nat) (nm qn : Value) : Obj := ⟨.type "generator", none, .fields #[.int j 0, nm, qn], #[]⟩
theorem extPerm {α : Type} (u v : List α) (a b : α) (R : List α) : (u ++ (v ++ (a :: b :: R))).Perm (a :: b :: (u ++ (v ++ R))) := by
  rw [← List.append_assoc, ← List.append_assoc]
  exact rot (u ++ v) [a, b] R
theorem go_genStateS {X : Env0} {κ : Kt} {i : Nat} {k : GenStatus × Option (List (Code × Pos)) → Sem Fin} {l : List (Addr × Obj)} {g : Array Value} {n cc T : Nat} {gs : GenState} (hg : X.gs[i]? = some gs) (hs : gs.status = .fresh ∨ gs.status = .suspended)
    (h1 : ∀ x, Go X ⟨κ, k (.fresh, x), l, g, n, cc, T⟩) (h2 : ∀ x, Go X ⟨κ, k (.suspended, x), l, g, n, cc, T⟩) : Go X ⟨κ, .genState i k, l, g, n, cc, T⟩ := by
  refine go_genState hg ?_
  cases hc : gs.seen with
  | mk a x =>
    have : a = gs.status := by rw [← GenState.seen_fst, hc]
    subst this
    rcases hs with hs | hs <;> rw [hs]
    · exact h1 x
    · exact h2 x
/- the states of the others are bare -/
noncomputable def BB (j : Nat) (ga : Array GenState) : Prop := ∀ i y, i ≠ j → ga[i]? = some y → y.bare = true
theorem BB.set {j : Nat} {ga : Array GenState} (h : BB j ga) (x : GenState) : BB j (ga.setIfInBounds j x) := fun i y hi hy => by
  rw [Array.getElem?_setIfInBounds_ne (by run_tac Drv.tom)] at hy
  exact h i y hi hy
theorem BB.all {j : Nat} {ga : Array GenState} (h : BB j ga) : AllBare (ga.setIfInBounds j .finished) := fun y hy => by
  obtain ⟨i, hi, rfl⟩ := Array.mem_iff_getElem.mp hy
  have hg := Array.getElem?_eq_getElem hi
  by_cases hij : i = j
  · subst hij
    rw [Array.getElem_setIfInBounds_self]; rfl
  · exact (h.set .finished) i _ hij hg
theorem BB.push {ga : Array GenState} (h : AllBare ga) (x : GenState) : BB ga.size (ga.push x) := fun i y hi hy => by
  by_cases hlt : i < ga.size
  · rw [Array.getElem?_push_lt hlt] at hy
    cases hy
    exact h _ (Array.getElem_mem hlt)
  · rw [Array.getElem?_eq_none (by simp; (run_tac Drv.lomega))] at hy; cases hy
theorem get_set {j : Nat} {ga : Array GenState} {x : GenState} (y : GenState) (h : ga[j]? = some x) : (ga.setIfInBounds j y)[j]? = some y := by
  have hlt : j < ga.size := (Array.getElem?_eq_some_iff.mp h).1
  rw [Array.getElem?_setIfInBounds_self_of_lt hlt]
section
variable (w : World) (h₀ : Heap) (b : Base (model PW w)) (ga : Array GenState) (d : Drawn) (os : OsState) (B : BaseF w.params h₀) (hA : b.A.handled = none) (κ : Kt) (hκ : handledOf none κ = none) (R : ∀ ga, Room ⟨w, h₀, b, ga, d, os⟩ κ 520 2200) (k : Result → Sem Fin) (l ge j : Nat) (nm qn : Value) (rest K₀ : List (Addr × Obj)) (g : Array Value)
include B hA R hκ
theorem extG_turn (I : List Nat) (Is : List Item) (gs : GenState) (lo : List (Addr × Obj)) (n T ep : Nat) (vs : List Value) (hvs : vs.length < 1000) (hga : ga[j]? = some gs) (hY : Yields w h₀ j K₀ (strI I :: Is) gs lo)
    (h : ∀ n' T' t' gs' lo' ep', T ≤ T' → Yields w h₀ j K₀ Is gs' lo' → Go ⟨w, h₀, b, ga.setIfInBounds j gs', d, os⟩ ⟨.ret (exG l ge) none k κ, denQ (exG l ge), (l, lstO (vs ++ [.str (sL I) t']) ep') :: (ge, genO j nm qn) :: (lo' ++ (K₀ ++ rest)), g, n', 820, T'⟩) :
    Go ⟨w, h₀, b, ga, d, os⟩ ⟨.ret (exG l ge) none k κ, denQ (exG l ge), (l, lstO vs ep) :: (ge, genO j nm qn) :: (lo ++ (K₀ ++ rest)), g, n, 820, T⟩ := by
  obtain ⟨hst, hy⟩ := hY
  have R0 := R ga
  generalize htl : lo ++ (K₀ ++ rest) = tl
  run_tac Drv.drive [100016]
  refine go_genStateS hga hst.1 (fun x => ?_) (fun x => ?_)
  · run_tac Drv.drive [100016]
    rw [← htl]
    refine go_perm (lo ++ (K₀ ++ ((l, lstO vs ep) :: (ge, genO j nm qn) :: rest))) (extPerm lo K₀ _ _ rest) ?_
    refine go_drop _ (List.Sublist.refl _) fun n1 T1 hT1 => ?_
    refine hy b ga d os _ _ _ _ g n1 T1 hA (by exact hκ) (by exact (R ga).ret.ret.le rfl rfl) hga fun n' T' v nl gs' lo' hT hI hY => ?_
    obtain ⟨⟨t', rfl⟩, rfl⟩ := hI
    refine go_perm ((l, lstO vs ep) :: (ge, genO j nm qn) :: (lo' ++ (K₀ ++ rest))) (extPerm lo' K₀ _ _ rest).symm ?_
    have R1 := R (ga.setIfInBounds j gs')
    generalize htl' : lo' ++ (K₀ ++ rest) = tl'
    run_tac Drv.drive [100016]
    simp only [appR]
    refine go_again (by kernel_rfl) ?_
    refine go_drop ((l, lstO (vs ++ [.str (sL I) t']) _) :: (ge, genO j nm qn) :: tl') (by repeat (first | exact List.Sublist.refl _ | apply List.Sublist.cons_cons | apply List.Sublist.cons)) ?_
    intro n2 T2 hT2
    rw [← htl']
    exact h n2 T2 t' gs' lo' _ (by run_tac Drv.tom) hY
  · run_tac Drv.drive [100016]
    rw [← htl]
    refine go_perm (lo ++ (K₀ ++ ((l, lstO vs ep) :: (ge, genO j nm qn) :: rest))) (extPerm lo K₀ _ _ rest) ?_
    refine go_drop _ (List.Sublist.refl _) fun n1 T1 hT1 => ?_
    refine hy b ga d os _ _ _ _ g n1 T1 hA (by exact hκ) (by exact (R ga).ret.ret.le rfl rfl) hga fun n' T' v nl gs' lo' hT hI hY => ?_
    obtain ⟨⟨t', rfl⟩, rfl⟩ := hI
    refine go_perm ((l, lstO vs ep) :: (ge, genO j nm qn) :: (lo' ++ (K₀ ++ rest))) (extPerm lo' K₀ _ _ rest).symm ?_
    have R1 := R (ga.setIfInBounds j gs')
    generalize htl' : lo' ++ (K₀ ++ rest) = tl'
    run_tac Drv.drive [100016]
    simp only [appR]
    refine go_again (by kernel_rfl) ?_
    refine go_drop ((l, lstO (vs ++ [.str (sL I) t']) _) :: (ge, genO j nm qn) :: tl') (by repeat (first | exact List.Sublist.refl _ | apply List.Sublist.cons_cons | apply List.Sublist.cons)) ?_
    intro n2 T2 hT2
    rw [← htl']
    exact h n2 T2 t' gs' lo' _ (by run_tac Drv.tom) hY
theorem extG_end (gs : GenState) (lo : List (Addr × Obj)) (n T ep : Nat) (vs : List Value) (hga : ga[j]? = some gs) (hY : Yields w h₀ j K₀ [] gs lo)
    (h : ∀ n' T', T ≤ T' → Go ⟨w, h₀, b, ga.setIfInBounds j .finished, d, os⟩ ⟨κ, k (.ok (.ret (.ref l))), (l, lstO vs ep) :: (K₀ ++ rest), g, n', 820, T'⟩) :
    Go ⟨w, h₀, b, ga, d, os⟩ ⟨.ret (exG l ge) none k κ, denQ (exG l ge), (l, lstO vs ep) :: (ge, genO j nm qn) :: (lo ++ (K₀ ++ rest)), g, n, 820, T⟩ := by
  obtain ⟨hst, hy⟩ := hY
  have R0 := R ga
  generalize htl : lo ++ (K₀ ++ rest) = tl
  run_tac Drv.drive [100016]
  refine go_genStateS hga hst.1 (fun x => ?_) (fun x => ?_)
  · run_tac Drv.drive [100016]
    rw [← htl]
    refine go_perm (lo ++ (K₀ ++ ((l, lstO vs ep) :: (ge, genO j nm qn) :: rest))) (extPerm lo K₀ _ _ rest) ?_
    refine go_drop _ (List.Sublist.refl _) fun n1 T1 hT1 => ?_
    refine hy b ga d os _ _ _ _ g n1 T1 hA (by exact hκ) (by exact (R ga).ret.ret.le rfl rfl) hga fun n' T' hT => ?_
    refine go_perm ((l, lstO vs ep) :: (ge, genO j nm qn) :: (K₀ ++ rest)) (rot [_, _] K₀ rest) ?_
    have R1 := R (ga.setIfInBounds j .finished)
    generalize htl' : K₀ ++ rest = tl' at *
    run_tac Drv.drive [100016]
    refine go_drop ((l, lstO vs ep) :: tl') (by repeat (first | exact List.Sublist.refl _ | apply List.Sublist.cons_cons | apply List.Sublist.cons)) ?_
    intro n2 T2 hT2
    exact h n2 T2 (by run_tac Drv.tom)
  · run_tac Drv.drive [100016]
    rw [← htl]
    refine go_perm (lo ++ (K₀ ++ ((l, lstO vs ep) :: (ge, genO j nm qn) :: rest))) (extPerm lo K₀ _ _ rest) ?_
    refine go_drop _ (List.Sublist.refl _) fun n1 T1 hT1 => ?_
    refine hy b ga d os _ _ _ _ g n1 T1 hA (by exact hκ) (by exact (R ga).ret.ret.le rfl rfl) hga fun n' T' hT => ?_
    refine go_perm ((l, lstO vs ep) :: (ge, genO j nm qn) :: (K₀ ++ rest)) (rot [_, _] K₀ rest) ?_
    have R1 := R (ga.setIfInBounds j .finished)
    generalize htl' : K₀ ++ rest = tl' at *
    run_tac Drv.drive [100016]
    refine go_drop ((l, lstO vs ep) :: tl') (by repeat (first | exact List.Sublist.refl _ | apply List.Sublist.cons_cons | apply List.Sublist.cons)) ?_
    intro n2 T2 hT2
    exact h n2 T2 (by run_tac Drv.tom)
theorem extG_all : ∀ (Is : List (List Nat)) (ga : Array GenState) (gs : GenState) (lo : List (Addr × Obj)) (n T ep : Nat) (vs : List Value) (hvs : vs.length + Is.length < 1000) (hga : ga[j]? = some gs) (hbb : BB j ga) (hY : Yields w h₀ j K₀ (Is.map strI) gs lo)
    (h : ∀ ga' n' T' ep' qs, AllBare ga' → T ≤ T' → qs.map Prod.fst = Is → Go ⟨w, h₀, b, ga', d, os⟩ ⟨κ, k (.ok (.ret (.ref l))), (l, lstO (vs ++ vsP qs) ep') :: (K₀ ++ rest), g, n', 820, T'⟩),
    Go ⟨w, h₀, b, ga, d, os⟩ ⟨.ret (exG l ge) none k κ, denQ (exG l ge), (l, lstO vs ep) :: (ge, genO j nm qn) :: (lo ++ (K₀ ++ rest)), g, n, 820, T⟩ := by
  intro zs
  induction zs with
  | nil =>
    intro ga gs lo n T ep vs hvs hga hbb hY h
    refine extG_end w h₀ b ga d os B hA κ hκ R k l ge j nm qn rest K₀ g gs lo n T ep vs hga hY fun n' T' hT => ?_
    have z := h _ n' T' ep [] hbb.all hT rfl
    rw [show vs ++ vsP [] = vs from List.append_nil _] at z
    exact z
  | cons I Is ih =>
    intro ga gs lo n T ep vs hvs hga hbb hY h
    rw [List.length_cons] at hvs
    refine extG_turn w h₀ b ga d os B hA κ hκ R k l ge j nm qn rest K₀ g I (Is.map strI) gs lo n T ep vs (by run_tac Drv.tom) hga hY fun n' T' t' gs' lo' ep' hT hY' => ?_
    refine ih (ga.setIfInBounds j gs') gs' lo' n' T' ep' _ (by simp; (run_tac Drv.lomega)) (get_set gs' hga) (hbb.set gs') hY' fun ga' n2 T2 ep2 qs hb hT2 hqs => ?_
    have z := h ga' n2 T2 ep2 ((I, t') :: qs) hb (by run_tac Drv.tom) (by rw [List.map_cons, hqs])
    rw [List.append_assoc]
    exact z
end
end
section
open PySem PySem.W PySem.W.X PyProof.Rows
/- the words of a line, one blank between -/
noncomputable def jn : List (List Nat) → List Nat
  | [] => []
  | [x] => x
  | x :: y :: r => x ++ 32 :: jn (y :: r)
theorem join_sL : ∀ (l : List (List Nat)), Str.join (sL [32]) (l.map sL) = sL (jn l)
  | [] => rfl
  | [x] => rfl
  | x :: y :: r => by
    have ih := join_sL (y :: r)
    show sL x ++ sL [32] ++ Str.join (sL [32]) ((y :: r).map sL) = _
    rw [ih, sL_app, sL_app]
    simp [jn]
theorem join_is (qs : List (List Nat × Nat)) : Fast.tw10206770168876983080 (sL [32]) (qs.map fun q => sL q.1) = sL (jn (qs.map Prod.fst)) := by
  rw [← Fast.te10206770168876983080, StrLaws.glued_eq_join, ← join_sL, List.map_map]; rfl
theorem foldl_small (n : Nat) : ∀ (l : List (List Nat × Nat)) (a : Nat), (∀ q ∈ l, q.1.length < 700) → (l.map fun q => sL q.1).foldl (fun a s => a + s.length + (sL [32]).length) a ≤ a + l.length * 701
  | [], a, _ => by simp
  | q :: l, a, h => by
    have h1 := h q (.head _)
    have ih := foldl_small n l (a + (sL q.1).length + (sL [32]).length) fun q hq => h q (.tail _ hq)
    rw [List.map_cons, List.foldl_cons]
    have e : (sL [32]).length = 1 := rfl
    have e2 := sL_len q.1
    rw [List.length_cons, Nat.add_mul]
    rw [e, e2] at ih
    rw [e, e2]
    (run_tac Drv.lomega)
theorem join_small (qs : List (List Nat × Nat)) (h : ∀ q ∈ qs, q.1.length < 700) (hn : qs.length ≤ 10) : Builtin.Str.tooLong ((qs.map fun q => sL q.1).toArray.foldl (fun a s => a + s.length + (sL [32]).length) 0) = false := by
  rw [List.foldl_toArray]
  have := foldl_small 0 qs 0 h
  unfold Builtin.Str.tooLong
  refine decide_eq_false ?_
  show ¬ (16777216 < _)
  (run_tac Drv.lomega)
theorem jn_len (qs : List (List Nat × Nat)) (h : ∀ q ∈ qs, q.1.length < 700) (hn : qs.length ≤ 10) : (jn (qs.map Prod.fst)).length < 10000 := by
  have key : ∀ l : List (List Nat × Nat), (∀ q ∈ l, q.1.length < 700) → (jn (l.map Prod.fst)).length ≤ l.length * 701 := by
    intro l
    induction l with
    | nil => intro _; simp [jn]
    | cons q l ih =>
      intro h
      have h1 := h q (.head _)
      cases l with
      | nil => simp [jn]; (run_tac Drv.lomega)
      | cons q2 l =>
        have := ih fun q hq => h q (.tail _ hq)
        simp only [List.map_cons, jn, List.length_append, List.length_cons] at this ⊢
        (run_tac Drv.lomega)
  have := key qs h
  (run_tac Drv.lomega)
theorem qt_len (w : List Nat) (h : w.length < 100) : (qt w).length < 700 := by
  unfold qt
  split
  · simp
  · split
    · (run_tac Drv.lomega)
    · have := repl_len [39] [39, 34, 39, 34, 39] w 0
      simp at this ⊢; (run_tac Drv.lomega)
/- the code table of join: empty, or with the generator's code -/
noncomputable def GOk (g : Array Value) : Prop := g = #[] ∨ ∃ c, g = #[.int 734 0, .int 20 0, .ref c]
section
variable (w : World) (h₀ : Heap) (b : Base (model PW w)) (ga : Array GenState) (d : Drawn) (os : OsState) (B : BaseF w.params h₀) (hA : b.A.handled = none) (κ : Kt) (hκ : handledOf none κ = none) (R : ∀ ga, Room ⟨w, h₀, b, ga, d, os⟩ κ 500 2000) (k : Result → Sem Fin) (gd : Bool) (lv : List Value) (n T a e c: Nat) (ps : List (List Nat × Nat)) (hps : ∀ p ∈ ps, p.1.length < 100 ∧ ∀ c ∈ p.1, Al c) (hpl : ps.length ≤ 10) (rest : List (Addr × Obj)) (hga : AllBare ga)
include B hA R hps hκ hga hpl
theorem join1
    (h : ∀ ga' n' T' t' g', GOk g' → AllBare ga' → T ≤ T' → Go ⟨w, h₀, b, ga', d, os⟩ ⟨κ, k (.ok (.ret (.str (sL (jn (ps.map fun p => qt p.1))) t'))), (a, lstO (vsP ps) e) :: rest, g', n', 820, T'⟩) :
    Go ⟨w, h₀, b, ga, d, os⟩ ⟨κ, .call (.call (.ref 751) ⟨[.ref a], []⟩) none gd lv k, (a, lstO (vsP ps) e) :: rest, #[], n, 820, T⟩ := by
  have R0 := R ga
  refine go_enter rfl ?_
  run_tac Drv.drive [751]
  refine go_newGenA fun ga1 hga1 hfr => ?_
  have R1 := R ga1
  run_tac Drv.drive [751, 100016]
  refine go_again (by kernel_rfl) ?_
  refine go_perm ((n + 827, lstO [] 2) :: (n + 826, genO ga.size _ _) :: (n + 825, gf0 w.params (n + 821) (T + 7)) :: (n + 821, itO a 0) :: (a, lstO (vsP ps) e) :: _) (perm_at 0 rfl (perm_at 0 rfl (perm_at 0 rfl (perm_at 3 rfl (perm_at 4 rfl (.refl _)))))) ?_
  refine go_drop ((n + 827, lstO [] 2) :: (n + 826, genO ga.size _ _) :: ([(n + 825, gf0 w.params (n + 821) (T + 7)), (n + 821, itO a 0)] ++ ([(a, lstO (vsP ps) e)] ++ rest))) (by repeat (first | exact List.Sublist.refl _ | apply List.Sublist.cons_cons | apply List.Sublist.cons)) ?_
  intro n1 T1 hT1
  refine extG_all w h₀ b d os B hA _ (by exact hκ) (fun ga => (R ga).ret.ret.le rfl rfl) _ _ _ ga.size _ _ rest _ _ (ps.map fun p => qt p.1) ga1 _ _ _ _ _ _ (by simp; (run_tac Drv.lomega)) hfr (by rw [hga1]; exact BB.push hga _) (by
    rw [List.map_map]
    exact gex_yields w h₀ B ga.size a e (n + 821) (n + 825) _ _ ps hps (T + 7)) fun ga' n2 T2 ep' qs hb hT2 hqs => ?_
  have R2 := R ga'
  rw [List.nil_append]
  have hql : ∀ q ∈ qs, q.1.length < 700 := fun q hq => by
    have : q.1 ∈ qs.map Prod.fst := List.mem_map_of_mem hq
    rw [hqs] at this
    obtain ⟨p, hp, e⟩ := List.mem_map.mp this
    rw [← e]
    exact qt_len _ (hps p hp).1
  have hqn : qs.length ≤ 10 := by
    have := congrArg List.length hqs
    simp at this; (run_tac Drv.lomega)
  have hglue := join_is qs
  have htl := join_small qs hql hqn
  have hjl : (jn (qs.map Prod.fst)).length < 10000 := jn_len qs hql hqn
  rw [show jn (ps.map fun p => qt p.1) = jn (qs.map Prod.fst) from by rw [hqs]] at h
  clear hqs
  revert hql hqn hglue htl hjl h
  match qs with
  | [] =>
    intro h hql hqn hglue htl hjl
    run_tac Drv.drive [751]
    refine go_drop ((a, lstO (vsP ps) e) :: rest) (by repeat (first | exact List.Sublist.refl _ | apply List.Sublist.cons_cons | apply List.Sublist.cons)) ?_
    intro n3 T3 hT3
    exact h ga' n3 T3 _ _ (.inr ⟨_, rfl⟩) hb (by run_tac Drv.tom)
  | [q0] =>
    intro h hql hqn hglue htl hjl
    run_tac Drv.drive [751]
    refine go_drop ((a, lstO (vsP ps) e) :: rest) (by repeat (first | exact List.Sublist.refl _ | apply List.Sublist.cons_cons | apply List.Sublist.cons)) ?_
    intro n3 T3 hT3
    exact h ga' n3 T3 _ _ (.inr ⟨_, rfl⟩) hb (by run_tac Drv.tom)
  | [q0, q1] =>
    intro h hql hqn hglue htl hjl
    run_tac Drv.drive [751]
    refine go_drop ((a, lstO (vsP ps) e) :: rest) (by repeat (first | exact List.Sublist.refl _ | apply List.Sublist.cons_cons | apply List.Sublist.cons)) ?_
    intro n3 T3 hT3
    exact h ga' n3 T3 _ _ (.inr ⟨_, rfl⟩) hb (by run_tac Drv.tom)
  | [q0, q1, q2] =>
    intro h hql hqn hglue htl hjl
    run_tac Drv.drive [751]
    refine go_drop ((a, lstO (vsP ps) e) :: rest) (by repeat (first | exact List.Sublist.refl _ | apply List.Sublist.cons_cons | apply List.Sublist.cons)) ?_
    intro n3 T3 hT3
    exact h ga' n3 T3 _ _ (.inr ⟨_, rfl⟩) hb (by run_tac Drv.tom)
  | [q0, q1, q2, q3] =>
    intro h hql hqn hglue htl hjl
    run_tac Drv.drive [751]
    refine go_drop ((a, lstO (vsP ps) e) :: rest) (by repeat (first | exact List.Sublist.refl _ | apply List.Sublist.cons_cons | apply List.Sublist.cons)) ?_
    intro n3 T3 hT3
    exact h ga' n3 T3 _ _ (.inr ⟨_, rfl⟩) hb (by run_tac Drv.tom)
  | [q0, q1, q2, q3, q4] =>
    intro h hql hqn hglue htl hjl
    run_tac Drv.drive [751]
    refine go_drop ((a, lstO (vsP ps) e) :: rest) (by repeat (first | exact List.Sublist.refl _ | apply List.Sublist.cons_cons | apply List.Sublist.cons)) ?_
    intro n3 T3 hT3
    exact h ga' n3 T3 _ _ (.inr ⟨_, rfl⟩) hb (by run_tac Drv.tom)
  | [q0, q1, q2, q3, q4, q5] =>
    intro h hql hqn hglue htl hjl
    run_tac Drv.drive [751]
    refine go_drop ((a, lstO (vsP ps) e) :: rest) (by repeat (first | exact List.Sublist.refl _ | apply List.Sublist.cons_cons | apply List.Sublist.cons)) ?_
    intro n3 T3 hT3
    exact h ga' n3 T3 _ _ (.inr ⟨_, rfl⟩) hb (by run_tac Drv.tom)
  | [q0, q1, q2, q3, q4, q5, q6] =>
    intro h hql hqn hglue htl hjl
    run_tac Drv.drive [751]
    refine go_drop ((a, lstO (vsP ps) e) :: rest) (by repeat (first | exact List.Sublist.refl _ | apply List.Sublist.cons_cons | apply List.Sublist.cons)) ?_
    intro n3 T3 hT3
    exact h ga' n3 T3 _ _ (.inr ⟨_, rfl⟩) hb (by run_tac Drv.tom)
  | [q0, q1, q2, q3, q4, q5, q6, q7] =>
    intro h hql hqn hglue htl hjl
    run_tac Drv.drive [751]
    refine go_drop ((a, lstO (vsP ps) e) :: rest) (by repeat (first | exact List.Sublist.refl _ | apply List.Sublist.cons_cons | apply List.Sublist.cons)) ?_
    intro n3 T3 hT3
    exact h ga' n3 T3 _ _ (.inr ⟨_, rfl⟩) hb (by run_tac Drv.tom)
  | [q0, q1, q2, q3, q4, q5, q6, q7, q8] =>
    intro h hql hqn hglue htl hjl
    run_tac Drv.drive [751]
    refine go_drop ((a, lstO (vsP ps) e) :: rest) (by repeat (first | exact List.Sublist.refl _ | apply List.Sublist.cons_cons | apply List.Sublist.cons)) ?_
    intro n3 T3 hT3
    exact h ga' n3 T3 _ _ (.inr ⟨_, rfl⟩) hb (by run_tac Drv.tom)
  | [q0, q1, q2, q3, q4, q5, q6, q7, q8, q9] =>
    intro h hql hqn hglue htl hjl
    run_tac Drv.drive [751]
    refine go_drop ((a, lstO (vsP ps) e) :: rest) (by repeat (first | exact List.Sublist.refl _ | apply List.Sublist.cons_cons | apply List.Sublist.cons)) ?_
    intro n3 T3 hT3
    exact h ga' n3 T3 _ _ (.inr ⟨_, rfl⟩) hb (by run_tac Drv.tom)
  | q0 :: q1 :: q2 :: q3 :: q4 :: q5 :: q6 :: q7 :: q8 :: q9 :: q10 :: qs =>
    intro h hql hqn
    simp at hqn
theorem join2
    (h : ∀ ga' n' T' t', AllBare ga' → T ≤ T' → Go ⟨w, h₀, b, ga', d, os⟩ ⟨κ, k (.ok (.ret (.str (sL (jn (ps.map fun p => qt p.1))) t'))), (a, lstO (vsP ps) e) :: rest, #[.int 734 0, .int 20 0, .ref c], n', 820, T'⟩) :
    Go ⟨w, h₀, b, ga, d, os⟩ ⟨κ, .call (.call (.ref 751) ⟨[.ref a], []⟩) none gd lv k, (a, lstO (vsP ps) e) :: rest, #[.int 734 0, .int 20 0, .ref c], n, 820, T⟩ := by
  have R0 := R ga
  refine go_enter rfl ?_
  run_tac Drv.drive [751]
  refine go_newGenA fun ga1 hga1 hfr => ?_
  have R1 := R ga1
  run_tac Drv.drive [751, 100016]
  refine go_again (by kernel_rfl) ?_
  refine go_perm ((n + 824, lstO [] 2) :: (n + 823, genO ga.size _ _) :: (n + 822, gf0 w.params (n + 821) (T + 2)) :: (n + 821, itO a 0) :: (a, lstO (vsP ps) e) :: _) (perm_at 0 rfl (perm_at 0 rfl (perm_at 0 rfl (perm_at 0 rfl (perm_at 1 rfl (.refl _)))))) ?_
  refine go_drop ((n + 824, lstO [] 2) :: (n + 823, genO ga.size _ _) :: ([(n + 822, gf0 w.params (n + 821) (T + 2)), (n + 821, itO a 0)] ++ ([(a, lstO (vsP ps) e)] ++ rest))) (by repeat (first | exact List.Sublist.refl _ | apply List.Sublist.cons_cons | apply List.Sublist.cons)) ?_
  intro n1 T1 hT1
  refine extG_all w h₀ b d os B hA _ (by exact hκ) (fun ga => (R ga).ret.ret.le rfl rfl) _ _ _ ga.size _ _ rest _ _ (ps.map fun p => qt p.1) ga1 _ _ _ _ _ _ (by simp; (run_tac Drv.lomega)) hfr (by rw [hga1]; exact BB.push hga _) (by
    rw [List.map_map]
    exact gex_yields w h₀ B ga.size a e (n + 821) (n + 822) _ _ ps hps (T + 2)) fun ga' n2 T2 ep' qs hb hT2 hqs => ?_
  have R2 := R ga'
  rw [List.nil_append]
  have hql : ∀ q ∈ qs, q.1.length < 700 := fun q hq => by
    have : q.1 ∈ qs.map Prod.fst := List.mem_map_of_mem hq
    rw [hqs] at this
    obtain ⟨p, hp, e⟩ := List.mem_map.mp this
    rw [← e]
    exact qt_len _ (hps p hp).1
  have hqn : qs.length ≤ 10 := by
    have := congrArg List.length hqs
    simp at this; (run_tac Drv.lomega)
  have hglue := join_is qs
  have htl := join_small qs hql hqn
  have hjl : (jn (qs.map Prod.fst)).length < 10000 := jn_len qs hql hqn
  rw [show jn (ps.map fun p => qt p.1) = jn (qs.map Prod.fst) from by rw [hqs]] at h
  clear hqs
  revert hql hqn hglue htl hjl h
  match qs with
  | [] =>
    intro h hql hqn hglue htl hjl
    run_tac Drv.drive [751]
    refine go_drop ((a, lstO (vsP ps) e) :: rest) (by repeat (first | exact List.Sublist.refl _ | apply List.Sublist.cons_cons | apply List.Sublist.cons)) ?_
    intro n3 T3 hT3
    exact h ga' n3 T3 _ hb (by run_tac Drv.tom)
  | [q0] =>
    intro h hql hqn hglue htl hjl
    run_tac Drv.drive [751]
    refine go_drop ((a, lstO (vsP ps) e) :: rest) (by repeat (first | exact List.Sublist.refl _ | apply List.Sublist.cons_cons | apply List.Sublist.cons)) ?_
    intro n3 T3 hT3
    exact h ga' n3 T3 _ hb (by run_tac Drv.tom)
  | [q0, q1] =>
    intro h hql hqn hglue htl hjl
    run_tac Drv.drive [751]
    refine go_drop ((a, lstO (vsP ps) e) :: rest) (by repeat (first | exact List.Sublist.refl _ | apply List.Sublist.cons_cons | apply List.Sublist.cons)) ?_
    intro n3 T3 hT3
    exact h ga' n3 T3 _ hb (by run_tac Drv.tom)
  | [q0, q1, q2] =>
    intro h hql hqn hglue htl hjl
    run_tac Drv.drive [751]
    refine go_drop ((a, lstO (vsP ps) e) :: rest) (by repeat (first | exact List.Sublist.refl _ | apply List.Sublist.cons_cons | apply List.Sublist.cons)) ?_
    intro n3 T3 hT3
    exact h ga' n3 T3 _ hb (by run_tac Drv.tom)
  | [q0, q1, q2, q3] =>
    intro h hql hqn hglue htl hjl
    run_tac Drv.drive [751]
    refine go_drop ((a, lstO (vsP ps) e) :: rest) (by repeat (first | exact List.Sublist.refl _ | apply List.Sublist.cons_cons | apply List.Sublist.cons)) ?_
    intro n3 T3 hT3
    exact h ga' n3 T3 _ hb (by run_tac Drv.tom)
  | [q0, q1, q2, q3, q4] =>
    intro h hql hqn hglue htl hjl
    run_tac Drv.drive [751]
    refine go_drop ((a, lstO (vsP ps) e) :: rest) (by repeat (first | exact List.Sublist.refl _ | apply List.Sublist.cons_cons | apply List.Sublist.cons)) ?_
    intro n3 T3 hT3
    exact h ga' n3 T3 _ hb (by run_tac Drv.tom)
  | [q0, q1, q2, q3, q4, q5] =>
    intro h hql hqn hglue htl hjl
    run_tac Drv.drive [751]
    refine go_drop ((a, lstO (vsP ps) e) :: rest) (by repeat (first | exact List.Sublist.refl _ | apply List.Sublist.cons_cons | apply List.Sublist.cons)) ?_
    intro n3 T3 hT3
    exact h ga' n3 T3 _ hb (by run_tac Drv.tom)
  | [q0, q1, q2, q3, q4, q5, q6] =>
    intro h hql hqn hglue htl hjl
    run_tac Drv.drive [751]
    refine go_drop ((a, lstO (vsP ps) e) :: rest) (by repeat (first | exact List.Sublist.refl _ | apply List.Sublist.cons_cons | apply List.Sublist.cons)) ?_
    intro n3 T3 hT3
    exact h ga' n3 T3 _ hb (by run_tac Drv.tom)
  | [q0, q1, q2, q3, q4, q5, q6, q7] =>
    intro h hql hqn hglue htl hjl
    run_tac Drv.drive [751]
    refine go_drop ((a, lstO (vsP ps) e) :: rest) (by repeat (first | exact List.Sublist.refl _ | apply List.Sublist.cons_cons | apply List.Sublist.cons)) ?_
    intro n3 T3 hT3
    exact h ga' n3 T3 _ hb (by run_tac Drv.tom)
  | [q0, q1, q2, q3, q4, q5, q6, q7, q8] =>
    intro h hql hqn hglue htl hjl
    run_tac Drv.drive [751]
    refine go_drop ((a, lstO (vsP ps) e) :: rest) (by repeat (first | exact List.Sublist.refl _ | apply List.Sublist.cons_cons | apply List.Sublist.cons)) ?_
    intro n3 T3 hT3
    exact h ga' n3 T3 _ hb (by run_tac Drv.tom)
  | [q0, q1, q2, q3, q4, q5, q6, q7, q8, q9] =>
    intro h hql hqn hglue htl hjl
    run_tac Drv.drive [751]
    refine go_drop ((a, lstO (vsP ps) e) :: rest) (by repeat (first | exact List.Sublist.refl _ | apply List.Sublist.cons_cons | apply List.Sublist.cons)) ?_
    intro n3 T3 hT3
    exact h ga' n3 T3 _ hb (by run_tac Drv.tom)
  | q0 :: q1 :: q2 :: q3 :: q4 :: q5 :: q6 :: q7 :: q8 :: q9 :: q10 :: qs =>
    intro h hql hqn
    simp at hqn
/- join makes one line of a row's words -/
theorem join_s (g : Array Value) (hg : GOk g)
    (h : ∀ ga' n' T' t' g', GOk g' → AllBare ga' → T ≤ T' → Go ⟨w, h₀, b, ga', d, os⟩ ⟨κ, k (.ok (.ret (.str (sL (jn (ps.map fun p => qt p.1))) t'))), (a, lstO (vsP ps) e) :: rest, g', n', 820, T'⟩) :
    Go ⟨w, h₀, b, ga, d, os⟩ ⟨κ, .call (.call (.ref 751) ⟨[.ref a], []⟩) none gd lv k, (a, lstO (vsP ps) e) :: rest, g, n, 820, T⟩ := by
  rcases hg with rfl | ⟨c, rfl⟩
  · exact join1 w h₀ b ga d os B hA κ hκ R k gd lv n T a e ps hps hpl rest hga h
  · exact join2 w h₀ b ga d os B hA κ hκ R k gd lv n T a e c ps hps hpl rest hga fun ga' n' T' t' => h ga' n' T' t' _ (.inr ⟨c, rfl⟩)
end
end
section
open PySem PySem.W PySem.W.X PyProof.Rows
noncomputable def efA (P : Params) (t : Nat) (x : List Nat) (ts : Nat) : Obj := ⟨.type "frame", none, .dict #[ent P ⟨#[97, 100, 100, 114]⟩ t (.str (sL x) ts)] 1, #[]⟩
noncomputable def efB (P : Params) (t : Nat) (x : List Nat) (ts : Nat) (t1 i t2 t3 : Nat) (b : Bool) : Obj := ⟨.type "frame", none, .dict #[ent P ⟨#[97, 100, 100, 114]⟩ t (.str (sL x) ts), ent P ⟨#[112, 111, 115]⟩ t1 (.int i t2), ent P ⟨#[101, 115, 99, 97, 112, 101]⟩ t3 (.bool b)] 3, #[]⟩
noncomputable def efC (P : Params) (t : Nat) (x : List Nat) (ts : Nat) (t1 i t2 t3 : Nat) (b : Bool) (t4 : Nat) (v : Value) : Obj := ⟨.type "frame", none, .dict #[ent P ⟨#[97, 100, 100, 114]⟩ t (.str (sL x) ts), ent P ⟨#[112, 111, 115]⟩ t1 (.int i t2), ent P ⟨#[101, 115, 99, 97, 112, 101]⟩ t3 (.bool b), ent P ⟨#[99, 104]⟩ t4 v] 4, #[]⟩
noncomputable def IsEf (P : Params) (t : Nat) (x : List Nat) (ts i : Nat) (b : Bool) (fr : Obj) : Prop := (∃ t1 t2 t3, fr = efB P t x ts t1 i t2 t3 b) ∨ ∃ t1 t2 t3 t4 v, fr = efC P t x ts t1 i t2 t3 b t4 v
noncomputable def sitO (x : List Nat) (ts i : Nat) : Obj := ⟨.type "str_ascii_iterator", none, .fields #[.str (sL x) ts, .int i 0], #[]⟩
noncomputable def enumO (u : Value) (it i : Nat) : Obj := ⟨.type "enumerate", none, .fields #[.none, .bool false, .ref it, .int i 0, .none, u], #[]⟩
noncomputable def tupO (vs : List Value) : Obj := ⟨.type "tuple", none, .seq ⟨vs⟩ 0, #[]⟩
noncomputable def escLoop (L en : Addr) : Code := match (bodyOf fd766).drop 2 with
  | Stmt.For tgt _ b e _ :: _ => .forLoop tgt (.ref en) b e (fEnv fd766 766 L)
  | _ => default
section
variable (X : Env0) (B : BaseF X.w.params X.h₀) (hA : X.A.handled = none) (R : Room X .base 550 2500) (n T L t ts: Nat) (x : List Nat) (rest : List (Addr × Obj)) (g : Array Value)
include B hA R
theorem estart (hx : ((sL x).cps.all fun x => decide (x < 128)) = true)
    (h : ∀ n' T' en it fr lv k', T ≤ T' → IsEf X.w.params t x ts 0 false fr →
      (∀ (Y : Env0) (fr : Obj) (i : Nat) (l : List (Addr × Obj)) (g : Array Value) (n T : Nat), BaseF Y.w.params Y.h₀ → Y.A.handled = none → Room Y .base 550 2500 → IsEf Y.w.params t x ts i false fr → (∀ n' T', T ≤ T' → Go Y ⟨.base, .pure (.done (.ret .none)), l, g, n', 820, T'⟩) → Go Y ⟨.base, k' (.ok .next), (L, fr) :: l, g, n, 820, T⟩) →
      (∀ (Y : Env0) (fr : Obj) (i : Nat) (l : List (Addr × Obj)) (g : Array Value) (n T : Nat), BaseF Y.w.params Y.h₀ → Y.A.handled = none → Room Y .base 550 2500 → IsEf Y.w.params t x ts i true fr →
        (∀ n' T' a t' t'' k2, T ≤ T' → (∀ (Y : Env0) (l : List (Addr × Obj)) (g : Array Value) (n T : Nat), BaseF Y.w.params Y.h₀ → Y.A.handled = none → Room Y .base 550 2500 → (∀ n' T', T ≤ T' → Go Y ⟨.base, .pure (.done (.ret .none)), l, g, n', 820, T'⟩) → Go Y ⟨.base, k2 (.send .none), l, g, n, 820, T⟩) →
          Go Y ⟨.base, .yield (.ref a) false [] k2, (a, tupO [.int i t', .str (sL [92]) t'']) :: l, g, n', 820, T'⟩) → Go Y ⟨.base, k' (.ok .next), (L, fr) :: l, g, n, 820, T⟩) →
      Go X ⟨.base, .call (escLoop L en) none false lv k', (L, fr) :: (en, enumO .none it 0) :: (it, sitO x ts 0) :: rest, g, n', 820, T'⟩) :
    Go X ⟨.base, denQ (.func (bodyOf fd766) (fEnv fd766 766 L)), (L, efA X.w.params t x ts) :: rest, g, n, 820, T⟩ := by
  run_tac Drv.drive [766]
  rw [hx]
  refine go_perm ((L, efB X.w.params t x ts (T + 1) 0 T (T + 2) false) :: (n + 821, enumO .none (n + 820) 0) :: (n + 820, sitO x ts 0) :: rest) (perm_at 2 rfl (.refl _)) ?_
  refine go_drop _ (List.Sublist.refl _) fun n' T' hT => ?_
  refine h n' T' _ _ _ _ _ (by run_tac Drv.tom) (.inl ⟨_, _, _, rfl⟩) ?_ ?_
  · clear h R hA B
    intro Y fr i l g n T B hA R hfr h
    rcases hfr with ⟨t1, t2, t3, rfl⟩ | ⟨t1, t2, t3, t4, v, rfl⟩
    · run_tac Drv.drive [766]
      refine go_drop l (by repeat (first | exact List.Sublist.refl _ | apply List.Sublist.cons_cons | apply List.Sublist.cons)) fun n' T' hT => h n' T' (by run_tac Drv.tom)
    · run_tac Drv.drive [766]
      refine go_drop l (by repeat (first | exact List.Sublist.refl _ | apply List.Sublist.cons_cons | apply List.Sublist.cons)) fun n' T' hT => h n' T' (by run_tac Drv.tom)
  · clear h R hA B
    intro Y fr i l g n T B hA R hfr h
    rcases hfr with ⟨t1, t2, t3, rfl⟩ | ⟨t1, t2, t3, t4, v, rfl⟩
    · run_tac Drv.drive [766]
      refine go_drop (_ :: l) (by repeat (first | exact List.Sublist.refl _ | apply List.Sublist.cons_cons | apply List.Sublist.cons)) fun n' T' hT => h n' T' _ _ _ _ (by run_tac Drv.tom) ?_
      clear h R hA B
      intro Y l g n T B hA R h
      run_tac Drv.drive [766]
      refine go_drop l (by repeat (first | exact List.Sublist.refl _ | apply List.Sublist.cons_cons | apply List.Sublist.cons)) fun n' T' hT => h n' T' (by run_tac Drv.tom)
    · run_tac Drv.drive [766]
      refine go_drop (_ :: l) (by repeat (first | exact List.Sublist.refl _ | apply List.Sublist.cons_cons | apply List.Sublist.cons)) fun n' T' hT => h n' T' _ _ _ _ (by run_tac Drv.tom) ?_
      clear h R hA B
      intro Y l g n T B hA R h
      run_tac Drv.drive [766]
      refine go_drop l (by repeat (first | exact List.Sublist.refl _ | apply List.Sublist.cons_cons | apply List.Sublist.cons)) fun n' T' hT => h n' T' (by run_tac Drv.tom)
variable (en it i : Nat) (u : Value) (fr : Obj) 
theorem eend (b : Bool) (hfr : IsEf X.w.params t x ts (i - 1) b fr) (hg : (sL x).cps[(i : Int).toNat]? = none) (hi : i < 100000)
    (h : ∀ n' T', T ≤ T' → Go X ⟨.base, .pure (.again (.block [] (fEnv fd766 766 L))), (L, fr) :: rest, g, n', 820, T'⟩) :
    Go X ⟨.base, denQ (escLoop L en), (L, fr) :: (en, enumO u it i) :: (it, sitO x ts i) :: rest, g, n, 820, T⟩ := by
  rcases hfr with ⟨t1, t2, t3, rfl⟩ | ⟨t1, t2, t3, t4, v, rfl⟩
  · run_tac Drv.drive [766]
    refine go_drop ((L, efB ..) :: rest) (by repeat (first | exact List.Sublist.refl _ | apply List.Sublist.cons_cons | apply List.Sublist.cons)) fun n' T' hT => h n' T' (by run_tac Drv.tom)
  · run_tac Drv.drive [766]
    refine go_drop ((L, efC ..) :: rest) (by repeat (first | exact List.Sublist.refl _ | apply List.Sublist.cons_cons | apply List.Sublist.cons)) fun n' T' hT => h n' T' (by run_tac Drv.tom)
theorem eblk (h : ∀ n' T', T ≤ T' → Go X ⟨.base, .pure (.done .next), rest, g, n', 820, T'⟩) : Go X ⟨.base, denQ (.block [] (fEnv fd766 766 L)), rest, g, n, 820, T⟩ := by
  run_tac Drv.drive [766]
  refine go_drop rest (by repeat (first | exact List.Sublist.refl _ | apply List.Sublist.cons_cons | apply List.Sublist.cons)) fun n' T' hT => h n' T' (by run_tac Drv.tom)
theorem eturn2 (hfr : IsEf X.w.params t x ts (i - 1) false fr) (hg : (sL x).cps[(i : Int).toNat]? = some 92) (hi : i < 100000)
    (h : ∀ n' T' u fr, T ≤ T' → IsEf X.w.params t x ts i true fr → Go X ⟨.base, .pure (.again (escLoop L en)), (L, fr) :: (en, enumO u it (i + 1)) :: (it, sitO x ts (i + 1)) :: rest, g, n', 820, T'⟩) :
    Go X ⟨.base, denQ (escLoop L en), (L, fr) :: (en, enumO u it i) :: (it, sitO x ts i) :: rest, g, n, 820, T⟩ := by
  rcases hfr with ⟨t1, t2, t3, rfl⟩ | ⟨t1, t2, t3, t4, v, rfl⟩
  · run_tac Drv.drive [766]
    refine go_drop ((L, efC ..) :: (en, enumO _ it (i + 1)) :: (it, sitO x ts (i + 1)) :: rest) (by repeat (first | exact List.Sublist.refl _ | apply List.Sublist.cons_cons | apply List.Sublist.cons)) fun n' T' hT => ?_
    exact h n' T' _ _ (by run_tac Drv.tom) (.inr ⟨_, _, _, _, _, rfl⟩)
  · run_tac Drv.drive [766]
    refine go_drop ((L, efC ..) :: (en, enumO _ it (i + 1)) :: (it, sitO x ts (i + 1)) :: rest) (by repeat (first | exact List.Sublist.refl _ | apply List.Sublist.cons_cons | apply List.Sublist.cons)) fun n' T' hT => ?_
    exact h n' T' _ _ (by run_tac Drv.tom) (.inr ⟨_, _, _, _, _, rfl⟩)
theorem eturn (b : Bool) (c : Nat) (hc : b = false → c ≠ 92) (hlt : c < 128) (hfr : IsEf X.w.params t x ts (i - 1) b fr) (hg : (sL x).cps[(i : Int).toNat]? = some c) (hi : i < 100000)
    (h : ∀ n' T' u fr a t' t'' k2, T ≤ T' → IsEf X.w.params t x ts i b fr → (∀ (Y : Env0) (fr : Obj) (l : List (Addr × Obj)) (g : Array Value) (n T : Nat), BaseF Y.w.params Y.h₀ → Y.A.handled = none → Room Y .base 550 2500 → IsEf Y.w.params t x ts i b fr → (∀ n' T' fr, T ≤ T' → IsEf Y.w.params t x ts i false fr → Go Y ⟨.base, .pure (.again (escLoop L en)), (L, fr) :: l, g, n', 820, T'⟩) → Go Y ⟨.base, k2 (.send .none), (L, fr) :: l, g, n, 820, T⟩) →
      Go X ⟨.base, .yield (.ref a) false [] k2, (a, tupO [.int i t', .str (sL (if b then [92, c] else [c])) t'']) :: (L, fr) :: (en, enumO u it (i + 1)) :: (it, sitO x ts (i + 1)) :: rest, g, n', 820, T'⟩) :
    Go X ⟨.base, denQ (escLoop L en), (L, fr) :: (en, enumO u it i) :: (it, sitO x ts i) :: rest, g, n, 820, T⟩ := by
  cases b with
  | false =>
    have hc := hc rfl
    rcases hfr with ⟨t1, t2, t3, rfl⟩ | ⟨t1, t2, t3, t4, v, rfl⟩
    · run_tac Drv.drive [766]
      refine go_perm ((_, tupO [.int i _, .str (sL [c]) _]) :: (L, efC ..) :: (en, enumO _ it (i + 1)) :: (it, sitO x ts (i + 1)) :: _) (perm_at 0 rfl (perm_at 4 rfl (perm_at 4 rfl (perm_at 4 rfl (.refl _))))) ?_
      refine go_drop ((_, tupO [.int i _, .str (sL [c]) _]) :: (L, efC ..) :: (en, enumO _ it (i + 1)) :: (it, sitO x ts (i + 1)) :: rest) (by repeat (first | exact List.Sublist.refl _ | apply List.Sublist.cons_cons | apply List.Sublist.cons)) fun n' T' hT => ?_
      refine h n' T' _ _ _ _ _ _ (by run_tac Drv.tom) (.inr ⟨_, _, _, _, _, rfl⟩) ?_
      clear h R hA B
      intro Y fr l g n T B hA R hfr h
      rcases hfr with ⟨t1, t2, t3, rfl⟩ | ⟨t1, t2, t3, t4, v, rfl⟩
      · run_tac Drv.drive [766]
        refine go_drop ((L, efB ..) :: l) (by repeat (first | exact List.Sublist.refl _ | apply List.Sublist.cons_cons | apply List.Sublist.cons)) fun n' T' hT => h n' T' _ (by run_tac Drv.tom) (.inl ⟨_, _, _, rfl⟩)
      · run_tac Drv.drive [766]
        refine go_drop ((L, efC ..) :: l) (by repeat (first | exact List.Sublist.refl _ | apply List.Sublist.cons_cons | apply List.Sublist.cons)) fun n' T' hT => h n' T' _ (by run_tac Drv.tom) (.inr ⟨_, _, _, _, _, rfl⟩)
    · run_tac Drv.drive [766]
      refine go_perm ((_, tupO [.int i _, .str (sL [c]) _]) :: (L, efC ..) :: (en, enumO _ it (i + 1)) :: (it, sitO x ts (i + 1)) :: _) (perm_at 0 rfl (perm_at 4 rfl (perm_at 4 rfl (perm_at 4 rfl (.refl _))))) ?_
      refine go_drop ((_, tupO [.int i _, .str (sL [c]) _]) :: (L, efC ..) :: (en, enumO _ it (i + 1)) :: (it, sitO x ts (i + 1)) :: rest) (by repeat (first | exact List.Sublist.refl _ | apply List.Sublist.cons_cons | apply List.Sublist.cons)) fun n' T' hT => ?_
      refine h n' T' _ _ _ _ _ _ (by run_tac Drv.tom) (.inr ⟨_, _, _, _, _, rfl⟩) ?_
      clear h R hA B
      intro Y fr l g n T B hA R hfr h
      rcases hfr with ⟨t1, t2, t3, rfl⟩ | ⟨t1, t2, t3, t4, v, rfl⟩
      · run_tac Drv.drive [766]
        refine go_drop ((L, efB ..) :: l) (by repeat (first | exact List.Sublist.refl _ | apply List.Sublist.cons_cons | apply List.Sublist.cons)) fun n' T' hT => h n' T' _ (by run_tac Drv.tom) (.inl ⟨_, _, _, rfl⟩)
      · run_tac Drv.drive [766]
        refine go_drop ((L, efC ..) :: l) (by repeat (first | exact List.Sublist.refl _ | apply List.Sublist.cons_cons | apply List.Sublist.cons)) fun n' T' hT => h n' T' _ (by run_tac Drv.tom) (.inr ⟨_, _, _, _, _, rfl⟩)
  | true =>
    rcases hfr with ⟨t1, t2, t3, rfl⟩ | ⟨t1, t2, t3, t4, v, rfl⟩
    · run_tac Drv.drive [766]
      refine go_perm ((_, tupO [.int i _, .str (sL [92, c]) _]) :: (L, efC ..) :: (en, enumO _ it (i + 1)) :: (it, sitO x ts (i + 1)) :: _) (perm_at 0 rfl (perm_at 4 rfl (perm_at 4 rfl (perm_at 4 rfl (.refl _))))) ?_
      refine go_drop ((_, tupO [.int i _, .str (sL [92, c]) _]) :: (L, efC ..) :: (en, enumO _ it (i + 1)) :: (it, sitO x ts (i + 1)) :: rest) (by repeat (first | exact List.Sublist.refl _ | apply List.Sublist.cons_cons | apply List.Sublist.cons)) fun n' T' hT => ?_
      refine h n' T' _ _ _ _ _ _ (by run_tac Drv.tom) (.inr ⟨_, _, _, _, _, rfl⟩) ?_
      clear h R hA B
      intro Y fr l g n T B hA R hfr h
      rcases hfr with ⟨t1, t2, t3, rfl⟩ | ⟨t1, t2, t3, t4, v, rfl⟩
      · run_tac Drv.drive [766]
        refine go_drop ((L, efB ..) :: l) (by repeat (first | exact List.Sublist.refl _ | apply List.Sublist.cons_cons | apply List.Sublist.cons)) fun n' T' hT => h n' T' _ (by run_tac Drv.tom) (.inl ⟨_, _, _, rfl⟩)
      · run_tac Drv.drive [766]
        refine go_drop ((L, efC ..) :: l) (by repeat (first | exact List.Sublist.refl _ | apply List.Sublist.cons_cons | apply List.Sublist.cons)) fun n' T' hT => h n' T' _ (by run_tac Drv.tom) (.inr ⟨_, _, _, _, _, rfl⟩)
    · run_tac Drv.drive [766]
      refine go_perm ((_, tupO [.int i _, .str (sL [92, c]) _]) :: (L, efC ..) :: (en, enumO _ it (i + 1)) :: (it, sitO x ts (i + 1)) :: _) (perm_at 0 rfl (perm_at 4 rfl (perm_at 4 rfl (perm_at 4 rfl (.refl _))))) ?_
      refine go_drop ((_, tupO [.int i _, .str (sL [92, c]) _]) :: (L, efC ..) :: (en, enumO _ it (i + 1)) :: (it, sitO x ts (i + 1)) :: rest) (by repeat (first | exact List.Sublist.refl _ | apply List.Sublist.cons_cons | apply List.Sublist.cons)) fun n' T' hT => ?_
      refine h n' T' _ _ _ _ _ _ (by run_tac Drv.tom) (.inr ⟨_, _, _, _, _, rfl⟩) ?_
      clear h R hA B
      intro Y fr l g n T B hA R hfr h
      rcases hfr with ⟨t1, t2, t3, rfl⟩ | ⟨t1, t2, t3, t4, v, rfl⟩
      · run_tac Drv.drive [766]
        refine go_drop ((L, efB ..) :: l) (by repeat (first | exact List.Sublist.refl _ | apply List.Sublist.cons_cons | apply List.Sublist.cons)) fun n' T' hT => h n' T' _ (by run_tac Drv.tom) (.inl ⟨_, _, _, rfl⟩)
      · run_tac Drv.drive [766]
        refine go_drop ((L, efC ..) :: l) (by repeat (first | exact List.Sublist.refl _ | apply List.Sublist.cons_cons | apply List.Sublist.cons)) fun n' T' hT => h n' T' _ (by run_tac Drv.tom) (.inr ⟨_, _, _, _, _, rfl⟩)
end
end
section
open PySem PySem.W PySem.W.X PyProof.Rows
/- what _iter_escaped_chars yields: places and texts -/
noncomputable def escs : Nat → Bool → List Nat → List (Nat × List Nat)
  | _, false, [] => []
  | i, true, [] => [(i - 1, [92])]
  | i, true, c :: r => (i, [92, c]) :: escs (i + 1) false r
  | i, false, c :: r => if c = 92 then escs (i + 1) true r else (i, [c]) :: escs (i + 1) false r
noncomputable def escI (p : Nat × List Nat) : Item := fun v nl => ∃ a t t', v = .ref a ∧ nl = [(a, tupO [.int p.1 t, .str (sL p.2) t'])]
/- what follows a generator's next run -/
noncomputable def Cont (w : World) (h₀ : Heap) (j : Nat) (K₀ : List (Addr × Obj)) (b : Base (model PW w)) (ga : Array GenState) (d : Drawn) (os : OsState) (κ : Kt) (k : GenResult → Sem Fin) (rest : List (Addr × Obj)) (g : Array Value) (T : Nat) : List Item → Prop
  | [] => ∀ n' T', T ≤ T' → Go ⟨w, h₀, b, ga.setIfInBounds j .finished, d, os⟩ ⟨κ, k (.returned .none), K₀ ++ rest, g, n', 820, T'⟩
  | I :: Is => ∀ n' T' v nl gs' lo', T ≤ T' → I v nl → Yields w h₀ j K₀ Is gs' lo' → Go ⟨w, h₀, b, ga.setIfInBounds j gs', d, os⟩ ⟨κ, k (.yielded v), nl ++ (lo' ++ (K₀ ++ rest)), g, n', 820, T'⟩
theorem Cont.mono {w : World} {h₀ : Heap} {j : Nat} {K₀ : List (Addr × Obj)} {b : Base (model PW w)} {ga : Array GenState} {d : Drawn} {os : OsState} {κ : Kt} {k : GenResult → Sem Fin} {rest : List (Addr × Obj)} {g : Array Value} {T T' : Nat} {Is : List Item} (hT : T ≤ T') (h : Cont w h₀ j K₀ b ga d os κ k rest g T Is) : Cont w h₀ j K₀ b ga d os κ k rest g T' Is := by
  cases Is with
  | nil => exact fun n' T2 h2 => h n' T2 (Nat.le_trans hT h2)
  | cons I Is => exact fun n' T2 v nl gs' lo' h2 => h n' T2 v nl gs' lo' (Nat.le_trans hT h2)
theorem yields_of {w : World} {h₀ : Heap} {j : Nat} {K₀ : List (Addr × Obj)} {Is : List Item} {gs : GenState} {lo : List (Addr × Obj)} (hs : (gs.status = .fresh ∨ gs.status = .suspended) ∧ gs.bare = true)
    (h : ∀ (b : Base (model PW w)) (ga : Array GenState) (d : Drawn) (os : OsState) (κ : Kt) (k : GenResult → Sem Fin) (lv : List Value) (rest : List (Addr × Obj)) (g : Array Value) (n T : Nat),
      b.A.handled = none → handledOf none κ = none → Room ⟨w, h₀, b, ga, d, os⟩ κ 540 2400 → ga[j]? = some gs → Cont w h₀ j K₀ b ga d os κ k rest g T Is →
      Go ⟨w, h₀, b, ga, d, os⟩ ⟨κ, .resume j (.send .none) lv k, lo ++ (K₀ ++ rest), g, n, 820, T⟩) : Yields w h₀ j K₀ Is gs lo := by
  cases Is with
  | nil => exact ⟨hs, h⟩
  | cons I Is => exact ⟨hs, h⟩
theorem Yields.of {w : World} {h₀ : Heap} {j : Nat} {K₀ : List (Addr × Obj)} {Is : List Item} {gs : GenState} {lo : List (Addr × Obj)} (hY : Yields w h₀ j K₀ Is gs lo) : ((gs.status = .fresh ∨ gs.status = .suspended) ∧ gs.bare = true) ∧
    ∀ (b : Base (model PW w)) (ga : Array GenState) (d : Drawn) (os : OsState) (κ : Kt) (k : GenResult → Sem Fin) (lv : List Value) (rest : List (Addr × Obj)) (g : Array Value) (n T : Nat),
      b.A.handled = none → handledOf none κ = none → Room ⟨w, h₀, b, ga, d, os⟩ κ 540 2400 → ga[j]? = some gs → Cont w h₀ j K₀ b ga d os κ k rest g T Is →
      Go ⟨w, h₀, b, ga, d, os⟩ ⟨κ, .resume j (.send .none) lv k, lo ++ (K₀ ++ rest), g, n, 820, T⟩ := by
  cases Is with
  | nil => exact hY
  | cons I Is => exact hY
theorem cp_get {x r : List Nat} {i c : Nat} (h : x.drop i = c :: r) : (sL x).cps[(i : Int).toNat]? = some c := by
  rw [Int.toNat_natCast]
  show x.toArray[i]? = _
  rw [List.getElem?_toArray, ← Nat.add_zero i, ← List.getElem?_drop, h]; rfl
theorem cp_none {x : List Nat} {i : Nat} (h : x.drop i = []) : (sL x).cps[(i : Int).toNat]? = none := by
  rw [Int.toNat_natCast]
  show x.toArray[i]? = _
  rw [List.getElem?_toArray, ← Nat.add_zero i, ← List.getElem?_drop, h]; rfl
theorem asc_all {x : List Nat} (h : ∀ c ∈ x, c < 128) : ((sL x).cps.all fun x => decide (x < 128)) = true := by
  show (x.toArray.all fun x => decide (x < 128)) = true
  rw [List.all_toArray, List.all_eq_true]
  exact fun c hc => decide_eq_true (h c hc)
noncomputable abbrev escF (L : Addr) : Code := .func (bodyOf fd766) (fEnv fd766 766 L)
section
variable (w : World) (h₀ : Heap) (B : BaseF w.params h₀) (j L en it t ts : Nat) (x : List Nat) (hx : ∀ c ∈ x, c < 128) (hxl : x.length < 90000)
include B hx hxl
theorem eloop (lvF : List Value) (k' : Result → Sem Fin) (pF : Pos)
      (h1 : ∀ (Y : Env0) (fr : Obj) (i : Nat) (l : List (Addr × Obj)) (g : Array Value) (n T : Nat), BaseF Y.w.params Y.h₀ → Y.A.handled = none → Room Y .base 550 2500 → IsEf Y.w.params t x ts i false fr → (∀ n' T', T ≤ T' → Go Y ⟨.base, .pure (.done (.ret .none)), l, g, n', 820, T'⟩) → Go Y ⟨.base, k' (.ok .next), (L, fr) :: l, g, n, 820, T⟩)
      (h2 : ∀ (Y : Env0) (fr : Obj) (i : Nat) (l : List (Addr × Obj)) (g : Array Value) (n T : Nat), BaseF Y.w.params Y.h₀ → Y.A.handled = none → Room Y .base 550 2500 → IsEf Y.w.params t x ts i true fr →
        (∀ n' T' a t' t'' k2, T ≤ T' → (∀ (Y : Env0) (l : List (Addr × Obj)) (g : Array Value) (n T : Nat), BaseF Y.w.params Y.h₀ → Y.A.handled = none → Room Y .base 550 2500 → (∀ n' T', T ≤ T' → Go Y ⟨.base, .pure (.done (.ret .none)), l, g, n', 820, T'⟩) → Go Y ⟨.base, k2 (.send .none), l, g, n, 820, T⟩) →
          Go Y ⟨.base, .yield (.ref a) false [] k2, (a, tupO [.int i t', .str (sL [92]) t'']) :: l, g, n', 820, T'⟩) → Go Y ⟨.base, k' (.ok .next), (L, fr) :: l, g, n, 820, T⟩) :
    ∀ (rem : List Nat) (i : Nat), x.drop i = rem → i ≤ x.length → ∀ (bb : Bool) (u : Value) (fr : Obj), IsEf w.params t x ts (i - 1) bb fr →
    ∀ (b : Base (model PW w)) (ga : Array GenState) (d : Drawn) (os : OsState) (κ : Kt) (k : GenResult → Sem Fin) (rest : List (Addr × Obj)) (g : Array Value) (n T : Nat),
      b.A.handled = none → handledOf none κ = none → Room ⟨w, h₀, b, ga, d, os⟩ κ 540 2400 → Cont w h₀ j [] b ga d os κ k rest g T ((escs i bb rem).map escI) →
      Go (genX ⟨w, h₀, b, ga, d, os⟩ κ j k (escLoop L en) [.ret k' none false lvF (escF L) pF []]) ⟨.base, denQ (escLoop L en), (L, fr) :: (en, enumO u it i) :: (it, sitO x ts i) :: rest, g, n, 820, T⟩
  | [], i, hi, hil, bb, u, fr, hfr, b, ga, d, os, κ, k, rest, g, n, T, hA, hκ, R, hC => by
    refine eend (genX ⟨w, h₀, b, ga, d, os⟩ κ j k _ _) B (gen_handled1 hA hκ) ((gen_room1 R).le rfl rfl) n T L t ts x rest g en it i u fr bb hfr (cp_none hi) (by run_tac Drv.tom) fun n1 T1 hT1 => ?_
    refine go_gagain (by kernel_rfl) ?_
    refine eblk (genX ⟨w, h₀, b, ga, d, os⟩ κ j k _ _) B (gen_handled1 hA hκ) ((gen_room1 R).le rfl rfl) n1 T1 L _ g fun n2 T2 hT2 => ?_
    refine go_gpop ?_
    cases bb with
    | false =>
      refine h1 (genX ⟨w, h₀, b, ga, d, os⟩ κ j k (escF L) []) fr (i - 1) _ g n2 T2 B (gen_handled hA hκ) ((gen_room R).le rfl rfl) hfr fun n3 T3 hT3 => ?_
      refine go_gend ?_
      exact hC n3 T3 (by run_tac Drv.tom)
    | true =>
      refine h2 (genX ⟨w, h₀, b, ga, d, os⟩ κ j k (escF L) []) fr (i - 1) _ g n2 T2 B (gen_handled hA hκ) ((gen_room R).le rfl rfl) hfr fun n3 T3 a t' t'' k2 hT3 hk2 => ?_
      refine go_yield rfl rfl fun pp => ?_
      refine hC n3 T3 _ [_] (.suspended k2 [] (escF L) pp [] false) [] (by run_tac Drv.tom) ⟨_, _, _, rfl, rfl⟩ ?_
      refine yields_of ⟨.inr rfl, rfl⟩ ?_
      intro b ga d os κ k lv rest g n T hA hκ R hga hC
      refine go_resume hga ?_
      refine hk2 _ _ g n T B (gen_handled hA hκ) ((gen_room R).le rfl rfl) fun n4 T4 hT4 => go_gend ?_
      exact hC n4 T4 hT4
  | c :: r, i, hi, hil, bb, u, fr, hfr, b, ga, d, os, κ, k, rest, g, n, T, hA, hκ, R, hC => by
    have hlt := drop_lt hi
    have hr : x.drop (i + 1) = r := by rw [← List.drop_drop, hi]; rfl
    have hc : c < 128 := hx c (List.mem_of_mem_drop (by rw [hi]; exact .head _))
    by_cases h92 : bb = false ∧ c = 92
    · obtain ⟨rfl, rfl⟩ := h92
      refine eturn2 (genX ⟨w, h₀, b, ga, d, os⟩ κ j k _ _) B (gen_handled1 hA hκ) ((gen_room1 R).le rfl rfl) n T L t ts x rest g en it i u fr hfr (cp_get hi) (by run_tac Drv.tom) fun n1 T1 u1 fr1 hT1 hfr1 => ?_
      refine go_gagain (by kernel_rfl) ?_
      refine eloop lvF k' pF h1 h2 r (i + 1) hr (by run_tac Drv.tom) true u1 fr1 hfr1 b ga d os κ k rest g n1 T1 hA hκ R (Cont.mono hT1 ?_)
      have z := hC
      rw [show escs i false (92 :: r) = escs (i + 1) true r from by simp [escs]] at z
      exact z
    · have he : ∃ s, escs i bb (c :: r) = (i, s) :: escs (i + 1) false r ∧ s = (if bb then [92, c] else [c]) := by
        cases bb with
        | true => exact ⟨_, rfl, rfl⟩
        | false =>
          have : c ≠ 92 := fun z => h92 ⟨rfl, z⟩
          exact ⟨[c], by rw [escs, if_neg this], rfl⟩
      obtain ⟨s, he, hs⟩ := he
      rw [he] at hC
      refine eturn (genX ⟨w, h₀, b, ga, d, os⟩ κ j k _ _) B (gen_handled1 hA hκ) ((gen_room1 R).le rfl rfl) n T L t ts x rest g en it i u fr bb c (fun z y => h92 ⟨z, y⟩) hc hfr (cp_get hi) (by run_tac Drv.tom) fun n1 T1 u1 fr1 a t' t'' k2 hT1 hfr1 hk2 => ?_
      rw [← hs]
      refine go_yield rfl rfl fun pp => ?_
      refine hC n1 T1 _ [_] (.suspended k2 [] (escLoop L en) pp [.ret k' none false lvF (escF L) pF []] false) [(L, fr1), (en, enumO u1 it (i + 1)), (it, sitO x ts (i + 1))] hT1 ⟨_, _, _, rfl, rfl⟩ ?_
      refine yields_of ⟨.inr rfl, rfl⟩ ?_
      intro b ga d os κ k lv rest g n T hA hκ R hga hC
      refine go_resume hga ?_
      refine hk2 _ fr1 _ g n T B (gen_handled1 hA hκ) ((gen_room1 R).le rfl rfl) hfr1 fun n2 T2 fr2 hT2 hfr2 => ?_
      refine go_gagain (by kernel_rfl) ?_
      exact eloop lvF k' pF h1 h2 r (i + 1) hr (by run_tac Drv.tom) false u1 fr2 hfr2 b ga d os κ k rest g n2 T2 hA hκ R (Cont.mono hT2 hC)
/- the generator of _iter_escaped_chars -/
theorem esc_yields : Yields w h₀ j [] ((escs 0 false x).map escI) (.fresh (escF L)) [(L, efA w.params t x ts)] := by
  refine yields_of ⟨.inl rfl, rfl⟩ ?_
  intro b ga d os κ k lv rest g n T hA hκ R hga hC
  refine go_resume_fresh hga ?_
  refine estart (genX ⟨w, h₀, b, ga, d, os⟩ κ j k _ []) B (gen_handled hA hκ) ((gen_room R).le rfl rfl) n T L t ts x _ g (asc_all hx) fun n1 T1 en it fr lv k' hT1 hfr h1 h2 => ?_
  refine go_gpush fun pF => ?_
  exact eloop w h₀ B j L en it t ts x hx hxl lv k' pF h1 h2 x 0 rfl (Nat.zero_le _) false .none fr hfr b ga d os κ k rest g n1 T1 hA hκ R (Cont.mono hT1 hC)
end
end
section
open PySem PySem.W PySem.W.X PyProof.Rows
noncomputable def stopO (a : Addr) : Obj := ⟨.type "StopIteration", none, .fields #[.ref a, .none, .none, .none, .bool false, .none], #[]⟩
theorem extPerm1 {α : Type} (u v : List α) (a : α) (R : List α) : (u ++ (v ++ (a :: R))).Perm (a :: (u ++ (v ++ R))) := by
  rw [← List.append_assoc, ← List.append_assoc]
  exact List.perm_middle
section
variable (w : World) (h₀ : Heap) (b : Base (model PW w)) (ga : Array GenState) (d : Drawn) (os : OsState) (B : BaseF w.params h₀) (hA : b.A.handled = none) (κ : Kt) (hκ : handledOf none κ = none) (R : ∀ ga, Room ⟨w, h₀, b, ga, d, os⟩ κ 520 2200) (k : Result → Sem Fin) (cc : Code) (ge j : Nat) (hcc : cc = .builtin "generator.__next__" ⟨[.ref ge], []⟩) (nm qn : Value) (rest K₀ : List (Addr × Obj)) (g : Array Value) (gs : GenState) (lo : List (Addr × Obj)) (n T : Nat) (hga : ga[j]? = some gs)
include B hA R hκ hga hcc
/- the next item of a generator -/
theorem gnext (I : Item) (Is : List Item) (hY : Yields w h₀ j K₀ (I :: Is) gs lo)
    (h : ∀ n' T' v nl gs' lo', T ≤ T' → I v nl → Yields w h₀ j K₀ Is gs' lo' → Go ⟨w, h₀, b, ga.setIfInBounds j gs', d, os⟩ ⟨κ, k (.ok (.ret v)), (ge, genO j nm qn) :: (nl ++ (lo' ++ (K₀ ++ rest))), g, n', 820, T'⟩) :
    Go ⟨w, h₀, b, ga, d, os⟩ ⟨.ret cc none k κ, denQ cc, (ge, genO j nm qn) :: (lo ++ (K₀ ++ rest)), g, n, 820, T⟩ := by
  subst hcc
  obtain ⟨hst, hy⟩ := hY
  have R0 := R ga
  generalize htl : lo ++ (K₀ ++ rest) = tl
  run_tac Drv.drive []
  refine go_genStateS hga hst.1 (fun x => ?_) (fun x => ?_)
  · run_tac Drv.drive []
    rw [← htl]
    refine go_perm (lo ++ (K₀ ++ ((ge, genO j nm qn) :: rest))) (extPerm1 lo K₀ _ rest) ?_
    refine go_drop _ (List.Sublist.refl _) fun n1 T1 hT1 => ?_
    refine hy b ga d os _ _ _ _ g n1 T1 hA (by exact hκ) (by exact (R ga).ret.le rfl rfl) hga fun n' T' v nl gs' lo' hT hI hY => ?_
    refine go_perm ((ge, genO j nm qn) :: (nl ++ (lo' ++ (K₀ ++ rest)))) (by rw [← List.append_assoc nl, ← List.append_assoc nl]; exact (extPerm1 (nl ++ lo') K₀ _ rest).symm) ?_
    have R1 := R (ga.setIfInBounds j gs')
    generalize htl' : nl ++ (lo' ++ (K₀ ++ rest)) = tl'
    run_tac Drv.drive []
    refine go_drop ((ge, genO j nm qn) :: tl') (by repeat (first | exact List.Sublist.refl _ | apply List.Sublist.cons_cons | apply List.Sublist.cons)) fun n2 T2 hT2 => ?_
    rw [← htl']
    exact h n2 T2 v nl gs' lo' (by run_tac Drv.tom) hI hY
  · run_tac Drv.drive []
    rw [← htl]
    refine go_perm (lo ++ (K₀ ++ ((ge, genO j nm qn) :: rest))) (extPerm1 lo K₀ _ rest) ?_
    refine go_drop _ (List.Sublist.refl _) fun n1 T1 hT1 => ?_
    refine hy b ga d os _ _ _ _ g n1 T1 hA (by exact hκ) (by exact (R ga).ret.le rfl rfl) hga fun n' T' v nl gs' lo' hT hI hY => ?_
    refine go_perm ((ge, genO j nm qn) :: (nl ++ (lo' ++ (K₀ ++ rest)))) (by rw [← List.append_assoc nl, ← List.append_assoc nl]; exact (extPerm1 (nl ++ lo') K₀ _ rest).symm) ?_
    have R1 := R (ga.setIfInBounds j gs')
    generalize htl' : nl ++ (lo' ++ (K₀ ++ rest)) = tl'
    run_tac Drv.drive []
    refine go_drop ((ge, genO j nm qn) :: tl') (by repeat (first | exact List.Sublist.refl _ | apply List.Sublist.cons_cons | apply List.Sublist.cons)) fun n2 T2 hT2 => ?_
    rw [← htl']
    exact h n2 T2 v nl gs' lo' (by run_tac Drv.tom) hI hY
theorem gnext_end (hY : Yields w h₀ j K₀ [] gs lo)
    (h : ∀ n' T' e a, T ≤ T' → Go ⟨w, h₀, b, ga.setIfInBounds j .finished, d, os⟩ ⟨κ, k (.error (.ref e)), (e, stopO a) :: (a, tupO []) :: (ge, genO j nm qn) :: (K₀ ++ rest), g, n', 820, T'⟩) :
    Go ⟨w, h₀, b, ga, d, os⟩ ⟨.ret cc none k κ, denQ cc, (ge, genO j nm qn) :: (lo ++ (K₀ ++ rest)), g, n, 820, T⟩ := by
  subst hcc
  obtain ⟨hst, hy⟩ := hY
  have R0 := R ga
  generalize htl : lo ++ (K₀ ++ rest) = tl
  run_tac Drv.drive []
  refine go_genStateS hga hst.1 (fun x => ?_) (fun x => ?_)
  · run_tac Drv.drive []
    rw [← htl]
    refine go_perm (lo ++ (K₀ ++ ((ge, genO j nm qn) :: rest))) (extPerm1 lo K₀ _ rest) ?_
    refine go_drop _ (List.Sublist.refl _) fun n1 T1 hT1 => ?_
    refine hy b ga d os _ _ _ _ g n1 T1 hA (by exact hκ) (by exact (R ga).ret.le rfl rfl) hga fun n' T' hT => ?_
    refine go_perm ((ge, genO j nm qn) :: (K₀ ++ rest)) (rot [_] K₀ rest) ?_
    have R1 := R (ga.setIfInBounds j .finished)
    generalize htl' : K₀ ++ rest = tl' at *
    run_tac Drv.drive []
    refine go_drop ((_, stopO _) :: (_, tupO []) :: (ge, genO j nm qn) :: tl') (by repeat (first | exact List.Sublist.refl _ | apply List.Sublist.cons_cons | apply List.Sublist.cons)) fun n2 T2 hT2 => ?_
    exact h n2 T2 _ _ (by run_tac Drv.tom)
  · run_tac Drv.drive []
    rw [← htl]
    refine go_perm (lo ++ (K₀ ++ ((ge, genO j nm qn) :: rest))) (extPerm1 lo K₀ _ rest) ?_
    refine go_drop _ (List.Sublist.refl _) fun n1 T1 hT1 => ?_
    refine hy b ga d os _ _ _ _ g n1 T1 hA (by exact hκ) (by exact (R ga).ret.le rfl rfl) hga fun n' T' hT => ?_
    refine go_perm ((ge, genO j nm qn) :: (K₀ ++ rest)) (rot [_] K₀ rest) ?_
    have R1 := R (ga.setIfInBounds j .finished)
    generalize htl' : K₀ ++ rest = tl' at *
    run_tac Drv.drive []
    refine go_drop ((_, stopO _) :: (_, tupO []) :: (ge, genO j nm qn) :: tl') (by repeat (first | exact List.Sublist.refl _ | apply List.Sublist.cons_cons | apply List.Sublist.cons)) fun n2 T2 hT2 => ?_
    exact h n2 T2 _ _ (by run_tac Drv.tom)
end
end
section
open PySem PySem.W PySem.W.X PyProof.Rows
theorem forIn_strs (body : Value × Nat → Array Str → Sem (ForInStep (Array Str))) (hb : ∀ s t i parts, body (.str s t, i) parts = Sem.pure (.yield (parts.push s))) :
    ∀ (qs : List (List Nat × Nat)) (m : Nat) (acc : Array Str), forIn ((vsP qs).zipIdx m) acc body = (Sem.pure ⟨acc.toList ++ qs.map fun q => sL q.1⟩ : Sem (Array Str))
  | [], m, acc => by
    show (Sem.pure acc : Sem (Array Str)) = _
    simp
  | q :: qs, m, acc => by
    have ih := forIn_strs body hb qs (m + 1) (acc.push (sL q.1))
    show forIn ((Value.str (sL q.1) q.2 :: vsP qs).zipIdx m) acc body = _
    rw [List.zipIdx_cons, List.forIn_cons, hb]
    show forIn ((vsP qs).zipIdx (m + 1)) (acc.push (sL q.1)) body = _
    rw [ih]
    simp
end
section
open PySem PySem.W PySem.W.X PyProof.Rows
noncomputable def ovV (o : Option Nat) (t : Nat) : Value := match o with | none => .none | some p => .int p t
noncomputable def sfB (P : Params) (x : List Nat) (s : Nat) (o : Value) (r : Addr) (t0 t1 t2 t3 t4 t6 : Nat) : Obj := ⟨.type "frame", none, .dict #[ent P ⟨#[97, 100, 100, 114]⟩ t0 (.str (sL x) t1), ent P ⟨#[115, 116, 97, 114, 116]⟩ t2 (.int s t3), ent P ⟨#[111, 112, 101, 110, 95, 112, 111, 115]⟩ t4 o, ent P ⟨#[114, 101, 115, 117, 108, 116]⟩ t6 (.ref r)] 4, #[]⟩
noncomputable def sfC (P : Params) (x : List Nat) (s : Nat) (o : Value) (r : Addr) (t0 t1 t2 t3 t4 t6 t7 t9 : Nat) (i c : Value) : Obj := ⟨.type "frame", none, .dict #[ent P ⟨#[97, 100, 100, 114]⟩ t0 (.str (sL x) t1), ent P ⟨#[115, 116, 97, 114, 116]⟩ t2 (.int s t3), ent P ⟨#[111, 112, 101, 110, 95, 112, 111, 115]⟩ t4 o, ent P ⟨#[114, 101, 115, 117, 108, 116]⟩ t6 (.ref r), ent P ⟨#[112, 111, 115]⟩ t7 i, ent P ⟨#[99, 104]⟩ t9 c] 6, #[]⟩
noncomputable def IsSf (P : Params) (x : List Nat) (s : Nat) (o : Option Nat) (r : Addr) (fr : Obj) : Prop := ∃ t0 t1 t2 t3 t4 t5 t6, fr = sfB P x s (ovV o t5) r t0 t1 t2 t3 t4 t6 ∨ ∃ t7 t9 i c, fr = sfC P x s (ovV o t5) r t0 t1 t2 t3 t4 t6 t7 t9 i c
noncomputable def stpLoop (L ge : Addr) : Code := match (bodyOf fd773).drop 4 with
  | Stmt.For tgt _ b e _ :: _ => .forLoop tgt (.ref ge) b e (fEnv fd773 773 L)
  | _ => default
theorem pm1 {α : Type} (a b ge : α) (lo rest : List α) : (ge :: (lo ++ (a :: b :: rest))).Perm (a :: b :: ge :: (lo ++ rest)) := by
  have := List.perm_append_comm_assoc (ge :: lo) [a, b] rest
  exact this
theorem pm2 {α : Type} (a b ge nl : α) (lo rest : List α) : (nl :: a :: b :: ge :: (lo ++ rest)).Perm (ge :: nl :: (lo ++ (a :: b :: rest))) :=
  ((pm1 a b ge lo rest).symm.cons nl).trans (.swap _ _ _)
theorem tslice (x : List Nat) (s q : Nat) (hs : s ≤ q) (hq : q ≤ x.length) : ∃ idx : List Nat, Fast.tw163193231618251289 (some (s : Int)) (some (q : Int)) (Option.getD (none : Option Int) 1) (sL x).length = idx ∧ idx.length = q - s ∧
    (⟨(List.filterMap (fun i => (sL x).cps[i]?) idx).toArray⟩ : Str) = sL ((x.drop s).take (q - s)) := by
  refine ⟨_, rfl, ?_, ?_⟩
  · rw [Option.getD_none, ← Fast.te163193231618251289, StrLaws.strSliceIndices_plain hs (by rw [sL_len]; exact hq)]; simp
  · rw [Option.getD_none, ← Fast.te163193231618251289]
    have := StrLaws.sliced_plain (sL x) hs (by rw [sL_len]; exact hq)
    rw [this]; rfl
theorem tslice2 (x : List Nat) (s : Nat) (hs : s ≤ x.length) : ∃ idx : List Nat, Fast.tw163193231618251289 (some (s : Int)) none (Option.getD (none : Option Int) 1) (sL x).length = idx ∧ idx.length = x.length - s ∧
    (⟨(List.filterMap (fun i => (sL x).cps[i]?) idx).toArray⟩ : Str) = sL (x.drop s) := by
  have e : Builtin.Str.strSliceIndices (some (s : Int)) none 1 (sL x).length = Builtin.Str.strSliceIndices (some (s : Int)) (some ((x.length : Nat) : Int)) 1 (sL x).length := by
    rw [sL_len]
    have z : max (0 : Int) (min (if (x.length : Int) < 0 then (x.length : Int) + x.length else x.length) x.length) = x.length := by split <;> (run_tac Drv.lomega)
    simp only [Builtin.Str.strSliceIndices, z, show ((1 : Int) > 0) = True from by simp, if_true]
  refine ⟨_, rfl, ?_, ?_⟩
  · rw [Option.getD_none, ← Fast.te163193231618251289, e, StrLaws.strSliceIndices_plain hs (by rw [sL_len]; exact Nat.le_refl _)]; simp
  · rw [Option.getD_none, ← Fast.te163193231618251289, e]
    have := StrLaws.sliced_plain (sL x) hs (by rw [sL_len]; exact Nat.le_refl x.length)
    rw [this]
    show sL ((x.drop s).take (x.length - s)) = _
    rw [List.take_of_length_le (by rw [List.length_drop]; exact Nat.le_refl _)]
theorem decS {idx : List Nat} {len : Nat} (h : idx.length ≠ len) : ¬ ((Option.getD (none : Option Int) 1 == 1 && idx.length == len) = true) := by
  simp only [Option.getD_none, BEq.rfl, Bool.true_and, beq_iff_eq]; exact h
theorem decL {x : Str} {idx : List Nat} (h : idx.length < 10000) : ¬ (sizeLine < (⟨(List.filterMap (fun i => x.cps[i]?) idx).toArray⟩ : Str).length) := by
  show ¬ (16777216 < (List.filterMap (fun i => x.cps[i]?) idx).toArray.size)
  have := List.length_filterMap_le (fun i => x.cps[i]?) idx
  rw [List.size_toArray]; (run_tac Drv.lomega)
section
variable (w : World) (h₀ : Heap) (b : Base (model PW w)) (ga : Array GenState) (d : Drawn) (os : OsState) (B : BaseF w.params h₀) (hA : b.A.handled = none) (κ : Kt) (hκ : handledOf none κ = none) (R : ∀ ga, Room ⟨w, h₀, b, ga, d, os⟩ κ 510 2100) (k : Result → Sem Fin) (ge j L r : Nat) (nm qn : Value) (rest : List (Addr × Obj)) (g : Array Value)
include B hA R hκ
theorem stp_turn1 (gs : GenState) (lo : List (Addr × Obj)) (n T : Nat) (hga : ga[j]? = some gs) (i : Nat) (u : List Nat) (hf : (∃ c, u = [c] ∧ c ≠ 34) ∨ (∃ c, u = [92, c])) (Is : List Item) (hY : Yields w h₀ j [] (escI (i, u) :: Is) gs lo) (x : List Nat) (s : Nat) (o : Option Nat) (fr : Obj) (hfr : IsSf w.params x s o r fr) (ep : Nat) (vs : List Value)
    (h : ∀ n' T' fr gs' lo', T ≤ T' → IsSf w.params x s o r fr → Yields w h₀ j [] Is gs' lo' → Go ⟨w, h₀, b, ga.setIfInBounds j gs', d, os⟩ ⟨.ret (stpLoop L ge) none k κ, denQ (stpLoop L ge), (L, fr) :: (r, lstO vs ep) :: (ge, genO j nm qn) :: (lo' ++ rest), g, n', 820, T'⟩) :
    Go ⟨w, h₀, b, ga, d, os⟩ ⟨.ret (stpLoop L ge) none k κ, denQ (stpLoop L ge), (L, fr) :: (r, lstO vs ep) :: (ge, genO j nm qn) :: (lo ++ rest), g, n, 820, T⟩ := by
  have R0 := R ga
  obtain ⟨t0, t1, t2, t3, t4, t5, t6, hfr⟩ := hfr
  generalize htl : lo ++ rest = tl
  run_tac Drv.drive [100018] Drv.m4
  rw [← htl]
  refine go_again (by kernel_rfl) ?_
  refine go_perm _ (pm1 (L, fr) (r, lstO vs ep) (ge, genO j nm qn) lo rest) ?_
  refine go_drop _ (List.Sublist.refl _) fun n1 T1 hT1 => ?_
  refine gnext w h₀ b ga d os B hA _ (by exact hκ) (fun ga => (R ga).ret.le rfl rfl) _ _ ge j (by kernel_rfl) nm qn _ _ g gs lo n1 T1 hga _ _ hY fun n2 T2 v nl gs' lo' hT2 hI hY' => ?_
  obtain ⟨a, t, t', rfl, rfl⟩ := hI
  have R1 := R (ga.setIfInBounds j gs')
  refine go_perm ((a, tupO [.int i t, .str (sL u) t']) :: (L, fr) :: (r, lstO vs ep) :: (ge, genO j nm qn) :: (lo' ++ rest)) (pm2 _ _ _ _ lo' rest) ?_
  generalize htl' : lo' ++ rest = tl'
  generalize hov : ovV o t5 = ov at hfr
  rcases hfr with rfl | ⟨t7, t9, i', c', rfl⟩ <;> rcases hf with ⟨c, rfl, hc2⟩ | ⟨c, rfl⟩
  all_goals
    run_tac Drv.drive [100018] Drv.m4
    refine go_again (by kernel_rfl) ?_
    refine go_drop ((L, sfC w.params x s ov r ..) :: (r, lstO vs ep) :: (ge, genO j nm qn) :: tl') (by repeat (first | exact List.Sublist.refl _ | apply List.Sublist.cons_cons | apply List.Sublist.cons)) fun n3 T3 hT3 => ?_
    rw [← htl']
    exact h n3 T3 _ gs' lo' (by run_tac Drv.tom) ⟨_, _, _, _, _, t5, _, .inr ⟨_, _, _, _, by rw [hov]⟩⟩ hY'
theorem stp_turn2 (gs : GenState) (lo : List (Addr × Obj)) (n T : Nat) (hga : ga[j]? = some gs) (i : Nat) (Is : List Item) (hY : Yields w h₀ j [] (escI (i, [34]) :: Is) gs lo) (x : List Nat) (s : Nat) (fr : Obj) (hfr : IsSf w.params x s none r fr) (ep : Nat) (vs : List Value)
    (h : ∀ n' T' fr gs' lo', T ≤ T' → IsSf w.params x s (some i) r fr → Yields w h₀ j [] Is gs' lo' → Go ⟨w, h₀, b, ga.setIfInBounds j gs', d, os⟩ ⟨.ret (stpLoop L ge) none k κ, denQ (stpLoop L ge), (L, fr) :: (r, lstO vs ep) :: (ge, genO j nm qn) :: (lo' ++ rest), g, n', 820, T'⟩) :
    Go ⟨w, h₀, b, ga, d, os⟩ ⟨.ret (stpLoop L ge) none k κ, denQ (stpLoop L ge), (L, fr) :: (r, lstO vs ep) :: (ge, genO j nm qn) :: (lo ++ rest), g, n, 820, T⟩ := by
  have R0 := R ga
  obtain ⟨t0, t1, t2, t3, t4, t5, t6, hfr⟩ := hfr
  generalize htl : lo ++ rest = tl
  run_tac Drv.drive [100018] Drv.m4
  rw [← htl]
  refine go_again (by kernel_rfl) ?_
  refine go_perm _ (pm1 (L, fr) (r, lstO vs ep) (ge, genO j nm qn) lo rest) ?_
  refine go_drop _ (List.Sublist.refl _) fun n1 T1 hT1 => ?_
  refine gnext w h₀ b ga d os B hA _ (by exact hκ) (fun ga => (R ga).ret.le rfl rfl) _ _ ge j (by kernel_rfl) nm qn _ _ g gs lo n1 T1 hga _ _ hY fun n2 T2 v nl gs' lo' hT2 hI hY' => ?_
  obtain ⟨a, t, t', rfl, rfl⟩ := hI
  have R1 := R (ga.setIfInBounds j gs')
  refine go_perm ((a, tupO [.int i t, .str (sL [34]) t']) :: (L, fr) :: (r, lstO vs ep) :: (ge, genO j nm qn) :: (lo' ++ rest)) (pm2 _ _ _ _ lo' rest) ?_
  generalize htl' : lo' ++ rest = tl'
  rcases hfr with rfl | ⟨t7, t9, i', c', rfl⟩
  all_goals
    run_tac Drv.drive [100018] Drv.m4
    refine go_again (by kernel_rfl) ?_
    refine go_drop ((L, sfC w.params x s (ovV (some i) _) r ..) :: (r, lstO vs ep) :: (ge, genO j nm qn) :: tl') (by repeat (first | exact List.Sublist.refl _ | apply List.Sublist.cons_cons | apply List.Sublist.cons)) fun n3 T3 hT3 => ?_
    rw [← htl']
    exact h n3 T3 _ gs' lo' (by run_tac Drv.tom) ⟨_, _, _, _, _, _, _, .inr ⟨_, _, _, _, rfl⟩⟩ hY'
theorem stp_turn3 (gs : GenState) (lo : List (Addr × Obj)) (n T : Nat) (hga : ga[j]? = some gs) (i : Nat) (Is : List Item) (hY : Yields w h₀ j [] (escI (i, [34]) :: Is) gs lo) (x : List Nat) (hx : x.length < 10000) (s q : Nat) (hs : s ≤ q) (hq : q < x.length) (fr : Obj) (hfr : IsSf w.params x s (some q) r fr) (ep : Nat) (qs : List (List Nat × Nat)) (hqs : qs.length < 10000)
    (h : ∀ n' T' fr gs' lo' ep' qs', T ≤ T' → IsSf w.params x (i + 1) none r fr → qs'.length ≤ qs.length + 1 → (qs'.map Prod.fst).flatten = (qs.map Prod.fst).flatten ++ (x.drop s).take (q - s) → (∀ p ∈ qs', p ∈ qs ∨ p.1.length < 10000) → Yields w h₀ j [] Is gs' lo' → Go ⟨w, h₀, b, ga.setIfInBounds j gs', d, os⟩ ⟨.ret (stpLoop L ge) none k κ, denQ (stpLoop L ge), (L, fr) :: (r, lstO (vsP qs') ep') :: (ge, genO j nm qn) :: (lo' ++ rest), g, n', 820, T'⟩) :
    Go ⟨w, h₀, b, ga, d, os⟩ ⟨.ret (stpLoop L ge) none k κ, denQ (stpLoop L ge), (L, fr) :: (r, lstO (vsP qs) ep) :: (ge, genO j nm qn) :: (lo ++ rest), g, n, 820, T⟩ := by
  have R0 := R ga
  obtain ⟨t0, t1, t2, t3, t4, t5, t6, hfr⟩ := hfr
  generalize htl : lo ++ rest = tl
  run_tac Drv.drive [100018] Drv.m4
  rw [← htl]
  refine go_again (by kernel_rfl) ?_
  refine go_perm _ (pm1 (L, fr) (r, lstO (vsP qs) ep) (ge, genO j nm qn) lo rest) ?_
  refine go_drop _ (List.Sublist.refl _) fun n1 T1 hT1 => ?_
  refine gnext w h₀ b ga d os B hA _ (by exact hκ) (fun ga => (R ga).ret.le rfl rfl) _ _ ge j (by kernel_rfl) nm qn _ _ g gs lo n1 T1 hga _ _ hY fun n2 T2 v nl gs' lo' hT2 hI hY' => ?_
  obtain ⟨a, t, t', rfl, rfl⟩ := hI
  have R1 := R (ga.setIfInBounds j gs')
  refine go_perm ((a, tupO [.int i t, .str (sL [34]) t']) :: (L, fr) :: (r, lstO (vsP qs) ep) :: (ge, genO j nm qn) :: (lo' ++ rest)) (pm2 _ _ _ _ lo' rest) ?_
  generalize htl' : lo' ++ rest = tl'
  have hvl : (vsP qs).length < 10000 := by unfold vsP; simpa using hqs
  generalize hvs : vsP qs = vs at *
  by_cases hsq : s = q
  · have hq0 : (x.drop s).take (q - s) = [] := by rw [hsq, Nat.sub_self, List.take_zero]
    rcases hfr with rfl | ⟨t7, t9, i', c', rfl⟩
    all_goals
      run_tac Drv.drive [100018] Drv.m4
      refine go_again (by kernel_rfl) ?_
      refine go_drop ((L, sfC w.params x (i + 1) (ovV none 0) r ..) :: (r, lstO vs ep) :: (ge, genO j nm qn) :: tl') (by repeat (first | exact List.Sublist.refl _ | apply List.Sublist.cons_cons | apply List.Sublist.cons)) fun n3 T3 hT3 => ?_
      rw [← htl', ← hvs]
      exact h n3 T3 _ gs' lo' _ qs (by run_tac Drv.tom) ⟨_, _, _, _, _, _, _, .inr ⟨_, _, _, _, rfl⟩⟩ (by run_tac Drv.tom) (by rw [hq0, List.append_nil]) (fun p hp => .inl hp) hY'
  · obtain ⟨idx, ht1, hl1, ht2⟩ := tslice x s q hs (by run_tac Drv.tom)
    generalize hsub : (x.drop s).take (q - s) = sub at *
    have hsl : sub.length < 10000 := by rw [← hsub, List.length_take, List.length_drop]; (run_tac Drv.lomega)
    rcases hfr with rfl | ⟨t7, t9, i', c', rfl⟩
    all_goals
      run_tac Drv.drive [100018] Drv.m4
      refine go_again (by kernel_rfl) ?_
      rw [appR, ht2]
      refine go_drop ((L, sfC w.params x (i + 1) (ovV none 0) r ..) :: (r, lstO (vs ++ [.str (sL sub) _]) _) :: (ge, genO j nm qn) :: tl') (by repeat (first | exact List.Sublist.refl _ | apply List.Sublist.cons_cons | apply List.Sublist.cons)) fun n3 T3 hT3 => ?_
      rw [← htl', ← hvs, show vsP qs ++ [Value.str (sL sub) (T2 + 3)] = vsP (qs ++ [(sub, T2 + 3)]) from by simp [vsP]]
      refine h n3 T3 _ gs' lo' _ _ (by run_tac Drv.tom) ⟨_, _, _, _, _, _, _, .inr ⟨_, _, _, _, rfl⟩⟩ (by simp) (by simp) (fun p hp => ?_) hY'
      rcases List.mem_append.mp hp with hp | hp
      · exact .inl hp
      · cases List.mem_singleton.mp hp; exact .inr hsl
theorem stp_end (gs : GenState) (lo : List (Addr × Obj)) (n T : Nat) (hga : ga[j]? = some gs) (hY : Yields w h₀ j [] [] gs lo) (fr : Obj) (vs : List Value) (ep : Nat)
    (hfr : ∃ (x : List Nat) (s : Nat) (o : Option Nat), IsSf w.params x s o r fr)
    (h : ∀ n' T', T ≤ T' → Go ⟨w, h₀, b, ga.setIfInBounds j .finished, d, os⟩ ⟨κ, k (.ok .next), (L, fr) :: (r, lstO vs ep) :: rest, g, n', 820, T'⟩) :
    Go ⟨w, h₀, b, ga, d, os⟩ ⟨.ret (stpLoop L ge) none k κ, denQ (stpLoop L ge), (L, fr) :: (r, lstO vs ep) :: (ge, genO j nm qn) :: (lo ++ rest), g, n, 820, T⟩ := by
  have R0 := R ga
  obtain ⟨x, s, o, t0, t1, t2, t3, t4, t5, t6, hfr⟩ := hfr
  generalize htl : lo ++ rest = tl
  run_tac Drv.drive [100018] Drv.m4
  rw [← htl]
  refine go_again (by kernel_rfl) ?_
  refine go_perm _ (pm1 (L, fr) (r, lstO vs ep) (ge, genO j nm qn) lo rest) ?_
  refine go_drop _ (List.Sublist.refl _) fun n1 T1 hT1 => ?_
  refine gnext_end w h₀ b ga d os B hA _ (by exact hκ) (fun ga => (R ga).ret.le rfl rfl) _ _ ge j (by kernel_rfl) nm qn _ _ g gs lo n1 T1 hga hY fun n2 T2 e a hT2 => ?_
  have R1 := R (ga.setIfInBounds j .finished)
  refine go_perm ((e, stopO a) :: (a, tupO []) :: (L, fr) :: (r, lstO vs ep) :: (ge, genO j nm qn) :: rest) (((pm1 (L, fr) (r, lstO vs ep) (ge, genO j nm qn) [] rest).symm.cons _).cons _) ?_
  generalize ovV o t5 = ov at hfr
  rcases hfr with rfl | ⟨t7, t9, i', c', rfl⟩
  · run_tac Drv.drive [100018] Drv.m4
    refine go_drop ((L, sfB ..) :: (r, lstO vs ep) :: rest) (by repeat (first | exact List.Sublist.refl _ | apply List.Sublist.cons_cons | apply List.Sublist.cons)) fun n3 T3 hT3 => h n3 T3 (by run_tac Drv.tom)
  · run_tac Drv.drive [100018] Drv.m4
    refine go_drop ((L, sfC ..) :: (r, lstO vs ep) :: rest) (by repeat (first | exact List.Sublist.refl _ | apply List.Sublist.cons_cons | apply List.Sublist.cons)) fun n3 T3 hT3 => h n3 T3 (by run_tac Drv.tom)
end
end
section
open PySem PySem.W PySem.W.X PyProof.Rows
/- the text between the quotation marks goes: what is kept, where the rest begins -/
noncomputable def stpR (x : List Nat) : List (Nat × List Nat) → Nat → Option Nat → List Nat × Nat × Option Nat
  | [], s, o => ([], s, o)
  | (i, u) :: r, s, o => if u = [34] then (match o with
      | none => stpR x r s (some i)
      | some q => ((x.drop s).take (q - s) ++ (stpR x r (i + 1) none).1, (stpR x r (i + 1) none).2)) else stpR x r s o
/- the places go upwards; the texts are signs, or a backslash and a sign -/
noncomputable def Inc (hi : Nat) : Nat → List (Nat × List Nat) → Prop
  | _, [] => True
  | lo, (i, u) :: r => lo ≤ i ∧ i < hi ∧ ((∃ c, u = [c]) ∨ (∃ c, u = [92, c])) ∧ Inc hi (i + 1) r
theorem Inc.le {hi : Nat} : ∀ {l : List (Nat × List Nat)} {a b : Nat}, a ≤ b → Inc hi b l → Inc hi a l
  | [], _, _, _, _ => trivial
  | (i, u) :: r, a, b, h, ⟨h1, h2⟩ => ⟨Nat.le_trans h h1, h2⟩
theorem escs_inc (hi : Nat) : ∀ (rem : List Nat) (i : Nat) (b : Bool), i + rem.length = hi → (b = true → 0 < i) → Inc hi (if b then i - 1 else i) (escs i b rem)
  | [], i, false, h, _ => trivial
  | [], i, true, h, hb => by
    have := hb rfl
    simp at h
    exact ⟨by simp, by run_tac Drv.tom, .inl ⟨_, rfl⟩, trivial⟩
  | c :: r, i, true, h, hb => by
    have ih := escs_inc hi r (i + 1) false (by simp at h; (run_tac Drv.lomega)) (by simp)
    simp at h
    exact ⟨by simp, by run_tac Drv.tom, .inr ⟨_, rfl⟩, ih⟩
  | c :: r, i, false, h, hb => by
    simp at h
    unfold escs
    by_cases hc : c = 92
    · rw [if_pos hc]; exact escs_inc hi r (i + 1) true (by run_tac Drv.tom) (by simp)
    · rw [if_neg hc]; exact ⟨by simp, by run_tac Drv.tom, .inl ⟨_, rfl⟩, escs_inc hi r (i + 1) false (by run_tac Drv.tom) (by simp)⟩
theorem escs_len : ∀ (rem : List Nat) (i : Nat) (b : Bool), (escs i b rem).length ≤ rem.length + 1
  | [], i, false => by simp [escs]
  | [], i, true => by simp [escs]
  | c :: r, i, true => by have := escs_len r (i + 1) false; simp [escs]; (run_tac Drv.lomega)
  | c :: r, i, false => by
    unfold escs
    split
    · have := escs_len r (i + 1) true; simp; (run_tac Drv.lomega)
    · have := escs_len r (i + 1) false; simp; (run_tac Drv.lomega)
section
variable (w : World) (h₀ : Heap) (b : Base (model PW w)) (d : Drawn) (os : OsState) (B : BaseF w.params h₀) (hA : b.A.handled = none) (κ : Kt) (hκ : handledOf none κ = none) (R : ∀ ga, Room ⟨w, h₀, b, ga, d, os⟩ κ 510 2100) (k : Result → Sem Fin) (ge j L r : Nat) (nm qn : Value) (rest : List (Addr × Obj)) (g : Array Value)
include B hA R hκ
theorem stp_loop (x : List Nat) (hx : x.length < 9000) : ∀ (items : List (Nat × List Nat)) (ga : Array GenState) (gs : GenState) (lo : List (Addr × Obj)) (n T s : Nat) (o : Option Nat) (fr : Obj) (ep : Nat) (qs : List (List Nat × Nat)),
    BB j ga → ga[j]? = some gs → Yields w h₀ j [] (items.map escI) gs lo → Inc x.length (match o with | none => s | some q => q) items → (∀ q, o = some q → s ≤ q ∧ q < x.length) → IsSf w.params x s o r fr → qs.length + items.length < 9500 →
    (∀ ga' n' T' fr qs' ep', AllBare ga' → T ≤ T' → IsSf w.params x (stpR x items s o).2.1 (stpR x items s o).2.2 r fr → (qs'.map Prod.fst).flatten = (qs.map Prod.fst).flatten ++ (stpR x items s o).1 → qs'.length ≤ qs.length + items.length → (∀ p ∈ qs', p ∈ qs ∨ p.1.length < 10000) →
      Go ⟨w, h₀, b, ga', d, os⟩ ⟨κ, k (.ok .next), (L, fr) :: (r, lstO (vsP qs') ep') :: rest, g, n', 820, T'⟩) →
    Go ⟨w, h₀, b, ga, d, os⟩ ⟨.ret (stpLoop L ge) none k κ, denQ (stpLoop L ge), (L, fr) :: (r, lstO (vsP qs) ep) :: (ge, genO j nm qn) :: (lo ++ rest), g, n, 820, T⟩
  | [], ga, gs, lo, n, T, s, o, fr, ep, qs, hb, hga, hY, hI, ho, hfr, hq, h => by
    refine stp_end w h₀ b ga d os B hA κ hκ R k ge j L r nm qn rest g gs lo n T hga hY fr _ ep ⟨x, s, o, hfr⟩ fun n1 T1 hT1 => ?_
    exact h _ n1 T1 fr qs ep hb.all hT1 hfr (by simp [stpR]) (by simp) (fun p hp => .inl hp)
  | (i, u) :: items, ga, gs, lo, n, T, s, o, fr, ep, qs, hb, hga, hY, hI, ho, hfr, hq, h => by
    obtain ⟨hi1, hi2, hu, hI⟩ := hI
    rw [List.length_cons] at hq
    by_cases hq34 : u = [34]
    · subst hq34
      cases o with
      | none =>
        refine stp_turn2 w h₀ b ga d os B hA κ hκ R k ge j L r nm qn rest g gs lo n T hga i _ hY x s fr hfr ep _ fun n1 T1 fr1 gs' lo' hT1 hfr1 hY1 => ?_
        refine stp_loop x hx items _ gs' lo' n1 T1 s (some i) fr1 ep qs (hb.set gs') (get_set gs' hga) hY1 (hI.le (Nat.le_succ _)) (fun q z => by cases z; exact ⟨hi1, hi2⟩) hfr1 (by run_tac Drv.tom) fun ga' n2 T2 fr2 qs' ep' hb2 hT2 hfr2 hq2 hl2 hp2 => ?_
        have e : stpR x ((i, [34]) :: items) s none = stpR x items s (some i) := by simp [stpR]
        rw [e] at h
        exact h ga' n2 T2 fr2 qs' ep' hb2 (by run_tac Drv.tom) hfr2 hq2 (by simp; (run_tac Drv.lomega)) hp2
      | some q =>
        obtain ⟨hsq, hqx⟩ := ho q rfl
        refine stp_turn3 w h₀ b ga d os B hA κ hκ R k ge j L r nm qn rest g gs lo n T hga i _ hY x (by run_tac Drv.tom) s q hsq hqx fr hfr ep qs (by run_tac Drv.tom) fun n1 T1 fr1 gs' lo' ep1 qs1 hT1 hfr1 hl1 hq1 hp1 hY1 => ?_
        refine stp_loop x hx items _ gs' lo' n1 T1 (i + 1) none fr1 ep1 qs1 (hb.set gs') (get_set gs' hga) hY1 hI (fun q z => by cases z) hfr1 (by run_tac Drv.tom) fun ga' n2 T2 fr2 qs' ep' hb2 hT2 hfr2 hq2 hl2 hp2 => ?_
        have e : stpR x ((i, [34]) :: items) s (some q) = ((x.drop s).take (q - s) ++ (stpR x items (i + 1) none).1, (stpR x items (i + 1) none).2) := by simp [stpR]
        rw [e] at h
        refine h ga' n2 T2 fr2 qs' ep' hb2 (by run_tac Drv.tom) hfr2 (by rw [hq2, hq1, List.append_assoc]) (by simp; (run_tac Drv.lomega)) fun p hp => ?_
        rcases hp2 p hp with z | z
        · exact hp1 p z
        · exact .inr z
    · refine stp_turn1 w h₀ b ga d os B hA κ hκ R k ge j L r nm qn rest g gs lo n T hga i u ?_ _ hY x s o fr hfr ep _ fun n1 T1 fr1 gs' lo' hT1 hfr1 hY1 => ?_
      · rcases hu with ⟨c, rfl⟩ | ⟨c, rfl⟩
        · exact .inl ⟨c, rfl, fun z => hq34 (by rw [z])⟩
        · exact .inr ⟨c, rfl⟩
      · refine stp_loop x hx items _ gs' lo' n1 T1 s o fr1 ep qs (hb.set gs') (get_set gs' hga) hY1 (hI.le (by run_tac Drv.tom)) ho hfr1 (by run_tac Drv.tom) fun ga' n2 T2 fr2 qs' ep' hb2 hT2 hfr2 hq2 hl2 hp2 => ?_
        have e : stpR x ((i, u) :: items) s o = stpR x items s o := by show (if u = [34] then _ else stpR x items s o) = _; rw [if_neg hq34]
        rw [e] at h
        exact h ga' n2 T2 fr2 qs' ep' hb2 (by run_tac Drv.tom) hfr2 hq2 (by simp; (run_tac Drv.lomega)) hp2
end
end
section
open PySem PySem.W PySem.W.X PyProof.Rows
noncomputable def jg (sep : List Nat) : List (List Nat) → List Nat
  | [] => []
  | [x] => x
  | x :: y :: r => x ++ sep ++ jg sep (y :: r)
theorem jg_sL (sep : List Nat) : ∀ (l : List (List Nat)), Str.join (sL sep) (l.map sL) = sL (jg sep l)
  | [] => rfl
  | [x] => rfl
  | x :: y :: r => by
    have ih := jg_sL sep (y :: r)
    show sL x ++ sL sep ++ Str.join (sL sep) ((y :: r).map sL) = _
    rw [ih, sL_app, sL_app]
    simp [jg]
theorem jg_is (sep : List Nat) (qs : List (List Nat × Nat)) : Fast.tw10206770168876983080 (sL sep) (qs.map fun q => sL q.1) = sL (jg sep (qs.map Prod.fst)) := by
  rw [← Fast.te10206770168876983080, StrLaws.glued_eq_join, ← jg_sL, List.map_map]; rfl
theorem jg_flat : ∀ l, jg [] l = l.flatten
  | [] => rfl
  | [x] => by simp [jg]
  | x :: y :: r => by
    have ih := jg_flat (y :: r)
    rw [jg, ih]; simp
theorem forIn_strsQ (body : Value × Nat → Array Str → Sem (ForInStep (Array Str))) (qs : List (List Nat × Nat)) (hb : ∀ s t i parts, body (.str s t, i) parts = Sem.pure (.yield (Fast.tw2398297429280069960 parts s))) :
    @forIn Sem (List (Value × Nat)) (Value × Nat) (@instForInOfForIn' Sem (List (Value × Nat)) (Value × Nat) (@inferInstance (Membership (Value × Nat) (List (Value × Nat))) (@List.instMembership (Value × Nat))) (@List.instForIn'InferInstanceMembershipOfMonad Sem (Value × Nat) Fast.tw12456147031677567982)) (Array Str) ((vsP qs).zipIdx 0) #[] body = Sem.pure ⟨qs.map fun q => sL q.1⟩ := by
  rw [← Fast.te2398297429280069960] at hb
  rw [← Fast.te12456147031677567982]
  exact (forIn_strs body hb qs 0 #[]).trans (by simp)
section
variable (X : Env0) (B : BaseF X.w.params X.h₀) (hA : X.A.handled = none) (κ : Kt) (R : Room X κ 600 3000) (hκ : handledOf none κ = none) (k : Result → Sem Fin) (n T a ts e : Nat) (sep : List Nat) (qs : List (List Nat × Nat)) (cc : Code) (hcc : cc = .builtin "str.join" ⟨[.str (sL sep) ts, .ref a], []⟩) (rest : List (Addr × Obj)) (g : Array Value)
include B hA R hκ hcc
theorem join_b (htl : Builtin.Str.tooLong ((qs.map fun q => sL q.1).toArray.foldl (fun a s => a + s.length + (sL sep).length) 0) = false) (hjl : (jg sep (qs.map Prod.fst)).length < 1000000)
    (h : ∀ n' T' t', T ≤ T' → Go X ⟨κ, k (.ok (.ret (.str (sL (jg sep (qs.map Prod.fst))) t'))), (a, lstO (vsP qs) e) :: rest, g, n', 820, T'⟩) :
    Go X ⟨.ret cc none k κ, denQ cc, (a, lstO (vsP qs) e) :: rest, g, n, 820, T⟩ := by
  subst hcc
  have hj := jg_is sep qs
  match qs with
  | [] =>
    run_tac Drv.drive []
    refine go_drop ((a, lstO (vsP []) e) :: rest) (by repeat (first | exact List.Sublist.refl _ | apply List.Sublist.cons_cons | apply List.Sublist.cons)) fun n1 T1 hT1 => h n1 T1 _ (by run_tac Drv.tom)
  | [q] =>
    run_tac Drv.drive []
    refine go_drop ((a, lstO (vsP [q]) e) :: rest) (by repeat (first | exact List.Sublist.refl _ | apply List.Sublist.cons_cons | apply List.Sublist.cons)) fun n1 T1 hT1 => h n1 T1 _ (by run_tac Drv.tom)
  | q1 :: q2 :: r =>
    generalize hr : q1 :: q2 :: r = qs at *
    run_tac Drv.drive []
    dsimp only
    rw [forIn_strsQ _ qs (fun s t i parts => by kernel_rfl)]
    change Go X ⟨_, _, (a, lstO (vsP qs) e) :: rest, _, _, _, _⟩
    generalize lstO (vsP qs) e = ob at *
    subst hr
    generalize jg sep ((q1 :: q2 :: r).map Prod.fst) = js at *
    run_tac Drv.drive []
    refine go_drop ((a, ob) :: rest) (by repeat (first | exact List.Sublist.refl _ | apply List.Sublist.cons_cons | apply List.Sublist.cons)) fun n1 T1 hT1 => h n1 T1 _ (by run_tac Drv.tom)
end
end
section
open PySem PySem.W PySem.W.X PyProof.Rows
theorem fold_flat : ∀ (l : List (List Nat × Nat)) (a : Nat), (l.map fun q => sL q.1).foldl (fun a s => a + s.length + (sL []).length) a = a + (l.map Prod.fst).flatten.length
  | [], a => by simp
  | q :: l, a => by
    rw [List.map_cons, List.foldl_cons, fold_flat l, List.map_cons, List.flatten_cons, List.length_append]
    have e : (sL []).length = 0 := rfl
    rw [e, sL_len]; (run_tac Drv.lomega)
theorem flat_ok (qs : List (List Nat × Nat)) (h : (qs.map Prod.fst).flatten.length < 100000) : Builtin.Str.tooLong ((qs.map fun q => sL q.1).toArray.foldl (fun a s => a + s.length + (sL []).length) 0) = false := by
  rw [List.foldl_toArray, fold_flat]
  unfold Builtin.Str.tooLong
  refine decide_eq_false ?_
  show ¬ (16777216 < _)
  (run_tac Drv.lomega)
section
variable (w : World) (h₀ : Heap) (b : Base (model PW w)) (ga : Array GenState) (d : Drawn) (os : OsState) (B : BaseF w.params h₀) (hA : b.A.handled = none) (κ : Kt) (hκ : handledOf none κ = none) (R : ∀ ga, Room ⟨w, h₀, b, ga, d, os⟩ κ 500 2000) (k : Result → Sem Fin) (gd : Bool) (lv : List Value) (n T ts: Nat) (rest : List (Addr × Obj)) (g : Array Value) (hga : AllBare ga)
include B hA R hκ hga
theorem strip_no (x : List Nat) (hx : x.length < 9000) (h34 : 34 ∉ x)
    (h : ∀ n' T', T ≤ T' → Go ⟨w, h₀, b, ga, d, os⟩ ⟨κ, k (.ok (.ret (.str (sL x) ts))), rest, g, n', 820, T'⟩) :
    Go ⟨w, h₀, b, ga, d, os⟩ ⟨κ, .call (.call (.ref 773) ⟨[.str (sL x) ts], []⟩) none gd lv k, rest, g, n, 820, T⟩ := by
  have R0 := R ga
  have ht := tin_no x 34 h34
  refine go_enter rfl ?_
  run_tac Drv.drive [773] Drv.m4
  refine go_drop rest (by repeat (first | exact List.Sublist.refl _ | apply List.Sublist.cons_cons | apply List.Sublist.cons)) fun n1 T1 hT1 => h n1 T1 (by run_tac Drv.tom)
theorem strip_yes (x : List Nat) (hx : x.length < 9000) (hc : ∀ c ∈ x, c < 128) (h34 : 34 ∈ x) (hs : 0 < (stpR x (escs 0 false x) 0 none).2.1) (hcs : (stpR x (escs 0 false x) 0 none).1.length < 20000)
    (h : ∀ ga' n' T' t', AllBare ga' → T ≤ T' → Go ⟨w, h₀, b, ga', d, os⟩ ⟨κ, k (.ok (.ret (.str (sL ((stpR x (escs 0 false x) 0 none).1 ++ x.drop (stpR x (escs 0 false x) 0 none).2.1)) t'))), rest, g, n', 820, T'⟩) :
    Go ⟨w, h₀, b, ga, d, os⟩ ⟨κ, .call (.call (.ref 773) ⟨[.str (sL x) ts], []⟩) none gd lv k, rest, g, n, 820, T⟩ := by
  have R0 := R ga
  obtain ⟨i0, r0, ht⟩ := tin_yes x 34 h34
  refine go_enter rfl ?_
  run_tac Drv.drive [773, 766] Drv.m4
  refine go_newGenA fun ga1 hga1 hfr => ?_
  have R1 := R ga1
  run_tac Drv.drive [773] Drv.m4
  refine go_enter rfl ?_
  refine go_perm ((n + 820, _) :: (n + 821, lstO [] 0) :: (n + 823, genO ga.size _ _) :: (n + 822, efA w.params (T + 6) x ts) :: rest) (perm_at 3 rfl (perm_at 2 rfl (.refl _))) ?_
  refine go_drop ((n + 820, sfB w.params x 0 (ovV none 0) (n + 821) ..) :: (n + 821, lstO (vsP []) 0) :: (n + 823, genO ga.size _ _) :: ([(n + 822, efA w.params (T + 6) x ts)] ++ rest)) (by repeat (first | exact List.Sublist.refl _ | apply List.Sublist.cons_cons | apply List.Sublist.cons)) fun n1 T1 hT1 => ?_
  refine stp_loop w h₀ b d os B hA _ (by exact hκ) (fun ga => (R ga).ret.le rfl rfl) _ (n + 823) ga.size (n + 820) (n + 821) _ _ rest g x hx (escs 0 false x) ga1 _ _ n1 T1 0 none _ _ [] (by rw [hga1]; exact BB.push hga _) hfr (esc_yields w h₀ B ga.size (n + 822) (T + 6) ts x hc (by run_tac Drv.tom)) (escs_inc x.length x 0 false (by run_tac Drv.tom) (by simp)) (fun q z => by cases z) ⟨_, _, _, _, _, _, _, .inl rfl⟩ (by have := escs_len x 0 false; simp; (run_tac Drv.lomega)) fun ga' n2 T2 fr qs' ep' hb hT2 hfr2 hq2 hl2 hp2 => ?_
  have R2 := R ga'
  generalize (stpR x (escs 0 false x) 0 none).1 = cs at *
  generalize (stpR x (escs 0 false x) 0 none).2.1 = s at *
  generalize (stpR x (escs 0 false x) 0 none).2.2 = o at *
  obtain ⟨t0, t1, t2, t3, t4, t5, t6, hfr2⟩ := hfr2
  generalize ovV o t5 = ov at hfr2
  by_cases hsx : s < x.length
  · obtain ⟨idx, ht1, hl1, ht2⟩ := tslice2 x s (by run_tac Drv.tom)
    have hsx' : s < (sL x).length := by rw [sL_len]; exact hsx
    have hdl : (x.drop s).length < 10000 := by rw [List.length_drop]; (run_tac Drv.lomega)
    generalize x.drop s = tl at *
    have hvl : (vsP qs').length < 10000 := by have := escs_len x 0 false; unfold vsP; simp at hl2 ⊢; (run_tac Drv.lomega)
    generalize hvs : vsP qs' = vs at *
    rcases hfr2 with rfl | ⟨t7, t9, i', c', rfl⟩
    all_goals
      run_tac Drv.drive [773, 100008] Drv.m4
      rw [appR, ht2]
      refine go_again (by kernel_rfl) ?_
      refine go_perm ((n + 821, lstO (vs ++ [.str (sL tl) (T2 + 2)]) _) :: (_, _) :: (_, _) :: rest) (perm_at 2 rfl (.refl _)) ?_
      refine go_drop ((n + 821, lstO (vsP (qs' ++ [(tl, T2 + 2)])) _) :: rest) (by rw [show vsP (qs' ++ [(tl, T2 + 2)]) = vs ++ [Value.str (sL tl) (T2 + 2)] from by rw [← hvs]; simp [vsP]]; (repeat (first | exact List.Sublist.refl _ | apply List.Sublist.cons_cons | apply List.Sublist.cons))) fun n3 T3 hT3 => ?_
      refine join_b ⟨w, h₀, b, ga', d, os⟩ B hA _ (by exact R2.ret.le rfl rfl) (by exact hκ) _ n3 T3 (n + 821) (T2 + 3) _ [] _ _ (by kernel_rfl) rest g ?_ ?_ fun n4 T4 t4 hT4 => ?_
      · refine flat_ok _ ?_
        rw [List.map_append, List.flatten_append, hq2, List.length_append, List.length_append]; simp; (run_tac Drv.lomega)
      · rw [jg_flat, List.map_append, List.flatten_append, hq2, List.length_append, List.length_append]; simp; (run_tac Drv.lomega)
      · rw [jg_flat, show ((qs' ++ [(tl, T2 + 2)]).map Prod.fst).flatten = cs ++ tl from by rw [List.map_append, List.flatten_append, hq2]; simp]
        run_tac Drv.drive [773] Drv.m4
        refine go_drop rest (by repeat (first | exact List.Sublist.refl _ | apply List.Sublist.cons_cons | apply List.Sublist.cons)) fun n5 T5 hT5 => h ga' n5 T5 _ hb (by run_tac Drv.tom)
  · have hsx' : ¬ s < (sL x).length := by rw [sL_len]; exact hsx
    rcases hfr2 with rfl | ⟨t7, t9, i', c', rfl⟩
    all_goals
      run_tac Drv.drive [773, 100008] Drv.m4
      refine go_again (by kernel_rfl) ?_
      refine go_perm ((n + 821, lstO (vsP qs') _) :: (_, _) :: rest) (perm_at 1 rfl (.refl _)) ?_
      refine go_drop ((n + 821, lstO (vsP qs') _) :: rest) (by repeat (first | exact List.Sublist.refl _ | apply List.Sublist.cons_cons | apply List.Sublist.cons)) fun n3 T3 hT3 => ?_
      refine join_b ⟨w, h₀, b, ga', d, os⟩ B hA _ (by exact R2.ret.le rfl rfl) (by exact hκ) _ n3 T3 (n + 821) (T2 + 2) _ [] _ _ (by kernel_rfl) rest g ?_ ?_ fun n4 T4 t4 hT4 => ?_
      · refine flat_ok _ ?_
        rw [hq2]; simp; (run_tac Drv.lomega)
      · rw [jg_flat, hq2]; simp; (run_tac Drv.lomega)
      · rw [jg_flat, hq2]
        rw [List.drop_of_length_le (by run_tac Drv.tom), List.append_nil] at h
        run_tac Drv.drive [773] Drv.m4
        refine go_drop rest (by repeat (first | exact List.Sublist.refl _ | apply List.Sublist.cons_cons | apply List.Sublist.cons)) fun n5 T5 hT5 => h ga' n5 T5 _ hb (by run_tac Drv.tom)
end
/- what _strip_quoted_realnames makes of a line -/
noncomputable def strp (x : List Nat) : List Nat := if 34 ∈ x then (stpR x (escs 0 false x) 0 none).1 ++ x.drop (stpR x (escs 0 false x) 0 none).2.1 else x
section
variable (w : World) (h₀ : Heap) (b : Base (model PW w)) (ga : Array GenState) (d : Drawn) (os : OsState) (B : BaseF w.params h₀) (hA : b.A.handled = none) (κ : Kt) (hκ : handledOf none κ = none) (R : ∀ ga, Room ⟨w, h₀, b, ga, d, os⟩ κ 500 2000) (k : Result → Sem Fin) (gd : Bool) (lv : List Value) (n T ts: Nat) (rest : List (Addr × Obj)) (g : Array Value) (hga : AllBare ga)
include B hA R hκ hga
theorem strip_s (x : List Nat) (hx : x.length < 9000) (hc : ∀ c ∈ x, c < 128) (hs : 34 ∈ x → 0 < (stpR x (escs 0 false x) 0 none).2.1 ∧ (stpR x (escs 0 false x) 0 none).1.length < 20000)
    (h : ∀ ga' n' T' t', AllBare ga' → T ≤ T' → Go ⟨w, h₀, b, ga', d, os⟩ ⟨κ, k (.ok (.ret (.str (sL (strp x)) t'))), rest, g, n', 820, T'⟩) :
    Go ⟨w, h₀, b, ga, d, os⟩ ⟨κ, .call (.call (.ref 773) ⟨[.str (sL x) ts], []⟩) none gd lv k, rest, g, n, 820, T⟩ := by
  unfold strp at h
  by_cases h34 : 34 ∈ x
  · simp only [h34, if_true] at h
    exact strip_yes w h₀ b ga d os B hA κ hκ R k gd lv n T ts rest g hga x hx hc h34 (hs h34).1 (hs h34).2 h
  · simp only [h34, if_false] at h
    exact strip_no w h₀ b ga d os B hA κ hκ R k gd lv n T ts rest g hga x hx h34 fun n' T' hT => h ga n' T' ts hga hT
end
end
section
open PySem PySem.W PySem.W.X PyProof.Rows
noncomputable def kfB (P : Params) (x : List Nat) (o : Int) (t0 t1 t2 t3 : Nat) : Obj := ⟨.type "frame", none, .dict #[ent P ⟨#[97, 100, 100, 114]⟩ t0 (.str (sL x) t1), ent P ⟨#[111, 112, 101, 110, 115]⟩ t2 (.int o t3)] 2, #[]⟩
noncomputable def kfC (P : Params) (x : List Nat) (o : Int) (t0 t1 t2 t3 t4 t5 : Nat) (i c : Value) : Obj := ⟨.type "frame", none, .dict #[ent P ⟨#[97, 100, 100, 114]⟩ t0 (.str (sL x) t1), ent P ⟨#[111, 112, 101, 110, 115]⟩ t2 (.int o t3), ent P ⟨#[112, 111, 115]⟩ t4 i, ent P ⟨#[99, 104]⟩ t5 c] 4, #[]⟩
noncomputable def IsKf (P : Params) (x : List Nat) (o : Int) (fr : Obj) : Prop := ∃ t0 t1 t2 t3, fr = kfB P x o t0 t1 t2 t3 ∨ ∃ t4 t5 i c, fr = kfC P x o t0 t1 t2 t3 t4 t5 i c
noncomputable def chkLoop (L ge : Addr) : Code := match (bodyOf fd780).drop 2 with
  | Stmt.For tgt _ b e _ :: _ => .forLoop tgt (.ref ge) b e (fEnv fd780 780 L)
  | _ => default
theorem pn1 {α : Type} (a ge : α) (lo rest : List α) : (ge :: (lo ++ (a :: rest))).Perm (a :: ge :: (lo ++ rest)) := List.perm_append_comm_assoc (ge :: lo) [a] rest
theorem pn2 {α : Type} (a ge nl : α) (lo rest : List α) : (nl :: a :: ge :: (lo ++ rest)).Perm (ge :: nl :: (lo ++ (a :: rest))) :=
  ((pn1 a ge lo rest).symm.cons nl).trans (.swap _ _ _)
section
variable (w : World) (h₀ : Heap) (b : Base (model PW w)) (ga : Array GenState) (d : Drawn) (os : OsState) (B : BaseF w.params h₀) (hA : b.A.handled = none) (κ : Kt) (hκ : handledOf none κ = none) (R : ∀ ga, Room ⟨w, h₀, b, ga, d, os⟩ κ 510 2100) (k : Result → Sem Fin) (ge j L : Nat) (nm qn : Value) (rest : List (Addr × Obj)) (g : Array Value)
include B hA R hκ
/- a turn up to the item -/
theorem chk_turn (gs : GenState) (lo : List (Addr × Obj)) (n T : Nat) (hga : ga[j]? = some gs) (i : Nat) (u : List Nat) (hu : (∃ c, u = [c]) ∨ (∃ c, u = [92, c])) (Is : List Item) (hY : Yields w h₀ j [] (escI (i, u) :: Is) gs lo) (x : List Nat) (o : Nat) (ho : o < 100000) (fr : Obj) (hfr : IsKf w.params x o fr)
    (h : ¬ (u = [41] ∧ o = 0) → ∀ n' T' fr gs' lo', T ≤ T' → IsKf w.params x (if u = [40] then o + 1 else if u = [41] then o - 1 else o : Nat) fr → Yields w h₀ j [] Is gs' lo' → Go ⟨w, h₀, b, ga.setIfInBounds j gs', d, os⟩ ⟨.ret (chkLoop L ge) none k κ, denQ (chkLoop L ge), (L, fr) :: (ge, genO j nm qn) :: (lo' ++ rest), g, n', 820, T'⟩)
    (h0 : u = [41] → o = 0 → ∀ n' T' gs', T ≤ T' → gs'.bare = true → Go ⟨w, h₀, b, ga.setIfInBounds j gs', d, os⟩ ⟨κ, k (.ok (.ret (.bool false))), rest, g, n', 820, T'⟩) :
    Go ⟨w, h₀, b, ga, d, os⟩ ⟨.ret (chkLoop L ge) none k κ, denQ (chkLoop L ge), (L, fr) :: (ge, genO j nm qn) :: (lo ++ rest), g, n, 820, T⟩ := by
  have R0 := R ga
  obtain ⟨t0, t1, t2, t3, hfr⟩ := hfr
  generalize htl : lo ++ rest = tl
  run_tac Drv.drive [100018]
  rw [← htl]
  refine go_again (by kernel_rfl) ?_
  refine go_perm _ (pn1 (L, fr) (ge, genO j nm qn) lo rest) ?_
  refine go_drop _ (List.Sublist.refl _) fun n1 T1 hT1 => ?_
  refine gnext w h₀ b ga d os B hA _ (by exact hκ) (fun ga => (R ga).ret.le rfl rfl) _ _ ge j (by kernel_rfl) nm qn _ _ g gs lo n1 T1 hga _ _ hY fun n2 T2 v nl gs' lo' hT2 hI hY' => ?_
  obtain ⟨a, t, t', rfl, rfl⟩ := hI
  have R1 := R (ga.setIfInBounds j gs')
  have hb' := hY'.of.1.2
  refine go_perm ((a, tupO [.int i t, .str (sL u) t']) :: (L, fr) :: (ge, genO j nm qn) :: (lo' ++ rest)) (pn2 _ _ _ lo' rest) ?_
  by_cases h40 : u = [40]
  · subst h40
    rw [if_pos rfl] at h
    clear h0
    replace h := h (by simp)
    generalize htl' : lo' ++ rest = tl'
    rcases hfr with rfl | ⟨t4, t5, i', c', rfl⟩
    all_goals
      run_tac Drv.drive [100018]
      refine go_again (by kernel_rfl) ?_
      refine go_drop ((L, kfC w.params x ((o + 1 : Nat) : Int) ..) :: (ge, genO j nm qn) :: tl') (by repeat (first | exact List.Sublist.refl _ | apply List.Sublist.cons_cons | apply List.Sublist.cons)) fun n3 T3 hT3 => ?_
      rw [← htl']
      exact h n3 T3 _ gs' lo' (by run_tac Drv.tom) ⟨_, _, _, _, .inr ⟨_, _, _, _, rfl⟩⟩ hY'
  rw [if_neg h40] at h
  by_cases h41 : u = [41]
  · subst h41
    rw [if_pos rfl] at h
    by_cases ho0 : o = 0
    · subst ho0
      clear h
      replace h0 := h0 rfl rfl
      generalize htl' : lo' ++ rest = tl'
      rcases hfr with rfl | ⟨t4, t5, i', c', rfl⟩
      all_goals
        run_tac Drv.drive [100018]
        rw [← htl']
        refine go_drop rest (by repeat (first | exact List.sublist_append_right _ _ | apply List.Sublist.cons)) fun n3 T3 hT3 => h0 n3 T3 gs' (by run_tac Drv.tom) hb'
    · clear h0
      replace h := h (fun z => ho0 z.2)
      generalize htl' : lo' ++ rest = tl'
      have ho1 : (o : Int) - 1 = ((o - 1 : Nat) : Int) := by run_tac Drv.tom
      rcases hfr with rfl | ⟨t4, t5, i', c', rfl⟩
      all_goals
        run_tac Drv.drive [100018]
        refine go_again (by kernel_rfl) ?_
        rw [ho1]
        refine go_drop ((L, kfC w.params x ((o - 1 : Nat) : Int) ..) :: (ge, genO j nm qn) :: tl') (by repeat (first | exact List.Sublist.refl _ | apply List.Sublist.cons_cons | apply List.Sublist.cons)) fun n3 T3 hT3 => ?_
        rw [← htl']
        exact h n3 T3 _ gs' lo' (by run_tac Drv.tom) ⟨_, _, _, _, .inr ⟨_, _, _, _, rfl⟩⟩ hY'
  · rw [if_neg h41] at h
    clear h0
    replace h := h (fun z => h41 z.1)
    generalize htl' : lo' ++ rest = tl'
    rcases hu with ⟨c, rfl⟩ | ⟨c, rfl⟩
    · have hc0 : c ≠ 40 := fun z => h40 (by rw [z])
      have hc1 : c ≠ 41 := fun z => h41 (by rw [z])
      rcases hfr with rfl | ⟨t4, t5, i', c', rfl⟩
      all_goals
        run_tac Drv.drive [100018]
        refine go_again (by kernel_rfl) ?_
        refine go_drop ((L, kfC w.params x o ..) :: (ge, genO j nm qn) :: tl') (by repeat (first | exact List.Sublist.refl _ | apply List.Sublist.cons_cons | apply List.Sublist.cons)) fun n3 T3 hT3 => ?_
        rw [← htl']
        exact h n3 T3 _ gs' lo' (by run_tac Drv.tom) ⟨_, _, _, _, .inr ⟨_, _, _, _, rfl⟩⟩ hY'
    · rcases hfr with rfl | ⟨t4, t5, i', c', rfl⟩
      all_goals
        run_tac Drv.drive [100018]
        refine go_again (by kernel_rfl) ?_
        refine go_drop ((L, kfC w.params x o ..) :: (ge, genO j nm qn) :: tl') (by repeat (first | exact List.Sublist.refl _ | apply List.Sublist.cons_cons | apply List.Sublist.cons)) fun n3 T3 hT3 => ?_
        rw [← htl']
        exact h n3 T3 _ gs' lo' (by run_tac Drv.tom) ⟨_, _, _, _, .inr ⟨_, _, _, _, rfl⟩⟩ hY'
theorem chk_end (gs : GenState) (lo : List (Addr × Obj)) (n T : Nat) (hga : ga[j]? = some gs) (hY : Yields w h₀ j [] [] gs lo) (fr : Obj) (hfr : ∃ x o, IsKf w.params x o fr)
    (h : ∀ n' T', T ≤ T' → Go ⟨w, h₀, b, ga.setIfInBounds j .finished, d, os⟩ ⟨κ, k (.ok .next), (L, fr) :: rest, g, n', 820, T'⟩) :
    Go ⟨w, h₀, b, ga, d, os⟩ ⟨.ret (chkLoop L ge) none k κ, denQ (chkLoop L ge), (L, fr) :: (ge, genO j nm qn) :: (lo ++ rest), g, n, 820, T⟩ := by
  have R0 := R ga
  obtain ⟨x, o, t0, t1, t2, t3, hfr⟩ := hfr
  generalize htl : lo ++ rest = tl
  run_tac Drv.drive [100018]
  rw [← htl]
  refine go_again (by kernel_rfl) ?_
  refine go_perm _ (pn1 (L, fr) (ge, genO j nm qn) lo rest) ?_
  refine go_drop _ (List.Sublist.refl _) fun n1 T1 hT1 => ?_
  refine gnext_end w h₀ b ga d os B hA _ (by exact hκ) (fun ga => (R ga).ret.le rfl rfl) _ _ ge j (by kernel_rfl) nm qn _ _ g gs lo n1 T1 hga hY fun n2 T2 e a hT2 => ?_
  have R1 := R (ga.setIfInBounds j .finished)
  refine go_perm ((e, stopO a) :: (a, tupO []) :: (L, fr) :: (ge, genO j nm qn) :: rest) (((pn1 (L, fr) (ge, genO j nm qn) [] rest).symm.cons _).cons _) ?_
  rcases hfr with rfl | ⟨t4, t5, i', c', rfl⟩
  · run_tac Drv.drive [100018]
    refine go_drop ((L, kfB ..) :: rest) (by repeat (first | exact List.Sublist.refl _ | apply List.Sublist.cons_cons | apply List.Sublist.cons)) fun n3 T3 hT3 => h n3 T3 (by run_tac Drv.tom)
  · run_tac Drv.drive [100018]
    refine go_drop ((L, kfC ..) :: rest) (by repeat (first | exact List.Sublist.refl _ | apply List.Sublist.cons_cons | apply List.Sublist.cons)) fun n3 T3 hT3 => h n3 T3 (by run_tac Drv.tom)
end
end
section
open PySem PySem.W PySem.W.X PyProof.Rows
/- the brackets open at the end; none: one is closed that is not open -/
noncomputable def chkO : List (Nat × List Nat) → Nat → Option Nat
  | [], o => some o
  | (_, u) :: r, o => if u = [40] then chkO r (o + 1) else if u = [41] then (if o = 0 then none else chkO r (o - 1)) else chkO r o
noncomputable def chk (x : List Nat) : Bool := match chkO (escs 0 false (strp x)) 0 with
  | none => false
  | some o => decide (o = 0)
theorem BB.allB {j : Nat} {ga : Array GenState} (h : BB j ga) {x : GenState} (hx : x.bare = true) : AllBare (ga.setIfInBounds j x) := fun y hy => by
  obtain ⟨i, hi, rfl⟩ := Array.mem_iff_getElem.mp hy
  have hg := Array.getElem?_eq_getElem hi
  by_cases hij : i = j
  · subst hij
    rw [Array.getElem_setIfInBounds_self]; exact hx
  · exact (h.set x) i _ hij hg
theorem ieq {o : Nat} (h : ¬ o = 0) : (fun x1 x2 : Int => x1 == x2) (o : Int) 0 = false := by
  show ((o : Int) == 0) = false
  exact beq_false_of_ne (by run_tac Drv.tom)
section
variable (w : World) (h₀ : Heap) (b : Base (model PW w)) (d : Drawn) (os : OsState) (B : BaseF w.params h₀) (hA : b.A.handled = none) (κ : Kt) (hκ : handledOf none κ = none) (R : ∀ ga, Room ⟨w, h₀, b, ga, d, os⟩ κ 510 2100) (k : Result → Sem Fin) (ge j L : Nat) (nm qn : Value) (rest : List (Addr × Obj)) (g : Array Value)
include B hA R hκ
theorem chk_loop (x : List Nat) : ∀ (items : List (Nat × List Nat)) (lo' : Nat) (ga : Array GenState) (gs : GenState) (lo : List (Addr × Obj)) (n T o : Nat) (fr : Obj),
    BB j ga → ga[j]? = some gs → Yields w h₀ j [] (items.map escI) gs lo → Inc x.length lo' items → IsKf w.params x o fr → o + items.length < 90000 →
    (∀ o' ga' n' T' fr, chkO items o = some o' → AllBare ga' → T ≤ T' → IsKf w.params x o' fr → o' < 90000 →
      Go ⟨w, h₀, b, ga', d, os⟩ ⟨κ, k (.ok .next), (L, fr) :: rest, g, n', 820, T'⟩) →
    (chkO items o = none → ∀ ga' n' T', AllBare ga' → T ≤ T' → Go ⟨w, h₀, b, ga', d, os⟩ ⟨κ, k (.ok (.ret (.bool false))), rest, g, n', 820, T'⟩) →
    Go ⟨w, h₀, b, ga, d, os⟩ ⟨.ret (chkLoop L ge) none k κ, denQ (chkLoop L ge), (L, fr) :: (ge, genO j nm qn) :: (lo ++ rest), g, n, 820, T⟩
  | [], lo', ga, gs, lo, n, T, o, fr, hb, hga, hY, hI, hfr, hq, h, h0 => by
    refine chk_end w h₀ b ga d os B hA κ hκ R k ge j L nm qn rest g gs lo n T hga hY fr ⟨x, o, hfr⟩ fun n1 T1 hT1 => ?_
    exact h o _ n1 T1 fr rfl hb.all hT1 hfr (by simp at hq; (run_tac Drv.lomega))
  | (i, u) :: items, lo', ga, gs, lo, n, T, o, fr, hb, hga, hY, hI, hfr, hq, h, h0 => by
    obtain ⟨hi1, hi2, hu, hI⟩ := hI
    rw [List.length_cons] at hq
    refine chk_turn w h₀ b ga d os B hA κ hκ R k ge j L nm qn rest g gs lo n T hga i u hu _ hY x o (by run_tac Drv.tom) fr hfr (fun hne n1 T1 fr1 gs' lo1 hT1 hfr1 hY1 => ?_) (fun hu41 ho n1 T1 gs' hT1 hb1 => ?_)
    · have e : chkO ((i, u) :: items) o = chkO items (if u = [40] then o + 1 else if u = [41] then o - 1 else o) := by
        rw [chkO]
        by_cases h40 : u = [40]
        · rw [if_pos h40, if_pos h40]
        · rw [if_neg h40, if_neg h40]
          by_cases h41 : u = [41]
          · rw [if_pos h41, if_pos h41, if_neg fun z => hne ⟨h41, z⟩]
          · rw [if_neg h41, if_neg h41]
      rw [e] at h h0
      refine chk_loop x items _ _ gs' lo1 n1 T1 _ fr1 (hb.set gs') (get_set gs' hga) hY1 hI hfr1 ?_ (fun o' ga' n2 T2 fr2 ho' hb2 hT2 => h o' ga' n2 T2 fr2 ho' hb2 (by run_tac Drv.tom)) (fun hn ga' n2 T2 hb2 hT2 => h0 hn ga' n2 T2 hb2 (by run_tac Drv.tom))
      split
      · (run_tac Drv.lomega)
      · split <;> (run_tac Drv.lomega)
    · refine h0 ?_ _ n1 T1 (hb.allB hb1) hT1
      subst hu41; subst ho
      simp [chkO]
end
section
variable (w : World) (h₀ : Heap) (b : Base (model PW w)) (ga : Array GenState) (d : Drawn) (os : OsState) (B : BaseF w.params h₀) (hA : b.A.handled = none) (κ : Kt) (hκ : handledOf none κ = none) (R : ∀ ga, Room ⟨w, h₀, b, ga, d, os⟩ κ 490 1900) (k : Result → Sem Fin) (gd : Bool) (lv : List Value) (n T ts: Nat) (rest : List (Addr × Obj)) (g : Array Value) (hga : AllBare ga)
include B hA R hκ hga
theorem check_s (x : List Nat) (hx : x.length < 9000) (hc : ∀ c ∈ x, c < 128) (hs : 34 ∈ x → 0 < (stpR x (escs 0 false x) 0 none).2.1 ∧ (stpR x (escs 0 false x) 0 none).1.length < 20000) (hy : (strp x).length < 9000) (hyc : ∀ c ∈ strp x, c < 128)
    (h : ∀ ga' n' T', AllBare ga' → T ≤ T' → Go ⟨w, h₀, b, ga', d, os⟩ ⟨κ, k (.ok (.ret (.bool (chk x)))), rest, g, n', 820, T'⟩) :
    Go ⟨w, h₀, b, ga, d, os⟩ ⟨κ, .call (.call (.ref 780) ⟨[.str (sL x) ts], []⟩) none gd lv k, rest, g, n, 820, T⟩ := by
  have R0 := R ga
  refine go_enter rfl ?_
  run_tac Drv.drive [780]
  refine go_drop ((n + 820, _) :: rest) (List.Sublist.refl _) fun n1 T1 hT1 => ?_
  refine strip_s w h₀ b ga d os B hA _ (by exact hκ) (fun ga => (R ga).ret.le rfl rfl) _ _ _ n1 T1 ts _ g hga x hx hc hs fun ga1 n2 T2 t2 hga1 hT2 => ?_
  have R1 := R ga1
  unfold chk at h
  generalize strp x = y at *
  run_tac Drv.drive [780, 766]
  refine go_newGenA fun ga2 hga2 hfr => ?_
  have R2 := R ga2
  run_tac Drv.drive [780]
  refine go_enter rfl ?_
  refine go_perm ((n + 820, _) :: (n2 + 821, genO ga1.size _ _) :: (n2 + 820, efA w.params _ y t2) :: rest) (perm_at 2 rfl (perm_at 0 rfl (.refl _))) ?_
  refine go_drop ((n + 820, kfB w.params y 0 ..) :: (n2 + 821, genO ga1.size _ _) :: ([(n2 + 820, efA w.params _ y t2)] ++ rest)) (by repeat (first | exact List.Sublist.refl _ | apply List.Sublist.cons_cons | apply List.Sublist.cons)) fun n3 T3 hT3 => ?_
  refine chk_loop w h₀ b d os B hA _ (by exact hκ) (fun ga => (R ga).ret.le rfl rfl) _ (n2 + 821) ga1.size (n + 820) _ _ rest g y (escs 0 false y) 0 ga2 _ _ n3 T3 0 _ (by rw [hga2]; exact BB.push hga1 _) hfr (esc_yields w h₀ B ga1.size (n2 + 820) _ t2 y hyc (by run_tac Drv.tom)) (escs_inc y.length y 0 false (by run_tac Drv.tom) (by simp)) ⟨_, _, _, _, .inl rfl⟩ (by have := escs_len y 0 false; (run_tac Drv.lomega)) (fun o ga3 n4 T4 fr ho hb3 hT4 hfr3 hol => ?_) (fun hn ga3 n4 T4 hb3 hT4 => ?_)
  · rw [ho] at h
    have R3 := R ga3
    obtain ⟨t0, t1, t2, t3, hfr3⟩ := hfr3
    by_cases ho0 : o = 0
    · subst ho0
      rcases hfr3 with rfl | ⟨t4, t5, i', c', rfl⟩
      all_goals
        run_tac Drv.drive [780]
        refine go_drop rest (by repeat (first | exact List.Sublist.refl _ | apply List.Sublist.cons_cons | apply List.Sublist.cons)) fun n5 T5 hT5 => h ga3 n5 T5 hb3 (by run_tac Drv.tom)
    · have hd : decide (o = 0) = false := decide_eq_false ho0
      simp only [hd] at h
      rcases hfr3 with rfl | ⟨t4, t5, i', c', rfl⟩
      all_goals
        run_tac Drv.drive [780]
        have htold := (ieq ho0)
        run_tac Drv.toldN `htold
        clear htold
        refine go_drop rest (by repeat (first | exact List.Sublist.refl _ | apply List.Sublist.cons_cons | apply List.Sublist.cons)) fun n5 T5 hT5 => h ga3 n5 T5 hb3 (by run_tac Drv.tom)
  · rw [hn] at h
    have R3 := R ga3
    run_tac Drv.drive [780]
    refine go_drop rest (by repeat (first | exact List.Sublist.refl _ | apply List.Sublist.cons_cons | apply List.Sublist.cons)) fun n5 T5 hT5 => h ga3 n5 T5 hb3 (by run_tac Drv.tom)
end
end
section
open PySem PySem.W PySem.W.X PyProof.Rows
noncomputable def nope : List Nat := [40, 39, 39, 44, 32, 39, 39, 41]
noncomputable def preV (x : List Nat) : List Nat := if chk x = true then x else nope
noncomputable def pfB (P : Params) (a l t0 t1 : Nat) : Obj := ⟨.type "frame", none, .dict #[ent P ⟨#[101, 109, 97, 105, 108, 95, 104, 101, 97, 100, 101, 114, 95, 102, 105, 101, 108, 100, 115]⟩ t0 (.ref a), ent P ⟨#[97, 99, 99, 101, 112, 116, 101, 100, 95, 118, 97, 108, 117, 101, 115]⟩ t1 (.ref l)] 2, #[]⟩
noncomputable def pfC (P : Params) (a l t0 t1 t2 : Nat) (v : Value) : Obj := ⟨.type "frame", none, .dict #[ent P ⟨#[101, 109, 97, 105, 108, 95, 104, 101, 97, 100, 101, 114, 95, 102, 105, 101, 108, 100, 115]⟩ t0 (.ref a), ent P ⟨#[97, 99, 99, 101, 112, 116, 101, 100, 95, 118, 97, 108, 117, 101, 115]⟩ t1 (.ref l), ent P ⟨#[118]⟩ t2 v] 3, #[]⟩
noncomputable def IsPf (P : Params) (a l : Nat) (fr : Obj) : Prop := ∃ t0 t1, fr = pfB P a l t0 t1 ∨ ∃ t2 v, fr = pfC P a l t0 t1 t2 v
noncomputable def preLoop (L it : Addr) : Code := match (bodyOf fd787).drop 1 with
  | Stmt.For tgt _ b e _ :: _ => .forLoop tgt (.ref it) b e (fEnv fd787 787 L)
  | _ => default
/- a line that may be asked for its brackets -/
structure LineOk (x : List Nat) : Prop where
  len : x.length < 9000
  asc : ∀ c ∈ x, c < 128
  st : 34 ∈ x → 0 < (stpR x (escs 0 false x) 0 none).2.1 ∧ (stpR x (escs 0 false x) 0 none).1.length < 20000
  slen : (strp x).length < 9000
  sasc : ∀ c ∈ strp x, c < 128
section
variable (w : World) (h₀ : Heap) (b : Base (model PW w)) (ga : Array GenState) (d : Drawn) (os : OsState) (B : BaseF w.params h₀) (hA : b.A.handled = none) (κ : Kt) (hκ : handledOf none κ = none) (R : ∀ ga, Room ⟨w, h₀, b, ga, d, os⟩ κ 480 1800) (k : Result → Sem Fin) (a l L it e : Nat) (ps : List (List Nat × Nat)) (rest : List (Addr × Obj)) (g : Array Value) (hga : AllBare ga)
include B hA R hκ hga
theorem pre_turn (n T i : Nat) (fr : Obj) (hfr : IsPf w.params a l fr) (x : List Nat) (tx : Nat) (hg : (Array.mk (vsP ps))[(i : Int).toNat]? = some (.str (sL x) tx)) (hx : LineOk x) (ep : Nat) (vs : List Value) (hvs : vs.length < 10000)
    (h : ∀ ga' n' T' fr ep' t', AllBare ga' → T ≤ T' → IsPf w.params a l fr → Go ⟨w, h₀, b, ga', d, os⟩ ⟨.ret (preLoop L it) none k κ, denQ (preLoop L it), (L, fr) :: (it, itO a (i + 1)) :: (l, lstO (vs ++ [.str (sL (preV x)) t']) ep') :: (a, lstO (vsP ps) e) :: rest, g, n', 820, T'⟩) :
    Go ⟨w, h₀, b, ga, d, os⟩ ⟨.ret (preLoop L it) none k κ, denQ (preLoop L it), (L, fr) :: (it, itO a i) :: (l, lstO vs ep) :: (a, lstO (vsP ps) e) :: rest, g, n, 820, T⟩ := by
  have R0 := R ga
  obtain ⟨t0, t1, hfr⟩ := hfr
  unfold preV at h
  refine' go_cut (p := ∀ n1 T1 (q0 q1 q2 : Nat), T ≤ T1 → Go ⟨w, h₀, b, ga, d, os⟩ ⟨_, _, (L, pfC w.params a l q0 q1 q2 (.str (sL x) tx)) :: (it, itO a (i + 1)) :: (l, lstO vs ep) :: (a, lstO (vsP ps) e) :: rest, g, n1, 820, T1⟩) (fun key => ?_) ?_
  rotate_left 2
  · rcases hfr with rfl | ⟨t2, v, rfl⟩
    all_goals
      run_tac Drv.drive [787]
      refine go_drop ((L, pfC w.params a l ..) :: (it, itO a (i + 1)) :: (l, lstO vs ep) :: (a, lstO (vsP ps) e) :: rest) (by repeat (first | exact List.Sublist.refl _ | apply List.Sublist.cons_cons | apply List.Sublist.cons)) fun n1 T1 hT1 => ?_
      exact key n1 T1 _ _ _ (by run_tac Drv.tom)
  · intro n1 T1 q0 q1 q2 hT1
    refine check_s w h₀ b ga d os B hA _ (by exact hκ) (fun ga => (R ga).ret.le rfl rfl) _ _ _ n1 T1 tx _ g hga x hx.len hx.asc hx.st hx.slen hx.sasc fun ga1 n2 T2 hga1 hT2 => ?_
    have R1 := R ga1
    cases hc : chk x with
    | true =>
      rw [hc, if_pos rfl] at h
      run_tac Drv.drive [787]
      refine go_again (by kernel_rfl) ?_
      rw [appR]
      refine go_drop ((L, pfC w.params a l ..) :: (it, itO a (i + 1)) :: (l, lstO (vs ++ [.str (sL x) _]) _) :: (a, lstO (vsP ps) e) :: rest) (by repeat (first | exact List.Sublist.refl _ | apply List.Sublist.cons_cons | apply List.Sublist.cons)) fun n3 T3 hT3 => ?_
      exact h ga1 n3 T3 _ _ _ hga1 (by run_tac Drv.tom) ⟨_, _, .inr ⟨_, _, rfl⟩⟩
    | false =>
      rw [hc, if_neg (by decide)] at h
      run_tac Drv.drive [787]
      refine go_again (by kernel_rfl) ?_
      rw [appR]
      refine go_drop ((L, pfC w.params a l ..) :: (it, itO a (i + 1)) :: (l, lstO (vs ++ [.str (sL nope) _]) _) :: (a, lstO (vsP ps) e) :: rest) (by repeat (first | exact List.Sublist.refl _ | apply List.Sublist.cons_cons | apply List.Sublist.cons)) fun n3 T3 hT3 => ?_
      exact h ga1 n3 T3 _ _ _ hga1 (by run_tac Drv.tom) ⟨_, _, .inr ⟨_, _, rfl⟩⟩
theorem pre_end (n T i : Nat) (fr : Obj) (hfr : IsPf w.params a l fr) (hg : (Array.mk (vsP ps))[(i : Int).toNat]? = none) (ep : Nat) (vs : List Value)
    (h : ∀ n' T', T ≤ T' → Go ⟨w, h₀, b, ga, d, os⟩ ⟨κ, k (.ok .next), (L, fr) :: (l, lstO vs ep) :: (a, lstO (vsP ps) e) :: rest, g, n', 820, T'⟩) :
    Go ⟨w, h₀, b, ga, d, os⟩ ⟨.ret (preLoop L it) none k κ, denQ (preLoop L it), (L, fr) :: (it, itO a i) :: (l, lstO vs ep) :: (a, lstO (vsP ps) e) :: rest, g, n, 820, T⟩ := by
  have R0 := R ga
  obtain ⟨t0, t1, hfr⟩ := hfr
  rcases hfr with rfl | ⟨t2, v, rfl⟩
  · run_tac Drv.drive [787]
    refine go_drop ((L, pfB w.params a l ..) :: (l, lstO vs ep) :: (a, lstO (vsP ps) e) :: rest) (by repeat (first | exact List.Sublist.refl _ | apply List.Sublist.cons_cons | apply List.Sublist.cons)) fun n3 T3 hT3 => ?_
    exact h n3 T3 (by run_tac Drv.tom)
  · run_tac Drv.drive [787]
    refine go_drop ((L, pfC w.params a l ..) :: (l, lstO vs ep) :: (a, lstO (vsP ps) e) :: rest) (by repeat (first | exact List.Sublist.refl _ | apply List.Sublist.cons_cons | apply List.Sublist.cons)) fun n3 T3 hT3 => ?_
    exact h n3 T3 (by run_tac Drv.tom)
end
section
variable (w : World) (h₀ : Heap) (b : Base (model PW w)) (d : Drawn) (os : OsState) (B : BaseF w.params h₀) (hA : b.A.handled = none) (κ : Kt) (hκ : handledOf none κ = none) (R : ∀ ga, Room ⟨w, h₀, b, ga, d, os⟩ κ 480 1800) (k : Result → Sem Fin) (a l L it e : Nat) (ps : List (List Nat × Nat)) (rest : List (Addr × Obj)) (g : Array Value)
include B hA R hκ
theorem pre_loop : ∀ (rem : List (List Nat × Nat)) (i : Nat), ps.drop i = rem → (∀ p ∈ rem, LineOk p.1) → ∀ (ga : Array GenState) (n T : Nat) (fr : Obj) (qs : List (List Nat × Nat)) (ep : Nat), AllBare ga → IsPf w.params a l fr → qs.length + rem.length < 9000 →
    (∀ ga' n' T' fr qs' ep', AllBare ga' → T ≤ T' → IsPf w.params a l fr → qs'.map Prod.fst = qs.map Prod.fst ++ rem.map (fun p => preV p.1) → Go ⟨w, h₀, b, ga', d, os⟩ ⟨κ, k (.ok .next), (L, fr) :: (l, lstO (vsP qs') ep') :: (a, lstO (vsP ps) e) :: rest, g, n', 820, T'⟩) →
    Go ⟨w, h₀, b, ga, d, os⟩ ⟨.ret (preLoop L it) none k κ, denQ (preLoop L it), (L, fr) :: (it, itO a i) :: (l, lstO (vsP qs) ep) :: (a, lstO (vsP ps) e) :: rest, g, n, 820, T⟩ := by
  intro zs
  induction zs with
  | nil =>
    intro i hi hl ga n T fr qs ep hga hfr hq h
    refine pre_end w h₀ b ga d os B hA κ hκ R k a l L it e ps rest g hga n T i fr hfr (vs_none hi) ep _ fun n1 T1 hT1 => h ga n1 T1 fr qs ep hga hT1 hfr (by simp)
  | cons p rem ih =>
    intro i hi hl ga n T fr qs ep hga hfr hq h
    rw [List.length_cons] at hq
    refine pre_turn w h₀ b ga d os B hA κ hκ R k a l L it e ps rest g hga n T i fr hfr p.1 p.2 (vs_get hi) (hl p (.head _)) ep _ (by unfold vsP; simp; (run_tac Drv.lomega)) fun ga1 n1 T1 fr1 ep1 t1 hga1 hT1 hfr1 => ?_
    have hr : ps.drop (i + 1) = rem := by rw [← List.drop_drop, hi]; rfl
    rw [show vsP qs ++ [Value.str (sL (preV p.1)) t1] = vsP (qs ++ [(preV p.1, t1)]) from by simp [vsP]]
    refine ih (i + 1) hr (fun q hq => hl q (.tail _ hq)) ga1 n1 T1 fr1 _ ep1 hga1 hfr1 (by simp; (run_tac Drv.lomega)) fun ga2 n2 T2 fr2 qs2 ep2 hga2 hT2 hfr2 hq2 => h ga2 n2 T2 fr2 qs2 ep2 hga2 (by run_tac Drv.tom) hfr2 (by rw [hq2]; simp)
end
section
variable (w : World) (h₀ : Heap) (b : Base (model PW w)) (ga : Array GenState) (d : Drawn) (os : OsState) (B : BaseF w.params h₀) (hA : b.A.handled = none) (κ : Kt) (hκ : handledOf none κ = none) (R : ∀ ga, Room ⟨w, h₀, b, ga, d, os⟩ κ 470 1700) (k : Result → Sem Fin) (gd : Bool) (lv : List Value) (n T a e: Nat) (ps : List (List Nat × Nat)) (rest : List (Addr × Obj)) (g : Array Value) (hga : AllBare ga)
include B hA R hκ hga
theorem pre_s (hp : ∀ p ∈ ps, LineOk p.1) (hl : ps.length < 1000)
    (h : ∀ ga' n' T' l ps' ep', AllBare ga' → T ≤ T' → ps'.map Prod.fst = ps.map (fun p => preV p.1) → Go ⟨w, h₀, b, ga', d, os⟩ ⟨κ, k (.ok (.ret (.ref l))), (l, lstO (vsP ps') ep') :: (a, lstO (vsP ps) e) :: rest, g, n', 820, T'⟩) :
    Go ⟨w, h₀, b, ga, d, os⟩ ⟨κ, .call (.call (.ref 787) ⟨[.ref a], []⟩) none gd lv k, (a, lstO (vsP ps) e) :: rest, g, n, 820, T⟩ := by
  have R0 := R ga
  refine go_enter rfl ?_
  run_tac Drv.drive [787]
  refine go_enter rfl ?_
  refine go_perm ((n + 820, pfB w.params a (n + 821) ..) :: (n + 822, itO a (0 : Nat)) :: (n + 821, lstO (vsP []) 0) :: (a, lstO (vsP ps) e) :: rest) (perm_at 2 rfl (.refl _)) ?_
  refine go_drop _ (List.Sublist.refl _) fun n1 T1 hT1 => ?_
  refine pre_loop w h₀ b d os B hA _ (by exact hκ) (fun ga => (R ga).ret.le rfl rfl) _ a (n + 821) (n + 820) (n + 822) e ps rest g ps 0 rfl hp ga n1 T1 _ [] 0 hga ⟨_, _, .inl rfl⟩ (by simp; (run_tac Drv.lomega)) fun ga2 n2 T2 fr qs ep hga2 hT2 hfr hqs => ?_
  have R2 := R ga2
  obtain ⟨t0, t1, hfr⟩ := hfr
  rcases hfr with rfl | ⟨t2, v, rfl⟩
  all_goals
    run_tac Drv.drive [787]
    refine go_drop ((n + 821, lstO (vsP qs) ep) :: (a, lstO (vsP ps) e) :: rest) (by repeat (first | exact List.Sublist.refl _ | apply List.Sublist.cons_cons | apply List.Sublist.cons)) fun n3 T3 hT3 => ?_
    exact h ga2 n3 T3 _ qs ep hga2 (by run_tac Drv.tom) (by simpa using hqs)
end
end
section
open PySem PySem.W PySem.W.X PyProof.Rows
theorem sL_inj {x y : List Nat} (h : sL x = sL y) : x = y := by
  have := congrArg (fun s : Str => s.cps.toList) h
  simpa [sL] using this
theorem vne {y x : List Nat} (ty tx : Nat) (h : y ≠ x) : ¬ ((@BEq.beq Value (@instBEqOfDecidableEq Value Fast.tw7966671052430208091) (Value.str (sL y) ty) (Value.str (sL x) tx)) = true) := fun z => by
  have z := @of_decide_eq_true _ (Fast.tw7966671052430208091 _ _) z
  injection z with z1 z2
  exact h (sL_inj z1)
theorem vnt (x : List Nat) {ty tx : Nat} (h : ty ≠ tx) : ¬ ((@BEq.beq Value (@instBEqOfDecidableEq Value Fast.tw7966671052430208091) (Value.str (sL x) ty) (Value.str (sL x) tx)) = true) := fun z => by
  have z := @of_decide_eq_true _ (Fast.tw7966671052430208091 _ _) z
  injection z with z1 z2
  exact h z2
theorem veq (x : List Nat) (t : Nat) : (@BEq.beq Value (@instBEqOfDecidableEq Value Fast.tw7966671052430208091) (Value.str (sL x) t) (Value.str (sL x) t)) = true := @decide_eq_true _ (Fast.tw7966671052430208091 _ _) rfl
theorem lne {y x : List Nat} (h : y ≠ x) : ¬ ((fun x1 x2 => @BEq.beq (List Nat) (@List.instBEq Nat (@instBEqOfDecidableEq Nat instDecidableEqNat)) x1 x2) (@Array.toList Nat (sL y).cps) (@Array.toList Nat (sL x).cps) = true) := fun z => by
  have z := eq_of_beq z
  exact h z
theorem leq (x : List Nat) : (fun x1 x2 => @BEq.beq (List Nat) (@List.instBEq Nat (@instBEqOfDecidableEq Nat instDecidableEqNat)) x1 x2) (@Array.toList Nat (sL x).cps) (@Array.toList Nat (sL x).cps) = true := beq_self_eq_true _
section
variable (X : Env0) (B : BaseF X.w.params X.h₀) (hA : X.A.handled = none) (κ : Kt) (R : Room X κ 600 3000) (hκ : handledOf none κ = none) (k : Result → Sem Fin) (a e tx : Nat) (x : List Nat) (ps : List (List Nat × Nat)) (rest : List (Addr × Obj)) (g : Array Value)
include B hA R hκ
theorem lc_end (n T i : Nat) (cc : Code) (hcc : cc = .builtin "list.__contains__.loop" ⟨[.ref a, .str (sL x) tx, .int i 0], []⟩) (hg : (Array.mk (vsP ps))[(i : Int).toNat]? = none)
    (h : ∀ n' T', T ≤ T' → Go X ⟨κ, k (.ok (.ret (.bool false))), (a, lstO (vsP ps) e) :: rest, g, n', 820, T'⟩) :
    Go X ⟨.ret cc none k κ, denQ cc, (a, lstO (vsP ps) e) :: rest, g, n, 820, T⟩ := by
  subst hcc
  run_tac Drv.drive [100022]
  refine go_drop ((a, lstO (vsP ps) e) :: rest) (by repeat (first | exact List.Sublist.refl _ | apply List.Sublist.cons_cons | apply List.Sublist.cons)) fun n1 T1 hT1 => h n1 T1 (by run_tac Drv.tom)
theorem lc_no (n T i : Nat) (cc : Code) (hcc : cc = .builtin "list.__contains__.loop" ⟨[.ref a, .str (sL x) tx, .int i 0], []⟩) (y : List Nat) (ty : Nat) (hg : (Array.mk (vsP ps))[(i : Int).toNat]? = some (.str (sL y) ty)) (hxy : y ≠ x)
    (h : ∀ n' T', T ≤ T' → Go X ⟨.ret (.builtin "list.__contains__.loop" ⟨[.ref a, .str (sL x) tx, .int ((i + 1 : Nat) : Int) 0], []⟩) none k κ, denQ (.builtin "list.__contains__.loop" ⟨[.ref a, .str (sL x) tx, .int ((i + 1 : Nat) : Int) 0], []⟩), (a, lstO (vsP ps) e) :: rest, g, n', 820, T'⟩) :
    Go X ⟨.ret cc none k κ, denQ cc, (a, lstO (vsP ps) e) :: rest, g, n, 820, T⟩ := by
  subst hcc
  have hv := vne (y := y) (x := x) ty tx hxy
  have hl := lne hxy
  run_tac Drv.drive [100022]
  refine go_again (by kernel_rfl) ?_
  refine go_drop ((a, lstO (vsP ps) e) :: rest) (by repeat (first | exact List.Sublist.refl _ | apply List.Sublist.cons_cons | apply List.Sublist.cons)) fun n1 T1 hT1 => h n1 T1 (by run_tac Drv.tom)
theorem lc_yes (n T i : Nat) (cc : Code) (hcc : cc = .builtin "list.__contains__.loop" ⟨[.ref a, .str (sL x) tx, .int i 0], []⟩) (ty : Nat) (hg : (Array.mk (vsP ps))[(i : Int).toNat]? = some (.str (sL x) ty))
    (h : ∀ n' T', T ≤ T' → Go X ⟨κ, k (.ok (.ret (.bool true))), (a, lstO (vsP ps) e) :: rest, g, n', 820, T'⟩) :
    Go X ⟨.ret cc none k κ, denQ cc, (a, lstO (vsP ps) e) :: rest, g, n, 820, T⟩ := by
  subst hcc
  by_cases ht : ty = tx
  · subst ht
    have hv := veq x ty
    run_tac Drv.drive [100022]
    refine go_drop ((a, lstO (vsP ps) e) :: rest) (by repeat (first | exact List.Sublist.refl _ | apply List.Sublist.cons_cons | apply List.Sublist.cons)) fun n1 T1 hT1 => h n1 T1 (by run_tac Drv.tom)
  · have hv := vnt x ht
    have hl := leq x
    run_tac Drv.drive [100022]
    refine go_drop ((a, lstO (vsP ps) e) :: rest) (by repeat (first | exact List.Sublist.refl _ | apply List.Sublist.cons_cons | apply List.Sublist.cons)) fun n1 T1 hT1 => h n1 T1 (by run_tac Drv.tom)
/- a list of texts, asked for one -/
theorem lc_all (cc : Nat → Code) (hcc : ∀ i : Nat, cc i = .builtin "list.__contains__.loop" ⟨[.ref a, .str (sL x) tx, .int i 0], []⟩) : ∀ (rem : List (List Nat × Nat)) (i : Nat), ps.drop i = rem → ∀ n T,
    (∀ n' T', T ≤ T' → Go X ⟨κ, k (.ok (.ret (.bool (decide (x ∈ rem.map Prod.fst))))), (a, lstO (vsP ps) e) :: rest, g, n', 820, T'⟩) →
    Go X ⟨.ret (cc i) none k κ, denQ (cc i), (a, lstO (vsP ps) e) :: rest, g, n, 820, T⟩ := by
  intro zs
  induction zs with
  | nil =>
    intro i hi n T h
    exact lc_end X B hA κ R hκ k a e tx x ps rest g n T i (cc i) (hcc i) (vs_none hi) fun n1 T1 hT1 => by
      have := h n1 T1 hT1
      simpa using this
  | cons p rem ih =>
    intro i hi n T h
    by_cases hp : p.1 = x
    · have hg := vs_get hi
      rw [hp] at hg
      refine lc_yes X B hA κ R hκ k a e tx x ps rest g n T i (cc i) (hcc i) _ hg fun n1 T1 hT1 => ?_
      have := h n1 T1 hT1
      rw [List.map_cons, decide_eq_true (by rw [hp]; exact .head _)] at this
      exact this
    · refine lc_no X B hA κ R hκ k a e tx x ps rest g n T i (cc i) (hcc i) _ _ (vs_get hi) hp fun n1 T1 hT1 => ?_
      have hr : ps.drop (i + 1) = rem := by rw [← List.drop_drop, hi]; rfl
      have hd : decide (x ∈ (p :: rem).map Prod.fst) = decide (x ∈ rem.map Prod.fst) := by
        congr 1
        rw [List.map_cons, List.mem_cons]
        exact propext ⟨fun z => z.resolve_left fun z => hp z.symm, .inr⟩
      rw [hd] at h
      have z := ih (i + 1) hr n1 T1 fun n2 T2 hT2 => h n2 T2 (by run_tac Drv.tom)
      rw [hcc (i + 1)] at z
      exact z
end
end
section
open PySem PySem.W PySem.W.X PyProof.Rows
section
variable (X : Env0) (B : BaseF X.w.params X.h₀) (hA : X.A.handled = none) (κ : Kt) (R : Room X κ 600 3000) (hκ : handledOf none κ = none) (k : Result → Sem Fin) (n T tx ty tz : Nat) (rest : List (Addr × Obj)) (g : Array Value)
include B hA R hκ
/- str.replace -/
theorem repl_b (x y z : List Nat) (hy : y ≠ []) (hyl : y.length < 5) (hz : z.length < 10) (hx : x.length < 100) (hty : ty ≠ 0) (htz : tz ≠ 0) (htt : ty ≠ tz) (hyz : y ≠ z) (cc : Code) (hcc : cc = .builtin "str.replace" ⟨[.str (sL x) tx, .str (sL y) ty, .str (sL z) tz], []⟩)
    (h : ∀ n' T' t', T ≤ T' → Go X ⟨κ, k (.ok (.ret (.str (sL (repl y z x 0)) t'))), rest, g, n', 820, T'⟩) :
    Go X ⟨.ret cc none k κ, denQ cc, rest, g, n, 820, T⟩ := by
  subst hcc
  have hxl : (sL x).length < 100 := by rw [sL_len]; exact hx
  have hsl := scan_len y x 0 0
  have hyz' : ¬ (sL y = sL z) := fun q => hyz (sL_inj q)
  have hyl' : (sL y).length ≠ 0 := by rw [sL_len]; exact fun z => hy (List.length_eq_zero_iff.mp z)
  cases hsc : scan y x 0 0 with
  | nil =>
    have ho := tocc x y hy hsc
    rw [repl_nil y z x 0 hsc] at h
    run_tac Drv.drive [] Drv.m5
    refine go_drop rest (by repeat (first | exact List.Sublist.refl _ | apply List.Sublist.cons_cons | apply List.Sublist.cons)) fun n1 T1 hT1 => ?_
    exact h n1 T1 _ (by run_tac Drv.tom)
  | cons j cs =>
    have ho := tocc x y hy hsc
    have hrl := repl_len y z x 0
    have hgl := tglue x y z hy hsc
    have hrl : (repl y z x 0).length < 2000 := by
      have : x.length * (z.length + 1) ≤ 100 * 11 := Nat.mul_le_mul (by run_tac Drv.tom) (by run_tac Drv.tom)
      (run_tac Drv.lomega)
    generalize repl y z x 0 = rp at *
    rw [hsc, List.length_cons] at hsl
    have hcs : cs.length < 100 := by run_tac Drv.tom
    run_tac Drv.drive [] Drv.m5
    refine go_drop rest (by repeat (first | exact List.Sublist.refl _ | apply List.Sublist.cons_cons | apply List.Sublist.cons)) fun n1 T1 hT1 => ?_
    exact h n1 T1 _ (by run_tac Drv.tom)
end
end
section
open PySem PySem.W PySem.W.X PyProof.Rows
section
variable (X : Env0) (B : BaseF X.w.params X.h₀) (hA : X.A.handled = none) (κ : Kt) (R : Room X κ 600 3000) (hκ : handledOf none κ = none) (k : Result → Sem Fin) (n T tx ty : Nat) (rest : List (Addr × Obj)) (g : Array Value)
include B hA R hκ
/- str + str -/
theorem add_b (x y : List Nat) (hx : x.length < 10000) (hy : y.length < 10000) (cc : Code) (hcc : cc = .builtin "str.__add__" ⟨[.str (sL x) tx, .str (sL y) ty], []⟩)
    (h : ∀ n' T' t', T ≤ T' → Go X ⟨κ, k (.ok (.ret (.str (sL (x ++ y)) t'))), rest, g, n', 820, T'⟩) :
    Go X ⟨.ret cc none k κ, denQ cc, rest, g, n, 820, T⟩ := by
  subst hcc
  have hlx : (sL x).length < 10000 := by rw [sL_len]; exact hx
  have hly : (sL y).length < 10000 := by rw [sL_len]; exact hy
  by_cases hx0 : (sL x).length = 0
  · have : x = [] := by rw [sL_len] at hx0; exact List.length_eq_zero_iff.mp hx0
    subst this
    run_tac Drv.drive []
    refine go_drop rest (by repeat (first | exact List.Sublist.refl _ | apply List.Sublist.cons_cons | apply List.Sublist.cons)) fun n1 T1 hT1 => ?_
    exact h n1 T1 _ (by run_tac Drv.tom)
  · by_cases hy0 : (sL y).length = 0
    · have : y = [] := by rw [sL_len] at hy0; exact List.length_eq_zero_iff.mp hy0
      subst this
      rw [List.append_nil] at h
      run_tac Drv.drive []
      refine go_drop rest (by repeat (first | exact List.Sublist.refl _ | apply List.Sublist.cons_cons | apply List.Sublist.cons)) fun n1 T1 hT1 => ?_
      exact h n1 T1 _ (by run_tac Drv.tom)
    · run_tac Drv.drive []
      refine go_drop rest (by repeat (first | exact List.Sublist.refl _ | apply List.Sublist.cons_cons | apply List.Sublist.cons)) fun n1 T1 hT1 => ?_
      exact h n1 T1 _ (by run_tac Drv.tom)
end
end
section
open PySem PySem.W PySem.W.X PyProof.Rows
/- a comprehension's own frame -/
noncomputable def cEnv (f : Env) (sc : Scope) (Lc : Addr) : Env := { scope := sc, locals := Lc, globals := f.globals, cells := [], qual := f.qual, code := f.code, frame := f.frame, builtins := f.builtins }
noncomputable def cx806 : Expr := match (bodyOf fd806).drop 1 with
  | Stmt.For _ _ [_, Stmt.Assign _ (Expr.BinOp _ _ (Expr.Call _ [e] _ _) _) _] _ _ :: _ => e
  | _ => default
noncomputable def cs806 : Scope := match cx806 with
  | .ListComp _ _ s _ => s
  | _ => default
noncomputable def cl806 (L Lc it acc : Addr) : Code := .compLoop cx806 0 (.ref it) (.ref acc) (cEnv (fEnv fd806 806 L) cs806 Lc)
noncomputable def nsO (es : List DictEntry) (n : Nat) : Obj := ⟨.type "dict", none, .dict ⟨es⟩ n, #[]⟩
noncomputable def IsNs1 (P : Params) (ns : Obj) : Prop := ns = nsO [] 0 ∨ ∃ t v, ns = nsO [ent P ⟨#[115, 105, 103, 110]⟩ t v] 1
section
variable (X : Env0) (B : BaseF X.w.params X.h₀) (hA : X.A.handled = none) (κ : Kt) (R : Room X κ 490 1900) (hκ : handledOf none κ = none) (k : Result → Sem Fin) (L Lc it acc : Nat) (x : List Nat) (tx : Nat) (rest : List (Addr × Obj)) (g : Array Value)
include B hA R hκ
theorem cl_turn (n T i : Nat) (hi : i < 1000) (c : Nat) (hg : (sL x).cps[(i : Int).toNat]? = some c) (vs : List Value) (hvs : vs.length < 10000) (e : Nat) (ns : Obj) (hns : IsNs1 X.w.params ns)
    (h : ∀ n' T' ns' e' t', T ≤ T' → IsNs1 X.w.params ns' → Go X ⟨.ret (cl806 L Lc it acc) none k κ, denQ (cl806 L Lc it acc), (it, sitO x tx (i + 1)) :: (acc, lstO (if c = 40 ∨ c = 41 then vs ++ [.str (sL [c]) t'] else vs) e') :: (Lc, ns') :: rest, g, n', 820, T'⟩) :
    Go X ⟨.ret (cl806 L Lc it acc) none k κ, denQ (cl806 L Lc it acc), (it, sitO x tx i) :: (acc, lstO vs e) :: (Lc, ns) :: rest, g, n, 820, T⟩ := by
  by_cases hc : c = 40 ∨ c = 41
  · simp only [if_pos hc] at h
    rcases hc with rfl | rfl
    all_goals rcases hns with rfl | ⟨t, v, rfl⟩
    all_goals
      run_tac Drv.drive [806]
      refine go_again (by kernel_rfl) ?_
      rw [appR]
      refine go_drop ((it, sitO x tx (i + 1)) :: (acc, lstO (vs ++ [.str (sL [_]) _]) _) :: (Lc, nsO [ent X.w.params ⟨#[115, 105, 103, 110]⟩ _ _] 1) :: rest) (by repeat (first | exact List.Sublist.refl _ | apply List.Sublist.cons_cons | apply List.Sublist.cons)) fun n1 T1 hT1 => ?_
      exact h n1 T1 _ _ _ (by run_tac Drv.tom) (.inr ⟨_, _, rfl⟩)
  · simp only [if_neg hc] at h
    have ho := tin_no [40, 41] c (by simpa using hc)
    rcases hns with rfl | ⟨t, v, rfl⟩
    all_goals
      run_tac Drv.drive [806]
      refine go_again (by kernel_rfl) ?_
      refine go_drop ((it, sitO x tx (i + 1)) :: (acc, lstO vs _) :: (Lc, nsO [ent X.w.params ⟨#[115, 105, 103, 110]⟩ _ _] 1) :: rest) (by repeat (first | exact List.Sublist.refl _ | apply List.Sublist.cons_cons | apply List.Sublist.cons)) fun n1 T1 hT1 => ?_
      exact h n1 T1 _ _ 0 (by run_tac Drv.tom) (.inr ⟨_, _, rfl⟩)
theorem cl_end (n T i : Nat) (hg : (sL x).cps[(i : Int).toNat]? = none) (vs : List Value) (e : Nat) (ns : Obj) (hns : IsNs1 X.w.params ns)
    (h : ∀ n' T', T ≤ T' → Go X ⟨κ, k (.ok .next), (acc, lstO vs e) :: (Lc, ns) :: rest, g, n', 820, T'⟩) :
    Go X ⟨.ret (cl806 L Lc it acc) none k κ, denQ (cl806 L Lc it acc), (it, sitO x tx i) :: (acc, lstO vs e) :: (Lc, ns) :: rest, g, n, 820, T⟩ := by
  rcases hns with rfl | ⟨t, v, rfl⟩
  · run_tac Drv.drive [806]
    refine go_drop ((acc, lstO vs e) :: (Lc, nsO [] 0) :: rest) (by repeat (first | exact List.Sublist.refl _ | apply List.Sublist.cons_cons | apply List.Sublist.cons)) fun n1 T1 hT1 => ?_
    exact h n1 T1 (by run_tac Drv.tom)
  · run_tac Drv.drive [806]
    refine go_drop ((acc, lstO vs e) :: (Lc, nsO [ent X.w.params ⟨#[115, 105, 103, 110]⟩ _ _] 1) :: rest) (by repeat (first | exact List.Sublist.refl _ | apply List.Sublist.cons_cons | apply List.Sublist.cons)) fun n1 T1 hT1 => ?_
    exact h n1 T1 (by run_tac Drv.tom)
noncomputable def brk (c : Nat) : Bool := decide (c = 40 ∨ c = 41)
theorem cl_loop (hx : x.length < 900) : ∀ (rem : List Nat) (i : Nat), x.drop i = rem → ∀ (n T : Nat) (qs : List (List Nat × Nat)) (e : Nat) (ns : Obj), IsNs1 X.w.params ns → qs.length + rem.length < 9000 → i ≤ x.length →
    (∀ n' T' ns' qs' e', T ≤ T' → IsNs1 X.w.params ns' → (qs'.map Prod.fst).flatten = (qs.map Prod.fst).flatten ++ rem.filter brk → qs'.length ≤ qs.length + rem.length → Go X ⟨κ, k (.ok .next), (acc, lstO (vsP qs') e') :: (Lc, ns') :: rest, g, n', 820, T'⟩) →
    Go X ⟨.ret (cl806 L Lc it acc) none k κ, denQ (cl806 L Lc it acc), (it, sitO x tx i) :: (acc, lstO (vsP qs) e) :: (Lc, ns) :: rest, g, n, 820, T⟩ := by
  intro zs
  induction zs with
  | nil =>
    intro i hi n T qs e ns hns hq hil h
    refine cl_end X B hA κ R hκ k L Lc it acc x tx rest g n T i (cp_none hi) _ e ns hns fun n1 T1 hT1 => h n1 T1 ns qs e hT1 hns (by simp) (by simp)
  | cons c rem ih =>
    intro i hi n T qs e ns hns hq hil h
    have hlt := drop_lt hi
    have hr : x.drop (i + 1) = rem := by rw [← List.drop_drop, hi]; rfl
    rw [List.length_cons] at hq
    refine cl_turn X B hA κ R hκ k L Lc it acc x tx rest g n T i (by run_tac Drv.tom) c (cp_get hi) _ (by unfold vsP; simp; (run_tac Drv.lomega)) e ns hns fun n1 T1 ns1 e1 t1 hT1 hns1 => ?_
    by_cases hc : c = 40 ∨ c = 41
    · rw [if_pos hc, show vsP qs ++ [Value.str (sL [c]) t1] = vsP (qs ++ [([c], t1)]) from by simp [vsP]]
      refine ih (i + 1) hr n1 T1 _ e1 ns1 hns1 (by simp; (run_tac Drv.lomega)) (by run_tac Drv.tom) fun n2 T2 ns2 qs2 e2 hT2 hns2 hq2 hl2 => h n2 T2 ns2 qs2 e2 (by run_tac Drv.tom) hns2 ?_ (by simp at hl2 ⊢; (run_tac Drv.lomega))
      rw [hq2, List.filter_cons, if_pos (by simp [brk, hc])]
      simp
    · rw [if_neg hc]
      refine ih (i + 1) hr n1 T1 qs e1 ns1 hns1 (by run_tac Drv.tom) (by run_tac Drv.tom) fun n2 T2 ns2 qs2 e2 hT2 hns2 hq2 hl2 => h n2 T2 ns2 qs2 e2 (by run_tac Drv.tom) hns2 ?_ (by simp; (run_tac Drv.lomega))
      rw [hq2, List.filter_cons, if_neg (by simp [brk, hc])]
end
end
section
open PySem PySem.W PySem.W.X PyProof.Rows
noncomputable def cfB (P : Params) (a : Nat) (s : List Nat) (t0 t1 t2 : Nat) : Obj := ⟨.type "frame", none, .dict #[ent P ⟨#[114, 111, 119]⟩ t0 (.ref a), ent P ⟨#[115, 105, 103, 110, 115]⟩ t1 (.str (sL s) t2)] 2, #[]⟩
noncomputable def cfC (P : Params) (a : Nat) (s : List Nat) (t0 t1 t2 t3 t4 : Nat) (u v : Value) : Obj := ⟨.type "frame", none, .dict #[ent P ⟨#[114, 111, 119]⟩ t0 (.ref a), ent P ⟨#[115, 105, 103, 110, 115]⟩ t1 (.str (sL s) t2), ent P ⟨#[119, 111, 114, 100]⟩ t3 u, ent P ⟨#[112, 108, 97, 105, 110]⟩ t4 v] 4, #[]⟩
noncomputable def IsCf (P : Params) (a : Nat) (s : List Nat) (fr : Obj) : Prop := ∃ t0 t1 t2, fr = cfB P a s t0 t1 t2 ∨ ∃ t3 t4 u v, fr = cfC P a s t0 t1 t2 t3 t4 u v
noncomputable def cloLoop (L it : Addr) : Code := match (bodyOf fd806).drop 1 with
  | Stmt.For tgt _ b e _ :: _ => .forLoop tgt (.ref it) b e (fEnv fd806 806 L)
  | _ => default
/- a word without its escaped signs -/
noncomputable def plainR (x : List Nat) : List Nat := repl [92, 41] [] (repl [92, 40] [] (repl [92, 92] [] x 0) 0) 0
theorem repl_mem (y : List Nat) : ∀ (x : List Nat) (k : Nat) (c : Nat), c ∈ repl y [] x k → c ∈ x
  | [], _, _, h => by simp [repl] at h
  | a :: r, 0, c, h => by
    unfold repl at h
    split at h
    · exact .tail _ (repl_mem y r _ c (by simpa using h))
    · rcases List.mem_cons.mp h with h | h
      · rw [h]; exact .head _
      · exact .tail _ (repl_mem y r _ c h)
  | a :: r, k + 1, c, h => .tail _ (repl_mem y r k c h)
theorem repl_len0 (y : List Nat) : ∀ (x : List Nat) (k : Nat), (repl y [] x k).length ≤ x.length
  | [], _ => by simp [repl]
  | a :: r, 0 => by
    unfold repl
    split
    · have := repl_len0 y r (y.length - 1); simp; (run_tac Drv.lomega)
    · have := repl_len0 y r 0; simp; (run_tac Drv.lomega)
  | a :: r, k + 1 => by have := repl_len0 y r k; unfold repl; simp; (run_tac Drv.lomega)
section
variable (X : Env0) (B : BaseF X.w.params X.h₀) (hA : X.A.handled = none) (κ : Kt) (R : Room X κ 480 1800) (hκ : handledOf none κ = none) (k : Result → Sem Fin) (a L it e : Nat) (ps : List (List Nat × Nat)) (rest : List (Addr × Obj)) (g : Array Value)
include B hA R hκ
theorem clo_turn (n T i : Nat) (s : List Nat) (hs : s.length < 1000) (x : List Nat) (hx : x.length < 90) (hxa : ∀ c ∈ x, c < 128) (tx : Nat) (hg : (Array.mk (vsP ps))[(i : Int).toNat]? = some (.str (sL x) tx)) (fr : Obj) (hfr : IsCf X.w.params a s fr)
    (h : ∀ n' T' fr, T ≤ T' → IsCf X.w.params a (s ++ (plainR x).filter brk) fr → Go X ⟨.ret (cloLoop L it) none k κ, denQ (cloLoop L it), (L, fr) :: (it, itO a (i + 1)) :: (a, lstO (vsP ps) e) :: rest, g, n', 820, T'⟩) :
    Go X ⟨.ret (cloLoop L it) none k κ, denQ (cloLoop L it), (L, fr) :: (it, itO a i) :: (a, lstO (vsP ps) e) :: rest, g, n, 820, T⟩ := by
  obtain ⟨t0, t1, t2, hfr⟩ := hfr
  rcases hfr with rfl | ⟨t3, t4, u, v, rfl⟩
  all_goals
    run_tac Drv.drive [806, 100011]
    refine go_again (by kernel_rfl) ?_
    refine go_drop ((_, _) :: (it, itO a (i + 1)) :: (a, lstO (vsP ps) e) :: rest) (by repeat (first | exact List.Sublist.refl _ | apply List.Sublist.cons_cons | apply List.Sublist.cons)) fun n1 T1 hT1 => ?_
    refine repl_b X B hA _ (by exact R.ret.le rfl rfl) (by exact hκ) _ n1 T1 tx (T + 1) (T + 2) _ g x [92, 92] [] (by simp) (by simp) (by simp) (by run_tac Drv.tom) (by run_tac Drv.tom) (by run_tac Drv.tom) (by run_tac Drv.tom) (by simp) _ (by kernel_rfl) fun n2 T2 t2' hT2 => ?_
    have hl1 := repl_len0 [92, 92] x 0
    have hm1 := repl_mem [92, 92] x 0
    unfold plainR at h
    generalize repl [92, 92] [] x 0 = x1 at *
    run_tac Drv.drive [806, 100011]
    refine go_again (by kernel_rfl) ?_
    refine go_drop _ (List.Sublist.refl _) fun n3 T3 hT3 => ?_
    refine repl_b X B hA _ (by exact R.ret.le rfl rfl) (by exact hκ) _ n3 T3 t2' T2 (T2 + 1) _ g x1 [92, 40] [] (by simp) (by simp) (by simp) (by run_tac Drv.tom) (by run_tac Drv.tom) (by run_tac Drv.tom) (by run_tac Drv.tom) (by simp) _ (by kernel_rfl) fun n4 T4 t4' hT4 => ?_
    have hl2 := repl_len0 [92, 40] x1 0
    have hm2 := repl_mem [92, 40] x1 0
    generalize repl [92, 40] [] x1 0 = x2 at *
    run_tac Drv.drive [806, 100011]
    refine go_again (by kernel_rfl) ?_
    refine go_drop _ (List.Sublist.refl _) fun n5 T5 hT5 => ?_
    refine repl_b X B hA _ (by exact R.ret.le rfl rfl) (by exact hκ) _ n5 T5 t4' T4 (T4 + 1) _ g x2 [92, 41] [] (by simp) (by simp) (by simp) (by run_tac Drv.tom) (by run_tac Drv.tom) (by run_tac Drv.tom) (by run_tac Drv.tom) (by simp) _ (by kernel_rfl) fun n6 T6 t6' hT6 => ?_
    have hl3 := repl_len0 [92, 41] x2 0
    have hm3 := repl_mem [92, 41] x2 0
    generalize repl [92, 41] [] x2 0 = x3 at *
    have hall : ((sL x3).cps.all fun x => decide (x < 128)) = true := asc_all fun c hc => hxa c (hm1 c (hm2 c (hm3 c hc)))
    run_tac Drv.driveN 2 [806, 100011]
    refine' go_cut (p := ∀ n7 T7, T6 ≤ T7 → Go X ⟨_, _, (n6 + 820, sitO x3 t6' (0 : Nat)) :: (n6 + 821, lstO (vsP []) 0) :: (n6 + 822, nsO [] 0) :: (L, _) :: (it, itO a (i + 1)) :: (a, lstO (vsP ps) e) :: rest, g, n7, 820, T7⟩) (fun key => ?_) ?_
    rotate_left 3
    · by_cases hrow : X.w.params.followText "comprehension-iter-twice" = true
      all_goals
        run_tac Drv.driveN 4 [806, 100011]
        rw [hall]
        refine go_enter rfl ?_
        run_tac Drv.drive [806]
        refine go_tree (t' := Sem.pure (Fin.again (cl806 L (n6 + 822) (n6 + 820) (n6 + 821)))) (by kernel_rfl) ?_
        refine go_again (by kernel_rfl) ?_
        refine go_perm ((n6 + 820, sitO x3 t6' (0 : Nat)) :: (n6 + 821, lstO (vsP []) 0) :: (n6 + 822, nsO [] 0) :: (_, _) :: (it, itO a (i + 1)) :: (a, lstO (vsP ps) e) :: rest) (perm_at 2 rfl (perm_at 1 rfl (perm_at 0 rfl (.refl _)))) ?_
        refine go_drop _ (List.Sublist.refl _) fun n7 T7 hT7 => ?_
        exact key n7 T7 (by run_tac Drv.tom)
    · intro n7 T7 hT7
      refine cl_loop X B hA _ (by exact R.ret.le rfl rfl) (by exact hκ) _ L (n6 + 822) (n6 + 820) (n6 + 821) x3 t6' _ g (by run_tac Drv.tom) x3 0 rfl n7 T7 [] 0 _ (.inl rfl) (by simp; (run_tac Drv.lomega)) (by run_tac Drv.tom) fun n8 T8 ns8 qs8 e8 hT8 hns8 hq8 hl8 => ?_
      have hfl : ((qs8.map Prod.fst).flatten).length < 200 := by
        rw [hq8]
        have := List.length_filter_le brk x3
        simp; (run_tac Drv.lomega)
      refine' go_cut (p := ∀ n9 T9, T8 ≤ T9 → Go X ⟨_, _, (n6 + 821, lstO (vsP qs8) e8) :: (L, _) :: (it, itO a (i + 1)) :: (a, lstO (vsP ps) e) :: rest, g, n9, 820, T9⟩) (fun key => ?_) ?_
      rotate_left 3
      · rcases hns8 with rfl | ⟨tn, vn, rfl⟩
        all_goals
          run_tac Drv.drive [806, 100008]
          refine go_again (by kernel_rfl) ?_
          refine go_perm ((n6 + 821, lstO (vsP qs8) e8) :: (_, _) :: (_, _) :: (it, itO a (i + 1)) :: (a, lstO (vsP ps) e) :: rest) (perm_at 0 rfl (.refl _)) ?_
          refine go_drop ((n6 + 821, lstO (vsP qs8) e8) :: (L, _) :: (it, itO a (i + 1)) :: (a, lstO (vsP ps) e) :: rest) (by repeat (first | exact List.Sublist.refl _ | apply List.Sublist.cons_cons | apply List.Sublist.cons)) fun n9 T9 hT9 => ?_
          exact key n9 T9 (by run_tac Drv.tom)
      · intro n9 T9 hT9
        refine join_b X B hA _ (by exact R.ret.le rfl rfl) (by exact hκ) _ n9 T9 (n6 + 821) (T6 + 1) _ [] _ _ (by kernel_rfl) _ g ?_ ?_ fun n10 T10 t10 hT10 => ?_
        · exact flat_ok _ (by run_tac Drv.tom)
        · rw [jg_flat]; (run_tac Drv.lomega)
        · rw [jg_flat, hq8]
          simp only [List.map_nil, List.flatten_nil, List.nil_append] at hq8 ⊢
          rw [hq8] at hfl
          generalize x3.filter brk = fs at *
          run_tac Drv.drive [806, 100011]
          refine go_again (by kernel_rfl) ?_
          refine go_drop _ (List.Sublist.refl _) fun n12 T12 hT12 => ?_
          refine add_b X B hA _ (by exact R.ret.le rfl rfl) (by exact hκ) _ n12 T12 t2 t10 _ g s fs (by run_tac Drv.tom) (by run_tac Drv.tom) _ (by kernel_rfl) fun n13 T13 t13 hT13 => ?_
          run_tac Drv.drive [806]
          refine go_again (by kernel_rfl) ?_
          refine go_drop ((L, cfC X.w.params a (s ++ fs) ..) :: (it, itO a (i + 1)) :: (a, lstO (vsP ps) e) :: rest) (by repeat (first | exact List.Sublist.refl _ | apply List.Sublist.cons_cons | apply List.Sublist.cons)) fun n11 T11 hT11 => ?_
          exact h n11 T11 _ (by run_tac Drv.tom) ⟨_, _, _, .inr ⟨_, _, _, _, rfl⟩⟩
end
end
section
open PySem PySem.W PySem.W.X PyProof.Rows
open PySem.Builtin.Str PySem.StrLaws
theorem occ1 (x y : List Nat) (hy : y ≠ []) : occurrences (sL x) (sL y) 0 (sL x).length 1 = [] ↔ scan y x 0 0 = [] := by
  rw [← occ_is x y hy]
  rcases occ_head (sL x) (sL y) 1 (Nat.le_refl _) with ⟨h1, n1⟩ | ⟨i, r, h1, a1, _⟩ <;> rcases occ_head (sL x) (sL y) ((sL x).length + 1) (by run_tac Drv.tom) with ⟨h2, n2⟩ | ⟨j, q, h2, a2, _⟩
  · exact ⟨fun _ => h2, fun _ => h1⟩
  · exact absurd a2 (n1 j)
  · exact absurd a1 (n2 i)
  · rw [h1, h2]; simp
theorem tin_s (x y : List Nat) (hy : y ≠ []) (h : scan y x 0 0 = []) : Fast.tw15715988071286343644 (sL x) (sL y) 0 (sL x).length 1 = [] := by
  rw [← Fast.te15715988071286343644]
  exact (occ1 x y hy).mpr h
theorem tin_i (x y : List Nat) (hy : y ≠ []) (h : scan y x 0 0 ≠ []) : ∃ i r, Fast.tw15715988071286343644 (sL x) (sL y) 0 (sL x).length 1 = i :: r := by
  rw [← Fast.te15715988071286343644]
  cases hc : occurrences (sL x) (sL y) 0 (sL x).length 1 with
  | nil => exact absurd ((occ1 x y hy).mp hc) h
  | cons i r => exact ⟨i, r, rfl⟩
theorem repl_less (y : List Nat) : ∀ (x : List Nat) (i : Nat), scan y x i 0 ≠ [] → (repl y [] x 0).length < x.length
  | [], i, h => by simp [scan] at h
  | c :: r, i, h => by
    unfold scan at h
    unfold repl
    by_cases hp : y.isPrefixOf (c :: r) = true
    · rw [if_pos hp]
      have := repl_len0 y r (y.length - 1)
      simp; (run_tac Drv.lomega)
    · rw [if_neg hp] at h ⊢
      have := repl_less y r (i + 1) h
      simp; (run_tac Drv.lomega)
noncomputable def red : Nat → List Nat → List Nat
  | 0, s => s
  | f + 1, s => if scan [40, 41] s 0 0 = [] then s else red f (repl [40, 41] [] s 0)
noncomputable def signs (ws : List (List Nat)) : List Nat := (ws.map fun w => (plainR w).filter brk).flatten
/- the brackets of a row close each other -/
noncomputable def closedR (ws : List (List Nat)) : Bool := decide (red 1000 (signs ws) = [])
noncomputable def cwLoop (L : Addr) : Code := match (bodyOf fd806).drop 2 with
  | Stmt.While t b e _ :: _ => .whileLoop t b e (fEnv fd806 806 L)
  | _ => default
section
variable (X : Env0) (B : BaseF X.w.params X.h₀) (hA : X.A.handled = none) (κ : Kt) (R : Room X κ 480 1800) (hκ : handledOf none κ = none) (k : Result → Sem Fin) (a L e : Nat) (ps : List (List Nat × Nat)) (rest : List (Addr × Obj)) (g : Array Value)
include B hA R hκ
theorem cw_loop : ∀ (f n T : Nat) (s : List Nat) (fr : Obj), s.length < f → f ≤ 1000 → s.length < 90 → IsCf X.w.params a s fr →
    (∀ n' T' fr, T ≤ T' → IsCf X.w.params a (red f s) fr → Go X ⟨κ, k (.ok .next), (L, fr) :: rest, g, n', 820, T'⟩) →
    Go X ⟨.ret (cwLoop L) none k κ, denQ (cwLoop L), (L, fr) :: rest, g, n, 820, T⟩ := by
  intro zs
  induction zs with
  | zero =>
    intro n T s fr hf hf2 hs hfr h
    exact absurd hf (Nat.not_lt_zero _)
  | succ f ih =>
    intro n T s fr hf hf2 hs hfr h
    obtain ⟨t0, t1, t2, hfr⟩ := hfr
    unfold red at h
    by_cases hsc : scan [40, 41] s 0 0 = []
    · rw [if_pos hsc] at h
      have ho := tin_s s [40, 41] (by simp) hsc
      rcases hfr with rfl | ⟨t3, t4, u, v, rfl⟩
      · run_tac Drv.drive [806]
        refine go_drop ((L, cfB X.w.params a s ..) :: rest) (by repeat (first | exact List.Sublist.refl _ | apply List.Sublist.cons_cons | apply List.Sublist.cons)) fun n1 T1 hT1 => ?_
        exact h n1 T1 _ (by run_tac Drv.tom) ⟨_, _, _, .inl rfl⟩
      · run_tac Drv.drive [806]
        refine go_drop ((L, cfC X.w.params a s ..) :: rest) (by repeat (first | exact List.Sublist.refl _ | apply List.Sublist.cons_cons | apply List.Sublist.cons)) fun n1 T1 hT1 => ?_
        exact h n1 T1 _ (by run_tac Drv.tom) ⟨_, _, _, .inr ⟨_, _, _, _, rfl⟩⟩
    · rw [if_neg hsc] at h
      obtain ⟨i0, r0, ho⟩ := tin_i s [40, 41] (by simp) hsc
      have hlt := repl_less [40, 41] s 0 hsc
      rcases hfr with rfl | ⟨t3, t4, u, v, rfl⟩
      · run_tac Drv.drive [806, 100011]
        refine go_again (by kernel_rfl) ?_
        refine go_drop _ (List.Sublist.refl _) fun n1 T1 hT1 => ?_
        refine repl_b X B hA _ (by exact R.ret.le rfl rfl) (by exact hκ) _ n1 T1 t2 (T + 1) (T + 2) _ g s [40, 41] [] (by simp) (by simp) (by simp) (by run_tac Drv.tom) (by run_tac Drv.tom) (by run_tac Drv.tom) (by run_tac Drv.tom) (by simp) _ (by kernel_rfl) fun n2 T2 t2' hT2 => ?_
        generalize repl [40, 41] [] s 0 = s' at *
        run_tac Drv.drive [806]
        refine go_again (by kernel_rfl) ?_
        refine go_drop ((L, cfB X.w.params a s' ..) :: rest) (by repeat (first | exact List.Sublist.refl _ | apply List.Sublist.cons_cons | apply List.Sublist.cons)) fun n3 T3 hT3 => ?_
        exact ih n3 T3 s' _ (by run_tac Drv.tom) (by run_tac Drv.tom) (by run_tac Drv.tom) ⟨_, _, _, .inl rfl⟩ fun n4 T4 fr4 hT4 hfr4 => h n4 T4 fr4 (by run_tac Drv.tom) hfr4
      · run_tac Drv.drive [806, 100011]
        refine go_again (by kernel_rfl) ?_
        refine go_drop _ (List.Sublist.refl _) fun n1 T1 hT1 => ?_
        refine repl_b X B hA _ (by exact R.ret.le rfl rfl) (by exact hκ) _ n1 T1 t2 (T + 1) (T + 2) _ g s [40, 41] [] (by simp) (by simp) (by simp) (by run_tac Drv.tom) (by run_tac Drv.tom) (by run_tac Drv.tom) (by run_tac Drv.tom) (by simp) _ (by kernel_rfl) fun n2 T2 t2' hT2 => ?_
        generalize repl [40, 41] [] s 0 = s' at *
        run_tac Drv.drive [806]
        refine go_again (by kernel_rfl) ?_
        refine go_drop ((L, cfC X.w.params a s' ..) :: rest) (by repeat (first | exact List.Sublist.refl _ | apply List.Sublist.cons_cons | apply List.Sublist.cons)) fun n3 T3 hT3 => ?_
        exact ih n3 T3 s' _ (by run_tac Drv.tom) (by run_tac Drv.tom) (by run_tac Drv.tom) ⟨_, _, _, .inr ⟨_, _, _, _, rfl⟩⟩ fun n4 T4 fr4 hT4 hfr4 => h n4 T4 fr4 (by run_tac Drv.tom) hfr4
theorem clo_end (n T i : Nat) (s : List Nat) (hg : (Array.mk (vsP ps))[(i : Int).toNat]? = none) (fr : Obj) (hfr : IsCf X.w.params a s fr)
    (h : ∀ n' T', T ≤ T' → Go X ⟨κ, k (.ok .next), (L, fr) :: (a, lstO (vsP ps) e) :: rest, g, n', 820, T'⟩) (it : Nat) :
    Go X ⟨.ret (cloLoop L it) none k κ, denQ (cloLoop L it), (L, fr) :: (it, itO a i) :: (a, lstO (vsP ps) e) :: rest, g, n, 820, T⟩ := by
  obtain ⟨t0, t1, t2, hfr⟩ := hfr
  rcases hfr with rfl | ⟨t3, t4, u, v, rfl⟩
  · run_tac Drv.drive [806]
    refine go_drop ((L, cfB X.w.params a s ..) :: (a, lstO (vsP ps) e) :: rest) (by repeat (first | exact List.Sublist.refl _ | apply List.Sublist.cons_cons | apply List.Sublist.cons)) fun n1 T1 hT1 => ?_
    exact h n1 T1 (by run_tac Drv.tom)
  · run_tac Drv.drive [806]
    refine go_drop ((L, cfC X.w.params a s ..) :: (a, lstO (vsP ps) e) :: rest) (by repeat (first | exact List.Sublist.refl _ | apply List.Sublist.cons_cons | apply List.Sublist.cons)) fun n1 T1 hT1 => ?_
    exact h n1 T1 (by run_tac Drv.tom)
theorem clo_loop (it : Nat) (hps : ∀ p ∈ ps, p.1.length < 5 ∧ ∀ c ∈ p.1, c < 128) : ∀ (rem : List (List Nat × Nat)) (i : Nat), ps.drop i = rem → ∀ (n T : Nat) (s : List Nat) (fr : Obj), IsCf X.w.params a s fr → s.length + 4 * rem.length < 90 →
    (∀ n' T' fr, T ≤ T' → IsCf X.w.params a (s ++ signs (rem.map Prod.fst)) fr → Go X ⟨κ, k (.ok .next), (L, fr) :: (a, lstO (vsP ps) e) :: rest, g, n', 820, T'⟩) →
    Go X ⟨.ret (cloLoop L it) none k κ, denQ (cloLoop L it), (L, fr) :: (it, itO a i) :: (a, lstO (vsP ps) e) :: rest, g, n, 820, T⟩ := by
  intro zs
  induction zs with
  | nil =>
    intro i hi n T s fr hfr hs h
    refine clo_end X B hA κ R hκ k a L e ps rest g n T i s (vs_none hi) fr hfr (fun n1 T1 hT1 => h n1 T1 fr hT1 (by simpa [signs] using hfr)) it
  | cons p rem ih =>
    intro i hi n T s fr hfr hs h
    have hp : p ∈ ps := List.mem_of_mem_drop (by rw [hi]; exact .head _)
    obtain ⟨hp1, hp2⟩ := hps p hp
    rw [List.length_cons] at hs
    have hr : ps.drop (i + 1) = rem := by rw [← List.drop_drop, hi]; rfl
    refine clo_turn X B hA κ R hκ k a L it e ps rest g n T i s (by run_tac Drv.tom) p.1 (by run_tac Drv.tom) hp2 p.2 (vs_get hi) fr hfr fun n1 T1 fr1 hT1 hfr1 => ?_
    have hl : ((plainR p.1).filter brk).length ≤ 4 := by
      have h1 := List.length_filter_le brk (plainR p.1)
      have h2 := repl_len0 [92, 41] (repl [92, 40] [] (repl [92, 92] [] p.1 0) 0) 0
      have h3 := repl_len0 [92, 40] (repl [92, 92] [] p.1 0) 0
      have h4 := repl_len0 [92, 92] p.1 0
      unfold plainR at h1 ⊢
      (run_tac Drv.lomega)
    refine ih (i + 1) hr n1 T1 _ fr1 hfr1 (by rw [List.length_append]; (run_tac Drv.lomega)) fun n2 T2 fr2 hT2 hfr2 => h n2 T2 fr2 (by run_tac Drv.tom) ?_
    rw [List.append_assoc] at hfr2
    simpa [signs] using hfr2
end
theorem red_len : ∀ (f : Nat) (s : List Nat), (red f s).length ≤ s.length
  | 0, s => Nat.le_refl _
  | f + 1, s => by
    unfold red
    split
    · exact Nat.le_refl _
    · exact Nat.le_trans (red_len f _) (repl_len0 _ _ _)
section
variable (X : Env0) (B : BaseF X.w.params X.h₀) (hA : X.A.handled = none) (κ : Kt) (R : Room X κ 470 1700) (hκ : handledOf none κ = none) (k : Result → Sem Fin) (gd : Bool) (lv : List Value) (n T a e : Nat) (ps : List (List Nat × Nat)) (rest : List (Addr × Obj)) (g : Array Value)
include B hA R hκ
theorem closed_s (hps : ∀ p ∈ ps, p.1.length < 5 ∧ ∀ c ∈ p.1, c < 128) (hpl : ps.length ≤ 10)
    (h : ∀ n' T', T ≤ T' → Go X ⟨κ, k (.ok (.ret (.bool (closedR (ps.map Prod.fst))))), (a, lstO (vsP ps) e) :: rest, g, n', 820, T'⟩) :
    Go X ⟨κ, .call (.call (.ref 806) ⟨[.ref a], []⟩) none gd lv k, (a, lstO (vsP ps) e) :: rest, g, n, 820, T⟩ := by
  have hsl : (signs (ps.map Prod.fst)).length ≤ 4 * ps.length := by
    clear h hpl
    induction ps with
    | nil => simp [signs]
    | cons p ps ih =>
      have ih := ih fun q hq => hps q (.tail _ hq)
      have hp1 := (hps p (.head _)).1
      have h1 := List.length_filter_le brk (plainR p.1)
      have h2 := repl_len0 [92, 41] (repl [92, 40] [] (repl [92, 92] [] p.1 0) 0) 0
      have h3 := repl_len0 [92, 40] (repl [92, 92] [] p.1 0) 0
      have h4 := repl_len0 [92, 92] p.1 0
      unfold plainR at h1
      simp only [signs, List.map_cons, List.flatten_cons, List.length_append, List.length_cons, plainR] at ih ⊢
      (run_tac Drv.lomega)
  refine go_enter rfl ?_
  run_tac Drv.drive [806]
  refine go_enter rfl ?_
  refine go_perm ((n + 820, cfB X.w.params a [] ..) :: (n + 821, itO a (0 : Nat)) :: (a, lstO (vsP ps) e) :: rest) (perm_at 1 rfl (.refl _)) ?_
  refine go_drop _ (List.Sublist.refl _) fun n1 T1 hT1 => ?_
  refine clo_loop X B hA _ (by exact R.ret.le rfl rfl) (by exact hκ) _ a (n + 820) e ps rest g (n + 821) hps ps 0 rfl n1 T1 [] _ ⟨_, _, _, .inl rfl⟩ (by simp; (run_tac Drv.lomega)) fun n2 T2 fr2 hT2 hfr2 => ?_
  rw [List.nil_append] at hfr2
  unfold closedR at h
  generalize signs (ps.map Prod.fst) = s at *
  obtain ⟨t0, t1, t2, hfr2'⟩ := id hfr2
  have hrl := red_len 1000 s
  rcases hfr2' with rfl | ⟨t3, t4, u, v, rfl⟩
  all_goals
    run_tac Drv.drive [806]
    refine go_enter rfl ?_
    refine go_drop _ (List.Sublist.refl _) fun n3 T3 hT3 => ?_
    refine cw_loop X B hA _ (by exact R.ret.le rfl rfl) (by exact hκ) _ a (n + 820) _ g 1000 n3 T3 s _ (by run_tac Drv.tom) (Nat.le_refl _) (by run_tac Drv.tom) hfr2 fun n4 T4 fr4 hT4 hfr4 => ?_
    obtain ⟨t0', t1', t2', hfr4⟩ := hfr4
    generalize red 1000 s = q at *
    cases q with
    | nil =>
      rcases hfr4 with rfl | ⟨t3', t4', u', v', rfl⟩
      all_goals
        run_tac Drv.drive [806]
        refine go_drop ((a, lstO (vsP ps) e) :: rest) (by repeat (first | exact List.Sublist.refl _ | apply List.Sublist.cons_cons | apply List.Sublist.cons)) fun n5 T5 hT5 => ?_
        exact h n5 T5 (by run_tac Drv.tom)
    | cons c q =>
      rcases hfr4 with rfl | ⟨t3', t4', u', v', rfl⟩
      all_goals
        run_tac Drv.drive [806]
        refine go_drop ((a, lstO (vsP ps) e) :: rest) (by repeat (first | exact List.Sublist.refl _ | apply List.Sublist.cons_cons | apply List.Sublist.cons)) fun n5 T5 hT5 => ?_
        exact h n5 T5 (by run_tac Drv.tom)
end
end
section
open PySem PySem.W PySem.W.X PyProof.Rows
noncomputable def bfB (P : Params) (a b c t0 t1 t2 : Nat) : Obj := ⟨.type "frame", none, .dict #[ent P ⟨#[119, 111, 114, 100, 115]⟩ t0 (.ref a), ent P ⟨#[111, 116, 104, 101, 114, 115]⟩ t1 (.ref b), ent P ⟨#[98, 101, 121, 111, 110, 100]⟩ t2 (.ref c)] 3, #[]⟩
noncomputable def bfC (P : Params) (a b c t0 t1 t2 t3 : Nat) (v : Value) : Obj := ⟨.type "frame", none, .dict #[ent P ⟨#[119, 111, 114, 100, 115]⟩ t0 (.ref a), ent P ⟨#[111, 116, 104, 101, 114, 115]⟩ t1 (.ref b), ent P ⟨#[98, 101, 121, 111, 110, 100]⟩ t2 (.ref c), ent P ⟨#[107]⟩ t3 v] 4, #[]⟩
noncomputable def IsBf (P : Params) (a b c : Nat) (fr : Obj) : Prop := ∃ t0 t1 t2, fr = bfB P a b c t0 t1 t2 ∨ ∃ t3 v, fr = bfC P a b c t0 t1 t2 t3 v
noncomputable def rngO (i z : Int) : Obj := ⟨.type "range_iterator", none, .fields #[.int i 0, .int z 0, .int 1 0], #[]⟩
noncomputable def beyLoop (L it : Addr) : Code := match (bodyOf fd813).drop 1 with
  | Stmt.For tgt _ b e _ :: _ => .forLoop tgt (.ref it) b e (fEnv fd813 813 L)
  | _ => default
theorem nne {y x : List Nat} (h : y ≠ x) : (fun x1 x2 => @bne (List Nat) (@List.instBEq Nat (@instBEqOfDecidableEq Nat instDecidableEqNat)) x1 x2) (@Array.toList Nat (sL y).cps) (@Array.toList Nat (sL x).cps) = true := by
  show (!(y == x)) = true
  rw [beq_false_of_ne h]; rfl
theorem neq (x : List Nat) : (fun x1 x2 => @bne (List Nat) (@List.instBEq Nat (@instBEqOfDecidableEq Nat instDecidableEqNat)) x1 x2) (@Array.toList Nat (sL x).cps) (@Array.toList Nat (sL x).cps) = false := by
  show (!(x == x)) = false
  rw [beq_self_eq_true]; rfl
theorem seq_last {l : List Value} {v : Value} (h : l.getLast? = some v) : ∃ m, seqIndex? (-1) (Array.mk l).size = some m ∧ (Array.mk l)[m]? = some v := by
  have hl : l ≠ [] := by intro z; rw [z] at h; cases h
  have h1 : 1 ≤ l.length := by cases l with | nil => exact absurd rfl hl | cons a l => simp
  refine ⟨l.length - 1, ?_, ?_⟩
  · unfold seqIndex?
    show (if (0 ≤ (if (-1 : Int) < 0 then -1 + ((l.length : Nat) : Int) else -1) && (if (-1 : Int) < 0 then -1 + ((l.length : Nat) : Int) else -1) < ((l.length : Nat) : Int)) = true then some (if (-1 : Int) < 0 then -1 + ((l.length : Nat) : Int) else -1).toNat else none) = _
    rw [if_pos (show (-1 : Int) < 0 by decide), if_pos (by simp; (run_tac Drv.lomega))]
    congr 1
    (run_tac Drv.lomega)
  · rw [List.getLast?_eq_getElem?] at h
    show l.toArray[l.length - 1]? = _
    rw [List.getElem?_toArray]
    exact h
section
variable (X : Env0) (B : BaseF X.w.params X.h₀) (hA : X.A.handled = none) (κ : Kt) (R : Room X κ 500 2000) (hκ : handledOf none κ = none) (k : Result → Sem Fin) (a b c L it e1 e2 : Nat) (ps qs : List (List Nat × Nat)) (rest : List (Addr × Obj)) (g : Array Value)
include B hA R hκ
theorem bey_turn (n T : Nat) (i : Int) (m : Nat) (him : i = Int.ofNat m) (hi : i < 1000) (z : Int) (hz1 : 0 < z) (hz2 : z < 1000) (fr : Obj) (hfr : IsBf X.w.params a b c fr) (x : List Nat) (tx : Nat) (hg : (Array.mk (vsP ps))[m]? = some (.str (sL x) tx)) (hps : (vsP ps).length < 1000) (hqs : (vsP qs).length < 1000) (e : Nat) (vs : List Value) (hvs : vs.length < 1000)
    (y : List Nat) (ty : Nat) (hy : i ≠ 0 → (Array.mk (vsP ps))[(i - 1).toNat]? = some (.str (sL y) ty)) (u : List Nat) (tu : Nat) (hu : i ≠ 0 → x ∉ qs.map Prod.fst → (vsP qs).getLast? = some (.str (sL u) tu))
    (h : ∀ n' T' e' fr, T ≤ T' → IsBf X.w.params a b c fr → Go X ⟨.ret (beyLoop L it) none k κ, denQ (beyLoop L it), (L, fr) :: (it, rngO (i + 1) (z - 1)) :: (c, lstO (if x ∉ qs.map Prod.fst ∧ (i = 0 ∨ y ≠ x ∨ u < x) then vs ++ [.str (sL x) tx] else vs) e') :: (a, lstO (vsP ps) e1) :: (b, lstO (vsP qs) e2) :: rest, g, n', 820, T'⟩) :
    Go X ⟨.ret (beyLoop L it) none k κ, denQ (beyLoop L it), (L, fr) :: (it, rngO i z) :: (c, lstO vs e) :: (a, lstO (vsP ps) e1) :: (b, lstO (vsP qs) e2) :: rest, g, n, 820, T⟩ := by
  obtain ⟨t0, t1, t2, hfr⟩ := hfr
  have hi0 : 0 ≤ i := by rw [him]; exact Int.natCast_nonneg _
  have key : ∀ fr : Obj, (fr = bfB X.w.params a b c t0 t1 t2 ∨ ∃ t3 v, fr = bfC X.w.params a b c t0 t1 t2 t3 v) → ∀ (n T : Nat), (∀ n' T' e' fr, T ≤ T' → IsBf X.w.params a b c fr → Go X ⟨.ret (beyLoop L it) none k κ, denQ (beyLoop L it), (L, fr) :: (it, rngO (i + 1) (z - 1)) :: (c, lstO (if x ∉ qs.map Prod.fst ∧ (i = 0 ∨ y ≠ x ∨ u < x) then vs ++ [.str (sL x) tx] else vs) e') :: (a, lstO (vsP ps) e1) :: (b, lstO (vsP qs) e2) :: rest, g, n', 820, T'⟩) → Go X ⟨.ret (beyLoop L it) none k κ, denQ (beyLoop L it), (L, fr) :: (it, rngO i z) :: (c, lstO vs e) :: (a, lstO (vsP ps) e1) :: (b, lstO (vsP qs) e2) :: rest, g, n, 820, T⟩ := by
    clear h n T hfr
    intro fr hfr n T h
    refine' go_cut (p := ∀ n1 T1 (q3 q4 : Nat), T ≤ T1 → Go X ⟨_, _, (b, lstO (vsP qs) e2) :: (L, bfC X.w.params a b c t0 t1 t2 q3 (.int i q4)) :: (it, rngO (i + 1) (z - 1)) :: (c, lstO vs e) :: (a, lstO (vsP ps) e1) :: rest, g, n1, 820, T1⟩) (fun key => ?_) ?_
    rotate_left 2
    · rcases hfr with rfl | ⟨t3, v, rfl⟩
      all_goals
        run_tac Drv.drive [813, 100022]
        refine go_again (by kernel_rfl) ?_
        refine go_perm ((b, lstO (vsP qs) e2) :: (L, bfC X.w.params a b c t0 t1 t2 ..) :: (it, rngO (i + 1) (z - 1)) :: (c, lstO vs e) :: (a, lstO (vsP ps) e1) :: rest) (perm_at 4 rfl (.refl _)) ?_
        refine go_drop _ (List.Sublist.refl _) fun n1 T1 hT1 => ?_
        exact key n1 T1 _ _ (by run_tac Drv.tom)
    · intro n1 T1 q3 q4 hT1
      refine lc_all X B hA _ (by exact R.ret.le rfl rfl) (by exact hκ) _ b e2 tx x qs _ g (fun i => .builtin "list.__contains__.loop" ⟨[.ref b, .str (sL x) tx, .int i 0], []⟩) (fun _ => rfl) qs 0 rfl n1 T1 fun n2 T2 hT2 => ?_
      by_cases hxq : x ∈ qs.map Prod.fst
      · rw [decide_eq_true hxq]
        rw [if_neg (fun z => z.1 hxq)] at h
        run_tac Drv.drive [813]
        refine go_again (by kernel_rfl) ?_
        refine go_perm ((L, bfC X.w.params a b c t0 t1 t2 ..) :: (it, rngO (i + 1) (z - 1)) :: (c, lstO vs e) :: (a, lstO (vsP ps) e1) :: (b, lstO (vsP qs) e2) :: rest) (perm_at 1 rfl (perm_at 1 rfl (perm_at 1 rfl (perm_at 1 rfl (perm_at 0 rfl (.refl _)))))) ?_
        refine go_drop _ (List.Sublist.refl _) fun n3 T3 hT3 => h n3 T3 _ _ (by run_tac Drv.tom) ⟨_, _, _, .inr ⟨_, _, rfl⟩⟩
      · rw [decide_eq_false hxq]
        by_cases hi00 : i = 0
        · rw [if_pos ⟨hxq, .inl hi00⟩] at h
          run_tac Drv.drive [813]
          refine go_again (by kernel_rfl) ?_
          rw [appR]
          refine go_perm ((L, bfC X.w.params a b c t0 t1 t2 ..) :: (it, rngO (i + 1) (z - 1)) :: (c, lstO (vs ++ [.str (sL x) tx]) _) :: (a, lstO (vsP ps) e1) :: (b, lstO (vsP qs) e2) :: rest) (perm_at 1 rfl (perm_at 1 rfl (perm_at 1 rfl (perm_at 1 rfl (perm_at 0 rfl (.refl _)))))) ?_
          refine go_drop _ (List.Sublist.refl _) fun n3 T3 hT3 => ?_
          exact h n3 T3 _ _ (by run_tac Drv.tom) ⟨_, _, _, .inr ⟨_, _, rfl⟩⟩
        · have hy := hy hi00
          have hu2 := hu hi00 hxq
          obtain ⟨j, hij⟩ : ∃ j : Int, i - 1 = j := ⟨_, rfl⟩
          obtain ⟨m', hjm⟩ : ∃ m' : Nat, j = Int.ofNat m' := ⟨j.toNat, (Int.toNat_of_nonneg (by run_tac Drv.tom)).symm⟩
          have hj0 : 0 ≤ j := by run_tac Drv.tom
          have hj1 : j < 1000 := by run_tac Drv.tom
          rw [hij, show j.toNat = m' from by rw [hjm]; rfl] at hy
          run_tac Drv.drive [813, 100016]
          rw [hij]
          clear hij
          run_tac Drv.driveN 3 [813]
          by_cases hyx : y = x
          · subst hyx
            run_tac Drv.drive [813]
            have htold := (neq y)
            run_tac Drv.toldN `htold
            clear htold
            run_tac Drv.drive [813]
            obtain ⟨mu, hmu, hgu⟩ := seq_last hu2
            run_tac Drv.toldN `hmu
            by_cases huy : u < y
            · have hlt : (sL u).cps.toList < (sL y).cps.toList := huy
              rw [if_pos ⟨hxq, .inr (.inr huy)⟩] at h
              run_tac Drv.drive [813]
              refine go_again (by kernel_rfl) ?_
              rw [appR]
              refine go_perm ((L, bfC X.w.params a b c t0 t1 t2 ..) :: (it, rngO (i + 1) (z - 1)) :: (c, lstO (vs ++ [.str (sL y) tx]) _) :: (a, lstO (vsP ps) e1) :: (b, lstO (vsP qs) e2) :: rest) (perm_at 1 rfl (perm_at 1 rfl (perm_at 1 rfl (perm_at 1 rfl (perm_at 0 rfl (.refl _)))))) ?_
              refine go_drop _ (List.Sublist.refl _) fun n3 T3 hT3 => ?_
              exact h n3 T3 _ _ (by run_tac Drv.tom) ⟨_, _, _, .inr ⟨_, _, rfl⟩⟩
            · have hlt : ¬ (sL u).cps.toList < (sL y).cps.toList := huy
              rw [if_neg (fun z => by rcases z.2 with z | z | z <;> first | exact hi00 z | exact z rfl | exact huy z)] at h
              run_tac Drv.drive [813]
              refine go_again (by kernel_rfl) ?_
              refine go_perm ((L, bfC X.w.params a b c t0 t1 t2 ..) :: (it, rngO (i + 1) (z - 1)) :: (c, lstO vs e) :: (a, lstO (vsP ps) e1) :: (b, lstO (vsP qs) e2) :: rest) (perm_at 1 rfl (perm_at 1 rfl (perm_at 1 rfl (perm_at 1 rfl (perm_at 0 rfl (.refl _)))))) ?_
              refine go_drop _ (List.Sublist.refl _) fun n3 T3 hT3 => ?_
              exact h n3 T3 _ _ (by run_tac Drv.tom) ⟨_, _, _, .inr ⟨_, _, rfl⟩⟩
          · rw [if_pos ⟨hxq, .inr (.inl hyx)⟩] at h
            run_tac Drv.drive [813]
            have htold := (nne hyx)
            run_tac Drv.toldN `htold
            clear htold
            run_tac Drv.drive [813]
            refine go_again (by kernel_rfl) ?_
            rw [appR]
            refine go_perm ((L, bfC X.w.params a b c t0 t1 t2 ..) :: (it, rngO (i + 1) (z - 1)) :: (c, lstO (vs ++ [.str (sL x) tx]) _) :: (a, lstO (vsP ps) e1) :: (b, lstO (vsP qs) e2) :: rest) (perm_at 1 rfl (perm_at 1 rfl (perm_at 1 rfl (perm_at 1 rfl (perm_at 0 rfl (.refl _)))))) ?_
            refine go_drop _ (List.Sublist.refl _) fun n3 T3 hT3 => ?_
            exact h n3 T3 _ _ (by run_tac Drv.tom) ⟨_, _, _, .inr ⟨_, _, rfl⟩⟩
  exact key fr hfr n T h
theorem bey_end (n T : Nat) (i : Int) (fr : Obj) (hfr : IsBf X.w.params a b c fr) (e : Nat) (vs : List Value)
    (h : ∀ n' T', T ≤ T' → Go X ⟨κ, k (.ok .next), (L, fr) :: (c, lstO vs e) :: (a, lstO (vsP ps) e1) :: (b, lstO (vsP qs) e2) :: rest, g, n', 820, T'⟩) :
    Go X ⟨.ret (beyLoop L it) none k κ, denQ (beyLoop L it), (L, fr) :: (it, rngO i 0) :: (c, lstO vs e) :: (a, lstO (vsP ps) e1) :: (b, lstO (vsP qs) e2) :: rest, g, n, 820, T⟩ := by
  obtain ⟨t0, t1, t2, hfr⟩ := hfr
  rcases hfr with rfl | ⟨t3, v, rfl⟩
  · run_tac Drv.drive [813]
    refine go_drop ((L, bfB X.w.params a b c ..) :: (c, lstO vs e) :: (a, lstO (vsP ps) e1) :: (b, lstO (vsP qs) e2) :: rest) (by repeat (first | exact List.Sublist.refl _ | apply List.Sublist.cons_cons | apply List.Sublist.cons)) fun n3 T3 hT3 => ?_
    exact h n3 T3 (by run_tac Drv.tom)
  · run_tac Drv.drive [813]
    refine go_drop ((L, bfC X.w.params a b c ..) :: (c, lstO vs e) :: (a, lstO (vsP ps) e1) :: (b, lstO (vsP qs) e2) :: rest) (by repeat (first | exact List.Sublist.refl _ | apply List.Sublist.cons_cons | apply List.Sublist.cons)) fun n3 T3 hT3 => ?_
    exact h n3 T3 (by run_tac Drv.tom)
end
end
section
open PySem PySem.W PySem.W.X PyProof.Rows
theorem vs_getA {ps : List (List Nat × Nat)} {i : Nat} {p : List Nat × Nat} {r : List (List Nat × Nat)} (h : ps.drop i = p :: r) : (Array.mk (vsP ps))[i]? = some (.str (sL p.1) p.2) := vs_get h
/- what _law_beyond finds: the words not among the others; of equal ones one, but all above the others' last -/
noncomputable def beyR (os : List (List Nat)) (last : List Nat) : Option (List Nat) → List (List Nat) → List (List Nat)
  | _, [] => []
  | p, x :: r => if x ∉ os ∧ (p = none ∨ p ≠ some x ∨ last < x) then x :: beyR os last (some x) r else beyR os last (some x) r
noncomputable def bey (ws os : List (List Nat)) : List (List Nat) := beyR os (os.getLast?.getD []) none ws
section
variable (X : Env0) (B : BaseF X.w.params X.h₀) (hA : X.A.handled = none) (κ : Kt) (R : Room X κ 500 2000) (hκ : handledOf none κ = none) (k : Result → Sem Fin) (a b c L it e1 e2 : Nat) (ps qs : List (List Nat × Nat)) (rest : List (Addr × Obj)) (g : Array Value)
include B hA R hκ
theorem bey_loop (hps : ps.length < 900) (hqs : qs.length < 900) (hne : ps ≠ [] → qs ≠ []) : ∀ (rem : List (List Nat × Nat)) (i : Nat), ps.drop i = rem → ∀ (n T : Nat) (fr : Obj) (os : List (List Nat × Nat)) (e : Nat), IsBf X.w.params a b c fr → os.length ≤ i →
    (∀ n' T' fr os' e', T ≤ T' → IsBf X.w.params a b c fr → os'.map Prod.fst = os.map Prod.fst ++ beyR (qs.map Prod.fst) ((qs.map Prod.fst).getLast?.getD []) (if i = 0 then none else (ps[i - 1]?.map Prod.fst)) (rem.map Prod.fst) → Go X ⟨κ, k (.ok .next), (L, fr) :: (c, lstO (vsP os') e') :: (a, lstO (vsP ps) e1) :: (b, lstO (vsP qs) e2) :: rest, g, n', 820, T'⟩) →
    Go X ⟨.ret (beyLoop L it) none k κ, denQ (beyLoop L it), (L, fr) :: (it, rngO i rem.length) :: (c, lstO (vsP os) e) :: (a, lstO (vsP ps) e1) :: (b, lstO (vsP qs) e2) :: rest, g, n, 820, T⟩ := by
  intro zs
  induction zs with
  | nil =>
    intro i hi n T fr os e hfr hos h
    refine bey_end X B hA κ R hκ k a b c L it e1 e2 ps qs rest g n T i fr hfr e _ fun n1 T1 hT1 => h n1 T1 fr os e hT1 hfr (by simp [beyR])
  | cons p rem ih =>
    intro i hi n T fr os e hfr hos h
    have hlt : i < ps.length := drop_lt hi
    have hpn : ps ≠ [] := by intro z; rw [z] at hlt; simp at hlt
    have hqn := hne hpn
    have hr : ps.drop (i + 1) = rem := by rw [← List.drop_drop, hi]; rfl
    have hrl : rem.length < 900 := by rw [← hr, List.length_drop]; (run_tac Drv.lomega)
    obtain ⟨y, hy⟩ : ∃ y : List Nat × Nat, i ≠ 0 → ps[i - 1]? = some y := by
      by_cases h0 : i = 0
      · exact ⟨([], 0), fun z => absurd h0 z⟩
      · exact ⟨ps[i - 1], fun _ => List.getElem?_eq_getElem (by run_tac Drv.tom)⟩
    obtain ⟨u, hu⟩ : ∃ u, qs.getLast? = some u := ⟨qs.getLast hqn, List.getLast?_eq_some_getLast hqn⟩
    refine bey_turn X B hA κ R hκ k a b c L it e1 e2 ps qs rest g n T i i rfl (by run_tac Drv.tom) _ (by simp) (by simp; (run_tac Drv.lomega)) fr hfr p.1 p.2 (vs_getA hi) (by unfold vsP; simp; (run_tac Drv.lomega)) (by unfold vsP; simp; (run_tac Drv.lomega)) e _ (by unfold vsP; simp; (run_tac Drv.lomega))
      y.1 y.2 (fun hi0 => ?_) u.1 u.2 (fun _ _ => ?_) fun n1 T1 e' fr1 hT1 hfr1 => ?_
    · have hi1 : i ≠ 0 := fun z => hi0 (by rw [z]; rfl)
      have e0 : ((i : Int) - 1).toNat = i - 1 := by run_tac Drv.tom
      rw [e0]
      show (ps.map fun p => Value.str (sL p.1) p.2).toArray[i - 1]? = _
      rw [List.getElem?_toArray, List.getElem?_map, hy hi1]; rfl
    · unfold vsP; rw [List.getLast?_map, hu]; rfl
    · have hl : (qs.map Prod.fst).getLast?.getD [] = u.1 := by rw [List.getLast?_map, hu]; rfl
      have hpr : (if i + 1 = 0 then none else (ps[i + 1 - 1]?.map Prod.fst)) = some p.1 := by
        rw [if_neg (by run_tac Drv.tom), Nat.add_sub_cancel]
        have : ps[i]? = some p := by rw [← Nat.add_zero i, ← List.getElem?_drop, hi]; rfl
        rw [this]; rfl
      have hz : ((p :: rem).length : Int) - 1 = (rem.length : Int) := by simp
      rw [hz]
      have key : ∀ os1 : List (List Nat × Nat), os1.length ≤ i + 1 → os1.map Prod.fst ++ beyR (qs.map Prod.fst) u.1 (some p.1) (rem.map Prod.fst) = os.map Prod.fst ++ beyR (qs.map Prod.fst) u.1 (if i = 0 then none else (ps[i - 1]?.map Prod.fst)) ((p :: rem).map Prod.fst) →
          Go X ⟨.ret (beyLoop L it) none k κ, denQ (beyLoop L it), (L, fr1) :: (it, rngO ((i : Int) + 1) (rem.length : Int)) :: (c, lstO (vsP os1) e') :: (a, lstO (vsP ps) e1) :: (b, lstO (vsP qs) e2) :: rest, g, n1, 820, T1⟩ := by
        intro os1 hos1 ho1
        refine ih (i + 1) hr n1 T1 fr1 os1 e' hfr1 hos1 fun n2 T2 fr2 os2 e2' hT2 hfr2 ho2 => ?_
        refine h n2 T2 fr2 os2 e2' (by run_tac Drv.tom) hfr2 ?_
        rw [ho2, hpr, hl]; exact ho1
      have hcond : (p.1 ∉ qs.map Prod.fst ∧ ((i : Int) = 0 ∨ y.1 ≠ p.1 ∨ u.1 < p.1)) ↔ (p.1 ∉ qs.map Prod.fst ∧ ((if i = 0 then none else (ps[i - 1]?.map Prod.fst)) = none ∨ (if i = 0 then none else (ps[i - 1]?.map Prod.fst)) ≠ some p.1 ∨ u.1 < p.1)) := by
        by_cases h0 : i = 0
        · simp [h0]
        · rw [if_neg h0, hy h0]
          simp [h0]
      by_cases hc : p.1 ∉ qs.map Prod.fst ∧ ((i : Int) = 0 ∨ y.1 ≠ p.1 ∨ u.1 < p.1)
      · rw [if_pos hc, show vsP os ++ [Value.str (sL p.1) p.2] = vsP (os ++ [p]) from by simp [vsP]]
        refine key _ (by simp; (run_tac Drv.lomega)) ?_
        rw [List.map_cons, beyR, if_pos (hcond.mp hc)]
        simp
      · rw [if_neg hc]
        refine key _ (by run_tac Drv.tom) ?_
        rw [List.map_cons, beyR, if_neg (fun z => hc (hcond.mpr z))]
end
section
variable (X : Env0) (B : BaseF X.w.params X.h₀) (hA : X.A.handled = none) (κ : Kt) (R : Room X κ 490 1900) (hκ : handledOf none κ = none) (k : Result → Sem Fin) (a b e1 e2 : Nat) (ps qs : List (List Nat × Nat)) (rest : List (Addr × Obj)) (g : Array Value)
include B hA R hκ
theorem beyond_s (gd : Bool) (lv : List Value) (n T : Nat) (hps : ps.length < 900) (hqs : qs.length < 900) (hne : ps ≠ [] → qs ≠ [])
    (h : ∀ n' T' l os e, T ≤ T' → os.map Prod.fst = bey (ps.map Prod.fst) (qs.map Prod.fst) → Go X ⟨κ, k (.ok (.ret (.ref l))), (l, lstO (vsP os) e) :: (a, lstO (vsP ps) e1) :: (b, lstO (vsP qs) e2) :: rest, g, n', 820, T'⟩) :
    Go X ⟨κ, .call (.call (.ref 813) ⟨[.ref a, .ref b], []⟩) none gd lv k, (a, lstO (vsP ps) e1) :: (b, lstO (vsP qs) e2) :: rest, g, n, 820, T⟩ := by
  refine go_enter rfl ?_
  have hvl : (vsP ps).length < 900 := by unfold vsP; simp; (run_tac Drv.lomega)
  run_tac Drv.driveN 3 [813]
  obtain ⟨z, hz⟩ : ∃ z : Int, ((Array.mk (vsP ps)).size : Int) = z := ⟨_, rfl⟩
  rw [hz]
  have hz' : z = (ps.length : Int) := by rw [← hz]; show (((ps.map _).toArray.size : Nat) : Int) = _; rw [List.size_toArray, List.length_map]
  have hz0 : 0 ≤ z := by run_tac Drv.tom
  have hz1 : z < 1000 := by run_tac Drv.tom
  run_tac Drv.driveN 2 [813]
  have hzs : Builtin.Range.rangeSize 0 z 1 = z := by
    unfold Builtin.Range.rangeSize
    rw [if_pos (by decide)]
    split <;> (run_tac Drv.lomega)
  rw [hzs]
  have hfit : Builtin.Range.rangeFitsLong z = true := by
    unfold Builtin.Range.rangeFitsLong
    rw [Bool.and_eq_true, decide_eq_true_eq, decide_eq_true_eq]
    constructor <;> (run_tac Drv.lomega)
  have hc : (Builtin.Range.rangeFitsLong 0 && Builtin.Range.rangeFitsLong z && Builtin.Range.rangeFitsLong 1 && Builtin.Range.rangeFitsLong z && (z == 0 || if (1 : Int) > 0 then Builtin.Range.rangeFitsLong (z + (1 - 1)) else Builtin.Range.rangeFitsLong (z + (1 + 1)))) = true := by
    rw [if_pos (by decide), show z + (1 - 1) = z from by run_tac Drv.tom, hfit]
    simp [Builtin.Range.rangeFitsLong]
  rw [if_pos hc]
  run_tac Drv.drive [813]
  refine go_enter rfl ?_
  refine go_perm ((n + 820, bfB X.w.params a b (n + 821) ..) :: (n + 823, rngO 0 z) :: (n + 821, lstO (vsP []) 0) :: (a, lstO (vsP ps) e1) :: (b, lstO (vsP qs) e2) :: (_, _) :: rest) (perm_at 3 rfl (perm_at 0 rfl (perm_at 1 rfl (perm_at 1 rfl (perm_at 1 rfl (.refl _)))))) ?_
  refine go_drop ((n + 820, bfB X.w.params a b (n + 821) ..) :: (n + 823, rngO 0 z) :: (n + 821, lstO (vsP []) 0) :: (a, lstO (vsP ps) e1) :: (b, lstO (vsP qs) e2) :: rest) (by repeat (first | exact List.Sublist.refl _ | apply List.Sublist.cons_cons | apply List.Sublist.cons)) fun n1 T1 hT1 => ?_
  rw [hz']
  refine bey_loop X B hA _ (by exact R.ret.le rfl rfl) (by exact hκ) _ a b (n + 821) (n + 820) (n + 823) e1 e2 ps qs rest g hps hqs hne ps 0 rfl n1 T1 _ [] 0 ⟨_, _, _, .inl rfl⟩ (by simp) fun n2 T2 fr os e hT2 hfr hos => ?_
  obtain ⟨t0, t1, t2, hfr⟩ := hfr
  rcases hfr with rfl | ⟨t3, v, rfl⟩
  all_goals
    run_tac Drv.drive [813]
    refine go_drop ((n + 821, lstO (vsP os) e) :: (a, lstO (vsP ps) e1) :: (b, lstO (vsP qs) e2) :: rest) (by repeat (first | exact List.Sublist.refl _ | apply List.Sublist.cons_cons | apply List.Sublist.cons)) fun n3 T3 hT3 => ?_
    exact h n3 T3 _ os e (by run_tac Drv.tom) (by simpa [bey] using hos)
end
end
section
open PySem PySem.W PySem.W.X PyProof.Rows
theorem go_load {X : Env0} {κ : Kt} {a : Addr} {q : Option Value} {k : Obj → Sem Fin} {l : List (Addr × Obj)} {g : Array Value} {n c T : Nat} {o : Obj} (h1 : X.h₀.get? a = some o) (h2 : a ≠ 746)
    (h : Go X ⟨κ, k o, l, g, n, c, T⟩) : Go X ⟨κ, .load a q k, l, g, n, c, T⟩ := fun hp O => means_cmd (.load a q .pure) k fun Γ q' hΓ => ⟨o, O.keep _ _ h1 h2, h hp O⟩
noncomputable def ivP (xs : List (Int × Nat)) : List Value := xs.map fun p => .int p.1 p.2
noncomputable def scrO (xs : List (Int × Nat)) (e : Nat) : Obj := ⟨.type "list", none, .seq ⟨ivP xs⟩ e, #[]⟩
theorem pick_take : ∀ (m : Nat) (l : List Value), m ≤ l.length → List.filterMap (fun x => (Array.mk l)[x]?) (List.range m) = l.take m
  | 0, l, _ => by simp
  | m + 1, l, h => by
    rw [List.range_succ, List.filterMap_append, pick_take m l (by run_tac Drv.tom), List.take_add_one]
    congr 1
    have : (Array.mk l)[m]? = some l[m] := by
      show l.toArray[m]? = _
      rw [List.getElem?_toArray]; exact List.getElem?_eq_getElem (by run_tac Drv.tom)
    rw [List.filterMap_cons, this, List.getElem?_eq_getElem (by run_tac Drv.tom)]
    rfl
theorem tsl10 (xs : List (Int × Nat)) : List.filterMap (fun x => (Array.mk (ivP xs))[x]?) (Fast.tw10209042966406643723 0 (max 0 (min 10 ((Array.mk (ivP xs)).size : Int))) 1) = ivP (xs.take 10) := by
  rw [← Fast.te10209042966406643723]
  have hs : ((Array.mk (ivP xs)).size : Int) = (xs.length : Int) := by show (((xs.map _).toArray.size : Nat) : Int) = _; rw [List.size_toArray, List.length_map]
  rw [hs, show max (0 : Int) (min 10 (xs.length : Int)) = ((min 10 xs.length : Nat) : Int) from maxmin 10 xs.length]
  have := sliceRange_one 0 (min 10 xs.length)
  rw [show ((0 : Nat) : Int) = 0 from rfl] at this
  rw [this]
  have e : (List.range (min 10 xs.length - 0)).map (0 + ·) = List.range (min 10 xs.length) := by simp
  rw [e, pick_take _ _ (by unfold ivP; simp; (run_tac Drv.lomega))]
  unfold ivP
  rw [← List.map_take]
  congr 1
  by_cases h : xs.length ≤ 10
  · rw [List.take_of_length_le (by run_tac Drv.tom), List.take_of_length_le (by run_tac Drv.tom)]
  · rw [show min 10 xs.length = 10 from by run_tac Drv.tom]
noncomputable def bkB (P : Params) (ro t0 t1 : Nat) : Obj := ⟨.type "frame", none, .dict #[ent P ⟨#[115, 99, 114, 105, 112, 116]⟩ t0 (.ref 819), ent P ⟨#[114, 111, 119, 115]⟩ t1 (.ref ro)] 2, #[]⟩
noncomputable def bkLoop (L it : Addr) : Code := match (bodyOf fd801).drop 1 with
  | Stmt.For tgt _ b e _ :: _ => .forLoop tgt (.ref it) b e (fEnv fd801 801 L)
  | _ => default
end
section
open PySem PySem.W PySem.W.X PyProof.Rows
noncomputable def bkD (P : Params) (ro : Nat) (w : List Nat) (z : Int) (t0 t1 t2 t3 t4 t5 t6 : Nat) (x : Value) : Obj := ⟨.type "frame", none, .dict #[ent P ⟨#[115, 99, 114, 105, 112, 116]⟩ t0 (.ref 819), ent P ⟨#[114, 111, 119, 115]⟩ t1 (.ref ro), ent P ⟨#[120]⟩ t2 x, ent P ⟨#[110, 117, 109, 98, 101, 114]⟩ t3 (.int z t4), ent P ⟨#[119, 111, 114, 100]⟩ t5 (.str (sL w) t6)] 5, #[]⟩
noncomputable def bkC (P : Params) (ro : Nat) (t0 t1 t2 t3 : Nat) (x z : Value) : Obj := ⟨.type "frame", none, .dict #[ent P ⟨#[115, 99, 114, 105, 112, 116]⟩ t0 (.ref 819), ent P ⟨#[114, 111, 119, 115]⟩ t1 (.ref ro), ent P ⟨#[120]⟩ t2 x, ent P ⟨#[110, 117, 109, 98, 101, 114]⟩ t3 z] 4, #[]⟩
noncomputable def bwLoop (L : Addr) : Code := match (bodyOf fd801).drop 1 with
  | Stmt.For _ _ [_, Stmt.If _ _ (_ :: Stmt.While t b e _ :: _) _] _ _ :: _ => .whileLoop t b e (fEnv fd801 801 L)
  | _ => default
noncomputable def sg (c : Nat) : Nat := ([97, 98, 32, 39, 92, 40, 41, 44] : List Nat).getD c 0
section
variable (X : Env0) (B : BaseF X.w.params X.h₀) (hA : X.A.handled = none) (κ : Kt) (R : Room X κ 480 1800) (hκ : handledOf none κ = none) (k : Result → Sem Fin) (L ro : Nat) (rest : List (Addr × Obj)) (g : Array Value)
include B hA R hκ
theorem bw_turn (n T : Nat) (z : Int) (hz0 : 0 < z) (hz1 : z < 5000) (c : Nat) (hc : (z - 1).fmod 8 = c) (w : List Nat) (hw : w.length < 50) (t0 t1 t2 t3 t4 t5 t6 : Nat) (x : Value)
    (h : ∀ n' T' t4 t6, T ≤ T' → Go X ⟨.ret (bwLoop L) none k κ, denQ (bwLoop L), (L, bkD X.w.params ro (w ++ [sg c]) ((z - 1).fdiv 8) t0 t1 t2 t3 t4 t5 t6 x) :: rest, g, n', 820, T'⟩) :
    Go X ⟨.ret (bwLoop L) none k κ, denQ (bwLoop L), (L, bkD X.w.params ro w z t0 t1 t2 t3 t4 t5 t6 x) :: rest, g, n, 820, T⟩ := by
  have hf : (z - 1).fmod 8 = (z - 1) % 8 := Int.fmod_eq_emod_of_nonneg _ (by decide)
  have hc8 : c = 0 ∨ c = 1 ∨ c = 2 ∨ c = 3 ∨ c = 4 ∨ c = 5 ∨ c = 6 ∨ c = 7 := (by decide : ∀ c, c < 8 → (c = 0 ∨ c = 1 ∨ c = 2 ∨ c = 3 ∨ c = 4 ∨ c = 5 ∨ c = 6 ∨ c = 7)) c (by (run_tac Drv.lomega))
  run_tac Drv.drive [801, 100015]
  rw [hc]
  clear hf hc
  rcases hc8 with rfl | rfl | rfl | rfl | rfl | rfl | rfl | rfl
  · run_tac Drv.drive [801, 100011]
    refine go_again (by kernel_rfl) ?_
    refine go_drop _ (List.Sublist.refl _) fun n1 T1 hT1 => ?_
    refine add_b X B hA _ (by exact R.ret.le rfl rfl) (by exact hκ) _ n1 T1 t6 (T + 6) _ g w [sg 0] (by run_tac Drv.tom) (by simp) _ (by kernel_rfl) fun n2 T2 t2' hT2 => ?_
    run_tac Drv.drive [801]
    refine go_again (by kernel_rfl) ?_
    refine go_drop ((L, bkD X.w.params ro (w ++ [sg 0]) ((z - 1).fdiv 8) t0 t1 t2 t3 _ t5 _ x) :: rest) (by repeat (first | exact List.Sublist.refl _ | apply List.Sublist.cons_cons | apply List.Sublist.cons)) fun n3 T3 hT3 => ?_
    exact h n3 T3 _ _ (by run_tac Drv.tom)
  · run_tac Drv.drive [801, 100011]
    refine go_again (by kernel_rfl) ?_
    refine go_drop _ (List.Sublist.refl _) fun n1 T1 hT1 => ?_
    refine add_b X B hA _ (by exact R.ret.le rfl rfl) (by exact hκ) _ n1 T1 t6 (T + 6) _ g w [sg 1] (by run_tac Drv.tom) (by simp) _ (by kernel_rfl) fun n2 T2 t2' hT2 => ?_
    run_tac Drv.drive [801]
    refine go_again (by kernel_rfl) ?_
    refine go_drop ((L, bkD X.w.params ro (w ++ [sg 1]) ((z - 1).fdiv 8) t0 t1 t2 t3 _ t5 _ x) :: rest) (by repeat (first | exact List.Sublist.refl _ | apply List.Sublist.cons_cons | apply List.Sublist.cons)) fun n3 T3 hT3 => ?_
    exact h n3 T3 _ _ (by run_tac Drv.tom)
  · run_tac Drv.drive [801, 100011]
    refine go_again (by kernel_rfl) ?_
    refine go_drop _ (List.Sublist.refl _) fun n1 T1 hT1 => ?_
    refine add_b X B hA _ (by exact R.ret.le rfl rfl) (by exact hκ) _ n1 T1 t6 (T + 6) _ g w [sg 2] (by run_tac Drv.tom) (by simp) _ (by kernel_rfl) fun n2 T2 t2' hT2 => ?_
    run_tac Drv.drive [801]
    refine go_again (by kernel_rfl) ?_
    refine go_drop ((L, bkD X.w.params ro (w ++ [sg 2]) ((z - 1).fdiv 8) t0 t1 t2 t3 _ t5 _ x) :: rest) (by repeat (first | exact List.Sublist.refl _ | apply List.Sublist.cons_cons | apply List.Sublist.cons)) fun n3 T3 hT3 => ?_
    exact h n3 T3 _ _ (by run_tac Drv.tom)
  · run_tac Drv.drive [801, 100011]
    refine go_again (by kernel_rfl) ?_
    refine go_drop _ (List.Sublist.refl _) fun n1 T1 hT1 => ?_
    refine add_b X B hA _ (by exact R.ret.le rfl rfl) (by exact hκ) _ n1 T1 t6 (T + 6) _ g w [sg 3] (by run_tac Drv.tom) (by simp) _ (by kernel_rfl) fun n2 T2 t2' hT2 => ?_
    run_tac Drv.drive [801]
    refine go_again (by kernel_rfl) ?_
    refine go_drop ((L, bkD X.w.params ro (w ++ [sg 3]) ((z - 1).fdiv 8) t0 t1 t2 t3 _ t5 _ x) :: rest) (by repeat (first | exact List.Sublist.refl _ | apply List.Sublist.cons_cons | apply List.Sublist.cons)) fun n3 T3 hT3 => ?_
    exact h n3 T3 _ _ (by run_tac Drv.tom)
  · run_tac Drv.drive [801, 100011]
    refine go_again (by kernel_rfl) ?_
    refine go_drop _ (List.Sublist.refl _) fun n1 T1 hT1 => ?_
    refine add_b X B hA _ (by exact R.ret.le rfl rfl) (by exact hκ) _ n1 T1 t6 (T + 6) _ g w [sg 4] (by run_tac Drv.tom) (by simp) _ (by kernel_rfl) fun n2 T2 t2' hT2 => ?_
    run_tac Drv.drive [801]
    refine go_again (by kernel_rfl) ?_
    refine go_drop ((L, bkD X.w.params ro (w ++ [sg 4]) ((z - 1).fdiv 8) t0 t1 t2 t3 _ t5 _ x) :: rest) (by repeat (first | exact List.Sublist.refl _ | apply List.Sublist.cons_cons | apply List.Sublist.cons)) fun n3 T3 hT3 => ?_
    exact h n3 T3 _ _ (by run_tac Drv.tom)
  · run_tac Drv.drive [801, 100011]
    refine go_again (by kernel_rfl) ?_
    refine go_drop _ (List.Sublist.refl _) fun n1 T1 hT1 => ?_
    refine add_b X B hA _ (by exact R.ret.le rfl rfl) (by exact hκ) _ n1 T1 t6 (T + 6) _ g w [sg 5] (by run_tac Drv.tom) (by simp) _ (by kernel_rfl) fun n2 T2 t2' hT2 => ?_
    run_tac Drv.drive [801]
    refine go_again (by kernel_rfl) ?_
    refine go_drop ((L, bkD X.w.params ro (w ++ [sg 5]) ((z - 1).fdiv 8) t0 t1 t2 t3 _ t5 _ x) :: rest) (by repeat (first | exact List.Sublist.refl _ | apply List.Sublist.cons_cons | apply List.Sublist.cons)) fun n3 T3 hT3 => ?_
    exact h n3 T3 _ _ (by run_tac Drv.tom)
  · run_tac Drv.drive [801, 100011]
    refine go_again (by kernel_rfl) ?_
    refine go_drop _ (List.Sublist.refl _) fun n1 T1 hT1 => ?_
    refine add_b X B hA _ (by exact R.ret.le rfl rfl) (by exact hκ) _ n1 T1 t6 (T + 6) _ g w [sg 6] (by run_tac Drv.tom) (by simp) _ (by kernel_rfl) fun n2 T2 t2' hT2 => ?_
    run_tac Drv.drive [801]
    refine go_again (by kernel_rfl) ?_
    refine go_drop ((L, bkD X.w.params ro (w ++ [sg 6]) ((z - 1).fdiv 8) t0 t1 t2 t3 _ t5 _ x) :: rest) (by repeat (first | exact List.Sublist.refl _ | apply List.Sublist.cons_cons | apply List.Sublist.cons)) fun n3 T3 hT3 => ?_
    exact h n3 T3 _ _ (by run_tac Drv.tom)
  · run_tac Drv.drive [801, 100011]
    refine go_again (by kernel_rfl) ?_
    refine go_drop _ (List.Sublist.refl _) fun n1 T1 hT1 => ?_
    refine add_b X B hA _ (by exact R.ret.le rfl rfl) (by exact hκ) _ n1 T1 t6 (T + 6) _ g w [sg 7] (by run_tac Drv.tom) (by simp) _ (by kernel_rfl) fun n2 T2 t2' hT2 => ?_
    run_tac Drv.drive [801]
    refine go_again (by kernel_rfl) ?_
    refine go_drop ((L, bkD X.w.params ro (w ++ [sg 7]) ((z - 1).fdiv 8) t0 t1 t2 t3 _ t5 _ x) :: rest) (by repeat (first | exact List.Sublist.refl _ | apply List.Sublist.cons_cons | apply List.Sublist.cons)) fun n3 T3 hT3 => ?_
    exact h n3 T3 _ _ (by run_tac Drv.tom)
theorem bw_end (n T : Nat) (w : List Nat) (t0 t1 t2 t3 t4 t5 t6 : Nat) (x : Value)
    (h : ∀ n' T', T ≤ T' → Go X ⟨κ, k (.ok .next), (L, bkD X.w.params ro w 0 t0 t1 t2 t3 t4 t5 t6 x) :: rest, g, n', 820, T'⟩) :
    Go X ⟨.ret (bwLoop L) none k κ, denQ (bwLoop L), (L, bkD X.w.params ro w 0 t0 t1 t2 t3 t4 t5 t6 x) :: rest, g, n, 820, T⟩ := by
  run_tac Drv.drive [801]
  refine go_drop ((L, bkD X.w.params ro w 0 t0 t1 t2 t3 t4 t5 t6 x) :: rest) (by repeat (first | exact List.Sublist.refl _ | apply List.Sublist.cons_cons | apply List.Sublist.cons)) fun n3 T3 hT3 => ?_
  exact h n3 T3 (by run_tac Drv.tom)
/- the word of a number -/
noncomputable def wordF : Nat → Nat → List Nat
  | 0, _ => []
  | _ + 1, 0 => []
  | f + 1, m + 1 => sg (m % 8) :: wordF f (m / 8)
theorem bw_loop (t0 t1 t2 t3 t5 : Nat) (x : Value) : ∀ (f m n T : Nat) (w : List Nat) (t4 t6 : Nat), m < 8 ^ f → f < 6 → m < 5000 → w.length + f < 40 →
    (∀ n' T' t4 t6, T ≤ T' → Go X ⟨κ, k (.ok .next), (L, bkD X.w.params ro (w ++ wordF (f + 1) m) 0 t0 t1 t2 t3 t4 t5 t6 x) :: rest, g, n', 820, T'⟩) →
    Go X ⟨.ret (bwLoop L) none k κ, denQ (bwLoop L), (L, bkD X.w.params ro w m t0 t1 t2 t3 t4 t5 t6 x) :: rest, g, n, 820, T⟩
  | f, 0, n, T, w, t4, t6, hm, hf, hm5, hw, h => by
    refine bw_end X B hA κ R hκ k L ro rest g n T w t0 t1 t2 t3 t4 t5 t6 x fun n1 T1 hT1 => ?_
    have := h n1 T1 t4 t6 hT1
    simpa [wordF] using this
  | 0, m + 1, n, T, w, t4, t6, hm, hf, hm5, hw, h => by simp at hm
  | f + 1, m + 1, n, T, w, t4, t6, hm, hf, hm5, hw, h => by
    have e1 : ((m + 1 : Nat) : Int) - 1 = (m : Int) := by run_tac Drv.tom
    have e2 : (((m + 1 : Nat) : Int) - 1).fmod 8 = ((m % 8 : Nat) : Int) := by rw [e1, Int.fmod_eq_emod_of_nonneg _ (by decide)]; rfl
    have e3 : (((m + 1 : Nat) : Int) - 1).fdiv 8 = ((m / 8 : Nat) : Int) := by rw [e1, Int.fdiv_eq_ediv_of_nonneg _ (by decide)]; rfl
    refine bw_turn X B hA κ R hκ k L ro rest g n T _ (by run_tac Drv.tom) (by run_tac Drv.tom) (m % 8) e2 w (by run_tac Drv.tom) t0 t1 t2 t3 t4 t5 t6 x fun n1 T1 t4' t6' hT1 => ?_
    rw [e3]
    rw [Nat.pow_succ] at hm
    refine bw_loop t0 t1 t2 t3 t5 x f (m / 8) n1 T1 _ t4' t6' (by run_tac Drv.tom) (by run_tac Drv.tom) (by run_tac Drv.tom) (by simp; (run_tac Drv.lomega)) fun n2 T2 t4'' t6'' hT2 => ?_
    have := h n2 T2 t4'' t6'' (by run_tac Drv.tom)
    rw [wordF] at this
    rw [List.append_assoc]
    exact this
end
end
section
open PySem PySem.W PySem.W.X PyProof.Rows
noncomputable def IsBk (P : Params) (ro : Nat) (fr : Obj) : Prop := ∃ t0 t1, fr = bkB P ro t0 t1 ∨ (∃ t2 t3 x z, fr = bkC P ro t0 t1 t2 t3 x z) ∨ ∃ w z t2 t3 t4 t5 t6 x, fr = bkD P ro w z t0 t1 t2 t3 t4 t5 t6 x
noncomputable def numN (x : Int) : Nat := ((x.fmod 23405).fdiv 5).toNat
noncomputable def wordOf (x : Int) : List Nat := wordF 6 (numN x)
theorem numN_is (x : Int) : (x.fmod 23405).fdiv 5 = (numN x : Int) ∧ numN x < 4681 := by
  unfold numN
  rw [Int.fmod_eq_emod_of_nonneg _ (by decide), Int.fdiv_eq_ediv_of_nonneg _ (by decide)]
  have h1 : 0 ≤ x % 23405 / 5 := Int.ediv_nonneg (Int.emod_nonneg _ (by decide)) (by decide)
  have h2 : x % 23405 / 5 < 4681 := Int.ediv_lt_of_lt_mul (by decide) (Int.emod_lt_of_pos _ (by decide))
  exact ⟨(Int.toNat_of_nonneg h1).symm, (Int.toNat_lt h1).mpr h2⟩
section
variable (X : Env0) (B : BaseF X.w.params X.h₀) (hA : X.A.handled = none) (κ : Kt) (R : Room X κ 470 1700) (hκ : handledOf none κ = none) (k : Result → Sem Fin) (L ro it la el : Nat) (ys : List (Int × Nat)) (rest : List (Addr × Obj)) (g : Array Value)
include B hA R hκ
theorem bk_new (n T i er r e : Nat) (rs : List Value) (hrs : rs.length < 100) (ps : List (List Nat × Nat)) (x : Int) (tx : Nat) (hg : (Array.mk (ivP ys))[(i : Int).toNat]? = some (.int x tx)) (hx : (x.fmod 23405).fmod 5 = 0) (fr : Obj) (hfr : IsBk X.w.params ro fr)
    (h : ∀ n' T' fr er' r', T ≤ T' → IsBk X.w.params ro fr → Go X ⟨.ret (bkLoop L it) none k κ, denQ (bkLoop L it), (L, fr) :: (it, itO la (i + 1)) :: (la, lstO (ivP ys) el) :: (ro, lstO (rs ++ [.ref r']) er') :: (r', lstO [] 0) :: (r, lstO (vsP ps) e) :: rest, g, n', 820, T'⟩) :
    Go X ⟨.ret (bkLoop L it) none k κ, denQ (bkLoop L it), (L, fr) :: (it, itO la i) :: (la, lstO (ivP ys) el) :: (ro, lstO rs er) :: (r, lstO (vsP ps) e) :: rest, g, n, 820, T⟩ := by
  obtain ⟨t0, t1, hfr⟩ := hfr
  rcases hfr with rfl | ⟨t2, t3, x', z', rfl⟩ | ⟨w, z', t2, t3, t4, t5, t6, x', rfl⟩
  · run_tac Drv.drive [801]
    refine go_again (by kernel_rfl) ?_
    rw [appR]
    refine go_perm ((L, bkC X.w.params ro ..) :: (it, itO la (i + 1)) :: (la, lstO (ivP ys) el) :: (ro, lstO (rs ++ [.ref (n + 820)]) _) :: (n + 820, lstO [] 0) :: (r, lstO (vsP ps) e) :: rest) (perm_at 1 rfl (perm_at 1 rfl (perm_at 1 rfl (perm_at 1 rfl (.refl _))))) ?_
    refine go_drop _ (List.Sublist.refl _) fun n1 T1 hT1 => ?_
    exact h n1 T1 _ _ _ (by run_tac Drv.tom) ⟨_, _, .inr (.inl ⟨_, _, _, _, rfl⟩)⟩
  · run_tac Drv.drive [801]
    refine go_again (by kernel_rfl) ?_
    rw [appR]
    refine go_perm ((L, bkC X.w.params ro ..) :: (it, itO la (i + 1)) :: (la, lstO (ivP ys) el) :: (ro, lstO (rs ++ [.ref (n + 820)]) _) :: (n + 820, lstO [] 0) :: (r, lstO (vsP ps) e) :: rest) (perm_at 1 rfl (perm_at 1 rfl (perm_at 1 rfl (perm_at 1 rfl (.refl _))))) ?_
    refine go_drop _ (List.Sublist.refl _) fun n1 T1 hT1 => ?_
    exact h n1 T1 _ _ _ (by run_tac Drv.tom) ⟨_, _, .inr (.inl ⟨_, _, _, _, rfl⟩)⟩
  · run_tac Drv.drive [801]
    refine go_again (by kernel_rfl) ?_
    rw [appR]
    refine go_perm ((L, bkD X.w.params ro w ..) :: (it, itO la (i + 1)) :: (la, lstO (ivP ys) el) :: (ro, lstO (rs ++ [.ref (n + 820)]) _) :: (n + 820, lstO [] 0) :: (r, lstO (vsP ps) e) :: rest) (perm_at 1 rfl (perm_at 1 rfl (perm_at 1 rfl (perm_at 1 rfl (.refl _))))) ?_
    refine go_drop _ (List.Sublist.refl _) fun n1 T1 hT1 => ?_
    exact h n1 T1 _ _ _ (by run_tac Drv.tom) ⟨_, _, .inr (.inr ⟨_, _, _, _, _, _, _, _, rfl⟩)⟩
theorem bk_word (n T i er r e : Nat) (rs : List Value) (hrs : rs.length < 100) (hlast : rs.getLast? = some (.ref r)) (ps : List (List Nat × Nat)) (hps : (vsP ps).length < 100) (x : Int) (tx : Nat) (hg : (Array.mk (ivP ys))[(i : Int).toNat]? = some (.int x tx)) (hx : ¬ (x.fmod 23405).fmod 5 = 0) (fr : Obj) (hfr : IsBk X.w.params ro fr)
    (h : ∀ n' T' fr e' t', T ≤ T' → IsBk X.w.params ro fr → Go X ⟨.ret (bkLoop L it) none k κ, denQ (bkLoop L it), (L, fr) :: (it, itO la (i + 1)) :: (la, lstO (ivP ys) el) :: (ro, lstO rs er) :: (r, lstO (vsP ps ++ [.str (sL (wordOf x)) t']) e') :: rest, g, n', 820, T'⟩) :
    Go X ⟨.ret (bkLoop L it) none k κ, denQ (bkLoop L it), (L, fr) :: (it, itO la i) :: (la, lstO (ivP ys) el) :: (ro, lstO rs er) :: (r, lstO (vsP ps) e) :: rest, g, n, 820, T⟩ := by
  obtain ⟨hm, hm1⟩ := numN_is x
  obtain ⟨t0, t1, hfr⟩ := hfr
  obtain ⟨mu, hmu, hgu⟩ := seq_last hlast
  refine' go_cut (p := ∀ n1 T1 (q0 q1 q2 q3 q4 q5 q6 : Nat) (qx : Value), T ≤ T1 → Go X ⟨_, _, (L, bkD X.w.params ro [] (numN x) q0 q1 q2 q3 q4 q5 q6 qx) :: (it, itO la (i + 1)) :: (la, lstO (ivP ys) el) :: (ro, lstO rs er) :: (r, lstO (vsP ps) e) :: rest, g, n1, 820, T1⟩) (fun key => ?_) ?_
  rotate_left 2
  · rcases hfr with rfl | ⟨t2, t3, x', z', rfl⟩ | ⟨w, z', t2, t3, t4, t5, t6, x', rfl⟩
    all_goals
      run_tac Drv.drive [801]
      rw [hm]
      refine go_enter rfl ?_
      refine go_drop ((L, bkD X.w.params ro [] (numN x) ..) :: (it, itO la (i + 1)) :: (la, lstO (ivP ys) el) :: (ro, lstO rs er) :: (r, lstO (vsP ps) e) :: rest) (by repeat (first | exact List.Sublist.refl _ | apply List.Sublist.cons_cons | apply List.Sublist.cons)) fun n1 T1 hT1 => ?_
      exact key n1 T1 _ _ _ _ _ _ _ _ (by run_tac Drv.tom)
  · intro n1 T1 q0 q1 q2 q3 q4 q5 q6 qx hT1
    refine bw_loop X B hA _ (by exact R.ret.le rfl rfl) (by exact hκ) _ L ro _ g _ _ _ _ _ _ 5 (numN x) n1 T1 [] _ _ (by simp; (run_tac Drv.lomega)) (by run_tac Drv.tom) (by run_tac Drv.tom) (by simp) fun n2 T2 t4 t6 hT2 => ?_
    rw [List.nil_append, show wordF (5 + 1) (numN x) = wordOf x from rfl]
    run_tac Drv.drive [801]
    run_tac Drv.toldN `hmu
    run_tac Drv.drive [801]
    refine go_again (by kernel_rfl) ?_
    rw [appR]
    refine go_drop ((L, bkD X.w.params ro (wordOf x) 0 ..) :: (it, itO la (i + 1)) :: (la, lstO (ivP ys) el) :: (ro, lstO rs er) :: (r, lstO (vsP ps ++ [.str (sL (wordOf x)) _]) _) :: rest) (by repeat (first | exact List.Sublist.refl _ | apply List.Sublist.cons_cons | apply List.Sublist.cons)) fun n3 T3 hT3 => ?_
    exact h n3 T3 _ _ _ (by run_tac Drv.tom) ⟨_, _, .inr (.inr ⟨_, _, _, _, _, _, _, _, rfl⟩)⟩
theorem bk_end (n T i er : Nat) (rs : List Value) (hg : (Array.mk (ivP ys))[(i : Int).toNat]? = none) (fr : Obj) (hfr : IsBk X.w.params ro fr)
    (h : ∀ n' T', T ≤ T' → Go X ⟨κ, k (.ok .next), (L, fr) :: (ro, lstO rs er) :: rest, g, n', 820, T'⟩) :
    Go X ⟨.ret (bkLoop L it) none k κ, denQ (bkLoop L it), (L, fr) :: (it, itO la i) :: (la, lstO (ivP ys) el) :: (ro, lstO rs er) :: rest, g, n, 820, T⟩ := by
  obtain ⟨t0, t1, hfr⟩ := hfr
  rcases hfr with rfl | ⟨t2, t3, x', z', rfl⟩ | ⟨w, z', t2, t3, t4, t5, t6, x', rfl⟩
  · run_tac Drv.drive [801]
    refine go_drop ((L, bkB X.w.params ro ..) :: (ro, lstO rs er) :: rest) (by repeat (first | exact List.Sublist.refl _ | apply List.Sublist.cons_cons | apply List.Sublist.cons)) fun n3 T3 hT3 => ?_
    exact h n3 T3 (by run_tac Drv.tom)
  · run_tac Drv.drive [801]
    refine go_drop ((L, bkC X.w.params ro ..) :: (ro, lstO rs er) :: rest) (by repeat (first | exact List.Sublist.refl _ | apply List.Sublist.cons_cons | apply List.Sublist.cons)) fun n3 T3 hT3 => ?_
    exact h n3 T3 (by run_tac Drv.tom)
  · run_tac Drv.drive [801]
    refine go_drop ((L, bkD X.w.params ro w ..) :: (ro, lstO rs er) :: rest) (by repeat (first | exact List.Sublist.refl _ | apply List.Sublist.cons_cons | apply List.Sublist.cons)) fun n3 T3 hT3 => ?_
    exact h n3 T3 (by run_tac Drv.tom)
end
end
section
open PySem PySem.W PySem.W.X PyProof.Rows
/- a row as it lies: its address, its words, its list's count -/
noncomputable abbrev Row := Nat × List (List Nat × Nat) × Nat
noncomputable def rowsL (rws : List Row) : List (Addr × Obj) := rws.map fun q => (q.1, lstO (vsP q.2.1) q.2.2)
noncomputable def refs (rws : List Row) : List Value := rws.map fun q => .ref q.1
noncomputable def texts (rws : List Row) : List (List (List Nat)) := rws.map fun q => q.2.1.map Prod.fst
/- the book of rows, from the row begun -/
noncomputable def bookR : List Int → List (List Nat) → List (List (List Nat))
  | [], cur => [cur]
  | x :: xs, cur => if (x.fmod 23405).fmod 5 = 0 then cur :: bookR xs [] else bookR xs (cur ++ [wordOf x])
theorem iv_get {ps : List (Int × Nat)} {i : Nat} {p : Int × Nat} {r : List (Int × Nat)} (h : ps.drop i = p :: r) : (Array.mk (ivP ps))[(i : Int).toNat]? = some (.int p.1 p.2) := by
  rw [Int.toNat_natCast]
  show (ps.map _).toArray[i]? = _
  rw [List.getElem?_toArray, List.getElem?_map, ← Nat.add_zero i, ← List.getElem?_drop, h]; rfl
theorem iv_none {ps : List (Int × Nat)} {i : Nat} (h : ps.drop i = []) : (Array.mk (ivP ps))[(i : Int).toNat]? = none := by
  rw [Int.toNat_natCast]
  show (ps.map _).toArray[i]? = _
  rw [List.getElem?_toArray, List.getElem?_map, ← Nat.add_zero i, ← List.getElem?_drop, h]; rfl
section
variable (X : Env0) (B : BaseF X.w.params X.h₀) (hA : X.A.handled = none) (κ : Kt) (R : Room X κ 470 1700) (hκ : handledOf none κ = none) (k : Result → Sem Fin) (L ro it la el : Nat) (ys : List (Int × Nat)) (g : Array Value)
include B hA R hκ
theorem bk_loop : ∀ (rem : List (Int × Nat)) (i : Nat), ys.drop i = rem → ∀ (n T : Nat) (fr : Obj) (er r e : Nat) (ps : List (List Nat × Nat)) (pre : List Value) (rest : List (Addr × Obj)), IsBk X.w.params ro fr → pre.length + rem.length < 90 → ps.length + rem.length < 90 →
    (∀ n' T' fr er' rws, T ≤ T' → IsBk X.w.params ro fr → texts rws = bookR (rem.map Prod.fst) (ps.map Prod.fst) → Go X ⟨κ, k (.ok .next), (L, fr) :: (ro, lstO (pre ++ refs rws) er') :: (rowsL rws.reverse ++ rest), g, n', 820, T'⟩) →
    Go X ⟨.ret (bkLoop L it) none k κ, denQ (bkLoop L it), (L, fr) :: (it, itO la i) :: (la, lstO (ivP ys) el) :: (ro, lstO (pre ++ [.ref r]) er) :: (r, lstO (vsP ps) e) :: rest, g, n, 820, T⟩ := by
  intro zs
  induction zs with
  | nil =>
    intro i hi n T fr er r e ps pre rest hfr hpre hps h
    refine bk_end X B hA κ R hκ k L ro it la el ys _ g n T i er _ (iv_none hi) fr hfr fun n1 T1 hT1 => ?_
    exact h n1 T1 fr er [(r, ps, e)] hT1 hfr (by simp [texts, bookR])
  | cons p rem ih =>
    intro i hi n T fr er r e ps pre rest hfr hpre hps h
    rw [List.length_cons] at hpre hps
    have hr : ys.drop (i + 1) = rem := by rw [← List.drop_drop, hi]; rfl
    by_cases hx : (p.1.fmod 23405).fmod 5 = 0
    · refine bk_new X B hA κ R hκ k L ro it la el ys rest g n T i er r e _ (by simp; (run_tac Drv.lomega)) ps p.1 p.2 (iv_get hi) hx fr hfr fun n1 T1 fr1 er1 r1 hT1 hfr1 => ?_
      refine ih (i + 1) hr n1 T1 fr1 er1 r1 0 [] (pre ++ [.ref r]) _ hfr1 (by simp; (run_tac Drv.lomega)) (by simp; (run_tac Drv.lomega)) fun n2 T2 fr2 er2 rws hT2 hfr2 ht => ?_
      have := h n2 T2 fr2 er2 ((r, ps, e) :: rws) (by run_tac Drv.tom) hfr2 (by
        rw [List.map_cons, bookR, if_pos hx]
        show (ps.map Prod.fst) :: texts rws = _
        rw [ht]; rfl)
      simpa [refs, rowsL] using this
    · refine bk_word X B hA κ R hκ k L ro it la el ys rest g n T i er r e _ (by simp; (run_tac Drv.lomega)) (by simp) ps (by unfold vsP; simp; (run_tac Drv.lomega)) p.1 p.2 (iv_get hi) hx fr hfr fun n1 T1 fr1 e1 t1 hT1 hfr1 => ?_
      rw [show vsP ps ++ [Value.str (sL (wordOf p.1)) t1] = vsP (ps ++ [(wordOf p.1, t1)]) from by simp [vsP]]
      refine ih (i + 1) hr n1 T1 fr1 er r e1 _ pre _ hfr1 (by run_tac Drv.tom) (by simp; (run_tac Drv.lomega)) fun n2 T2 fr2 er2 rws hT2 hfr2 ht => ?_
      refine h n2 T2 fr2 er2 rws (by run_tac Drv.tom) hfr2 ?_
      rw [ht, List.map_cons, bookR, if_neg hx]
      simp
end
section
variable (X : Env0) (B : BaseF X.w.params X.h₀) (hA : X.A.handled = none) (κ : Kt) (R : Room X κ 460 1600) (hκ : handledOf none κ = none) (k : Result → Sem Fin) (gd : Bool) (lv : List Value) (n T e : Nat) (xs : List (Int × Nat)) (hscr : X.h₀.get? 819 = some (scrO xs e)) (rest : List (Addr × Obj)) (g : Array Value)
include B hA R hκ hscr
theorem book_s
    (h : ∀ n' T' ro er rws, T ≤ T' → texts rws = bookR ((xs.take 10).map Prod.fst) [] → Go X ⟨κ, k (.ok (.ret (.ref ro))), (ro, lstO (refs rws) er) :: (rowsL rws ++ rest), g, n', 820, T'⟩) :
    Go X ⟨κ, .call (.call (.ref 801) ⟨[.ref 819], []⟩) none gd lv k, rest, g, n, 820, T⟩ := by
  refine go_enter rfl ?_
  run_tac Drv.drive [801]
  refine go_load hscr (by decide) ?_
  run_tac Drv.drive [801]
  repeat (refine go_load hscr (by decide) ?_; run_tac Drv.driveN 3 [801])
  have htold := (tsl10 xs)
  run_tac Drv.toldN `htold
  clear htold
  have hl10 : (ivP (xs.take 10)).length ≤ 10 := by unfold ivP; simp; (run_tac Drv.lomega)
  run_tac Drv.drive [801]
  refine go_enter rfl ?_
  refine go_perm ((n + 820, bkB X.w.params (n + 822) ..) :: (n + 825, itO (n + 824) (0 : Nat)) :: (n + 824, lstO (ivP (xs.take 10)) 0) :: (n + 822, lstO ([] ++ [.ref (n + 821)]) 0) :: (n + 821, lstO (vsP []) 0) :: (_, _) :: rest) (perm_at 5 rfl (perm_at 0 rfl (perm_at 0 rfl (perm_at 1 rfl (perm_at 1 rfl (.refl _)))))) ?_
  refine go_drop ((n + 820, bkB X.w.params (n + 822) ..) :: (n + 825, itO (n + 824) (0 : Nat)) :: (n + 824, lstO (ivP (xs.take 10)) 0) :: (n + 822, lstO ([] ++ [.ref (n + 821)]) 0) :: (n + 821, lstO (vsP []) 0) :: rest) (by repeat (first | exact List.Sublist.refl _ | apply List.Sublist.cons_cons | apply List.Sublist.cons)) fun n1 T1 hT1 => ?_
  refine bk_loop X B hA _ (by exact R.ret.le rfl rfl) (by exact hκ) _ (n + 820) (n + 822) (n + 825) (n + 824) 0 (xs.take 10) g (xs.take 10) 0 rfl n1 T1 _ 0 (n + 821) 0 [] [] rest ⟨_, _, .inl rfl⟩ (by simp; (run_tac Drv.lomega)) (by simp; (run_tac Drv.lomega)) fun n2 T2 fr er rws hT2 hfr ht => ?_
  rw [List.nil_append]
  obtain ⟨t0, t1, hfr⟩ := hfr
  have hperm : (rowsL rws ++ rest).Perm (rowsL rws.reverse ++ rest) := by
    unfold rowsL
    rw [List.map_reverse]
    exact (List.reverse_perm _).symm.append_right _
  generalize htl : rowsL rws.reverse ++ rest = tl at *
  rcases hfr with rfl | ⟨t2, t3, x', z', rfl⟩ | ⟨w, z', t2, t3, t4, t5, t6, x', rfl⟩
  all_goals
    run_tac Drv.drive [801]
    refine go_perm (_ :: (n + 822, lstO (refs rws) er) :: (rowsL rws ++ rest)) ((hperm.cons _).cons _) ?_
    refine go_drop ((n + 822, lstO (refs rws) er) :: (rowsL rws ++ rest)) (by repeat (first | exact List.Sublist.refl _ | apply List.Sublist.cons_cons | apply List.Sublist.cons)) fun n3 T3 hT3 => ?_
    exact h n3 T3 _ er rws (by run_tac Drv.tom) ht
end
end
section
open PySem PySem.W PySem.W.X PyProof.Rows
section
variable (X : Env0) (B : BaseF X.w.params X.h₀) (hA : X.A.handled = none) (κ : Kt) (R : Room X κ 600 3000) (k : Result → Sem Fin) (n T m s em es : Nat) (ms vp : List Value) (rest : List (Addr × Obj)) (g : Array Value)
include B hA R
theorem ext_b (hms : ms.length < 1000) (hvp : vp.length < 1000) (hne : m ≠ s) (cc : Code) (hcc : cc = .builtin "list.extend" ⟨[.ref m, .ref s], []⟩) (hd : Option Value)
    (h : ∀ n' T' em', T ≤ T' → Go X ⟨κ, k (.ok (.ret .none)), (m, lstO (ms ++ vp) em') :: (s, lstO vp es) :: rest, g, n', 820, T'⟩) :
    Go X ⟨.ret cc none k κ, denQ cc, (m, lstO ms em) :: (s, lstO vp es) :: rest, g, n, 820, T⟩ := by
  subst hcc
  have hq : ¬ ((!(Array.mk ms).isEmpty && Builtin.List.listTooLong ((Array.mk ms).size + (Array.mk vp).size)) = true) := fun z => by
    have z := (Bool.and_eq_true_iff.mp z).2
    unfold Builtin.List.listTooLong at z
    rw [decide_eq_true_eq] at z
    have : 16777216 < ms.length + vp.length := z
    (run_tac Drv.lomega)
  run_tac Drv.drive [794, 400000]
  obtain ⟨em', hf⟩ : ∃ em', Obj.mapSeq (fun x => x ++ Array.mk vp) (lstO ms em) = lstO (ms ++ vp) em' := by
    have e : (Array.mk ms ++ Array.mk vp : Array Value) = Array.mk (ms ++ vp) := by show ms.toArray ++ vp.toArray = _; rw [List.append_toArray]
    unfold Obj.mapSeq lstO
    simp only [e]
    exact ⟨_, rfl⟩
  rw [Fast.te494991955013373658] at hf
  refine go_upd B (o' := lstO (ms ++ vp) em') hf rfl ?_
  clear hq
  run_tac Drv.drive [794]
  refine go_drop ((m, lstO (ms ++ vp) em') :: (s, lstO vp es) :: rest) (by repeat (first | exact List.Sublist.refl _ | apply List.Sublist.cons_cons | apply List.Sublist.cons)) fun n1 T1 hT1 => ?_
  exact h n1 T1 _ (by run_tac Drv.tom)
end
end
section
open PySem PySem.W PySem.W.X PyProof.Rows
noncomputable def dfE (P : Params) (a b : Nat) (i j : Int) (m u : Nat) (x y : List Nat) (t0 t1 t2 t3 t4 t5 t6 t7 t8 t9 ta tb : Nat) (sd : Array (Option Value)) : Obj := ⟨.type "frame", none, .dict #[ent P ⟨#[101, 120, 112, 101, 99, 116, 101, 100]⟩ t0 (.ref a), ent P ⟨#[97, 99, 116, 117, 97, 108]⟩ t1 (.ref b), ent P ⟨#[105]⟩ t2 (.int i t3), ent P ⟨#[106]⟩ t4 (.int j t5), ent P ⟨#[109, 105, 115, 115, 105, 110, 103]⟩ t6 (.ref m), ent P ⟨#[117, 110, 101, 120, 112, 101, 99, 116, 101, 100]⟩ t7 (.ref u), ent P ⟨#[101]⟩ t8 (.str (sL x) t9), ent P ⟨#[97]⟩ ta (.str (sL y) tb)] 8, sd⟩
noncomputable def dfTry : List Stmt := match (bodyOf fd794).drop 3 with
  | Stmt.While _ (Stmt.Try b _ _ _ _ :: _) _ _ :: _ => b
  | _ => []
noncomputable def dfIf : List Stmt × List Stmt := match dfTry.drop 2 with
  | Stmt.If _ b e _ :: _ => (b, e)
  | _ => ([], [])
noncomputable def dfIf2 : List Stmt × List Stmt := match dfIf.2 with
  | Stmt.If _ b e _ :: _ => (b, e)
  | _ => ([], [])
noncomputable def dfFin : List Stmt × List Stmt := match dfIf2.2.drop 1 with
  | Stmt.Try b _ _ f _ :: _ => (b, f)
  | _ => ([], [])
noncomputable def wh (L : Addr) : List Stmt → Code
  | Stmt.While t b e _ :: _ => .whileLoop t b e (fEnv fd794 794 L)
  | _ => default
noncomputable def w1 (L : Addr) : Code := wh L (dfIf.1.drop 2)
noncomputable def w2 (L : Addr) : Code := wh L (dfIf2.1.drop 2)
noncomputable def w3 (L : Addr) : Code := wh L dfFin.1
noncomputable def w4 (L : Addr) : Code := wh L (dfFin.2.drop 1)
noncomputable def exO (tup tb : Addr) : Obj := ⟨.type "IndexError", none, .fields #[.ref tup, .ref tb, .none, .none, .bool false, .none], #[]⟩
noncomputable def tbO (L : Nat) (arr : List Value) : Obj := ⟨.type "traceback", none, .fields ⟨.none :: .ref L :: .none :: .int (L : Int) 0 :: .none :: arr⟩, #[]⟩
noncomputable abbrev Rdy (s : Array (Option Value)) : Prop := (s.getD 3 none).isSome = true
section
variable (X : Env0) (B : BaseF X.w.params X.h₀) (hA : X.A.handled = none) (κ : Kt) (R : Room X κ 490 1900) (hκ : handledOf none κ = none) (k : Result → Sem Fin) (a b e1 e2 L : Nat) (ps qs : List (List Nat × Nat)) (L0 e0 : Nat) (en0 : Array DictEntry) (hF : (aA X.A κ).frames = some [fEnv fd794 794 L, fEnv fd818 818 L0]) (g : Array Value) (m u : Nat) (x y : List Nat)
include B hA R hκ hF
theorem w1_no (n T : Nat) (i : Int) (mi : Nat) (him : i = Int.ofNat mi) (hi : i < 1000) (j : Int) (t0 t1 t2 t3 t4 t5 t6 t7 t8 t9 ta tb : Nat) (sl : Array (Option Value)) (rest : List (Addr × Obj)) (z : List Nat) (tz : Nat) (hg : (Array.mk (vsP ps))[mi]? = some (.str (sL z) tz)) (hz : z ≠ x)
    (h : ∀ n' T', T ≤ T' → Go X ⟨κ, k (.ok .next), (L, dfE X.w.params a b i j m u x y t0 t1 t2 t3 t4 t5 t6 t7 t8 t9 ta tb #[]) :: (a, lstO (vsP ps) e1) :: (b, lstO (vsP qs) e2) :: (L0, ⟨.type "frame", none, .dict en0 e0, sl⟩) :: rest, g, n', 820, T'⟩) :
    Go X ⟨.ret (w1 L) none k κ, denQ (w1 L), (L, dfE X.w.params a b i j m u x y t0 t1 t2 t3 t4 t5 t6 t7 t8 t9 ta tb #[]) :: (a, lstO (vsP ps) e1) :: (b, lstO (vsP qs) e2) :: (L0, ⟨.type "frame", none, .dict en0 e0, sl⟩) :: rest, g, n, 820, T⟩ := by
  have hi0 : 0 ≤ i := by rw [him]; exact Int.natCast_nonneg _
  have hl := lne hz
  run_tac Drv.drive [794]
  refine go_drop ((L, dfE X.w.params a b i j m u x y t0 t1 t2 t3 t4 t5 t6 t7 t8 t9 ta tb #[]) :: (a, lstO (vsP ps) e1) :: (b, lstO (vsP qs) e2) :: (L0, ⟨.type "frame", none, .dict en0 e0, sl⟩) :: rest) (by repeat (first | exact List.Sublist.refl _ | apply List.Sublist.cons_cons | apply List.Sublist.cons)) fun n1 T1 hT1 => ?_
  exact h n1 T1 (by run_tac Drv.tom)
theorem w1_yes (n T : Nat) (i : Int) (mi : Nat) (him : i = Int.ofNat mi) (hi : i < 1000) (j : Int) (t0 t1 t2 t3 t4 t5 t6 t7 t8 t9 ta tb : Nat) (sl : Array (Option Value)) (rest : List (Addr × Obj)) (tz : Nat) (hg : (Array.mk (vsP ps))[mi]? = some (.str (sL x) tz))
    (h : ∀ n' T' t', T ≤ T' → Go X ⟨.ret (w1 L) none k κ, denQ (w1 L), (L, dfE X.w.params a b (i + 1) j m u x y t0 t1 t2 t' t4 t5 t6 t7 t8 t9 ta tb #[]) :: (a, lstO (vsP ps) e1) :: (b, lstO (vsP qs) e2) :: (L0, ⟨.type "frame", none, .dict en0 e0, sl⟩) :: rest, g, n', 820, T'⟩) :
    Go X ⟨.ret (w1 L) none k κ, denQ (w1 L), (L, dfE X.w.params a b i j m u x y t0 t1 t2 t3 t4 t5 t6 t7 t8 t9 ta tb #[]) :: (a, lstO (vsP ps) e1) :: (b, lstO (vsP qs) e2) :: (L0, ⟨.type "frame", none, .dict en0 e0, sl⟩) :: rest, g, n, 820, T⟩ := by
  have hi0 : 0 ≤ i := by rw [him]; exact Int.natCast_nonneg _
  have hl := leq x
  run_tac Drv.drive [794]
  refine go_again (by kernel_rfl) ?_
  refine go_drop ((L, dfE X.w.params a b (i + 1) j m u x y t0 t1 t2 _ t4 t5 t6 t7 t8 t9 ta tb #[]) :: (a, lstO (vsP ps) e1) :: (b, lstO (vsP qs) e2) :: (L0, ⟨.type "frame", none, .dict en0 e0, sl⟩) :: rest) (by repeat (first | exact List.Sublist.refl _ | apply List.Sublist.cons_cons | apply List.Sublist.cons)) fun n1 T1 hT1 => ?_
  exact h n1 T1 _ (by run_tac Drv.tom)
theorem w1_err (n T : Nat) (i : Int) (mi : Nat) (him : i = Int.ofNat mi) (hi : i < 1000) (j : Int) (t0 t1 t2 t3 t4 t5 t6 t7 t8 t9 ta tb : Nat) (sl : Array (Option Value)) (rest : List (Addr × Obj)) (hg : (Array.mk (vsP ps))[mi]? = none)
    (h : ∀ n' T' ex tup tbk arr sd sl', T ≤ T' → Rdy sd → Rdy sl' → Go X ⟨κ, k (.error (.ref ex)), (ex, exO tup tbk) :: (tbk, tbO L arr) :: (L, dfE X.w.params a b i j m u x y t0 t1 t2 t3 t4 t5 t6 t7 t8 t9 ta tb sd) :: (a, lstO (vsP ps) e1) :: (b, lstO (vsP qs) e2) :: (L0, ⟨.type "frame", none, .dict en0 e0, sl'⟩) :: rest, g, n', 820, T'⟩) :
    Go X ⟨.ret (w1 L) none k κ, denQ (w1 L), (L, dfE X.w.params a b i j m u x y t0 t1 t2 t3 t4 t5 t6 t7 t8 t9 ta tb #[]) :: (a, lstO (vsP ps) e1) :: (b, lstO (vsP qs) e2) :: (L0, ⟨.type "frame", none, .dict en0 e0, sl⟩) :: rest, g, n, 820, T⟩ := by
  have hi0 : 0 ≤ i := by rw [him]; exact Int.natCast_nonneg _
  by_cases hsl : (sl.getD 3 none).isSome = true
  · run_tac Drv.drive [794]
    refine go_perm ((n + 821, exO (n + 820) (n + 822)) :: (n + 822, tbO L _) :: (_, _) :: (L, dfE X.w.params a b i j m u x y t0 t1 t2 t3 t4 t5 t6 t7 t8 t9 ta tb _) :: (a, lstO (vsP ps) e1) :: (b, lstO (vsP qs) e2) :: (L0, ⟨.type "frame", none, .dict en0 e0, _⟩) :: rest) (perm_at 1 rfl (perm_at 0 rfl (.refl _))) ?_
    refine go_drop ((n + 821, exO (n + 820) (n + 822)) :: (n + 822, tbO L _) :: (L, dfE X.w.params a b i j m u x y t0 t1 t2 t3 t4 t5 t6 t7 t8 t9 ta tb _) :: (a, lstO (vsP ps) e1) :: (b, lstO (vsP qs) e2) :: (L0, ⟨.type "frame", none, .dict en0 e0, _⟩) :: rest) (by repeat (first | exact List.Sublist.refl _ | apply List.Sublist.cons_cons | apply List.Sublist.cons)) fun n1 T1 hT1 => ?_
    exact h n1 T1 _ _ _ _ _ _ (by run_tac Drv.tom) rfl hsl
  · run_tac Drv.drive [794]
    refine go_perm ((n + 821, exO (n + 820) (n + 822)) :: (n + 822, tbO L _) :: (_, _) :: (L, dfE X.w.params a b i j m u x y t0 t1 t2 t3 t4 t5 t6 t7 t8 t9 ta tb _) :: (a, lstO (vsP ps) e1) :: (b, lstO (vsP qs) e2) :: (L0, ⟨.type "frame", none, .dict en0 e0, _⟩) :: rest) (perm_at 1 rfl (perm_at 0 rfl (.refl _))) ?_
    refine go_drop ((n + 821, exO (n + 820) (n + 822)) :: (n + 822, tbO L _) :: (L, dfE X.w.params a b i j m u x y t0 t1 t2 t3 t4 t5 t6 t7 t8 t9 ta tb _) :: (a, lstO (vsP ps) e1) :: (b, lstO (vsP qs) e2) :: (L0, ⟨.type "frame", none, .dict en0 e0, _⟩) :: rest) (by repeat (first | exact List.Sublist.refl _ | apply List.Sublist.cons_cons | apply List.Sublist.cons)) fun n1 T1 hT1 => ?_
    exact h n1 T1 _ _ _ _ _ _ (by run_tac Drv.tom) rfl rfl
theorem w2_no (n T : Nat) (j : Int) (mi : Nat) (him : j = Int.ofNat mi) (hi : j < 1000) (i : Int) (t0 t1 t2 t3 t4 t5 t6 t7 t8 t9 ta tb : Nat) (sl : Array (Option Value)) (rest : List (Addr × Obj)) (z : List Nat) (tz : Nat) (hg : (Array.mk (vsP qs))[mi]? = some (.str (sL z) tz)) (hz : z ≠ y)
    (h : ∀ n' T', T ≤ T' → Go X ⟨κ, k (.ok .next), (L, dfE X.w.params a b i j m u x y t0 t1 t2 t3 t4 t5 t6 t7 t8 t9 ta tb #[]) :: (a, lstO (vsP ps) e1) :: (b, lstO (vsP qs) e2) :: (L0, ⟨.type "frame", none, .dict en0 e0, sl⟩) :: rest, g, n', 820, T'⟩) :
    Go X ⟨.ret (w2 L) none k κ, denQ (w2 L), (L, dfE X.w.params a b i j m u x y t0 t1 t2 t3 t4 t5 t6 t7 t8 t9 ta tb #[]) :: (a, lstO (vsP ps) e1) :: (b, lstO (vsP qs) e2) :: (L0, ⟨.type "frame", none, .dict en0 e0, sl⟩) :: rest, g, n, 820, T⟩ := by
  have hi0 : 0 ≤ j := by rw [him]; exact Int.natCast_nonneg _
  have hl := lne hz
  run_tac Drv.drive [794]
  refine go_drop ((L, dfE X.w.params a b i j m u x y t0 t1 t2 t3 t4 t5 t6 t7 t8 t9 ta tb #[]) :: (a, lstO (vsP ps) e1) :: (b, lstO (vsP qs) e2) :: (L0, ⟨.type "frame", none, .dict en0 e0, sl⟩) :: rest) (by repeat (first | exact List.Sublist.refl _ | apply List.Sublist.cons_cons | apply List.Sublist.cons)) fun n1 T1 hT1 => ?_
  exact h n1 T1 (by run_tac Drv.tom)
theorem w2_yes (n T : Nat) (j : Int) (mi : Nat) (him : j = Int.ofNat mi) (hi : j < 1000) (i : Int) (t0 t1 t2 t3 t4 t5 t6 t7 t8 t9 ta tb : Nat) (sl : Array (Option Value)) (rest : List (Addr × Obj)) (tz : Nat) (hg : (Array.mk (vsP qs))[mi]? = some (.str (sL y) tz))
    (h : ∀ n' T' t', T ≤ T' → Go X ⟨.ret (w2 L) none k κ, denQ (w2 L), (L, dfE X.w.params a b i (j + 1) m u x y t0 t1 t2 t3 t4 t' t6 t7 t8 t9 ta tb #[]) :: (a, lstO (vsP ps) e1) :: (b, lstO (vsP qs) e2) :: (L0, ⟨.type "frame", none, .dict en0 e0, sl⟩) :: rest, g, n', 820, T'⟩) :
    Go X ⟨.ret (w2 L) none k κ, denQ (w2 L), (L, dfE X.w.params a b i j m u x y t0 t1 t2 t3 t4 t5 t6 t7 t8 t9 ta tb #[]) :: (a, lstO (vsP ps) e1) :: (b, lstO (vsP qs) e2) :: (L0, ⟨.type "frame", none, .dict en0 e0, sl⟩) :: rest, g, n, 820, T⟩ := by
  have hi0 : 0 ≤ j := by rw [him]; exact Int.natCast_nonneg _
  have hl := leq y
  run_tac Drv.drive [794]
  refine go_again (by kernel_rfl) ?_
  refine go_drop ((L, dfE X.w.params a b i (j + 1) m u x y t0 t1 t2 t3 t4 _ t6 t7 t8 t9 ta tb #[]) :: (a, lstO (vsP ps) e1) :: (b, lstO (vsP qs) e2) :: (L0, ⟨.type "frame", none, .dict en0 e0, sl⟩) :: rest) (by repeat (first | exact List.Sublist.refl _ | apply List.Sublist.cons_cons | apply List.Sublist.cons)) fun n1 T1 hT1 => ?_
  exact h n1 T1 _ (by run_tac Drv.tom)
theorem w2_err (n T : Nat) (j : Int) (mi : Nat) (him : j = Int.ofNat mi) (hi : j < 1000) (i : Int) (t0 t1 t2 t3 t4 t5 t6 t7 t8 t9 ta tb : Nat) (sl : Array (Option Value)) (rest : List (Addr × Obj)) (hg : (Array.mk (vsP qs))[mi]? = none)
    (h : ∀ n' T' ex tup tbk arr sd sl', T ≤ T' → Rdy sd → Rdy sl' → Go X ⟨κ, k (.error (.ref ex)), (ex, exO tup tbk) :: (tbk, tbO L arr) :: (L, dfE X.w.params a b i j m u x y t0 t1 t2 t3 t4 t5 t6 t7 t8 t9 ta tb sd) :: (a, lstO (vsP ps) e1) :: (b, lstO (vsP qs) e2) :: (L0, ⟨.type "frame", none, .dict en0 e0, sl'⟩) :: rest, g, n', 820, T'⟩) :
    Go X ⟨.ret (w2 L) none k κ, denQ (w2 L), (L, dfE X.w.params a b i j m u x y t0 t1 t2 t3 t4 t5 t6 t7 t8 t9 ta tb #[]) :: (a, lstO (vsP ps) e1) :: (b, lstO (vsP qs) e2) :: (L0, ⟨.type "frame", none, .dict en0 e0, sl⟩) :: rest, g, n, 820, T⟩ := by
  have hi0 : 0 ≤ j := by rw [him]; exact Int.natCast_nonneg _
  by_cases hsl : (sl.getD 3 none).isSome = true
  · run_tac Drv.drive [794]
    refine go_perm ((n + 821, exO (n + 820) (n + 822)) :: (n + 822, tbO L _) :: (_, _) :: (L, dfE X.w.params a b i j m u x y t0 t1 t2 t3 t4 t5 t6 t7 t8 t9 ta tb _) :: (a, lstO (vsP ps) e1) :: (b, lstO (vsP qs) e2) :: (L0, ⟨.type "frame", none, .dict en0 e0, _⟩) :: rest) (perm_at 1 rfl (perm_at 0 rfl (.refl _))) ?_
    refine go_drop ((n + 821, exO (n + 820) (n + 822)) :: (n + 822, tbO L _) :: (L, dfE X.w.params a b i j m u x y t0 t1 t2 t3 t4 t5 t6 t7 t8 t9 ta tb _) :: (a, lstO (vsP ps) e1) :: (b, lstO (vsP qs) e2) :: (L0, ⟨.type "frame", none, .dict en0 e0, _⟩) :: rest) (by repeat (first | exact List.Sublist.refl _ | apply List.Sublist.cons_cons | apply List.Sublist.cons)) fun n1 T1 hT1 => ?_
    exact h n1 T1 _ _ _ _ _ _ (by run_tac Drv.tom) rfl hsl
  · run_tac Drv.drive [794]
    refine go_perm ((n + 821, exO (n + 820) (n + 822)) :: (n + 822, tbO L _) :: (_, _) :: (L, dfE X.w.params a b i j m u x y t0 t1 t2 t3 t4 t5 t6 t7 t8 t9 ta tb _) :: (a, lstO (vsP ps) e1) :: (b, lstO (vsP qs) e2) :: (L0, ⟨.type "frame", none, .dict en0 e0, _⟩) :: rest) (perm_at 1 rfl (perm_at 0 rfl (.refl _))) ?_
    refine go_drop ((n + 821, exO (n + 820) (n + 822)) :: (n + 822, tbO L _) :: (L, dfE X.w.params a b i j m u x y t0 t1 t2 t3 t4 t5 t6 t7 t8 t9 ta tb _) :: (a, lstO (vsP ps) e1) :: (b, lstO (vsP qs) e2) :: (L0, ⟨.type "frame", none, .dict en0 e0, _⟩) :: rest) (by repeat (first | exact List.Sublist.refl _ | apply List.Sublist.cons_cons | apply List.Sublist.cons)) fun n1 T1 hT1 => ?_
    exact h n1 T1 _ _ _ _ _ _ (by run_tac Drv.tom) rfl rfl
theorem w3_no (n T : Nat) (i : Int) (mi : Nat) (him : i = Int.ofNat mi) (hi : i < 1000) (j : Int) (t0 t1 t2 t3 t4 t5 t6 t7 t8 t9 ta tb : Nat) (sl : Array (Option Value)) (rest : List (Addr × Obj)) (z : List Nat) (tz : Nat) (hg : (Array.mk (vsP ps))[mi]? = some (.str (sL z) tz)) (hz : z ≠ x)
    (h : ∀ n' T', T ≤ T' → Go X ⟨κ, k (.ok .next), (L, dfE X.w.params a b i j m u x y t0 t1 t2 t3 t4 t5 t6 t7 t8 t9 ta tb #[]) :: (a, lstO (vsP ps) e1) :: (b, lstO (vsP qs) e2) :: (L0, ⟨.type "frame", none, .dict en0 e0, sl⟩) :: rest, g, n', 820, T'⟩) :
    Go X ⟨.ret (w3 L) none k κ, denQ (w3 L), (L, dfE X.w.params a b i j m u x y t0 t1 t2 t3 t4 t5 t6 t7 t8 t9 ta tb #[]) :: (a, lstO (vsP ps) e1) :: (b, lstO (vsP qs) e2) :: (L0, ⟨.type "frame", none, .dict en0 e0, sl⟩) :: rest, g, n, 820, T⟩ := by
  have hi0 : 0 ≤ i := by rw [him]; exact Int.natCast_nonneg _
  have hl := lne hz
  run_tac Drv.drive [794]
  refine go_drop ((L, dfE X.w.params a b i j m u x y t0 t1 t2 t3 t4 t5 t6 t7 t8 t9 ta tb #[]) :: (a, lstO (vsP ps) e1) :: (b, lstO (vsP qs) e2) :: (L0, ⟨.type "frame", none, .dict en0 e0, sl⟩) :: rest) (by repeat (first | exact List.Sublist.refl _ | apply List.Sublist.cons_cons | apply List.Sublist.cons)) fun n1 T1 hT1 => ?_
  exact h n1 T1 (by run_tac Drv.tom)
theorem w3_yes (n T : Nat) (i : Int) (mi : Nat) (him : i = Int.ofNat mi) (hi : i < 1000) (j : Int) (t0 t1 t2 t3 t4 t5 t6 t7 t8 t9 ta tb : Nat) (sl : Array (Option Value)) (rest : List (Addr × Obj)) (tz : Nat) (hg : (Array.mk (vsP ps))[mi]? = some (.str (sL x) tz))
    (h : ∀ n' T' t', T ≤ T' → Go X ⟨.ret (w3 L) none k κ, denQ (w3 L), (L, dfE X.w.params a b (i + 1) j m u x y t0 t1 t2 t' t4 t5 t6 t7 t8 t9 ta tb #[]) :: (a, lstO (vsP ps) e1) :: (b, lstO (vsP qs) e2) :: (L0, ⟨.type "frame", none, .dict en0 e0, sl⟩) :: rest, g, n', 820, T'⟩) :
    Go X ⟨.ret (w3 L) none k κ, denQ (w3 L), (L, dfE X.w.params a b i j m u x y t0 t1 t2 t3 t4 t5 t6 t7 t8 t9 ta tb #[]) :: (a, lstO (vsP ps) e1) :: (b, lstO (vsP qs) e2) :: (L0, ⟨.type "frame", none, .dict en0 e0, sl⟩) :: rest, g, n, 820, T⟩ := by
  have hi0 : 0 ≤ i := by rw [him]; exact Int.natCast_nonneg _
  have hl := leq x
  run_tac Drv.drive [794]
  refine go_again (by kernel_rfl) ?_
  refine go_drop ((L, dfE X.w.params a b (i + 1) j m u x y t0 t1 t2 _ t4 t5 t6 t7 t8 t9 ta tb #[]) :: (a, lstO (vsP ps) e1) :: (b, lstO (vsP qs) e2) :: (L0, ⟨.type "frame", none, .dict en0 e0, sl⟩) :: rest) (by repeat (first | exact List.Sublist.refl _ | apply List.Sublist.cons_cons | apply List.Sublist.cons)) fun n1 T1 hT1 => ?_
  exact h n1 T1 _ (by run_tac Drv.tom)
theorem w3_err (n T : Nat) (i : Int) (mi : Nat) (him : i = Int.ofNat mi) (hi : i < 1000) (j : Int) (t0 t1 t2 t3 t4 t5 t6 t7 t8 t9 ta tb : Nat) (sl : Array (Option Value)) (rest : List (Addr × Obj)) (hg : (Array.mk (vsP ps))[mi]? = none)
    (h : ∀ n' T' ex tup tbk arr sd sl', T ≤ T' → Rdy sd → Rdy sl' → Go X ⟨κ, k (.error (.ref ex)), (ex, exO tup tbk) :: (tbk, tbO L arr) :: (L, dfE X.w.params a b i j m u x y t0 t1 t2 t3 t4 t5 t6 t7 t8 t9 ta tb sd) :: (a, lstO (vsP ps) e1) :: (b, lstO (vsP qs) e2) :: (L0, ⟨.type "frame", none, .dict en0 e0, sl'⟩) :: rest, g, n', 820, T'⟩) :
    Go X ⟨.ret (w3 L) none k κ, denQ (w3 L), (L, dfE X.w.params a b i j m u x y t0 t1 t2 t3 t4 t5 t6 t7 t8 t9 ta tb #[]) :: (a, lstO (vsP ps) e1) :: (b, lstO (vsP qs) e2) :: (L0, ⟨.type "frame", none, .dict en0 e0, sl⟩) :: rest, g, n, 820, T⟩ := by
  have hi0 : 0 ≤ i := by rw [him]; exact Int.natCast_nonneg _
  by_cases hsl : (sl.getD 3 none).isSome = true
  · run_tac Drv.drive [794]
    refine go_perm ((n + 821, exO (n + 820) (n + 822)) :: (n + 822, tbO L _) :: (_, _) :: (L, dfE X.w.params a b i j m u x y t0 t1 t2 t3 t4 t5 t6 t7 t8 t9 ta tb _) :: (a, lstO (vsP ps) e1) :: (b, lstO (vsP qs) e2) :: (L0, ⟨.type "frame", none, .dict en0 e0, _⟩) :: rest) (perm_at 1 rfl (perm_at 0 rfl (.refl _))) ?_
    refine go_drop ((n + 821, exO (n + 820) (n + 822)) :: (n + 822, tbO L _) :: (L, dfE X.w.params a b i j m u x y t0 t1 t2 t3 t4 t5 t6 t7 t8 t9 ta tb _) :: (a, lstO (vsP ps) e1) :: (b, lstO (vsP qs) e2) :: (L0, ⟨.type "frame", none, .dict en0 e0, _⟩) :: rest) (by repeat (first | exact List.Sublist.refl _ | apply List.Sublist.cons_cons | apply List.Sublist.cons)) fun n1 T1 hT1 => ?_
    exact h n1 T1 _ _ _ _ _ _ (by run_tac Drv.tom) rfl hsl
  · run_tac Drv.drive [794]
    refine go_perm ((n + 821, exO (n + 820) (n + 822)) :: (n + 822, tbO L _) :: (_, _) :: (L, dfE X.w.params a b i j m u x y t0 t1 t2 t3 t4 t5 t6 t7 t8 t9 ta tb _) :: (a, lstO (vsP ps) e1) :: (b, lstO (vsP qs) e2) :: (L0, ⟨.type "frame", none, .dict en0 e0, _⟩) :: rest) (perm_at 1 rfl (perm_at 0 rfl (.refl _))) ?_
    refine go_drop ((n + 821, exO (n + 820) (n + 822)) :: (n + 822, tbO L _) :: (L, dfE X.w.params a b i j m u x y t0 t1 t2 t3 t4 t5 t6 t7 t8 t9 ta tb _) :: (a, lstO (vsP ps) e1) :: (b, lstO (vsP qs) e2) :: (L0, ⟨.type "frame", none, .dict en0 e0, _⟩) :: rest) (by repeat (first | exact List.Sublist.refl _ | apply List.Sublist.cons_cons | apply List.Sublist.cons)) fun n1 T1 hT1 => ?_
    exact h n1 T1 _ _ _ _ _ _ (by run_tac Drv.tom) rfl rfl
theorem w4_no (n T : Nat) (j : Int) (mi : Nat) (him : j = Int.ofNat mi) (hi : j < 1000) (i : Int) (t0 t1 t2 t3 t4 t5 t6 t7 t8 t9 ta tb : Nat) (sl : Array (Option Value)) (rest : List (Addr × Obj)) (z : List Nat) (tz : Nat) (hg : (Array.mk (vsP qs))[mi]? = some (.str (sL z) tz)) (hz : z ≠ y)
    (h : ∀ n' T', T ≤ T' → Go X ⟨κ, k (.ok .next), (L, dfE X.w.params a b i j m u x y t0 t1 t2 t3 t4 t5 t6 t7 t8 t9 ta tb #[]) :: (a, lstO (vsP ps) e1) :: (b, lstO (vsP qs) e2) :: (L0, ⟨.type "frame", none, .dict en0 e0, sl⟩) :: rest, g, n', 820, T'⟩) :
    Go X ⟨.ret (w4 L) none k κ, denQ (w4 L), (L, dfE X.w.params a b i j m u x y t0 t1 t2 t3 t4 t5 t6 t7 t8 t9 ta tb #[]) :: (a, lstO (vsP ps) e1) :: (b, lstO (vsP qs) e2) :: (L0, ⟨.type "frame", none, .dict en0 e0, sl⟩) :: rest, g, n, 820, T⟩ := by
  have hi0 : 0 ≤ j := by rw [him]; exact Int.natCast_nonneg _
  have hl := lne hz
  run_tac Drv.drive [794]
  refine go_drop ((L, dfE X.w.params a b i j m u x y t0 t1 t2 t3 t4 t5 t6 t7 t8 t9 ta tb #[]) :: (a, lstO (vsP ps) e1) :: (b, lstO (vsP qs) e2) :: (L0, ⟨.type "frame", none, .dict en0 e0, sl⟩) :: rest) (by repeat (first | exact List.Sublist.refl _ | apply List.Sublist.cons_cons | apply List.Sublist.cons)) fun n1 T1 hT1 => ?_
  exact h n1 T1 (by run_tac Drv.tom)
theorem w4_yes (n T : Nat) (j : Int) (mi : Nat) (him : j = Int.ofNat mi) (hi : j < 1000) (i : Int) (t0 t1 t2 t3 t4 t5 t6 t7 t8 t9 ta tb : Nat) (sl : Array (Option Value)) (rest : List (Addr × Obj)) (tz : Nat) (hg : (Array.mk (vsP qs))[mi]? = some (.str (sL y) tz))
    (h : ∀ n' T' t', T ≤ T' → Go X ⟨.ret (w4 L) none k κ, denQ (w4 L), (L, dfE X.w.params a b i (j + 1) m u x y t0 t1 t2 t3 t4 t' t6 t7 t8 t9 ta tb #[]) :: (a, lstO (vsP ps) e1) :: (b, lstO (vsP qs) e2) :: (L0, ⟨.type "frame", none, .dict en0 e0, sl⟩) :: rest, g, n', 820, T'⟩) :
    Go X ⟨.ret (w4 L) none k κ, denQ (w4 L), (L, dfE X.w.params a b i j m u x y t0 t1 t2 t3 t4 t5 t6 t7 t8 t9 ta tb #[]) :: (a, lstO (vsP ps) e1) :: (b, lstO (vsP qs) e2) :: (L0, ⟨.type "frame", none, .dict en0 e0, sl⟩) :: rest, g, n, 820, T⟩ := by
  have hi0 : 0 ≤ j := by rw [him]; exact Int.natCast_nonneg _
  have hl := leq y
  run_tac Drv.drive [794]
  refine go_again (by kernel_rfl) ?_
  refine go_drop ((L, dfE X.w.params a b i (j + 1) m u x y t0 t1 t2 t3 t4 _ t6 t7 t8 t9 ta tb #[]) :: (a, lstO (vsP ps) e1) :: (b, lstO (vsP qs) e2) :: (L0, ⟨.type "frame", none, .dict en0 e0, sl⟩) :: rest) (by repeat (first | exact List.Sublist.refl _ | apply List.Sublist.cons_cons | apply List.Sublist.cons)) fun n1 T1 hT1 => ?_
  exact h n1 T1 _ (by run_tac Drv.tom)
theorem w4_err (n T : Nat) (j : Int) (mi : Nat) (him : j = Int.ofNat mi) (hi : j < 1000) (i : Int) (t0 t1 t2 t3 t4 t5 t6 t7 t8 t9 ta tb : Nat) (sl : Array (Option Value)) (rest : List (Addr × Obj)) (hg : (Array.mk (vsP qs))[mi]? = none)
    (h : ∀ n' T' ex tup tbk arr sd sl', T ≤ T' → Rdy sd → Rdy sl' → Go X ⟨κ, k (.error (.ref ex)), (ex, exO tup tbk) :: (tbk, tbO L arr) :: (L, dfE X.w.params a b i j m u x y t0 t1 t2 t3 t4 t5 t6 t7 t8 t9 ta tb sd) :: (a, lstO (vsP ps) e1) :: (b, lstO (vsP qs) e2) :: (L0, ⟨.type "frame", none, .dict en0 e0, sl'⟩) :: rest, g, n', 820, T'⟩) :
    Go X ⟨.ret (w4 L) none k κ, denQ (w4 L), (L, dfE X.w.params a b i j m u x y t0 t1 t2 t3 t4 t5 t6 t7 t8 t9 ta tb #[]) :: (a, lstO (vsP ps) e1) :: (b, lstO (vsP qs) e2) :: (L0, ⟨.type "frame", none, .dict en0 e0, sl⟩) :: rest, g, n, 820, T⟩ := by
  have hi0 : 0 ≤ j := by rw [him]; exact Int.natCast_nonneg _
  by_cases hsl : (sl.getD 3 none).isSome = true
  · run_tac Drv.drive [794]
    refine go_perm ((n + 821, exO (n + 820) (n + 822)) :: (n + 822, tbO L _) :: (_, _) :: (L, dfE X.w.params a b i j m u x y t0 t1 t2 t3 t4 t5 t6 t7 t8 t9 ta tb _) :: (a, lstO (vsP ps) e1) :: (b, lstO (vsP qs) e2) :: (L0, ⟨.type "frame", none, .dict en0 e0, _⟩) :: rest) (perm_at 1 rfl (perm_at 0 rfl (.refl _))) ?_
    refine go_drop ((n + 821, exO (n + 820) (n + 822)) :: (n + 822, tbO L _) :: (L, dfE X.w.params a b i j m u x y t0 t1 t2 t3 t4 t5 t6 t7 t8 t9 ta tb _) :: (a, lstO (vsP ps) e1) :: (b, lstO (vsP qs) e2) :: (L0, ⟨.type "frame", none, .dict en0 e0, _⟩) :: rest) (by repeat (first | exact List.Sublist.refl _ | apply List.Sublist.cons_cons | apply List.Sublist.cons)) fun n1 T1 hT1 => ?_
    exact h n1 T1 _ _ _ _ _ _ (by run_tac Drv.tom) rfl hsl
  · run_tac Drv.drive [794]
    refine go_perm ((n + 821, exO (n + 820) (n + 822)) :: (n + 822, tbO L _) :: (_, _) :: (L, dfE X.w.params a b i j m u x y t0 t1 t2 t3 t4 t5 t6 t7 t8 t9 ta tb _) :: (a, lstO (vsP ps) e1) :: (b, lstO (vsP qs) e2) :: (L0, ⟨.type "frame", none, .dict en0 e0, _⟩) :: rest) (perm_at 1 rfl (perm_at 0 rfl (.refl _))) ?_
    refine go_drop ((n + 821, exO (n + 820) (n + 822)) :: (n + 822, tbO L _) :: (L, dfE X.w.params a b i j m u x y t0 t1 t2 t3 t4 t5 t6 t7 t8 t9 ta tb _) :: (a, lstO (vsP ps) e1) :: (b, lstO (vsP qs) e2) :: (L0, ⟨.type "frame", none, .dict en0 e0, _⟩) :: rest) (by repeat (first | exact List.Sublist.refl _ | apply List.Sublist.cons_cons | apply List.Sublist.cons)) fun n1 T1 hT1 => ?_
    exact h n1 T1 _ _ _ _ _ _ (by run_tac Drv.tom) rfl rfl
end
end
section
open PySem PySem.W PySem.W.X PyProof.Rows
noncomputable def dfLoop (L : Addr) : Code := match (bodyOf fd794).drop 3 with
  | Stmt.While t b e _ :: _ => .whileLoop t b e (fEnv fd794 794 L)
  | _ => default
theorem pick_drop (l : List Value) (m : Nat) : ∀ (c : Nat), m + c ≤ l.length → List.filterMap (fun x => (Array.mk l)[x]?) ((List.range c).map (m + ·)) = (l.drop m).take c
  | 0, _ => by simp
  | c + 1, h => by
    rw [List.range_succ, List.map_append, List.filterMap_append, pick_drop l m c (by run_tac Drv.tom), List.take_add_one]
    congr 1
    have : (Array.mk l)[m + c]? = some l[m + c] := by
      show l.toArray[m + c]? = _
      rw [List.getElem?_toArray]; exact List.getElem?_eq_getElem (by run_tac Drv.tom)
    rw [List.map_cons, List.map_nil, List.filterMap_cons, this, List.getElem?_drop, List.getElem?_eq_getElem (by run_tac Drv.tom)]
    rfl
theorem tsl (l : List Value) (i : Int) (mi : Nat) (him : i = Int.ofNat mi) : List.filterMap (fun x => (Array.mk l)[x]?) (Fast.tw10209042966406643723 (max 0 (min (if i < 0 then i + ((Array.mk l).size : Int) else i) ((Array.mk l).size : Int))) (if (1 : Int) > 0 then ((Array.mk l).size : Int) else -1) 1) = l.drop mi := by
  rw [← Fast.te10209042966406643723]
  have hs : ((Array.mk l).size : Int) = (l.length : Int) := rfl
  have hi : i = (mi : Int) := him
  rw [hs, if_neg (by run_tac Drv.tom), if_pos (by decide), show max (0 : Int) (min i (l.length : Int)) = ((min mi l.length : Nat) : Int) from by rw [hi]; exact maxmin _ _, sliceRange_one, pick_drop _ _ _ (by run_tac Drv.tom)]
  by_cases h : mi ≤ l.length
  · rw [show min mi l.length = mi from by run_tac Drv.tom, List.take_of_length_le (by rw [List.length_drop]; exact Nat.le_refl _)]
  · rw [show min mi l.length = l.length from by run_tac Drv.tom]
    rw [List.drop_of_length_le (by run_tac Drv.tom : l.length ≤ mi)]
    simp
theorem go_nd {X : Env0} {κ : Kt} {t : Sem Fin} {l : List (Addr × Obj)} {g : Array Value} {n c T : Nat} (h : (l.map (·.1)).Nodup → Go X ⟨κ, t, l, g, n, c, T⟩) : Go X ⟨κ, t, l, g, n, c, T⟩ := fun hp O => h O.nd hp O
noncomputable def dfHs : List ExceptHandler := match (bodyOf fd794).drop 3 with
  | Stmt.While _ (Stmt.Try _ [.ExceptHandler _ nm body pos] _ _ _ :: _) _ _ :: _ => [.ExceptHandler none nm body pos]
  | _ => []
noncomputable def dfG (P : Params) (a b : Nat) (i j : Int) (m u : Nat) (t0 t1 t2 t3 t4 t5 t6 t7 : Nat) (tl : List DictEntry) (nn : Nat) (sd : Array (Option Value)) : Obj := ⟨.type "frame", none, .dict ⟨ent P ⟨#[101, 120, 112, 101, 99, 116, 101, 100]⟩ t0 (.ref a) :: ent P ⟨#[97, 99, 116, 117, 97, 108]⟩ t1 (.ref b) :: ent P ⟨#[105]⟩ t2 (.int i t3) :: ent P ⟨#[106]⟩ t4 (.int j t5) :: ent P ⟨#[109, 105, 115, 115, 105, 110, 103]⟩ t6 (.ref m) :: ent P ⟨#[117, 110, 101, 120, 112, 101, 99, 116, 101, 100]⟩ t7 (.ref u) :: tl⟩ nn, sd⟩
noncomputable def exX (tup tb : Addr) (c : Value) : Obj := ⟨.type "IndexError", none, .fields #[.ref tup, .ref tb, c, .none, .bool false, .none], #[]⟩
noncomputable def tbN (L : Nat) (arr : List Value) : Obj := ⟨.type "traceback", none, .fields ⟨.none :: .ref L :: .none :: .none :: .none :: arr⟩, #[]⟩
theorem nd_ne {l : List (Addr × Obj)} {a b : Addr} (h : (l.map (·.1)).Nodup) (i j : Nat) (hi : (l.map (·.1))[i]? = some a) (hj : (l.map (·.1))[j]? = some b) (hij : i ≠ j) : a ≠ b := fun e => by
  subst e
  exact hij ((List.getElem?_inj (List.getElem?_eq_some_iff.mp hi).1 h).mp (hi.trans hj.symm))
section
variable (X : Env0) (B : BaseF X.w.params X.h₀) (hA : X.A.handled = none) (κ : Kt) (R : Room X κ 480 1800) (hκ : handledOf none κ = none) (k : Result → Sem Fin) (a b e1 e2 L : Nat) (ps qs : List (List Nat × Nat)) (L0 e0 : Nat) (en0 : Array DictEntry) (g : Array Value) (m u : Nat)
include B hA R hκ
theorem hnd_s (gd : Bool) (lv : List Value) (n T : Nat) (i j : Int) (mi mj : Nat) (him : i = Int.ofNat mi) (hjm : j = Int.ofNat mj) (t0 t1 t2 t3 t4 t5 t6 t7 : Nat) (tl : List DictEntry) (nn : Nat) (ms us : List Value) (em eu : Nat) (sd : Array (Option Value)) (rest : List (Addr × Obj)) (ex tup tbk : Nat) (cx : Value) (arr : List Value) (hms : ms.length < 1000) (hus : us.length < 1000) (hpe : (vsP ps).length < 1000) (hqe : (vsP qs).length < 1000)
    (h : ∀ n' T' em' eu', T ≤ T' → Go X ⟨κ, k (.ok .brk), (m, lstO (ms ++ (vsP ps).drop mi) em') :: (u, lstO (us ++ (vsP qs).drop mj) eu') :: (L, dfG X.w.params a b i j m u t0 t1 t2 t3 t4 t5 t6 t7 tl nn sd) :: (a, lstO (vsP ps) e1) :: (b, lstO (vsP qs) e2) :: rest, g, n', 820, T'⟩) :
    Go X ⟨κ, .call (.handlers (.ref ex) dfHs (fEnv fd794 794 L)) (some (.ref ex)) gd lv k, (ex, exX tup tbk cx) :: (tbk, tbN L arr) :: (L, dfG X.w.params a b i j m u t0 t1 t2 t3 t4 t5 t6 t7 tl nn sd) :: (a, lstO (vsP ps) e1) :: (b, lstO (vsP qs) e2) :: (m, lstO ms em) :: (u, lstO us eu) :: rest, g, n, 820, T⟩ := by
  have hi0 : 0 ≤ i := by rw [him]; exact Int.natCast_nonneg _
  have hj0 : 0 ≤ j := by rw [hjm]; exact Int.natCast_nonneg _
  have hd1 : ((vsP ps).drop mi).length < 1000 := by rw [List.length_drop]; (run_tac Drv.lomega)
  have hd2 : ((vsP qs).drop mj).length < 1000 := by rw [List.length_drop]; (run_tac Drv.lomega)
  refine go_enter rfl ?_
  run_tac Drv.drive [794]
  have htold := (tsl (vsP ps) i mi him)
  run_tac Drv.toldN `htold
  clear htold
  generalize (vsP ps).drop mi = vp at *
  run_tac Drv.drive [794, 100011]
  refine go_nd fun hnd => ?_
  have hme : ¬ m = n + 821 := nd_ne hnd 7 0 rfl rfl (by decide)
  clear hnd
  refine go_again (by kernel_rfl) ?_
  refine go_perm ((m, lstO ms em) :: (n + 821, lstO vp 0) :: (_, _) :: (ex, exX tup tbk cx) :: (tbk, tbN L arr) :: (L, dfG X.w.params a b i j m u t0 t1 t2 t3 t4 t5 t6 t7 tl nn sd) :: (a, lstO (vsP ps) e1) :: (b, lstO (vsP qs) e2) :: (u, lstO us eu) :: rest) (perm_at 7 rfl (perm_at 0 rfl (perm_at 0 rfl (.refl _)))) ?_
  refine go_drop ((m, lstO ms em) :: (n + 821, lstO vp 0) :: (ex, exX tup tbk cx) :: (tbk, tbN L arr) :: (L, dfG X.w.params a b i j m u t0 t1 t2 t3 t4 t5 t6 t7 tl nn sd) :: (a, lstO (vsP ps) e1) :: (b, lstO (vsP qs) e2) :: (u, lstO us eu) :: rest) (by repeat (first | exact List.Sublist.refl _ | apply List.Sublist.cons_cons | apply List.Sublist.cons)) fun n1 T1 hT1 => ?_
  refine ext_b X B hA _ (by exact R.ret.le rfl rfl) _ n1 T1 m (n + 821) em 0 ms vp _ g hms hd1 hme _ (by kernel_rfl) none fun n2 T2 em' hT2 => ?_
  refine go_drop ((m, lstO (ms ++ vp) em') :: (ex, exX tup tbk cx) :: (tbk, tbN L arr) :: (L, dfG X.w.params a b i j m u t0 t1 t2 t3 t4 t5 t6 t7 tl nn sd) :: (a, lstO (vsP ps) e1) :: (b, lstO (vsP qs) e2) :: (u, lstO us eu) :: rest) (by repeat (first | exact List.Sublist.refl _ | apply List.Sublist.cons_cons | apply List.Sublist.cons)) fun n3 T3 hT3 => ?_
  run_tac Drv.drive [794]
  have htold := (tsl (vsP qs) j mj hjm)
  run_tac Drv.toldN `htold
  clear htold
  generalize (vsP qs).drop mj = vq at *
  run_tac Drv.drive [794, 100011]
  refine go_nd fun hnd => ?_
  have hue : ¬ u = n3 + 821 := nd_ne hnd 8 0 rfl rfl (by decide)
  clear hnd
  refine go_again (by kernel_rfl) ?_
  refine go_perm ((u, lstO us eu) :: (n3 + 821, lstO vq 0) :: (_, _) :: (m, lstO (ms ++ vp) em') :: (ex, exX tup tbk cx) :: (tbk, tbN L arr) :: (L, dfG X.w.params a b i j m u t0 t1 t2 t3 t4 t5 t6 t7 tl nn sd) :: (a, lstO (vsP ps) e1) :: (b, lstO (vsP qs) e2) :: rest) (perm_at 8 rfl (perm_at 0 rfl (perm_at 0 rfl (.refl _)))) ?_
  refine go_drop ((u, lstO us eu) :: (n3 + 821, lstO vq 0) :: (m, lstO (ms ++ vp) em') :: (ex, exX tup tbk cx) :: (tbk, tbN L arr) :: (L, dfG X.w.params a b i j m u t0 t1 t2 t3 t4 t5 t6 t7 tl nn sd) :: (a, lstO (vsP ps) e1) :: (b, lstO (vsP qs) e2) :: rest) (by repeat (first | exact List.Sublist.refl _ | apply List.Sublist.cons_cons | apply List.Sublist.cons)) fun n4 T4 hT4 => ?_
  refine ext_b X B hA _ (by exact R.ret.le rfl rfl) _ n4 T4 u (n3 + 821) eu 0 us vq _ g hus hd2 hue _ (by kernel_rfl) none fun n5 T5 eu' hT5 => ?_
  refine go_perm ((m, lstO (ms ++ vp) em') :: (u, lstO (us ++ vq) eu') :: (L, dfG X.w.params a b i j m u t0 t1 t2 t3 t4 t5 t6 t7 tl nn sd) :: (a, lstO (vsP ps) e1) :: (b, lstO (vsP qs) e2) :: (n3 + 821, lstO vq 0) :: (ex, exX tup tbk cx) :: (tbk, tbN L arr) :: rest) (perm_at 2 rfl (perm_at 0 rfl (perm_at 3 rfl (perm_at 3 rfl (perm_at 3 rfl (.refl _)))))) ?_
  run_tac Drv.drive [794]
  refine go_drop ((m, lstO (ms ++ vp) em') :: (u, lstO (us ++ vq) eu') :: (L, dfG X.w.params a b i j m u t0 t1 t2 t3 t4 t5 t6 t7 tl nn sd) :: (a, lstO (vsP ps) e1) :: (b, lstO (vsP qs) e2) :: rest) (by repeat (first | exact List.Sublist.refl _ | apply List.Sublist.cons_cons | apply List.Sublist.cons)) fun n6 T6 hT6 => ?_
  exact h n6 T6 _ _ (by run_tac Drv.tom)
end
end
section
open PySem PySem.W PySem.W.X PyProof.Rows
noncomputable def tlA (P : Params) (x y : List Nat) (t8 t9 ta tb : Nat) : List DictEntry := [ent P ⟨#[101]⟩ t8 (.str (sL x) t9), ent P ⟨#[97]⟩ ta (.str (sL y) tb)]
noncomputable def IsDf (P : Params) (a b m u : Nat) (fr : Obj) : Prop := ∃ i j t0 t1 t2 t3 t4 t5 t6 t7 tl nn sd, fr = dfG P a b i j m u t0 t1 t2 t3 t4 t5 t6 t7 tl nn sd
section
variable (X : Env0) (B : BaseF X.w.params X.h₀) (hA : X.A.handled = none) (κ : Kt) (R : Room X κ 470 1700) (hκ : handledOf none κ = none) (k : Result → Sem Fin) (a b e1 e2 L : Nat) (ps qs : List (List Nat × Nat)) (L0 e0 : Nat) (en0 : Array DictEntry) (hF : (aA X.A κ).frames = some [fEnv fd794 794 L, fEnv fd818 818 L0]) (g : Array Value) (m u : Nat)
include B hA R hκ hF
theorem s_exp (n T : Nat) (i j : Int) (mi mj : Nat) (him : i = Int.ofNat mi) (hjm : j = Int.ofNat mj) (hi : i < 1000) (t0 t1 t2 t3 t4 t5 t6 t7 : Nat) (tl : List DictEntry) (nn : Nat) (ms us : List Value) (em eu : Nat) (sl : Array (Option Value)) (rest : List (Addr × Obj)) (hms : ms.length < 1000) (hus : us.length < 1000) (hpe : (vsP ps).length < 1000) (hqe : (vsP qs).length < 1000) (hg : (Array.mk (vsP ps))[mi]? = none)
    (h : ∀ n' T' em' eu' fr sl', T ≤ T' → IsDf X.w.params a b m u fr → Go X ⟨κ, k (.ok .next), (m, lstO (ms ++ (vsP ps).drop mi) em') :: (u, lstO (us ++ (vsP qs).drop mj) eu') :: (L, fr) :: (a, lstO (vsP ps) e1) :: (b, lstO (vsP qs) e2) :: (L0, ⟨.type "frame", none, .dict en0 e0, sl'⟩) :: rest, g, n', 820, T'⟩) :
    Go X ⟨.ret (dfLoop L) none k κ, denQ (dfLoop L), (L, dfG X.w.params a b i j m u t0 t1 t2 t3 t4 t5 t6 t7 tl nn #[]) :: (a, lstO (vsP ps) e1) :: (b, lstO (vsP qs) e2) :: (L0, ⟨.type "frame", none, .dict en0 e0, sl⟩) :: (m, lstO ms em) :: (u, lstO us eu) :: rest, g, n, 820, T⟩ := by
  have hi0 : 0 ≤ i := by rw [him]; exact Int.natCast_nonneg _
  refine' go_cut (p := ∀ n1 T1 (qr : List Value) (qd qz : Array (Option Value)), T ≤ T1 → Go X ⟨_, _, (n + 821, exO (n + 820) (n + 822)) :: (n + 822, tbN L qr) :: (L, dfG X.w.params a b i j m u t0 t1 t2 t3 t4 t5 t6 t7 tl nn qd) :: (a, lstO (vsP ps) e1) :: (b, lstO (vsP qs) e2) :: (m, lstO ms em) :: (u, lstO us eu) :: (L0, ⟨.type "frame", none, .dict en0 e0, qz⟩) :: rest, g, n1, 820, T1⟩) (fun key => ?_) ?_
  rotate_left 2
  · by_cases hsl : (sl.getD 3 none).isSome = true
    all_goals
      run_tac Drv.drive [794, 200000]
      refine go_enter rfl ?_
      run_tac Drv.drive [794, 200000]
      refine go_perm ((n + 821, exO (n + 820) (n + 822)) :: (n + 822, tbN L _) :: (L, dfG X.w.params a b i j m u t0 t1 t2 t3 t4 t5 t6 t7 tl nn _) :: (a, lstO (vsP ps) e1) :: (b, lstO (vsP qs) e2) :: (m, lstO ms em) :: (u, lstO us eu) :: (L0, ⟨.type "frame", none, .dict en0 e0, _⟩) :: (_, _) :: rest) (perm_at 1 rfl (perm_at 0 rfl (perm_at 1 rfl (perm_at 1 rfl (perm_at 1 rfl (perm_at 2 rfl (perm_at 2 rfl (perm_at 1 rfl (.refl _))))))))) ?_
      refine go_drop ((n + 821, exO (n + 820) (n + 822)) :: (n + 822, tbN L _) :: (L, dfG X.w.params a b i j m u t0 t1 t2 t3 t4 t5 t6 t7 tl nn _) :: (a, lstO (vsP ps) e1) :: (b, lstO (vsP qs) e2) :: (m, lstO ms em) :: (u, lstO us eu) :: (L0, ⟨.type "frame", none, .dict en0 e0, _⟩) :: rest) (by repeat (first | exact List.Sublist.refl _ | apply List.Sublist.cons_cons | apply List.Sublist.cons)) fun n1 T1 hT1 => ?_
      exact key n1 T1 _ _ _ (by run_tac Drv.tom)
  · intro n1 T1 qr qd qz hT1
    refine hnd_s X B hA _ (by exact R.ret.le rfl rfl) (by exact hκ) _ a b e1 e2 L ps qs g m u _ _ n1 T1 i j mi mj him hjm t0 t1 t2 t3 t4 t5 t6 t7 tl nn ms us em eu _ _ (n + 821) (n + 820) (n + 822) .none _ hms hus hpe hqe fun n2 T2 em' eu' hT2 => ?_
    generalize (vsP ps).drop mi = vp at *
    generalize (vsP qs).drop mj = vq at *
    run_tac Drv.drive [794]
    refine go_drop ((m, lstO (ms ++ vp) em') :: (u, lstO (us ++ vq) eu') :: (L, dfG X.w.params a b i j m u t0 t1 t2 t3 t4 t5 t6 t7 tl nn _) :: (a, lstO (vsP ps) e1) :: (b, lstO (vsP qs) e2) :: (L0, ⟨.type "frame", none, .dict en0 e0, _⟩) :: rest) (by repeat (first | exact List.Sublist.refl _ | apply List.Sublist.cons_cons | apply List.Sublist.cons)) fun n3 T3 hT3 => ?_
    exact h n3 T3 em' eu' _ _ (by run_tac Drv.tom) ⟨_, _, _, _, _, _, _, _, _, _, _, _, _, rfl⟩
theorem s_act (n T : Nat) (i j : Int) (mi mj : Nat) (him : i = Int.ofNat mi) (hjm : j = Int.ofNat mj) (hi : i < 1000) (hj : j < 1000) (t0 t1 t2 t3 t4 t5 t6 t7 : Nat) (tl : List DictEntry) (nn : Nat) (htl : (tl = [] ∧ nn = 6) ∨ ∃ x' y' t8 t9 ta tb, tl = tlA X.w.params x' y' t8 t9 ta tb ∧ nn = 8) (ms us : List Value) (em eu : Nat) (sl : Array (Option Value)) (rest : List (Addr × Obj)) (hms : ms.length < 1000) (hus : us.length < 1000) (hpe : (vsP ps).length < 1000) (hqe : (vsP qs).length < 1000) (x : List Nat) (tx : Nat) (hg : (Array.mk (vsP ps))[mi]? = some (.str (sL x) tx)) (hg2 : (Array.mk (vsP qs))[mj]? = none)
    (h : ∀ n' T' em' eu' fr sl', T ≤ T' → IsDf X.w.params a b m u fr → Go X ⟨κ, k (.ok .next), (m, lstO (ms ++ (vsP ps).drop mi) em') :: (u, lstO (us ++ (vsP qs).drop mj) eu') :: (L, fr) :: (a, lstO (vsP ps) e1) :: (b, lstO (vsP qs) e2) :: (L0, ⟨.type "frame", none, .dict en0 e0, sl'⟩) :: rest, g, n', 820, T'⟩) :
    Go X ⟨.ret (dfLoop L) none k κ, denQ (dfLoop L), (L, dfG X.w.params a b i j m u t0 t1 t2 t3 t4 t5 t6 t7 tl nn #[]) :: (a, lstO (vsP ps) e1) :: (b, lstO (vsP qs) e2) :: (L0, ⟨.type "frame", none, .dict en0 e0, sl⟩) :: (m, lstO ms em) :: (u, lstO us eu) :: rest, g, n, 820, T⟩ := by
  have hi0 : 0 ≤ i := by rw [him]; exact Int.natCast_nonneg _
  have hj0 : 0 ≤ j := by rw [hjm]; exact Int.natCast_nonneg _
  refine' go_cut (p := ∀ n1 T1 (qr : List Value) (qd qz : Array (Option Value)) (ql : List DictEntry) (qn : Nat), T ≤ T1 → Go X ⟨_, _, (n + 821, exO (n + 820) (n + 822)) :: (n + 822, tbN L qr) :: (L, dfG X.w.params a b i j m u t0 t1 t2 t3 t4 t5 t6 t7 ql qn qd) :: (a, lstO (vsP ps) e1) :: (b, lstO (vsP qs) e2) :: (m, lstO ms em) :: (u, lstO us eu) :: (L0, ⟨.type "frame", none, .dict en0 e0, qz⟩) :: rest, g, n1, 820, T1⟩) (fun key => ?_) ?_
  rotate_left 2
  · by_cases  hsl : (sl.getD 3 none).isSome = true <;> rcases htl with ⟨rfl, rfl⟩ | ⟨x', y', t8, t9, ta, tb, rfl, rfl⟩
    all_goals
      run_tac Drv.drive [794, 200000]
      refine go_enter rfl ?_
      run_tac Drv.drive [794, 200000]
      refine go_perm ((n + 821, exO (n + 820) (n + 822)) :: (n + 822, tbN L _) :: (L, dfG X.w.params a b i j m u t0 t1 t2 t3 t4 t5 t6 t7 _ _ _) :: (a, lstO (vsP ps) e1) :: (b, lstO (vsP qs) e2) :: (m, lstO ms em) :: (u, lstO us eu) :: (L0, ⟨.type "frame", none, .dict en0 e0, _⟩) :: (_, _) :: rest) (perm_at 1 rfl (perm_at 0 rfl (perm_at 1 rfl (perm_at 1 rfl (perm_at 1 rfl (perm_at 2 rfl (perm_at 2 rfl (perm_at 1 rfl (.refl _))))))))) ?_
      refine go_drop ((n + 821, exO (n + 820) (n + 822)) :: (n + 822, tbN L _) :: (L, dfG X.w.params a b i j m u t0 t1 t2 t3 t4 t5 t6 t7 _ _ _) :: (a, lstO (vsP ps) e1) :: (b, lstO (vsP qs) e2) :: (m, lstO ms em) :: (u, lstO us eu) :: (L0, ⟨.type "frame", none, .dict en0 e0, _⟩) :: rest) (by repeat (first | exact List.Sublist.refl _ | apply List.Sublist.cons_cons | apply List.Sublist.cons)) fun n1 T1 hT1 => ?_
      exact key n1 T1 _ _ _ _ _ (by run_tac Drv.tom)
  · intro n1 T1 qr qd qz ql qn hT1
    refine hnd_s X B hA _ (by exact R.ret.le rfl rfl) (by exact hκ) _ a b e1 e2 L ps qs g m u _ _ n1 T1 i j mi mj him hjm t0 t1 t2 t3 t4 t5 t6 t7 _ _ ms us em eu _ _ (n + 821) (n + 820) (n + 822) .none _ hms hus hpe hqe fun n2 T2 em' eu' hT2 => ?_
    generalize (vsP ps).drop mi = vp at *
    generalize (vsP qs).drop mj = vq at *
    run_tac Drv.drive [794]
    refine go_drop ((m, lstO (ms ++ vp) em') :: (u, lstO (us ++ vq) eu') :: (L, dfG X.w.params a b i j m u t0 t1 t2 t3 t4 t5 t6 t7 _ _ _) :: (a, lstO (vsP ps) e1) :: (b, lstO (vsP qs) e2) :: (L0, ⟨.type "frame", none, .dict en0 e0, _⟩) :: rest) (by repeat (first | exact List.Sublist.refl _ | apply List.Sublist.cons_cons | apply List.Sublist.cons)) fun n3 T3 hT3 => ?_
    exact h n3 T3 em' eu' _ _ (by run_tac Drv.tom) ⟨_, _, _, _, _, _, _, _, _, _, _, _, _, rfl⟩
end
end
section
open PySem PySem.W PySem.W.X PyProof.Rows
section
variable (X : Env0) (B : BaseF X.w.params X.h₀) (hA : X.A.handled = none) (κ : Kt) (R : Room X κ 490 1900) (hκ : handledOf none κ = none) (k : Result → Sem Fin) (a b e1 e2 L : Nat) (ps qs : List (List Nat × Nat)) (L0 e0 : Nat) (en0 : Array DictEntry) (hF : (aA X.A κ).frames = some [fEnv fd794 794 L, fEnv fd818 818 L0]) (g : Array Value) (m u : Nat) (x y : List Nat)
include B hA R hκ hF
theorem w1_all (j : Int) (t0 t1 t2 t4 t6 t7 t8 t9 ta tb t5 : Nat) (sl : Array (Option Value)) (rest : List (Addr × Obj)) (hl : ps.length < 900) : ∀ (rem : List (List Nat × Nat)) (q : Nat), ps.drop q = rem → q ≤ ps.length → ∀ (n T t : Nat),
    (∀ n' T' q' t', T ≤ T' → ps.drop q' = rem.dropWhile (fun p => p.1 == x) → q' < ps.length → Go X ⟨κ, k (.ok .next), (L, dfE X.w.params a b (q' : Nat) j m u x y t0 t1 t2 t' t4 t5 t6 t7 t8 t9 ta tb #[]) :: (a, lstO (vsP ps) e1) :: (b, lstO (vsP qs) e2) :: (L0, ⟨.type "frame", none, .dict en0 e0, sl⟩) :: rest, g, n', 820, T'⟩) →
    (rem.dropWhile (fun p => p.1 == x) = [] → ∀ n' T' t' ex tup tbk arr sd sl', T ≤ T' → Rdy sd → Rdy sl' → Go X ⟨κ, k (.error (.ref ex)), (ex, exO tup tbk) :: (tbk, tbO L arr) :: (L, dfE X.w.params a b (ps.length : Nat) j m u x y t0 t1 t2 t' t4 t5 t6 t7 t8 t9 ta tb sd) :: (a, lstO (vsP ps) e1) :: (b, lstO (vsP qs) e2) :: (L0, ⟨.type "frame", none, .dict en0 e0, sl'⟩) :: rest, g, n', 820, T'⟩) →
    Go X ⟨.ret (w1 L) none k κ, denQ (w1 L), (L, dfE X.w.params a b (q : Nat) j m u x y t0 t1 t2 t t4 t5 t6 t7 t8 t9 ta tb #[]) :: (a, lstO (vsP ps) e1) :: (b, lstO (vsP qs) e2) :: (L0, ⟨.type "frame", none, .dict en0 e0, sl⟩) :: rest, g, n, 820, T⟩ := by
  intro zs
  induction zs with
  | nil =>
    intro q hi hq n T t hno herr
    have e : q = ps.length := by have := List.drop_eq_nil_iff.mp hi; (run_tac Drv.lomega)
    subst e
    refine w1_err X B hA κ R hκ k a b e1 e2 L ps qs L0 e0 en0 hF g m u x y n T ((ps.length : Nat) : Int) ps.length rfl (by run_tac Drv.tom) j t0 t1 t2 t t4 t5 t6 t7 t8 t9 ta tb sl rest (vs_none hi) fun n1 T1 ex tup tbk arr sd sl1 hT1 h1 h2 => ?_
    exact herr rfl n1 T1 _ ex tup tbk arr sd sl1 hT1 h1 h2
  | cons p rem ih =>
    intro q hi hq n T t hno herr
    have hlt : q < ps.length := drop_lt hi
    have hr : ps.drop (q + 1) = rem := by rw [← List.drop_drop, hi]; rfl
    by_cases hp : p.1 = x
    · have hg := vs_get hi
      rw [hp] at hg
      refine w1_yes X B hA κ R hκ k a b e1 e2 L ps qs L0 e0 en0 hF g m u x y n T ((q : Nat) : Int) q rfl (by run_tac Drv.tom) j t0 t1 t2 t t4 t5 t6 t7 t8 t9 ta tb sl rest p.2 hg fun n1 T1 t' hT1 => ?_
      have e : (p :: rem).dropWhile (fun p => p.1 == x) = rem.dropWhile (fun p => p.1 == x) := by rw [List.dropWhile_cons, if_pos (by simp [hp])]
      rw [e] at hno herr
      exact ih (q + 1) hr (by run_tac Drv.tom) n1 T1 t' (fun n2 T2 q2 t2' hT2 h1 h2 => hno n2 T2 q2 t2' (by run_tac Drv.tom) h1 h2) (fun hn n2 T2 t2' ex tup tbk arr sd sl1 hT2 h1 h2 => herr hn n2 T2 t2' ex tup tbk arr sd sl1 (by run_tac Drv.tom) h1 h2)
    · refine w1_no X B hA κ R hκ k a b e1 e2 L ps qs L0 e0 en0 hF g m u x y n T ((q : Nat) : Int) q rfl (by run_tac Drv.tom) j t0 t1 t2 t t4 t5 t6 t7 t8 t9 ta tb sl rest p.1 p.2 (vs_get hi) hp fun n1 T1 hT1 => ?_
      exact hno n1 T1 q _ hT1 (by rw [hi, List.dropWhile_cons, if_neg (by simp [hp])]) hlt
theorem w2_all (i : Int) (t0 t1 t2 t4 t6 t7 t8 t9 ta tb t3 : Nat) (sl : Array (Option Value)) (rest : List (Addr × Obj)) (hl : qs.length < 900) : ∀ (rem : List (List Nat × Nat)) (q : Nat), qs.drop q = rem → q ≤ qs.length → ∀ (n T t : Nat),
    (∀ n' T' q' t', T ≤ T' → qs.drop q' = rem.dropWhile (fun p => p.1 == y) → q' < qs.length → Go X ⟨κ, k (.ok .next), (L, dfE X.w.params a b i (q' : Nat) m u x y t0 t1 t2 t3 t4 t' t6 t7 t8 t9 ta tb #[]) :: (a, lstO (vsP ps) e1) :: (b, lstO (vsP qs) e2) :: (L0, ⟨.type "frame", none, .dict en0 e0, sl⟩) :: rest, g, n', 820, T'⟩) →
    (rem.dropWhile (fun p => p.1 == y) = [] → ∀ n' T' t' ex tup tbk arr sd sl', T ≤ T' → Rdy sd → Rdy sl' → Go X ⟨κ, k (.error (.ref ex)), (ex, exO tup tbk) :: (tbk, tbO L arr) :: (L, dfE X.w.params a b i (qs.length : Nat) m u x y t0 t1 t2 t3 t4 t' t6 t7 t8 t9 ta tb sd) :: (a, lstO (vsP ps) e1) :: (b, lstO (vsP qs) e2) :: (L0, ⟨.type "frame", none, .dict en0 e0, sl'⟩) :: rest, g, n', 820, T'⟩) →
    Go X ⟨.ret (w2 L) none k κ, denQ (w2 L), (L, dfE X.w.params a b i (q : Nat) m u x y t0 t1 t2 t3 t4 t t6 t7 t8 t9 ta tb #[]) :: (a, lstO (vsP ps) e1) :: (b, lstO (vsP qs) e2) :: (L0, ⟨.type "frame", none, .dict en0 e0, sl⟩) :: rest, g, n, 820, T⟩ := by
  intro zs
  induction zs with
  | nil =>
    intro q hi hq n T t hno herr
    have e : q = qs.length := by have := List.drop_eq_nil_iff.mp hi; (run_tac Drv.lomega)
    subst e
    refine w2_err X B hA κ R hκ k a b e1 e2 L ps qs L0 e0 en0 hF g m u x y n T ((qs.length : Nat) : Int) qs.length rfl (by run_tac Drv.tom) i t0 t1 t2 t3 t4 t t6 t7 t8 t9 ta tb sl rest (vs_none hi) fun n1 T1 ex tup tbk arr sd sl1 hT1 h1 h2 => ?_
    exact herr rfl n1 T1 _ ex tup tbk arr sd sl1 hT1 h1 h2
  | cons p rem ih =>
    intro q hi hq n T t hno herr
    have hlt : q < qs.length := drop_lt hi
    have hr : qs.drop (q + 1) = rem := by rw [← List.drop_drop, hi]; rfl
    by_cases hp : p.1 = y
    · have hg := vs_get hi
      rw [hp] at hg
      refine w2_yes X B hA κ R hκ k a b e1 e2 L ps qs L0 e0 en0 hF g m u x y n T ((q : Nat) : Int) q rfl (by run_tac Drv.tom) i t0 t1 t2 t3 t4 t t6 t7 t8 t9 ta tb sl rest p.2 hg fun n1 T1 t' hT1 => ?_
      have e : (p :: rem).dropWhile (fun p => p.1 == y) = rem.dropWhile (fun p => p.1 == y) := by rw [List.dropWhile_cons, if_pos (by simp [hp])]
      rw [e] at hno herr
      exact ih (q + 1) hr (by run_tac Drv.tom) n1 T1 t' (fun n2 T2 q2 t2' hT2 h1 h2 => hno n2 T2 q2 t2' (by run_tac Drv.tom) h1 h2) (fun hn n2 T2 t2' ex tup tbk arr sd sl1 hT2 h1 h2 => herr hn n2 T2 t2' ex tup tbk arr sd sl1 (by run_tac Drv.tom) h1 h2)
    · refine w2_no X B hA κ R hκ k a b e1 e2 L ps qs L0 e0 en0 hF g m u x y n T ((q : Nat) : Int) q rfl (by run_tac Drv.tom) i t0 t1 t2 t3 t4 t t6 t7 t8 t9 ta tb sl rest p.1 p.2 (vs_get hi) hp fun n1 T1 hT1 => ?_
      exact hno n1 T1 q _ hT1 (by rw [hi, List.dropWhile_cons, if_neg (by simp [hp])]) hlt
theorem w3_all (j : Int) (t0 t1 t2 t4 t6 t7 t8 t9 ta tb t5 : Nat) (sl : Array (Option Value)) (rest : List (Addr × Obj)) (hl : ps.length < 900) : ∀ (rem : List (List Nat × Nat)) (q : Nat), ps.drop q = rem → q ≤ ps.length → ∀ (n T t : Nat),
    (∀ n' T' q' t', T ≤ T' → ps.drop q' = rem.dropWhile (fun p => p.1 == x) → q' < ps.length → Go X ⟨κ, k (.ok .next), (L, dfE X.w.params a b (q' : Nat) j m u x y t0 t1 t2 t' t4 t5 t6 t7 t8 t9 ta tb #[]) :: (a, lstO (vsP ps) e1) :: (b, lstO (vsP qs) e2) :: (L0, ⟨.type "frame", none, .dict en0 e0, sl⟩) :: rest, g, n', 820, T'⟩) →
    (rem.dropWhile (fun p => p.1 == x) = [] → ∀ n' T' t' ex tup tbk arr sd sl', T ≤ T' → Rdy sd → Rdy sl' → Go X ⟨κ, k (.error (.ref ex)), (ex, exO tup tbk) :: (tbk, tbO L arr) :: (L, dfE X.w.params a b (ps.length : Nat) j m u x y t0 t1 t2 t' t4 t5 t6 t7 t8 t9 ta tb sd) :: (a, lstO (vsP ps) e1) :: (b, lstO (vsP qs) e2) :: (L0, ⟨.type "frame", none, .dict en0 e0, sl'⟩) :: rest, g, n', 820, T'⟩) →
    Go X ⟨.ret (w3 L) none k κ, denQ (w3 L), (L, dfE X.w.params a b (q : Nat) j m u x y t0 t1 t2 t t4 t5 t6 t7 t8 t9 ta tb #[]) :: (a, lstO (vsP ps) e1) :: (b, lstO (vsP qs) e2) :: (L0, ⟨.type "frame", none, .dict en0 e0, sl⟩) :: rest, g, n, 820, T⟩ := by
  intro zs
  induction zs with
  | nil =>
    intro q hi hq n T t hno herr
    have e : q = ps.length := by have := List.drop_eq_nil_iff.mp hi; (run_tac Drv.lomega)
    subst e
    refine w3_err X B hA κ R hκ k a b e1 e2 L ps qs L0 e0 en0 hF g m u x y n T ((ps.length : Nat) : Int) ps.length rfl (by run_tac Drv.tom) j t0 t1 t2 t t4 t5 t6 t7 t8 t9 ta tb sl rest (vs_none hi) fun n1 T1 ex tup tbk arr sd sl1 hT1 h1 h2 => ?_
    exact herr rfl n1 T1 _ ex tup tbk arr sd sl1 hT1 h1 h2
  | cons p rem ih =>
    intro q hi hq n T t hno herr
    have hlt : q < ps.length := drop_lt hi
    have hr : ps.drop (q + 1) = rem := by rw [← List.drop_drop, hi]; rfl
    by_cases hp : p.1 = x
    · have hg := vs_get hi
      rw [hp] at hg
      refine w3_yes X B hA κ R hκ k a b e1 e2 L ps qs L0 e0 en0 hF g m u x y n T ((q : Nat) : Int) q rfl (by run_tac Drv.tom) j t0 t1 t2 t t4 t5 t6 t7 t8 t9 ta tb sl rest p.2 hg fun n1 T1 t' hT1 => ?_
      have e : (p :: rem).dropWhile (fun p => p.1 == x) = rem.dropWhile (fun p => p.1 == x) := by rw [List.dropWhile_cons, if_pos (by simp [hp])]
      rw [e] at hno herr
      exact ih (q + 1) hr (by run_tac Drv.tom) n1 T1 t' (fun n2 T2 q2 t2' hT2 h1 h2 => hno n2 T2 q2 t2' (by run_tac Drv.tom) h1 h2) (fun hn n2 T2 t2' ex tup tbk arr sd sl1 hT2 h1 h2 => herr hn n2 T2 t2' ex tup tbk arr sd sl1 (by run_tac Drv.tom) h1 h2)
    · refine w3_no X B hA κ R hκ k a b e1 e2 L ps qs L0 e0 en0 hF g m u x y n T ((q : Nat) : Int) q rfl (by run_tac Drv.tom) j t0 t1 t2 t t4 t5 t6 t7 t8 t9 ta tb sl rest p.1 p.2 (vs_get hi) hp fun n1 T1 hT1 => ?_
      exact hno n1 T1 q _ hT1 (by rw [hi, List.dropWhile_cons, if_neg (by simp [hp])]) hlt
theorem w4_all (i : Int) (t0 t1 t2 t4 t6 t7 t8 t9 ta tb t3 : Nat) (sl : Array (Option Value)) (rest : List (Addr × Obj)) (hl : qs.length < 900) : ∀ (rem : List (List Nat × Nat)) (q : Nat), qs.drop q = rem → q ≤ qs.length → ∀ (n T t : Nat),
    (∀ n' T' q' t', T ≤ T' → qs.drop q' = rem.dropWhile (fun p => p.1 == y) → q' < qs.length → Go X ⟨κ, k (.ok .next), (L, dfE X.w.params a b i (q' : Nat) m u x y t0 t1 t2 t3 t4 t' t6 t7 t8 t9 ta tb #[]) :: (a, lstO (vsP ps) e1) :: (b, lstO (vsP qs) e2) :: (L0, ⟨.type "frame", none, .dict en0 e0, sl⟩) :: rest, g, n', 820, T'⟩) →
    (rem.dropWhile (fun p => p.1 == y) = [] → ∀ n' T' t' ex tup tbk arr sd sl', T ≤ T' → Rdy sd → Rdy sl' → Go X ⟨κ, k (.error (.ref ex)), (ex, exO tup tbk) :: (tbk, tbO L arr) :: (L, dfE X.w.params a b i (qs.length : Nat) m u x y t0 t1 t2 t3 t4 t' t6 t7 t8 t9 ta tb sd) :: (a, lstO (vsP ps) e1) :: (b, lstO (vsP qs) e2) :: (L0, ⟨.type "frame", none, .dict en0 e0, sl'⟩) :: rest, g, n', 820, T'⟩) →
    Go X ⟨.ret (w4 L) none k κ, denQ (w4 L), (L, dfE X.w.params a b i (q : Nat) m u x y t0 t1 t2 t3 t4 t t6 t7 t8 t9 ta tb #[]) :: (a, lstO (vsP ps) e1) :: (b, lstO (vsP qs) e2) :: (L0, ⟨.type "frame", none, .dict en0 e0, sl⟩) :: rest, g, n, 820, T⟩ := by
  intro zs
  induction zs with
  | nil =>
    intro q hi hq n T t hno herr
    have e : q = qs.length := by have := List.drop_eq_nil_iff.mp hi; (run_tac Drv.lomega)
    subst e
    refine w4_err X B hA κ R hκ k a b e1 e2 L ps qs L0 e0 en0 hF g m u x y n T ((qs.length : Nat) : Int) qs.length rfl (by run_tac Drv.tom) i t0 t1 t2 t3 t4 t t6 t7 t8 t9 ta tb sl rest (vs_none hi) fun n1 T1 ex tup tbk arr sd sl1 hT1 h1 h2 => ?_
    exact herr rfl n1 T1 _ ex tup tbk arr sd sl1 hT1 h1 h2
  | cons p rem ih =>
    intro q hi hq n T t hno herr
    have hlt : q < qs.length := drop_lt hi
    have hr : qs.drop (q + 1) = rem := by rw [← List.drop_drop, hi]; rfl
    by_cases hp : p.1 = y
    · have hg := vs_get hi
      rw [hp] at hg
      refine w4_yes X B hA κ R hκ k a b e1 e2 L ps qs L0 e0 en0 hF g m u x y n T ((q : Nat) : Int) q rfl (by run_tac Drv.tom) i t0 t1 t2 t3 t4 t t6 t7 t8 t9 ta tb sl rest p.2 hg fun n1 T1 t' hT1 => ?_
      have e : (p :: rem).dropWhile (fun p => p.1 == y) = rem.dropWhile (fun p => p.1 == y) := by rw [List.dropWhile_cons, if_pos (by simp [hp])]
      rw [e] at hno herr
      exact ih (q + 1) hr (by run_tac Drv.tom) n1 T1 t' (fun n2 T2 q2 t2' hT2 h1 h2 => hno n2 T2 q2 t2' (by run_tac Drv.tom) h1 h2) (fun hn n2 T2 t2' ex tup tbk arr sd sl1 hT2 h1 h2 => herr hn n2 T2 t2' ex tup tbk arr sd sl1 (by run_tac Drv.tom) h1 h2)
    · refine w4_no X B hA κ R hκ k a b e1 e2 L ps qs L0 e0 en0 hF g m u x y n T ((q : Nat) : Int) q rfl (by run_tac Drv.tom) i t0 t1 t2 t3 t4 t t6 t7 t8 t9 ta tb sl rest p.1 p.2 (vs_get hi) hp fun n1 T1 hT1 => ?_
      exact hno n1 T1 q _ hT1 (by rw [hi, List.dropWhile_cons, if_neg (by simp [hp])]) hlt
end
end
section
open PySem PySem.W PySem.W.X PyProof.Rows
noncomputable def TlOk (P : Params) (tl : List DictEntry) (nn : Nat) : Prop := (tl = [] ∧ nn = 6) ∨ ∃ x' y' t8 t9 ta tb, tl = tlA P x' y' t8 t9 ta tb ∧ nn = 8
section
variable (X : Env0) (B : BaseF X.w.params X.h₀) (hA : X.A.handled = none) (κ : Kt) (R : Room X κ 470 1700) (hκ : handledOf none κ = none) (k : Result → Sem Fin) (a b e1 e2 L : Nat) (ps qs : List (List Nat × Nat)) (L0 e0 : Nat) (en0 : Array DictEntry) (hF : (aA X.A κ).frames = some [fEnv fd794 794 L, fEnv fd818 818 L0]) (g : Array Value) (m u : Nat)
include B hA R hκ hF
theorem t_lt (n T : Nat) (i j : Int) (mi mj : Nat) (him : i = Int.ofNat mi) (hjm : j = Int.ofNat mj) (hpl : ps.length < 900) (hql : qs.length < 900) (hmi : mi < ps.length) (hmj : mj < qs.length) (t0 t1 t2 t3 t4 t5 t6 t7 : Nat) (tl : List DictEntry) (nn : Nat) (htl : TlOk X.w.params tl nn) (ms us : List Value) (em eu : Nat) (sl : Array (Option Value)) (rest : List (Addr × Obj)) (hms : ms.length < 900) (hus : us.length < 900) (x y : List Nat) (tx ty : Nat) (hg : (Array.mk (vsP ps))[mi]? = some (.str (sL x) tx)) (hg2 : (Array.mk (vsP qs))[mj]? = some (.str (sL y) ty)) (hlt : x < y)
    (hnext : ∀ n' T' q t0 t1 t2 t3 t4 t5 t6 t7 tl nn em', T ≤ T' → ps.drop q = (ps.drop (mi + 1)).dropWhile (fun p => p.1 == x) → q < ps.length → TlOk X.w.params tl nn → Go X ⟨.ret (dfLoop L) none k κ, denQ (dfLoop L), (L, dfG X.w.params a b (q : Nat) j m u t0 t1 t2 t3 t4 t5 t6 t7 tl nn #[]) :: (a, lstO (vsP ps) e1) :: (b, lstO (vsP qs) e2) :: (L0, ⟨.type "frame", none, .dict en0 e0, sl⟩) :: (m, lstO (ms ++ [.str (sL x) tx]) em') :: (u, lstO us eu) :: rest, g, n', 820, T'⟩)
    (hend : (ps.drop (mi + 1)).dropWhile (fun p => p.1 == x) = [] → ∀ n' T' em' eu' fr sl', T ≤ T' → IsDf X.w.params a b m u fr → Go X ⟨κ, k (.ok .next), (m, lstO ((ms ++ [.str (sL x) tx]) ++ (vsP ps).drop ps.length) em') :: (u, lstO (us ++ (vsP qs).drop mj) eu') :: (L, fr) :: (a, lstO (vsP ps) e1) :: (b, lstO (vsP qs) e2) :: (L0, ⟨.type "frame", none, .dict en0 e0, sl'⟩) :: rest, g, n', 820, T'⟩) :
    Go X ⟨.ret (dfLoop L) none k κ, denQ (dfLoop L), (L, dfG X.w.params a b i j m u t0 t1 t2 t3 t4 t5 t6 t7 tl nn #[]) :: (a, lstO (vsP ps) e1) :: (b, lstO (vsP qs) e2) :: (L0, ⟨.type "frame", none, .dict en0 e0, sl⟩) :: (m, lstO ms em) :: (u, lstO us eu) :: rest, g, n, 820, T⟩ := by
  have hi0 : 0 ≤ i := by rw [him]; exact Int.natCast_nonneg _
  have hj0 : 0 ≤ j := by rw [hjm]; exact Int.natCast_nonneg _
  have hi' : i = (mi : Int) := him
  have hj' : j = (mj : Int) := hjm
  have hi : i < 1000 := by run_tac Drv.tom
  have hj : j < 1000 := by run_tac Drv.tom
  have hl : (sL x).cps.toList < (sL y).cps.toList := hlt
  have hms' : ms.length < 1000 := by run_tac Drv.tom
  have hpe : (vsP ps).length < 1000 := by unfold vsP; simp; (run_tac Drv.lomega)
  have hqe : (vsP qs).length < 1000 := by unfold vsP; simp; (run_tac Drv.lomega)
  refine' go_cut (p := ∀ n1 T1 (q3 q8 q9 qa qb qe : Nat), T ≤ T1 → Go X ⟨_, _, (L, dfE X.w.params a b (i + 1) j m u x y t0 t1 t2 q3 t4 t5 t6 t7 q8 q9 qa qb #[]) :: (a, lstO (vsP ps) e1) :: (b, lstO (vsP qs) e2) :: (L0, ⟨.type "frame", none, .dict en0 e0, sl⟩) :: (m, lstO (ms ++ [.str (sL x) tx]) qe) :: (u, lstO us eu) :: rest, g, n1, 820, T1⟩) (fun key => ?_) ?_
  rotate_left 2
  · rcases htl with ⟨rfl, rfl⟩ | ⟨x', y', t8, t9, ta, tb, rfl, rfl⟩
    all_goals
      run_tac Drv.drive [794]
      rw [appR]
      refine go_enter rfl ?_
      refine go_drop ((L, dfE X.w.params a b (i + 1) j m u x y t0 t1 t2 _ t4 t5 t6 t7 _ _ _ _ #[]) :: (a, lstO (vsP ps) e1) :: (b, lstO (vsP qs) e2) :: (L0, ⟨.type "frame", none, .dict en0 e0, sl⟩) :: (m, lstO (ms ++ [.str (sL x) tx]) _) :: (u, lstO us eu) :: rest) (by repeat (first | exact List.Sublist.refl _ | apply List.Sublist.cons_cons | apply List.Sublist.cons)) fun n1 T1 hT1 => ?_
      exact key n1 T1 _ _ _ _ _ _ (by run_tac Drv.tom)
  · intro n1 T1 q3 q8 q9 qa qb qe hT1
    rw [show i + 1 = ((mi + 1 : Nat) : Int) from by run_tac Drv.tom]
    refine w1_all X B hA _ (by exact R.ret.le rfl rfl) (by exact hκ) _ a b e1 e2 L ps qs L0 e0 en0 (by exact frames_ret hF) g m u x y j _ _ _ _ _ _ _ _ _ _ _ sl _ hpl (ps.drop (mi + 1)) (mi + 1) rfl (by run_tac Drv.tom) n1 T1 _ (fun n2 T2 q t' hT2 hq hql => ?_) (fun hn n2 T2 t' ex tup tbk arr sd sl' hT2 hsd hsl => ?_)
    · run_tac Drv.drive [794]
      refine go_again (by kernel_rfl) ?_
      refine go_drop ((L, dfG X.w.params a b (q : Nat) j m u _ _ _ _ _ _ _ _ (tlA X.w.params x y _ _ _ _) 8 #[]) :: (a, lstO (vsP ps) e1) :: (b, lstO (vsP qs) e2) :: (L0, ⟨.type "frame", none, .dict en0 e0, sl⟩) :: (m, lstO (ms ++ [.str (sL x) tx]) _) :: (u, lstO us eu) :: rest) (by repeat (first | exact List.Sublist.refl _ | apply List.Sublist.cons_cons | apply List.Sublist.cons)) fun n3 T3 hT3 => ?_
      exact hnext n3 T3 q _ _ _ _ _ _ _ _ _ _ _ (by run_tac Drv.tom) hq hql (.inr ⟨_, _, _, _, _, _, rfl, rfl⟩)
    · obtain ⟨pl, hpl'⟩ : ∃ z : Int, ((ps.length : Nat) : Int) = z := ⟨_, rfl⟩
      rw [hpl']
      run_tac Drv.drive [794, 200000]
      refine go_enter rfl ?_
      run_tac Drv.drive [794, 200000]
      refine go_drop ((ex, exO tup tbk) :: (tbk, tbN L arr) :: (L, dfG X.w.params a b pl j m u _ _ _ _ _ _ _ _ (tlA X.w.params x y _ _ _ _) 8 sd) :: (a, lstO (vsP ps) e1) :: (b, lstO (vsP qs) e2) :: (L0, ⟨.type "frame", none, .dict en0 e0, sl'⟩) :: (m, lstO (ms ++ [.str (sL x) tx]) _) :: (u, lstO us eu) :: rest) (by repeat (first | exact List.Sublist.refl _ | apply List.Sublist.cons_cons | apply List.Sublist.cons)) fun n3 T3 hT3 => ?_
      refine go_perm ((ex, exO tup tbk) :: (tbk, tbN L arr) :: (L, dfG X.w.params a b pl j m u _ _ _ _ _ _ _ _ (tlA X.w.params x y _ _ _ _) 8 sd) :: (a, lstO (vsP ps) e1) :: (b, lstO (vsP qs) e2) :: (m, lstO (ms ++ [.str (sL x) tx]) _) :: (u, lstO us eu) :: (L0, ⟨.type "frame", none, .dict en0 e0, sl'⟩) :: rest) (perm_at 0 rfl (perm_at 0 rfl (perm_at 0 rfl (perm_at 0 rfl (perm_at 0 rfl (perm_at 1 rfl (perm_at 1 rfl (.refl _)))))))) ?_
      refine hnd_s X B hA _ (by exact R.ret.le rfl rfl) (by exact hκ) _ a b e1 e2 L ps qs g m u _ _ n3 T3 pl j ps.length mj hpl'.symm hjm _ _ _ _ _ _ _ _ _ _ _ us _ eu _ _ ex tup tbk .none _ (by simp; (run_tac Drv.lomega)) (by run_tac Drv.tom) hpe hqe fun n4 T4 em' eu' hT4 => ?_
      generalize (vsP ps).drop ps.length = vp at *
      generalize (vsP qs).drop mj = vq at *
      run_tac Drv.drive [794]
      refine go_drop ((m, lstO ((ms ++ [.str (sL x) tx]) ++ vp) em') :: (u, lstO (us ++ vq) eu') :: (L, dfG X.w.params a b pl j m u _ _ _ _ _ _ _ _ (tlA X.w.params x y _ _ _ _) 8 sd) :: (a, lstO (vsP ps) e1) :: (b, lstO (vsP qs) e2) :: (L0, ⟨.type "frame", none, .dict en0 e0, sl'⟩) :: rest) (by repeat (first | exact List.Sublist.refl _ | apply List.Sublist.cons_cons | apply List.Sublist.cons)) fun n5 T5 hT5 => ?_
      exact hend hn n5 T5 em' eu' _ _ (by run_tac Drv.tom) ⟨_, _, _, _, _, _, _, _, _, _, _, _, _, rfl⟩
end
end
section
open PySem PySem.W PySem.W.X PyProof.Rows
section
variable (X : Env0) (B : BaseF X.w.params X.h₀) (hA : X.A.handled = none) (κ : Kt) (R : Room X κ 470 1700) (hκ : handledOf none κ = none) (k : Result → Sem Fin) (a b e1 e2 L : Nat) (ps qs : List (List Nat × Nat)) (L0 e0 : Nat) (en0 : Array DictEntry) (hF : (aA X.A κ).frames = some [fEnv fd794 794 L, fEnv fd818 818 L0]) (g : Array Value) (m u : Nat)
include B hA R hκ hF
theorem t_gt (n T : Nat) (i j : Int) (mi mj : Nat) (him : i = Int.ofNat mi) (hjm : j = Int.ofNat mj) (hpl : ps.length < 900) (hql : qs.length < 900) (hmi : mi < ps.length) (hmj : mj < qs.length) (t0 t1 t2 t3 t4 t5 t6 t7 : Nat) (tl : List DictEntry) (nn : Nat) (htl : TlOk X.w.params tl nn) (ms us : List Value) (em eu : Nat) (sl : Array (Option Value)) (rest : List (Addr × Obj)) (hms : ms.length < 900) (hus : us.length < 900) (x y : List Nat) (tx ty : Nat) (hg : (Array.mk (vsP ps))[mi]? = some (.str (sL x) tx)) (hg2 : (Array.mk (vsP qs))[mj]? = some (.str (sL y) ty)) (hlt : y < x)
    (hnext : ∀ n' T' q t0 t1 t2 t3 t4 t5 t6 t7 tl nn eu', T ≤ T' → qs.drop q = (qs.drop (mj + 1)).dropWhile (fun p => p.1 == y) → q < qs.length → TlOk X.w.params tl nn → Go X ⟨.ret (dfLoop L) none k κ, denQ (dfLoop L), (L, dfG X.w.params a b i (q : Nat) m u t0 t1 t2 t3 t4 t5 t6 t7 tl nn #[]) :: (a, lstO (vsP ps) e1) :: (b, lstO (vsP qs) e2) :: (L0, ⟨.type "frame", none, .dict en0 e0, sl⟩) :: (m, lstO ms em) :: (u, lstO (us ++ [.str (sL y) ty]) eu') :: rest, g, n', 820, T'⟩)
    (hend : (qs.drop (mj + 1)).dropWhile (fun p => p.1 == y) = [] → ∀ n' T' em' eu' fr sl', T ≤ T' → IsDf X.w.params a b m u fr → Go X ⟨κ, k (.ok .next), (m, lstO (ms ++ (vsP ps).drop mi) em') :: (u, lstO ((us ++ [.str (sL y) ty]) ++ (vsP qs).drop qs.length) eu') :: (L, fr) :: (a, lstO (vsP ps) e1) :: (b, lstO (vsP qs) e2) :: (L0, ⟨.type "frame", none, .dict en0 e0, sl'⟩) :: rest, g, n', 820, T'⟩) :
    Go X ⟨.ret (dfLoop L) none k κ, denQ (dfLoop L), (L, dfG X.w.params a b i j m u t0 t1 t2 t3 t4 t5 t6 t7 tl nn #[]) :: (a, lstO (vsP ps) e1) :: (b, lstO (vsP qs) e2) :: (L0, ⟨.type "frame", none, .dict en0 e0, sl⟩) :: (m, lstO ms em) :: (u, lstO us eu) :: rest, g, n, 820, T⟩ := by
  have hi0 : 0 ≤ i := by rw [him]; exact Int.natCast_nonneg _
  have hj0 : 0 ≤ j := by rw [hjm]; exact Int.natCast_nonneg _
  have hi' : i = (mi : Int) := him
  have hj' : j = (mj : Int) := hjm
  have hi : i < 1000 := by run_tac Drv.tom
  have hj : j < 1000 := by run_tac Drv.tom
  have hl : (sL y).cps.toList < (sL x).cps.toList := hlt
  have hl2 : ¬ (sL x).cps.toList < (sL y).cps.toList := fun z => List.lt_irrefl _ (List.lt_trans z hlt)
  have hms' : us.length < 1000 := by run_tac Drv.tom
  have hpe : (vsP ps).length < 1000 := by unfold vsP; simp; (run_tac Drv.lomega)
  have hqe : (vsP qs).length < 1000 := by unfold vsP; simp; (run_tac Drv.lomega)
  refine' go_cut (p := ∀ n1 T1 (q5 q8 q9 qa qb qe : Nat), T ≤ T1 → Go X ⟨_, _, (L, dfE X.w.params a b i (j + 1) m u x y t0 t1 t2 t3 t4 q5 t6 t7 q8 q9 qa qb #[]) :: (a, lstO (vsP ps) e1) :: (b, lstO (vsP qs) e2) :: (L0, ⟨.type "frame", none, .dict en0 e0, sl⟩) :: (m, lstO ms em) :: (u, lstO (us ++ [.str (sL y) ty]) qe) :: rest, g, n1, 820, T1⟩) (fun key => ?_) ?_
  rotate_left 2
  · rcases htl with ⟨rfl, rfl⟩ | ⟨x', y', t8, t9, ta, tb, rfl, rfl⟩
    all_goals
      run_tac Drv.drive [794]
      rw [appR]
      refine go_enter rfl ?_
      refine go_drop ((L, dfE X.w.params a b i (j + 1) m u x y t0 t1 t2 t3 t4 _ t6 t7 _ _ _ _ #[]) :: (a, lstO (vsP ps) e1) :: (b, lstO (vsP qs) e2) :: (L0, ⟨.type "frame", none, .dict en0 e0, sl⟩) :: (m, lstO ms em) :: (u, lstO (us ++ [.str (sL y) ty]) _) :: rest) (by repeat (first | exact List.Sublist.refl _ | apply List.Sublist.cons_cons | apply List.Sublist.cons)) fun n1 T1 hT1 => ?_
      exact key n1 T1 _ _ _ _ _ _ (by run_tac Drv.tom)
  · intro n1 T1 q5 q8 q9 qa qb qe hT1
    rw [show j + 1 = ((mj + 1 : Nat) : Int) from by run_tac Drv.tom]
    refine w2_all X B hA _ (by exact R.ret.le rfl rfl) (by exact hκ) _ a b e1 e2 L ps qs L0 e0 en0 (by exact frames_ret hF) g m u x y i _ _ _ _ _ _ _ _ _ _ _ sl _ hql (qs.drop (mj + 1)) (mj + 1) rfl (by run_tac Drv.tom) n1 T1 _ (fun n2 T2 q t' hT2 hq hql' => ?_) (fun hn n2 T2 t' ex tup tbk arr sd sl' hT2 hsd hsl => ?_)
    · run_tac Drv.drive [794]
      refine go_again (by kernel_rfl) ?_
      refine go_drop ((L, dfG X.w.params a b i (q : Nat) m u _ _ _ _ _ _ _ _ (tlA X.w.params x y _ _ _ _) 8 #[]) :: (a, lstO (vsP ps) e1) :: (b, lstO (vsP qs) e2) :: (L0, ⟨.type "frame", none, .dict en0 e0, sl⟩) :: (m, lstO ms em) :: (u, lstO (us ++ [.str (sL y) ty]) _) :: rest) (by repeat (first | exact List.Sublist.refl _ | apply List.Sublist.cons_cons | apply List.Sublist.cons)) fun n3 T3 hT3 => ?_
      exact hnext n3 T3 q _ _ _ _ _ _ _ _ _ _ _ (by run_tac Drv.tom) hq hql' (.inr ⟨_, _, _, _, _, _, rfl, rfl⟩)
    · obtain ⟨pl, hpl'⟩ : ∃ z : Int, ((qs.length : Nat) : Int) = z := ⟨_, rfl⟩
      rw [hpl']
      run_tac Drv.drive [794, 200000]
      refine go_enter rfl ?_
      run_tac Drv.drive [794, 200000]
      refine go_drop ((ex, exO tup tbk) :: (tbk, tbN L arr) :: (L, dfG X.w.params a b i pl m u _ _ _ _ _ _ _ _ (tlA X.w.params x y _ _ _ _) 8 sd) :: (a, lstO (vsP ps) e1) :: (b, lstO (vsP qs) e2) :: (L0, ⟨.type "frame", none, .dict en0 e0, sl'⟩) :: (m, lstO ms em) :: (u, lstO (us ++ [.str (sL y) ty]) _) :: rest) (by repeat (first | exact List.Sublist.refl _ | apply List.Sublist.cons_cons | apply List.Sublist.cons)) fun n3 T3 hT3 => ?_
      refine go_perm ((ex, exO tup tbk) :: (tbk, tbN L arr) :: (L, dfG X.w.params a b i pl m u _ _ _ _ _ _ _ _ (tlA X.w.params x y _ _ _ _) 8 sd) :: (a, lstO (vsP ps) e1) :: (b, lstO (vsP qs) e2) :: (m, lstO ms em) :: (u, lstO (us ++ [.str (sL y) ty]) _) :: (L0, ⟨.type "frame", none, .dict en0 e0, sl'⟩) :: rest) (perm_at 0 rfl (perm_at 0 rfl (perm_at 0 rfl (perm_at 0 rfl (perm_at 0 rfl (perm_at 1 rfl (perm_at 1 rfl (.refl _)))))))) ?_
      refine hnd_s X B hA _ (by exact R.ret.le rfl rfl) (by exact hκ) _ a b e1 e2 L ps qs g m u _ _ n3 T3 i pl mi qs.length him hpl'.symm _ _ _ _ _ _ _ _ _ _ ms _ em _ _ _ ex tup tbk .none _ (by run_tac Drv.tom) (by simp; (run_tac Drv.lomega)) hpe hqe fun n4 T4 em' eu' hT4 => ?_
      generalize (vsP ps).drop mi = vp at *
      generalize (vsP qs).drop qs.length = vq at *
      run_tac Drv.drive [794]
      refine go_drop ((m, lstO (ms ++ vp) em') :: (u, lstO ((us ++ [.str (sL y) ty]) ++ vq) eu') :: (L, dfG X.w.params a b i pl m u _ _ _ _ _ _ _ _ (tlA X.w.params x y _ _ _ _) 8 sd) :: (a, lstO (vsP ps) e1) :: (b, lstO (vsP qs) e2) :: (L0, ⟨.type "frame", none, .dict en0 e0, sl'⟩) :: rest) (by repeat (first | exact List.Sublist.refl _ | apply List.Sublist.cons_cons | apply List.Sublist.cons)) fun n5 T5 hT5 => ?_
      exact hend hn n5 T5 em' eu' _ _ (by run_tac Drv.tom) ⟨_, _, _, _, _, _, _, _, _, _, _, _, _, rfl⟩
end
end
section
open PySem PySem.W PySem.W.X PyProof.Rows
section
variable (X : Env0) (B : BaseF X.w.params X.h₀) (hA : X.A.handled = none) (κ : Kt) (R : Room X κ 490 1900) (ex0 tup0 tbk0 : Nat) (arr0 : List Value) (hκ : handledOf none κ = some (.ref ex0)) (k : Result → Sem Fin) (a b e1 e2 L : Nat) (ps qs : List (List Nat × Nat)) (L0 e0 : Nat) (en0 : Array DictEntry) (hF : (aA X.A κ).frames = some [fEnv fd794 794 L, fEnv fd818 818 L0]) (g : Array Value) (m u : Nat) (x y : List Nat)
include B hA R hκ hF
theorem w4h_no (n T : Nat) (j : Int) (mi : Nat) (him : j = Int.ofNat mi) (hi : j < 1000) (i : Int) (t0 t1 t2 t3 t4 t5 t6 t7 t8 t9 ta tb : Nat) (sd sl : Array (Option Value)) (rest : List (Addr × Obj)) (z : List Nat) (tz : Nat) (hg : (Array.mk (vsP qs))[mi]? = some (.str (sL z) tz)) (hz : z ≠ y)
    (h : ∀ n' T', T ≤ T' → Go X ⟨κ, k (.ok .next), (L, dfE X.w.params a b i j m u x y t0 t1 t2 t3 t4 t5 t6 t7 t8 t9 ta tb sd) :: (a, lstO (vsP ps) e1) :: (b, lstO (vsP qs) e2) :: (L0, ⟨.type "frame", none, .dict en0 e0, sl⟩) :: rest, g, n', 820, T'⟩) :
    Go X ⟨.ret (w4 L) none k κ, denQ (w4 L), (L, dfE X.w.params a b i j m u x y t0 t1 t2 t3 t4 t5 t6 t7 t8 t9 ta tb sd) :: (a, lstO (vsP ps) e1) :: (b, lstO (vsP qs) e2) :: (L0, ⟨.type "frame", none, .dict en0 e0, sl⟩) :: rest, g, n, 820, T⟩ := by
  have hi0 : 0 ≤ j := by rw [him]; exact Int.natCast_nonneg _
  have hl := lne hz
  run_tac Drv.drive [794]
  refine go_drop ((L, dfE X.w.params a b i j m u x y t0 t1 t2 t3 t4 t5 t6 t7 t8 t9 ta tb sd) :: (a, lstO (vsP ps) e1) :: (b, lstO (vsP qs) e2) :: (L0, ⟨.type "frame", none, .dict en0 e0, sl⟩) :: rest) (by repeat (first | exact List.Sublist.refl _ | apply List.Sublist.cons_cons | apply List.Sublist.cons)) fun n1 T1 hT1 => ?_
  exact h n1 T1 (by run_tac Drv.tom)
theorem w4h_yes (n T : Nat) (j : Int) (mi : Nat) (him : j = Int.ofNat mi) (hi : j < 1000) (i : Int) (t0 t1 t2 t3 t4 t5 t6 t7 t8 t9 ta tb : Nat) (sd sl : Array (Option Value)) (rest : List (Addr × Obj)) (tz : Nat) (hg : (Array.mk (vsP qs))[mi]? = some (.str (sL y) tz))
    (h : ∀ n' T' t', T ≤ T' → Go X ⟨.ret (w4 L) none k κ, denQ (w4 L), (L, dfE X.w.params a b i (j + 1) m u x y t0 t1 t2 t3 t4 t' t6 t7 t8 t9 ta tb sd) :: (a, lstO (vsP ps) e1) :: (b, lstO (vsP qs) e2) :: (L0, ⟨.type "frame", none, .dict en0 e0, sl⟩) :: rest, g, n', 820, T'⟩) :
    Go X ⟨.ret (w4 L) none k κ, denQ (w4 L), (L, dfE X.w.params a b i j m u x y t0 t1 t2 t3 t4 t5 t6 t7 t8 t9 ta tb sd) :: (a, lstO (vsP ps) e1) :: (b, lstO (vsP qs) e2) :: (L0, ⟨.type "frame", none, .dict en0 e0, sl⟩) :: rest, g, n, 820, T⟩ := by
  have hi0 : 0 ≤ j := by rw [him]; exact Int.natCast_nonneg _
  have hl := leq y
  run_tac Drv.drive [794]
  refine go_again (by kernel_rfl) ?_
  refine go_drop ((L, dfE X.w.params a b i (j + 1) m u x y t0 t1 t2 t3 t4 _ t6 t7 t8 t9 ta tb sd) :: (a, lstO (vsP ps) e1) :: (b, lstO (vsP qs) e2) :: (L0, ⟨.type "frame", none, .dict en0 e0, sl⟩) :: rest) (by repeat (first | exact List.Sublist.refl _ | apply List.Sublist.cons_cons | apply List.Sublist.cons)) fun n1 T1 hT1 => ?_
  exact h n1 T1 _ (by run_tac Drv.tom)
theorem w4h_err (n T : Nat) (j : Int) (mi : Nat) (him : j = Int.ofNat mi) (hi : j < 1000) (i : Int) (t0 t1 t2 t3 t4 t5 t6 t7 t8 t9 ta tb : Nat) (sd sl : Array (Option Value)) (hsd : Rdy sd) (hsl : Rdy sl) (rest : List (Addr × Obj)) (hg : (Array.mk (vsP qs))[mi]? = none)
    (h : ∀ n' T' ex tup tbk arr, T ≤ T' → Go X ⟨κ, k (.error (.ref ex)), (ex, exX tup tbk (.ref ex0)) :: (tbk, tbO L arr) :: (L, dfE X.w.params a b i j m u x y t0 t1 t2 t3 t4 t5 t6 t7 t8 t9 ta tb sd) :: (a, lstO (vsP ps) e1) :: (b, lstO (vsP qs) e2) :: (L0, ⟨.type "frame", none, .dict en0 e0, sl⟩) :: (ex0, exO tup0 tbk0) :: (tbk0, tbN L arr0) :: rest, g, n', 820, T'⟩) :
    Go X ⟨.ret (w4 L) none k κ, denQ (w4 L), (L, dfE X.w.params a b i j m u x y t0 t1 t2 t3 t4 t5 t6 t7 t8 t9 ta tb sd) :: (a, lstO (vsP ps) e1) :: (b, lstO (vsP qs) e2) :: (L0, ⟨.type "frame", none, .dict en0 e0, sl⟩) :: (ex0, exO tup0 tbk0) :: (tbk0, tbN L arr0) :: rest, g, n, 820, T⟩ := by
  have hi0 : 0 ≤ j := by rw [him]; exact Int.natCast_nonneg _
  run_tac Drv.drive [794]
  refine go_nd fun hnd => ?_
  have hne : ¬ ex0 = n + 821 := by first | exact nd_ne hnd 5 0 rfl rfl (by decide) | exact nd_ne hnd 6 0 rfl rfl (by decide) | exact nd_ne hnd 6 1 rfl rfl (by decide) | exact nd_ne hnd 7 0 rfl rfl (by decide) | exact nd_ne hnd 7 1 rfl rfl (by decide)
  clear hnd
  run_tac Drv.drive [794]
  refine go_perm ((n + 821, exX (n + 820) (n + 822) (.ref ex0)) :: (n + 822, tbO L _) :: (_, _) :: (L, dfE X.w.params a b i j m u x y t0 t1 t2 t3 t4 t5 t6 t7 t8 t9 ta tb sd) :: (a, lstO (vsP ps) e1) :: (b, lstO (vsP qs) e2) :: (L0, ⟨.type "frame", none, .dict en0 e0, sl⟩) :: (ex0, exO tup0 tbk0) :: (tbk0, tbN L arr0) :: rest) (perm_at 1 rfl (perm_at 0 rfl (.refl _))) ?_
  refine go_drop ((n + 821, exX (n + 820) (n + 822) (.ref ex0)) :: (n + 822, tbO L _) :: (L, dfE X.w.params a b i j m u x y t0 t1 t2 t3 t4 t5 t6 t7 t8 t9 ta tb sd) :: (a, lstO (vsP ps) e1) :: (b, lstO (vsP qs) e2) :: (L0, ⟨.type "frame", none, .dict en0 e0, sl⟩) :: (ex0, exO tup0 tbk0) :: (tbk0, tbN L arr0) :: rest) (by repeat (first | exact List.Sublist.refl _ | apply List.Sublist.cons_cons | apply List.Sublist.cons)) fun n1 T1 hT1 => ?_
  exact h n1 T1 _ _ _ _ (by run_tac Drv.tom)
theorem w4h_all (i : Int) (t0 t1 t2 t4 t6 t7 t8 t9 ta tb t3 : Nat) (sd sl : Array (Option Value)) (hsd : Rdy sd) (hsl : Rdy sl) (rest : List (Addr × Obj)) (hl : qs.length < 900) : ∀ (rem : List (List Nat × Nat)) (q : Nat), qs.drop q = rem → q ≤ qs.length → ∀ (n T t : Nat),
    (∀ n' T' q' t', T ≤ T' → qs.drop q' = rem.dropWhile (fun p => p.1 == y) → q' < qs.length → Go X ⟨κ, k (.ok .next), (L, dfE X.w.params a b i (q' : Nat) m u x y t0 t1 t2 t3 t4 t' t6 t7 t8 t9 ta tb sd) :: (a, lstO (vsP ps) e1) :: (b, lstO (vsP qs) e2) :: (L0, ⟨.type "frame", none, .dict en0 e0, sl⟩) :: (ex0, exO tup0 tbk0) :: (tbk0, tbN L arr0) :: rest, g, n', 820, T'⟩) →
    (rem.dropWhile (fun p => p.1 == y) = [] → ∀ n' T' t' ex tup tbk arr, T ≤ T' → Go X ⟨κ, k (.error (.ref ex)), (ex, exX tup tbk (.ref ex0)) :: (tbk, tbO L arr) :: (L, dfE X.w.params a b i (qs.length : Nat) m u x y t0 t1 t2 t3 t4 t' t6 t7 t8 t9 ta tb sd) :: (a, lstO (vsP ps) e1) :: (b, lstO (vsP qs) e2) :: (L0, ⟨.type "frame", none, .dict en0 e0, sl⟩) :: (ex0, exO tup0 tbk0) :: (tbk0, tbN L arr0) :: rest, g, n', 820, T'⟩) →
    Go X ⟨.ret (w4 L) none k κ, denQ (w4 L), (L, dfE X.w.params a b i (q : Nat) m u x y t0 t1 t2 t3 t4 t t6 t7 t8 t9 ta tb sd) :: (a, lstO (vsP ps) e1) :: (b, lstO (vsP qs) e2) :: (L0, ⟨.type "frame", none, .dict en0 e0, sl⟩) :: (ex0, exO tup0 tbk0) :: (tbk0, tbN L arr0) :: rest, g, n, 820, T⟩ := by
  intro zs
  induction zs with
  | nil =>
    intro q hi hq n T t hno herr
    have e : q = qs.length := by have := List.drop_eq_nil_iff.mp hi; (run_tac Drv.lomega)
    subst e
    refine w4h_err X B hA κ R ex0 tup0 tbk0 arr0 hκ k a b e1 e2 L ps qs L0 e0 en0 hF g m u x y n T ((qs.length : Nat) : Int) qs.length rfl (by run_tac Drv.tom) i t0 t1 t2 t3 t4 t t6 t7 t8 t9 ta tb sd sl hsd hsl rest (vs_none hi) fun n1 T1 ex tup tbk arr hT1 => ?_
    exact herr rfl n1 T1 _ ex tup tbk arr hT1
  | cons p rem ih =>
    intro q hi hq n T t hno herr
    have hlt : q < qs.length := drop_lt hi
    have hr : qs.drop (q + 1) = rem := by rw [← List.drop_drop, hi]; rfl
    by_cases hp : p.1 = y
    · have hg := vs_get hi
      rw [hp] at hg
      refine w4h_yes X B hA κ R ex0 hκ k a b e1 e2 L ps qs L0 e0 en0 hF g m u x y n T ((q : Nat) : Int) q rfl (by run_tac Drv.tom) i t0 t1 t2 t3 t4 t t6 t7 t8 t9 ta tb sd sl _ p.2 hg fun n1 T1 t' hT1 => ?_
      have e : (p :: rem).dropWhile (fun p => p.1 == y) = rem.dropWhile (fun p => p.1 == y) := by rw [List.dropWhile_cons, if_pos (by simp [hp])]
      rw [e] at hno herr
      exact ih (q + 1) hr (by run_tac Drv.tom) n1 T1 t' (fun n2 T2 q2 t2' hT2 h1 h2 => hno n2 T2 q2 t2' (by run_tac Drv.tom) h1 h2) (fun hn n2 T2 t2' ex tup tbk arr hT2 => herr hn n2 T2 t2' ex tup tbk arr (by run_tac Drv.tom))
    · refine w4h_no X B hA κ R ex0 hκ k a b e1 e2 L ps qs L0 e0 en0 hF g m u x y n T ((q : Nat) : Int) q rfl (by run_tac Drv.tom) i t0 t1 t2 t3 t4 t t6 t7 t8 t9 ta tb sd sl _ p.1 p.2 (vs_get hi) hp fun n1 T1 hT1 => ?_
      exact hno n1 T1 q _ hT1 (by rw [hi, List.dropWhile_cons, if_neg (by simp [hp])]) hlt
end
end
section
open PySem PySem.W PySem.W.X PyProof.Rows
section
variable (X : Env0) (B : BaseF X.w.params X.h₀) (hA : X.A.handled = none) (κ : Kt) (R : Room X κ 470 1700) (hκ : handledOf none κ = none) (k : Result → Sem Fin) (a b e1 e2 L : Nat) (ps qs : List (List Nat × Nat)) (L0 e0 : Nat) (en0 : Array DictEntry) (hF : (aA X.A κ).frames = some [fEnv fd794 794 L, fEnv fd818 818 L0]) (g : Array Value) (m u : Nat)
include B hA R hκ hF
theorem t_eq (n T : Nat) (i j : Int) (mi mj : Nat) (him : i = Int.ofNat mi) (hjm : j = Int.ofNat mj) (hpl : ps.length < 900) (hql : qs.length < 900) (hmi : mi < ps.length) (hmj : mj < qs.length) (t0 t1 t2 t3 t4 t5 t6 t7 : Nat) (tl : List DictEntry) (nn : Nat) (htl : TlOk X.w.params tl nn) (ms us : List Value) (em eu : Nat) (sl : Array (Option Value)) (rest : List (Addr × Obj)) (hms : ms.length < 900) (hus : us.length < 900) (x : List Nat) (tx ty : Nat) (hg : (Array.mk (vsP ps))[mi]? = some (.str (sL x) tx)) (hg2 : (Array.mk (vsP qs))[mj]? = some (.str (sL x) ty))
    (hnext : ∀ n' T' q q2 t0 t1 t2 t3 t4 t5 t6 t7 tl nn, T ≤ T' → ps.drop q = (ps.drop (mi + 1)).dropWhile (fun p => p.1 == x) → q < ps.length → qs.drop q2 = (qs.drop (mj + 1)).dropWhile (fun p => p.1 == x) → q2 < qs.length → TlOk X.w.params tl nn → Go X ⟨.ret (dfLoop L) none k κ, denQ (dfLoop L), (L, dfG X.w.params a b (q : Nat) (q2 : Nat) m u t0 t1 t2 t3 t4 t5 t6 t7 tl nn #[]) :: (a, lstO (vsP ps) e1) :: (b, lstO (vsP qs) e2) :: (L0, ⟨.type "frame", none, .dict en0 e0, sl⟩) :: (m, lstO ms em) :: (u, lstO us eu) :: rest, g, n', 820, T'⟩)
    (hend : ∀ n' T' q q2 em' eu' fr sl', T ≤ T' → IsDf X.w.params a b m u fr → ps.drop q = (ps.drop (mi + 1)).dropWhile (fun p => p.1 == x) → qs.drop q2 = (qs.drop (mj + 1)).dropWhile (fun p => p.1 == x) → (ps.drop q = [] ∨ qs.drop q2 = []) → Go X ⟨κ, k (.ok .next), (m, lstO (ms ++ (vsP ps).drop q) em') :: (u, lstO (us ++ (vsP qs).drop q2) eu') :: (L, fr) :: (a, lstO (vsP ps) e1) :: (b, lstO (vsP qs) e2) :: (L0, ⟨.type "frame", none, .dict en0 e0, sl'⟩) :: rest, g, n', 820, T'⟩) :
    Go X ⟨.ret (dfLoop L) none k κ, denQ (dfLoop L), (L, dfG X.w.params a b i j m u t0 t1 t2 t3 t4 t5 t6 t7 tl nn #[]) :: (a, lstO (vsP ps) e1) :: (b, lstO (vsP qs) e2) :: (L0, ⟨.type "frame", none, .dict en0 e0, sl⟩) :: (m, lstO ms em) :: (u, lstO us eu) :: rest, g, n, 820, T⟩ := by
  have hi0 : 0 ≤ i := by rw [him]; exact Int.natCast_nonneg _
  have hj0 : 0 ≤ j := by rw [hjm]; exact Int.natCast_nonneg _
  have hi' : i = (mi : Int) := him
  have hj' : j = (mj : Int) := hjm
  have hi : i < 1000 := by run_tac Drv.tom
  have hj : j < 1000 := by run_tac Drv.tom
  have hl : ¬ (sL x).cps.toList < (sL x).cps.toList := List.lt_irrefl _
  have hpe : (vsP ps).length < 1000 := by unfold vsP; simp; (run_tac Drv.lomega)
  have hqe : (vsP qs).length < 1000 := by unfold vsP; simp; (run_tac Drv.lomega)
  refine' go_cut (p := ∀ n1 T1 (q3 q8 q9 qa qb : Nat), T ≤ T1 → Go X ⟨_, _, (L, dfE X.w.params a b (i + 1) j m u x x t0 t1 t2 q3 t4 t5 t6 t7 q8 q9 qa qb #[]) :: (a, lstO (vsP ps) e1) :: (b, lstO (vsP qs) e2) :: (L0, ⟨.type "frame", none, .dict en0 e0, sl⟩) :: (m, lstO ms em) :: (u, lstO us eu) :: rest, g, n1, 820, T1⟩) (fun key => ?_) ?_
  rotate_left 2
  · rcases htl with ⟨rfl, rfl⟩ | ⟨x', y', t8, t9, ta, tb, rfl, rfl⟩
    all_goals
      run_tac Drv.drive [794]
      refine go_enter rfl ?_
      refine go_drop ((L, dfE X.w.params a b (i + 1) j m u x x t0 t1 t2 _ t4 t5 t6 t7 _ _ _ _ #[]) :: (a, lstO (vsP ps) e1) :: (b, lstO (vsP qs) e2) :: (L0, ⟨.type "frame", none, .dict en0 e0, sl⟩) :: (m, lstO ms em) :: (u, lstO us eu) :: rest) (by repeat (first | exact List.Sublist.refl _ | apply List.Sublist.cons_cons | apply List.Sublist.cons)) fun n1 T1 hT1 => ?_
      exact key n1 T1 _ _ _ _ _ (by run_tac Drv.tom)
  · intro n1 T1 q3 q8 q9 qa qb hT1
    rw [show i + 1 = ((mi + 1 : Nat) : Int) from by run_tac Drv.tom]
    refine w3_all X B hA _ (by exact R.ret.le rfl rfl) (by exact hκ) _ a b e1 e2 L ps qs L0 e0 en0 (by exact frames_ret hF) g m u x x j _ _ _ _ _ _ _ _ _ _ _ sl _ hpl (ps.drop (mi + 1)) (mi + 1) rfl (by run_tac Drv.tom) n1 T1 _ (fun n2 T2 q t' hT2 hq hql' => ?_) (fun hn n2 T2 t' ex tup tbk arr sd sl' hT2 hsd hsl => ?_)
    · obtain ⟨qi, hqi⟩ : ∃ z : Int, ((q : Nat) : Int) = z := ⟨_, rfl⟩
      rw [hqi]
      run_tac Drv.drive [794]
      refine go_enter rfl ?_
      refine go_drop ((L, dfE X.w.params a b qi (j + 1) m u x x t0 t1 t2 _ t4 _ t6 t7 _ _ _ _ #[]) :: (a, lstO (vsP ps) e1) :: (b, lstO (vsP qs) e2) :: (L0, ⟨.type "frame", none, .dict en0 e0, sl⟩) :: (m, lstO ms em) :: (u, lstO us eu) :: rest) (by repeat (first | exact List.Sublist.refl _ | apply List.Sublist.cons_cons | apply List.Sublist.cons)) fun n3 T3 hT3 => ?_
      rw [show j + 1 = ((mj + 1 : Nat) : Int) from by run_tac Drv.tom]
      refine w4_all X B hA _ (by exact R.ret.ret.le rfl rfl) (by exact hκ) _ a b e1 e2 L ps qs L0 e0 en0 (by exact frames_ret (frames_ret hF)) g m u x x qi _ _ _ _ _ _ _ _ _ _ _ sl _ hql (qs.drop (mj + 1)) (mj + 1) rfl (by run_tac Drv.tom) n3 T3 _ (fun n4 T4 q2 t'' hT4 hq2 hql2 => ?_) (fun hn n4 T4 t'' ex tup tbk arr sd sl' hT4 hsd hsl => ?_)
      · obtain ⟨qj, hqj⟩ : ∃ z : Int, ((q2 : Nat) : Int) = z := ⟨_, rfl⟩
        rw [hqj]
        run_tac Drv.drive [794]
        refine go_again (by kernel_rfl) ?_
        refine go_drop ((L, dfG X.w.params a b qi qj m u _ _ _ _ _ _ _ _ (tlA X.w.params x x _ _ _ _) 8 #[]) :: (a, lstO (vsP ps) e1) :: (b, lstO (vsP qs) e2) :: (L0, ⟨.type "frame", none, .dict en0 e0, sl⟩) :: (m, lstO ms em) :: (u, lstO us eu) :: rest) (by repeat (first | exact List.Sublist.refl _ | apply List.Sublist.cons_cons | apply List.Sublist.cons)) fun n5 T5 hT5 => ?_
        rw [← hqi, ← hqj]
        exact hnext n5 T5 q q2 _ _ _ _ _ _ _ _ _ _ (by run_tac Drv.tom) hq hql' hq2 hql2 (.inr ⟨_, _, _, _, _, _, rfl, rfl⟩)
      · obtain ⟨pl, hpl'⟩ : ∃ z : Int, ((qs.length : Nat) : Int) = z := ⟨_, rfl⟩
        rw [hpl']
        run_tac Drv.drive [794, 200000]
        refine go_enter rfl ?_
        run_tac Drv.drive [794, 200000]
        refine go_drop ((ex, exO tup tbk) :: (tbk, tbN L arr) :: (L, dfG X.w.params a b qi pl m u _ _ _ _ _ _ _ _ (tlA X.w.params x x _ _ _ _) 8 sd) :: (a, lstO (vsP ps) e1) :: (b, lstO (vsP qs) e2) :: (L0, ⟨.type "frame", none, .dict en0 e0, sl'⟩) :: (m, lstO ms em) :: (u, lstO us eu) :: rest) (by repeat (first | exact List.Sublist.refl _ | apply List.Sublist.cons_cons | apply List.Sublist.cons)) fun n5 T5 hT5 => ?_
        refine go_perm ((ex, exO tup tbk) :: (tbk, tbN L arr) :: (L, dfG X.w.params a b qi pl m u _ _ _ _ _ _ _ _ (tlA X.w.params x x _ _ _ _) 8 sd) :: (a, lstO (vsP ps) e1) :: (b, lstO (vsP qs) e2) :: (m, lstO ms em) :: (u, lstO us eu) :: (L0, ⟨.type "frame", none, .dict en0 e0, sl'⟩) :: rest) (perm_at 0 rfl (perm_at 0 rfl (perm_at 0 rfl (perm_at 0 rfl (perm_at 0 rfl (perm_at 1 rfl (perm_at 1 rfl (.refl _)))))))) ?_
        refine hnd_s X B hA _ (by exact R.ret.le rfl rfl) (by exact hκ) _ a b e1 e2 L ps qs g m u _ _ n5 T5 qi pl q qs.length hqi.symm hpl'.symm _ _ _ _ _ _ _ _ _ _ ms us em eu _ _ ex tup tbk .none _ (by run_tac Drv.tom) (by run_tac Drv.tom) hpe hqe fun n6 T6 em' eu' hT6 => ?_
        have hqe' : qs.drop qs.length = (qs.drop (mj + 1)).dropWhile (fun p => p.1 == x) := by rw [hn, List.drop_length]
        have hend := fun n' T' em' eu' fr sl' h hd => hend n' T' q qs.length em' eu' fr sl' h hd hq hqe' (.inr (List.drop_length))
        generalize (vsP ps).drop q = vp at *
        generalize (vsP qs).drop qs.length = vq at *
        run_tac Drv.drive [794]
        refine go_drop ((m, lstO (ms ++ vp) em') :: (u, lstO (us ++ vq) eu') :: (L, dfG X.w.params a b qi pl m u _ _ _ _ _ _ _ _ (tlA X.w.params x x _ _ _ _) 8 sd) :: (a, lstO (vsP ps) e1) :: (b, lstO (vsP qs) e2) :: (L0, ⟨.type "frame", none, .dict en0 e0, sl'⟩) :: rest) (by repeat (first | exact List.Sublist.refl _ | apply List.Sublist.cons_cons | apply List.Sublist.cons)) fun n7 T7 hT7 => ?_
        exact hend n7 T7 em' eu' _ _ (by run_tac Drv.tom) ⟨_, _, _, _, _, _, _, _, _, _, _, _, _, rfl⟩
    · obtain ⟨pl, hpl'⟩ : ∃ z : Int, ((ps.length : Nat) : Int) = z := ⟨_, rfl⟩
      rw [hpl']
      run_tac Drv.drive [794, 200000]
      refine go_enter rfl ?_
      have hpe' : ps.drop ps.length = (ps.drop (mi + 1)).dropWhile (fun p => p.1 == x) := by rw [hn, List.drop_length]
      refine go_drop ((ex, exO tup tbk) :: (tbk, tbN L arr) :: (L, dfE X.w.params a b pl (j + 1) m u x x t0 t1 t2 _ t4 _ t6 t7 _ _ _ _ sd) :: (a, lstO (vsP ps) e1) :: (b, lstO (vsP qs) e2) :: (L0, ⟨.type "frame", none, .dict en0 e0, sl'⟩) :: (m, lstO ms em) :: (u, lstO us eu) :: rest) (by repeat (first | exact List.Sublist.refl _ | apply List.Sublist.cons_cons | apply List.Sublist.cons)) fun n3 T3 hT3 => ?_
      rw [show j + 1 = ((mj + 1 : Nat) : Int) from by run_tac Drv.tom]
      refine go_perm ((L, dfE X.w.params a b pl ((mj + 1 : Nat) : Int) m u x x t0 t1 t2 _ t4 _ t6 t7 _ _ _ _ sd) :: (a, lstO (vsP ps) e1) :: (b, lstO (vsP qs) e2) :: (L0, ⟨.type "frame", none, .dict en0 e0, sl'⟩) :: (ex, exO tup tbk) :: (tbk, tbN L arr) :: (m, lstO ms em) :: (u, lstO us eu) :: rest) (perm_at 2 rfl (perm_at 2 rfl (perm_at 2 rfl (perm_at 2 rfl (.refl _))))) ?_
      refine w4h_all X B hA _ (by exact R.ret.ret.le rfl rfl) ex tup tbk arr (by rfl) _ a b e1 e2 L ps qs L0 e0 en0 (by exact frames_ret (frames_ret hF)) g m u x x pl _ _ _ _ _ _ _ _ _ _ _ sd sl' hsd hsl _ hql (qs.drop (mj + 1)) (mj + 1) rfl (by run_tac Drv.tom) n3 T3 _ (fun n4 T4 q2 t'' hT4 hq2 hql2 => ?_) (fun hn2 n4 T4 t'' ex2 tup2 tbk2 arr2 hT4 => ?_)
      · obtain ⟨qj, hqj⟩ : ∃ z : Int, ((q2 : Nat) : Int) = z := ⟨_, rfl⟩
        rw [hqj]
        run_tac Drv.drive [794, 200000]
        refine go_enter rfl ?_
        run_tac Drv.drive [794, 200000]
        refine go_perm ((ex, exO tup tbk) :: (tbk, tbN L arr) :: (L, dfG X.w.params a b pl qj m u _ _ _ _ _ _ _ _ (tlA X.w.params x x _ _ _ _) 8 sd) :: (a, lstO (vsP ps) e1) :: (b, lstO (vsP qs) e2) :: (m, lstO ms em) :: (u, lstO us eu) :: (L0, ⟨.type "frame", none, .dict en0 e0, sl'⟩) :: rest) (perm_at 4 rfl (perm_at 4 rfl (perm_at 0 rfl (perm_at 0 rfl (perm_at 0 rfl (perm_at 1 rfl (perm_at 1 rfl (.refl _)))))))) ?_
        refine go_drop _ (List.Sublist.refl _) fun n5 T5 hT5 => ?_
        refine hnd_s X B hA _ (by exact R.ret.le rfl rfl) (by exact hκ) _ a b e1 e2 L ps qs g m u _ _ n5 T5 pl qj ps.length q2 hpl'.symm hqj.symm _ _ _ _ _ _ _ _ _ _ ms us em eu _ _ ex tup tbk .none _ (by run_tac Drv.tom) (by run_tac Drv.tom) hpe hqe fun n6 T6 em' eu' hT6 => ?_
        have hend := fun n' T' em' eu' fr sl' h hd => hend n' T' ps.length q2 em' eu' fr sl' h hd hpe' hq2 (.inl (List.drop_length))
        generalize (vsP ps).drop ps.length = vp at *
        generalize (vsP qs).drop q2 = vq at *
        run_tac Drv.drive [794]
        refine go_drop ((m, lstO (ms ++ vp) em') :: (u, lstO (us ++ vq) eu') :: (L, dfG X.w.params a b pl qj m u _ _ _ _ _ _ _ _ (tlA X.w.params x x _ _ _ _) 8 sd) :: (a, lstO (vsP ps) e1) :: (b, lstO (vsP qs) e2) :: (L0, ⟨.type "frame", none, .dict en0 e0, sl'⟩) :: rest) (by repeat (first | exact List.Sublist.refl _ | apply List.Sublist.cons_cons | apply List.Sublist.cons)) fun n7 T7 hT7 => ?_
        exact hend n7 T7 em' eu' _ _ (by run_tac Drv.tom) ⟨_, _, _, _, _, _, _, _, _, _, _, _, _, rfl⟩
      · obtain ⟨pl2, hpl2⟩ : ∃ z : Int, ((qs.length : Nat) : Int) = z := ⟨_, rfl⟩
        rw [hpl2]
        run_tac Drv.drive [794, 200000]
        refine go_enter rfl ?_
        run_tac Drv.drive [794, 200000]
        refine go_perm ((ex2, exX tup2 tbk2 (.ref ex)) :: (tbk2, tbN L arr2) :: (L, dfG X.w.params a b pl pl2 m u _ _ _ _ _ _ _ _ (tlA X.w.params x x _ _ _ _) 8 sd) :: (a, lstO (vsP ps) e1) :: (b, lstO (vsP qs) e2) :: (m, lstO ms em) :: (u, lstO us eu) :: (L0, ⟨.type "frame", none, .dict en0 e0, sl'⟩) :: (ex, exO tup tbk) :: (tbk, tbN L arr) :: rest) (perm_at 0 rfl (perm_at 0 rfl (perm_at 0 rfl (perm_at 0 rfl (perm_at 0 rfl (perm_at 3 rfl (perm_at 3 rfl (perm_at 0 rfl (.refl _))))))))) ?_
        refine go_drop _ (List.Sublist.refl _) fun n5 T5 hT5 => ?_
        refine hnd_s X B hA _ (by exact R.ret.le rfl rfl) (by exact hκ) _ a b e1 e2 L ps qs g m u _ _ n5 T5 pl pl2 ps.length qs.length hpl'.symm hpl2.symm _ _ _ _ _ _ _ _ _ _ ms us em eu _ _ ex2 tup2 tbk2 (.ref ex) _ (by run_tac Drv.tom) (by run_tac Drv.tom) hpe hqe fun n6 T6 em' eu' hT6 => ?_
        have hqe' : qs.drop qs.length = (qs.drop (mj + 1)).dropWhile (fun p => p.1 == x) := by rw [hn2, List.drop_length]
        have hend := fun n' T' em' eu' fr sl' h hd => hend n' T' ps.length qs.length em' eu' fr sl' h hd hpe' hqe' (.inl (List.drop_length))
        generalize (vsP ps).drop ps.length = vp at *
        generalize (vsP qs).drop qs.length = vq at *
        run_tac Drv.drive [794]
        refine go_drop ((m, lstO (ms ++ vp) em') :: (u, lstO (us ++ vq) eu') :: (L, dfG X.w.params a b pl pl2 m u _ _ _ _ _ _ _ _ (tlA X.w.params x x _ _ _ _) 8 sd) :: (a, lstO (vsP ps) e1) :: (b, lstO (vsP qs) e2) :: (L0, ⟨.type "frame", none, .dict en0 e0, sl'⟩) :: rest) (by repeat (first | exact List.Sublist.refl _ | apply List.Sublist.cons_cons | apply List.Sublist.cons)) fun n7 T7 hT7 => ?_
        exact hend n7 T7 em' eu' _ _ (by run_tac Drv.tom) ⟨_, _, _, _, _, _, _, _, _, _, _, _, _, rfl⟩
end
end
section
/- the strip, sign by sign: what is kept; is the sign before a lone backslash, is a quotation open -/
noncomputable def keepF : Bool → Bool → List Nat → List Nat
  | _, _, [] => []
  | bb, false, c :: r => if bb = false ∧ c = 34 then keepF false true r else c :: keepF (!bb && decide (c = 92)) false r
  | bb, true, c :: r => if bb = false ∧ c = 34 then keepF false false r else keepF (!bb && decide (c = 92)) true r
/- the state after a text -/
noncomputable def stF : Bool → Bool → List Nat → Bool × Bool
  | bb, op, [] => (bb, op)
  | bb, op, c :: r => if bb = false ∧ c = 34 then stF false (!op) r else stF (!bb && decide (c = 92)) op r
theorem keepF_app : ∀ (u v : List Nat) (bb op : Bool), keepF bb op (u ++ v) = keepF bb op u ++ keepF (stF bb op u).1 (stF bb op u).2 v
  | [], v, bb, op => by simp [keepF, stF]
  | c :: r, v, bb, false => by
    rw [List.cons_append, keepF, keepF, stF]
    by_cases h : bb = false ∧ c = 34
    · rw [if_pos h, if_pos h, if_pos h]; exact keepF_app r v false true
    · rw [if_neg h, if_neg h, if_neg h, keepF_app r v]; rfl
  | c :: r, v, bb, true => by
    rw [List.cons_append, keepF, keepF, stF]
    by_cases h : bb = false ∧ c = 34
    · rw [if_pos h, if_pos h, if_pos h]; exact keepF_app r v false false
    · rw [if_neg h, if_neg h, if_neg h, keepF_app r v]
theorem stF_app : ∀ (u v : List Nat) (bb op : Bool), stF bb op (u ++ v) = stF (stF bb op u).1 (stF bb op u).2 v
  | [], v, bb, op => rfl
  | c :: r, v, bb, op => by
    rw [List.cons_append, stF, stF]
    by_cases h : bb = false ∧ c = 34
    · rw [if_pos h, if_pos h]; exact stF_app r v false _
    · rw [if_neg h, if_neg h]; exact stF_app r v _ op
theorem take_snoc {x : List Nat} {s i c : Nat} {r : List Nat} (h : x.drop i = c :: r) (hs : s ≤ i) : (x.drop s).take (i + 1 - s) = (x.drop s).take (i - s) ++ [c] := by
  have hg : (x.drop s)[i - s]? = some c := by
    rw [List.getElem?_drop, show s + (i - s) = i from by (run_tac Drv.lomega), ← Nat.add_zero i, ← List.getElem?_drop, h]; rfl
  rw [show i + 1 - s = (i - s) + 1 from Nat.succ_sub hs, List.take_add_one, hg]; rfl
/- the strip, as it is written, keeps what keepF keeps -/
theorem stp_keep (x : List Nat) : ∀ (rem : List Nat) (i : Nat) (bb : Bool) (s : Nat) (o : Option Nat), x.drop i = rem → i ≤ x.length → (match o with | none => s ≤ i | some q => s ≤ q ∧ q < i) → (stF bb o.isSome rem).2 = false →
    (stpR x (escs i bb rem) s o).1 ++ x.drop (stpR x (escs i bb rem) s o).2.1 = (match o with | none => (x.drop s).take (i - s) | some q => (x.drop s).take (q - s)) ++ keepF bb o.isSome rem ∧ s ≤ (stpR x (escs i bb rem) s o).2.1 ∧ ((o.isSome = true ∨ (keepF bb o.isSome rem).length < rem.length) → i < (stpR x (escs i bb rem) s o).2.1)
  | [], i, bb, s, none, hi, hl, ho, hs => by
    have e : i = x.length := by have := List.drop_eq_nil_iff.mp hi; (run_tac Drv.lomega)
    have hR : stpR x (escs i bb []) s none = ([], s, none) := by
      cases bb <;> simp [escs, stpR]
    rw [hR]
    refine ⟨?_, Nat.le_refl _, fun z => by simp [keepF] at z⟩
    simp only [keepF, List.nil_append, List.append_nil]
    rw [List.take_of_length_le (by rw [List.length_drop]; (run_tac Drv.lomega))]
  | [], i, bb, s, some q, hi, hl, ho, hs => by simp [stF] at hs
  | c :: r, i, bb, s, o, hi, hl, ho, hs => by
    have hr : x.drop (i + 1) = r := by rw [← List.drop_drop, hi]; rfl
    have hlt : i < x.length := drop_lt hi
    cases bb with
    | true =>
      have he : escs i true (c :: r) = (i, [92, c]) :: escs (i + 1) false r := rfl
      have hst : stF true o.isSome (c :: r) = stF false o.isSome r := by simp [stF]
      rw [hst] at hs
      have hR : stpR x (escs i true (c :: r)) s o = stpR x (escs (i + 1) false r) s o := by rw [he]; show (if ([92, c] : List Nat) = [34] then _ else stpR x (escs (i + 1) false r) s o) = _; rw [if_neg (by simp)]
      have ih := stp_keep x r (i + 1) false s o hr (by (run_tac Drv.lomega)) (by cases o with | none => exact Nat.le_succ_of_le ho | some q => exact ⟨ho.1, Nat.lt_succ_of_lt ho.2⟩) hs
      rw [hR]
      cases o with
      | none =>
        obtain ⟨ih1, ih2, ih3⟩ := ih
        refine ⟨?_, ih2, fun z => ?_⟩
        · rw [ih1]
          show (x.drop s).take (i + 1 - s) ++ _ = _
          rw [take_snoc hi ho]
          simp [keepF]
        · have := ih3 (z.imp id fun z => by simp [keepF] at z ⊢; exact z)
          (run_tac Drv.lomega)
      | some q =>
        obtain ⟨ih1, ih2, ih3⟩ := ih
        refine ⟨?_, ih2, fun z => ?_⟩
        · rw [ih1]; simp [keepF]
        · have := ih3 (.inl rfl); (run_tac Drv.lomega)
    | false =>
      by_cases h92 : c = 92
      · subst h92
        have he : escs i false (92 :: r) = escs (i + 1) true r := by simp [escs]
        have hst : stF false o.isSome (92 :: r) = stF true o.isSome r := by simp [stF]
        rw [hst] at hs
        have ih := stp_keep x r (i + 1) true s o hr (by (run_tac Drv.lomega)) (by cases o with | none => exact Nat.le_succ_of_le ho | some q => exact ⟨ho.1, Nat.lt_succ_of_lt ho.2⟩) hs
        rw [he]
        cases o with
        | none =>
          obtain ⟨ih1, ih2, ih3⟩ := ih
          refine ⟨?_, ih2, fun z => ?_⟩
          · rw [ih1]
            show (x.drop s).take (i + 1 - s) ++ _ = _
            rw [take_snoc hi ho]
            simp [keepF]
          · have := ih3 (z.imp id fun z => by simp [keepF] at z ⊢; exact z)
            (run_tac Drv.lomega)
        | some q =>
          obtain ⟨ih1, ih2, ih3⟩ := ih
          refine ⟨?_, ih2, fun z => ?_⟩
          · rw [ih1]; simp [keepF]
          · have := ih3 (.inl rfl); (run_tac Drv.lomega)
      · have he : escs i false (c :: r) = (i, [c]) :: escs (i + 1) false r := by rw [escs, if_neg h92]
        rw [he]
        by_cases h34 : c = 34
        · subst h34
          cases o with
          | none =>
            have hst : stF false false (34 :: r) = stF false true r := by simp [stF]
            have hR : stpR x ((i, [34]) :: escs (i + 1) false r) s none = stpR x (escs (i + 1) false r) s (some i) := by simp [stpR]
            rw [show (none : Option Nat).isSome = false from rfl, hst] at hs
            obtain ⟨ih1, ih2, ih3⟩ := stp_keep x r (i + 1) false s (some i) hr (by (run_tac Drv.lomega)) ⟨ho, Nat.lt_succ_self _⟩ hs
            rw [hR]
            refine ⟨?_, ih2, fun z => ?_⟩
            · rw [ih1]; simp [keepF]
            · have := ih3 (.inl rfl); (run_tac Drv.lomega)
          | some q =>
            have hst : stF false true (34 :: r) = stF false false r := by simp [stF]
            have hR : stpR x ((i, [34]) :: escs (i + 1) false r) s (some q) = ((x.drop s).take (q - s) ++ (stpR x (escs (i + 1) false r) (i + 1) none).1, (stpR x (escs (i + 1) false r) (i + 1) none).2) := by simp [stpR]
            rw [show (some q).isSome = true from rfl, hst] at hs
            obtain ⟨ih1, ih2, ih3⟩ := stp_keep x r (i + 1) false (i + 1) none hr (by (run_tac Drv.lomega)) (Nat.le_refl _) hs
            rw [hR]
            refine ⟨?_, by have := ho.1; have := ho.2; simp only; (run_tac Drv.lomega), fun z => by simp only; (run_tac Drv.lomega)⟩
            rw [List.append_assoc, ih1]
            simp [keepF]
        · have hR : stpR x ((i, [c]) :: escs (i + 1) false r) s o = stpR x (escs (i + 1) false r) s o := by show (if ([c] : List Nat) = [34] then _ else stpR x (escs (i + 1) false r) s o) = _; rw [if_neg (by simp [h34])]
          have hst : stF false o.isSome (c :: r) = stF false o.isSome r := by simp [stF, h34, h92]
          rw [hst] at hs
          have ih := stp_keep x r (i + 1) false s o hr (by (run_tac Drv.lomega)) (by cases o with | none => exact Nat.le_succ_of_le ho | some q => exact ⟨ho.1, Nat.lt_succ_of_lt ho.2⟩) hs
          rw [hR]
          cases o with
          | none =>
            obtain ⟨ih1, ih2, ih3⟩ := ih
            refine ⟨?_, ih2, fun z => ?_⟩
            · rw [ih1]
              show (x.drop s).take (i + 1 - s) ++ _ = _
              rw [take_snoc hi ho]
              simp [keepF, h34, h92]
            · have := ih3 (z.imp id fun z => by simp [keepF, h34, h92] at z ⊢; exact z)
              (run_tac Drv.lomega)
          | some q =>
            obtain ⟨ih1, ih2, ih3⟩ := ih
            refine ⟨?_, ih2, fun z => ?_⟩
            · rw [ih1]; simp [keepF, h34, h92]
            · have := ih3 (.inl rfl); (run_tac Drv.lomega)
end
section
theorem repl1_q (z r : List Nat) : repl [39] z (39 :: r) 0 = z ++ repl [39] z r 0 := by simp [repl, List.isPrefixOf]
theorem repl1_n (z r : List Nat) {c : Nat} (h : c ≠ 39) : repl [39] z (c :: r) 0 = c :: repl [39] z r 0 := by
  have : ¬ (39 = c) := fun e => h e.symm
  simp [repl, List.isPrefixOf, this]
/- apostrophes twice -/
noncomputable def dbl : List Nat → List Nat
  | [] => []
  | c :: r => if c = 39 then 39 :: 39 :: dbl r else c :: dbl r
theorem keep_E : ∀ (w : List Nat) (bb : Bool), 34 ∉ w → keepF bb false (repl [39] [39, 34, 39, 34, 39] w 0) = dbl w ∧ (stF bb false (repl [39] [39, 34, 39, 34, 39] w 0)).2 = false
  | [], bb, h => by simp [repl, keepF, stF, dbl]
  | c :: r, bb, h => by
    have hr : 34 ∉ r := fun z => h (.tail _ z)
    by_cases hc : c = 39
    · subst hc
      rw [repl1_q, keepF_app, stF_app]
      have h1 : keepF bb false [39, 34, 39, 34, 39] = [39, 39] := by cases bb <;> rfl
      have h2 : stF bb false [39, 34, 39, 34, 39] = (false, false) := by cases bb <;> rfl
      rw [h1, h2]
      obtain ⟨i1, i2⟩ := keep_E r false hr
      exact ⟨by rw [i1]; simp [dbl], i2⟩
    · have h34 : c ≠ 34 := fun z => h (by rw [z]; exact .head _)
      rw [repl1_n _ _ hc, keepF, stF, if_neg (fun z => h34 z.2), if_neg (fun z => h34 z.2)]
      obtain ⟨i1, i2⟩ := keep_E r (!bb && decide (c = 92)) hr
      exact ⟨by rw [i1, dbl, if_neg hc], i2⟩
/- a word's parts between the apostrophes -/
noncomputable def segs : List Nat → List Nat × List (List Nat)
  | [] => ([], [])
  | c :: r => if c = 39 then ([], (segs r).1 :: (segs r).2) else (c :: (segs r).1, (segs r).2)
/- a word as split reads it -/
noncomputable def wsg (w : List Nat) : Sg × List Sg :=
  if (w.all fun c => !uns c) = true then (match w with
    | [] => (.q [], [])
    | c :: r => (.b c, r.map Sg.b)) else (.q (segs w).1, (segs w).2.map Sg.q)
theorem seg_dbl : ∀ (w : List Nat), (segs w).1 ++ [39] ++ ((segs w).2.map Sg.q).flatMap Sg.r = dbl w ++ [39]
  | [] => rfl
  | c :: r => by
    have ih := seg_dbl r
    by_cases hc : c = 39
    · subst hc
      simp only [segs, if_true, dbl, List.map_cons, List.flatMap_cons, Sg.r, List.nil_append, List.cons_append]
      have : (segs r).1 ++ [39] ++ ((segs r).2.map Sg.q).flatMap Sg.r = dbl r ++ [39] := ih
      simp only [List.append_assoc, List.cons_append, List.nil_append] at this ⊢
      rw [this]
    · simp only [segs, if_neg hc, dbl, List.cons_append]
      rw [ih]
theorem uns_f {c : Nat} (h : uns c = false) : c = 97 ∨ c = 98 ∨ c = 44 := by
  by_cases h1 : c = 97
  · exact .inl h1
  by_cases h2 : c = 98
  · exact .inr (.inl h2)
  by_cases h3 : c = 44
  · exact .inr (.inr h3)
  exfalso
  revert h
  unfold uns
  rw [beq_false_of_ne h1, beq_false_of_ne h2, beq_false_of_ne h3]
  decide
theorem safe_all {w : List Nat} (h : (w.all fun c => !uns c) = true) : ∀ c ∈ w, c = 97 ∨ c = 98 ∨ c = 44 := fun c hc => by
  have := List.all_eq_true.mp h c hc
  exact uns_f (by simpa using this)
theorem keep_id : ∀ (w : List Nat) (bb : Bool), 34 ∉ w → keepF bb false w = w
  | [], bb, h => rfl
  | c :: r, bb, h => by
    have h34 : c ≠ 34 := fun z => h (by rw [z]; exact .head _)
    rw [keepF, if_neg (fun z => h34 z.2), keep_id r _ fun z => h (.tail _ z)]
theorem st_safe : ∀ (w : List Nat), (∀ c ∈ w, c ≠ 34 ∧ c ≠ 92) → stF false false w = (false, false)
  | [], h => rfl
  | c :: r, h => by
    obtain ⟨h1, h2⟩ := h c (.head _)
    rw [stF, if_neg (fun z => h1 z.2)]
    simp only [h2, decide_false, Bool.and_false]
    exact st_safe r fun d hd => h d (.tail _ hd)
theorem map_b : ∀ (r : List Nat), (r.map Sg.b).flatMap Sg.r = r
  | [] => rfl
  | c :: r => by rw [List.map_cons, List.flatMap_cons, map_b r]; rfl
theorem al34 {w : List Nat} (h : ∀ c ∈ w, Al c) : 34 ∉ w := fun z => al_34 (h 34 z) rfl
/- one word through quote and the strip -/
theorem word_keep (w : List Nat) (h : ∀ c ∈ w, Al c) : keepF false false (qt w) = rend ((wsg w).1 :: (wsg w).2) ∧ stF false false (qt w) = (false, false) := by
  unfold qt wsg
  by_cases hn : w = []
  · subst hn; exact ⟨rfl, rfl⟩
  · rw [if_neg hn]
    by_cases hs : (w.all fun c => !uns c) = true
    · rw [if_pos hs, if_pos hs]
      have hc := safe_all hs
      refine ⟨?_, st_safe w fun c z => by have := hc c z; (run_tac Drv.lomega)⟩
      rw [keep_id w false (al34 h)]
      cases w with
      | nil => exact absurd rfl hn
      | cons c r =>
        show c :: r = Sg.r (.b c) ++ (r.map Sg.b).flatMap Sg.r
        rw [map_b]; rfl
    · rw [if_neg hs, if_neg hs]
      obtain ⟨k1, k2⟩ := keep_E w false (al34 h)
      have s0 : stF false false [39] = (false, false) := rfl
      have k0 : keepF false false [39] = [39] := rfl
      rw [List.append_assoc, keepF_app, stF_app, s0, k0]
      show [39] ++ keepF false false (repl [39] [39, 34, 39, 34, 39] w 0 ++ [39]) = _ ∧ stF false false (repl [39] [39, 34, 39, 34, 39] w 0 ++ [39]) = _
      rw [keepF_app, stF_app, k1]
      generalize (stF false false (repl [39] [39, 34, 39, 34, 39] w 0)) = p at *
      obtain ⟨p1, p2⟩ := p
      simp only at k2
      subst k2
      have h1 : keepF p1 false [39] = [39] := by cases p1 <;> rfl
      have h2 : stF p1 false [39] = (false, false) := by cases p1 <;> rfl
      refine ⟨?_, h2⟩
      rw [h1, ← seg_dbl w]
      show _ = 39 :: ((segs w).1 ++ [39]) ++ ((segs w).2.map Sg.q).flatMap Sg.r
      simp
theorem line_keep : ∀ (ws : List (List Nat)), (∀ w ∈ ws, ∀ c ∈ w, Al c) → keepF false false (jn (ws.map qt)) = lineR (ws.map wsg) ∧ stF false false (jn (ws.map qt)) = (false, false)
  | [], h => ⟨rfl, rfl⟩
  | [w], h => word_keep w (h w (.head _))
  | w :: w' :: ws, h => by
    obtain ⟨a1, a2⟩ := word_keep w (h w (.head _))
    obtain ⟨b1, b2⟩ := line_keep (w' :: ws) fun v hv => h v (.tail _ hv)
    have e : jn ((w :: w' :: ws).map qt) = qt w ++ 32 :: jn ((w' :: ws).map qt) := rfl
    have e2 : lineR ((w :: w' :: ws).map wsg) = rend ((wsg w).1 :: (wsg w).2) ++ 32 :: lineR ((w' :: ws).map wsg) := rfl
    rw [e, e2, keepF_app, stF_app, a1, a2]
    have k : keepF false false (32 :: jn ((w' :: ws).map qt)) = 32 :: keepF false false (jn ((w' :: ws).map qt)) := rfl
    have s : stF false false (32 :: jn ((w' :: ws).map qt)) = stF false false (jn ((w' :: ws).map qt)) := rfl
    exact ⟨by rw [k, b1], by rw [s, b2]⟩
theorem keep_len : ∀ (l : List Nat) (bb op : Bool), (keepF bb op l).length < l.length ∨ keepF bb op l = l
  | [], bb, op => .inr (by simp [keepF])
  | c :: r, bb, false => by
    rw [keepF]
    by_cases h : bb = false ∧ c = 34
    · rw [if_pos h]
      rcases keep_len r false true with z | z
      · exact .inl (by simp; (run_tac Drv.lomega))
      · exact .inl (by rw [z]; simp)
    · rw [if_neg h]
      rcases keep_len r (!bb && decide (c = 92)) false with z | z
      · exact .inl (by simp; (run_tac Drv.lomega))
      · exact .inr (by rw [z])
  | c :: r, bb, true => by
    rw [keepF]
    by_cases h : bb = false ∧ c = 34
    · rw [if_pos h]
      rcases keep_len r false false with z | z
      · exact .inl (by simp; (run_tac Drv.lomega))
      · exact .inl (by rw [z]; simp)
    · rw [if_neg h]
      rcases keep_len r (!bb && decide (c = 92)) true with z | z
      · exact .inl (by simp; (run_tac Drv.lomega))
      · exact .inl (by rw [z]; simp)
/- a text with its quotations closed: what the strip makes of it -/
theorem strp_is (x : List Nat) (h : (stF false false x).2 = false) : strp x = keepF false false x := by
  unfold strp
  by_cases h34 : 34 ∈ x
  · rw [if_pos h34]
    have := (stp_keep x x 0 false 0 none rfl (Nat.zero_le _) (Nat.le_refl _) h).1
    simpa using this
  · rw [if_neg h34, keep_id x false h34]
theorem strp_st (x : List Nat) (h : (stF false false x).2 = false) (h34 : 34 ∈ x) (hk : 34 ∉ keepF false false x) : 0 < (stpR x (escs 0 false x) 0 none).2.1 ∧ (stpR x (escs 0 false x) 0 none).1.length ≤ x.length := by
  obtain ⟨a1, _, a3⟩ := stp_keep x x 0 false 0 none rfl (Nat.zero_le _) (Nat.le_refl _) h
  have hlt : (keepF false false x).length < x.length := by
    rcases keep_len x false false with z | z
    · exact z
    · rw [z] at hk; exact absurd h34 hk
  refine ⟨a3 (.inr hlt), ?_⟩
  have := congrArg List.length a1
  rw [List.length_append, List.length_append] at this
  simp at this
  have h2 : (keepF false (none : Option Nat).isSome x).length = (keepF false false x).length := rfl
  simp at h2
  (run_tac Drv.lomega)
end
section
theorem cont_b : ∀ (r : List Nat), (r.map Sg.b).flatMap Sg.c = r
  | [] => rfl
  | c :: r => by rw [List.map_cons, List.flatMap_cons, cont_b r]; rfl
theorem seg_cont : ∀ (w : List Nat), (segs w).1 ++ ((segs w).2.map Sg.q).flatMap Sg.c = w.filter (fun c => decide (c ≠ 39))
  | [] => rfl
  | c :: r => by
    have ih := seg_cont r
    by_cases hc : c = 39
    · subst hc
      simp only [segs, if_true, List.map_cons, List.flatMap_cons, List.nil_append]
      rw [List.filter_cons, if_neg (by simp)]
      exact ih
    · simp only [segs, if_neg hc, List.cons_append]
      rw [List.filter_cons, if_pos (by simp [hc]), ih]
/- a word comes in without its apostrophes -/
theorem wcont_wsg (w : List Nat) : wcont (wsg w) = w.filter (fun c => decide (c ≠ 39)) := by
  unfold wcont wsg cont
  by_cases hs : (w.all fun c => !uns c) = true
  · rw [if_pos hs]
    have hc := safe_all hs
    cases w with
    | nil => rfl
    | cons c r =>
      show Sg.c (.b c) ++ (r.map Sg.b).flatMap Sg.c = _
      rw [cont_b, List.filter_eq_self.mpr]
      · rfl
      · intro d hd; have := hc d hd; simp; (run_tac Drv.lomega)
  · rw [if_neg hs]
    exact seg_cont w
theorem repl_f : ∀ (w : List Nat), repl [39] [] w 0 = w.filter (fun c => decide (c ≠ 39))
  | [] => rfl
  | c :: r => by
    by_cases hc : c = 39
    · subst hc
      rw [repl1_q, repl_f r, List.filter_cons, if_neg (by simp)]; rfl
    · rw [repl1_n _ _ hc, repl_f r, List.filter_cons, if_pos (by simp [hc])]
theorem al_qc {c : Nat} (h : Al c) (h1 : ¬ c = 39) : Qc c := by
  rcases h with rfl | rfl | rfl | rfl | rfl | rfl | rfl | rfl
  · exact .inl rfl
  · exact .inr (.inl rfl)
  · exact .inr (.inr (.inr (.inr (.inr (.inr rfl)))))
  · exact absurd rfl h1
  · exact .inr (.inr (.inr (.inr (.inr (.inl rfl)))))
  · exact .inr (.inr (.inr (.inl rfl)))
  · exact .inr (.inr (.inr (.inr (.inl rfl))))
  · exact .inr (.inr (.inl rfl))
theorem n3_5 {c : Nat} (h : c = 97 ∨ c = 98 ∨ c = 44) : c = 97 ∨ c = 98 ∨ c = 44 ∨ c = 40 ∨ c = 41 := h.imp id (fun h => h.imp id .inl)
theorem seg_ok : ∀ (w : List Nat), (∀ c ∈ w, Al c) → (∀ c ∈ (segs w).1, Qc c) ∧ ∀ p ∈ (segs w).2, ∀ c ∈ p, Qc c
  | [], h => ⟨fun c z => (by cases z), fun p z => (by cases z)⟩
  | c :: r, h => by
    obtain ⟨a, b⟩ := seg_ok r fun d hd => h d (.tail _ hd)
    have hc := h c (.head _)
    by_cases h39 : c = 39
    · subst h39
      simp only [segs, if_true]
      refine ⟨fun d z => (by cases z), fun p hp => ?_⟩
      rcases List.mem_cons.mp hp with rfl | hp
      · exact a
      · exact b p hp
    · simp only [segs, if_neg h39]
      refine ⟨fun d hd => ?_, b⟩
      rcases List.mem_cons.mp hd with rfl | hd
      · exact al_qc hc h39
      · exact a d hd
theorem wok_wsg (w : List Nat) (h : ∀ c ∈ w, Al c) (hl : w.length < 900) : WOk (wsg w) := by
  have hcont := wcont_wsg w
  have hlen : (wcont (wsg w)).length < 1000 := by
    rw [hcont]; have := List.length_filter_le (fun c => decide (c ≠ 39)) w; (run_tac Drv.lomega)
  refine ⟨?_, ?_, hlen⟩
  · intro c hc
    unfold wsg at hc
    split at hc
    · rename_i hs
      have hs := safe_all hs
      cases w with
      | nil => cases hc
      | cons d r =>
        cases hc
        have := hs c (.head _); (run_tac Drv.lomega)
    · cases hc
  · unfold wsg
    split
    · rename_i hs
      have hs := safe_all hs
      cases w with
      | nil => intro s hs; cases List.mem_singleton.mp hs; intro c hc; cases hc
      | cons d r =>
        intro s hs'
        rcases List.mem_cons.mp hs' with rfl | hs'
        · exact n3_5 (hs d (.head _))
        · obtain ⟨c, hc, rfl⟩ := List.mem_map.mp hs'
          exact n3_5 (hs c (.tail _ hc))
    · obtain ⟨a, b⟩ := seg_ok w h
      intro s hs'
      rcases List.mem_cons.mp hs' with rfl | hs'
      · exact a
      · obtain ⟨p, hp, rfl⟩ := List.mem_map.mp hs'
        exact b p hp
theorem dbl_mem : ∀ (w : List Nat) (c : Nat), c ∈ dbl w → c ∈ w
  | [], c, h => by cases h
  | d :: r, c, h => by
    unfold dbl at h
    split at h
    · rename_i hd
      rcases List.mem_cons.mp h with h | h
      · rw [h, ← hd]; exact .head _
      · rcases List.mem_cons.mp h with h | h
        · rw [h, ← hd]; exact .head _
        · exact .tail _ (dbl_mem r c h)
    · rcases List.mem_cons.mp h with h | h
      · rw [h]; exact .head _
      · exact .tail _ (dbl_mem r c h)
theorem E_len : ∀ (w : List Nat), (repl [39] [39, 34, 39, 34, 39] w 0).length ≤ 5 * w.length
  | [] => by simp [repl]
  | c :: r => by
    have := E_len r
    by_cases hc : c = 39
    · subst hc; rw [repl1_q]; simp; (run_tac Drv.lomega)
    · rw [repl1_n _ _ hc]; simp; (run_tac Drv.lomega)
theorem E_mem : ∀ (w : List Nat) (c : Nat), c ∈ repl [39] [39, 34, 39, 34, 39] w 0 → c ∈ w ∨ c = 39 ∨ c = 34
  | [], c, h => by simp [repl] at h
  | d :: r, c, h => by
    by_cases hd : d = 39
    · subst hd
      rw [repl1_q] at h
      rcases List.mem_append.mp h with h | h
      · simp at h
        first | exact .inr h | (rcases h with h | h | h | h | h <;> first | exact .inr (.inl h) | exact .inr (.inr h))
      · rcases E_mem r c h with h | h
        · exact .inl (.tail _ h)
        · exact .inr h
    · rw [repl1_n _ _ hd] at h
      rcases List.mem_cons.mp h with h | h
      · rw [h]; exact .inl (.head _)
      · rcases E_mem r c h with h | h
        · exact .inl (.tail _ h)
        · exact .inr h
theorem qt_small (w : List Nat) (hl : w.length < 5) (h : ∀ c ∈ w, Al c) : (qt w).length ≤ 22 ∧ ∀ c ∈ qt w, c < 128 := by
  have ha : ∀ c, Al c → c < 128 := fun c hc => al_128 hc
  unfold qt
  split
  · exact ⟨by simp, fun c hc => by simp at hc; (run_tac Drv.lomega)⟩
  · split
    · exact ⟨by (run_tac Drv.lomega), fun c hc => ha c (h c hc)⟩
    · have := E_len w
      refine ⟨by simp; (run_tac Drv.lomega), fun c hc => ?_⟩
      simp only [List.mem_append, List.mem_singleton] at hc
      rcases hc with (hc | hc) | hc
      · (run_tac Drv.lomega)
      · rcases E_mem w c hc with hc | hc
        · exact ha c (h c hc)
        · (run_tac Drv.lomega)
      · (run_tac Drv.lomega)
theorem jn_small : ∀ (ws : List (List Nat)), (∀ w ∈ ws, w.length < 5 ∧ ∀ c ∈ w, Al c) → (jn (ws.map qt)).length ≤ 23 * ws.length ∧ ∀ c ∈ jn (ws.map qt), c < 128
  | [], h => ⟨by simp [jn], fun c hc => by simp [jn] at hc⟩
  | [w], h => by
    obtain ⟨a, b⟩ := qt_small w (h w (.head _)).1 (h w (.head _)).2
    exact ⟨by simp [jn]; (run_tac Drv.lomega), by simpa [jn] using b⟩
  | w :: w' :: ws, h => by
    obtain ⟨a, b⟩ := qt_small w (h w (.head _)).1 (h w (.head _)).2
    obtain ⟨a2, b2⟩ := jn_small (w' :: ws) fun v hv => h v (.tail _ hv)
    have e : jn ((w :: w' :: ws).map qt) = qt w ++ 32 :: jn ((w' :: ws).map qt) := rfl
    rw [e]
    refine ⟨by simp at a2 ⊢; (run_tac Drv.lomega), fun c hc => ?_⟩
    rcases List.mem_append.mp hc with hc | hc
    · exact b c hc
    · rcases List.mem_cons.mp hc with hc | hc
      · (run_tac Drv.lomega)
      · exact b2 c hc
theorem rend_mem (w : List Nat) (h : ∀ c ∈ w, Al c) : ∀ c ∈ rend ((wsg w).1 :: (wsg w).2), c < 128 ∧ c ≠ 34 := by
  have ha : ∀ c, Al c → c < 128 ∧ c ≠ 34 := fun c hc => ⟨al_128 hc, al_34 hc⟩
  intro c hc
  by_cases hn : w = []
  · subst hn
    have : rend ((wsg []).1 :: (wsg []).2) = [39, 39] := rfl
    rw [this] at hc; simp at hc; (run_tac Drv.lomega)
  · by_cases hs : (w.all fun c => !uns c) = true
    · have e : rend ((wsg w).1 :: (wsg w).2) = w := by
        unfold wsg
        rw [if_pos hs]
        cases w with
        | nil => exact absurd rfl hn
        | cons d r =>
          show Sg.r (.b d) ++ (r.map Sg.b).flatMap Sg.r = _
          rw [map_b]; rfl
      rw [e] at hc
      exact ha c (h c hc)
    · have e : rend ((wsg w).1 :: (wsg w).2) = 39 :: (dbl w ++ [39]) := by
        unfold wsg
        rw [if_neg hs, ← seg_dbl w]
        show 39 :: ((segs w).1 ++ [39]) ++ ((segs w).2.map Sg.q).flatMap Sg.r = _
        simp
      rw [e] at hc
      simp only [List.mem_cons, List.mem_append, List.mem_singleton, List.not_mem_nil, or_false] at hc
      rcases hc with hc | hc | hc
      · (run_tac Drv.lomega)
      · exact ha c (h c (dbl_mem w c hc))
      · (run_tac Drv.lomega)
theorem lineR_mem : ∀ (ws : List (List Nat)), (∀ w ∈ ws, ∀ c ∈ w, Al c) → ∀ c ∈ lineR (ws.map wsg), c < 128 ∧ c ≠ 34
  | [], h, c, hc => by cases hc
  | [w], h, c, hc => rend_mem w (h w (.head _)) c hc
  | w :: w' :: ws, h, c, hc => by
    have e2 : lineR ((w :: w' :: ws).map wsg) = rend ((wsg w).1 :: (wsg w).2) ++ 32 :: lineR ((w' :: ws).map wsg) := rfl
    rw [e2] at hc
    rcases List.mem_append.mp hc with hc | hc
    · exact rend_mem w (h w (.head _)) c hc
    · rcases List.mem_cons.mp hc with hc | hc
      · (run_tac Drv.lomega)
      · exact lineR_mem (w' :: ws) (fun v hv => h v (.tail _ hv)) c hc
/- the line of a row is fit to be asked for its brackets; what the strip makes of it -/
theorem line_ok (ws : List (List Nat)) (h : ∀ w ∈ ws, w.length < 5 ∧ ∀ c ∈ w, Al c) (hl : ws.length ≤ 10) : LineOk (jn (ws.map qt)) ∧ strp (jn (ws.map qt)) = lineR (ws.map wsg) ∧ (lineR (ws.map wsg)).length < 1000 := by
  obtain ⟨a, b⟩ := jn_small ws h
  obtain ⟨k, s⟩ := line_keep ws fun w hw => (h w hw).2
  have hcl : (stF false false (jn (ws.map qt))).2 = false := by rw [s]
  have hs := strp_is _ hcl
  have hm := lineR_mem ws fun w hw => (h w hw).2
  have hkl : (keepF false false (jn (ws.map qt))).length ≤ (jn (ws.map qt)).length := by
    rcases keep_len (jn (ws.map qt)) false false with z | z
    · (run_tac Drv.lomega)
    · rw [z]; exact Nat.le_refl _
  rw [k] at hkl hs
  refine ⟨⟨by (run_tac Drv.lomega), b, fun h34 => ?_, by rw [hs]; (run_tac Drv.lomega), by rw [hs]; exact fun c hc => (hm c hc).1⟩, hs, by (run_tac Drv.lomega)⟩
  obtain ⟨z1, z2⟩ := strp_st _ hcl h34 (by rw [k]; exact fun z => (hm 34 z).2 rfl)
  exact ⟨z1, by (run_tac Drv.lomega)⟩
end
section
/- the brackets that no backslash escapes -/
noncomputable def brF : Bool → List Nat → List Nat
  | _, [] => []
  | bb, c :: r => if bb = false ∧ (c = 40 ∨ c = 41) then c :: brF false r else brF (!bb && decide (c = 92)) r
noncomputable def stB : Bool → List Nat → Bool
  | bb, [] => bb
  | bb, c :: r => stB (!bb && decide (c = 92)) r
/- brackets counted: none, where one is closed that is not open -/
noncomputable def cnt : List Nat → Nat → Option Nat
  | [], o => some o
  | c :: r, o => if c = 40 then cnt r (o + 1) else if c = 41 then (if o = 0 then none else cnt r (o - 1)) else cnt r o
theorem brF_app : ∀ (u v : List Nat) (bb : Bool), brF bb (u ++ v) = brF bb u ++ brF (stB bb u) v
  | [], v, bb => rfl
  | c :: r, v, bb => by
    rw [List.cons_append, brF, brF, stB]
    by_cases h : bb = false ∧ (c = 40 ∨ c = 41)
    · rw [if_pos h, if_pos h]
      have : (!bb && decide (c = 92)) = false := by obtain ⟨h1, h2⟩ := h; subst h1; simp; (run_tac Drv.lomega)
      rw [this, brF_app r v]; rfl
    · rw [if_neg h, if_neg h]; exact brF_app r v _
theorem stB_app : ∀ (u v : List Nat) (bb : Bool), stB bb (u ++ v) = stB (stB bb u) v
  | [], v, bb => rfl
  | c :: r, v, bb => stB_app r v _
/- _check_parenthesis counts these -/
theorem chkO_is : ∀ (rem : List Nat) (i : Nat) (bb : Bool) (o : Nat), chkO (escs i bb rem) o = cnt (brF bb rem) o
  | [], i, false, o => rfl
  | [], i, true, o => by simp [escs, chkO, brF, cnt]
  | c :: r, i, true, o => by
    have he : escs i true (c :: r) = (i, [92, c]) :: escs (i + 1) false r := rfl
    rw [he, chkO, if_neg (by simp), if_neg (by simp), chkO_is r, brF, if_neg (by simp)]; rfl
  | c :: r, i, false, o => by
    by_cases h92 : c = 92
    · subst h92
      have he : escs i false (92 :: r) = escs (i + 1) true r := by simp [escs]
      rw [he, chkO_is r, brF, if_neg (by simp)]; rfl
    · have he : escs i false (c :: r) = (i, [c]) :: escs (i + 1) false r := by rw [escs, if_neg h92]
      by_cases h40 : c = 40
      · subst h40
        rw [he, chkO, brF, if_pos rfl, if_pos (by simp), cnt, if_pos rfl, chkO_is r]
      · by_cases h41 : c = 41
        · subst h41
          rw [he]
          have hb : brF false (41 :: r) = 41 :: brF false r := by simp [brF]
          have e1 : chkO ((i, [41]) :: escs (i + 1) false r) o = if o = 0 then none else chkO (escs (i + 1) false r) (o - 1) := by simp [chkO]
          have e2 : cnt (41 :: brF false r) o = if o = 0 then none else cnt (brF false r) (o - 1) := by simp [cnt]
          rw [e1, hb, e2, chkO_is r]
        · rw [he, chkO, brF, if_neg (by simp [h40]), if_neg (by simp [h41]), if_neg (fun z => by rcases z.2 with z | z <;> contradiction), chkO_is r]
          simp [h92]
theorem brF_dbl : ∀ (w : List Nat) (bb : Bool), brF bb (dbl w) = brF bb w
  | [], bb => rfl
  | c :: r, bb => by
    by_cases hc : c = 39
    · subst hc
      have e : dbl (39 :: r) = 39 :: 39 :: dbl r := by simp [dbl]
      rw [e]
      have h1 : brF bb (39 :: 39 :: dbl r) = brF false (dbl r) := by simp [brF]
      have h2 : brF bb (39 :: r) = brF false r := by simp [brF]
      rw [h1, h2, brF_dbl r]
    · have e : dbl (c :: r) = c :: dbl r := by rw [dbl, if_neg hc]
      rw [e, brF, brF, brF_dbl r, brF_dbl r]
theorem brF_none : ∀ (w : List Nat), (∀ c ∈ w, c ≠ 40 ∧ c ≠ 41 ∧ c ≠ 92) → brF false w = [] ∧ stB false w = false
  | [], h => ⟨rfl, rfl⟩
  | c :: r, h => by
    obtain ⟨h1, h2, h3⟩ := h c (.head _)
    obtain ⟨i1, i2⟩ := brF_none r fun d hd => h d (.tail _ hd)
    rw [brF, if_neg (fun z => by rcases z.2 with z | z <;> contradiction), stB]
    simp only [h3, decide_false, Bool.and_false]
    exact ⟨i1, i2⟩
theorem rend_is (w : List Nat) : rend ((wsg w).1 :: (wsg w).2) = if (w.all fun c => !uns c) = true then (if w = [] then [39, 39] else w) else 39 :: (dbl w ++ [39]) := by
  unfold wsg
  by_cases hs : (w.all fun c => !uns c) = true
  · rw [if_pos hs, if_pos hs]
    cases w with
    | nil => rfl
    | cons c r =>
      rw [if_neg (by simp)]
      show Sg.r (.b c) ++ (r.map Sg.b).flatMap Sg.r = _
      rw [map_b]; rfl
  · rw [if_neg hs, if_neg hs, ← seg_dbl w]
    show 39 :: ((segs w).1 ++ [39]) ++ ((segs w).2.map Sg.q).flatMap Sg.r = _
    simp
theorem brF_word (w : List Nat) : brF false (rend ((wsg w).1 :: (wsg w).2)) = brF false w ∧ stB false (rend ((wsg w).1 :: (wsg w).2)) = false := by
  rw [rend_is]
  by_cases hs : (w.all fun c => !uns c) = true
  · rw [if_pos hs]
    have hc := safe_all hs
    split
    · rename_i hw; subst hw; exact ⟨rfl, rfl⟩
    · exact ⟨rfl, (brF_none w fun c hc' => by have := hc c hc'; (run_tac Drv.lomega)).2⟩
  · rw [if_neg hs]
    have e1 : brF false (39 :: (dbl w ++ [39])) = brF false (dbl w ++ [39]) := by simp [brF]
    have e2 : stB false (39 :: (dbl w ++ [39])) = stB false (dbl w ++ [39]) := by simp [stB]
    rw [e1, e2, brF_app, stB_app, brF_dbl]
    have h1 : ∀ b, brF b [39] = [] := by intro b; cases b <;> rfl
    have h2 : ∀ b, stB b [39] = false := by intro b; cases b <;> rfl
    rw [h1, h2]
    exact ⟨by simp, rfl⟩
theorem brF_line : ∀ (ws : List (List Nat)), brF false (lineR (ws.map wsg)) = (ws.map (brF false)).flatten ∧ stB false (lineR (ws.map wsg)) = false
  | [] => ⟨rfl, rfl⟩
  | [w] => by
    obtain ⟨a, b⟩ := brF_word w
    exact ⟨by simp only [List.map_cons, List.map_nil, List.flatten_cons, List.flatten_nil, List.append_nil]; exact a, b⟩
  | w :: w' :: ws => by
    obtain ⟨a, b⟩ := brF_word w
    obtain ⟨c, d⟩ := brF_line (w' :: ws)
    have e2 : lineR ((w :: w' :: ws).map wsg) = rend ((wsg w).1 :: (wsg w).2) ++ 32 :: lineR ((w' :: ws).map wsg) := rfl
    rw [e2, brF_app, stB_app, a, b]
    have k : brF false (32 :: lineR ((w' :: ws).map wsg)) = brF false (lineR ((w' :: ws).map wsg)) := by simp [brF]
    have s : stB false (32 :: lineR ((w' :: ws).map wsg)) = stB false (lineR ((w' :: ws).map wsg)) := by simp [stB]
    rw [k, s, c, d]
    exact ⟨rfl, rfl⟩
/- every backslash is followed by a sign not among S, or by nothing -/
noncomputable def wf (S : List Nat) : List Nat → Prop
  | [] => True
  | c :: r => (c = 92 → ∀ d r', r = d :: r' → d ∉ S) ∧ wf S r
theorem repl2_hit (t : Nat) (r : List Nat) : repl [92, t] [] (92 :: t :: r) 0 = repl [92, t] [] r 0 := by simp [repl, List.isPrefixOf]
theorem repl2_miss (t c : Nat) (r : List Nat) (h : ¬ (c = 92 ∧ ∃ r', r = t :: r')) : repl [92, t] [] (c :: r) 0 = c :: repl [92, t] [] r 0 := by
  have hp : ¬ ([92, t].isPrefixOf (c :: r) = true) := by
    intro z
    apply h
    cases r with
    | nil => simp [List.isPrefixOf] at z
    | cons d r =>
      simp [List.isPrefixOf] at z
      exact ⟨z.1.symm, r, by rw [z.2]⟩
  rw [repl, if_neg hp]
/- the first pass takes the pairs of backslashes -/
theorem pass1 : ∀ (n : Nat) (w : List Nat), w.length ≤ n → brF false (repl [92, 92] [] w 0) = brF false w ∧ wf [92] (repl [92, 92] [] w 0)
  | _, [], _ => ⟨rfl, trivial⟩
  | 0, c :: r, h => by simp at h
  | n + 1, c :: r, h => by
    simp at h
    by_cases h92 : c = 92
    · subst h92
      cases r with
      | nil =>
        rw [repl2_miss _ _ _ (by simp)]
        exact ⟨rfl, ⟨fun _ d r' z => by simp [repl] at z, trivial⟩⟩
      | cons d r =>
        simp at h
        by_cases hd : d = 92
        · subst hd
          rw [repl2_hit]
          obtain ⟨i1, i2⟩ := pass1 n r (by (run_tac Drv.lomega))
          refine ⟨?_, i2⟩
          rw [i1]; simp [brF]
        · rw [repl2_miss _ _ _ (fun z => by obtain ⟨_, r', z⟩ := z; simp at z; exact hd z.1), repl2_miss _ _ _ (fun z => hd z.1)]
          obtain ⟨i1, i2⟩ := pass1 n r (by (run_tac Drv.lomega))
          refine ⟨?_, ⟨fun _ e r' z => ?_, fun z => absurd z hd, i2⟩⟩
          · have e1 : ∀ l, brF false (92 :: d :: l) = brF false l := by intro l; simp [brF]
            rw [e1, e1, i1]
          · injection z with z1 z2; subst z1; simp [hd]
    · rw [repl2_miss _ _ _ (fun z => h92 z.1)]
      obtain ⟨i1, i2⟩ := pass1 n r (by (run_tac Drv.lomega))
      refine ⟨?_, ⟨fun z => absurd z h92, i2⟩⟩
      rw [brF, brF]
      simp only [h92, decide_false, Bool.and_false, i1]
theorem pass2 (t : Nat) (ht : t ≠ 92) (S : List Nat) (hS : 92 ∈ S) : ∀ (n : Nat) (w : List Nat), w.length ≤ n → wf S w → brF false (repl [92, t] [] w 0) = brF false w ∧ wf (t :: S) (repl [92, t] [] w 0)
  | _, [], _, _ => ⟨rfl, trivial⟩
  | 0, c :: r, h, _ => by simp at h
  | n + 1, c :: r, h, hw => by
    simp at h
    obtain ⟨hw1, hw2⟩ := hw
    by_cases h92 : c = 92
    · subst h92
      cases r with
      | nil =>
        rw [repl2_miss _ _ _ (by simp)]
        exact ⟨rfl, ⟨fun _ d r' z => by simp [repl] at z, trivial⟩⟩
      | cons d r =>
        simp at h
        have hdS : d ∉ S := hw1 rfl d r rfl
        have hd : d ≠ 92 := fun z => hdS (by rw [z]; exact hS)
        obtain ⟨i1, i2⟩ := pass2 t ht S hS n r (by (run_tac Drv.lomega)) hw2.2
        by_cases hdt : d = t
        · subst hdt
          rw [repl2_hit]
          refine ⟨?_, i2⟩
          rw [i1]; simp [brF]
        · rw [repl2_miss _ _ _ (fun z => by obtain ⟨_, r', z⟩ := z; simp at z; exact hdt z.1), repl2_miss _ _ _ (fun z => hd z.1)]
          refine ⟨?_, ⟨fun _ e r' z => ?_, fun z => absurd z hd, i2⟩⟩
          · have e1 : ∀ l, brF false (92 :: d :: l) = brF false l := by intro l; simp [brF]
            rw [e1, e1, i1]
          · injection z with z1 z2; subst z1; simp [hdt, hdS]
    · rw [repl2_miss _ _ _ (fun z => h92 z.1)]
      obtain ⟨i1, i2⟩ := pass2 t ht S hS n r (by (run_tac Drv.lomega)) hw2
      refine ⟨?_, ⟨fun z => absurd z h92, i2⟩⟩
      rw [brF, brF]
      simp only [h92, decide_false, Bool.and_false, i1]
theorem filt_wf : ∀ (w : List Nat), wf [41, 40, 92] w → w.filter brk = brF false w
  | [], _ => rfl
  | c :: r, ⟨h1, h2⟩ => by
    have ih := filt_wf r h2
    by_cases h92 : c = 92
    · subst h92
      have e1 : brF false (92 :: r) = brF true r := by simp [brF]
      rw [List.filter_cons, if_neg (by simp [brk]), e1, ih]
      cases r with
      | nil => rfl
      | cons d r =>
        have := h1 rfl d r rfl
        simp at this
        rw [brF, brF, if_neg (fun z => by rcases z.2 with z | z <;> (run_tac Drv.lomega)), if_neg (by simp)]
        simp [this.2.2]
    · rw [List.filter_cons, brF]
      by_cases hb : c = 40 ∨ c = 41
      · rw [if_pos (by simp [brk, hb]), if_pos ⟨rfl, hb⟩, ih]
      · rw [if_neg (by simp [brk, hb]), if_neg (fun z => hb z.2), ih]; simp [h92]
/- what _law_closed looks at: the brackets that no backslash escapes -/
theorem plain_br (w : List Nat) : (plainR w).filter brk = brF false w := by
  unfold plainR
  obtain ⟨a1, a2⟩ := pass1 w.length w (Nat.le_refl _)
  generalize repl [92, 92] [] w 0 = w1 at *
  obtain ⟨b1, b2⟩ := pass2 40 (by decide) [92] (by simp) w1.length w1 (Nat.le_refl _) a2
  generalize repl [92, 40] [] w1 0 = w2 at *
  obtain ⟨c1, c2⟩ := pass2 41 (by decide) [40, 92] (by simp) w2.length w2 (Nat.le_refl _) b2
  rw [filt_wf _ c2, c1, b1, a1]
theorem signs_is (ws : List (List Nat)) : signs ws = (ws.map (brF false)).flatten := by
  unfold signs
  congr 1
  exact List.map_congr_left fun w _ => plain_br w
theorem cnt_repl : ∀ (n : Nat) (l : List Nat) (o : Nat), l.length ≤ n → cnt (repl [40, 41] [] l 0) o = cnt l o
  | _, [], o, _ => rfl
  | 0, c :: r, o, h => by simp at h
  | n + 1, c :: r, o, h => by
    simp at h
    by_cases hp : [40, 41].isPrefixOf (c :: r) = true
    · cases r with
      | nil => simp [List.isPrefixOf] at hp
      | cons d r =>
        simp [List.isPrefixOf] at hp
        obtain ⟨rfl, rfl⟩ := hp
        have e : repl [40, 41] [] (40 :: 41 :: r) 0 = repl [40, 41] [] r 0 := by simp [repl, List.isPrefixOf]
        simp at h
        rw [e, cnt_repl n r o (by (run_tac Drv.lomega))]
        simp [cnt]
    · rw [repl, if_neg hp, cnt, cnt]
      have ih := fun o => cnt_repl n r o (by (run_tac Drv.lomega))
      simp only [ih]
theorem brs_repl (l : List Nat) (h : ∀ c ∈ l, c = 40 ∨ c = 41) : ∀ c ∈ repl [40, 41] [] l 0, c = 40 ∨ c = 41 := fun c hc => h c (repl_mem _ _ _ _ hc)
theorem all_open : ∀ (r : List Nat) (i : Nat), scan [40, 41] (40 :: r) i 0 = [] → (∀ c ∈ r, c = 40 ∨ c = 41) → ∀ o, cnt (40 :: r) o = some (o + 1 + r.length)
  | [], i, _, _, o => by simp [cnt]
  | d :: r, i, h, hb, o => by
    have hp : ¬ ([40, 41].isPrefixOf (40 :: d :: r) = true) := by
      intro z; unfold scan at h; rw [if_pos z] at h; cases h
    have hd : d = 40 := by
      rcases hb d (.head _) with z | z
      · exact z
      · subst z; exact absurd (by simp [List.isPrefixOf]) hp
    subst hd
    have hs : scan [40, 41] (40 :: r) (i + 1) 0 = [] := by unfold scan at h; rw [if_neg hp] at h; exact h
    have := all_open r (i + 1) hs (fun c hc => hb c (.tail _ hc)) (o + 1)
    rw [cnt, if_pos rfl, this]
    simp; (run_tac Drv.lomega)
theorem no_pair (l : List Nat) (h : scan [40, 41] l 0 0 = []) (hb : ∀ c ∈ l, c = 40 ∨ c = 41) : cnt l 0 = some 0 ↔ l = [] := by
  cases l with
  | nil => exact ⟨fun _ => rfl, fun _ => rfl⟩
  | cons c r =>
    refine ⟨fun z => ?_, fun z => by cases z⟩
    rcases hb c (.head _) with rfl | rfl
    · rw [all_open r 0 h (fun d hd => hb d (.tail _ hd)) 0] at z
      injection z with z; (run_tac Drv.lomega)
    · simp [cnt] at z
theorem red_cnt : ∀ (f : Nat) (l : List Nat), l.length < f → (∀ c ∈ l, c = 40 ∨ c = 41) → (cnt l 0 = some 0 ↔ red f l = [])
  | 0, l, h, _ => absurd h (Nat.not_lt_zero _)
  | f + 1, l, h, hb => by
    unfold red
    by_cases hs : scan [40, 41] l 0 0 = []
    · rw [if_pos hs]; exact no_pair l hs hb
    · rw [if_neg hs, ← cnt_repl l.length l 0 (Nat.le_refl _)]
      have := repl_less [40, 41] l 0 hs
      exact red_cnt f _ (by (run_tac Drv.lomega)) (brs_repl l hb)
theorem brF_mem : ∀ (w : List Nat) (bb : Bool) (c : Nat), c ∈ brF bb w → c = 40 ∨ c = 41
  | [], bb, c, h => by cases h
  | d :: r, bb, c, h => by
    unfold brF at h
    split at h
    · rename_i hd
      rcases List.mem_cons.mp h with h | h
      · rw [h]; exact hd.2
      · exact brF_mem r _ c h
    · exact brF_mem r _ c h
theorem brF_len : ∀ (w : List Nat) (bb : Bool), (brF bb w).length ≤ w.length
  | [], bb => by simp [brF]
  | d :: r, bb => by
    unfold brF
    split
    · have := brF_len r false; simp; (run_tac Drv.lomega)
    · have := brF_len r (!bb && decide (d = 92)); simp; (run_tac Drv.lomega)
/- _check_parenthesis lets a row's line pass just when the row's brackets close each other -/
theorem chk_line (ws : List (List Nat)) (h : ∀ w ∈ ws, w.length < 5 ∧ ∀ c ∈ w, Al c) (hl : ws.length ≤ 10) : chk (jn (ws.map qt)) = closedR ws := by
  obtain ⟨-, hs, -⟩ := line_ok ws h hl
  unfold chk closedR
  rw [hs, chkO_is, (brF_line ws).1, signs_is]
  have hm : ∀ c ∈ (ws.map (brF false)).flatten, c = 40 ∨ c = 41 := fun c hc => by
    obtain ⟨l, hl, hc⟩ := List.mem_flatten.mp hc
    obtain ⟨w, _, rfl⟩ := List.mem_map.mp hl
    exact brF_mem w false c hc
  have hlen : ((ws.map (brF false)).flatten).length ≤ 4 * ws.length := by
    clear hm hs hl
    induction ws with
    | nil => simp
    | cons w ws ih =>
      have := ih fun v hv => h v (.tail _ hv)
      have h1 := (h w (.head _)).1
      have h2 := brF_len w false
      simp only [List.map_cons, List.flatten_cons, List.length_append, List.length_cons] at this ⊢
      (run_tac Drv.lomega)
  generalize (ws.map (brF false)).flatten = l at *
  have key := red_cnt 1000 l (by (run_tac Drv.lomega)) hm
  cases hc : cnt l 0 with
  | none =>
    rw [hc] at key
    exact (decide_eq_false fun z => by have := key.mpr z; cases this).symm
  | some o =>
    rw [hc] at key
    show decide (o = 0) = _
    by_cases ho : o = 0
    · subst ho
      rw [decide_eq_true rfl, decide_eq_true (key.mp rfl)]
    · rw [decide_eq_false ho, decide_eq_false fun z => by have := key.mpr z; injection this with e; exact ho e]
/- the line that stands in for a row whose brackets don't close -/
noncomputable def nopeW : List (Sg × List Sg) := [(.b 40, [.q [], .b 44]), (.q [], [.b 41])]
theorem nope_line : nope = lineR nopeW := rfl
theorem nope_cont : nopeW.map wcont = [[40, 44], [41]] := rfl
theorem nope_strp : strp nope = nope := by unfold strp; rw [if_neg (by decide)]
theorem nope_ok : ∀ w ∈ nopeW, WOk w := by
  intro w hw
  simp only [nopeW, List.mem_cons, List.not_mem_nil, or_false] at hw
  rcases hw with rfl | rfl
  · refine ⟨fun c hc => (by cases hc; decide), fun s hs => ?_, by decide⟩
    simp only [List.mem_cons, List.not_mem_nil, or_false] at hs
    rcases hs with rfl | rfl | rfl
    · show (40 : Nat) = 97 ∨ _; (run_tac Drv.lomega)
    · intro c hc; cases hc
    · show (44 : Nat) = 97 ∨ _; (run_tac Drv.lomega)
  · refine ⟨fun c hc => (by cases hc), fun s hs => ?_, by decide⟩
    simp only [List.mem_cons, List.not_mem_nil, or_false] at hs
    rcases hs with rfl | rfl
    · intro c hc; cases hc
    · show (41 : Nat) = 97 ∨ _; (run_tac Drv.lomega)
end
section
/- what sorted_list_difference tells -/
noncomputable def difR : Nat → List (List Nat) → List (List Nat) → List (List Nat) × List (List Nat)
  | 0, es, as => (es, as)
  | _ + 1, [], as => ([], as)
  | _ + 1, e :: es, [] => (e :: es, [])
  | f + 1, e :: es, a :: as =>
    if e < a then (e :: (difR f (es.dropWhile (· == e)) (a :: as)).1, (difR f (es.dropWhile (· == e)) (a :: as)).2)
    else if a < e then ((difR f (e :: es) (as.dropWhile (· == a))).1, a :: (difR f (e :: es) (as.dropWhile (· == a))).2)
    else difR f (es.dropWhile (· == e)) (as.dropWhile (· == a))
/- in order -/
noncomputable def Ord (l : List (List Nat)) : Prop := l.Pairwise (fun a b => ¬ b < a)
theorem lt_irr (a : List Nat) : ¬ a < a := List.lt_irrefl a
theorem lt_tr {a b c : List Nat} (h1 : a < b) (h2 : b < c) : a < c := List.lt_trans h1 h2
theorem eq_of_nlt {a b : List Nat} (h1 : ¬ a < b) (h2 : ¬ b < a) : a = b := List.le_antisymm (List.not_lt.mp h2) (List.not_lt.mp h1)
theorem lt_of_le {a b c : List Nat} (h1 : ¬ b < a) (h2 : b < c) : a < c := by
  by_cases h : a < c
  · exact h
  · by_cases hab : a < b
    · exact lt_tr hab h2
    · rw [eq_of_nlt hab h1]; exact h2
theorem lt_of_lt {a b c : List Nat} (h1 : a < b) (h2 : ¬ c < b) : a < c := by
  by_cases hbc : b < c
  · exact lt_tr h1 hbc
  · rw [← eq_of_nlt hbc h2]; exact h1
theorem dw_sub (e : List Nat) : ∀ (l : List (List Nat)), ∃ k, l = List.replicate k e ++ l.dropWhile (· == e)
  | [] => ⟨0, rfl⟩
  | x :: r => by
    by_cases h : x = e
    · obtain ⟨k, hk⟩ := dw_sub e r
      refine ⟨k + 1, ?_⟩
      rw [List.dropWhile_cons, if_pos (by simp [h]), List.replicate_succ, List.cons_append, ← hk, h]
    · exact ⟨0, by rw [List.dropWhile_cons, if_neg (by simp [h])]; rfl⟩
theorem dw_head {e x : List Nat} {l r : List (List Nat)} (h : l.dropWhile (· == e) = x :: r) : x ≠ e := by
  have := List.head?_dropWhile_not (· == e) l
  rw [h] at this
  simpa using this
theorem dw_len (e : List Nat) (l : List (List Nat)) : (l.dropWhile (· == e)).length ≤ l.length := (List.dropWhile_suffix _).length_le
theorem dw_ord {e : List Nat} {l : List (List Nat)} (h : Ord (e :: l)) : Ord (l.dropWhile (· == e)) ∧ ∀ x ∈ l.dropWhile (· == e), e < x := by
  have h2 := (List.pairwise_cons.mp h)
  have ho : Ord (l.dropWhile (· == e)) := h2.2.sublist (List.dropWhile_suffix _).sublist
  refine ⟨ho, fun x hx => ?_⟩
  cases hd : l.dropWhile (· == e) with
  | nil => rw [hd] at hx; cases hx
  | cons y r =>
    rw [hd] at hx ho
    have hy : e < y := by
      have h1 : ¬ y < e := h2.1 y ((List.dropWhile_suffix _).subset (by rw [hd]; exact .head _))
      by_cases hey : e < y
      · exact hey
      · exact absurd (eq_of_nlt hey h1).symm (dw_head hd)
    rcases List.mem_cons.mp hx with rfl | hx
    · exact hy
    · exact lt_of_lt hy ((List.pairwise_cons.mp ho).1 x hx)
theorem beyR_skip (os : List (List Nat)) (last e : List Nat) (hl : e ∈ os ∨ ¬ last < e) : ∀ (k : Nat) (l : List (List Nat)), beyR os last (some e) (List.replicate k e ++ l) = beyR os last (some e) l
  | 0, l => rfl
  | k + 1, l => by
    rw [List.replicate_succ, List.cons_append, beyR, if_neg, beyR_skip os last e hl k l]
    rintro ⟨h1, h2⟩
    rcases h2 with h2 | h2 | h2
    · cases h2
    · exact h2 rfl
    · rcases hl with hl | hl
      · exact h1 hl
      · exact hl h2
theorem beyR_all (os : List (List Nat)) (last : List Nat) : ∀ (l : List (List Nat)) (p : Option (List Nat)), (∀ x ∈ l, x ∉ os ∧ last < x) → beyR os last p l = l
  | [], p, h => rfl
  | x :: r, p, h => by
    obtain ⟨h1, h2⟩ := h x (.head _)
    rw [beyR, if_pos ⟨h1, .inr (.inr h2)⟩, beyR_all os last r (some x) fun y hy => h y (.tail _ hy)]
/- the first of the two, from any place on -/
theorem dif_one (os : List (List Nat)) (last : List Nat) : ∀ (f : Nat) (E A : List (List Nat)) (p : Option (List Nat)), E.length + A.length < f → Ord E → Ord A →
    (∀ x ∈ E, x ∈ os ↔ x ∈ A) → (A ≠ [] → A.getLast? = some last) → (A = [] → ∀ x ∈ E, last < x) → (∀ e r, E = e :: r → p ≠ some e) → (difR f E A).1 = beyR os last p E
  | 0, E, A, p, hf, _, _, _, _, _, _ => absurd hf (Nat.not_lt_zero _)
  | f + 1, [], A, p, hf, hE, hA, hm, hlast, hnil, hp => rfl
  | f + 1, e :: es, [], p, hf, hE, hA, hm, hlast, hnil, hp => by
    show e :: es = _
    rw [beyR_all]
    intro x hx
    exact ⟨fun z => (by have := (hm x hx).mp z; cases this), hnil rfl x hx⟩
  | f + 1, e :: es, a :: as, p, hf, hE, hA, hm, hlast, hnil, hp => by
    simp only [List.length_cons] at hf
    obtain ⟨ke, hke⟩ := dw_sub e es
    obtain ⟨hoE, hgE⟩ := dw_ord hE
    obtain ⟨hoA, hgA⟩ := dw_ord hA
    have hAa := (List.pairwise_cons.mp hA).1
    have hEe := (List.pairwise_cons.mp hE).1
    have hlE := dw_len e es
    have hlA := dw_len a as
    have hmE : ∀ x ∈ es.dropWhile (· == e), x ∈ e :: es := fun x hx => .tail _ ((List.dropWhile_suffix _).subset hx)
    have hlastA : last = a ∨ last ∈ as := by
      have := hlast (by simp)
      have h2 := List.mem_of_getLast? this
      rcases List.mem_cons.mp h2 with z | z
      · exact .inl z
      · exact .inr z
    have hla : ¬ last < a := by
      rcases hlastA with rfl | z
      · exact lt_irr _
      · exact hAa _ z
    rw [difR]
    by_cases h1 : e < a
    · rw [if_pos h1]
      show e :: (difR f (es.dropWhile (· == e)) (a :: as)).1 = _
      have heA : e ∉ a :: as := fun z => by
        rcases List.mem_cons.mp z with z | z
        · rw [z] at h1; exact lt_irr _ h1
        · exact hAa e z h1
      have heo : e ∉ os := fun z => heA ((hm e (.head _)).mp z)
      rw [beyR, if_pos ⟨heo, .inr (.inl (hp e es rfl))⟩]
      congr 1
      have hle : ¬ last < e := fun z => hla (lt_tr z h1)
      rw [dif_one os last f (es.dropWhile (· == e)) (a :: as) (some e) (by simp; (run_tac Drv.lomega)) hoE hA (fun x hx => hm x (hmE x hx)) hlast (fun z => by cases z) (fun x r hx z => by
        injection z with z
        exact dw_head hx z.symm)]
      conv => rhs; rw [hke]
      rw [beyR_skip os last e (.inr hle)]
    · rw [if_neg h1]
      by_cases h2 : a < e
      · rw [if_pos h2]
        show (difR f (e :: es) (as.dropWhile (· == a))).1 = _
        refine dif_one os last f (e :: es) (as.dropWhile (· == a)) p (by simp; (run_tac Drv.lomega)) hE hoA (fun x hx => ?_) (fun hne => ?_) (fun hn x hx => ?_) hp
        · rw [hm x hx]
          have hxa : a < x := by
            rcases List.mem_cons.mp hx with rfl | hx
            · exact h2
            · exact lt_of_lt h2 (hEe x hx)
          obtain ⟨ka, hka⟩ := dw_sub a as
          constructor
          · intro z
            rcases List.mem_cons.mp z with z | z
            · rw [z] at hxa; exact absurd hxa (lt_irr _)
            · rw [hka] at z
              rcases List.mem_append.mp z with z | z
              · rw [List.eq_of_mem_replicate z] at hxa; exact absurd hxa (lt_irr _)
              · exact z
          · intro z; exact .tail _ ((List.dropWhile_suffix _).subset z)
        · have h3 := hlast (by simp)
          obtain ⟨ka, hka⟩ := dw_sub a as
          have : (a :: as).getLast? = (as.dropWhile (· == a)).getLast? := by
            conv => lhs; rw [hka]
            rw [← List.cons_append, List.getLast?_append]
            cases hd : (as.dropWhile (· == a)) with
            | nil => exact absurd hd hne
            | cons y r => rw [List.getLast?_cons]; rfl
          rw [← this]; exact h3
        · -- nothing above a: the last is a
          have hall : ∀ y ∈ as, y = a := fun y hy => by
            obtain ⟨ka, hka⟩ := dw_sub a as
            rw [hn, List.append_nil] at hka
            rw [hka] at hy
            exact List.eq_of_mem_replicate hy
          have hl : last = a := by
            rcases hlastA with z | z
            · exact z
            · exact hall _ z
          rw [hl]
          rcases List.mem_cons.mp hx with rfl | hx
          · exact h2
          · exact lt_of_lt h2 (hEe x hx)
      · rw [if_neg h2]
        have hea : e = a := eq_of_nlt h1 h2
        subst hea
        have heo : e ∈ os := (hm e (.head _)).mpr (.head _)
        rw [beyR, if_neg (fun z => z.1 heo)]
        conv => rhs; rw [hke]
        rw [beyR_skip os last e (.inl heo)]
        refine dif_one os last f _ _ (some e) (by (run_tac Drv.lomega)) hoE hoA (fun x hx => ?_) (fun hne => ?_) (fun hn x hx => ?_) (fun x r hx z => by
          injection z with z
          exact dw_head hx z.symm)
        · rw [hm x (hmE x hx)]
          have hxa : e < x := hgE x hx
          obtain ⟨ka, hka⟩ := dw_sub e as
          constructor
          · intro z
            rcases List.mem_cons.mp z with z | z
            · rw [z] at hxa; exact absurd hxa (lt_irr _)
            · rw [hka] at z
              rcases List.mem_append.mp z with z | z
              · rw [List.eq_of_mem_replicate z] at hxa; exact absurd hxa (lt_irr _)
              · exact z
          · intro z; exact .tail _ ((List.dropWhile_suffix _).subset z)
        · have h3 := hlast (by simp)
          obtain ⟨ka, hka⟩ := dw_sub e as
          have : (e :: as).getLast? = (as.dropWhile (· == e)).getLast? := by
            conv => lhs; rw [hka]
            rw [← List.cons_append, List.getLast?_append]
            cases hd : (as.dropWhile (· == e)) with
            | nil => exact absurd hd hne
            | cons y r => rw [List.getLast?_cons]; rfl
          rw [← this]; exact h3
        · have hall : ∀ y ∈ as, y = e := fun y hy => by
            obtain ⟨ka, hka⟩ := dw_sub e as
            rw [hn, List.append_nil] at hka
            rw [hka] at hy
            exact List.eq_of_mem_replicate hy
          have hl : last = e := by
            rcases hlastA with z | z
            · exact z
            · exact hall _ z
          rw [hl]; exact hgE x hx
theorem dif_swap : ∀ (f : Nat) (E A : List (List Nat)), difR f A E = ((difR f E A).2, (difR f E A).1)
  | 0, E, A => rfl
  | f + 1, [], [] => rfl
  | f + 1, [], a :: as => rfl
  | f + 1, e :: es, [] => rfl
  | f + 1, e :: es, a :: as => by
    by_cases h1 : e < a
    · have h2 : ¬ a < e := fun z => lt_irr _ (lt_tr h1 z)
      simp only [difR, if_neg h2, if_pos h1]
      rw [dif_swap f]
    · by_cases h2 : a < e
      · simp only [difR, if_neg h1, if_pos h2]
        rw [dif_swap f]
      · simp only [difR, if_neg h1, if_neg h2]
        rw [dif_swap f]
/- the difference is what lies beyond, on both sides -/
theorem dif_bey (E A : List (List Nat)) (hE : Ord E) (hA : Ord A) (h : E = [] ↔ A = []) : difR (E.length + A.length + 1) E A = (bey E A, bey A E) := by
  have one : ∀ (E A : List (List Nat)), Ord E → Ord A → (E = [] ↔ A = []) → ∀ f, E.length + A.length < f → (difR f E A).1 = bey E A := by
    intro E A hE hA h f hf
    unfold bey
    refine dif_one A _ f E A none hf hE hA (fun x _ => Iff.rfl) (fun hn => ?_) (fun hn x hx => ?_) (fun e r _ z => by cases z)
    · obtain ⟨l, hl⟩ : ∃ l, A.getLast? = some l := ⟨A.getLast hn, List.getLast?_eq_some_getLast hn⟩
      rw [hl]; rfl
    · rw [h.mpr hn] at hx; cases hx
  have e1 := one E A hE hA h _ (Nat.lt_succ_self _)
  have e2 := one A E hA hE h.symm (E.length + A.length + 1) (by (run_tac Drv.lomega))
  rw [dif_swap] at e2
  exact Prod.ext e1 e2
end
section
open PySem PySem.W PySem.W.X PyProof.Rows
theorem vs_drop (ps : List (List Nat × Nat)) (m : Nat) : (vsP ps).drop m = vsP (ps.drop m) := by unfold vsP; rw [List.map_drop]
theorem dw_map (e : List Nat) : ∀ (r : List (List Nat × Nat)), (r.map Prod.fst).dropWhile (· == e) = (r.dropWhile (fun p => p.1 == e)).map Prod.fst
  | [] => rfl
  | p :: r => by
    rw [List.map_cons, List.dropWhile_cons, List.dropWhile_cons]
    by_cases h : p.1 = e
    · rw [if_pos (by simp [h]), if_pos (by simp [h])]; exact dw_map e r
    · rw [if_neg (by simp [h]), if_neg (by simp [h])]; rfl
theorem vs_snoc (ps : List (List Nat × Nat)) (x : List Nat) (t : Nat) : vsP ps ++ [Value.str (sL x) t] = vsP (ps ++ [(x, t)]) := by simp [vsP]
theorem vs_app (ps qs : List (List Nat × Nat)) : vsP ps ++ vsP qs = vsP (ps ++ qs) := by simp [vsP]
section
variable (X : Env0) (B : BaseF X.w.params X.h₀) (hA : X.A.handled = none) (κ : Kt) (R : Room X κ 470 1700) (hκ : handledOf none κ = none) (k : Result → Sem Fin) (a b e1 e2 L : Nat) (ps qs : List (List Nat × Nat)) (L0 e0 : Nat) (en0 : Array DictEntry) (hF : (aA X.A κ).frames = some [fEnv fd794 794 L, fEnv fd818 818 L0]) (g : Array Value) (m u : Nat)
include B hA R hκ hF
theorem df_loop (hpl : ps.length < 400) (hql : qs.length < 400) (sl : Array (Option Value)) (rest : List (Addr × Obj)) : ∀ (f n T mi mj : Nat) (t0 t1 t2 t3 t4 t5 t6 t7 : Nat) (tl : List DictEntry) (nn : Nat) (mq uq : List (List Nat × Nat)) (em eu : Nat), (ps.drop mi).length + (qs.drop mj).length < f → mi ≤ ps.length → mj ≤ qs.length → TlOk X.w.params tl nn → mq.length ≤ mi → uq.length ≤ mj →
    (∀ n' T' mq' uq' em' eu' fr sl', T ≤ T' → IsDf X.w.params a b m u fr → mq'.map Prod.fst = mq.map Prod.fst ++ (difR f ((ps.drop mi).map Prod.fst) ((qs.drop mj).map Prod.fst)).1 → uq'.map Prod.fst = uq.map Prod.fst ++ (difR f ((ps.drop mi).map Prod.fst) ((qs.drop mj).map Prod.fst)).2 →
      Go X ⟨κ, k (.ok .next), (m, lstO (vsP mq') em') :: (u, lstO (vsP uq') eu') :: (L, fr) :: (a, lstO (vsP ps) e1) :: (b, lstO (vsP qs) e2) :: (L0, ⟨.type "frame", none, .dict en0 e0, sl'⟩) :: rest, g, n', 820, T'⟩) →
    Go X ⟨.ret (dfLoop L) none k κ, denQ (dfLoop L), (L, dfG X.w.params a b (mi : Nat) (mj : Nat) m u t0 t1 t2 t3 t4 t5 t6 t7 tl nn #[]) :: (a, lstO (vsP ps) e1) :: (b, lstO (vsP qs) e2) :: (L0, ⟨.type "frame", none, .dict en0 e0, sl⟩) :: (m, lstO (vsP mq) em) :: (u, lstO (vsP uq) eu) :: rest, g, n, 820, T⟩ := by
  intro f
  induction f with
  | zero => intro n T mi mj t0 t1 t2 t3 t4 t5 t6 t7 tl nn mq uq em eu hf; exact absurd hf (Nat.not_lt_zero _)
  | succ f ih =>
    intro n T mi mj t0 t1 t2 t3 t4 t5 t6 t7 tl nn mq uq em eu hf hmi hmj htl hmq huq h
    generalize hd1 : difR (f + 1) ((ps.drop mi).map Prod.fst) ((qs.drop mj).map Prod.fst) = d1 at h
    have hvp : (vsP ps).length < 1000 := by unfold vsP; simp; (run_tac Drv.lomega)
    have hvq : (vsP qs).length < 1000 := by unfold vsP; simp; (run_tac Drv.lomega)
    have hvm : (vsP mq).length < 900 := by unfold vsP; simp; (run_tac Drv.lomega)
    have hvu : (vsP uq).length < 900 := by unfold vsP; simp; (run_tac Drv.lomega)
    cases hp : ps.drop mi with
    | nil =>
      refine s_exp X B hA κ R hκ k a b e1 e2 L ps qs L0 e0 en0 hF g m u n T (mi : Nat) (mj : Nat) mi mj rfl rfl (by run_tac Drv.tom) t0 t1 t2 t3 t4 t5 t6 t7 tl nn _ _ em eu sl rest (by run_tac Drv.tom) (by run_tac Drv.tom) hvp hvq (vs_none hp) fun n1 T1 em' eu' fr sl' hT1 hdf => ?_
      rw [vs_drop, vs_drop, vs_app, vs_app]
      refine h n1 T1 _ _ em' eu' fr sl' hT1 hdf ?_ ?_
      · rw [← hd1, hp]; simp [difR]
      · rw [← hd1, hp, List.map_append]; simp [difR]
    | cons p r =>
      have hlp : mi < ps.length := drop_lt hp
      have hr : ps.drop (mi + 1) = r := by rw [← List.drop_drop, hp]; rfl
      cases hq : qs.drop mj with
      | nil =>
        refine s_act X B hA κ R hκ k a b e1 e2 L ps qs L0 e0 en0 hF g m u n T (mi : Nat) (mj : Nat) mi mj rfl rfl (by run_tac Drv.tom) (by run_tac Drv.tom) t0 t1 t2 t3 t4 t5 t6 t7 tl nn htl _ _ em eu sl rest (by run_tac Drv.tom) (by run_tac Drv.tom) hvp hvq p.1 p.2 (vs_get hp) (vs_none hq) fun n1 T1 em' eu' fr sl' hT1 hdf => ?_
        rw [vs_drop, vs_drop, vs_app, vs_app]
        refine h n1 T1 _ _ em' eu' fr sl' hT1 hdf ?_ ?_
        · rw [← hd1, hp, hq, List.map_append]; simp [difR]
        · rw [← hd1, hp, hq]; simp [difR]
      | cons s v =>
        have hlq : mj < qs.length := drop_lt hq
        have hv : qs.drop (mj + 1) = v := by rw [← List.drop_drop, hq]; rfl
        rw [hp, hq, List.length_cons, List.length_cons] at hf
        rw [hp, hq, List.map_cons, List.map_cons] at hd1
        have hdl : ∀ (e : List Nat) (l : List (List Nat × Nat)), (l.dropWhile (fun p => p.1 == e)).length ≤ l.length := fun e l => (List.dropWhile_suffix _).length_le
        by_cases h1 : p.1 < s.1
        · have hd : difR (f + 1) (p.1 :: r.map Prod.fst) (s.1 :: v.map Prod.fst) = (p.1 :: (difR f ((r.dropWhile (fun q => q.1 == p.1)).map Prod.fst) (s.1 :: v.map Prod.fst)).1, (difR f ((r.dropWhile (fun q => q.1 == p.1)).map Prod.fst) (s.1 :: v.map Prod.fst)).2) := by
            rw [difR, if_pos h1, dw_map]
          rw [hd] at hd1
          refine t_lt X B hA κ R hκ k a b e1 e2 L ps qs L0 e0 en0 hF g m u n T (mi : Nat) (mj : Nat) mi mj rfl rfl (by run_tac Drv.tom) (by run_tac Drv.tom) hlp hlq t0 t1 t2 t3 t4 t5 t6 t7 tl nn htl _ _ em eu sl rest hvm hvu p.1 s.1 p.2 s.2 (vs_get hp) (vs_get hq) h1 (fun n1 T1 q t0 t1 t2 t3 t4 t5 t6 t7 tl nn em' hT1 hdq hqx htl => ?_) (fun hn n1 T1 em' eu' fr sl' hT1 hdf => ?_)
          · rw [vs_snoc]
            rw [hr] at hdq
            have hqm : mi < q := drop_gt hlp hr hdq
            refine ih n1 T1 q mj t0 t1 t2 t3 t4 t5 t6 t7 tl nn _ uq em' eu (by rw [hdq, hq]; have := hdl p.1 r; simp only [List.length_cons]; (run_tac Drv.lomega)) (by run_tac Drv.tom) (by run_tac Drv.tom) htl (by simp; (run_tac Drv.lomega)) huq fun n2 T2 mq' uq' em2 eu2 fr2 sl2 hT2 hdf ha hb => ?_
            rw [hdq, hq] at ha hb
            exact h n2 T2 mq' uq' em2 eu2 fr2 sl2 (by run_tac Drv.tom) hdf (by rw [ha, ← hd1]; simp) (by rw [hb, ← hd1]; rfl)
          · rw [vs_snoc, vs_drop, vs_drop, vs_app, vs_app, List.drop_length, List.append_nil]
            rw [hr] at hn
            have hf1 : ∃ f', f = f' + 1 := ⟨f - 1, by run_tac Drv.tom⟩
            obtain ⟨f', rfl⟩ := hf1
            rw [hn] at hd1
            refine h n1 T1 _ _ em' eu' fr sl' hT1 hdf ?_ ?_
            · rw [← hd1]; simp [difR]
            · rw [← hd1, hq]; simp [difR]
        · by_cases h2 : s.1 < p.1
          · have hd : difR (f + 1) (p.1 :: r.map Prod.fst) (s.1 :: v.map Prod.fst) = ((difR f (p.1 :: r.map Prod.fst) ((v.dropWhile (fun q => q.1 == s.1)).map Prod.fst)).1, s.1 :: (difR f (p.1 :: r.map Prod.fst) ((v.dropWhile (fun q => q.1 == s.1)).map Prod.fst)).2) := by
              rw [difR, if_neg h1, if_pos h2, dw_map]
            rw [hd] at hd1
            refine t_gt X B hA κ R hκ k a b e1 e2 L ps qs L0 e0 en0 hF g m u n T (mi : Nat) (mj : Nat) mi mj rfl rfl (by run_tac Drv.tom) (by run_tac Drv.tom) hlp hlq t0 t1 t2 t3 t4 t5 t6 t7 tl nn htl _ _ em eu sl rest hvm hvu p.1 s.1 p.2 s.2 (vs_get hp) (vs_get hq) h2 (fun n1 T1 q t0 t1 t2 t3 t4 t5 t6 t7 tl nn eu' hT1 hdq hqx htl => ?_) (fun hn n1 T1 em' eu' fr sl' hT1 hdf => ?_)
            · rw [vs_snoc]
              rw [hv] at hdq
              have hqm : mj < q := drop_gt hlq hv hdq
              refine ih n1 T1 mi q t0 t1 t2 t3 t4 t5 t6 t7 tl nn mq _ em eu' (by rw [hdq, hp]; have := hdl s.1 v; simp only [List.length_cons]; (run_tac Drv.lomega)) (by run_tac Drv.tom) (by run_tac Drv.tom) htl hmq (by simp; (run_tac Drv.lomega)) fun n2 T2 mq' uq' em2 eu2 fr2 sl2 hT2 hdf ha hb => ?_
              rw [hdq, hp] at ha hb
              exact h n2 T2 mq' uq' em2 eu2 fr2 sl2 (by run_tac Drv.tom) hdf (by rw [ha, ← hd1]; rfl) (by rw [hb, ← hd1]; simp)
            · rw [vs_snoc, vs_drop, vs_drop, vs_app, vs_app, List.drop_length, List.append_nil]
              rw [hv] at hn
              have hf1 : ∃ f', f = f' + 1 := ⟨f - 1, by run_tac Drv.tom⟩
              obtain ⟨f', rfl⟩ := hf1
              rw [hn] at hd1
              refine h n1 T1 _ _ em' eu' fr sl' hT1 hdf ?_ ?_
              · rw [← hd1, hp]; simp [difR]
              · rw [← hd1]; simp [difR]
          · have hps : p.1 = s.1 := eq_of_nlt h1 h2
            have hd : difR (f + 1) (p.1 :: r.map Prod.fst) (s.1 :: v.map Prod.fst) = difR f ((r.dropWhile (fun q => q.1 == p.1)).map Prod.fst) ((v.dropWhile (fun q => q.1 == p.1)).map Prod.fst) := by
              rw [difR, if_neg h1, if_neg h2, dw_map, dw_map, hps]
            rw [hd] at hd1
            have hg2 := vs_get hq
            rw [← hps] at hg2
            refine t_eq X B hA κ R hκ k a b e1 e2 L ps qs L0 e0 en0 hF g m u n T (mi : Nat) (mj : Nat) mi mj rfl rfl (by run_tac Drv.tom) (by run_tac Drv.tom) hlp hlq t0 t1 t2 t3 t4 t5 t6 t7 tl nn htl _ _ em eu sl rest hvm hvu p.1 p.2 s.2 (vs_get hp) hg2 (fun n1 T1 q q2 t0 t1 t2 t3 t4 t5 t6 t7 tl nn hT1 hdq hqx hdq2 hqx2 htl => ?_) (fun n1 T1 q q2 em' eu' fr sl' hT1 hdf hdq hdq2 hor => ?_)
            · rw [hr] at hdq
              rw [hv] at hdq2
              have hqm : mi < q := drop_gt hlp hr hdq
              have hqm2 : mj < q2 := drop_gt hlq hv hdq2
              refine ih n1 T1 q q2 t0 t1 t2 t3 t4 t5 t6 t7 tl nn mq uq em eu (by rw [hdq, hdq2]; have := hdl p.1 r; have := hdl p.1 v; (run_tac Drv.lomega)) (by run_tac Drv.tom) (by run_tac Drv.tom) htl (by run_tac Drv.tom) (by run_tac Drv.tom) fun n2 T2 mq' uq' em2 eu2 fr2 sl2 hT2 hdf ha hb => ?_
              rw [hdq, hdq2] at ha hb
              exact h n2 T2 mq' uq' em2 eu2 fr2 sl2 (by run_tac Drv.tom) hdf (by rw [ha, ← hd1]) (by rw [hb, ← hd1])
            · rw [vs_drop, vs_drop, vs_app, vs_app]
              rw [hr] at hdq
              rw [hv] at hdq2
              have hf1 : ∃ f', f = f' + 1 := ⟨f - 1, by run_tac Drv.tom⟩
              obtain ⟨f', rfl⟩ := hf1
              have hdd : difR (f' + 1) ((ps.drop q).map Prod.fst) ((qs.drop q2).map Prod.fst) = ((ps.drop q).map Prod.fst, (qs.drop q2).map Prod.fst) := by
                rcases hor with z | z
                · rw [z]; rfl
                · rw [z]
                  cases ps.drop q with
                  | nil => rfl
                  | cons _ _ => rfl
              rw [← hdq, ← hdq2, hdd] at hd1
              exact h n1 T1 _ _ em' eu' fr sl' hT1 hdf (by rw [← hd1]; simp) (by rw [← hd1]; simp)
end
section
variable (X : Env0) (B : BaseF X.w.params X.h₀) (hA : X.A.handled = none) (κ : Kt) (R : Room X κ 460 1600) (hκ : handledOf none κ = none) (k : Result → Sem Fin) (gd : Bool) (lv : List Value) (n T a b e1 e2 : Nat) (ps qs : List (List Nat × Nat)) (L0 e0 : Nat) (en0 : Array DictEntry) (hF : (aA X.A κ).frames = some [fEnv fd818 818 L0]) (sl : Array (Option Value)) (g : Array Value) (rest : List (Addr × Obj))
include B hA R hκ hF
theorem diff_s (hpl : ps.length < 400) (hql : qs.length < 400)
    (h : ∀ n' T' tu m u mq uq em eu sl', T ≤ T' → mq.map Prod.fst = (difR (ps.length + qs.length + 1) (ps.map Prod.fst) (qs.map Prod.fst)).1 → uq.map Prod.fst = (difR (ps.length + qs.length + 1) (ps.map Prod.fst) (qs.map Prod.fst)).2 →
      Go X ⟨κ, k (.ok (.ret (.ref tu))), (tu, tupO [.ref m, .ref u]) :: (m, lstO (vsP mq) em) :: (u, lstO (vsP uq) eu) :: (a, lstO (vsP ps) e1) :: (b, lstO (vsP qs) e2) :: (L0, ⟨.type "frame", none, .dict en0 e0, sl'⟩) :: rest, g, n', 820, T'⟩) :
    Go X ⟨κ, .call (.call (.ref 794) ⟨[.ref a, .ref b], []⟩) none gd lv k, (a, lstO (vsP ps) e1) :: (b, lstO (vsP qs) e2) :: (L0, ⟨.type "frame", none, .dict en0 e0, sl⟩) :: rest, g, n, 820, T⟩ := by
  refine go_enter rfl ?_
  run_tac Drv.drive [794]
  refine go_enter rfl ?_
  refine go_perm ((n + 820, dfG X.w.params a b ((0 : Nat) : Int) ((0 : Nat) : Int) (n + 821) (n + 822) _ _ _ _ _ _ _ _ [] 6 #[]) :: (a, lstO (vsP ps) e1) :: (b, lstO (vsP qs) e2) :: (L0, ⟨.type "frame", none, .dict en0 e0, sl⟩) :: (n + 821, lstO (vsP []) 0) :: (n + 822, lstO (vsP []) 0) :: rest) (perm_at 2 rfl (perm_at 2 rfl (perm_at 2 rfl (perm_at 2 rfl (perm_at 1 rfl (.refl _)))))) ?_
  refine go_drop _ (List.Sublist.refl _) fun n1 T1 hT1 => ?_
  refine df_loop X B hA _ (by exact R.ret.le rfl rfl) (by exact hκ) _ a b e1 e2 (n + 820) ps qs L0 e0 en0 (by exact frames_ret hF) g (n + 821) (n + 822) hpl hql sl rest (ps.length + qs.length + 1) n1 T1 0 0 _ _ _ _ _ _ _ _ [] 6 [] [] 0 0 (by simp) (by run_tac Drv.tom) (by run_tac Drv.tom) (.inl ⟨rfl, rfl⟩) (by simp) (by simp) fun n2 T2 mq uq em eu fr sl' hT2 hdf ha hb => ?_
  obtain ⟨i, j, t0, t1, t2, t3, t4, t5, t6, t7, tl, nn, sd, rfl⟩ := hdf
  run_tac Drv.drive [794]
  refine go_drop ((_, tupO [.ref (n + 821), .ref (n + 822)]) :: (n + 821, lstO (vsP mq) em) :: (n + 822, lstO (vsP uq) eu) :: (a, lstO (vsP ps) e1) :: (b, lstO (vsP qs) e2) :: (L0, ⟨.type "frame", none, .dict en0 e0, sl'⟩) :: rest) (by repeat (first | exact List.Sublist.refl _ | apply List.Sublist.cons_cons | apply List.Sublist.cons)) fun n3 T3 hT3 => ?_
  exact h n3 T3 _ _ _ mq uq em eu sl' (by run_tac Drv.tom) (by simpa using ha) (by simpa using hb)
end
end
section
open PySem PySem.W PySem.W.X PyProof.Rows
theorem strs_of : ∀ (ps : List (List Nat × Nat)), StrsAre (vsP ps) (ps.map fun p => sL p.1)
  | [] => .nil
  | p :: ps => .cons _ _ (strs_of ps)
theorem sL_self (s : Str) : sL s.cps.toList = s := by
  cases s; rfl
theorem of_strs : ∀ {vs : List Value} {ss : List Str}, StrsAre vs ss → ∃ os : List (List Nat × Nat), vs = vsP os ∧ ss = os.map fun p => sL p.1
  | _, _, .nil => ⟨[], rfl, rfl⟩
  | _, _, .cons y t h => by
    obtain ⟨os, h1, h2⟩ := of_strs h
    refine ⟨(y.cps.toList, t) :: os, ?_, ?_⟩
    · rw [h1]; show _ = Value.str (sL y.cps.toList) t :: vsP os; rw [sL_self]
    · rw [h2, List.map_cons, sL_self]
theorem perm_sL {a b : List (List Nat × Nat)} (h : (a.map fun p => sL p.1).Perm (b.map fun p => sL p.1)) : (a.map Prod.fst).Perm (b.map Prod.fst) := by
  have := h.map (fun s : Str => s.cps.toList)
  simpa [List.map_map, sL, Function.comp_def] using this
theorem ord_of : ∀ (os : List (List Nat × Nat)) (p : List Nat × Nat), risingS (sL p.1) (os.map fun q => sL q.1) = true → (∀ q ∈ os, ¬ q.1 < p.1) ∧ Ord (os.map Prod.fst)
  | [], p, h => ⟨fun q hq => (by cases hq), List.Pairwise.nil⟩
  | x :: os, p, h => by
    have h : (!PySem.Spec.ltCps (sL x.1).cps.toList (sL p.1).cps.toList && risingS (sL x.1) (os.map fun q => sL q.1)) = true := h
    obtain ⟨h1, h2⟩ := Bool.and_eq_true_iff.mp h
    obtain ⟨i1, i2⟩ := ord_of os x h2
    have hx : ¬ x.1 < p.1 := by
      intro z
      rw [ltCps_eq] at h1
      have : decide ((sL x.1).cps.toList < (sL p.1).cps.toList) = true := decide_eq_true z
      rw [this] at h1; cases h1
    refine ⟨fun q hq => ?_, List.pairwise_cons.mpr ⟨fun y hy => ?_, i2⟩⟩
    · rcases List.mem_cons.mp hq with rfl | hq
      · exact hx
      · intro z
        exact hx (lt_of_le (i1 q hq) z)
    · obtain ⟨q, hq, rfl⟩ := List.mem_map.mp hy
      exact i1 q hq
theorem ord_sorted : ∀ (os : List (List Nat × Nat)), sortedS (os.map fun q => sL q.1) = true → Ord (os.map Prod.fst)
  | [], _ => List.Pairwise.nil
  | x :: os, h => by
    obtain ⟨i1, i2⟩ := ord_of os x h
    exact List.pairwise_cons.mpr ⟨fun y hy => by obtain ⟨q, hq, rfl⟩ := List.mem_map.mp hy; exact i1 q hq, i2⟩
theorem srt_s {X : Env0} {κ : Kt} {k : Result → Sem Fin} {gd : Bool} {lv : List Value} {n T l e : Nat} {ps : List (List Nat × Nat)} {rest : List (Addr × Obj)} {g : Array Value} (hps : ps.length < 60)
    (h : ∀ n' d os ed, (os.map Prod.fst).Perm (ps.map Prod.fst) → Ord (os.map Prod.fst) → Go X ⟨κ, k (.ok (.ret (.ref d))), (d, lstO (vsP os) ed) :: (l, lstO (vsP ps) e) :: rest, g, n', 820, T⟩) :
    Go X ⟨κ, .call (.call (.builtin "sorted") ⟨[.ref l], []⟩) none gd lv k, (l, lstO (vsP ps) e) :: rest, g, n, 820, T⟩ := fun hp O => by
  have hlo : hp.get? l = some (lstO (vsP ps) e) := (O.nw _ (.head _)).1
  have hl : hp.IsList l (vsP ps).toArray := ⟨_, hlo, rfl, e, rfl⟩
  have key := sorted_strs (prog := PW) (w := X.w) (A := aA X.A κ) (E := fun _ _ => False) (s := ⟨hp, X.gs, X.d, T, X.os⟩) (Q := fun v s' => Means X.M X.b κ (k (.ok (.ret v))) s') hl (strs_of ps) (by unfold vsP; simp; (run_tac Drv.lomega)) (fun out ss' h1 h2 h3 => by
    obtain ⟨os, ho1, rfl⟩ := of_strs h1
    obtain ⟨ed, hed⟩ := sortedAll_at hp (vsP ps) out
    have hlt : hp.objs.size + 1 < (sortedAll hp (vsP ps) out).objs.size := Heap.lt_size hed
    have hbig : 820 ≤ hp.objs.size := by rw [O.size]; exact O.big
    refine h ((sortedAll hp (vsP ps) out).objs.size - 820) (hp.objs.size + 1) os ed (perm_sL h2) (ord_sorted os h3) _ ?_
    have hout : lstO (vsP os) ed = seqObj "list" out ed := by
      rw [← ho1]; rfl
    refine ⟨fun b o q z => sortedAll_old (O.keep b o q z), sortedAll_old O.tab, fun p hpm => ?_, ?_, by show (sortedAll hp (vsP ps) out).objs.size = (sortedAll hp (vsP ps) out).objs.size - 820 + 820; (run_tac Drv.lomega), by show 820 ≤ (sortedAll hp (vsP ps) out).objs.size - 820 + 820; (run_tac Drv.lomega)⟩
    · rcases List.mem_cons.mp hpm with rfl | hpm
      · exact ⟨by rw [hed, hout], by show 820 ≤ hp.objs.size + 1; (run_tac Drv.lomega)⟩
      · exact ⟨sortedAll_old (O.nw p hpm).1, (O.nw p hpm).2⟩
    · show (((hp.objs.size + 1) :: _) : List Addr).Nodup
      refine List.nodup_cons.mpr ⟨fun hm => ?_, O.nd⟩
      obtain ⟨p, hpm, ep⟩ := List.mem_map.mp hm
      have := Heap.lt_size (O.nw p hpm).1
      rw [ep] at this
      exact absurd this (by show ¬ (hp.objs.size + 1 < hp.objs.size); (run_tac Drv.lomega)))
  refine means_stepK (.call (.call (.builtin "sorted") ⟨[.ref l], []⟩) none gd lv .pure) k .raise id id fun Γ p hΓ _ => ?_
  have z := key Γ p hΓ
  refine wpCode_mono (fun r s' hr => ?_) (show wpCode _ _ (fun r s' => _) p _ from z)
  cases r with
  | ok f =>
    cases f with
    | ret v => exact hr
    | _ => exact hr.elim
  | error e => exact hr.elim
end
section
open PySem PySem.W PySem.W.X PyProof.Rows
noncomputable def cxA : Expr := match (bodyOf fd818).drop 2 with
  | Stmt.For _ (Expr.Call _ [e] _ _) _ _ _ :: _ => e
  | _ => default
noncomputable def scA : Scope := match cxA with
  | .ListComp _ _ s _ => s
  | _ => default
noncomputable def clA (L Lc it acc : Addr) : Code := .compLoop cxA 0 (.ref it) (.ref acc) (cEnv (fEnv fd818 818 L) scA Lc)
noncomputable def IsNsA (P : Params) (ns : Obj) : Prop := ns = nsO [] 0 ∨ ∃ t v, ns = nsO [ent P ⟨#[114, 111, 119]⟩ t v] 1
section
variable (w : World) (h₀ : Heap) (b : Base (model PW w)) (ga : Array GenState) (d : Drawn) (os : OsState) (B : BaseF w.params h₀) (hA : b.A.handled = none) (κ : Kt) (hκ : handledOf none κ = none) (R : ∀ ga, Room ⟨w, h₀, b, ga, d, os⟩ κ 450 1500) (k : Result → Sem Fin) (L Lc it acc ro ro' : Nat) (rs : List Value) (hga : AllBare ga)
include B hA R hκ hga
theorem ca_turn (n T i e eo : Nat) (g : Array Value) (hg : GOk g) (r er : Nat) (ps : List (List Nat × Nat)) (hps : ∀ p ∈ ps, p.1.length < 100 ∧ ∀ c ∈ p.1, Al c) (hpl : ps.length ≤ 10) (hi : (Array.mk rs)[(i : Int).toNat]? = some (.ref r)) (vs : List Value) (hvs : vs.length < 1000) (ns : Obj) (hns : IsNsA w.params ns) (rest : List (Addr × Obj))
    (h : ∀ ga' n' T' ns' e' t' g', GOk g' → AllBare ga' → T ≤ T' → IsNsA w.params ns' → Go ⟨w, h₀, b, ga', d, os⟩ ⟨.ret (clA L Lc it acc) none k κ, denQ (clA L Lc it acc), (it, itO ro (i + 1)) :: (acc, lstO (vs ++ [.str (sL (jn (ps.map fun p => qt p.1))) t']) e') :: (Lc, ns') :: (r, lstO (vsP ps) er) :: (ro, lstO rs eo) :: rest, g', n', 820, T'⟩) :
    Go ⟨w, h₀, b, ga, d, os⟩ ⟨.ret (clA L Lc it acc) none k κ, denQ (clA L Lc it acc), (it, itO ro i) :: (acc, lstO vs e) :: (Lc, ns) :: (r, lstO (vsP ps) er) :: (ro, lstO rs eo) :: rest, g, n, 820, T⟩ := by
  have R0 := R ga
  rcases hns with rfl | ⟨t, v, rfl⟩
  all_goals
    run_tac Drv.drive [818]
    refine go_perm ((r, lstO (vsP ps) er) :: (it, itO ro (i + 1)) :: (acc, lstO vs e) :: (Lc, nsO [ent w.params ⟨#[114, 111, 119]⟩ _ _] 1) :: (ro, lstO rs eo) :: rest) (perm_at 3 rfl (.refl _)) ?_
    refine go_drop _ (List.Sublist.refl _) fun n1 T1 hT1 => ?_
    refine join_s w h₀ b ga d os B hA _ (by exact hκ) (fun ga => (R ga).ret.le rfl rfl) _ _ _ n1 T1 r er ps hps hpl _ hga g hg fun ga1 n2 T2 t2 g1 hg1 hga1 hT2 => ?_
    have R1 := R ga1
    generalize jn (ps.map fun p => qt p.1) = line at *
    run_tac Drv.drive [818]
    refine go_again (by kernel_rfl) ?_
    rw [appR]
    refine go_perm ((it, itO ro (i + 1)) :: (acc, lstO (vs ++ [.str (sL line) t2]) _) :: (Lc, nsO [ent w.params ⟨#[114, 111, 119]⟩ _ _] 1) :: (r, lstO (vsP ps) er) :: (ro, lstO rs eo) :: rest) (perm_at 1 rfl (perm_at 1 rfl (perm_at 1 rfl (.refl _)))) ?_
    refine go_drop _ (List.Sublist.refl _) fun n3 T3 hT3 => ?_
    exact h ga1 n3 T3 _ _ _ g1 hg1 hga1 (by run_tac Drv.tom) (.inr ⟨_, _, rfl⟩)
theorem ca_end (n T i e eo : Nat) (g : Array Value) (hi : (Array.mk rs)[(i : Int).toNat]? = none) (vs : List Value) (ns : Obj) (hns : IsNsA w.params ns) (rest : List (Addr × Obj))
    (h : ∀ n' T', T ≤ T' → Go ⟨w, h₀, b, ga, d, os⟩ ⟨κ, k (.ok .next), (acc, lstO vs e) :: (Lc, ns) :: (ro, lstO rs eo) :: rest, g, n', 820, T'⟩) :
    Go ⟨w, h₀, b, ga, d, os⟩ ⟨.ret (clA L Lc it acc) none k κ, denQ (clA L Lc it acc), (it, itO ro i) :: (acc, lstO vs e) :: (Lc, ns) :: (ro, lstO rs eo) :: rest, g, n, 820, T⟩ := by
  have R0 := R ga
  rcases hns with rfl | ⟨t, v, rfl⟩
  · run_tac Drv.drive [818]
    refine go_drop ((acc, lstO vs e) :: (Lc, nsO [] 0) :: (ro, lstO rs eo) :: rest) (by repeat (first | exact List.Sublist.refl _ | apply List.Sublist.cons_cons | apply List.Sublist.cons)) fun n1 T1 hT1 => ?_
    exact h n1 T1 (by run_tac Drv.tom)
  · run_tac Drv.drive [818]
    refine go_drop ((acc, lstO vs e) :: (Lc, nsO [ent w.params ⟨#[114, 111, 119]⟩ _ _] 1) :: (ro, lstO rs eo) :: rest) (by repeat (first | exact List.Sublist.refl _ | apply List.Sublist.cons_cons | apply List.Sublist.cons)) fun n1 T1 hT1 => ?_
    exact h n1 T1 (by run_tac Drv.tom)
end
end
section
open PySem PySem.W PySem.W.X PyProof.Rows
/- rows of few short words -/
noncomputable def RowsOk (rws : List Row) : Prop := ∀ q ∈ rws, q.2.1.length ≤ 10 ∧ ∀ p ∈ q.2.1, p.1.length < 5 ∧ ∀ c ∈ p.1, Al c
theorem row_pick {rws : List Row} {i : Nat} {q : Row} {r : List Row} (h : rws.drop i = q :: r) : (rowsL rws).Perm ((q.1, lstO (vsP q.2.1) q.2.2) :: rowsL (rws.take i ++ r)) := by
  have e : rws = rws.take i ++ q :: r := by rw [← h, List.take_append_drop]
  conv => lhs; rw [e]
  unfold rowsL
  rw [List.map_append, List.map_cons, List.map_append]
  exact List.perm_middle
theorem ref_get {rws : List Row} {i : Nat} {q : Row} {r : List Row} (h : rws.drop i = q :: r) : (Array.mk (refs rws))[(i : Int).toNat]? = some (.ref q.1) := by
  rw [Int.toNat_natCast]
  show (rws.map _).toArray[i]? = _
  rw [List.getElem?_toArray, List.getElem?_map, ← Nat.add_zero i, ← List.getElem?_drop, h]; rfl
theorem ref_none {rws : List Row} {i : Nat} (h : rws.drop i = []) : (Array.mk (refs rws))[(i : Int).toNat]? = none := by
  rw [Int.toNat_natCast]
  show (rws.map _).toArray[i]? = _
  rw [List.getElem?_toArray, List.getElem?_map, ← Nat.add_zero i, ← List.getElem?_drop, h]; rfl
/- a row's line -/
noncomputable def lineOf (ws : List (List Nat)) : List Nat := jn (ws.map qt)
section
variable (w : World) (h₀ : Heap) (b : Base (model PW w)) (d : Drawn) (os : OsState) (B : BaseF w.params h₀) (hA : b.A.handled = none) (κ : Kt) (hκ : handledOf none κ = none) (R : ∀ ga, Room ⟨w, h₀, b, ga, d, os⟩ κ 450 1500) (k : Result → Sem Fin) (L Lc it acc ro eo : Nat) (rws : List Row) (hrw : RowsOk rws) (rest : List (Addr × Obj))
include B hA R hκ hrw
theorem ca_loop (hrl : rws.length < 100) : ∀ (rem : List Row) (i : Nat), rws.drop i = rem → ∀ (ga : Array GenState) (n T e : Nat) (g : Array Value) (qs : List (List Nat × Nat)) (ns : Obj), AllBare ga → GOk g → IsNsA w.params ns → qs.length ≤ i →
    (∀ ga' n' T' ns' e' qs' g', GOk g' → AllBare ga' → T ≤ T' → IsNsA w.params ns' → qs'.map Prod.fst = qs.map Prod.fst ++ (texts rem).map lineOf → Go ⟨w, h₀, b, ga', d, os⟩ ⟨κ, k (.ok .next), (acc, lstO (vsP qs') e') :: (Lc, ns') :: (ro, lstO (refs rws) eo) :: (rowsL rws ++ rest), g', n', 820, T'⟩) →
    Go ⟨w, h₀, b, ga, d, os⟩ ⟨.ret (clA L Lc it acc) none k κ, denQ (clA L Lc it acc), (it, itO ro i) :: (acc, lstO (vsP qs) e) :: (Lc, ns) :: (ro, lstO (refs rws) eo) :: (rowsL rws ++ rest), g, n, 820, T⟩ := by
  intro zs
  induction zs with
  | nil =>
    intro i hi ga n T e g qs ns hga hg hns hq h
    refine ca_end w h₀ b ga d os B hA κ hκ R k L Lc it acc ro (refs rws) hga n T i e eo g (ref_none hi) _ ns hns _ fun n1 T1 hT1 => ?_
    exact h ga n1 T1 ns e qs g hg hga hT1 hns (by simp [texts])
  | cons q rem ih =>
    intro i hi ga n T e g qs ns hga hg hns hq h
    have hlt : i < rws.length := drop_lt hi
    have hr : rws.drop (i + 1) = rem := by rw [← List.drop_drop, hi]; rfl
    have hqm : q ∈ rws := List.mem_of_mem_drop (by rw [hi]; exact .head _)
    obtain ⟨ho1, ho2⟩ := hrw q hqm
    have hp := row_pick hi
    refine go_perm ((it, itO ro i) :: (acc, lstO (vsP qs) e) :: (Lc, ns) :: (q.1, lstO (vsP q.2.1) q.2.2) :: (ro, lstO (refs rws) eo) :: (rowsL (rws.take i ++ rem) ++ rest)) ((((((List.Perm.swap _ _ _).trans ((hp.symm.append_right rest).cons _)).cons _).cons _).cons _)) ?_
    refine ca_turn w h₀ b ga d os B hA κ hκ R k L Lc it acc ro (refs rws) hga n T i e eo g hg q.1 q.2.2 q.2.1 (fun p hp => ⟨by have := (ho2 p hp).1; (run_tac Drv.lomega), (ho2 p hp).2⟩) ho1 (ref_get hi) _ (by unfold vsP; simp; (run_tac Drv.lomega)) ns hns _ fun ga1 n1 T1 ns1 e1 t1 g1 hg1 hga1 hT1 hns1 => ?_
    refine go_perm ((it, itO ro (i + 1)) :: (acc, lstO (vsP (qs ++ [(jn (q.2.1.map fun p => qt p.1), t1)])) e1) :: (Lc, ns1) :: (ro, lstO (refs rws) eo) :: (rowsL rws ++ rest)) (by
      rw [show vsP qs ++ [Value.str (sL (jn (q.2.1.map fun p => qt p.1))) t1] = vsP (qs ++ [(jn (q.2.1.map fun p => qt p.1), t1)]) from by simp [vsP]]
      exact (((((hp.append_right rest).cons _).trans (List.Perm.swap _ _ _)).cons _).cons _).cons _) ?_
    refine ih (i + 1) hr ga1 n1 T1 e1 g1 _ ns1 hga1 hg1 hns1 (by simp; (run_tac Drv.lomega)) fun ga2 n2 T2 ns2 e2 qs2 g2 hg2 hga2 hT2 hns2 ht => ?_
    refine h ga2 n2 T2 ns2 e2 qs2 g2 hg2 hga2 (by run_tac Drv.tom) hns2 ?_
    rw [ht, List.map_append]
    have : jn (q.2.1.map fun p => qt p.1) = lineOf (q.2.1.map Prod.fst) := by unfold lineOf; rw [List.map_map]; rfl
    simp [texts, this]
end
end
section
open PySem PySem.W PySem.W.X PyProof.Rows
section
variable (w : World) (h₀ : Heap) (b : Base (model PW w)) (ga : Array GenState) (d : Drawn) (os : OsState) (B : BaseF w.params h₀) (hA : b.A.handled = none) (κ : Kt) (hκ : handledOf none κ = none) (R : ∀ ga, Room ⟨w, h₀, b, ga, d, os⟩ κ 450 1500) (k : Result → Sem Fin) (gd : Bool) (lv : List Value) (L Lc it acc ro eo : Nat) (rws : List Row) (hrw : RowsOk rws) (rest : List (Addr × Obj)) (hga : AllBare ga)
include B hA R hκ hrw hga
theorem comp_a (hrl : rws.length < 100) (n T : Nat) (g : Array Value) (hg : GOk g)
    (h : ∀ ga' n' T' ns' e' qs' g', GOk g' → AllBare ga' → T ≤ T' → IsNsA w.params ns' → qs'.map Prod.fst = (texts rws).map lineOf → Go ⟨w, h₀, b, ga', d, os⟩ ⟨κ, k (.ok .next), (acc, lstO (vsP qs') e') :: (Lc, ns') :: (ro, lstO (refs rws) eo) :: (rowsL rws ++ rest), g', n', 820, T'⟩) :
    Go ⟨w, h₀, b, ga, d, os⟩ ⟨κ, .call (.compStart cxA 0 (.ref it) (.ref acc) (cEnv (fEnv fd818 818 L) scA Lc)) none gd lv k, (it, itO ro (0 : Nat)) :: (acc, lstO (vsP []) 0) :: (Lc, nsO [] 0) :: (ro, lstO (refs rws) eo) :: (rowsL rws ++ rest), g, n, 820, T⟩ := by
  have R0 := R ga
  refine go_enter rfl ?_
  generalize htl : rowsL rws ++ rest = tl
  by_cases hrow : w.params.followText "comprehension-iter-twice" = true
  all_goals
    run_tac Drv.drive [818]
    refine go_tree (t' := Sem.pure (Fin.again (clA L Lc it acc))) (by kernel_rfl) ?_
    refine go_again (by kernel_rfl) ?_
    rw [← htl]
    refine go_drop _ (List.Sublist.refl _) fun n1 T1 hT1 => ?_
    refine ca_loop w h₀ b d os B hA κ hκ R k L Lc it acc ro eo rws hrw rest hrl rws 0 rfl ga n1 T1 0 g [] _ hga hg (.inl rfl) (by simp) fun ga2 n2 T2 ns2 e2 qs2 g2 hg2 hga2 hT2 hns2 ht => ?_
    exact h ga2 n2 T2 ns2 e2 qs2 g2 hg2 hga2 (by run_tac Drv.tom) hns2 (by simpa using ht)
end
noncomputable def cxB : Expr := match (bodyOf fd818).drop 4 with
  | Stmt.For _ _ [Stmt.If _ [Stmt.Expr (Expr.Call _ [e] _ _) _] _ _] _ _ :: _ => e
  | _ => default
noncomputable def scB : Scope := match cxB with
  | .ListComp _ _ s _ => s
  | _ => default
noncomputable def clB (L Lc it acc : Addr) : Code := .compLoop cxB 0 (.ref it) (.ref acc) (cEnv (fEnv fd818 818 L) scB Lc)
noncomputable def IsNsB (P : Params) (ns : Obj) : Prop := ns = nsO [] 0 ∨ ∃ t v, ns = nsO [ent P ⟨#[119, 111, 114, 100]⟩ t v] 1
section
variable (X : Env0) (B : BaseF X.w.params X.h₀) (hA : X.A.handled = none) (κ : Kt) (R : Room X κ 450 1500) (hκ : handledOf none κ = none) (k : Result → Sem Fin) (L Lc it acc a ea : Nat) (ps : List (List Nat × Nat)) (rest : List (Addr × Obj)) (g : Array Value)
include B hA R hκ
theorem cb_turn (n T i e : Nat) (x : List Nat) (tx : Nat) (hx : x.length < 90) (hi : (Array.mk (vsP ps))[(i : Int).toNat]? = some (.str (sL x) tx)) (vs : List Value) (hvs : vs.length < 1000) (ns : Obj) (hns : IsNsB X.w.params ns)
    (h : ∀ n' T' ns' e' t', T ≤ T' → IsNsB X.w.params ns' → Go X ⟨.ret (clB L Lc it acc) none k κ, denQ (clB L Lc it acc), (it, itO a (i + 1)) :: (acc, lstO (vs ++ [.str (sL (repl [39] [] x 0)) t']) e') :: (Lc, ns') :: (a, lstO (vsP ps) ea) :: rest, g, n', 820, T'⟩) :
    Go X ⟨.ret (clB L Lc it acc) none k κ, denQ (clB L Lc it acc), (it, itO a i) :: (acc, lstO vs e) :: (Lc, ns) :: (a, lstO (vsP ps) ea) :: rest, g, n, 820, T⟩ := by
  rcases hns with rfl | ⟨t, v, rfl⟩
  all_goals
    run_tac Drv.drive [818, 100011]
    refine go_again (by kernel_rfl) ?_
    refine go_drop _ (List.Sublist.refl _) fun n1 T1 hT1 => ?_
    refine repl_b X B hA _ (by exact R.ret.le rfl rfl) (by exact hκ) _ n1 T1 tx (T + 1) (T + 2) _ g x [39] [] (by simp) (by simp) (by simp) (by run_tac Drv.tom) (by run_tac Drv.tom) (by run_tac Drv.tom) (by run_tac Drv.tom) (by simp) _ (by kernel_rfl) fun n2 T2 t2 hT2 => ?_
    generalize repl [39] [] x 0 = y at *
    run_tac Drv.drive [818]
    refine go_again (by kernel_rfl) ?_
    rw [appR]
    refine go_drop ((it, itO a (i + 1)) :: (acc, lstO (vs ++ [.str (sL y) t2]) _) :: (Lc, nsO [ent X.w.params ⟨#[119, 111, 114, 100]⟩ _ _] 1) :: (a, lstO (vsP ps) ea) :: rest) (by repeat (first | exact List.Sublist.refl _ | apply List.Sublist.cons_cons | apply List.Sublist.cons)) fun n3 T3 hT3 => ?_
    exact h n3 T3 _ _ _ (by run_tac Drv.tom) (.inr ⟨_, _, rfl⟩)
theorem cb_end (n T i e : Nat) (hi : (Array.mk (vsP ps))[(i : Int).toNat]? = none) (vs : List Value) (ns : Obj) (hns : IsNsB X.w.params ns)
    (h : ∀ n' T', T ≤ T' → Go X ⟨κ, k (.ok .next), (acc, lstO vs e) :: (Lc, ns) :: (a, lstO (vsP ps) ea) :: rest, g, n', 820, T'⟩) :
    Go X ⟨.ret (clB L Lc it acc) none k κ, denQ (clB L Lc it acc), (it, itO a i) :: (acc, lstO vs e) :: (Lc, ns) :: (a, lstO (vsP ps) ea) :: rest, g, n, 820, T⟩ := by
  rcases hns with rfl | ⟨t, v, rfl⟩
  · run_tac Drv.drive [818]
    refine go_drop ((acc, lstO vs e) :: (Lc, nsO [] 0) :: (a, lstO (vsP ps) ea) :: rest) (by repeat (first | exact List.Sublist.refl _ | apply List.Sublist.cons_cons | apply List.Sublist.cons)) fun n1 T1 hT1 => ?_
    exact h n1 T1 (by run_tac Drv.tom)
  · run_tac Drv.drive [818]
    refine go_drop ((acc, lstO vs e) :: (Lc, nsO [ent X.w.params ⟨#[119, 111, 114, 100]⟩ _ _] 1) :: (a, lstO (vsP ps) ea) :: rest) (by repeat (first | exact List.Sublist.refl _ | apply List.Sublist.cons_cons | apply List.Sublist.cons)) fun n1 T1 hT1 => ?_
    exact h n1 T1 (by run_tac Drv.tom)
theorem cb_loop (hpl : ps.length < 100) (hps : ∀ p ∈ ps, p.1.length < 90) : ∀ (rem : List (List Nat × Nat)) (i : Nat), ps.drop i = rem → ∀ (n T e : Nat) (qs : List (List Nat × Nat)) (ns : Obj), IsNsB X.w.params ns → qs.length ≤ i →
    (∀ n' T' ns' e' qs', T ≤ T' → IsNsB X.w.params ns' → qs'.map Prod.fst = qs.map Prod.fst ++ rem.map (fun p => repl [39] [] p.1 0) → Go X ⟨κ, k (.ok .next), (acc, lstO (vsP qs') e') :: (Lc, ns') :: (a, lstO (vsP ps) ea) :: rest, g, n', 820, T'⟩) →
    Go X ⟨.ret (clB L Lc it acc) none k κ, denQ (clB L Lc it acc), (it, itO a i) :: (acc, lstO (vsP qs) e) :: (Lc, ns) :: (a, lstO (vsP ps) ea) :: rest, g, n, 820, T⟩ := by
  intro zs
  induction zs with
  | nil =>
    intro i hi n T e qs ns hns hq h
    refine cb_end X B hA κ R hκ k L Lc it acc a ea ps rest g n T i e (vs_none hi) _ ns hns fun n1 T1 hT1 => h n1 T1 ns e qs hT1 hns (by simp)
  | cons p rem ih =>
    intro i hi n T e qs ns hns hq h
    have hlt : i < ps.length := drop_lt hi
    have hr : ps.drop (i + 1) = rem := by rw [← List.drop_drop, hi]; rfl
    have hpm : p ∈ ps := List.mem_of_mem_drop (by rw [hi]; exact .head _)
    refine cb_turn X B hA κ R hκ k L Lc it acc a ea ps rest g n T i e p.1 p.2 (hps p hpm) (vs_get hi) _ (by unfold vsP; simp; (run_tac Drv.lomega)) ns hns fun n1 T1 ns1 e1 t1 hT1 hns1 => ?_
    rw [show vsP qs ++ [Value.str (sL (repl [39] [] p.1 0)) t1] = vsP (qs ++ [(repl [39] [] p.1 0, t1)]) from by simp [vsP]]
    refine ih (i + 1) hr n1 T1 e1 _ ns1 hns1 (by simp; (run_tac Drv.lomega)) fun n2 T2 ns2 e2 qs2 hT2 hns2 ht => h n2 T2 ns2 e2 qs2 (by run_tac Drv.tom) hns2 (by rw [ht]; simp)
theorem comp_b (hpl : ps.length < 100) (hps : ∀ p ∈ ps, p.1.length < 90) (gd : Bool) (lv : List Value) (n T : Nat)
    (h : ∀ n' T' ns' e' qs', T ≤ T' → IsNsB X.w.params ns' → qs'.map Prod.fst = ps.map (fun p => repl [39] [] p.1 0) → Go X ⟨κ, k (.ok .next), (acc, lstO (vsP qs') e') :: (Lc, ns') :: (a, lstO (vsP ps) ea) :: rest, g, n', 820, T'⟩) :
    Go X ⟨κ, .call (.compStart cxB 0 (.ref it) (.ref acc) (cEnv (fEnv fd818 818 L) scB Lc)) none gd lv k, (it, itO a (0 : Nat)) :: (acc, lstO (vsP []) 0) :: (Lc, nsO [] 0) :: (a, lstO (vsP ps) ea) :: rest, g, n, 820, T⟩ := by
  refine go_enter rfl ?_
  by_cases hrow : X.w.params.followText "comprehension-iter-twice" = true
  all_goals
    run_tac Drv.drive [818]
    refine go_tree (t' := Sem.pure (Fin.again (clB L Lc it acc))) (by kernel_rfl) ?_
    refine go_again (by kernel_rfl) ?_
    refine go_drop _ (List.Sublist.refl _) fun n1 T1 hT1 => ?_
    refine cb_loop X B hA κ R hκ k L Lc it acc a ea ps rest g hpl hps ps 0 rfl n1 T1 0 [] _ (.inl rfl) (by simp) fun n2 T2 ns2 e2 qs2 hT2 hns2 ht => ?_
    exact h n2 T2 ns2 e2 qs2 (by run_tac Drv.tom) hns2 (by simpa using ht)
end
end
section
open PySem PySem.W PySem.W.X PyProof.Rows
noncomputable def cxC : Expr := match (bodyOf fd818).drop 6 with
  | Stmt.Assign _ (Expr.Call _ [e] _ _) _ :: _ => e
  | _ => default
noncomputable def scC : Scope := match cxC with
  | .ListComp _ _ s _ => s
  | _ => default
noncomputable def clC (i : Nat) (L Lc it acc : Addr) : Code := .compLoop cxC i (.ref it) (.ref acc) (cEnv (fEnv fd818 818 L) scC Lc)
noncomputable def nC1 (P : Params) (t : Nat) (v : Value) : Obj := nsO [ent P ⟨#[114, 111, 119]⟩ t v] 1
noncomputable def nC2 (P : Params) (t t2 : Nat) (v v2 : Value) : Obj := nsO [ent P ⟨#[114, 111, 119]⟩ t v, ent P ⟨#[119, 111, 114, 100]⟩ t2 v2] 2
noncomputable def IsNc1 (P : Params) (ns : Obj) : Prop := (∃ t v, ns = nC1 P t v) ∨ ∃ t t2 v v2, ns = nC2 P t t2 v v2
noncomputable def IsNc (P : Params) (ns : Obj) : Prop := ns = nsO [] 0 ∨ IsNc1 P ns
section
variable (X : Env0) (B : BaseF X.w.params X.h₀) (hA : X.A.handled = none) (κ : Kt) (R : Room X κ 440 1400) (hκ : handledOf none κ = none) (k : Result → Sem Fin) (L Lc it acc r er : Nat) (ps : List (List Nat × Nat)) (rest : List (Addr × Obj)) (g : Array Value)
include B hA R hκ
theorem ci_turn (n T i e : Nat) (x : List Nat) (tx : Nat) (hi : (Array.mk (vsP ps))[(i : Int).toNat]? = some (.str (sL x) tx)) (vs : List Value) (hvs : vs.length < 1000) (ns : Obj) (hns : IsNc1 X.w.params ns)
    (h : ∀ n' T' ns' e', T ≤ T' → IsNc1 X.w.params ns' → Go X ⟨.ret (clC 1 L Lc it acc) none k κ, denQ (clC 1 L Lc it acc), (it, itO r (i + 1)) :: (acc, lstO (vs ++ [.str (sL x) tx]) e') :: (Lc, ns') :: (r, lstO (vsP ps) er) :: rest, g, n', 820, T'⟩) :
    Go X ⟨.ret (clC 1 L Lc it acc) none k κ, denQ (clC 1 L Lc it acc), (it, itO r i) :: (acc, lstO vs e) :: (Lc, ns) :: (r, lstO (vsP ps) er) :: rest, g, n, 820, T⟩ := by
  rcases hns with ⟨t, v, rfl⟩ | ⟨t, t2, v, v2, rfl⟩
  all_goals
    run_tac Drv.drive [818]
    refine go_again (by kernel_rfl) ?_
    rw [appR]
    refine go_drop ((it, itO r (i + 1)) :: (acc, lstO (vs ++ [.str (sL x) tx]) _) :: (Lc, nC2 X.w.params _ _ _ _) :: (r, lstO (vsP ps) er) :: rest) (by repeat (first | exact List.Sublist.refl _ | apply List.Sublist.cons_cons | apply List.Sublist.cons)) fun n3 T3 hT3 => ?_
    exact h n3 T3 _ _ (by run_tac Drv.tom) (.inr ⟨_, _, _, _, rfl⟩)
theorem ci_end (n T i e : Nat) (hi : (Array.mk (vsP ps))[(i : Int).toNat]? = none) (vs : List Value) (ns : Obj) (hns : IsNc1 X.w.params ns)
    (h : ∀ n' T', T ≤ T' → Go X ⟨κ, k (.ok .next), (acc, lstO vs e) :: (Lc, ns) :: (r, lstO (vsP ps) er) :: rest, g, n', 820, T'⟩) :
    Go X ⟨.ret (clC 1 L Lc it acc) none k κ, denQ (clC 1 L Lc it acc), (it, itO r i) :: (acc, lstO vs e) :: (Lc, ns) :: (r, lstO (vsP ps) er) :: rest, g, n, 820, T⟩ := by
  rcases hns with ⟨t, v, rfl⟩ | ⟨t, t2, v, v2, rfl⟩
  · run_tac Drv.drive [818]
    refine go_drop ((acc, lstO vs e) :: (Lc, nC1 X.w.params _ _) :: (r, lstO (vsP ps) er) :: rest) (by repeat (first | exact List.Sublist.refl _ | apply List.Sublist.cons_cons | apply List.Sublist.cons)) fun n1 T1 hT1 => ?_
    exact h n1 T1 (by run_tac Drv.tom)
  · run_tac Drv.drive [818]
    refine go_drop ((acc, lstO vs e) :: (Lc, nC2 X.w.params _ _ _ _) :: (r, lstO (vsP ps) er) :: rest) (by repeat (first | exact List.Sublist.refl _ | apply List.Sublist.cons_cons | apply List.Sublist.cons)) fun n1 T1 hT1 => ?_
    exact h n1 T1 (by run_tac Drv.tom)
theorem ci_loop : ∀ (rem : List (List Nat × Nat)) (i : Nat), ps.drop i = rem → ∀ (n T e : Nat) (qs : List (List Nat × Nat)) (ns : Obj), IsNc1 X.w.params ns → qs.length + rem.length < 900 →
    (∀ n' T' ns' e', T ≤ T' → IsNc1 X.w.params ns' → Go X ⟨κ, k (.ok .next), (acc, lstO (vsP (qs ++ rem)) e') :: (Lc, ns') :: (r, lstO (vsP ps) er) :: rest, g, n', 820, T'⟩) →
    Go X ⟨.ret (clC 1 L Lc it acc) none k κ, denQ (clC 1 L Lc it acc), (it, itO r i) :: (acc, lstO (vsP qs) e) :: (Lc, ns) :: (r, lstO (vsP ps) er) :: rest, g, n, 820, T⟩ := by
  intro zs
  induction zs with
  | nil =>
    intro i hi n T e qs ns hns hq h
    rw [List.append_nil] at h
    exact ci_end X B hA κ R hκ k L Lc it acc r er ps rest g n T i e (vs_none hi) _ ns hns fun n1 T1 hT1 => h n1 T1 ns e hT1 hns
  | cons p rem ih =>
    intro i hi n T e qs ns hns hq h
    rw [List.length_cons] at hq
    have hr : ps.drop (i + 1) = rem := by rw [← List.drop_drop, hi]; rfl
    refine ci_turn X B hA κ R hκ k L Lc it acc r er ps rest g n T i e p.1 p.2 (vs_get hi) _ (by unfold vsP; simp; (run_tac Drv.lomega)) ns hns fun n1 T1 ns1 e1 hT1 hns1 => ?_
    rw [show vsP qs ++ [Value.str (sL p.1) p.2] = vsP (qs ++ [p]) from by simp [vsP]]
    refine ih (i + 1) hr n1 T1 e1 _ ns1 hns1 (by simp; (run_tac Drv.lomega)) fun n2 T2 ns2 e2 hT2 hns2 => ?_
    have := h n2 T2 ns2 e2 (by run_tac Drv.tom) hns2
    rw [List.append_assoc]; exact this
theorem ci_s (gd : Bool) (lv : List Value) (n T e : Nat) (qs : List (List Nat × Nat)) (ns : Obj) (hns : IsNc1 X.w.params ns) (hq : qs.length + ps.length < 900)
    (h : ∀ n' T' ns' e', T ≤ T' → IsNc1 X.w.params ns' → Go X ⟨κ, k (.ok .next), (acc, lstO (vsP (qs ++ ps)) e') :: (Lc, ns') :: (r, lstO (vsP ps) er) :: rest, g, n', 820, T'⟩) :
    Go X ⟨κ, .call (.compStart cxC 1 (.ref it) (.ref acc) (cEnv (fEnv fd818 818 L) scC Lc)) none gd lv k, (it, itO r (0 : Nat)) :: (acc, lstO (vsP qs) e) :: (Lc, ns) :: (r, lstO (vsP ps) er) :: rest, g, n, 820, T⟩ := by
  refine go_enter rfl ?_
  by_cases hrow : X.w.params.followText "comprehension-iter-twice" = true
  all_goals
    run_tac Drv.drive [818]
    refine go_tree (t' := Sem.pure (Fin.again (clC 1 L Lc it acc))) (by kernel_rfl) ?_
    refine go_again (by kernel_rfl) ?_
    refine go_drop _ (List.Sublist.refl _) fun n1 T1 hT1 => ?_
    exact ci_loop X B hA κ R hκ k L Lc it acc r er ps rest g ps 0 rfl n1 T1 e qs ns hns hq fun n2 T2 ns2 e2 hT2 hns2 => h n2 T2 ns2 e2 (by run_tac Drv.tom) hns2
end
section
variable (X : Env0) (B : BaseF X.w.params X.h₀) (hA : X.A.handled = none) (κ : Kt) (R : Room X κ 430 1300) (hκ : handledOf none κ = none) (k : Result → Sem Fin) (L Lc it acc ro eo : Nat) (rs : List Value) (g : Array Value)
include B hA R hκ
theorem cc_turn (n T i e r er : Nat) (ps : List (List Nat × Nat)) (hi : (Array.mk rs)[(i : Int).toNat]? = some (.ref r)) (qs : List (List Nat × Nat)) (hq : qs.length + ps.length < 900) (ns : Obj) (hns : IsNc X.w.params ns) (rest : List (Addr × Obj))
    (h : ∀ n' T' ns' e', T ≤ T' → IsNc X.w.params ns' → Go X ⟨.ret (clC 0 L Lc it acc) none k κ, denQ (clC 0 L Lc it acc), (it, itO ro (i + 1)) :: (acc, lstO (vsP (qs ++ ps)) e') :: (Lc, ns') :: (r, lstO (vsP ps) er) :: (ro, lstO rs eo) :: rest, g, n', 820, T'⟩) :
    Go X ⟨.ret (clC 0 L Lc it acc) none k κ, denQ (clC 0 L Lc it acc), (it, itO ro i) :: (acc, lstO (vsP qs) e) :: (Lc, ns) :: (r, lstO (vsP ps) er) :: (ro, lstO rs eo) :: rest, g, n, 820, T⟩ := by
  have step : ∀ (n T : Nat) (ns1 : Obj) (it2 : Nat), IsNc1 X.w.params ns1 → True := fun _ _ _ _ _ => trivial
  rcases hns with rfl | ⟨t, v, rfl⟩ | ⟨t, t2, v, v2, rfl⟩
  · run_tac Drv.drive [818]
    refine go_perm ((n + 820, itO r (0 : Nat)) :: (acc, lstO (vsP qs) e) :: (Lc, nC1 X.w.params _ _) :: (r, lstO (vsP ps) er) :: (it, itO ro (i + 1)) :: (ro, lstO rs eo) :: rest) (perm_at 0 rfl (perm_at 1 rfl (perm_at 1 rfl (perm_at 1 rfl (.refl _))))) ?_
    refine go_drop _ (List.Sublist.refl _) fun n1 T1 hT1 => ?_
    refine ci_s X B hA _ (by exact R.ret.le rfl rfl) (by exact hκ) _ L Lc (n + 820) acc r er ps _ g _ _ n1 T1 e qs _ (.inl ⟨_, _, rfl⟩) hq fun n2 T2 ns2 e2 hT2 hns2 => ?_
    rcases hns2 with ⟨t, v, rfl⟩ | ⟨t, t2, v, v2, rfl⟩
    · run_tac Drv.drive [818]
      refine go_again (by kernel_rfl) ?_
      refine go_perm ((it, itO ro (i + 1)) :: (acc, lstO (vsP (qs ++ ps)) e2) :: (Lc, nC1 X.w.params _ _) :: (r, lstO (vsP ps) er) :: (ro, lstO rs eo) :: rest) (perm_at 3 rfl (.refl _)) ?_
      refine go_drop _ (List.Sublist.refl _) fun n3 T3 hT3 => ?_
      exact h n3 T3 _ _ (by run_tac Drv.tom) (.inr (.inl ⟨_, _, rfl⟩))
    · run_tac Drv.drive [818]
      refine go_again (by kernel_rfl) ?_
      refine go_perm ((it, itO ro (i + 1)) :: (acc, lstO (vsP (qs ++ ps)) e2) :: (Lc, nC2 X.w.params _ _ _ _) :: (r, lstO (vsP ps) er) :: (ro, lstO rs eo) :: rest) (perm_at 3 rfl (.refl _)) ?_
      refine go_drop _ (List.Sublist.refl _) fun n3 T3 hT3 => ?_
      exact h n3 T3 _ _ (by run_tac Drv.tom) (.inr (.inr ⟨_, _, _, _, rfl⟩))
  · run_tac Drv.drive [818]
    refine go_perm ((n + 820, itO r (0 : Nat)) :: (acc, lstO (vsP qs) e) :: (Lc, nC1 X.w.params _ _) :: (r, lstO (vsP ps) er) :: (it, itO ro (i + 1)) :: (ro, lstO rs eo) :: rest) (perm_at 0 rfl (perm_at 1 rfl (perm_at 1 rfl (perm_at 1 rfl (.refl _))))) ?_
    refine go_drop _ (List.Sublist.refl _) fun n1 T1 hT1 => ?_
    refine ci_s X B hA _ (by exact R.ret.le rfl rfl) (by exact hκ) _ L Lc (n + 820) acc r er ps _ g _ _ n1 T1 e qs _ (.inl ⟨_, _, rfl⟩) hq fun n2 T2 ns2 e2 hT2 hns2 => ?_
    rcases hns2 with ⟨t, v, rfl⟩ | ⟨t, t2, v, v2, rfl⟩
    · run_tac Drv.drive [818]
      refine go_again (by kernel_rfl) ?_
      refine go_perm ((it, itO ro (i + 1)) :: (acc, lstO (vsP (qs ++ ps)) e2) :: (Lc, nC1 X.w.params _ _) :: (r, lstO (vsP ps) er) :: (ro, lstO rs eo) :: rest) (perm_at 3 rfl (.refl _)) ?_
      refine go_drop _ (List.Sublist.refl _) fun n3 T3 hT3 => ?_
      exact h n3 T3 _ _ (by run_tac Drv.tom) (.inr (.inl ⟨_, _, rfl⟩))
    · run_tac Drv.drive [818]
      refine go_again (by kernel_rfl) ?_
      refine go_perm ((it, itO ro (i + 1)) :: (acc, lstO (vsP (qs ++ ps)) e2) :: (Lc, nC2 X.w.params _ _ _ _) :: (r, lstO (vsP ps) er) :: (ro, lstO rs eo) :: rest) (perm_at 3 rfl (.refl _)) ?_
      refine go_drop _ (List.Sublist.refl _) fun n3 T3 hT3 => ?_
      exact h n3 T3 _ _ (by run_tac Drv.tom) (.inr (.inr ⟨_, _, _, _, rfl⟩))
  · run_tac Drv.drive [818]
    refine go_perm ((n + 820, itO r (0 : Nat)) :: (acc, lstO (vsP qs) e) :: (Lc, nC2 X.w.params _ _ _ _) :: (r, lstO (vsP ps) er) :: (it, itO ro (i + 1)) :: (ro, lstO rs eo) :: rest) (perm_at 0 rfl (perm_at 1 rfl (perm_at 1 rfl (perm_at 1 rfl (.refl _))))) ?_
    refine go_drop _ (List.Sublist.refl _) fun n1 T1 hT1 => ?_
    refine ci_s X B hA _ (by exact R.ret.le rfl rfl) (by exact hκ) _ L Lc (n + 820) acc r er ps _ g _ _ n1 T1 e qs _ (.inr ⟨_, _, _, _, rfl⟩) hq fun n2 T2 ns2 e2 hT2 hns2 => ?_
    rcases hns2 with ⟨t, v, rfl⟩ | ⟨t, t2, v, v2, rfl⟩
    · run_tac Drv.drive [818]
      refine go_again (by kernel_rfl) ?_
      refine go_perm ((it, itO ro (i + 1)) :: (acc, lstO (vsP (qs ++ ps)) e2) :: (Lc, nC1 X.w.params _ _) :: (r, lstO (vsP ps) er) :: (ro, lstO rs eo) :: rest) (perm_at 3 rfl (.refl _)) ?_
      refine go_drop _ (List.Sublist.refl _) fun n3 T3 hT3 => ?_
      exact h n3 T3 _ _ (by run_tac Drv.tom) (.inr (.inl ⟨_, _, rfl⟩))
    · run_tac Drv.drive [818]
      refine go_again (by kernel_rfl) ?_
      refine go_perm ((it, itO ro (i + 1)) :: (acc, lstO (vsP (qs ++ ps)) e2) :: (Lc, nC2 X.w.params _ _ _ _) :: (r, lstO (vsP ps) er) :: (ro, lstO rs eo) :: rest) (perm_at 3 rfl (.refl _)) ?_
      refine go_drop _ (List.Sublist.refl _) fun n3 T3 hT3 => ?_
      exact h n3 T3 _ _ (by run_tac Drv.tom) (.inr (.inr ⟨_, _, _, _, rfl⟩))
theorem cc_end (n T i e : Nat) (hi : (Array.mk rs)[(i : Int).toNat]? = none) (vs : List Value) (ns : Obj) (hns : IsNc X.w.params ns) (rest : List (Addr × Obj))
    (h : ∀ n' T', T ≤ T' → Go X ⟨κ, k (.ok .next), (acc, lstO vs e) :: (Lc, ns) :: (ro, lstO rs eo) :: rest, g, n', 820, T'⟩) :
    Go X ⟨.ret (clC 0 L Lc it acc) none k κ, denQ (clC 0 L Lc it acc), (it, itO ro i) :: (acc, lstO vs e) :: (Lc, ns) :: (ro, lstO rs eo) :: rest, g, n, 820, T⟩ := by
  rcases hns with rfl | ⟨t, v, rfl⟩ | ⟨t, t2, v, v2, rfl⟩
  · run_tac Drv.drive [818]
    refine go_drop ((acc, lstO vs e) :: (Lc, nsO [] 0) :: (ro, lstO rs eo) :: rest) (by repeat (first | exact List.Sublist.refl _ | apply List.Sublist.cons_cons | apply List.Sublist.cons)) fun n1 T1 hT1 => ?_
    exact h n1 T1 (by run_tac Drv.tom)
  · run_tac Drv.drive [818]
    refine go_drop ((acc, lstO vs e) :: (Lc, nC1 X.w.params _ _) :: (ro, lstO rs eo) :: rest) (by repeat (first | exact List.Sublist.refl _ | apply List.Sublist.cons_cons | apply List.Sublist.cons)) fun n1 T1 hT1 => ?_
    exact h n1 T1 (by run_tac Drv.tom)
  · run_tac Drv.drive [818]
    refine go_drop ((acc, lstO vs e) :: (Lc, nC2 X.w.params _ _ _ _) :: (ro, lstO rs eo) :: rest) (by repeat (first | exact List.Sublist.refl _ | apply List.Sublist.cons_cons | apply List.Sublist.cons)) fun n1 T1 hT1 => ?_
    exact h n1 T1 (by run_tac Drv.tom)
end
end
section
open PySem PySem.W PySem.W.X PyProof.Rows
section
variable (X : Env0) (B : BaseF X.w.params X.h₀) (hA : X.A.handled = none) (κ : Kt) (R : Room X κ 430 1300) (hκ : handledOf none κ = none) (k : Result → Sem Fin) (L Lc it acc ro eo : Nat) (rws : List Row) (g : Array Value) (rest : List (Addr × Obj))
include B hA R hκ
theorem cc_loop : ∀ (rem : List Row) (i : Nat), rws.drop i = rem → ∀ (n T e : Nat) (qs : List (List Nat × Nat)) (ns : Obj), IsNc X.w.params ns → (∀ m, (qs ++ (rem.take m).flatMap (fun q => q.2.1)).length < 900) →
    (∀ n' T' ns' e', T ≤ T' → IsNc X.w.params ns' → Go X ⟨κ, k (.ok .next), (acc, lstO (vsP (qs ++ rem.flatMap (fun q => q.2.1))) e') :: (Lc, ns') :: (ro, lstO (refs rws) eo) :: (rowsL rws ++ rest), g, n', 820, T'⟩) →
    Go X ⟨.ret (clC 0 L Lc it acc) none k κ, denQ (clC 0 L Lc it acc), (it, itO ro i) :: (acc, lstO (vsP qs) e) :: (Lc, ns) :: (ro, lstO (refs rws) eo) :: (rowsL rws ++ rest), g, n, 820, T⟩ := by
  intro zs
  induction zs with
  | nil =>
    intro i hi n T e qs ns hns hq h
    refine cc_end X B hA κ R hκ k L Lc it acc ro eo (refs rws) g n T i e (ref_none hi) _ ns hns _ fun n1 T1 hT1 => ?_
    have := h n1 T1 ns e hT1 hns
    simpa using this
  | cons q rem ih =>
    intro i hi n T e qs ns hns hq h
    have hr : rws.drop (i + 1) = rem := by rw [← List.drop_drop, hi]; rfl
    have hp := row_pick hi
    have h1 := hq 1
    simp at h1
    refine go_perm ((it, itO ro i) :: (acc, lstO (vsP qs) e) :: (Lc, ns) :: (q.1, lstO (vsP q.2.1) q.2.2) :: (ro, lstO (refs rws) eo) :: (rowsL (rws.take i ++ rem) ++ rest)) ((((((List.Perm.swap _ _ _).trans ((hp.symm.append_right rest).cons _)).cons _).cons _).cons _)) ?_
    refine cc_turn X B hA κ R hκ k L Lc it acc ro eo (refs rws) g n T i e q.1 q.2.2 q.2.1 (ref_get hi) qs (by run_tac Drv.tom) ns hns _ fun n1 T1 ns1 e1 hT1 hns1 => ?_
    refine go_perm ((it, itO ro (i + 1)) :: (acc, lstO (vsP (qs ++ q.2.1)) e1) :: (Lc, ns1) :: (ro, lstO (refs rws) eo) :: (rowsL rws ++ rest)) ((((((hp.append_right rest).cons _).trans (List.Perm.swap _ _ _)).cons _).cons _).cons _) ?_
    refine ih (i + 1) hr n1 T1 e1 _ ns1 hns1 (fun m => ?_) fun n2 T2 ns2 e2 hT2 hns2 => ?_
    · have := hq (m + 1)
      rw [List.take_succ_cons, List.flatMap_cons, ← List.append_assoc] at this
      exact this
    · have := h n2 T2 ns2 e2 (by run_tac Drv.tom) hns2
      rw [List.flatMap_cons, ← List.append_assoc] at this
      exact this
theorem comp_c (gd : Bool) (lv : List Value) (n T : Nat) (hq : ∀ m, ((rws.take m).flatMap (fun q => q.2.1)).length < 900)
    (h : ∀ n' T' ns' e', T ≤ T' → IsNc X.w.params ns' → Go X ⟨κ, k (.ok .next), (acc, lstO (vsP (rws.flatMap (fun q => q.2.1))) e') :: (Lc, ns') :: (ro, lstO (refs rws) eo) :: (rowsL rws ++ rest), g, n', 820, T'⟩) :
    Go X ⟨κ, .call (.compStart cxC 0 (.ref it) (.ref acc) (cEnv (fEnv fd818 818 L) scC Lc)) none gd lv k, (it, itO ro (0 : Nat)) :: (acc, lstO (vsP []) 0) :: (Lc, nsO [] 0) :: (ro, lstO (refs rws) eo) :: (rowsL rws ++ rest), g, n, 820, T⟩ := by
  refine go_enter rfl ?_
  generalize htl : rowsL rws ++ rest = tl
  by_cases hrow : X.w.params.followText "comprehension-iter-twice" = true
  all_goals
    run_tac Drv.drive [818]
    refine go_tree (t' := Sem.pure (Fin.again (clC 0 L Lc it acc))) (by kernel_rfl) ?_
    refine go_again (by kernel_rfl) ?_
    rw [← htl]
    refine go_drop _ (List.Sublist.refl _) fun n1 T1 hT1 => ?_
    refine cc_loop X B hA κ R hκ k L Lc it acc ro eo rws g rest rws 0 rfl n1 T1 0 [] _ (.inl rfl) (by simpa using hq) fun n2 T2 ns2 e2 hT2 hns2 => ?_
    have := h n2 T2 ns2 e2 (by run_tac Drv.tom) hns2
    simpa using this
end
section
variable (X : Env0) (B : BaseF X.w.params X.h₀) (hA : X.A.handled = none) (κ : Kt) (R : Room X κ 600 3000) (hκ : handledOf none κ = none) (k : Result → Sem Fin) (a b e1 e2 : Nat) (ps qs : List (List Nat × Nat)) (rest : List (Addr × Obj)) (g : Array Value)
include B hA R hκ
/- one turn of a list's comparison with another: equal texts -/
theorem le_turn (cd : Nat) (hcd : cd = 2 ∨ cd = 3) (n T i : Nat) (cc : Code) (hcc : cc = .builtin "list.__eq__.loop" ⟨[.ref a, .ref b, .int i 0, .int cd 0], []⟩) (x : List Nat) (tx ty : Nat) (h1 : (Array.mk (vsP ps))[(i : Int).toNat]? = some (.str (sL x) tx)) (h2 : (Array.mk (vsP qs))[(i : Int).toNat]? = some (.str (sL x) ty))
    (h : ∀ n' T', T ≤ T' → Go X ⟨.ret (.builtin "list.__eq__.loop" ⟨[.ref a, .ref b, .int ((i + 1 : Nat) : Int) 0, .int cd 0], []⟩) none k κ, denQ (.builtin "list.__eq__.loop" ⟨[.ref a, .ref b, .int ((i + 1 : Nat) : Int) 0, .int cd 0], []⟩), (a, lstO (vsP ps) e1) :: (b, lstO (vsP qs) e2) :: rest, g, n', 820, T'⟩) :
    Go X ⟨.ret cc none k κ, denQ cc, (a, lstO (vsP ps) e1) :: (b, lstO (vsP qs) e2) :: rest, g, n, 820, T⟩ := by
  subst hcc
  rcases hcd with rfl | rfl
  all_goals
    by_cases ht : tx = ty
    · subst ht
      have hv := veq x tx
      run_tac Drv.drive [100016]
      refine go_again (by kernel_rfl) ?_
      refine go_drop ((a, lstO (vsP ps) e1) :: (b, lstO (vsP qs) e2) :: rest) (by repeat (first | exact List.Sublist.refl _ | apply List.Sublist.cons_cons | apply List.Sublist.cons)) fun n1 T1 hT1 => ?_
      exact h n1 T1 (by run_tac Drv.tom)
    · have hv := vnt x ht
      have hl := leq x
      run_tac Drv.drive [100016]
      refine go_again (by kernel_rfl) ?_
      refine go_drop ((a, lstO (vsP ps) e1) :: (b, lstO (vsP qs) e2) :: rest) (by repeat (first | exact List.Sublist.refl _ | apply List.Sublist.cons_cons | apply List.Sublist.cons)) fun n1 T1 hT1 => ?_
      exact h n1 T1 (by run_tac Drv.tom)
theorem le_end (cd : Nat) (hcd : cd = 2 ∨ cd = 3) (n T i : Nat) (cc : Code) (hcc : cc = .builtin "list.__eq__.loop" ⟨[.ref a, .ref b, .int i 0, .int cd 0], []⟩) (h1 : (Array.mk (vsP ps))[(i : Int).toNat]? = none) (h2 : (Array.mk (vsP qs))[(i : Int).toNat]? = none) (hl : (vsP ps).length = (vsP qs).length)
    (h : ∀ n' T', T ≤ T' → Go X ⟨κ, k (.ok (.ret (.bool (decide (cd = 2))))), (a, lstO (vsP ps) e1) :: (b, lstO (vsP qs) e2) :: rest, g, n', 820, T'⟩) :
    Go X ⟨.ret cc none k κ, denQ cc, (a, lstO (vsP ps) e1) :: (b, lstO (vsP qs) e2) :: rest, g, n, 820, T⟩ := by
  subst hcc
  have hb : ((Array.mk (vsP ps)).size == (Array.mk (vsP qs)).size) = true := by
    show ((vsP ps).length == (vsP qs).length) = true
    rw [hl]; exact beq_self_eq_true _
  have hb2 : ((Array.mk (vsP ps)).size != (Array.mk (vsP qs)).size) = false := by
    show (!((vsP ps).length == (vsP qs).length)) = false
    rw [hl, beq_self_eq_true]; rfl
  rcases hcd with rfl | rfl
  · run_tac Drv.drive [100016]
    refine go_tree (t' := k (.ok (.ret (.bool ((Array.mk (vsP ps)).size == (Array.mk (vsP qs)).size))))) (by kernel_rfl) ?_
    rw [hb]
    refine go_drop ((a, lstO (vsP ps) e1) :: (b, lstO (vsP qs) e2) :: rest) (by repeat (first | exact List.Sublist.refl _ | apply List.Sublist.cons_cons | apply List.Sublist.cons)) fun n1 T1 hT1 => ?_
    exact h n1 T1 (by run_tac Drv.tom)
  · run_tac Drv.drive [100016]
    refine go_tree (t' := k (.ok (.ret (.bool ((Array.mk (vsP ps)).size != (Array.mk (vsP qs)).size))))) (by kernel_rfl) ?_
    rw [hb2]
    refine go_drop ((a, lstO (vsP ps) e1) :: (b, lstO (vsP qs) e2) :: rest) (by repeat (first | exact List.Sublist.refl _ | apply List.Sublist.cons_cons | apply List.Sublist.cons)) fun n1 T1 hT1 => ?_
    exact h n1 T1 (by run_tac Drv.tom)
theorem le_loop (cd : Nat) (hcd : cd = 2 ∨ cd = 3) (hpq : ps.map Prod.fst = qs.map Prod.fst) : ∀ (rem : List (List Nat × Nat)) (i : Nat), ps.drop i = rem → ∀ (n T : Nat) (cc : Code), cc = .builtin "list.__eq__.loop" ⟨[.ref a, .ref b, .int i 0, .int cd 0], []⟩ →
    (∀ n' T', T ≤ T' → Go X ⟨κ, k (.ok (.ret (.bool (decide (cd = 2))))), (a, lstO (vsP ps) e1) :: (b, lstO (vsP qs) e2) :: rest, g, n', 820, T'⟩) →
    Go X ⟨.ret cc none k κ, denQ cc, (a, lstO (vsP ps) e1) :: (b, lstO (vsP qs) e2) :: rest, g, n, 820, T⟩ := by
  intro zs
  induction zs with
  | nil =>
    intro i hi n T cc hcc hh
    have hl : ps.length = qs.length := by have := congrArg List.length hpq; simpa using this
    have hq : qs.drop i = [] := by
      have := List.drop_eq_nil_iff.mp hi
      exact List.drop_eq_nil_iff.mpr (by run_tac Drv.tom)
    exact le_end X B hA κ R hκ k a b e1 e2 ps qs rest g cd hcd n T i cc hcc (vs_none hi) (vs_none hq) (by unfold vsP; simp [hl]) hh
  | cons p rem ih =>
    intro i hi n T cc hcc hh
    have hr : ps.drop (i + 1) = rem := by rw [← List.drop_drop, hi]; rfl
    have hd : (qs.drop i).map Prod.fst = p.1 :: rem.map Prod.fst := by
      rw [List.map_drop, ← hpq, ← List.map_drop, hi]; rfl
    cases hq : qs.drop i with
    | nil => rw [hq] at hd; cases hd
    | cons s v =>
      rw [hq] at hd
      injection hd with hd1 hd2
      have h2 := vs_get hq
      rw [hd1] at h2
      refine le_turn X B hA κ R hκ k a b e1 e2 ps qs rest g cd hcd n T i cc hcc p.1 p.2 s.2 (vs_get hi) h2 fun n1 T1 hT1 => ?_
      exact ih (i + 1) hr n1 T1 _ rfl fun n2 T2 hT2 => hh n2 T2 (by run_tac Drv.tom)
end
end
section
open PySem PySem.W PySem.W.X PyProof.Rows
/- law's frame -/
noncomputable def lwF (P : Params) (ro rc : Nat) (t0 t1 t2 : Nat) (tl : List DictEntry) (nn : Nat) (sl : Array (Option Value)) : Obj := ⟨.type "frame", none, .dict ⟨ent P ⟨#[115, 99, 114, 105, 112, 116]⟩ t0 (.ref 819) :: ent P ⟨#[114, 111, 119, 115]⟩ t1 (.ref ro) :: ent P ⟨#[114, 101, 99, 101, 105, 118, 101, 100]⟩ t2 (.ref rc) :: tl⟩ nn, sl⟩
noncomputable def l1Loop (L it : Addr) : Code := match (bodyOf fd818).drop 2 with
  | Stmt.For tgt _ b e _ :: _ => .forLoop tgt (.ref it) b e (fEnv fd818 818 L)
  | _ => default
noncomputable def tlL (P : Params) (t : Nat) (v : Value) : List DictEntry := [ent P ⟨#[108, 105, 110, 101]⟩ t v]
/- a line as it goes in, and what split reads of it -/
noncomputable def LineS (x : List Nat) (sg : List (Sg × List Sg)) : Prop := LineOk x ∧ strp x = lineR sg ∧ (∀ w ∈ sg, WOk w) ∧ sg.length < 900 ∧ (lineR sg).length < 1000
theorem go_nd2 {X : Env0} {κ : Kt} {t : Sem Fin} {l : List (Addr × Obj)} {g : Array Value} {n c T : Nat} (h : (l.map (·.1)).Nodup → Go X ⟨κ, t, l, g, n, c, T⟩) : Go X ⟨κ, t, l, g, n, c, T⟩ := fun hp O => h O.nd hp O
section
variable (w : World) (h₀ : Heap) (b : Base (model PW w)) (ga : Array GenState) (d : Drawn) (os : OsState) (B : BaseF w.params h₀) (hA : b.A.handled = none) (κ : Kt) (hκ : handledOf none κ = none) (R : ∀ ga, Room ⟨w, h₀, b, ga, d, os⟩ κ 440 1400) (k : Result → Sem Fin) (L it pl el ro rc : Nat) (hF : (aA b.A κ).frames = some [fEnv fd818 818 L]) (ls : List (List Nat × Nat)) (g : Array Value) (hga : AllBare ga)
include B hA R hκ hF hga
theorem l1_turn (n T i : Nat) (t0 t1 t2 : Nat) (tl : List DictEntry) (nn : Nat) (sl : Array (Option Value)) (htl : (tl = [] ∧ nn = 3) ∨ ∃ t v, tl = tlL w.params t v ∧ nn = 4) (x : List Nat) (tx : Nat) (hi : (Array.mk (vsP ls))[(i : Int).toNat]? = some (.str (sL x) tx)) (sg : List (Sg × List Sg)) (hx : LineS x sg) (rq : List (List Nat × Nat)) (er : Nat) (hrq : rq.length < 900) (rest : List (Addr × Obj))
    (h : ∀ ga' n' T' t v sl' qs er', AllBare ga' → T ≤ T' → qs.map Prod.fst = rq.map Prod.fst ++ sg.map wcont → Go ⟨w, h₀, b, ga', d, os⟩ ⟨.ret (l1Loop L it) none k κ, denQ (l1Loop L it), (L, lwF w.params ro rc t0 t1 t2 (tlL w.params t v) 4 sl') :: (it, itO pl (i + 1)) :: (rc, lstO (vsP qs) er') :: (pl, lstO (vsP ls) el) :: rest, g, n', 820, T'⟩) :
    Go ⟨w, h₀, b, ga, d, os⟩ ⟨.ret (l1Loop L it) none k κ, denQ (l1Loop L it), (L, lwF w.params ro rc t0 t1 t2 tl nn sl) :: (it, itO pl i) :: (rc, lstO (vsP rq) er) :: (pl, lstO (vsP ls) el) :: rest, g, n, 820, T⟩ := by
  have R0 := R ga
  obtain ⟨hx1, hx2, hx3, hx4, hx5⟩ := hx
  refine' go_cut (p := ∀ n1 T1 (q1 : Nat) (qv : Value), T ≤ T1 → Go ⟨w, h₀, b, ga, d, os⟩ ⟨_, _, (L, lwF w.params ro rc t0 t1 t2 (tlL w.params q1 qv) 4 sl) :: (it, itO pl (i + 1)) :: (rc, lstO (vsP rq) er) :: (pl, lstO (vsP ls) el) :: rest, g, n1, 820, T1⟩) (fun key => ?_) ?_
  rotate_left 2
  · rcases htl with ⟨rfl, rfl⟩ | ⟨t, v, rfl, rfl⟩
    all_goals
      run_tac Drv.drive [818]
      refine go_drop ((L, lwF w.params ro rc t0 t1 t2 (tlL w.params _ _) 4 sl) :: (it, itO pl (i + 1)) :: (rc, lstO (vsP rq) er) :: (pl, lstO (vsP ls) el) :: rest) (by repeat (first | exact List.Sublist.refl _ | apply List.Sublist.cons_cons | apply List.Sublist.cons)) fun n1 T1 hT1 => ?_
      exact key n1 T1 _ _ (by run_tac Drv.tom)
  · intro n1 T1 q1 qv hT1
    refine strip_s w h₀ b ga d os B hA _ (by exact hκ) (fun ga => (R ga).ret.le rfl rfl) _ _ _ n1 T1 tx _ g hga x hx1.len hx1.asc hx1.st fun ga1 n2 T2 t2' hga1 hT2 => ?_
    have R1 := R ga1
    rw [hx2]
    run_tac Drv.drive [818]
    refine split_s ⟨w, h₀, b, ga1, d, os⟩ B hA _ (by exact R1.ret.le rfl rfl) (by exact hκ) _ _ _ n2 T2 t2' L 4 _ sl (by exact frames_ret hF) sg hx3 (by run_tac Drv.tom) hx5 _ g fun n3 T3 l sl' ep ps hT3 hps => ?_
    run_tac Drv.drive [818, 100011]
    refine go_nd2 fun hnd => ?_
    have hne : ¬ rc = l := by first | exact nd_ne hnd 3 0 rfl rfl (by decide) | exact nd_ne hnd 0 3 rfl rfl (by decide)
    clear hnd
    refine go_again (by kernel_rfl) ?_
    refine go_perm ((rc, lstO (vsP rq) er) :: (l, lstO (vsP ps) ep) :: (L, lwF w.params ro rc t0 t1 t2 (tlL w.params _ _) 4 sl') :: (it, itO pl (i + 1)) :: (pl, lstO (vsP ls) el) :: rest) (perm_at 3 rfl (.refl _)) ?_
    refine go_drop _ (List.Sublist.refl _) fun n4 T4 hT4 => ?_
    have hpl : ps.length < 900 := by have := congrArg List.length hps; simp at this; (run_tac Drv.lomega)
    refine ext_b ⟨w, h₀, b, ga1, d, os⟩ B hA _ (by exact R1.ret.le rfl rfl) _ n4 T4 rc l er ep (vsP rq) (vsP ps) _ g (by unfold vsP; simp; (run_tac Drv.lomega)) (by unfold vsP; simp; (run_tac Drv.lomega)) hne _ (by kernel_rfl) none fun n5 T5 er' hT5 => ?_
    run_tac Drv.drive [818]
    refine go_again (by kernel_rfl) ?_
    rw [show vsP rq ++ vsP ps = vsP (rq ++ ps) from by simp [vsP]]
    refine go_perm ((L, lwF w.params ro rc t0 t1 t2 (tlL w.params _ _) 4 sl') :: (it, itO pl (i + 1)) :: (rc, lstO (vsP (rq ++ ps)) er') :: (pl, lstO (vsP ls) el) :: (l, lstO (vsP ps) ep) :: rest) (perm_at 2 rfl (perm_at 2 rfl (perm_at 0 rfl (perm_at 1 rfl (.refl _))))) ?_
    refine go_drop ((L, lwF w.params ro rc t0 t1 t2 (tlL w.params _ _) 4 sl') :: (it, itO pl (i + 1)) :: (rc, lstO (vsP (rq ++ ps)) er') :: (pl, lstO (vsP ls) el) :: rest) (by repeat (first | exact List.Sublist.refl _ | apply List.Sublist.cons_cons | apply List.Sublist.cons)) fun n6 T6 hT6 => ?_
    exact h ga1 n6 T6 _ _ sl' _ er' hga1 (by run_tac Drv.tom) (by rw [List.map_append, hps])
theorem l1_end (n T i : Nat) (t0 t1 t2 : Nat) (tl : List DictEntry) (nn : Nat) (sl : Array (Option Value)) (hi : (Array.mk (vsP ls))[(i : Int).toNat]? = none) (rest : List (Addr × Obj))
    (h : ∀ n' T', T ≤ T' → Go ⟨w, h₀, b, ga, d, os⟩ ⟨κ, k (.ok .next), (L, lwF w.params ro rc t0 t1 t2 tl nn sl) :: rest, g, n', 820, T'⟩) :
    Go ⟨w, h₀, b, ga, d, os⟩ ⟨.ret (l1Loop L it) none k κ, denQ (l1Loop L it), (L, lwF w.params ro rc t0 t1 t2 tl nn sl) :: (it, itO pl i) :: (pl, lstO (vsP ls) el) :: rest, g, n, 820, T⟩ := by
  have R0 := R ga
  run_tac Drv.drive [818]
  refine go_drop ((L, lwF w.params ro rc t0 t1 t2 tl nn sl) :: rest) (by repeat (first | exact List.Sublist.refl _ | apply List.Sublist.cons_cons | apply List.Sublist.cons)) fun n1 T1 hT1 => ?_
  exact h n1 T1 (by run_tac Drv.tom)
end
end
section
open PySem PySem.W PySem.W.X PyProof.Rows
inductive Lines : List (List Nat) → List (List (Sg × List Sg)) → Prop where
  | nil : Lines [] []
  | cons {x : List Nat} {sg : List (Sg × List Sg)} {xs : List (List Nat)} {sgs : List (List (Sg × List Sg))} : LineS x sg → Lines xs sgs → Lines (x :: xs) (sg :: sgs)
section
variable (w : World) (h₀ : Heap) (b : Base (model PW w)) (d : Drawn) (os : OsState) (B : BaseF w.params h₀) (hA : b.A.handled = none) (κ : Kt) (hκ : handledOf none κ = none) (R : ∀ ga, Room ⟨w, h₀, b, ga, d, os⟩ κ 440 1400) (k : Result → Sem Fin) (L it pl el ro rc : Nat) (hF : (aA b.A κ).frames = some [fEnv fd818 818 L]) (ls : List (List Nat × Nat)) (g : Array Value) (t0 t1 t2 : Nat) (rest : List (Addr × Obj))
include B hA R hκ hF
theorem l1_loop : ∀ (rem : List (List Nat × Nat)) (i : Nat), ls.drop i = rem → ∀ (sgs : List (List (Sg × List Sg))), Lines (rem.map Prod.fst) sgs → ∀ (ga : Array GenState) (n T : Nat) (tl : List DictEntry) (nn : Nat) (sl : Array (Option Value)) (rq : List (List Nat × Nat)) (er : Nat), AllBare ga → ((tl = [] ∧ nn = 3) ∨ ∃ t v, tl = tlL w.params t v ∧ nn = 4) → (rem = [] → ∃ t v, tl = tlL w.params t v ∧ nn = 4) → (∀ m, (rq.map Prod.fst ++ (sgs.take m).flatMap (fun s => s.map wcont)).length < 900) →
    (∀ ga' n' T' t v sl' qs er', AllBare ga' → T ≤ T' → qs.map Prod.fst = rq.map Prod.fst ++ sgs.flatMap (fun s => s.map wcont) → Go ⟨w, h₀, b, ga', d, os⟩ ⟨κ, k (.ok .next), (L, lwF w.params ro rc t0 t1 t2 (tlL w.params t v) 4 sl') :: (rc, lstO (vsP qs) er') :: rest, g, n', 820, T'⟩) →
    Go ⟨w, h₀, b, ga, d, os⟩ ⟨.ret (l1Loop L it) none k κ, denQ (l1Loop L it), (L, lwF w.params ro rc t0 t1 t2 tl nn sl) :: (it, itO pl i) :: (rc, lstO (vsP rq) er) :: (pl, lstO (vsP ls) el) :: rest, g, n, 820, T⟩ := by
  intro zs
  induction zs with
  | nil =>
    intro i hi sgs hS ga n T tl nn sl rq er hga htl hne hm h
    cases hS
    obtain ⟨t, v, rfl, rfl⟩ := hne rfl
    refine go_perm ((L, lwF w.params ro rc t0 t1 t2 (tlL w.params t v) 4 sl) :: (it, itO pl i) :: (pl, lstO (vsP ls) el) :: (rc, lstO (vsP rq) er) :: rest) ((((List.Perm.swap _ _ _)).cons _).cons _) ?_
    refine l1_end w h₀ b ga d os B hA κ hκ R k L it pl el ro rc hF ls g hga n T i t0 t1 t2 _ 4 sl (vs_none hi) _ fun n1 T1 hT1 => ?_
    exact h ga n1 T1 t v sl rq er hga hT1 (by simp)
  | cons p rem ih =>
    intro i hi sgs hS ga n T tl nn sl rq er hga htl hne hm h
    have hr : ls.drop (i + 1) = rem := by rw [← List.drop_drop, hi]; rfl
    rw [List.map_cons] at hS
    cases hS with
    | @cons _ sg _ sgs' hx hS =>
      have h0 := hm 0
      simp at h0
      refine l1_turn w h₀ b ga d os B hA κ hκ R k L it pl el ro rc hF ls g hga n T i t0 t1 t2 tl nn sl htl p.1 p.2 (vs_get hi) sg hx rq er (by run_tac Drv.tom) rest fun ga1 n1 T1 t v sl1 qs er1 hga1 hT1 hqs => ?_
      refine ih (i + 1) hr sgs' hS ga1 n1 T1 _ 4 sl1 qs er1 hga1 (.inr ⟨t, v, rfl, rfl⟩) (fun _ => ⟨t, v, rfl, rfl⟩) (fun m => ?_) fun ga2 n2 T2 t' v' sl2 qs2 er2 hga2 hT2 hqs2 => ?_
      · have := hm (m + 1)
        rw [List.take_succ_cons, List.flatMap_cons, ← List.append_assoc, ← hqs] at this
        exact this
      · refine h ga2 n2 T2 t' v' sl2 qs2 er2 hga2 (by run_tac Drv.tom) ?_
        rw [hqs2, hqs, List.flatMap_cons, List.append_assoc]
end
noncomputable def l2Loop (L it : Addr) : Code := match (bodyOf fd818).drop 4 with
  | Stmt.For tgt _ b e _ :: _ => .forLoop tgt (.ref it) b e (fEnv fd818 818 L)
  | _ => default
noncomputable def tlD (P : Params) (du : Nat) (t t2 : Nat) (v : Value) : List DictEntry := [ent P ⟨#[108, 105, 110, 101]⟩ t v, ent P ⟨#[100, 117, 101]⟩ t2 (.ref du)]
noncomputable def tlR (P : Params) (du : Nat) (t t2 t3 : Nat) (v v2 : Value) : List DictEntry := [ent P ⟨#[108, 105, 110, 101]⟩ t v, ent P ⟨#[100, 117, 101]⟩ t2 (.ref du), ent P ⟨#[114, 111, 119]⟩ t3 v2]
noncomputable def TlD (P : Params) (du : Nat) (tl : List DictEntry) (nn : Nat) : Prop := (∃ t t2 v, tl = tlD P du t t2 v ∧ nn = 5) ∨ ∃ t t2 t3 v v2, tl = tlR P du t t2 t3 v v2 ∧ nn = 6
/- what is due of a row -/
noncomputable def dueOf (ws : List (List Nat)) : List (List Nat) := if closedR ws = true then ws.map (fun x => repl [39] [] x 0) else [[40, 44], [41]]
end
section
open PySem PySem.W PySem.W.X PyProof.Rows
noncomputable def TlR (P : Params) (du : Nat) (tl : List DictEntry) (nn : Nat) : Prop := ∃ t t2 t3 v v2, tl = tlR P du t t2 t3 v v2 ∧ nn = 6
section
variable (X : Env0) (B : BaseF X.w.params X.h₀) (hA : X.A.handled = none) (κ : Kt) (R : Room X κ 440 1400) (hκ : handledOf none κ = none) (k : Result → Sem Fin) (L it ro eo rc du : Nat) (rs : List Value) (g : Array Value) (t0 t1 t2 : Nat)
include B hA R hκ
theorem l2_turn (n T i : Nat) (tl : List DictEntry) (nn : Nat) (sl : Array (Option Value)) (htl : TlD X.w.params du tl nn) (r er : Nat) (ps : List (List Nat × Nat)) (hps : ∀ p ∈ ps, p.1.length < 5 ∧ ∀ c ∈ p.1, Al c) (hpl : ps.length ≤ 10) (hi : (Array.mk rs)[(i : Int).toNat]? = some (.ref r)) (dq : List (List Nat × Nat)) (ed : Nat) (hdq : dq.length < 900) (rest : List (Addr × Obj))
    (h : ∀ n' T' tl nn qs ed', T ≤ T' → TlR X.w.params du tl nn → qs.map Prod.fst = dq.map Prod.fst ++ dueOf (ps.map Prod.fst) → Go X ⟨.ret (l2Loop L it) none k κ, denQ (l2Loop L it), (L, lwF X.w.params ro rc t0 t1 t2 tl nn sl) :: (it, itO ro (i + 1)) :: (du, lstO (vsP qs) ed') :: (r, lstO (vsP ps) er) :: (ro, lstO rs eo) :: rest, g, n', 820, T'⟩) :
    Go X ⟨.ret (l2Loop L it) none k κ, denQ (l2Loop L it), (L, lwF X.w.params ro rc t0 t1 t2 tl nn sl) :: (it, itO ro i) :: (du, lstO (vsP dq) ed) :: (r, lstO (vsP ps) er) :: (ro, lstO rs eo) :: rest, g, n, 820, T⟩ := by
  refine' go_cut (p := ∀ n1 T1 (q1 q2 q3 : Nat) (qv : Value), T ≤ T1 → Go X ⟨_, _, (r, lstO (vsP ps) er) :: (L, lwF X.w.params ro rc t0 t1 t2 (tlR X.w.params du q1 q2 q3 qv (.ref r)) 6 sl) :: (it, itO ro (i + 1)) :: (du, lstO (vsP dq) ed) :: (ro, lstO rs eo) :: rest, g, n1, 820, T1⟩) (fun key => ?_) ?_
  rotate_left 2
  · rcases htl with ⟨t, t2', v, rfl, rfl⟩ | ⟨t, t2', t3, v, v2, rfl, rfl⟩
    all_goals
      run_tac Drv.drive [818]
      refine go_perm ((r, lstO (vsP ps) er) :: (L, lwF X.w.params ro rc t0 t1 t2 (tlR X.w.params du _ _ _ _ (.ref r)) 6 sl) :: (it, itO ro (i + 1)) :: (du, lstO (vsP dq) ed) :: (ro, lstO rs eo) :: rest) (perm_at 3 rfl (.refl _)) ?_
      refine go_drop _ (List.Sublist.refl _) fun n1 T1 hT1 => ?_
      exact key n1 T1 _ _ _ _ (by run_tac Drv.tom)
  · intro n1 T1 q1 q2 q3 qv hT1
    refine closed_s X B hA _ (by exact R.ret.le rfl rfl) (by exact hκ) _ _ _ n1 T1 r er ps _ g (fun p hp => ⟨(hps p hp).1, fun c hc => al_128 ((hps p hp).2 c hc)⟩) hpl fun n2 T2 hT2 => ?_
    unfold dueOf at h
    cases hc : closedR (ps.map Prod.fst) with
    | true =>
      rw [hc, if_pos rfl] at h
      run_tac Drv.drive [818]
      refine go_perm ((n2 + 820, itO r (0 : Nat)) :: (n2 + 821, lstO (vsP []) 0) :: (n2 + 822, nsO [] 0) :: (r, lstO (vsP ps) er) :: (L, lwF X.w.params ro rc t0 t1 t2 (tlR X.w.params du _ _ _ _ (.ref r)) 6 sl) :: (it, itO ro (i + 1)) :: (du, lstO (vsP dq) ed) :: (ro, lstO rs eo) :: rest) (perm_at 2 rfl (perm_at 1 rfl (perm_at 0 rfl (.refl _)))) ?_
      refine go_drop _ (List.Sublist.refl _) fun n3 T3 hT3 => ?_
      refine comp_b X B hA _ (by exact R.ret.le rfl rfl) (by exact hκ) _ L (n2 + 822) (n2 + 820) (n2 + 821) r er ps _ g (by run_tac Drv.tom) (fun p hp => by have := (hps p hp).1; (run_tac Drv.lomega)) _ _ n3 T3 fun n4 T4 ns4 e4 qs4 hT4 hns4 hq4 => ?_
      have hq4l : qs4.length ≤ 10 := by have := congrArg List.length hq4; simp at this; (run_tac Drv.lomega)
      refine go_nd2 fun hnd => ?_
      have hne : ¬ du = n2 + 821 := by first | exact nd_ne hnd 0 1 rfl rfl (by decide) | exact nd_ne hnd 0 2 rfl rfl (by decide) | exact nd_ne hnd 0 3 rfl rfl (by decide) | exact nd_ne hnd 0 4 rfl rfl (by decide) | exact nd_ne hnd 0 5 rfl rfl (by decide) | exact nd_ne hnd 0 6 rfl rfl (by decide) | exact nd_ne hnd 0 7 rfl rfl (by decide) | exact nd_ne hnd 0 8 rfl rfl (by decide) | exact nd_ne hnd 1 0 rfl rfl (by decide) | exact nd_ne hnd 1 2 rfl rfl (by decide) | exact nd_ne hnd 1 3 rfl rfl (by decide) | exact nd_ne hnd 1 4 rfl rfl (by decide) | exact nd_ne hnd 1 5 rfl rfl (by decide) | exact nd_ne hnd 1 6 rfl rfl (by decide) | exact nd_ne hnd 1 7 rfl rfl (by decide) | exact nd_ne hnd 1 8 rfl rfl (by decide) | exact nd_ne hnd 2 0 rfl rfl (by decide) | exact nd_ne hnd 2 1 rfl rfl (by decide) | exact nd_ne hnd 2 3 rfl rfl (by decide) | exact nd_ne hnd 2 4 rfl rfl (by decide) | exact nd_ne hnd 2 5 rfl rfl (by decide) | exact nd_ne hnd 2 6 rfl rfl (by decide) | exact nd_ne hnd 2 7 rfl rfl (by decide) | exact nd_ne hnd 2 8 rfl rfl (by decide) | exact nd_ne hnd 3 0 rfl rfl (by decide) | exact nd_ne hnd 3 1 rfl rfl (by decide) | exact nd_ne hnd 3 2 rfl rfl (by decide) | exact nd_ne hnd 3 4 rfl rfl (by decide) | exact nd_ne hnd 3 5 rfl rfl (by decide) | exact nd_ne hnd 3 6 rfl rfl (by decide) | exact nd_ne hnd 3 7 rfl rfl (by decide) | exact nd_ne hnd 3 8 rfl rfl (by decide) | exact nd_ne hnd 4 0 rfl rfl (by decide) | exact nd_ne hnd 4 1 rfl rfl (by decide) | exact nd_ne hnd 4 2 rfl rfl (by decide) | exact nd_ne hnd 4 3 rfl rfl (by decide) | exact nd_ne hnd 4 5 rfl rfl (by decide) | exact nd_ne hnd 4 6 rfl rfl (by decide) | exact nd_ne hnd 4 7 rfl rfl (by decide) | exact nd_ne hnd 4 8 rfl rfl (by decide) | exact nd_ne hnd 5 0 rfl rfl (by decide) | exact nd_ne hnd 5 1 rfl rfl (by decide) | exact nd_ne hnd 5 2 rfl rfl (by decide) | exact nd_ne hnd 5 3 rfl rfl (by decide) | exact nd_ne hnd 5 4 rfl rfl (by decide) | exact nd_ne hnd 5 6 rfl rfl (by decide) | exact nd_ne hnd 5 7 rfl rfl (by decide) | exact nd_ne hnd 5 8 rfl rfl (by decide) | exact nd_ne hnd 6 0 rfl rfl (by decide) | exact nd_ne hnd 6 1 rfl rfl (by decide) | exact nd_ne hnd 6 2 rfl rfl (by decide) | exact nd_ne hnd 6 3 rfl rfl (by decide) | exact nd_ne hnd 6 4 rfl rfl (by decide) | exact nd_ne hnd 6 5 rfl rfl (by decide) | exact nd_ne hnd 6 7 rfl rfl (by decide) | exact nd_ne hnd 6 8 rfl rfl (by decide) | exact nd_ne hnd 7 0 rfl rfl (by decide) | exact nd_ne hnd 7 1 rfl rfl (by decide) | exact nd_ne hnd 7 2 rfl rfl (by decide) | exact nd_ne hnd 7 3 rfl rfl (by decide) | exact nd_ne hnd 7 4 rfl rfl (by decide) | exact nd_ne hnd 7 5 rfl rfl (by decide) | exact nd_ne hnd 7 6 rfl rfl (by decide) | exact nd_ne hnd 7 8 rfl rfl (by decide) | exact nd_ne hnd 8 0 rfl rfl (by decide) | exact nd_ne hnd 8 1 rfl rfl (by decide) | exact nd_ne hnd 8 2 rfl rfl (by decide) | exact nd_ne hnd 8 3 rfl rfl (by decide) | exact nd_ne hnd 8 4 rfl rfl (by decide) | exact nd_ne hnd 8 5 rfl rfl (by decide) | exact nd_ne hnd 8 6 rfl rfl (by decide) | exact nd_ne hnd 8 7 rfl rfl (by decide)
      clear hnd
      refine' go_cut (p := ∀ n5 T5, T4 ≤ T5 → Go X ⟨_, _, (du, lstO (vsP dq) ed) :: (n2 + 821, lstO (vsP qs4) e4) :: (L, lwF X.w.params ro rc t0 t1 t2 (tlR X.w.params du q1 q2 q3 qv (.ref r)) 6 sl) :: (it, itO ro (i + 1)) :: (r, lstO (vsP ps) er) :: (ro, lstO rs eo) :: rest, g, n5, 820, T5⟩) (fun key => ?_) ?_
      rotate_left 2
      · rcases hns4 with rfl | ⟨tn, vn, rfl⟩
        all_goals
          run_tac Drv.drive [818, 100011]
          refine go_again (by kernel_rfl) ?_
          refine go_perm ((du, lstO (vsP dq) ed) :: (n2 + 821, lstO (vsP qs4) e4) :: (L, lwF X.w.params ro rc t0 t1 t2 (tlR X.w.params du _ _ _ _ (.ref r)) 6 sl) :: (it, itO ro (i + 1)) :: (r, lstO (vsP ps) er) :: (ro, lstO rs eo) :: (_, _) :: rest) (perm_at 5 rfl (perm_at 0 rfl (perm_at 2 rfl (perm_at 2 rfl (perm_at 1 rfl (perm_at 1 rfl (.refl _))))))) ?_
          refine go_drop ((du, lstO (vsP dq) ed) :: (n2 + 821, lstO (vsP qs4) e4) :: (L, lwF X.w.params ro rc t0 t1 t2 (tlR X.w.params du q1 q2 q3 qv (.ref r)) 6 sl) :: (it, itO ro (i + 1)) :: (r, lstO (vsP ps) er) :: (ro, lstO rs eo) :: rest) (by repeat (first | exact List.Sublist.refl _ | apply List.Sublist.cons_cons | apply List.Sublist.cons)) fun n5 T5 hT5 => ?_
          exact key n5 T5 (by run_tac Drv.tom)
      · intro n5 T5 hT5
        refine ext_b X B hA _ (by exact R.ret.le rfl rfl) _ n5 T5 du (n2 + 821) ed e4 (vsP dq) (vsP qs4) _ g (by unfold vsP; simp; (run_tac Drv.lomega)) (by unfold vsP; simp; (run_tac Drv.lomega)) hne _ (by kernel_rfl) none fun n6 T6 ed' hT6 => ?_
        run_tac Drv.drive [818]
        refine go_again (by kernel_rfl) ?_
        rw [show vsP dq ++ vsP qs4 = vsP (dq ++ qs4) from by simp [vsP]]
        refine go_perm ((L, lwF X.w.params ro rc t0 t1 t2 (tlR X.w.params du _ _ _ _ (.ref r)) 6 sl) :: (it, itO ro (i + 1)) :: (du, lstO (vsP (dq ++ qs4)) ed') :: (r, lstO (vsP ps) er) :: (ro, lstO rs eo) :: (n2 + 821, lstO (vsP qs4) e4) :: rest) (perm_at 2 rfl (perm_at 2 rfl (perm_at 0 rfl (perm_at 1 rfl (perm_at 1 rfl (.refl _)))))) ?_
        refine go_drop ((L, lwF X.w.params ro rc t0 t1 t2 (tlR X.w.params du _ _ _ _ (.ref r)) 6 sl) :: (it, itO ro (i + 1)) :: (du, lstO (vsP (dq ++ qs4)) ed') :: (r, lstO (vsP ps) er) :: (ro, lstO rs eo) :: rest) (by repeat (first | exact List.Sublist.refl _ | apply List.Sublist.cons_cons | apply List.Sublist.cons)) fun n7 T7 hT7 => ?_
        exact h n7 T7 _ _ _ ed' (by run_tac Drv.tom) ⟨_, _, _, _, _, rfl, rfl⟩ (by rw [List.map_append, hq4, List.map_map]; rfl)
    | false =>
      rw [hc, if_neg (by decide)] at h
      run_tac Drv.drive [818, 100011]
      refine go_nd2 fun hnd => ?_
      have hne : ¬ du = n2 + 820 := by first | exact nd_ne hnd 0 1 rfl rfl (by decide) | exact nd_ne hnd 0 2 rfl rfl (by decide) | exact nd_ne hnd 0 3 rfl rfl (by decide) | exact nd_ne hnd 0 4 rfl rfl (by decide) | exact nd_ne hnd 0 5 rfl rfl (by decide) | exact nd_ne hnd 0 6 rfl rfl (by decide) | exact nd_ne hnd 0 7 rfl rfl (by decide) | exact nd_ne hnd 0 8 rfl rfl (by decide) | exact nd_ne hnd 1 0 rfl rfl (by decide) | exact nd_ne hnd 1 2 rfl rfl (by decide) | exact nd_ne hnd 1 3 rfl rfl (by decide) | exact nd_ne hnd 1 4 rfl rfl (by decide) | exact nd_ne hnd 1 5 rfl rfl (by decide) | exact nd_ne hnd 1 6 rfl rfl (by decide) | exact nd_ne hnd 1 7 rfl rfl (by decide) | exact nd_ne hnd 1 8 rfl rfl (by decide) | exact nd_ne hnd 2 0 rfl rfl (by decide) | exact nd_ne hnd 2 1 rfl rfl (by decide) | exact nd_ne hnd 2 3 rfl rfl (by decide) | exact nd_ne hnd 2 4 rfl rfl (by decide) | exact nd_ne hnd 2 5 rfl rfl (by decide) | exact nd_ne hnd 2 6 rfl rfl (by decide) | exact nd_ne hnd 2 7 rfl rfl (by decide) | exact nd_ne hnd 2 8 rfl rfl (by decide) | exact nd_ne hnd 3 0 rfl rfl (by decide) | exact nd_ne hnd 3 1 rfl rfl (by decide) | exact nd_ne hnd 3 2 rfl rfl (by decide) | exact nd_ne hnd 3 4 rfl rfl (by decide) | exact nd_ne hnd 3 5 rfl rfl (by decide) | exact nd_ne hnd 3 6 rfl rfl (by decide) | exact nd_ne hnd 3 7 rfl rfl (by decide) | exact nd_ne hnd 3 8 rfl rfl (by decide) | exact nd_ne hnd 4 0 rfl rfl (by decide) | exact nd_ne hnd 4 1 rfl rfl (by decide) | exact nd_ne hnd 4 2 rfl rfl (by decide) | exact nd_ne hnd 4 3 rfl rfl (by decide) | exact nd_ne hnd 4 5 rfl rfl (by decide) | exact nd_ne hnd 4 6 rfl rfl (by decide) | exact nd_ne hnd 4 7 rfl rfl (by decide) | exact nd_ne hnd 4 8 rfl rfl (by decide) | exact nd_ne hnd 5 0 rfl rfl (by decide) | exact nd_ne hnd 5 1 rfl rfl (by decide) | exact nd_ne hnd 5 2 rfl rfl (by decide) | exact nd_ne hnd 5 3 rfl rfl (by decide) | exact nd_ne hnd 5 4 rfl rfl (by decide) | exact nd_ne hnd 5 6 rfl rfl (by decide) | exact nd_ne hnd 5 7 rfl rfl (by decide) | exact nd_ne hnd 5 8 rfl rfl (by decide) | exact nd_ne hnd 6 0 rfl rfl (by decide) | exact nd_ne hnd 6 1 rfl rfl (by decide) | exact nd_ne hnd 6 2 rfl rfl (by decide) | exact nd_ne hnd 6 3 rfl rfl (by decide) | exact nd_ne hnd 6 4 rfl rfl (by decide) | exact nd_ne hnd 6 5 rfl rfl (by decide) | exact nd_ne hnd 6 7 rfl rfl (by decide) | exact nd_ne hnd 6 8 rfl rfl (by decide) | exact nd_ne hnd 7 0 rfl rfl (by decide) | exact nd_ne hnd 7 1 rfl rfl (by decide) | exact nd_ne hnd 7 2 rfl rfl (by decide) | exact nd_ne hnd 7 3 rfl rfl (by decide) | exact nd_ne hnd 7 4 rfl rfl (by decide) | exact nd_ne hnd 7 5 rfl rfl (by decide) | exact nd_ne hnd 7 6 rfl rfl (by decide) | exact nd_ne hnd 7 8 rfl rfl (by decide) | exact nd_ne hnd 8 0 rfl rfl (by decide) | exact nd_ne hnd 8 1 rfl rfl (by decide) | exact nd_ne hnd 8 2 rfl rfl (by decide) | exact nd_ne hnd 8 3 rfl rfl (by decide) | exact nd_ne hnd 8 4 rfl rfl (by decide) | exact nd_ne hnd 8 5 rfl rfl (by decide) | exact nd_ne hnd 8 6 rfl rfl (by decide) | exact nd_ne hnd 8 7 rfl rfl (by decide)
      clear hnd
      refine go_again (by kernel_rfl) ?_
      refine go_perm ((du, lstO (vsP dq) ed) :: (n2 + 820, lstO (vsP [([40, 44], T2), ([41], T2 + 1)]) 0) :: (L, lwF X.w.params ro rc t0 t1 t2 (tlR X.w.params du _ _ _ _ (.ref r)) 6 sl) :: (it, itO ro (i + 1)) :: (r, lstO (vsP ps) er) :: (ro, lstO rs eo) :: rest) (perm_at 4 rfl (perm_at 0 rfl (perm_at 1 rfl (perm_at 1 rfl (perm_at 0 rfl (.refl _)))))) ?_
      refine go_drop _ (List.Sublist.refl _) fun n5 T5 hT5 => ?_
      refine ext_b X B hA _ (by exact R.ret.le rfl rfl) _ n5 T5 du (n2 + 820) ed 0 (vsP dq) (vsP [([40, 44], T2), ([41], T2 + 1)]) _ g (by unfold vsP; simp; (run_tac Drv.lomega)) (by simp [vsP]) hne _ (by kernel_rfl) none fun n6 T6 ed' hT6 => ?_
      rw [show vsP dq ++ vsP [([40, 44], T2), ([41], T2 + 1)] = vsP (dq ++ [([40, 44], T2), ([41], T2 + 1)]) from by simp [vsP]]
      have hfin : (dq ++ [([40, 44], T2), ([41], T2 + 1)]).map Prod.fst = dq.map Prod.fst ++ [[40, 44], [41]] := by simp
      generalize dq ++ [([40, 44], T2), ([41], T2 + 1)] = dq2 at *
      run_tac Drv.drive [818]
      refine go_again (by kernel_rfl) ?_
      refine go_perm ((L, lwF X.w.params ro rc t0 t1 t2 (tlR X.w.params du _ _ _ _ (.ref r)) 6 sl) :: (it, itO ro (i + 1)) :: (du, lstO (vsP dq2) ed') :: (r, lstO (vsP ps) er) :: (ro, lstO rs eo) :: (_, _) :: rest) (perm_at 2 rfl (perm_at 2 rfl (perm_at 0 rfl (perm_at 1 rfl (perm_at 1 rfl (.refl _)))))) ?_
      refine go_drop ((L, lwF X.w.params ro rc t0 t1 t2 (tlR X.w.params du _ _ _ _ (.ref r)) 6 sl) :: (it, itO ro (i + 1)) :: (du, lstO (vsP dq2) ed') :: (r, lstO (vsP ps) er) :: (ro, lstO rs eo) :: rest) (by repeat (first | exact List.Sublist.refl _ | apply List.Sublist.cons_cons | apply List.Sublist.cons)) fun n7 T7 hT7 => ?_
      exact h n7 T7 _ _ _ ed' (by run_tac Drv.tom) ⟨_, _, _, _, _, rfl, rfl⟩ hfin
theorem l2_end (n T i : Nat) (tl : List DictEntry) (nn : Nat) (sl : Array (Option Value)) (hi : (Array.mk rs)[(i : Int).toNat]? = none) (rest : List (Addr × Obj))
    (h : ∀ n' T', T ≤ T' → Go X ⟨κ, k (.ok .next), (L, lwF X.w.params ro rc t0 t1 t2 tl nn sl) :: (ro, lstO rs eo) :: rest, g, n', 820, T'⟩) :
    Go X ⟨.ret (l2Loop L it) none k κ, denQ (l2Loop L it), (L, lwF X.w.params ro rc t0 t1 t2 tl nn sl) :: (it, itO ro i) :: (ro, lstO rs eo) :: rest, g, n, 820, T⟩ := by
  run_tac Drv.drive [818]
  refine go_drop ((L, lwF X.w.params ro rc t0 t1 t2 tl nn sl) :: (ro, lstO rs eo) :: rest) (by repeat (first | exact List.Sublist.refl _ | apply List.Sublist.cons_cons | apply List.Sublist.cons)) fun n1 T1 hT1 => ?_
  exact h n1 T1 (by run_tac Drv.tom)
end
section
variable (X : Env0) (B : BaseF X.w.params X.h₀) (hA : X.A.handled = none) (κ : Kt) (R : Room X κ 440 1400) (hκ : handledOf none κ = none) (k : Result → Sem Fin) (L it ro eo rc du : Nat) (rws : List Row) (hrw : RowsOk rws) (g : Array Value) (t0 t1 t2 : Nat) (rest : List (Addr × Obj))
include B hA R hκ hrw
theorem l2_loop : ∀ (rem : List Row) (i : Nat), rws.drop i = rem → ∀ (n T : Nat) (tl : List DictEntry) (nn : Nat) (sl : Array (Option Value)) (dq : List (List Nat × Nat)) (ed : Nat), TlD X.w.params du tl nn → (rem = [] → TlR X.w.params du tl nn) → (∀ m, (dq.map Prod.fst ++ (((texts rem).take m).flatMap dueOf)).length < 900) →
    (∀ n' T' tl nn qs ed', T ≤ T' → TlR X.w.params du tl nn → qs.map Prod.fst = dq.map Prod.fst ++ (texts rem).flatMap dueOf → Go X ⟨κ, k (.ok .next), (L, lwF X.w.params ro rc t0 t1 t2 tl nn sl) :: (ro, lstO (refs rws) eo) :: (du, lstO (vsP qs) ed') :: (rowsL rws ++ rest), g, n', 820, T'⟩) →
    Go X ⟨.ret (l2Loop L it) none k κ, denQ (l2Loop L it), (L, lwF X.w.params ro rc t0 t1 t2 tl nn sl) :: (it, itO ro i) :: (ro, lstO (refs rws) eo) :: (du, lstO (vsP dq) ed) :: (rowsL rws ++ rest), g, n, 820, T⟩ := by
  intro zs
  induction zs with
  | nil =>
    intro i hi n T tl nn sl dq ed htl hne hm h
    refine l2_end X B hA κ R hκ k L it ro eo rc (refs rws) g t0 t1 t2 n T i tl nn sl (ref_none hi) _ fun n1 T1 hT1 => ?_
    exact h n1 T1 tl nn dq ed hT1 (hne rfl) (by simp [texts])
  | cons q rem ih =>
    intro i hi n T tl nn sl dq ed htl hne hm h
    have hr : rws.drop (i + 1) = rem := by rw [← List.drop_drop, hi]; rfl
    have hqm : q ∈ rws := List.mem_of_mem_drop (by rw [hi]; exact .head _)
    obtain ⟨ho1, ho2⟩ := hrw q hqm
    have hp := row_pick hi
    have h0 := hm 0
    simp at h0
    refine go_perm ((L, lwF X.w.params ro rc t0 t1 t2 tl nn sl) :: (it, itO ro i) :: (du, lstO (vsP dq) ed) :: (q.1, lstO (vsP q.2.1) q.2.2) :: (ro, lstO (refs rws) eo) :: (rowsL (rws.take i ++ rem) ++ rest)) (by
      refine List.Perm.cons _ (List.Perm.cons _ ?_)
      refine List.Perm.trans ?_ (List.Perm.swap _ _ _)
      refine List.Perm.cons _ ?_
      exact (List.Perm.swap _ _ _).trans ((hp.symm.append_right rest).cons _)) ?_
    refine l2_turn X B hA κ R hκ k L it ro eo rc du (refs rws) g t0 t1 t2 n T i tl nn sl htl q.1 q.2.2 q.2.1 ho2 ho1 (ref_get hi) dq ed (by run_tac Drv.tom) _ fun n1 T1 tl1 nn1 qs1 ed1 hT1 htl1 hq1 => ?_
    refine go_perm ((L, lwF X.w.params ro rc t0 t1 t2 tl1 nn1 sl) :: (it, itO ro (i + 1)) :: (ro, lstO (refs rws) eo) :: (du, lstO (vsP qs1) ed1) :: (rowsL rws ++ rest)) (by
      refine List.Perm.cons _ (List.Perm.cons _ ?_)
      refine (List.Perm.swap _ _ _).trans ?_
      refine List.Perm.cons _ ?_
      exact ((hp.append_right rest).cons _).trans (List.Perm.swap _ _ _)) ?_
    have e : texts (q :: rem) = q.2.1.map Prod.fst :: texts rem := rfl
    refine ih (i + 1) hr n1 T1 tl1 nn1 sl qs1 ed1 (.inr htl1) (fun _ => htl1) (fun m => ?_) fun n2 T2 tl2 nn2 qs2 ed2 hT2 htl2 hq2 => ?_
    · have := hm (m + 1)
      rw [e, List.take_succ_cons, List.flatMap_cons, ← List.append_assoc, ← hq1] at this
      exact this
    · refine h n2 T2 tl2 nn2 qs2 ed2 (by run_tac Drv.tom) htl2 ?_
      rw [hq2, hq1, e, List.flatMap_cons, List.append_assoc]
end
end
section
open PySem PySem.W PySem.W.X PyProof.Rows
noncomputable def lim : Nat → Nat
  | 0 => 1
  | k + 1 => 8 * lim k + 1
theorem wordF_len : ∀ (f m k : Nat), m < lim k → (wordF f m).length ≤ k
  | 0, m, k, h => Nat.zero_le _
  | f + 1, 0, k, h => Nat.zero_le _
  | f + 1, m + 1, 0, h => by simp [lim] at h
  | f + 1, m + 1, k + 1, h => by
    have : m / 8 < lim k := by simp only [lim] at h; (run_tac Drv.lomega)
    show (wordF f (m / 8)).length + 1 ≤ k + 1
    exact Nat.succ_le_succ (wordF_len f _ k this)
theorem sg_al : ∀ c, c < 8 → Al (sg c) := by unfold Al sg; decide
theorem wordF_al : ∀ (f m : Nat), ∀ c ∈ wordF f m, Al c
  | 0, m, c, h => by cases h
  | f + 1, 0, c, h => by cases h
  | f + 1, m + 1, c, h => by
    rcases List.mem_cons.mp h with rfl | h
    · exact sg_al _ (Nat.mod_lt _ (by decide))
    · exact wordF_al f _ c h
noncomputable def Wd (w : List Nat) : Prop := w.length < 5 ∧ ∀ c ∈ w, Al c
theorem wordOf_ok (x : Int) : Wd (wordOf x) := by
  obtain ⟨_, h⟩ := numN_is x
  exact ⟨Nat.lt_succ_of_le (wordF_len 6 _ 4 (by show _ < 4681; exact h)), wordF_al 6 _⟩
theorem book_ok : ∀ (xs : List Int) (cur : List (List Nat)), (∀ w ∈ cur, Wd w) → ∀ row ∈ bookR xs cur, ∀ w ∈ row, Wd w
  | [], cur, hc, row, hr => by
    rw [bookR, List.mem_singleton] at hr; subst hr; exact hc
  | x :: xs, cur, hc, row, hr => by
    rw [bookR] at hr
    by_cases h : (x.fmod 23405).fmod 5 = 0
    · rw [if_pos h] at hr
      rcases List.mem_cons.mp hr with rfl | hr
      · exact hc
      · exact book_ok xs [] (fun w hw => by cases hw) row hr
    · rw [if_neg h] at hr
      refine book_ok xs _ (fun w hw => ?_) row hr
      rcases List.mem_append.mp hw with hw | hw
      · exact hc w hw
      · rw [List.mem_singleton] at hw; subst hw; exact wordOf_ok x
theorem book_sum : ∀ (xs : List Int) (cur : List (List Nat)), (bookR xs cur).flatten.length + (bookR xs cur).length = cur.length + xs.length + 1
  | [], cur => by simp [bookR]
  | x :: xs, cur => by
    rw [bookR]
    by_cases h : (x.fmod 23405).fmod 5 = 0
    · rw [if_pos h]
      have := book_sum xs []
      simp only [List.flatten_cons, List.length_append, List.length_cons, List.length_nil] at this ⊢
      (run_tac Drv.lomega)
    · rw [if_neg h]
      have := book_sum xs (cur ++ [wordOf x])
      simp only [List.length_append, List.length_cons, List.length_nil] at this ⊢
      (run_tac Drv.lomega)
theorem book_ne : ∀ (xs : List Int) (cur : List (List Nat)), bookR xs cur ≠ []
  | [], cur => by simp [bookR]
  | x :: xs, cur => by
    rw [bookR]
    by_cases h : (x.fmod 23405).fmod 5 = 0
    · rw [if_pos h]; simp
    · rw [if_neg h]; exact book_ne xs _
theorem fm_take {α β : Type} (f : α → List β) (l : List α) (m : Nat) : ((l.take m).flatMap f).length ≤ (l.flatMap f).length := by
  conv => rhs; rw [← List.take_append_drop m l]
  rw [List.flatMap_append, List.length_append]; (run_tac Drv.lomega)
theorem row_le {l : List (List (List Nat))} {r : List (List Nat)} (h : r ∈ l) : r.length ≤ l.flatten.length := by
  induction l with
  | nil => cases h
  | cons x l ih =>
    rw [List.flatten_cons, List.length_append]
    rcases List.mem_cons.mp h with rfl | h
    · (run_tac Drv.lomega)
    · have := ih h; (run_tac Drv.lomega)
theorem texts_flat (rws : List Row) : (texts rws).flatMap id = (rws.flatMap fun q => q.2.1).map Prod.fst := by
  induction rws with
  | nil => rfl
  | cons q r ih =>
    rw [List.flatMap_cons, List.map_append, ← ih]; rfl
/- the book's rows -/
theorem book_bk (ys : List Int) (hy : ys.length ≤ 10) (rws : List Row) (h : texts rws = bookR ys []) : RowsOk rws ∧ rws.length < 20 ∧ rws ≠ [] ∧ ∀ m, ((rws.take m).flatMap fun q => q.2.1).length < 60 := by
  have hs := book_sum ys []
  rw [← h] at hs
  simp only [List.length_nil] at hs
  have hfl : (texts rws).flatten.length = (rws.flatMap fun q => q.2.1).length := by
    rw [← List.flatMap_id, texts_flat, List.length_map]
  have hl : (texts rws).length = rws.length := by unfold texts; rw [List.length_map]
  refine ⟨fun q hq => ?_, by (run_tac Drv.lomega), fun z => ?_, fun m => ?_⟩
  · have hm : q.2.1.map Prod.fst ∈ texts rws := List.mem_map.mpr ⟨q, hq, rfl⟩
    have h1 := row_le hm
    rw [List.length_map] at h1
    rw [hfl] at hs h1
    have hp : 0 < rws.length := List.length_pos_of_mem hq
    refine ⟨by (run_tac Drv.lomega), fun p hp => ?_⟩
    rw [h] at hm
    exact book_ok ys [] (fun w hw => by cases hw) _ hm p.1 (List.mem_map.mpr ⟨p, hp, rfl⟩)
  · subst z
    exact book_ne ys [] h.symm
  · have := fm_take (fun q : Row => q.2.1) rws m
    (run_tac Drv.lomega)
noncomputable def sgOf (ws : List (List Nat)) : List (Sg × List Sg) := if closedR ws = true then ws.map wsg else nopeW
theorem red_nil (f : Nat) : red f [] = [] := by have := red_len f []; simpa using this
theorem closed_nil : closedR [] = true := by unfold closedR; exact decide_eq_true (red_nil _)
theorem nope_lineok : LineOk nope := by
  refine ⟨by decide, by decide, fun h => absurd h (by decide), ?_, ?_⟩
  · rw [nope_strp]; decide
  · rw [nope_strp]; decide
theorem sg_line (ws : List (List Nat)) (h : ∀ w ∈ ws, Wd w) (hl : ws.length ≤ 10) : LineOk (lineOf ws) ∧ LineS (preV (lineOf ws)) (sgOf ws) ∧ (sgOf ws).map wcont = dueOf ws ∧ (sgOf ws).length ≤ ws.length + 2 ∧ ((sgOf ws).map wcont = [] ↔ ws = []) := by
  obtain ⟨h1, h2, h3⟩ := line_ok ws h hl
  have hc := chk_line ws h hl
  refine ⟨h1, ?_⟩
  unfold preV sgOf dueOf lineOf
  rw [hc]
  by_cases hcl : closedR ws = true
  · rw [if_pos hcl, if_pos hcl, if_pos hcl]
    refine ⟨⟨h1, h2, fun w hw => ?_, by rw [List.length_map]; (run_tac Drv.lomega), h3⟩, ?_, by rw [List.length_map]; (run_tac Drv.lomega), by simp⟩
    · obtain ⟨v, hv, rfl⟩ := List.mem_map.mp hw
      exact wok_wsg v (h v hv).2 (by have := (h v hv).1; (run_tac Drv.lomega))
    · rw [List.map_map]
      refine List.map_congr_left fun w _ => ?_
      show wcont (wsg w) = _
      rw [wcont_wsg, repl_f]
  · rw [if_neg hcl, if_neg hcl, if_neg hcl]
    refine ⟨⟨nope_lineok, by rw [nope_strp, nope_line], nope_ok, by decide, by rw [← nope_line]; decide⟩, nope_cont, by show 2 ≤ _; (run_tac Drv.lomega), ?_⟩
    rw [nope_cont]
    constructor
    · intro z; cases z
    · intro z; subst z; exact absurd closed_nil hcl
theorem sgs_all : ∀ (ls : List (List (List Nat))), (∀ ws ∈ ls, (∀ w ∈ ws, Wd w) ∧ ws.length ≤ 10) → Lines (ls.map fun ws => preV (lineOf ws)) (ls.map sgOf) ∧ (ls.map sgOf).flatMap (fun s => s.map wcont) = ls.flatMap dueOf ∧ (ls.flatMap dueOf).length ≤ ls.flatten.length + 2 * ls.length ∧ (∀ ws ∈ ls, LineOk (lineOf ws)) ∧ ((ls.map sgOf).flatMap (fun s => s.map wcont) = [] ↔ ls.flatMap id = [])
  | [], h => ⟨.nil, rfl, by simp, fun _ h => (by cases h), by simp⟩
  | ws :: ls, h => by
    obtain ⟨a1, a2, a3, a4, a5⟩ := sgs_all ls fun v hv => h v (.tail _ hv)
    obtain ⟨b1, b2, b3, b4, b5⟩ := sg_line ws (h ws (.head _)).1 (h ws (.head _)).2
    refine ⟨.cons b2 a1, ?_, ?_, fun v hv => ?_, ?_⟩
    · rw [List.map_cons, List.flatMap_cons, List.flatMap_cons, a2, b3]
    · rw [List.flatMap_cons, List.length_append, List.flatten_cons, List.length_append, List.length_cons, ← b3, List.length_map]
      (run_tac Drv.lomega)
    · rcases List.mem_cons.mp hv with rfl | hv
      · exact b1
      · exact a4 v hv
    · rw [List.map_cons, List.flatMap_cons, List.flatMap_cons, List.append_eq_nil_iff, List.append_eq_nil_iff, a5, b5]
      exact Iff.rfl
theorem book_S (ys : List Int) (hy : ys.length ≤ 10) (ls : List (List (List Nat))) (h : ls = bookR ys []) : ∃ sgs, Lines (ls.map fun ws => preV (lineOf ws)) sgs ∧ sgs.flatMap (fun s => s.map wcont) = ls.flatMap dueOf ∧ (∀ m, ((sgs.take m).flatMap (fun s => s.map wcont)).length < 60) ∧ (∀ m, (((ls.take m).flatMap dueOf)).length < 900) ∧ (∀ ws ∈ ls, LineOk (lineOf ws)) ∧ (sgs.flatMap (fun s => s.map wcont) = [] ↔ ls.flatMap id = []) := by
  have hs := book_sum ys []
  rw [← h] at hs
  simp only [List.length_nil] at hs
  obtain ⟨a1, a2, a3, a4, a5⟩ := sgs_all ls fun ws hw => by
    have h1 := row_le hw
    have hp : 0 < ls.length := List.length_pos_of_mem hw
    rw [h] at hw
    exact ⟨book_ok ys [] (fun w hw => by cases hw) ws hw, by (run_tac Drv.lomega)⟩
  refine ⟨ls.map sgOf, a1, a2, fun m => ?_, fun m => ?_, a4, a5⟩
  · have := fm_take (fun s : List (Sg × List Sg) => s.map wcont) (ls.map sgOf) m
    rw [a2] at this
    (run_tac Drv.lomega)
  · have := fm_take dueOf ls m
    (run_tac Drv.lomega)
end
section
open PySem PySem.W PySem.W.X PyProof.Rows
section
variable (w : World) (h₀ : Heap) (b : Base (model PW w)) (ga : Array GenState) (d : Drawn) (os : OsState) (B : BaseF w.params h₀) (hA : b.A.handled = none) (κ : Kt) (hκ : handledOf none κ = none) (R : ∀ ga, Room ⟨w, h₀, b, ga, d, os⟩ κ 320 200) (k : Result → Sem Fin) (gd : Bool) (lv : List Value) (n T e : Nat) (xs : List (Int × Nat)) (hscr : h₀.get? 819 = some (scrO xs e)) (hga : AllBare ga) (hF : (aA b.A κ).frames = some [])
include B hA R hκ hscr hga hF
theorem law1 (h : ∀ ga' n' T' g' l', AllBare ga' → Go ⟨w, h₀, b, ga', d, os⟩ ⟨κ, k (.ok (.ret (.bool true))), l', g', n', 820, T'⟩) :
    Go ⟨w, h₀, b, ga, d, os⟩ ⟨κ, .call (.call (.ref 818) ⟨[.ref 819], []⟩) none gd lv k, [], #[], n, 820, T⟩ := by
  have R0 := R ga
  refine go_enter rfl ?_
  run_tac Drv.drive [818]
  refine go_drop _ (List.Sublist.refl _) fun n1 T1 hT1 => ?_
  refine book_s ⟨w, h₀, b, ga, d, os⟩ B hA _ (by exact R0.ret.le rfl rfl) (by exact hκ) _ _ _ n1 T1 e xs hscr _ _ fun n2 T2 ro er rws hT2 htx => ?_
  have hten : ((xs.take 10).map Prod.fst).length ≤ 10 := by rw [List.length_map, List.length_take]; (run_tac Drv.lomega)
  obtain ⟨hrw, hrl, hrn, hrm⟩ := book_bk _ hten rws htx
  obtain ⟨sgs, hsg, hsd, hsm0, hdm, hlo, hem⟩ := book_S _ hten _ htx
  have hsm : ∀ m, ((sgs.take m).flatMap (fun s => s.map wcont)).length < 900 := fun m => by have := hsm0 m; (run_tac Drv.lomega)
  refine go_perm ((n + 820, _) :: (ro, lstO (refs rws) er) :: (rowsL rws ++ [])) (by
    rw [List.append_nil]
    exact (List.Perm.swap _ _ _).trans ((List.perm_append_singleton _ _).symm.cons _)) ?_
  generalize htl : rowsL rws ++ [] = tl
  run_tac Drv.drive [818]
  refine go_perm ((n2 + 821, itO ro (0 : Nat)) :: (n2 + 822, lstO (vsP []) 0) :: (n2 + 823, nsO [] 0) :: (ro, lstO (refs rws) er) :: (n + 820, lwF w.params ro (n2 + 820) T T2 (T2 + 1) [] 3 #[]) :: (n2 + 820, lstO (vsP []) 0) :: tl) (perm_at 2 rfl (perm_at 1 rfl (perm_at 0 rfl (perm_at 2 rfl (perm_at 1 rfl (perm_at 0 rfl (.refl _))))))) ?_
  refine go_perm ((n2 + 821, itO ro (0 : Nat)) :: (n2 + 822, lstO (vsP []) 0) :: (n2 + 823, nsO [] 0) :: (ro, lstO (refs rws) er) :: (rowsL rws ++ ([(n + 820, lwF w.params ro (n2 + 820) T T2 (T2 + 1) [] 3 #[]), (n2 + 820, lstO (vsP []) 0)] ++ []))) (by rw [← htl]; exact ((((((rot [_, _] (rowsL rws) []).symm).cons _).cons _).cons _).cons _)) ?_
  refine go_drop _ (List.Sublist.refl _) fun n3 T3 hT3 => ?_
  refine comp_a w h₀ b ga d os B hA _ (by exact hκ) (fun ga => (R ga).ret.le rfl rfl) _ _ _ (n + 820) (n2 + 823) (n2 + 821) (n2 + 822) ro er rws hrw _ hga (by run_tac Drv.tom) n3 T3 #[] (.inl rfl) fun ga4 n4 T4 ns4 e4 ls g4 hg4 hga4 hT4 hns4 hls => ?_
  have R4 := R ga4
  refine go_perm ((n + 820, lwF w.params ro (n2 + 820) T T2 (T2 + 1) [] 3 #[]) :: (n2 + 820, lstO (vsP []) 0) :: (n2 + 822, lstO (vsP ls) e4) :: (n2 + 823, ns4) :: (ro, lstO (refs rws) er) :: (rowsL rws ++ [])) (by
    have z := rot [(n + 820, lwF w.params ro (n2 + 820) T T2 (T2 + 1) [] 3 #[]), (n2 + 820, lstO (vsP []) 0)] ((n2 + 822, lstO (vsP ls) e4) :: (n2 + 823, ns4) :: (ro, lstO (refs rws) er) :: rowsL rws) []
    exact z) ?_
  generalize htl2 : rowsL rws ++ [] = tl2
  have hpre : ∀ p ∈ ls, LineOk p.1 := fun p hp => by
    have : p.1 ∈ ls.map Prod.fst := List.mem_map_of_mem hp
    rw [hls] at this
    obtain ⟨ws, hws, e⟩ := List.mem_map.mp this
    rw [← e]; exact hlo ws hws
  have hlsl : ls.length = rws.length := by have := congrArg List.length hls; simpa [texts] using this
  refine' go_cut (p := ∀ n5 T5, T4 ≤ T5 → Go ⟨w, h₀, b, ga4, d, os⟩ ⟨_, _, ((n2 + 822, lstO (vsP ls) e4) :: (n + 820, lwF w.params ro (n2 + 820) T T2 (T2 + 1) [] 3 #[]) :: (n2 + 820, lstO (vsP []) 0) :: (ro, lstO (refs rws) er) :: tl2), g4, n5, 820, T5⟩) (fun key => ?_) ?_
  rotate_left 2
  · rcases hns4 with rfl | ⟨tn, vn, rfl⟩
    all_goals
      run_tac Drv.drive [818]
      refine go_perm ((n2 + 822, lstO (vsP ls) e4) :: (n + 820, lwF w.params ro (n2 + 820) T T2 (T2 + 1) [] 3 #[]) :: (n2 + 820, lstO (vsP []) 0) :: (n2 + 823, _) :: (ro, lstO (refs rws) er) :: tl2) (perm_at 2 rfl (.refl _)) ?_
      refine go_drop ((n2 + 822, lstO (vsP ls) e4) :: (n + 820, lwF w.params ro (n2 + 820) T T2 (T2 + 1) [] 3 #[]) :: (n2 + 820, lstO (vsP []) 0) :: (ro, lstO (refs rws) er) :: tl2) (by repeat (first | exact List.Sublist.refl _ | apply List.Sublist.cons_cons | apply List.Sublist.cons)) fun n5 T5 hT5 => ?_
      exact key n5 T5 (by run_tac Drv.tom)
  · intro n5 T5 hT5
    refine pre_s w h₀ b ga4 d os B hA _ (by exact hκ) (fun ga => (R ga).ret.le rfl rfl) _ _ _ n5 T5 (n2 + 822) e4 ls _ g4 hga4 hpre (by run_tac Drv.tom) fun ga6 n6 T6 l ps6 e6 hga6 hT6 hps6 => ?_
    have R6 := R ga6
    run_tac Drv.drive [818]
    refine go_enter rfl ?_
    have hps6' : ps6.map Prod.fst = (texts rws).map (fun ws => preV (lineOf ws)) := by
      rw [hps6]
      have : ls.map (fun p => preV p.1) = (ls.map Prod.fst).map preV := by rw [List.map_map]; rfl
      rw [this, hls, List.map_map]; rfl
    have hp6n : ps6 ≠ [] := by
      intro z
      rw [z] at hps6'
      have := congrArg List.length hps6'
      simp [texts] at this
      exact hrn (List.length_eq_zero_iff.mp this.symm)
    refine go_perm ((n + 820, lwF w.params ro (n2 + 820) T T2 (T2 + 1) [] 3 #[]) :: (n6 + 820, itO l (0 : Nat)) :: (n2 + 820, lstO (vsP []) 0) :: (l, lstO (vsP ps6) e6) :: (n2 + 822, lstO (vsP ls) e4) :: (ro, lstO (refs rws) er) :: tl2) (perm_at 3 rfl (perm_at 0 rfl (perm_at 2 rfl (perm_at 0 rfl (.refl _))))) ?_
    refine go_drop ((n + 820, lwF w.params ro (n2 + 820) T T2 (T2 + 1) [] 3 #[]) :: (n6 + 820, itO l (0 : Nat)) :: (n2 + 820, lstO (vsP []) 0) :: (l, lstO (vsP ps6) e6) :: (ro, lstO (refs rws) er) :: tl2) (by repeat (first | exact List.Sublist.refl _ | apply List.Sublist.cons_cons | apply List.Sublist.cons)) fun n7 T7 hT7 => ?_
    refine l1_loop w h₀ b d os B hA _ (by exact hκ) (fun ga => (R ga).ret.le rfl rfl) _ (n + 820) (n6 + 820) l e6 ro (n2 + 820) (by exact frames_ret (X := ⟨w, h₀, b, ga, d, os⟩) hF) ps6 g4 T T2 (T2 + 1) _ ps6 0 rfl sgs (by rw [hps6']; exact hsg) ga6 n7 T7 [] 3 #[] [] 0 hga6 (.inl ⟨rfl, rfl⟩) (fun z => absurd z hp6n) (by simpa using hsm) fun ga8 n8 T8 t8 v8 sl8 rq er8 hga8 hT8 hrq => ?_
    have R8 := R ga8
    rw [List.map_nil, List.nil_append] at hrq
    run_tac Drv.drive [818]
    refine go_enter rfl ?_
    refine go_perm ((n + 820, lwF w.params ro (n2 + 820) T T2 (T2 + 1) (tlD w.params (n8 + 820) t8 _ v8) 5 sl8) :: (n8 + 821, itO ro (0 : Nat)) :: (ro, lstO (refs rws) er) :: (n8 + 820, lstO (vsP []) 0) :: (n2 + 820, lstO (vsP rq) er8) :: tl2) (perm_at 2 rfl (perm_at 0 rfl (perm_at 2 rfl (perm_at 0 rfl (perm_at 0 rfl (.refl _)))))) ?_
    refine go_perm ((n + 820, lwF w.params ro (n2 + 820) T T2 (T2 + 1) (tlD w.params (n8 + 820) t8 _ v8) 5 sl8) :: (n8 + 821, itO ro (0 : Nat)) :: (ro, lstO (refs rws) er) :: (n8 + 820, lstO (vsP []) 0) :: (rowsL rws ++ ([(n2 + 820, lstO (vsP rq) er8)] ++ []))) (by rw [← htl2]; exact ((((((rot [_] (rowsL rws) []).symm).cons _).cons _).cons _).cons _)) ?_
    refine go_drop _ (List.Sublist.refl _) fun n9 T9 hT9 => ?_
    refine l2_loop ⟨w, h₀, b, ga8, d, os⟩ B hA _ (by exact R8.ret.le rfl rfl) (by exact hκ) _ (n + 820) (n8 + 821) ro er (n2 + 820) (n8 + 820) rws hrw g4 T T2 (T2 + 1) _ rws 0 rfl n9 T9 _ 5 sl8 [] 0 (.inl ⟨_, _, _, rfl, rfl⟩) (fun z => absurd z hrn) (by simpa using hdm) fun n10 T10 tl10 nn10 dq ed10 hT10 htl10 hdq => ?_
    rw [List.map_nil, List.nil_append] at hdq
    have hrd : rq.map Prod.fst = dq.map Prod.fst := by rw [hrq, hdq, hsd]
    refine go_perm ((n + 820, lwF w.params ro (n2 + 820) T T2 (T2 + 1) tl10 nn10 sl8) :: (n2 + 820, lstO (vsP rq) er8) :: (n8 + 820, lstO (vsP dq) ed10) :: (ro, lstO (refs rws) er) :: (rowsL rws ++ [])) (by
      have z := rot [(n2 + 820, lstO (vsP rq) er8)] ((ro, lstO (refs rws) er) :: (n8 + 820, lstO (vsP dq) ed10) :: rowsL rws) []
      refine List.Perm.cons _ ?_
      refine List.Perm.trans ?_ z
      exact (List.Perm.swap _ _ _).cons _) ?_
    have hrql : rq.length < 60 := by
      have := hsm0 sgs.length
      rw [List.take_length, ← hrq] at this
      simpa using this
    have hdql : dq.length = rq.length := by have := congrArg List.length hrd; simpa using this.symm
    have hvl : (vsP rq).length = (vsP dq).length := by unfold vsP; simp [hdql]
    obtain ⟨ta, tb, tc, va, vb, rfl, rfl⟩ := htl10
    · skip
      generalize htl3 : rowsL rws ++ [] = tl3
      run_tac Drv.drive [818, 100016]
      refine go_again (by kernel_rfl) ?_
      refine go_perm ((n2 + 820, lstO (vsP rq) er8) :: (n8 + 820, lstO (vsP dq) ed10) :: _) (((List.Perm.swap _ _ _).cons _).trans (List.Perm.swap _ _ _)) ?_
      refine go_drop _ (List.Sublist.refl _) fun n11 T11 hT11 => ?_
      refine le_loop ⟨w, h₀, b, ga8, d, os⟩ B hA _ (by exact R8.ret.le rfl rfl) (by exact hκ) _ (n2 + 820) (n8 + 820) er8 ed10 rq dq _ g4 3 (.inr rfl) hrd rq 0 rfl n11 T11 _ rfl fun n12 T12 hT12 => ?_
      run_tac Drv.drive [818]
      refine go_perm ((n12 + 820, itO ro (0 : Nat)) :: (n12 + 821, lstO (vsP []) 0) :: (n12 + 822, nsO [] 0) :: (ro, lstO (refs rws) er) :: (n2 + 820, lstO (vsP rq) er8) :: (n8 + 820, lstO (vsP dq) ed10) :: (n + 820, _) :: tl3) (perm_at 2 rfl (perm_at 1 rfl (perm_at 0 rfl (perm_at 3 rfl (.refl _))))) ?_
      refine go_perm ((n12 + 820, itO ro (0 : Nat)) :: (n12 + 821, lstO (vsP []) 0) :: (n12 + 822, nsO [] 0) :: (ro, lstO (refs rws) er) :: (rowsL rws ++ ([(n2 + 820, lstO (vsP rq) er8), (n8 + 820, lstO (vsP dq) ed10), (n + 820, _)] ++ []))) (by rw [← htl3]; exact ((((((rot [_, _, _] (rowsL rws) []).symm).cons _).cons _).cons _).cons _)) ?_
      refine go_drop _ (List.Sublist.refl _) fun n13 T13 hT13 => ?_
      refine comp_c ⟨w, h₀, b, ga8, d, os⟩ B hA _ (by exact R8.ret.le rfl rfl) (by exact hκ) _ (n + 820) (n12 + 822) (n12 + 820) (n12 + 821) ro er rws g4 _ _ _ n13 T13 (fun m => by have := hrm m; (run_tac Drv.lomega)) fun n14 T14 ns14 e14 hT14 hns14 => ?_
      have hf14 : (rws.flatMap fun q => q.2.1).length < 60 := by
        have := hrm rws.length
        rwa [List.take_length] at this
      generalize hfl : (rws.flatMap fun q => q.2.1) = fl at *
      refine go_perm ((n12 + 821, lstO (vsP fl) e14) :: (n2 + 820, lstO (vsP rq) er8) :: (n8 + 820, lstO (vsP dq) ed10) :: (n + 820, _) :: (n12 + 822, ns14) :: (ro, lstO (refs rws) er) :: (rowsL rws ++ [])) ((rot [_, _, _] (_ :: _ :: rowsL rws) []).cons _) ?_
      generalize htl4 : rowsL rws ++ [] = tl4
      refine' go_cut (p := ∀ n15 T15, T14 ≤ T15 → Go ⟨w, h₀, b, ga8, d, os⟩ ⟨_, _, ((n12 + 821, lstO (vsP fl) e14) :: (n2 + 820, lstO (vsP rq) er8) :: (n8 + 820, lstO (vsP dq) ed10) :: (n + 820, lwF w.params ro (n2 + 820) T T2 (T2 + 1) (tlR w.params (n8 + 820) ta tb tc va vb) 6 sl8) :: (ro, lstO (refs rws) er) :: tl4), g4, n15, 820, T15⟩) (fun key => ?_) ?_
      rotate_left 2
      · rcases hns14 with rfl | ⟨tn14, vn14, rfl⟩ | ⟨tn14, vn14, tm14, vm14, rfl⟩
        all_goals
          run_tac Drv.drive [818, 300000]
          refine go_drop ((n12 + 821, lstO (vsP fl) e14) :: (n2 + 820, lstO (vsP rq) er8) :: (n8 + 820, lstO (vsP dq) ed10) :: (n + 820, lwF w.params ro (n2 + 820) T T2 (T2 + 1) (tlR w.params (n8 + 820) ta tb tc va vb) 6 sl8) :: (ro, lstO (refs rws) er) :: tl4) (by repeat (first | exact List.Sublist.refl _ | apply List.Sublist.cons_cons | apply List.Sublist.cons)) fun n15 T15 hT15 => ?_
          exact key n15 T15 (by run_tac Drv.tom)
      · intro n15 T15 hT15
        refine srt_s hf14 fun n16 sd so ed hsp hso => ?_
        run_tac Drv.drive [818, 300000]
        refine go_perm ((n2 + 820, lstO (vsP rq) er8) :: (sd, lstO (vsP so) ed) :: _) (by first | exact perm_at 2 rfl (.refl _) | exact perm_at 3 rfl (.refl _) | exact perm_at 1 rfl (.refl _)) ?_
        refine srt_s hrql fun n17 sd2 so2 ed2 hsp2 hso2 => ?_
        run_tac Drv.drive [818]
        have hl1 : so.length = fl.length := by have := hsp.length_eq; simpa using this
        have hl2 : so2.length = rq.length := by have := hsp2.length_eq; simpa using this
        refine go_perm ((sd, lstO (vsP so) ed) :: (sd2, lstO (vsP so2) ed2) :: (n + 820, _) :: _) (perm_at 2 rfl (perm_at 0 rfl (perm_at 3 rfl (.refl _)))) ?_
        refine go_drop _ (List.Sublist.refl _) fun n18 T18 hT18 => ?_
        refine diff_s ⟨w, h₀, b, ga8, d, os⟩ B hA _ (by exact R8.ret.le rfl rfl) (by exact hκ) _ _ _ n18 T18 sd sd2 ed ed2 so so2 (n + 820) _ _ (by exact frames_ret (X := ⟨w, h₀, b, ga8, d, os⟩) hF) _ g4 _ (by run_tac Drv.tom) (by run_tac Drv.tom) fun n19 T19 tu mo uo mq uq em eu sl19 hT19 hmq huq => ?_
        run_tac Drv.drive [818]
        have hfe : so = [] ↔ so2 = [] := by
          rw [← List.length_eq_zero_iff, ← List.length_eq_zero_iff (l := so2), hl1, hl2]
          have h1 : fl.length = 0 ↔ (texts rws).flatMap id = [] := by rw [texts_flat, hfl, List.map_eq_nil_iff, List.length_eq_zero_iff]
          have h2 : rq.length = 0 ↔ sgs.flatMap (fun s => s.map wcont) = [] := by rw [← hrq, List.map_eq_nil_iff, List.length_eq_zero_iff]
          rw [h1, h2]; exact hem.symm
        refine go_perm ((sd, lstO (vsP so) ed) :: (sd2, lstO (vsP so2) ed2) :: _) (perm_at 3 rfl (perm_at 3 rfl (.refl _))) ?_
        refine go_drop _ (List.Sublist.refl _) fun n20 T20 hT20 => ?_
        refine beyond_s ⟨w, h₀, b, ga8, d, os⟩ B hA _ (by exact R8.ret.le rfl rfl) (by exact hκ) _ sd sd2 ed ed2 so so2 _ g4 _ _ n20 T20 (by run_tac Drv.tom) (by run_tac Drv.tom) (fun z y => z (hfe.mpr y)) fun n21 T21 b1 o1 eb1 hT21 ho1 => ?_
        run_tac Drv.drive [818]
        refine go_perm ((sd2, lstO (vsP so2) ed2) :: (sd, lstO (vsP so) ed) :: _) (perm_at 2 rfl (perm_at 1 rfl (.refl _))) ?_
        refine go_drop _ (List.Sublist.refl _) fun n22 T22 hT22 => ?_
        refine beyond_s ⟨w, h₀, b, ga8, d, os⟩ B hA _ (by exact R8.ret.le rfl rfl) (by exact hκ) _ sd2 sd ed2 ed so2 so _ g4 _ _ n22 T22 (by run_tac Drv.tom) (by run_tac Drv.tom) (fun z y => z (hfe.mp y)) fun n23 T23 b2 o2 eb2 hT23 ho2 => ?_
        refine go_nd fun hnd => ?_
        have hmb : mo ≠ b1 := nd_ne hnd 5 3 rfl rfl (by decide)
        have hub : uo ≠ b2 := nd_ne hnd 6 0 rfl rfl (by decide)
        have hmb' : (Value.ref mo == Value.ref b1) = false := by simpa using hmb
        have hub' : (Value.ref uo == Value.ref b2) = false := by simpa using hub
        have hdb := dif_bey (so.map Prod.fst) (so2.map Prod.fst) hso hso2 (by simpa using hfe)
        rw [List.length_map, List.length_map] at hdb
        rw [hdb, ← ho1] at hmq
        rw [hdb, ← ho2] at huq
        have hvm : (vsP mq).length = (vsP o1).length := by have := congrArg List.length hmq; unfold vsP; simpa using this
        have hvu : (vsP uq).length = (vsP o2).length := by have := congrArg List.length huq; unfold vsP; simpa using this
        run_tac Drv.drive [818, 100016]
        refine go_again (by kernel_rfl) ?_
        refine go_perm ((mo, lstO (vsP mq) em) :: (b1, lstO (vsP o1) eb1) :: _) (by first | exact perm_at 5 rfl (perm_at 3 rfl (.refl _)) | exact perm_at 6 rfl (perm_at 4 rfl (.refl _)) | exact perm_at 4 rfl (perm_at 3 rfl (.refl _))) ?_
        refine go_drop _ (List.Sublist.refl _) fun n24 T24 hT24 => ?_
        refine le_loop ⟨w, h₀, b, ga8, d, os⟩ B hA _ (by exact R8.ret.ret.le rfl rfl) (by exact hκ) _ mo b1 em eb1 mq o1 _ g4 2 (.inl rfl) hmq mq 0 rfl n24 T24 _ rfl fun n25 T25 hT25 => ?_
        run_tac Drv.drive [818, 100016]
        refine go_again (by kernel_rfl) ?_
        refine go_perm ((uo, lstO (vsP uq) eu) :: (b2, lstO (vsP o2) eb2) :: _) (perm_at 7 rfl (perm_at 3 rfl (.refl _))) ?_
        refine go_drop _ (List.Sublist.refl _) fun n26 T26 hT26 => ?_
        refine le_loop ⟨w, h₀, b, ga8, d, os⟩ B hA _ (by exact R8.ret.ret.le rfl rfl) (by exact hκ) _ uo b2 eu eb2 uq o2 _ g4 2 (.inl rfl) huq uq 0 rfl n26 T26 _ rfl fun n27 T27 hT27 => ?_
        run_tac Drv.drive [818, 100016]
        refine go_drop _ (List.Sublist.refl _) fun n28 T28 hT28 => ?_
        exact h ga8 n28 T28 g4 _ hga8
end
end
section
open PySem PySem.W PySem.W.X PySem.Spec PySem.Calls PyProof.Rows
noncomputable def kF : Result → Sem Fin
  | .ok f => .pure (.done f)
  | .error e => .raise e
theorem fin_call {w : World} {c : Code} {Qv : Value → Shared → Prop} {E : Value → Shared → Prop} {s : Shared}
    (H : wpAny (model PW w) callerA (.call c none false [] kF) (fun fin s' => ∃ v, fin = .done (.ret v) ∧ Qv v s') E s) : wpAny (model PW w) callerA (runValue c) Qv E s := by
  refine wpAny_bind ?_
  intro Γ p hΓ
  refine wpCode_mono (fun r s' z => ?_) (H Γ p hΓ)
  cases r with
  | error e => exact z
  | ok f =>
    obtain ⟨v, e, q⟩ := z
    cases e
    exact wpAny_pure q
theorem all_in {h : Heap} : ∀ {K : Frag}, AllIn h K → ∀ p ∈ K, h.get? p.1 = some p.2
  | [], _, p, hp => by cases hp
  | q :: K, H, p, hp => by
    rcases List.mem_cons.mp hp with rfl | hp
    · exact H.1
    · exact all_in H.2 p hp
theorem ints_iv : ∀ {vs : List Value} {ns : List Int}, IntsAre vs ns → ∃ xs : List (Int × Nat), vs = ivP xs
  | _, _, .nil => ⟨[], rfl⟩
  | _, _, .cons n t h => by
    obtain ⟨xs, rfl⟩ := ints_iv h
    exact ⟨(n, t) :: xs, rfl⟩
theorem ads_K (P : Params) : (K P).map Prod.fst = ads.drop 1 := rfl
theorem mem_of {h₀ h : Heap} {g : Array Value} {l : List (Addr × Obj)} {N : Nat} (O : Own h₀ h g l N) (t : h₀.TableAt 750 746 #[]) (e : h₀.get? 746 = some (tableObj #[])) : Mem h₀ h [(746, tableObj g)] [] := by
  refine ⟨fun b o hb hc => ?_, fun p hp => ?_, by simp, fun p hp => (by cases hp), .nil⟩
  · by_cases h746 : b = 746
    · subst h746
      rw [e] at hb
      cases hb
      cases hc
    · exact O.keep b o hb h746
  · rw [List.mem_singleton] at hp
    subst hp
    exact ⟨O.tab, 750, #[], g, t, by rw [Array.empty_append]⟩
/- the call of law -/
theorem law_call (w : World) (s₁ : Shared) (hg : s₁.gens = #[]) (xs : List (Int × Nat)) (e : Nat) (hA : ∀ p ∈ K' w.params, s₁.heap.get? p.1 = some p.2) (hsz : s₁.heap.objs.size = 820) (hscr : s₁.heap.get? 819 = some (scrO xs e))
    (Qv : Value → Shared → Prop) (E : Value → Shared → Prop) (hend : ∀ h ga T g, Mem s₁.heap h [(746, tableObj g)] [] → AllBare ga → Qv (.bool true) ⟨h, ga, s₁.drawn, T, s₁.os⟩) :
    wpAny (model PW w) callerA (runValue (.call (.ref 818) ⟨[.ref 819], []⟩)) Qv E s₁ := by
  have h746 : s₁.heap.get? 746 = some (tableObj #[]) := hA _ (.head _)
  have h750 : s₁.heap.get? 750 = some (o750 w.params) := hA (750, o750 w.params) (.tail _ (List.mem_of_getElem? (i := 48) rfl))
  refine fin_call ?_
  have B : BaseF w.params s₁.heap := ⟨fun p hp => hA p (.tail _ hp), fun p hp => by
    have h1 : p.1 ∈ (K w.params).map Prod.fst := List.mem_map_of_mem hp
    rw [ads_K] at h1
    exact (by decide : ∀ a ∈ ads.drop 1, a ≠ 746) _ h1, hsz⟩
  have O : Own s₁.heap s₁.heap #[] [] (0 + 820) := ⟨fun _ _ z _ => z, h746, fun p hp => (by cases hp), .nil, hsz, Nat.le_refl _⟩
  have t : s₁.heap.TableAt 750 746 #[] := table_at (vs := _) h750 rfl rfl h746 rfl
  have z := law1 w s₁.heap (plainBase (model PW w) callerA (fun fin s' => ∃ v, fin = .done (.ret v) ∧ Qv v s') E) #[] s₁.drawn s₁.os B rfl .base rfl (fun ga => ⟨(by decide : callerA.depth ≤ 320), (by decide : callerA.units ≤ 200)⟩) kF false [] 0 s₁.toks e xs hscr .empty rfl fun ga' n' T' g' l' hga h O' =>
    wpAny_pure ⟨_, rfl, hend h ga' T' g' (mem_of O' t h746) hga⟩
  have y := z s₁.heap O
  obtain ⟨h, ga, d, T, os⟩ := s₁
  cases hg
  exact y
end
end Mine
open PySem PySem.W PySem.W.X PyProof.Rows PySem.Spec PySem.Calls
theorem PySem.Challenge.cw_ny0393_01_holds : PySem.Challenge.rw_ny0393_01.Holds := by
  refine holds_law Mine.said fun said => ?_
  refine holds_openX (q := Mine.q) (loose := Mine.loose) (Xt := fun s => xlAt Mine.q [] s && recOk [] s) (XP := XL Mine.q []) (Yf := obsZ Mine.ads) (Ya := valZ Mine.K' 819 1349) (N := 12000) (Mine.left_of_T Mine.obsT) (fun s e => xl_of s (Bool.and_eq_true_iff.mp e).1) XL.keeps (by rfl) (by rfl) (by rfl) (fun s e => recFacts_of (Bool.and_eq_true_iff.mp e).2) (by rfl) (by first | assumption | decide +kernel) (by decide +kernel) ⟨rfl, rfl, rfl, rfl, rfl, by decide +kernel⟩ ?hw ?hc
  case hw => w_witness2
  intro w s₀ s₁ mg mb G y fa o pm cd doc dV kV ho hd hcd hD hmg hg args vals as L hpre hlay hrd hwl hlo
  clear ho hd hcd hD
  have hmg' : mg (Mine.S "law") = some (.ref fa) := hmg
  clear hmg
  obtain ⟨ZA, ZI, ZN, ZT⟩ := z_facts (K := Mine.K') (fun P => rfl) y
  refine Ground.open G ?_
  intro T B D TE TW
  wrow_args hpre hlay hrd hwl hlo
  rename IntsAre _ _ => hI
  rename Heap.IsList _ _ _ => hL
  obtain ⟨hat, hsz⟩ := script_at L
  have hol := script_obj L hL
  rw [ZN] at hat hsz
  subst hat
  obtain ⟨xs, hxs⟩ := Mine.ints_iv hI
  have hk := Laid.keeps L
  have KX : Frag.In (Mine.K' w.params) s₁.heap := InK.keeps w s₀.heap s₁.heap ZI hk
  have hm2 := mg_of (K := Mine.K' w.params) (n := Mine.S "law") (v := .ref 818) KX T.g (by rfl)
  rw [hmg'] at hm2
  cases hm2
  refine Mine.law_call w s₁ hg xs 0 (fun p hp => hk _ _ (Mine.all_in ZA p hp)) hsz (by rw [hol, hxs]; rfl) _ _ fun h ga T' g D' hga => ?_
  exact x_endG D' (fun _ => rfl) (by wrow_post) hga
