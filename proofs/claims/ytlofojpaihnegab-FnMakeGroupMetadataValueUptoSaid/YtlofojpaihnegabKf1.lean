/- The library for this proof, part 1: trees of function bodies, and what the package's functions do. -/
import Derived.OrdersHeld
import Derived.Scope
import Derived.KernelRfl
import Derived.Tactics
import Derived.Laws.Sem
import Derived.RowKit3
import Derived.Deep.AppendSrc
import Derived.Laws.BytesString
import Derived.Lib.ConvBytes
import Derived.Laws.MakeOwn
import Derived.Lib.AppendZeros
import Derived.Below
import Derived.Lib.Endian
import Derived.Laws.BitsLemmas
import Derived.Laws.Tables
import Derived.OpenShut
import Derived.ChangeSlices
import Derived.LaidSub
import Derived.Shelf.Bin.BEUint16
import Derived.Shelf.Bin.BEUint32
import Derived.Shelf.Bin.BEUint64



namespace Go.Kf

open Go

inductive Tri where
  | nil
  | leaf (k : Nat) (v : Operand)
  | node (l r : Tri)

def Tri.getAt : Nat → Tri → Nat → Nat → Option Operand
  | 0, t, _, key => match t with
    | .leaf k' v => bif Nat.beq k' key then some v else none
    | _ => none
  | f + 1, t, k, key => match t with
    | .node l r => bif Nat.beq (Nat.mod k 2) 0 then getAt f l (Nat.div k 2) key else getAt f r (Nat.div k 2) key
    | _ => none

def Tri.setAt : Nat → Tri → Nat → Nat → Operand → Tri
  | 0, _, _, key, v => .leaf key v
  | f + 1, t, k, key, v => match t with
    | .node l r => bif Nat.beq (Nat.mod k 2) 0 then .node (setAt f l (Nat.div k 2) key v) r else .node l (setAt f r (Nat.div k 2) key v)
    | _ => bif Nat.beq (Nat.mod k 2) 0 then .node (setAt f .nil (Nat.div k 2) key v) .nil else .node .nil (setAt f .nil (Nat.div k 2) key v)

def Tri.get (t : Tri) (k : Nat) : Option Operand := t.getAt 12 k k

def Tri.set (t : Tri) (k : Nat) (v : Operand) : Tri := t.setAt 12 k k v

theorem Tri.getAt_nil : ∀ (f k key : Nat), Tri.getAt f .nil k key = none
  | 0, _, _ => rfl
  | _ + 1, _, _ => rfl

theorem Tri.getAt_setAt : ∀ (f : Nat) (t : Tri) (k key k' key' : Nat) (v x : Operand), Tri.getAt f (Tri.setAt f t k key v) k' key' = some x →
    (key' = key ∧ x = v) ∨ (key' ≠ key ∧ Tri.getAt f t k' key' = some x) ∨ (key' = key ∧ k' ≠ k ∧ Tri.getAt f t k' key' = some x)
  | 0, t, k, key, k', key', v, x, h => by
    simp only [setAt, getAt] at h
    cases hb : Nat.beq key key' with
    | false => rw [hb] at h; cases h
    | true =>
      rw [hb] at h
      injection h with h
      exact .inl ⟨(Nat.eq_of_beq_eq_true hb).symm, h.symm⟩
  | f + 1, t, k, key, k', key', v, x, h => by
    have hmod : ∀ a b : Nat, Nat.beq (Nat.mod a 2) 0 ≠ Nat.beq (Nat.mod b 2) 0 → a ≠ b := fun a b h e => h (by rw [e])
    have hdiv : ∀ a b : Nat, Nat.div a 2 ≠ Nat.div b 2 → a ≠ b := fun a b h e => h (by rw [e])
    have fin : ∀ (t' : Tri), Tri.getAt f (Tri.setAt f t' (Nat.div k 2) key v) (Nat.div k' 2) key' = some x →
        (∀ y, Tri.getAt f t' (Nat.div k' 2) key' = some y → Tri.getAt (f + 1) t k' key' = some y) →
        (key' = key ∧ x = v) ∨ (key' ≠ key ∧ Tri.getAt (f + 1) t k' key' = some x) ∨ (key' = key ∧ k' ≠ k ∧ Tri.getAt (f + 1) t k' key' = some x) := by
      intro t' h1 h2
      rcases getAt_setAt f t' _ key _ key' v x h1 with h | ⟨h, h3⟩ | ⟨h, h4, h3⟩
      · exact .inl h
      · exact .inr (.inl ⟨h, h2 _ h3⟩)
      · exact .inr (.inr ⟨h, hdiv _ _ h4, h2 _ h3⟩)
    have oth : Nat.beq (Nat.mod k' 2) 0 ≠ Nat.beq (Nat.mod k 2) 0 → Tri.getAt (f + 1) t k' key' = some x →
        (key' = key ∧ x = v) ∨ (key' ≠ key ∧ Tri.getAt (f + 1) t k' key' = some x) ∨ (key' = key ∧ k' ≠ k ∧ Tri.getAt (f + 1) t k' key' = some x) := by
      intro h1 h2
      by_cases hk : key' = key
      · exact .inr (.inr ⟨hk, hmod _ _ h1, h2⟩)
      · exact .inr (.inl ⟨hk, h2⟩)
    cases t with
    | node l r =>
      cases hk : Nat.beq (Nat.mod k 2) 0 <;> cases hk' : Nat.beq (Nat.mod k' 2) 0 <;> simp only [setAt, hk, hk', getAt, cond] at h
      · exact fin r h (fun y hy => by simp only [getAt, hk', cond]; exact hy)
      · exact oth (by rw [hk, hk']; simp) (by simp only [getAt, hk', cond]; exact h)
      · exact oth (by rw [hk, hk']; simp) (by simp only [getAt, hk', cond]; exact h)
      · exact fin l h (fun y hy => by simp only [getAt, hk', cond]; exact hy)
    | nil =>
      cases hk : Nat.beq (Nat.mod k 2) 0 <;> cases hk' : Nat.beq (Nat.mod k' 2) 0 <;> simp only [setAt, hk, hk', getAt, cond] at h
      · exact fin .nil h (fun y hy => by rw [getAt_nil] at hy; cases hy)
      · rw [getAt_nil] at h; cases h
      · rw [getAt_nil] at h; cases h
      · exact fin .nil h (fun y hy => by rw [getAt_nil] at hy; cases hy)
    | leaf k0 v0 =>
      cases hk : Nat.beq (Nat.mod k 2) 0 <;> cases hk' : Nat.beq (Nat.mod k' 2) 0 <;> simp only [setAt, hk, hk', getAt, cond] at h
      · exact fin .nil h (fun y hy => by rw [getAt_nil] at hy; cases hy)
      · rw [getAt_nil] at h; cases h
      · rw [getAt_nil] at h; cases h
      · exact fin .nil h (fun y hy => by rw [getAt_nil] at hy; cases hy)

theorem Tri.get_set {t : Tri} {k k' : Nat} {v x : Operand} (h : (t.set k v).get k' = some x) : (k' = k ∧ x = v) ∨ (k' ≠ k ∧ t.get k' = some x) := by
  rcases getAt_setAt 12 t k k k' k' v x h with h | h | ⟨h1, h2, _⟩
  · exact .inl h
  · exact .inr h
  · exact absurd h1 h2

/-- An operand of the text, in terms of what has been named. -/
def look (env : Tri) : Operand → Option Operand
  | .tmp t => env.get t
  | x => some x

def lookAll (env : Tri) : List Operand → Option (List Operand)
  | [] => some []
  | x :: r => match look env x with
    | none => none
    | some y => match lookAll env r with
      | none => none
      | some s => some (y :: s)

def lookParts (env : Tri) : List (Nat × Operand) → Option (List (Nat × Operand))
  | [] => some []
  | x :: r => match look env x.2 with
    | none => none
    | some y => match lookParts env r with
      | none => none
      | some s => some ((x.1, y) :: s)

def lookOpt (env : Tri) : Option Operand → Option (Option Operand)
  | none => some none
  | some x => match look env x with
    | none => none
    | some y => some (some y)

/-- The builtins whose meaning hangs on their operands and operands' types alone. -/
def plainBuiltin : Builtin → Bool
  | .len | .cap | .append | .copy | .min | .max => true
  | _ => false

/-- A bare nil is a bare nil of the text. -/
def keeps (x x' : Operand) : Bool := match x' with
  | .const .nilIface => Region.isConst x
  | _ => true

/-- An operation over what has been named; 'none': not taken. -/
def renOp (env : Tri) : Op → Option Op
  | .pick c a b => match look env c, look env a, look env b with
    | some c, some a, some b => some (.pick c a b)
    | _, _, _ => none
  | .alloc e => some (.alloc e)
  | .box e x => match look env x with
    | some x => some (.box e x)
    | none => none
  | .build t ps => match lookParts env ps.toList with
    | some ps => some (.build t ⟨ps⟩)
    | none => none
  | .buildSlice t n ps => match lookParts env ps.toList with
    | some ps => some (.buildSlice t n ⟨ps⟩)
    | none => none
  | .load t a => match look env a with
    | some a => some (.load t a)
    | none => none
  | .store t a x => match look env a, look env x with
    | some a, some x => some (.store t a x)
    | _, _ => none
  | .nilCheck x => match look env x with
    | some x => some (.nilCheck x)
    | none => none
  | .binOp o t x y u => match look env x, look env y with
    | some x', some y' => bif keeps x x' && keeps y y' then some (.binOp o t x' y' u) else none
    | _, _ => none
  | .unOp o t x => match look env x with
    | some x => some (.unOp o t x)
    | none => none
  | .convert s d x => match look env x with
    | some x => some (.convert s d x)
    | none => none
  | .makeInterface t x => match look env x with
    | some x => some (.makeInterface t x)
    | none => none
  | .makeFunc f a b => match lookAll env a.toList, lookAll env b.toList with
    | some a, some b => some (.makeFunc f ⟨a⟩ ⟨b⟩)
    | _, _ => none
  | .makeMap t r => match lookOpt env r with
    | some r => some (.makeMap t r)
    | none => none
  | .makeSlice t l c => match look env l, look env c with
    | some l, some c => some (.makeSlice t l c)
    | _, _ => none
  | .slice t x l h m => match look env x, lookOpt env l, lookOpt env h, lookOpt env m with
    | some x, some l, some h, some m => some (.slice t x l h m)
    | _, _, _, _ => none
  | .fieldAddr t x f => match look env x with
    | some x => some (.fieldAddr t x f)
    | none => none
  | .field t x f => match look env x with
    | some x => some (.field t x f)
    | none => none
  | .indexAddr t x i => match look env x, look env i with
    | some x, some i => some (.indexAddr t x i)
    | _, _ => none
  | .index t x i => match look env x, look env i with
    | some x, some i => some (.index t x i)
    | _, _ => none
  | .lookup t x i ok => match look env x, look env i with
    | some x, some i => some (.lookup t x i ok)
    | _, _ => none
  | .mapUpdate t m k x => match look env m, look env k, look env x with
    | some m, some k, some x => some (.mapUpdate t m k x)
    | _, _, _ => none
  | .range t x => match look env x with
    | some x => some (.range t x)
    | none => none
  | .next x s => match look env x with
    | some x => some (.next x s)
    | none => none
  | .entry x => match look env x with
    | some x => some (.entry x)
    | none => none
  | .extract x i => match look env x with
    | some x => some (.extract x i)
    | none => none
  | .typeAssert x t u ok => match look env x with
    | some x => some (.typeAssert x t u ok)
    | none => none
  | .call c => match c.callee with
    | .value f => match look env f, lookAll env c.args.toList with
      | some f, some xs => some (.call { callee := .value f, args := ⟨xs⟩, argTypes := #[] })
      | _, _ => none
    | .invoke r m => match look env r, lookAll env c.args.toList with
      | some r, some xs => some (.call { callee := .invoke r m, args := ⟨xs⟩, argTypes := #[] })
      | _, _ => none
    | .builtin b => bif plainBuiltin b then match lookAll env c.args.toList with
        | some xs => some (.call { callee := .builtin b, args := ⟨xs⟩, argTypes := c.argTypes })
        | none => none
      else none
  | _ => none

inductive Tr where
  | stuck
  | ret (rs : List (Operand × Option TypeId))
  | op (o : Op) (c : Option Value) (F : List (Op × Nat)) (k : Tr)
  | pur (o : Op) (c : Option Value) (k : Tr)
  | lok (o : Op) (c : Option Value) (k : Tr)
  | draw (k : Tr)
  | coin (ty : TypeId) (t e : Tr)
  | both (t e : Tr)
  | cond (x : Operand) (t e : Tr)
  | join (l : Nat) (t : Tr) (m : Nat) (k : Tr)
  | loop (l : Nat) (inits : List Operand) (body : Tr)
  | to (l : Nat) (xs : List Operand)

/-- What an operand is, under a naming. -/
def ev (ρ : Nat → Value) : Operand → Value
  | .tmp t => ρ t
  | .const v => v
  | .global g => .pointer (some ⟨g, 0, none⟩)
  | .func f => .func (.func f) #[] #[]

def ext (ρ : Nat → Value) (n : Nat) (vs : List Value) : Nat → Value := fun m => if m < n then ρ m else vs.getD (m - n) undef

def bareOp (o : Op) : Oper := { dst := none, op := o, type := 0, pos := "", after := #[], guard := none }

/-- How an operation went. -/
def Went (P : Program) (K : Value → World → Prop) : Result Next → Prop
  | .ok (.value v) w' => K v w'
  | .ok .skip w' => K undef w'
  | .ok (.enter f args) w' => Calls P f args w' fun e w'' => match e with
    | .returned v => K v w''
    | _ => False
  | .ok (.row row args) w' => Rows P row args w' K
  | _ => False

def runOp (P : Program) (ρ : Nat → Value) (o : Op) (w : World) : Result Next := (execOp (ev ρ) (bareOp o)).run P w

def evRet (rs : List (Operand × Option TypeId)) (ρ : Nat → Value) : List (Value × Option TypeId) := rs.map fun x => (ev ρ x.1, x.2)

def retVals : List (Value × Option TypeId) → Sem (List Value)
  | [] => pure []
  | (v, none) :: r => do pure (v :: (← retVals r))
  | (v, some t) :: r => do
    let x ← loadVar t (← asAddr v)
    pure (x :: (← retVals r))

def oneOf (vs : List Value) : Value := match vs with
  | [v] => v
  | vs => .tuple vs.toArray

/-- Behind a choice that Go leaves open. -/
def coinWorld (ty : TypeId) (b : Bool) (w : World) : World := { w with heap := w.heap.push (.cells #[.bool b] ty), drawn := w.drawn + 1 }

/-- What is to be shown for a tree. -/
def Tr.sem (P : Program) (R : Value → World → Prop) : Tr → List (List Value → World → Prop) → Nat → (Nat → Value) → World → Prop
  | .stuck, _, _, _, _ => False
  | .ret rs, _, _, ρ, w => ∃ vs, (retVals (evRet rs ρ)).run P w = .ok vs w ∧ R (oneOf vs) w
  | .op o c F k, Γ, n, ρ, w => Went P (fun v w' => (∀ u, c = some u → v = u) ∧ (∀ p ∈ F, runOp P ρ p.1 w' = .ok (.value (ρ p.2)) w') ∧ k.sem P R Γ (n + 1) (ext ρ n [v]) w') (runOp P ρ o w)
  | .pur o c k, Γ, n, ρ, w => ∃ v, (∀ w, runOp P ρ o w = .ok (.value v) w) ∧ (∀ u, c = some u → v = u) ∧ k.sem P R Γ (n + 1) (ext ρ n [v]) w
  | .lok o c k, Γ, n, ρ, w => ∃ v, runOp P ρ o w = .ok (.value v) w ∧ (∀ u, c = some u → v = u) ∧ k.sem P R Γ (n + 1) (ext ρ n [v]) w
  | .draw k, Γ, n, ρ, w => k.sem P R Γ n ρ { w with drawn := w.drawn + 1 }
  | .both t e, Γ, n, ρ, w => t.sem P R Γ n ρ w ∧ e.sem P R Γ n ρ w
  | .coin ty t e, Γ, n, ρ, w => P.underlying ty = some .bool ∧ (P.info? ty).map (fun i => (i.zero, i.size)) = some (some (.bool false), 1) ∧
      t.sem P R Γ n ρ (coinWorld ty true w) ∧ e.sem P R Γ n ρ (coinWorld ty false w)
  | .cond x t e, Γ, n, ρ, w => ∃ b, ev ρ x = .bool b ∧ (b = true → t.sem P R Γ n ρ w) ∧ (b = false → e.sem P R Γ n ρ w)
  | .join l t m k, Γ, n, ρ, w => l = Γ.length ∧ ∃ J : List Value → World → Prop, t.sem P R (Γ ++ [J]) n ρ w ∧ ∀ vs w', vs.length = m → J vs w' → k.sem P R Γ (n + m) (ext ρ n vs) w'
  | .loop l inits body, Γ, n, ρ, w => l = Γ.length ∧ ∃ (I : List Value → World → Prop) (μ : List Value → World → Nat), I (inits.map (ev ρ)) w ∧
      ∀ vs w', vs.length = inits.length → I vs w' → body.sem P R (Γ ++ [fun vs' w'' => I vs' w'' ∧ μ vs' w'' < μ vs w']) (n + inits.length) (ext ρ n vs) w'
  | .to l xs, Γ, _, ρ, w => ∃ p, Γ[l]? = some p ∧ p (xs.map (ev ρ)) w

end Go.Kf

namespace Go.Kf

open Go

structure Cfg where
  N : Nat
  results : List ResultVar
  orc : Nat → Option Value

def setDst (C : Cfg) (env : Tri) (dst : Option Tmp) (x : Operand) : Option Tri :=
  match dst with
  | none => some env
  | some d => bif Nat.blt d C.N then some (env.set d x) else none

def foldBin (op : BinOp) (k : IntKind) (a : Int) (k' : IntKind) (b : Int) : Option Operand :=
  bif decide (k = k') then
    match op with
    | .eql => some (.const (.bool (a == b)))
    | .neq => some (.const (.bool (a != b)))
    | .lss => some (.const (.bool (decide (a < b))))
    | .leq => some (.const (.bool (decide (a ≤ b))))
    | .gtr => some (.const (.bool (decide (a > b))))
    | .geq => some (.const (.bool (decide (a ≥ b))))
    | _ => none
  else none

/-- What wants no operation at all. -/
def simple (env : Tri) : Op → Option Operand
  | .move x => look env x
  | .assign x => look env x
  | .pick c a b => match look env c with
    | some (.const (.bool t)) => look env (bif t then a else b)
    | _ => none
  | .binOp op _ x y _ => match look env x, look env y with
    | some (.const (.int k a)), some (.const (.int k' b)) => foldBin op k a k' b
    | _, _ => none
  | .unOp .not _ x => match look env x with
    | some (.const (.bool b)) => some (.const (.bool (!b)))
    | _ => none
  | _ => none

inductive Grd where
  | run
  | skip
  | data (y : Nat) (t : Tmp)
  | bad

def slotOf (ops : Array Oper) (j : Nat) : Option Tmp := match ops[j]? with
  | some o => o.dst
  | none => none

def grd (env : Tri) (ops : Array Oper) (o : Oper) : Grd :=
  match o.guard with
  | none => .run
  | some (j, want) => match slotOf ops j with
    | none => .bad
    | some t => match env.get t with
      | some (.const (.bool b)) => bif b == want then .run else .skip
      | some (.const _) => .skip
      | some (.tmp y) => .data y t
      | _ => .bad

/-- What a fresh name stands for: itself, or what is known of it. -/
def named (n : Nat) : Option Value → Operand
  | some u => .const u
  | none => .tmp n

inductive Stepo where
  | bad
  | silent (env : Tri)
  | event (op : Op) (env : Tri)
  | split (y : Nat) (t : Tmp)

def silently : Option Tri → Stepo
  | some e => .silent e
  | none => .bad

def oneStep (C : Cfg) (ops : Array Oper) (env : Tri) (n : Nat) (o : Oper) : Stepo :=
  match grd env ops o with
  | .bad => .bad
  | .skip => silently (setDst C env o.dst (.const undef))
  | .data y t => .split y t
  | .run => match simple env o.op with
    | some x => silently (setDst C env o.dst x)
    | none => match renOp env o.op with
      | none => .bad
      | some op => match setDst C env o.dst (named n (C.orc n)) with
        | none => .bad
        | some env' => .event op env'

/-- Behind a guard's value that has been asked for: once more. -/
def splitting (s : Tri → Tr) (env : Tri) (y : Nat) (t : Tmp) : Tr :=
  .cond (.tmp y) (s (env.set t (.const (.bool true)))) (s (env.set t (.const (.bool false))))

def execSeq (C : Cfg) (ops : Array Oper) : List Oper → Tri → Nat → (Tri → Nat → Tr) → Tr
  | [], env, n, K => K env n
  | o :: r, env, n, K =>
    match oneStep C ops env n o with
    | .bad => .stuck
    | .silent env' => execSeq C ops r env' n K
    | .event op env' => .op op (C.orc n) [] (execSeq C ops r env' (n + 1) K)
    | .split y t => splitting (fun env1 => match oneStep C ops env1 n o with
      | .silent env' => execSeq C ops r env' n K
      | .event op env' => .op op (C.orc n) [] (execSeq C ops r env' (n + 1) K)
      | _ => .stuck) env y t

/-- An operation that changes nothing: 'some true': its value hangs on its operands alone; 'some false': on memory, too. -/
def quiet : Op → Option Bool
  | .move _ | .assign _ | .pick .. | .build .. | .nilCheck _ | .binOp .. | .unOp .. | .slice .. | .fieldAddr .. | .field .. | .indexAddr .. | .index .. | .extract .. | .makeFunc .. => some true
  | .call { callee := .builtin .len, .. } => some true
  | .load .. => some false
  | _ => none

/-- It is quiet, or it is not carried out. -/
def quietAt (env : Tri) (ops : Array Oper) (i : Nat) : Bool := match ops[i]? with
  | some o => (quiet o.op).isSome || (match grd env ops o with
    | .skip => true
    | _ => false)
  | none => false

def pickQuiet (env : Tri) (ops : Array Oper) (listed : Array Bool) : List Nat → Option Nat
  | [] => none
  | i :: r => bif quietAt env ops i && Region.free .any ops listed i then some i else pickQuiet env ops listed r

def waits (ops : Array Oper) (j i : Nat) : Bool := match ops[j]? with
  | some o => o.after.toList.any fun e => Region.binds .any e && Nat.beq e.on i
  | none => false

/-- Of what was read first: what operation number j does not wait for. -/
def shrink {α : Type} (ops : Array Oper) (j : Nat) (ix : α → Nat) (F : List α) : List α := F.filter fun x => !waits ops j (ix x)

abbrev Read := Op × Nat × Nat

def owed (F : List Read) : List (Op × Nat) := F.map fun x => (x.1, x.2.1)

def Read.ix (x : Read) : Nat := x.2.2

def drawQuiet (C : Cfg) (o : Oper) (n i : Nat) (F : List Read) (rest : Tri → Nat → List Read → Tr) : Stepo → Tr
  | .silent env' => rest env' n F
  | .event op env' => match quiet o.op with
    | some true => .pur op (C.orc n) (rest env' (n + 1) F)
    | some false => .lok op (C.orc n) (rest env' (n + 1) ((op, n, i) :: F))
    | none => .stuck
  | _ => .stuck

/-- F: what is owed behind it. -/
def drawActs (C : Cfg) (n : Nat) (F : List Read) (rest : Tri → Nat → List Read → Tr) : Stepo → Tr
  | .silent env' => rest env' n F
  | .event op env' => .op op (C.orc n) (owed F) (rest env' (n + 1) F)
  | _ => .stuck

def withSplit (env : Tri) (s : Tri → Stepo) (go : Stepo → Tr) : Tr :=
  match s env with
  | .split y t => splitting (fun env1 => go (s env1)) env y t
  | x => go x

/-- Whichever comes next. -/
def alts (g : Nat → Tr) : Nat → List Nat → Tr
  | i, [] => g i
  | i, j :: r => .both (g i) (alts g j r)

def execDraw (C : Cfg) (ops : Array Oper) : Nat → Array Bool → Tri → Nat → List Read → (Tri → Nat → Tr) → Tr
  | 0, listed, env, n, _, K => match Region.ready .any ops listed with
    | [] => K env n
    | _ :: _ => .stuck
  | f + 1, listed, env, n, F, K => match Region.ready .any ops listed with
    | [] => K env n
    | i0 :: rs => match pickQuiet env ops listed (i0 :: rs) with
      | some i => match ops[i]? with
        | none => .stuck
        | some o => withSplit env (fun env1 => oneStep C ops env1 n o) (drawQuiet C o n i F fun env' n' F' => execDraw C ops f (listed.setIfInBounds i true) env' n' F' K)
      | none => alts (fun i => match ops[i]? with
          | none => .stuck
          | some o => withSplit env (fun env1 => oneStep C ops env1 n o) (drawActs C n (shrink ops i Read.ix F) fun env' n' F' => execDraw C ops f (listed.setIfInBounds i true) env' n' F' K)) i0 rs

/-- A choice that Go leaves open (which of two stores into a new variable comes last): the variable's type, the slot of the answer. -/
def coin (ops : Array Oper) : Option (TypeId × Tmp × Tmp) :=
  match ops.toList with
  | [⟨some d, .alloc t, _, _, _, none⟩, ⟨none, .store t1 (.tmp d1) (.const (.bool true)), _, _, _, none⟩, ⟨none, .store t2 (.tmp d2) (.const (.bool false)), _, _, _, none⟩, ⟨some e, .load t3 (.tmp d3), _, _, _, none⟩] =>
    bif Nat.beq t t1 && Nat.beq t t2 && Nat.beq t t3 && Nat.beq d d1 && Nat.beq d d2 && Nat.beq d d3 &&
        (Region.ready .any ops #[false, false, false, false] == [0]) && (Region.ready .any ops #[true, false, false, false] == [1, 2]) && (Region.ready .any ops #[true, true, false, false] == [2]) &&
        (Region.ready .any ops #[true, false, true, false] == [1]) && (Region.ready .any ops #[true, true, true, false] == [3]) && (Region.ready .any ops #[true, true, true, true] == [])
    then some (t, d, e) else none
  | _ => none

def writes : Code → List Tmp
  | .region _ ops _ => ops.toList.filterMap (·.dst)
  | .seq a b => writes a ++ writes b
  | .cond _ a b => writes a ++ writes b
  | .block _ c => writes c
  | .loop c => writes c
  | .scope c => writes c
  | _ => []

/-- The run never comes behind it. -/
def ends : Code → Bool
  | .ret => true
  | .exit _ => true
  | .goto _ => true
  | .seq a b => ends a || ends b
  | .cond _ a b => ends a && ends b
  | _ => false

inductive KI where
  | code (c : Code)
  | blk (id : Nat)
  | scp (body : Code)
  | lp (body : Code) (l : Nat) (slots : List Tmp) (n : Nat) (env : Tri)
  | jn (l : Nat) (slots : List Tmp) (n : Nat) (env : Tri)

def strip : List KI → List Item
  | [] => []
  | .code c :: K => .code c :: strip K
  | .blk id :: K => .inBlock id :: strip K
  | .scp b :: K => .inScope b :: strip K
  | .lp b _ _ _ _ :: K => .inLoop b :: strip K
  | .jn _ _ _ _ :: K => strip K

def exitK (id : Nat) : List KI → Option (List KI)
  | .blk id' :: K => if id' == id then some K else exitK id K
  | _ :: K => exitK id K
  | [] => none

def gotoK (l : Nat) : List KI → Option (List KI)
  | .scp body :: K => match findLabel body l with
    | some rest => some (.code rest :: .scp body :: K)
    | none => gotoK l K
  | _ :: K => gotoK l K
  | [] => none

def addNew (t : Tmp) : List Tmp → List Tmp
  | [] => [t]
  | x :: r => bif Nat.beq x t then x :: r else x :: addNew t r

/-- Of the slots that are written those that hold something already, each once. -/
def carried (env : Tri) : List Tmp → List Tmp → List Tmp
  | [], acc => acc
  | t :: r, acc => match env.get t with
    | some _ => carried env r (addNew t acc)
    | none => carried env r acc

def setMany (env : Tri) : List Tmp → Nat → Tri
  | [], _ => env
  | t :: r, n => setMany (env.set t (.tmp n)) r (n + 1)

def allBelow (N : Nat) : List Tmp → Bool
  | [] => true
  | t :: r => Nat.blt t N && allBelow N r

def retOf (env : Tri) : List ResultVar → Option (List (Operand × Option TypeId))
  | [] => some []
  | .tmp t :: r => match env.get t, retOf env r with
    | some x, some s => some ((x, none) :: s)
    | _, _ => none
  | .cell t ty :: r => match env.get t, retOf env r with
    | some x, some s => some ((x, some ty) :: s)
    | _, _ => none

def mkRet (C : Cfg) (env : Tri) : Tr := match retOf env C.results with
  | some rs => .ret rs
  | none => .stuck

def mkTo (env : Tri) (l : Nat) (slots : List Tmp) : Tr := match lookAll env (slots.map Operand.tmp) with
  | some xs => .to l xs
  | none => .stuck

def exec (C : Cfg) : Nat → List KI → Tri → Nat → Nat → Tr
  | 0, _, _, _, _ => .stuck
  | _ + 1, [], env, _, _ => mkRet C env
  | f + 1, .blk _ :: K, env, d, n => exec C f K env d n
  | f + 1, .scp _ :: K, env, d, n => exec C f K env d n
  | _ + 1, .jn l slots _ _ :: _, env, _, _ => mkTo env l slots
  | _ + 1, .lp _ l slots _ _ :: _, env, _, _ => mkTo env l slots
  | f + 1, .code c :: K, env, d, n => match c with
    | .skip => exec C f K env d n
    | .label _ => exec C f K env d n
    | .ret => mkRet C env
    | .seq a b => exec C f (.code a :: .code b :: K) env d n
    | .block id b => exec C f (.code b :: .blk id :: K) env d n
    | .scope b => exec C f (.code b :: .scp b :: K) env d n
    | .exit id => match exitK id K with
      | some K' => exec C f K' env d n
      | none => .stuck
    | .goto l => match gotoK l K with
      | some K' => exec C f K' env d n
      | none => .stuck
    | .region _ ops draw => match draw with
      | false => execSeq C ops ops.toList env n fun env' n' => exec C f K env' d n'
      | true => match Region.noSelect ops with
        | false => .stuck
        | true => match coin ops with
          | some (t, s, e) => match Nat.blt s C.N && (env.get s).isNone, setDst C env (some e) (.const (.bool true)), setDst C env (some e) (.const (.bool false)) with
            | true, some e1, some e2 => .coin t (exec C f K e1 d n) (exec C f K e2 d n)
            | _, _, _ => .stuck
          | none => .draw (execDraw C ops ops.size (Array.replicate ops.size false) env n [] fun env' n' => exec C f K env' d n')
    | .cond x t e => match look env x with
      | some (.const (.bool b)) => exec C f (.code (bif b then t else e) :: K) env d n
      | some (.tmp y) => match ends t || ends e with
        | true => .cond (.tmp y) (exec C f (.code t :: K) env d n) (exec C f (.code e :: K) env d n)
        | false =>
          match carried env (writes t ++ writes e) [] with
          | sl => match allBelow C.N sl with
            | false => .stuck
            | true => .join d (.cond (.tmp y) (exec C f (.code t :: .jn d sl n env :: K) env (d + 1) n) (exec C f (.code e :: .jn d sl n env :: K) env (d + 1) n)) sl.length
                (exec C f K (setMany env sl n) d (n + sl.length))
      | _ => .stuck
    | .loop b => match carried env (writes b) [] with
      | sl => match allBelow C.N sl with
        | false => .stuck
        | true => match lookAll env (sl.map Operand.tmp) with
          | none => .stuck
          | some xs => .loop d xs (exec C f (.code b :: .lp b d sl n env :: K) (setMany env sl n) (d + 1) (n + sl.length))
    | _ => .stuck

end Go.Kf


namespace Go.Kf

open Go

def opBelow (n : Nat) : Operand → Prop
  | .tmp m => m < n
  | _ => True

theorem opBelow.mono {n n' : Nat} {x : Operand} (h : opBelow n x) (hn : n ≤ n') : opBelow n' x := by
  cases x with
  | tmp m => exact Nat.lt_of_lt_of_le h hn
  | _ => trivial

theorem ev_congr {ρ ρ' : Nat → Value} {n : Nat} {x : Operand} (h : opBelow n x) (he : ∀ m, m < n → ρ' m = ρ m) : ev ρ' x = ev ρ x := by
  cases x <;> simp only [ev]
  exact he _ h

theorem ext_lt {ρ : Nat → Value} {n m : Nat} {vs : List Value} (h : m < n) : ext ρ n vs m = ρ m := by simp [ext, h]

theorem ext_ge {ρ : Nat → Value} {n i : Nat} {vs : List Value} : ext ρ n vs (n + i) = vs.getD i undef := by simp only [ext]; rw [if_neg (by omega)]; congr 1; omega

theorem ext_at {ρ : Nat → Value} {n : Nat} {v : Value} {vs : List Value} : ext ρ n (v :: vs) n = v := by simp [ext]

structure Match (N : Nat) (env : Tri) (ρ : Nat → Value) (n : Nat) (a : Act) : Prop where
  size : a.tmps.size = N
  defs : a.defers = []
  val : ∀ t x, env.get t = some x → a.tmps.getD t undef = ev ρ x
  below : ∀ t x, env.get t = some x → opBelow n x

section

variable {N n n' : Nat} {env env' : Tri} {ρ ρ' : Nat → Value} {a : Act} {C : Cfg}

theorem Match.look (h : Match N env ρ n a) {x y : Operand} (hl : look env x = some y) : a.eval x = ev ρ y := by
  cases x with
  | tmp t => exact h.val t y hl
  | const v => simp only [Kf.look, Option.some.injEq] at hl; subst hl; rfl
  | global g => simp only [Kf.look, Option.some.injEq] at hl; subst hl; rfl
  | func f => simp only [Kf.look, Option.some.injEq] at hl; subst hl; rfl

theorem Match.look_below (h : Match N env ρ n a) {x y : Operand} (hl : Kf.look env x = some y) : opBelow n y := by
  cases x with
  | tmp t => exact h.below t y hl
  | const v => simp only [Kf.look, Option.some.injEq] at hl; subst hl; trivial
  | global g => simp only [Kf.look, Option.some.injEq] at hl; subst hl; trivial
  | func f => simp only [Kf.look, Option.some.injEq] at hl; subst hl; trivial

theorem Match.later (h : Match N env ρ n a) (hn : n ≤ n') (he : ∀ m, m < n → ρ' m = ρ m) : Match N env ρ' n' a :=
  ⟨h.size, h.defs, fun t x hx => by rw [h.val t x hx, ev_congr (h.below t x hx) he], fun t x hx => (h.below t x hx).mono hn⟩

theorem getD_set {tmps : Array Value} {d t : Nat} {v : Value} (hd : d < tmps.size) :
    (tmps.setIfInBounds d v).getD t undef = if t = d then v else tmps.getD t undef := by
  by_cases h : t = d
  · subst h; simp [hd]
  · simp [h, Array.getElem?_setIfInBounds_ne (Ne.symm h)]

theorem Match.set (h : Match N env ρ n a) {dst : Option Tmp} {x : Operand} (hs : setDst C env dst x = some env') (hN : C.N = N) (hn : n ≤ n')
    (he : ∀ m, m < n → ρ' m = ρ m) (hx : opBelow n' x) {v : Value} (hv : ev ρ' x = v) : Match N env' ρ' n' (a.put dst v) := by
  cases dst with
  | none =>
    simp only [setDst, Option.some.injEq] at hs
    subst hs
    exact h.later hn he
  | some d =>
    simp only [setDst] at hs
    cases hb : Nat.blt d C.N with
    | false => rw [hb] at hs; cases hs
    | true =>
      rw [hb] at hs
      simp only [cond, Option.some.injEq] at hs
      subst hs
      have hd : d < a.tmps.size := by
        rw [h.size, ← hN]; exact (Nat.blt_eq ▸ hb : d < C.N)
      refine ⟨by simp [Act.put, h.size], h.defs, fun t y hy => ?_, fun t y hy => ?_⟩
      · simp only [Act.put]
        rw [getD_set hd]
        rcases Tri.get_set hy with ⟨rfl, rfl⟩ | ⟨hne, hy'⟩
        · simp [hv]
        · rw [if_neg hne, h.val t y hy', ev_congr (h.below t y hy') he]
      · rcases Tri.get_set hy with ⟨rfl, rfl⟩ | ⟨hne, hy'⟩
        · exact hx
        · exact (h.below t y hy').mono hn

theorem Match.known (h : Match N env ρ n a) {t : Tmp} {y : Nat} {b : Bool} (ht : env.get t = some (.tmp y)) (hy : ρ y = .bool b) :
    Match N (env.set t (.const (.bool b))) ρ n a := by
  refine ⟨h.size, h.defs, fun s x hx => ?_, fun s x hx => ?_⟩
  · rcases Tri.get_set hx with ⟨rfl, rfl⟩ | ⟨_, hx'⟩
    · rw [h.val s _ ht]; exact hy
    · exact h.val s x hx'
  · rcases Tri.get_set hx with ⟨rfl, rfl⟩ | ⟨_, hx'⟩
    · trivial
    · exact h.below s x hx'

end

theorem lookAll_map {env : Tri} {e1 e2 : Operand → Value} (he : ∀ x y, look env x = some y → e1 x = e2 y) :
    ∀ (xs ys : List Operand), lookAll env xs = some ys → xs.map e1 = ys.map e2
  | [], ys, h => by simp only [lookAll, Option.some.injEq] at h; subst h; rfl
  | x :: r, ys, h => by
    simp only [lookAll] at h
    cases hx : look env x with
    | none => rw [hx] at h; cases h
    | some y =>
      rw [hx] at h
      cases hr : lookAll env r with
      | none => rw [hr] at h; cases h
      | some s =>
        rw [hr] at h
        simp only [Option.some.injEq] at h
        subst h
        simp only [List.map_cons, he x y hx, lookAll_map he r s hr]

theorem lookParts_map {env : Tri} {e1 e2 : Operand → Value} (he : ∀ x y, look env x = some y → e1 x = e2 y) :
    ∀ (xs ys : List (Nat × Operand)), lookParts env xs = some ys → xs.map (fun (i, x) => (i, e1 x)) = ys.map (fun (i, x) => (i, e2 x))
  | [], ys, h => by simp only [lookParts, Option.some.injEq] at h; subst h; rfl
  | x :: r, ys, h => by
    simp only [lookParts] at h
    cases hx : look env x.2 with
    | none => rw [hx] at h; cases h
    | some y =>
      rw [hx] at h
      cases hr : lookParts env r with
      | none => rw [hr] at h; cases h
      | some s =>
        rw [hr] at h
        simp only [Option.some.injEq] at h
        subst h
        simp only [List.map_cons, he x.2 y hx, lookParts_map he r s hr]

theorem lookOpt_map {env : Tri} {e1 e2 : Operand → Value} (he : ∀ x y, look env x = some y → e1 x = e2 y) {x y : Option Operand}
    (h : lookOpt env x = some y) : x.map e1 = y.map e2 := by
  cases x with
  | none => simp only [lookOpt, Option.some.injEq] at h; subst h; rfl
  | some x =>
    simp only [lookOpt] at h
    cases hx : look env x with
    | none => rw [hx] at h; cases h
    | some z =>
      rw [hx] at h
      simp only [Option.some.injEq] at h
      subst h
      simp [he x z hx]

theorem arr_map {α β : Type} {f : α → β} {g : α → β} {xs : Array α} {ys : List α} (h : xs.toList.map f = ys.map g) : xs.map f = (⟨ys⟩ : Array α).map g := by
  apply Array.ext'
  simpa using h

theorem builtin_plain {b : Builtin} (h : plainBuiltin b = true) (at_ : Array TypeId) (t t' : TypeId) (cs cs' : Array Bool) (args : Array Value) :
    builtin b at_ t cs args = builtin b at_ t' cs' args := by
  cases b <;> first | rfl | (simp [plainBuiltin] at h; done)

theorem isConst_keeps {env : Tri} {x x' : Operand} {e2 : Operand → Value} (hl : look env x = some x') (hx : keeps x x' = true) (hc : ∀ v, e2 (.const v) = v)
    (hn : e2 x' = .nilIface) : Region.isConst x = Region.isConst x' := by
  cases x with
  | tmp t =>
    cases x' with
    | const v =>
      rw [hc] at hn
      subst hn
      simp [keeps, Region.isConst] at hx
    | _ => rfl
  | const v => simp only [look, Option.some.injEq] at hl; subst hl; rfl
  | global g => simp only [look, Option.some.injEq] at hl; subst hl; rfl
  | func f => simp only [look, Option.some.injEq] at hl; subst hl; rfl

theorem eqGuard_left {o : BinOp} {t : TypeId} {x y x' : Operand} (h : Region.isConst x = Region.isConst x') :
    eqGuard o t x y .nilIface .nilIface = eqGuard o t x' y .nilIface .nilIface := by
  cases x <;> cases x' <;> first | rfl | (cases h; done)

theorem eqGuard_right {o : BinOp} {t : TypeId} {x y y' : Operand} (h : Region.isConst y = Region.isConst y') :
    eqGuard o t x y .nilIface .nilIface = eqGuard o t x y' .nilIface .nilIface := by
  cases y <;> cases y' <;> first | rfl | (cases h; done)

theorem eqGuard_consts {o : BinOp} {t : TypeId} {x y x' y' : Operand} {a b : Value} (h : a = .nilIface → b = .nilIface → Region.isConst x = Region.isConst x' ∧ Region.isConst y = Region.isConst y') :
    eqGuard o t x y a b = eqGuard o t x' y' a b := by
  by_cases ha : a = .nilIface
  · by_cases hb : b = .nilIface
    · subst ha; subst hb
      obtain ⟨h1, h2⟩ := h rfl rfl
      rw [eqGuard_left h1, eqGuard_right h2]
    · cases b <;> first | (exact absurd rfl hb) | (subst ha; rfl)
  · cases a <;> first | (exact absurd rfl ha) | rfl | (cases b <;> rfl)

theorem renOp_exec {env : Tri} {o : Oper} {op : Op} {e1 e2 : Operand → Value} (h : renOp env o.op = some op)
    (he : ∀ x y, look env x = some y → e1 x = e2 y) (hc : ∀ v, e2 (.const v) = v) : execOp e1 o = execOp e2 (bareOp op) := by
  obtain ⟨dst, oo, ty, pos, after, guard⟩ := o
  cases oo <;> simp only [renOp] at h
  case call c =>
    obtain ⟨callee, args, argTypes⟩ := c
    cases callee with
    | value f =>
      simp only at h
      split at h
      · rename_i f' xs hf hxs
        simp only [Option.some.injEq] at h
        subst h
        simp only [execOp, bareOp, resolve, he _ _ hf, arr_map (lookAll_map he _ _ hxs)]
      · cases h
    | invoke r m =>
      simp only at h
      split at h
      · rename_i f' xs hf hxs
        simp only [Option.some.injEq] at h
        subst h
        simp only [execOp, bareOp, resolve, he _ _ hf, arr_map (lookAll_map he _ _ hxs)]
      · cases h
    | builtin b =>
      simp only at h
      cases hb : plainBuiltin b with
      | false => rw [hb] at h; cases h
      | true =>
        rw [hb] at h
        simp only [cond] at h
        split at h
        · rename_i xs hxs
          simp only [Option.some.injEq] at h
          subst h
          simp only [execOp, bareOp, resolve, arr_map (lookAll_map he _ _ hxs), pure_bind, invoke]
          exact builtin_plain hb _ _ _ _ _ _
        · cases h
  case build t ps =>
    split at h
    · rename_i xs hxs
      simp only [Option.some.injEq] at h
      subst h
      simp only [execOp, bareOp]
      rw [arr_map (lookParts_map he _ _ hxs)]
    · cases h
  case buildSlice t n ps =>
    split at h
    · rename_i xs hxs
      simp only [Option.some.injEq] at h
      subst h
      simp only [execOp, bareOp]
      rw [arr_map (lookParts_map he _ _ hxs)]
    · cases h
  case makeFunc f x y =>
    split at h
    · rename_i xs ys hxs hys
      simp only [Option.some.injEq] at h
      subst h
      simp only [execOp, bareOp]
      rw [arr_map (lookAll_map he _ _ hxs), arr_map (lookAll_map he _ _ hys)]
    · cases h
  case binOp o t x y u =>
    split at h
    · rename_i x' y' hx hy
      cases hk : keeps x x' && keeps y y' with
      | false => rw [hk] at h; cases h
      | true =>
        rw [hk] at h
        simp only [cond, Option.some.injEq] at h
        subst h
        rw [Bool.and_eq_true] at hk
        simp only [execOp, bareOp, he _ _ hx, he _ _ hy]
        rw [eqGuard_consts (x := x) (y := y) (x' := x') (y' := y') fun h1 h2 => ⟨isConst_keeps hx hk.1 hc h1, isConst_keeps hy hk.2 hc h2⟩]
    · cases h
  case next x s =>
    split at h
    · rename_i xs hxs
      simp only [Option.some.injEq] at h
      subst h
      simp only [execOp, bareOp, he _ _ hxs]
      rfl
    · cases h
  all_goals first
    | (cases h; done)
    | (simp only [Option.some.injEq] at h; subst h; rfl)
    | (split at h <;> first
        | (cases h; done)
        | (simp only [Option.some.injEq] at h; subst h; simp only [execOp, bareOp, he _ _ (by assumption)]; done)
        | (simp only [Option.some.injEq] at h; subst h; simp_all only [execOp, bareOp]; simp [he _ _ (by assumption), lookOpt_map he (by assumption)]; done)
        | (rename_i h1 h2; simp only [Option.some.injEq] at h; subst h; simp only [execOp, bareOp, he _ _ h1, he _ _ h2]; done)
        | (rename_i h1 h2 h3; simp only [Option.some.injEq] at h; subst h; simp only [execOp, bareOp, he _ _ h1, he _ _ h2, he _ _ h3]; done)
        | (rename_i h1 h2 h3 h4; simp only [Option.some.injEq] at h; subst h; simp only [execOp, bareOp, he _ _ h1, lookOpt_map he h2, lookOpt_map he h3, lookOpt_map he h4]; done)
        | (rename_i h1; simp only [Option.some.injEq] at h; subst h; simp only [execOp, bareOp, lookOpt_map he h1]; done))

end Go.Kf

namespace Go.Kf

open Go

theorem waits_false {ops : Array Oper} {i j : Nat} {o : Oper} (ho : ops[j]? = some o) (h : ∀ e ∈ o.after, Region.binds .any e = true → e.on ≠ i) :
    waits ops j i = false := by
  unfold waits
  rw [ho]
  simp only [List.any_eq_false]
  intro e he hb
  rw [Bool.and_eq_true] at hb
  exact h e (Array.mem_toList_iff.1 he) hb.1 (Nat.eq_of_beq_eq_true hb.2)

section

variable {P : Program} {ops : Array Oper} {Q : Exit → Act → World → Prop}

abbrev Owes := Nat × (World → Prop)

def Owes.ix (p : Owes) : Nat := p.1

/-- Whatever order is picked from here on; behind each operation the conditions of those that it does not wait for. -/
def wpAnyF (P : Program) (ops : Array Oper) (Q : Exit → Act → World → Prop) : Nat → Array Bool → List Owes → Act → World → Prop
  | 0, listed, _, a, w => Region.ready .any ops listed = [] ∧ Q .normal a w
  | fuel + 1, listed, F, a, w =>
    (Region.ready .any ops listed = [] → Q .normal a w) ∧
    ∀ i ∈ Region.ready .any ops listed, wpOp P ops Q i (fun a' w' => (∀ p ∈ shrink ops i Owes.ix F, p.2 w') ∧ wpAnyF P ops Q fuel (listed.setIfInBounds i true) (shrink ops i Owes.ix F) a' w') a w

theorem wpAny_of_F : ∀ (fuel : Nat) (listed : Array Bool) (F : List Owes) (a : Act) (w : World), wpAnyF P ops Q fuel listed F a w → wpAny P .any ops Q fuel listed a w
  | 0, _, _, _, _, h => h
  | fuel + 1, _, _, _, _, h => ⟨h.1, fun i hi => wpOp_mono (fun a' w' h' => wpAny_of_F fuel _ _ a' w' h'.2) (h.2 i hi)⟩

theorem wpAnyF_less : ∀ (fuel : Nat) (listed : Array Bool) (F F' : List Owes) (a : Act) (w : World), (∀ p ∈ F', p ∈ F) → wpAnyF P ops Q fuel listed F a w → wpAnyF P ops Q fuel listed F' a w
  | 0, _, _, _, _, _, _, h => h
  | fuel + 1, _, F, F', _, _, hs, h => by
    have hs' : ∀ i, ∀ p ∈ shrink ops i Owes.ix F', p ∈ shrink ops i Owes.ix F := fun i p hp => by
      unfold shrink at *
      rw [List.mem_filter] at *
      exact ⟨hs p hp.1, hp.2⟩
    exact ⟨h.1, fun i hi => wpOp_mono (fun a' w' h' => ⟨fun p hp => h'.1 p (hs' i p hp), wpAnyF_less fuel _ _ _ a' w' (hs' i) h'.2⟩) (h.2 i hi)⟩

theorem wpAnyF_first {i : Nat} {oi : Oper} {v : Value} {S : World → Prop} (hi : ops[i]? = some oi)
    (hsel : ∀ (j : Nat) (o : Oper) cs b, ops[j]? = some o → o.op ≠ .select cs b)
    (hQ : ∀ c a w, Q (.panic c) (a.put oi.dst v) w → Q (.panic c) a w) :
    ∀ (fuel : Nat) (listed : Array Bool) (F : List Owes) (a : Act) (w : World),
      (∀ j oj, ops[j]? = some oj → j ≠ i → listed.getD j true = false → (∀ e ∈ oj.after, Region.binds .any e = true → e.on ≠ i) → oi.apart ops oj = true) →
      i ∈ Region.ready .any ops listed → YieldsIf P ops S oi v a → S w → (∀ p ∈ shrink ops i Owes.ix F, p.2 w) →
      wpAnyF P ops Q fuel (listed.setIfInBounds i true) ((i, S) :: F) (a.put oi.dst v) w → wpAnyF P ops Q (fuel + 1) listed F a w := by
  intro fuel
  induction fuel with
  | zero =>
    intro listed F a w _ hr hy hS hF H
    refine ⟨fun h => (by rw [h] at hr; cases hr), fun j hj => ?_⟩
    by_cases hji : j = i
    · subst hji; exact hy.wpOp hi hS ⟨hF, H⟩
    · have := ready_mono hj hji
      rw [H.1] at this
      cases this
  | succ fuel ih =>
    intro listed F a w hfree hr hy hS hF H
    refine ⟨fun h => (by rw [h] at hr; cases hr), fun j hj => ?_⟩
    by_cases hji : j = i
    · subst hji
      exact hy.wpOp hi hS ⟨hF, wpAnyF_less _ _ _ _ _ _ (fun p hp => List.mem_cons_of_mem _ (List.mem_filter.1 hp).1) H⟩
    · have h1 := H.2 j (ready_mono hj hji)
      obtain ⟨hjun, oj, hoj, hall⟩ := mem_ready.1 hj
      have hnot : ∀ e ∈ oj.after, Region.binds .any e = true → e.on ≠ i := fun e he hb heq => by
        have h1 := hall e he hb
        have h0 := (mem_ready.1 hr).1
        rw [heq] at h1
        rcases Nat.lt_or_ge i listed.size with h' | h'
        · simp [h'] at h0 h1; rw [h0] at h1; cases h1
        · simp [Array.getElem?_eq_none h'] at h1
      have hw := waits_false hoj hnot
      have hsh : shrink ops j Owes.ix ((i, S) :: F) = (i, S) :: shrink ops j Owes.ix F := by
        unfold shrink
        rw [List.filter_cons_of_pos]
        simp [Owes.ix, hw]
      rw [hsh] at h1
      have h2 := wpOp_putIf hoj (hfree j oj hoj hji hjun hnot) (fun cs b => hsel i oi cs b hi) (fun cs b => hsel j oj cs b hoj) hQ hy h1
      have hfree' : ∀ k ok, ops[k]? = some ok → k ≠ i → (listed.setIfInBounds j true).getD k true = false →
          (∀ e ∈ ok.after, Region.binds .any e = true → e.on ≠ i) → oi.apart ops ok = true := fun k ok hk hki hun hno => by
        refine hfree k ok hk hki ?_ hno
        by_cases hjk : j = k
        · subst hjk; exact hjun
        · rw [getD_set_ne true hjk] at hun; exact hun
      refine wpOp_mono (fun a' w' h3 => ⟨fun p hp => h3.2.1 p (List.mem_cons_of_mem _ hp), ih (listed.setIfInBounds j true) _ a' w' hfree' (ready_mono hr (Ne.symm hji)) h3.1
        (h3.2.1 (i, S) List.mem_cons_self) (fun p hp => h3.2.1 p (List.mem_cons_of_mem _ (List.mem_filter.1 hp).1)) ?_⟩) h2
      rw [Array.setIfInBounds_comm _ _ hji]
      exact h3.2.2

theorem wpAnyF_take {i : Nat} {oi : Oper} {v : Value} {fuel : Nat} {listed : Array Bool} {F : List Owes} {S : World → Prop} {a : Act} {w : World} (hi : ops[i]? = some oi)
    (hs : Region.noSelect ops = true) (hf : Region.free .any ops listed i = true) (hr : i ∈ Region.ready .any ops listed)
    (hQ : ∀ c a w, Q (.panic c) (a.put oi.dst v) w → Q (.panic c) a w) (hy : YieldsIf P ops S oi v a) (hS : S w) (hF : ∀ p ∈ shrink ops i Owes.ix F, p.2 w)
    (h : wpAnyF P ops Q fuel (listed.setIfInBounds i true) ((i, S) :: F) (a.put oi.dst v) w) : wpAnyF P ops Q (fuel + 1) listed F a w :=
  wpAnyF_first hi (Region.noSelect_spec hs) hQ fuel listed F a w (Region.free_spec hi hf) hr hy hS hF h

theorem wpAnyF_all {rs : List Nat} {fuel : Nat} {listed : Array Bool} {F : List Owes} {a : Act} {w : World} (hr : Region.ready .any ops listed = rs) (hne : rs ≠ [])
    (h : ∀ i ∈ rs, wpOp P ops Q i (fun a' w' => (∀ p ∈ shrink ops i Owes.ix F, p.2 w') ∧ wpAnyF P ops Q fuel (listed.setIfInBounds i true) (shrink ops i Owes.ix F) a' w') a w) : wpAnyF P ops Q (fuel + 1) listed F a w :=
  ⟨fun h0 => absurd (hr ▸ h0) hne, hr ▸ h⟩

theorem wpAnyF_done {listed : Array Bool} {F : List Owes} {a : Act} {w : World} (hr : Region.ready .any ops listed = []) (h : Q .normal a w) :
    ∀ fuel, wpAnyF P ops Q fuel listed F a w
  | 0 => ⟨hr, h⟩
  | _ + 1 => ⟨fun _ => h, by rw [hr]; simp⟩

theorem wp_region_F {id : Nat} {a : Act} {w : World} (hm : P.follows .mixedOrders = true)
    (h : wpAnyF P ops Q ops.size (Array.replicate ops.size false) [] a { w with drawn := w.drawn + 1 }) : (Code.region id ops true).wp P Q a w :=
  wp_region_any hm (wpAny_of_F _ _ _ _ _ h)

end

end Go.Kf

namespace Go.Kf

open Go

section

variable {P : Program} {N n : Nat} {env env' : Tri} {ρ : Nat → Value} {a : Act} {C : Cfg} {ops : Array Oper} {o : Oper}

theorem yielded_of {j t : Nat} {b : Bool} (hs : slotOf ops j = some t) (h : a.tmps.getD t undef = .bool b) : yielded ops a.tmps j = some b := by
  have h1 : (ops[j]?).bind (·.dst) = some t := by
    unfold slotOf at hs
    cases ho : ops[j]? with
    | none => rw [ho] at hs; cases hs
    | some o => rw [ho] at hs; exact hs
  have h2 : a.tmps[t]? = some (.bool b) := by
    rw [Array.getD_eq_getD_getElem?] at h
    cases hx : a.tmps[t]? with
    | none => rw [hx] at h; cases h
    | some v => rw [hx] at h; exact congrArg some h
  unfold yielded
  rw [h1]
  show (match a.tmps[t]? with | some (.bool b) => some b | _ => none) = some b
  rw [h2]

theorem yielded_none {j t : Nat} (hs : slotOf ops j = some t) (h : ∀ b, a.tmps.getD t undef = .bool b → False) : yielded ops a.tmps j = none := by
  have h1 : (ops[j]?).bind (·.dst) = some t := by
    unfold slotOf at hs
    cases ho : ops[j]? with
    | none => rw [ho] at hs; cases hs
    | some o => rw [ho] at hs; exact hs
  unfold yielded
  rw [h1]
  show (match a.tmps[t]? with | some (.bool b) => some b | _ => none) = none
  cases hx : a.tmps[t]? with
  | none => rfl
  | some v =>
    rw [Array.getD_eq_getD_getElem?, hx] at h
    cases v <;> first | rfl | (exact (h _ rfl).elim)

theorem grd_run (hm : Match N env ρ n a) (h : grd env ops o = .run) : Region.wanted o (yielded ops a.tmps) = true := by
  unfold grd at h
  unfold Region.wanted
  cases hg : o.guard with
  | none => rfl
  | some gw =>
    obtain ⟨j, want⟩ := gw
    rw [hg] at h
    simp only at h
    cases hs : slotOf ops j with
    | none => rw [hs] at h; cases h
    | some t =>
      rw [hs] at h
      simp only at h
      split at h
      · rename_i b hb
        have hy := yielded_of hs ((hm.val t _ hb).trans rfl)
        simp only [hy]
        cases b <;> cases want <;> first | rfl | (cases h; done)
      · cases h
      · cases h
      · cases h

theorem grd_skip (hm : Match N env ρ n a) (h : grd env ops o = .skip) : Region.wanted o (yielded ops a.tmps) = false := by
  unfold grd at h
  unfold Region.wanted
  cases hg : o.guard with
  | none => rw [hg] at h; cases h
  | some gw =>
    obtain ⟨j, want⟩ := gw
    rw [hg] at h
    simp only at h
    cases hs : slotOf ops j with
    | none => rw [hs] at h; cases h
    | some t =>
      rw [hs] at h
      simp only at h
      split at h
      · rename_i b hb
        have hy := yielded_of hs ((hm.val t _ hb).trans rfl)
        simp only [hy]
        cases b <;> cases want <;> first | rfl | (cases h; done)
      · rename_i v hnb hv
        have hy := yielded_none hs fun b hb => hnb b ((hm.val t _ hv).symm.trans hb)
        simp only [hy]
        rfl
      · cases h
      · cases h

theorem grd_data {y t : Nat} (h : grd env ops o = .data y t) : env.get t = some (.tmp y) ∧ ∃ j, slotOf ops j = some t := by
  unfold grd at h
  cases hg : o.guard with
  | none => rw [hg] at h; cases h
  | some gw =>
    obtain ⟨j, want⟩ := gw
    rw [hg] at h
    simp only at h
    cases hs : slotOf ops j with
    | none => rw [hs] at h; cases h
    | some s =>
      rw [hs] at h
      simp only at h
      split at h
      · rename_i b hb
        cases b <;> cases want <;> cases h
      · cases h
      · rename_i y' hy
        injection h with h1 h2
        subst h1; subst h2
        exact ⟨hy, j, hs⟩
      · cases h

theorem foldBin_run {op : BinOp} {k k' : IntKind} {p q : Int} {x : Operand} (h : foldBin op k p k' q = some x) (t : TypeId) (x0 y0 : Operand) (w : World) :
    (do eqGuard op t x0 y0 (.int k p) (.int k' q); binOp op t (.int k p) (.int k' q) : Sem Value).run P w = .ok (ev ρ x) w := by
  unfold foldBin at h
  by_cases hk : k = k'
  · subst hk
    rw [decide_eq_true rfl] at h
    simp only [cond] at h
    cases op <;> simp only [Option.some.injEq] at h <;> first
      | (subst h; simp [eqGuard, binOp, Op.intCmp, ev]; done)
      | (cases h; done)
  · rw [decide_eq_false hk] at h
    cases h

theorem foldBin_const {op : BinOp} {k k' : IntKind} {p q : Int} {x : Operand} (h : foldBin op k p k' q = some x) : ∃ c, x = .const (.bool c) := by
  unfold foldBin at h
  by_cases hk : k = k'
  · rw [decide_eq_true hk] at h
    simp only [cond] at h
    cases op <;> simp only [Option.some.injEq] at h <;> first
      | exact ⟨_, h.symm⟩
      | (cases h; done)
  · rw [decide_eq_false hk] at h
    cases h

theorem simple_run (hm : Match N env ρ n a) {x : Operand} (h : simple env o.op = some x) (w : World) :
    (execOp a.eval o).run P w = .ok (.value (ev ρ x)) w ∧ opBelow n x := by
  obtain ⟨dst, oo, ty, pos, after, guard⟩ := o
  cases oo <;> simp only [simple] at h
  case move y => exact ⟨by simp only [execOp]; rw [hm.look h]; rfl, hm.look_below h⟩
  case assign y => exact ⟨by simp only [execOp]; rw [hm.look h]; rfl, hm.look_below h⟩
  case pick c p q =>
    split at h
    · rename_i t hc
      refine ⟨?_, hm.look_below h⟩
      simp only [execOp]
      rw [hm.look hc]
      cases t <;> simp only [cond] at h <;> simp [ev, asBool, hm.look h]
    · cases h
  case binOp op t x0 y0 u =>
    split at h
    · rename_i k p k' q hx hy
      have hb : opBelow n x := by
        obtain ⟨c, rfl⟩ := foldBin_const h
        trivial
      refine ⟨?_, hb⟩
      simp only [execOp]
      rw [hm.look hx, hm.look hy]
      have := foldBin_run (P := P) (ρ := ρ) h t x0 y0 w
      simp only [ev]
      simp only [Sem.run_bind] at this ⊢
      rw [this]
      rfl
    · cases h
  case unOp op t x0 =>
    cases op <;> simp only at h
    case not =>
      split at h
      · rename_i b hx
        simp only [Option.some.injEq] at h
        subst h
        refine ⟨?_, trivial⟩
        simp only [execOp]
        rw [hm.look hx]
        simp [ev, Op.unary]
      · cases h
    all_goals cases h
  all_goals cases h

/-- 'silent': the operation yields its value in whatever world, and the state goes on matching. -/
theorem oneStep_silent (hm : Match N env ρ n a) (hN : C.N = N) (h : oneStep C ops env n o = .silent env') :
    ∃ v, YieldsIf P ops (fun _ => True) o v a ∧ Match N env' ρ n (a.put o.dst v) := by
  unfold oneStep at h
  cases hg : grd env ops o with
  | bad => rw [hg] at h; cases h
  | data y t => rw [hg] at h; cases h
  | skip =>
    rw [hg] at h
    simp only at h
    cases hs : setDst C env o.dst (.const undef) with
    | none => rw [hs] at h; cases h
    | some e =>
      rw [hs] at h
      simp only [silently, Stepo.silent.injEq] at h
      subst h
      exact ⟨undef, .inr ⟨grd_skip hm hg, rfl⟩, hm.set hs hN (Nat.le_refl _) (fun _ _ => rfl) trivial rfl⟩
  | run =>
    rw [hg] at h
    simp only at h
    cases hx : simple env o.op with
    | none =>
      rw [hx] at h
      simp only at h
      split at h
      · cases h
      · split at h <;> cases h
    | some x =>
      rw [hx] at h
      simp only at h
      cases hs : setDst C env o.dst x with
      | none => rw [hs] at h; cases h
      | some e =>
        rw [hs] at h
        simp only [silently, Stepo.silent.injEq] at h
        subst h
        exact ⟨ev ρ x, .inl ⟨grd_run hm hg, fun w _ => (simple_run hm hx w).1⟩, hm.set hs hN (Nat.le_refl _) (fun _ _ => rfl) (simple_run (P := P) hm hx default).2 rfl⟩

/-- 'event': the operation is wanted, is what its renamed twin is, and behind it the state matches. -/
theorem oneStep_event {op : Op} (hm : Match N env ρ n a) (hN : C.N = N) (h : oneStep C ops env n o = .event op env') :
    Region.wanted o (yielded ops a.tmps) = true ∧ (∀ ρ' : Nat → Value, (∀ m, m < n → ρ' m = ρ m) → execOp (ev ρ') (bareOp op) = execOp a.eval o) ∧
      ∀ v, (∀ u, C.orc n = some u → v = u) → Match N env' (ext ρ n [v]) (n + 1) (a.put o.dst v) := by
  unfold oneStep at h
  cases hg : grd env ops o with
  | bad => rw [hg] at h; cases h
  | data y t => rw [hg] at h; cases h
  | skip =>
    rw [hg] at h
    simp only at h
    cases hs : setDst C env o.dst (.const undef) with
    | none => rw [hs] at h; cases h
    | some e => rw [hs] at h; cases h
  | run =>
    rw [hg] at h
    simp only at h
    cases hx : simple env o.op with
    | some x =>
      rw [hx] at h
      simp only at h
      cases hs : setDst C env o.dst x with
      | none => rw [hs] at h; cases h
      | some e => rw [hs] at h; cases h
    | none =>
      rw [hx] at h
      simp only at h
      cases hr : renOp env o.op with
      | none => rw [hr] at h; cases h
      | some op' =>
        rw [hr] at h
        simp only at h
        cases hs : setDst C env o.dst (named n (C.orc n)) with
        | none => rw [hs] at h; cases h
        | some e =>
          rw [hs] at h
          simp only [Stepo.event.injEq] at h
          obtain ⟨rfl, rfl⟩ := h
          refine ⟨grd_run hm hg, fun ρ' hρ => ?_, fun v hv => ?_⟩
          · refine (renOp_exec hr (fun x y hy => ?_) (fun _ => rfl)).symm
            rw [hm.look hy, ev_congr (hm.look_below hy) hρ]
          · refine hm.set hs hN (Nat.le_succ _) (fun m hlt => ext_lt hlt) ?_ ?_
            · cases hc : C.orc n <;> simp [named, opBelow]
            · cases hc : C.orc n with
              | none => simp [named, ev, ext_at]
              | some u => simp only [named, ev]; exact (hv u hc).symm

theorem oneStep_split {y t : Nat} (h : oneStep C ops env n o = .split y t) : env.get t = some (.tmp y) ∧ ∃ j, slotOf ops j = some t := by
  unfold oneStep at h
  cases hg : grd env ops o with
  | bad => rw [hg] at h; cases h
  | data y' t' =>
    rw [hg] at h
    simp only [Stepo.split.injEq] at h
    obtain ⟨rfl, rfl⟩ := h
    exact grd_data hg
  | skip =>
    rw [hg] at h
    simp only at h
    cases hs : setDst C env o.dst (.const undef) with
    | none => rw [hs] at h; cases h
    | some e => rw [hs] at h; cases h
  | run =>
    rw [hg] at h
    simp only at h
    cases hx : simple env o.op with
    | some x =>
      rw [hx] at h
      simp only at h
      cases hs : setDst C env o.dst x with
      | none => rw [hs] at h; cases h
      | some e => rw [hs] at h; cases h
    | none =>
      rw [hx] at h
      simp only at h
      split at h
      · cases h
      · split at h <;> cases h

/-- How an operation went, for the machine. -/
theorem went_wp {K : Value → World → Prop} {next : Act → World → Prop} {Q : Exit → Act → World → Prop} {w : World} (h : Went P K ((execOp a.eval o).run P w))
    (hk : ∀ v w', K v w' → next (a.put o.dst v) w') : o.wp P a w next Q := by
  unfold Oper.wp
  generalize (execOp a.eval o).run P w = r at *
  cases r with
  | halt x w' => exact h.elim
  | ok x w' =>
    cases x <;> simp only [Went] at h <;> simp only [Oper.upon] <;> first
      | exact hk _ _ h
      | exact h.elim
      | (refine Calls.mono h fun e w'' he => ?_
         cases e with
         | returned v => exact hk _ _ he
         | panicked c => exact he.elim
         | outgrown => exact he.elim)
      | exact Rows.mono h fun v w'' he => hk _ _ he

end

end Go.Kf


namespace Go.Kf

open Go

/-- From a list of items to the function's end. -/
def Runs (P : Program) (f : FuncId) (R : Value → World → Prop) (k : List Item) (a : Act) (w : World) : Prop :=
  ∀ cs, ∃ v w' fr, R v w' ∧ Steps P (lone (({ (default : Frame) with fn := f, kind := .normal } : Frame).at a k) cs w) (lone fr cs w') ∧ fr.fn = f ∧ fr.leaving P w' (.returned v)

section

variable {P : Program} {f : FuncId} {R : Value → World → Prop} {a : Act} {w : World}

theorem Runs.step {k k' : List Item} {a' : Act} {w' : World}
    (h : ∀ cs, step P (lone (({ (default : Frame) with fn := f, kind := .normal } : Frame).at a k) cs w) = .next (lone (({ (default : Frame) with fn := f, kind := .normal } : Frame).at a' k') cs w'))
    (hr : Runs P f R k' a' w') : Runs P f R k a w := fun cs =>
  let ⟨v, w'', fr, r, s, rest⟩ := hr cs
  ⟨v, w'', fr, r, .head (h cs) s, rest⟩

theorem Runs.wp {c : Code} {k : List Item} (h : c.wp P (fun e a' w' => e = .normal ∧ Runs P f R k a' w') a w) : Runs P f R (.code c :: k) a w := fun cs => by
  obtain ⟨e, a', w', ⟨rfl, hq⟩, harr⟩ := h { (default : Frame) with fn := f, kind := .normal } k cs
  obtain ⟨v, w'', fr, r, s, rest⟩ := hq cs
  exact ⟨v, w'', fr, r, Steps.trans harr s, rest⟩

theorem calls_of_runs {fn : Func} {c : Code} {args : Array Value} (hf : P.funcs[f]? = some fn) (hb : fn.body = some c)
    (h : Runs P f R [.code c] { tmps := args ++ Array.replicate (fn.ntmps - args.size) undef, defers := [] } w) :
    Calls P f args w fun e w' => match e with
      | .returned v => R v w'
      | _ => False := fun cs => by
  have henter : Frame.enter P f args .normal =
      ({ (default : Frame) with fn := f, kind := .normal } : Frame).at { tmps := args ++ Array.replicate (fn.ntmps - args.size) undef, defers := [] } [.code c] := by
    simp [Frame.enter, Frame.at, hf, hb]
  obtain ⟨v, w', fr, hR, hs, hfn, hl⟩ := h cs
  rw [← henter] at hs
  exact ⟨.returned v, w', fr, hR, hs, hfn, hl⟩

theorem retOf_run {N n : Nat} {env : Tri} {ρ : Nat → Value} (hm : Match N env ρ n a) : ∀ (l : List ResultVar) (rs : List (Operand × Option TypeId)), retOf env l = some rs →
    (l.mapM fun r : ResultVar => match r with
      | .tmp t => (pure (a.tmps.getD t undef) : Sem Value)
      | .cell s ty => do loadVar ty (← asAddr (a.tmps.getD s undef))) = retVals (evRet rs ρ)
  | [], rs, h => by simp only [retOf, Option.some.injEq] at h; subst h; rfl
  | .tmp t :: l, rs, h => by
    simp only [retOf] at h
    split at h
    · rename_i x s hx hs
      simp only [Option.some.injEq] at h
      subst h
      have ih := retOf_run hm l s hs
      simp only [List.mapM_cons, ih, pure_bind, hm.val t x hx]
      simp only [evRet, List.map_cons, retVals]
    · cases h
  | .cell t ty :: l, rs, h => by
    simp only [retOf] at h
    split at h
    · rename_i x s hx hs
      simp only [Option.some.injEq] at h
      subst h
      have ih := retOf_run hm l s hs
      simp only [List.mapM_cons, ih, hm.val t x hx]
      simp only [evRet, List.map_cons, retVals, bind_assoc]
    · cases h

theorem results_run {N n : Nat} {env : Tri} {ρ : Nat → Value} {fn : Func} {rs : List (Operand × Option TypeId)} {vs : List Value} {w' : World} (hm : Match N env ρ n a)
    (h : retOf env fn.results.toList = some rs) (hv : (retVals (evRet rs ρ)).run P w = .ok vs w') : (results fn a.tmps).run P w = .ok (oneOf vs) w' := by
  unfold results
  rw [Array.mapM_eq_mapM_toList]
  have e := retOf_run hm _ _ h
  simp only [map_eq_pure_bind, bind_assoc, pure_bind, Sem.run_bind]
  have e2 : (List.mapM (fun x : ResultVar => match x with
      | .tmp t => (pure (a.tmps.getD t undef) : Sem Value)
      | .cell s ty => do loadVar ty (← asAddr (a.tmps.getD s undef))) fn.results.toList).run P w = .ok vs w' := by rw [e]; exact hv
  have e3 : ∀ g : List Value → World → Result Value, ((List.mapM (fun x : ResultVar => match x with
      | .tmp t => (pure (a.tmps.getD t undef) : Sem Value)
      | .cell s ty => do loadVar ty (← asAddr (a.tmps.getD s undef))) fn.results.toList).run P w).andThen g = g vs w' := fun g => by rw [e2]; rfl
  refine (e3 _).trans ?_
  cases vs with
  | nil => rfl
  | cons v r =>
    cases r with
    | nil => rfl
    | cons x r => simp [oneOf]

def markSlots : KI → Option (Nat × List Tmp × Nat × Tri)
  | .jn l sl n env => some (l, sl, n, env)
  | .lp _ l sl n env => some (l, sl, n, env)
  | _ => none

/-- What the marks protect is as it was. -/
def Stays : List KI → List (Nat → Value) → Act → Prop
  | [], _, _ => True
  | i :: K, S, a => match markSlots i with
    | none => Stays K S a
    | some (_, sl, _, env) => match S with
      | [] => False
      | ρ0 :: S => (∀ t x, env.get t = some x → t ∉ sl → a.tmps.getD t undef = ev ρ0 x) ∧ Stays K S a

/-- No mark protects this slot. -/
def FreeOf : List KI → Tmp → Prop
  | [], _ => True
  | i :: K, t => (match markSlots i with
    | none => True
    | some (_, sl, _, env) => env.get t = none ∨ t ∈ sl) ∧ FreeOf K t

def writesI : KI → List Tmp
  | .code c => writes c
  | .scp b => writes b
  | _ => []

def Safe : List KI → Prop
  | [] => True
  | i :: K => (∀ t ∈ writesI i, FreeOf K t) ∧ Safe K

/-- What a join, or a loop, hands on: for each its naming at the time. -/
def Holds (P : Program) (f : FuncId) (R : Value → World → Prop) (N : Nat) (Γ : List (List Value → World → Prop)) : List KI → List (Nat → Value) → Prop
  | [], _ => True
  | i :: K, S => match markSlots i with
    | none => Holds P f R N Γ K S
    | some (l, sl, n0, env0) => match S with
      | [] => False
      | ρ0 :: S => ((∀ t x, env0.get t = some x → opBelow n0 x) ∧ ∃ p, Γ[l]? = some p ∧ ∀ vs w a, vs.length = sl.length → p vs w → Match N (setMany env0 sl n0) (ext ρ0 n0 vs) (n0 + sl.length) a → Stays (i :: K) (ρ0 :: S) a → Runs P f R (strip (i :: K)) a w) ∧
          Holds P f R N Γ K S

variable {N : Nat} {Γ : List (List Value → World → Prop)}

theorem Holds.more {J : List Value → World → Prop} : ∀ {K : List KI} {S : List (Nat → Value)}, Holds P f R N Γ K S → Holds P f R N (Γ ++ [J]) K S
  | [], _, _ => trivial
  | i :: K, S, h => by
    unfold Holds at *
    cases hm : markSlots i with
    | none => rw [hm] at h; exact Holds.more h
    | some x =>
      obtain ⟨l, sl, n0, env0⟩ := x
      rw [hm] at h
      cases S with
      | nil => exact h
      | cons ρ0 S =>
        obtain ⟨⟨h0, p, hp, h1⟩, h2⟩ := h
        refine ⟨⟨h0, p, ?_, h1⟩, Holds.more h2⟩
        have hlt : l < Γ.length := (List.getElem?_eq_some_iff.1 hp).1
        rw [List.getElem?_append_left hlt]
        exact hp

theorem Stays.change : ∀ {K : List KI} {S : List (Nat → Value)} {a a' : Act} (W : List Tmp), Stays K S a → (∀ t ∈ W, FreeOf K t) → (∀ t, t ∉ W → a'.tmps.getD t undef = a.tmps.getD t undef) → Stays K S a'
  | [], _, _, _, _, _, _, _ => trivial
  | i :: K, S, a, a', W, h, hf, he => by
    have hf' : ∀ t ∈ W, FreeOf K t := fun t ht => (hf t ht).2
    unfold Stays at *
    cases hm : markSlots i with
    | none => rw [hm] at h; exact Stays.change W h hf' he
    | some x =>
      obtain ⟨l, sl, n0, env0⟩ := x
      rw [hm] at h
      cases S with
      | nil => exact h
      | cons ρ0 S =>
        refine ⟨fun t x hx hn => ?_, Stays.change W h.2 hf' he⟩
        by_cases ht : t ∈ W
        · have := (hf t ht).1
          rw [hm] at this
          rcases this with h1 | h1
          · rw [hx] at h1; cases h1
          · exact absurd h1 hn
        · rw [he t ht]; exact h.1 t x hx hn

theorem exitK_strip : ∀ (id : Nat) (K K' : List KI), exitK id K = some K' → exitTo id (strip K) = some (strip K')
  | _, [], _, h => by cases h
  | id, .blk id' :: K, K', h => by
    simp only [exitK] at h
    simp only [strip, exitTo]
    split at h
    · rename_i he; rw [if_pos he]; exact congrArg (fun x => some (strip x)) (Option.some.inj h)
    · rename_i he; rw [if_neg he]; exact exitK_strip id K K' h
  | id, .code _ :: K, K', h => by simp only [exitK] at h; simp only [strip, exitTo]; exact exitK_strip id K K' h
  | id, .scp _ :: K, K', h => by simp only [exitK] at h; simp only [strip, exitTo]; exact exitK_strip id K K' h
  | id, .lp _ _ _ _ _ :: K, K', h => by simp only [exitK] at h; simp only [strip, exitTo]; exact exitK_strip id K K' h
  | id, .jn _ _ _ _ :: K, K', h => by simp only [exitK] at h; simp only [strip]; exact exitK_strip id K K' h

theorem exitK_keeps {a : Act} : ∀ (id : Nat) (K K' : List KI) (S : List (Nat → Value)), exitK id K = some K' → Holds P f R N Γ K S → Stays K S a → Safe K →
    ∃ S', Holds P f R N Γ K' S' ∧ Stays K' S' a ∧ Safe K'
  | _, [], _, _, h, _, _, _ => by cases h
  | id, i :: K, K', S, h, hh, hs, hf => by
    have hf' : Safe K := hf.2
    have pass : (∃ S1, Holds P f R N Γ K S1 ∧ Stays K S1 a) := by
      unfold Holds at hh
      unfold Stays at hs
      cases hm : markSlots i with
      | none => rw [hm] at hh hs; exact ⟨S, hh, hs⟩
      | some x =>
        obtain ⟨l, sl, n0, env0⟩ := x
        rw [hm] at hh hs
        cases S with
        | nil => exact hh.elim
        | cons ρ0 S => exact ⟨S, hh.2, hs.2⟩
    obtain ⟨S1, hh1, hs1⟩ := pass
    cases i with
    | blk id' =>
      simp only [exitK] at h
      split at h
      · cases h; exact ⟨S1, hh1, hs1, hf'⟩
      · exact exitK_keeps id K K' S1 h hh1 hs1 hf'
    | code c => simp only [exitK] at h; exact exitK_keeps id K K' S1 h hh1 hs1 hf'
    | scp c => simp only [exitK] at h; exact exitK_keeps id K K' S1 h hh1 hs1 hf'
    | lp b l sl n0 env0 => simp only [exitK] at h; exact exitK_keeps id K K' S1 h hh1 hs1 hf'
    | jn l sl n0 env0 => simp only [exitK] at h; exact exitK_keeps id K K' S1 h hh1 hs1 hf'

theorem findLabel_writes : ∀ (c : Code) (l : Nat) (rest : Code), findLabel c l = some rest → ∀ t ∈ writes rest, t ∈ writes c
  | .seq x y, l, rest, h => by
    simp only [findLabel] at h
    intro t ht
    cases hx : findLabel x l with
    | some r =>
      rw [hx] at h
      simp only [Option.some.injEq] at h
      subst h
      simp only [writes, List.mem_append] at ht ⊢
      rcases ht with ht | ht
      · exact .inl (findLabel_writes x l r hx t ht)
      · exact .inr ht
    | none =>
      rw [hx] at h
      simp only [writes, List.mem_append]
      exact .inr (findLabel_writes y l rest h t ht)
  | .label l', l, rest, h => by
    simp only [findLabel] at h
    split at h
    · cases h; intro t ht; cases ht
    · cases h
  | .skip, _, _, h | .region .., _, _, h | .cond .., _, _, h | .block .., _, _, h | .loop _, _, _, h | .rangeFunc .., _, _, h | .exit _, _, _, h | .scope _, _, _, h
  | .goto _, _, _, h | .ret, _, _, h | .refuse _, _, _, h => by simp only [findLabel] at h; cases h

theorem gotoK_strip : ∀ (l : Nat) (K K' : List KI), gotoK l K = some K' → gotoIn l (strip K) = some (strip K')
  | _, [], _, h => by cases h
  | l, .scp b :: K, K', h => by
    simp only [gotoK] at h
    simp only [strip, gotoIn]
    cases hl : findLabel b l with
    | some rest => rw [hl] at h; cases h; rfl
    | none => rw [hl] at h; exact gotoK_strip l K K' h
  | l, .blk _ :: K, K', h => by simp only [gotoK] at h; simp only [strip, gotoIn]; exact gotoK_strip l K K' h
  | l, .code _ :: K, K', h => by simp only [gotoK] at h; simp only [strip, gotoIn]; exact gotoK_strip l K K' h
  | l, .lp _ _ _ _ _ :: K, K', h => by simp only [gotoK] at h; simp only [strip, gotoIn]; exact gotoK_strip l K K' h
  | l, .jn _ _ _ _ :: K, K', h => by simp only [gotoK] at h; simp only [strip]; exact gotoK_strip l K K' h

theorem gotoK_keeps {a : Act} : ∀ (l : Nat) (K K' : List KI) (S : List (Nat → Value)), gotoK l K = some K' → Holds P f R N Γ K S → Stays K S a → Safe K →
    ∃ S', Holds P f R N Γ K' S' ∧ Stays K' S' a ∧ Safe K'
  | _, [], _, _, h, _, _, _ => by cases h
  | id, i :: K, K', S, h, hh, hs, hf => by
    have hf' : Safe K := hf.2
    have pass : (∃ S1, Holds P f R N Γ K S1 ∧ Stays K S1 a) := by
      unfold Holds at hh
      unfold Stays at hs
      cases hm : markSlots i with
      | none => rw [hm] at hh hs; exact ⟨S, hh, hs⟩
      | some x =>
        obtain ⟨l, sl, n0, env0⟩ := x
        rw [hm] at hh hs
        cases S with
        | nil => exact hh.elim
        | cons ρ0 S => exact ⟨S, hh.2, hs.2⟩
    obtain ⟨S1, hh1, hs1⟩ := pass
    cases i with
    | scp b =>
      simp only [gotoK] at h
      cases hl : findLabel b id with
      | some rest =>
        rw [hl] at h
        cases h
        refine ⟨S1, hh1, hs1, fun t ht => ⟨trivial, hf.1 t (findLabel_writes b id rest hl t ht)⟩, hf⟩
      | none => rw [hl] at h; exact gotoK_keeps id K K' S1 h hh1 hs1 hf'
    | code c => simp only [gotoK] at h; exact gotoK_keeps id K K' S1 h hh1 hs1 hf'
    | blk c => simp only [gotoK] at h; exact gotoK_keeps id K K' S1 h hh1 hs1 hf'
    | lp b l sl n0 env0 => simp only [gotoK] at h; exact gotoK_keeps id K K' S1 h hh1 hs1 hf'
    | jn l sl n0 env0 => simp only [gotoK] at h; exact gotoK_keeps id K K' S1 h hh1 hs1 hf'

theorem setMany_get : ∀ (sl : List Tmp) (env : Tri) (n t : Nat) (x : Operand), (setMany env sl n).get t = some x → (∃ i, sl[i]? = some t ∧ x = .tmp (n + i)) ∨ (t ∉ sl ∧ env.get t = some x)
  | [], _, _, _, _, h => .inr ⟨by simp, h⟩
  | s :: r, env, n, t, x, h => by
    rcases setMany_get r (env.set s (.tmp n)) (n + 1) t x h with ⟨i, hi, hx⟩ | ⟨hn, hx⟩
    · exact .inl ⟨i + 1, by simpa using hi, by rw [hx, show n + 1 + i = n + (i + 1) from by omega]⟩
    · rcases Tri.get_set hx with ⟨rfl, rfl⟩ | ⟨hne, hx'⟩
      · exact .inl ⟨0, by simp, rfl⟩
      · exact .inr ⟨by simp [hne, hn], hx'⟩

theorem lookAll_len {env : Tri} : ∀ (l xs : List Operand), lookAll env l = some xs → xs.length = l.length
  | [], xs, h => by simp only [lookAll, Option.some.injEq] at h; subst h; rfl
  | x :: r, xs, h => by
    simp only [lookAll] at h
    cases hx : look env x with
    | none => rw [hx] at h; cases h
    | some y =>
      rw [hx] at h
      cases hr : lookAll env r with
      | none => rw [hr] at h; cases h
      | some s => rw [hr] at h; simp only [Option.some.injEq] at h; subst h; simp [lookAll_len r s hr]

theorem Match.many {n0 n : Nat} {env env0 : Tri} {ρ ρ0 : Nat → Value} {sl : List Tmp} {xs : List Operand} (hm : Match N env ρ n a) (hx : lookAll env (sl.map Operand.tmp) = some xs)
    (hb : ∀ t x, env0.get t = some x → opBelow n0 x) (hs : ∀ t x, env0.get t = some x → t ∉ sl → a.tmps.getD t undef = ev ρ0 x) :
    Match N (setMany env0 sl n0) (ext ρ0 n0 (xs.map (ev ρ))) (n0 + sl.length) a := by
  have hv : (sl.map Operand.tmp).map a.eval = xs.map (ev ρ) := lookAll_map (fun x y h => hm.look h) _ _ hx
  refine ⟨hm.size, hm.defs, fun t x h => ?_, fun t x h => ?_⟩
  · rcases setMany_get _ _ _ _ _ h with ⟨i, hi, rfl⟩ | ⟨hn, h'⟩
    · simp only [ev]
      rw [ext_ge, ← hv]
      have : ((sl.map Operand.tmp).map a.eval)[i]? = some (a.tmps.getD t undef) := by
        simp only [List.getElem?_map, hi, Option.map_some]; rfl
      rw [List.getD_eq_getElem?_getD, this]; rfl
    · rw [hs t x h' hn, ev_congr (hb t x h') (fun m hlt => ext_lt hlt)]
  · rcases setMany_get _ _ _ _ _ h with ⟨i, hi, rfl⟩ | ⟨hn, h'⟩
    · have : i < sl.length := (List.getElem?_eq_some_iff.1 hi).1
      exact (Nat.add_lt_add_left this n0 : n0 + i < n0 + sl.length)
    · exact (hb t x h').mono (by omega)

theorem mem_addNew {s t : Tmp} : ∀ {l : List Tmp}, t ∈ addNew s l ↔ t = s ∨ t ∈ l
  | [] => by simp [addNew]
  | x :: r => by
    simp only [addNew]
    cases hb : Nat.beq x s with
    | true =>
      have := Nat.eq_of_beq_eq_true hb
      subst this
      simp
    | false =>
      simp only [cond, List.mem_cons, mem_addNew]
      constructor
      · rintro (h | h | h) <;> simp [h]
      · rintro (h | h | h) <;> simp [h]

theorem carried_spec {env : Tri} {t : Tmp} : ∀ (l acc : List Tmp), (t ∈ l ∧ env.get t ≠ none) ∨ t ∈ acc → t ∈ carried env l acc
  | [], acc, h => by
    rcases h with h | h
    · cases h.1
    · exact h
  | s :: r, acc, h => by
    simp only [carried]
    cases hg : env.get s with
    | none =>
      simp only
      refine carried_spec r acc ?_
      rcases h with ⟨h1, h2⟩ | h
      · rcases List.mem_cons.1 h1 with rfl | h1
        · exact absurd hg h2
        · exact .inl ⟨h1, h2⟩
      · exact .inr h
    | some y =>
      simp only
      refine carried_spec r _ ?_
      rcases h with ⟨h1, h2⟩ | h
      · rcases List.mem_cons.1 h1 with rfl | h1
        · exact .inr (mem_addNew.2 (.inl rfl))
        · exact .inl ⟨h1, h2⟩
      · exact .inr (mem_addNew.2 (.inr h))

def dstsOf (ops : Array Oper) : List Tmp := ops.toList.filterMap (·.dst)

theorem put_other {o : Oper} {ops : Array Oper} {t : Tmp} {v : Value} (ho : o ∈ ops.toList) (ht : t ∉ dstsOf ops) : (a.put o.dst v).tmps.getD t undef = a.tmps.getD t undef := by
  cases hd : o.dst with
  | none => rfl
  | some d =>
    have hne : d ≠ t := fun e => ht (List.mem_filterMap.2 ⟨o, ho, by rw [hd, e]⟩)
    simp [Act.put, Array.getElem?_setIfInBounds_ne hne]

variable {C : Cfg} {ops : Array Oper} {Q : Exit → Act → World → Prop} {Kt : Tri → Nat → Tr}

/-- What follows a region: that the rest holds, and that nothing else was written. -/
def Follows (P : Program) (R : Value → World → Prop) (N : Nat) (Γ : List (List Value → World → Prop)) (ops : Array Oper) (Q : Exit → Act → World → Prop) (Kt : Tri → Nat → Tr) (a : Act) : Prop :=
  ∀ env' n' ρ' w' a', (Kt env' n').sem P R Γ n' ρ' w' → Match N env' ρ' n' a' → (∀ t, t ∉ dstsOf ops → a'.tmps.getD t undef = a.tmps.getD t undef) → Q .normal a' w'

theorem Follows.put {o : Oper} {v : Value} (h : Follows P R N Γ ops Q Kt a) (ho : o ∈ ops.toList) : Follows P R N Γ ops Q Kt (a.put o.dst v) :=
  fun env' n' ρ' w' a' h1 h2 h3 => h env' n' ρ' w' a' h1 h2 fun t ht => (h3 t ht).trans (put_other ho ht)

theorem Went.runOp_eq {op : Op} {o : Oper} {n : Nat} {ρ : Nat → Value} (h : ∀ ρ' : Nat → Value, (∀ m, m < n → ρ' m = ρ m) → execOp (ev ρ') (bareOp op) = execOp a.eval o) : runOp P ρ op w = (execOp a.eval o).run P w := by
  unfold runOp; rw [h ρ fun _ _ => rfl]

theorem wp_silent {K : Act → World → Prop} {o : Oper} {v : Value} (hy : YieldsIf P ops (fun _ => True) o v a) (h : K (a.put o.dst v) w) :
    if Region.wanted o (yielded ops a.tmps) = true then o.wp P a w K Q ∨ (o.asks P a w ∧ LetsOut Q) else K (a.put o.dst undef) w := by
  rcases hy with ⟨hw, hr⟩ | ⟨hw, rfl⟩
  · rw [if_pos hw]
    refine .inl ?_
    unfold Oper.wp
    rw [hr w trivial]
    exact h
  · rw [hw, if_neg (by simp)]
    exact h

theorem execSeq_sound (hN : C.N = N) : ∀ (l : List Oper) (env : Tri) (n : Nat) (ρ : Nat → Value) (w : World) (a : Act), (∀ o ∈ l, o ∈ ops.toList) →
    (execSeq C ops l env n Kt).sem P R Γ n ρ w → Match N env ρ n a → Follows P R N Γ ops Q Kt a → wpList P ops Q l a w
  | [], env, n, ρ, w, a, _, h, hm, hf => hf _ _ _ _ _ h hm fun _ _ => rfl
  | o :: r, env, n, ρ, w, a, hl, h, hm, hf => by
    have ho : o ∈ ops.toList := hl o List.mem_cons_self
    have hr : ∀ o ∈ r, o ∈ ops.toList := fun o' h' => hl o' (List.mem_cons_of_mem _ h')
    have silent : ∀ (env1 env' : Tri), Match N env1 ρ n a → oneStep C ops env1 n o = .silent env' → (execSeq C ops r env' n Kt).sem P R Γ n ρ w → wpList P ops Q (o :: r) a w := by
      intro env1 env' hm1 hs h1
      obtain ⟨v, hy, hm'⟩ := oneStep_silent (P := P) hm1 hN hs
      exact wp_silent hy (execSeq_sound hN r env' n ρ w _ hr h1 hm' (hf.put ho))
    have event : ∀ (env1 env' : Tri) (op : Op), Match N env1 ρ n a → oneStep C ops env1 n o = .event op env' →
        (Tr.op op (C.orc n) [] (execSeq C ops r env' (n + 1) Kt)).sem P R Γ n ρ w → wpList P ops Q (o :: r) a w := by
      intro env1 env' op hm1 hs h1
      obtain ⟨hw, he, hm'⟩ := oneStep_event hm1 hN hs
      simp only [Tr.sem] at h1
      rw [Went.runOp_eq he] at h1
      unfold wpList
      rw [if_pos hw]
      exact .inl (went_wp h1 fun v w' hv => execSeq_sound hN r env' (n + 1) _ w' _ hr hv.2.2 (hm' v hv.1) (hf.put ho))
    simp only [execSeq] at h
    cases hs : oneStep C ops env n o with
    | bad => rw [hs] at h; exact h.elim
    | silent env' => rw [hs] at h; exact silent env env' hm hs h
    | event op env' => rw [hs] at h; exact event env env' op hm hs h
    | split y t =>
      rw [hs] at h
      simp only [splitting, Tr.sem] at h
      obtain ⟨b, hb, h1, h2⟩ := h
      have ht := (oneStep_split hs).1
      have hm1 := hm.known ht hb
      cases b with
      | true =>
        have h1 := h1 rfl
        cases hs1 : oneStep C ops (env.set t (.const (.bool true))) n o with
        | bad => rw [hs1] at h1; exact h1.elim
        | silent env' => rw [hs1] at h1; exact silent _ env' hm1 hs1 h1
        | event op env' => rw [hs1] at h1; exact event _ env' op hm1 hs1 h1
        | split y t => rw [hs1] at h1; exact h1.elim
      | false =>
        have h1 := h2 rfl
        cases hs1 : oneStep C ops (env.set t (.const (.bool false))) n o with
        | bad => rw [hs1] at h1; exact h1.elim
        | silent env' => rw [hs1] at h1; exact silent _ env' hm1 hs1 h1
        | event op env' => rw [hs1] at h1; exact event _ env' op hm1 hs1 h1
        | split y t => rw [hs1] at h1; exact h1.elim

/-- What is owed, in the tree and in the run. -/
def FOK (P : Program) (ρ : Nat → Value) (n : Nat) (F : List Read) (FS : List Owes) : Prop :=
  ∀ p ∈ FS, (∀ w, p.2 w) ∨ ∃ x ∈ F, Read.ix x = Owes.ix p ∧ ∀ ρ' : Nat → Value, (∀ m, m < n → ρ' m = ρ m) → ∀ w, runOp P ρ' x.1 w = .ok (.value (ρ' x.2.1)) w → p.2 w

theorem FOK.later {ρ ρ' : Nat → Value} {n n' : Nat} {F : List Read} {FS : List Owes} (h : FOK P ρ n F FS) (hn : n ≤ n') (he : ∀ m, m < n → ρ' m = ρ m) : FOK P ρ' n' F FS :=
  fun p hp => (h p hp).imp id fun ⟨x, hx, hi, h1⟩ =>
    ⟨x, hx, hi, fun ρ'' h2 w hw => h1 ρ'' (fun m hm => (h2 m (Nat.lt_of_lt_of_le hm hn)).trans (he m hm)) w hw⟩

theorem FOK.shrink {ρ : Nat → Value} {n i : Nat} {F : List Read} {FS : List Owes} (h : FOK P ρ n F FS) : FOK P ρ n (Kf.shrink ops i Read.ix F) (Kf.shrink ops i Owes.ix FS) := fun p hp => by
  unfold Kf.shrink at hp ⊢
  rw [List.mem_filter] at hp
  exact (h p hp.1).imp id fun ⟨x, hx, hi, h1⟩ => ⟨x, List.mem_filter.2 ⟨hx, by rw [hi]; exact hp.2⟩, hi, h1⟩

theorem FOK.idle {ρ : Nat → Value} {n i : Nat} {F : List Read} {FS : List Owes} (h : FOK P ρ n F FS) : FOK P ρ n F ((i, fun _ => True) :: FS) := fun p hp => by
  rcases List.mem_cons.1 hp with rfl | hp
  · exact .inl fun _ => trivial
  · exact h p hp

theorem FOK.read {ρ : Nat → Value} {n i : Nat} {x : Read} {F : List Read} {FS : List Owes} {S : World → Prop} (h : FOK P ρ n F FS) (hi : Read.ix x = i)
    (hx : ∀ ρ' : Nat → Value, (∀ m, m < n → ρ' m = ρ m) → ∀ w, runOp P ρ' x.1 w = .ok (.value (ρ' x.2.1)) w → S w) : FOK P ρ n (x :: F) ((i, S) :: FS) := fun p hp => by
  rcases List.mem_cons.1 hp with rfl | hp
  · exact .inr ⟨x, List.mem_cons_self, hi, hx⟩
  · exact (h p hp).imp id fun ⟨y, hy, h1⟩ => ⟨y, List.mem_cons_of_mem _ hy, h1⟩

theorem FOK.paid {ρ : Nat → Value} {n : Nat} {F : List Read} {FS : List Owes} (h : FOK P ρ n F FS) (hp : ∀ p ∈ owed F, runOp P ρ p.1 w = .ok (.value (ρ p.2)) w) : ∀ p ∈ FS, p.2 w := fun p hp' => by
  rcases h p hp' with h1 | ⟨x, hx, _, h1⟩
  · exact h1 w
  · exact h1 ρ (fun _ _ => rfl) w (hp (x.1, x.2.1) (List.mem_map.2 ⟨x, hx, rfl⟩))

theorem pickQuiet_spec {env : Tri} {listed : Array Bool} {i : Nat} : ∀ {rs : List Nat}, pickQuiet env ops listed rs = some i → i ∈ rs ∧ Region.free .any ops listed i = true
  | [], h => by cases h
  | j :: r, h => by
    simp only [pickQuiet] at h
    cases hb : quietAt env ops j && Region.free .any ops listed j with
    | true =>
      rw [hb] at h
      cases h
      rw [Bool.and_eq_true] at hb
      exact ⟨List.mem_cons_self, hb.2⟩
    | false =>
      rw [hb] at h
      obtain ⟨h1, h2⟩ := pickQuiet_spec (rs := r) h
      exact ⟨List.mem_cons_of_mem _ h1, h2⟩

theorem alts_spec {g : Nat → Tr} {n : Nat} {ρ : Nat → Value} : ∀ {i0 : Nat} {rs : List Nat}, (alts g i0 rs).sem P R Γ n ρ w → ∀ i ∈ i0 :: rs, (g i).sem P R Γ n ρ w
  | i0, [], h, i, hi => by
    obtain rfl : i = i0 := by simpa using hi
    exact h
  | i0, j :: r, h, i, hi => by
    rcases List.mem_cons.1 hi with rfl | hi
    · exact h.1
    · exact alts_spec h.2 i hi

theorem execDraw_sound (hN : C.N = N) (hsel : Region.noSelect ops = true) (hQ : ∀ c a w, ¬ Q (.panic c) a w) : ∀ (fuel : Nat) (listed : Array Bool) (env : Tri) (n : Nat) (F : List Read) (FS : List Owes)
    (ρ : Nat → Value) (w : World) (a : Act), (execDraw C ops fuel listed env n F Kt).sem P R Γ n ρ w → Match N env ρ n a → FOK P ρ n F FS → (∀ p ∈ FS, p.2 w) → Follows P R N Γ ops Q Kt a →
    wpAnyF P ops Q fuel listed FS a w
  | 0, listed, env, n, F, FS, ρ, w, a, h, hm, _, _, hf => by
    simp only [execDraw] at h
    cases hr : Region.ready .any ops listed with
    | nil => rw [hr] at h; exact wpAnyF_done hr (hf _ _ _ _ _ h hm fun _ _ => rfl) 0
    | cons i0 rs => rw [hr] at h; exact h.elim
  | fuel + 1, listed, env, n, F, FS, ρ, w, a, h, hm, hF, hS, hf => by
    simp only [execDraw] at h
    cases hr : Region.ready .any ops listed with
    | nil => rw [hr] at h; exact wpAnyF_done hr (hf _ _ _ _ _ h hm fun _ _ => rfl) _
    | cons i0 rs =>
      rw [hr] at h
      simp only at h
      cases hp : pickQuiet env ops listed (i0 :: rs) with
      | some i =>
        rw [hp] at h
        simp only at h
        obtain ⟨hi, hfree⟩ := pickQuiet_spec hp
        rw [← hr] at hi
        cases ho : ops[i]? with
        | none => rw [ho] at h; exact h.elim
        | some o =>
          rw [ho] at h
          simp only at h
          have hmem : o ∈ ops.toList := Array.mem_toList_iff.2 (Array.mem_of_getElem? ho)
          have go : ∀ env1, Match N env1 ρ n a → (drawQuiet C o n i F (fun env' n' F' => execDraw C ops fuel (listed.setIfInBounds i true) env' n' F' Kt) (oneStep C ops env1 n o)).sem P R Γ n ρ w →
              wpAnyF P ops Q (fuel + 1) listed FS a w := by
            intro env1 hm1 h1
            have hsh : ∀ p ∈ Kf.shrink ops i Owes.ix FS, p.2 w := fun p hp => hS p (List.mem_filter.1 hp).1
            cases hs : oneStep C ops env1 n o with
            | bad => rw [hs] at h1; exact h1.elim
            | split y t => rw [hs] at h1; exact h1.elim
            | silent env' =>
              rw [hs] at h1
              obtain ⟨v, hy, hm'⟩ := oneStep_silent (P := P) hm1 hN hs
              refine wpAnyF_take ho hsel hfree hi (fun c a w hq => (hQ c _ w hq).elim) hy trivial hsh ?_
              exact execDraw_sound hN hsel hQ fuel _ env' n F _ ρ w _ h1 hm' hF.idle (fun p hp => by
                rcases List.mem_cons.1 hp with rfl | hp
                · trivial
                · exact hS p hp) (hf.put hmem)
            | event op env' =>
              rw [hs] at h1
              obtain ⟨hw, he, hm'⟩ := oneStep_event hm1 hN hs
              simp only [drawQuiet] at h1
              cases hq : quiet o.op with
              | none => rw [hq] at h1; exact h1.elim
              | some b =>
                rw [hq] at h1
                cases b with
                | true =>
                  simp only [Tr.sem] at h1
                  obtain ⟨v, hv, hc, h2⟩ := h1
                  refine wpAnyF_take (S := fun _ => True) (v := v) ho hsel hfree hi (fun c a w hq => (hQ c _ w hq).elim) (.inl ⟨hw, fun w _ => ?_⟩) trivial hsh ?_
                  · rw [← Went.runOp_eq he]; exact hv w
                  · exact execDraw_sound hN hsel hQ fuel _ env' (n + 1) F _ _ w _ h2 (hm' v hc) ((hF.later (Nat.le_succ n) fun m hlt => ext_lt hlt).idle) (fun p hp => by
                      rcases List.mem_cons.1 hp with rfl | hp
                      · trivial
                      · exact hS p hp) (hf.put hmem)
                | false =>
                  simp only [Tr.sem] at h1
                  obtain ⟨v, hv, hc, h2⟩ := h1
                  refine wpAnyF_take (S := fun w => (execOp a.eval o).run P w = .ok (.value v) w) ho hsel hfree hi (fun c a w hq => (hQ c _ w hq).elim) (.inl ⟨hw, fun w h => h⟩) ?_ hsh ?_
                  · rw [← Went.runOp_eq he]; exact hv
                  · have hlk : (execOp a.eval o).run P w = .ok (.value v) w := by rw [← Went.runOp_eq he]; exact hv
                    refine execDraw_sound hN hsel hQ fuel _ env' (n + 1) ((op, n, i) :: F) _ _ w _ h2 (hm' v hc) ((hF.later (Nat.le_succ n) fun m hlt => ext_lt hlt).read rfl ?_) (fun p hp => by
                      rcases List.mem_cons.1 hp with rfl | hp
                      · exact hlk
                      · exact hS p hp) (hf.put hmem)
                    intro ρ' hρ w' hw'
                    have e1 : ρ' n = v := by rw [hρ n (Nat.lt_succ_self n), ext_at]
                    have e2 : runOp P ρ' op w' = (execOp a.eval o).run P w' := by
                      unfold runOp
                      rw [he ρ' fun m hlt => by rw [hρ m (Nat.lt_succ_of_lt hlt), ext_lt hlt]]
                    simp only [e1] at hw'
                    rw [← e2]; exact hw'
          simp only [withSplit] at h
          cases hs : oneStep C ops env n o with
          | split y t =>
            rw [hs] at h
            simp only [splitting, Tr.sem] at h
            obtain ⟨b, hb, h1, h2⟩ := h
            have hm1 := hm.known (oneStep_split hs).1 hb
            cases b with
            | true => exact go _ hm1 (h1 rfl)
            | false => exact go _ hm1 (h2 rfl)
          | bad => rw [hs] at h; exact go env hm (by rw [hs]; exact h)
          | silent env' => rw [hs] at h; exact go env hm (by rw [hs]; exact h)
          | event op env' => rw [hs] at h; exact go env hm (by rw [hs]; exact h)
      | none =>
        rw [hp] at h
        simp only at h
        refine wpAnyF_all hr (by simp) fun i hi => ?_
        have h := alts_spec (i0 := i0) (rs := rs) h i hi
        cases ho : ops[i]? with
        | none => rw [ho] at h; exact h.elim
        | some o =>
          rw [ho] at h
          simp only at h
          have hmem : o ∈ ops.toList := Array.mem_toList_iff.2 (Array.mem_of_getElem? ho)
          have go : ∀ env1, Match N env1 ρ n a → (drawActs C n (Kf.shrink ops i Read.ix F) (fun env' n' F' => execDraw C ops fuel (listed.setIfInBounds i true) env' n' F' Kt) (oneStep C ops env1 n o)).sem P R Γ n ρ w →
              wpOp P ops Q i (fun a' w' => (∀ p ∈ Kf.shrink ops i Owes.ix FS, p.2 w') ∧ wpAnyF P ops Q fuel (listed.setIfInBounds i true) (Kf.shrink ops i Owes.ix FS) a' w') a w := by
            intro env1 hm1 h1
            have hsh : ∀ p ∈ Kf.shrink ops i Owes.ix FS, p.2 w := fun p hp => hS p (List.mem_filter.1 hp).1
            cases hs : oneStep C ops env1 n o with
            | bad => rw [hs] at h1; exact h1.elim
            | split y t => rw [hs] at h1; exact h1.elim
            | silent env' =>
              rw [hs] at h1
              obtain ⟨v, hy, hm'⟩ := oneStep_silent (P := P) hm1 hN hs
              exact hy.wpOp ho trivial ⟨hsh, execDraw_sound hN hsel hQ fuel _ env' n _ _ ρ w _ h1 hm' hF.shrink hsh (hf.put hmem)⟩
            | event op env' =>
              rw [hs] at h1
              obtain ⟨hw, he, hm'⟩ := oneStep_event hm1 hN hs
              simp only [drawActs, Tr.sem] at h1
              rw [Went.runOp_eq he] at h1
              unfold wpOp
              rw [ho]
              simp only
              rw [if_pos hw]
              refine .inl (went_wp h1 fun v w' hv => ?_)
              have hpaid : ∀ p ∈ Kf.shrink ops i Owes.ix FS, p.2 w' := hF.shrink.paid hv.2.1
              exact ⟨hpaid, execDraw_sound hN hsel hQ fuel _ env' (n + 1) _ _ _ w' _ hv.2.2 (hm' v hv.1) (hF.shrink.later (Nat.le_succ n) fun m hlt => ext_lt hlt) hpaid (hf.put hmem)⟩
          simp only [withSplit] at h
          cases hs : oneStep C ops env n o with
          | split y t =>
            rw [hs] at h
            simp only [splitting, Tr.sem] at h
            obtain ⟨b, hb, h1, h2⟩ := h
            have hm1 := hm.known (oneStep_split hs).1 hb
            cases b with
            | true => exact go _ hm1 (h1 rfl)
            | false => exact go _ hm1 (h2 rfl)
          | bad => rw [hs] at h; exact go env hm (by rw [hs]; exact h)
          | silent env' => rw [hs] at h; exact go env hm (by rw [hs]; exact h)
          | event op env' => rw [hs] at h; exact go env hm (by rw [hs]; exact h)

theorem Follows.of {k : List Item} {fnm : FuncId} (h : ∀ env' n' ρ' w' a', (Kt env' n').sem P R Γ n' ρ' w' → Match N env' ρ' n' a' → (∀ t, t ∉ dstsOf ops → a'.tmps.getD t undef = a.tmps.getD t undef) → Runs P fnm R k a' w') :
    Follows P R N Γ ops (fun e a' w' => e = .normal ∧ Runs P fnm R k a' w') Kt a := fun env' n' ρ' w' a' h1 h2 h3 => ⟨rfl, h env' n' ρ' w' a' h1 h2 h3⟩

/-- A region. -/
theorem runs_seq (hN : C.N = N) {id n : Nat} {env : Tri} {ρ : Nat → Value} {k : List Item} (h : (execSeq C ops ops.toList env n Kt).sem P R Γ n ρ w) (hm : Match N env ρ n a)
    (hk : ∀ env' n' ρ' w' a', (Kt env' n').sem P R Γ n' ρ' w' → Match N env' ρ' n' a' → (∀ t, t ∉ dstsOf ops → a'.tmps.getD t undef = a.tmps.getD t undef) → Runs P f R k a' w') :
    Runs P f R (.code (.region id ops false) :: k) a w :=
  .wp (wp_region_list (execSeq_sound hN _ env n ρ w a (fun _ h => h) h hm (.of hk)))

theorem runs_draw (hN : C.N = N) (hmix : P.follows .mixedOrders = true) {id n : Nat} {env : Tri} {ρ : Nat → Value} {k : List Item} (hsel : Region.noSelect ops = true)
    (h : (execDraw C ops ops.size (Array.replicate ops.size false) env n [] Kt).sem P R Γ n ρ { w with drawn := w.drawn + 1 }) (hm : Match N env ρ n a)
    (hk : ∀ env' n' ρ' w' a', (Kt env' n').sem P R Γ n' ρ' w' → Match N env' ρ' n' a' → (∀ t, t ∉ dstsOf ops → a'.tmps.getD t undef = a.tmps.getD t undef) → Runs P f R k a' w') :
    Runs P f R (.code (.region id ops true) :: k) a w :=
  .wp (wp_region_F hmix (execDraw_sound hN hsel (fun c a w hq => by cases hq.1) _ _ env n [] [] ρ _ a h hm (fun p hp => by cases hp) (fun p hp => by cases hp) (.of hk)))

theorem wpOp_step' {i : Nat} {o : Oper} {K : Act → World → Prop} {v : Value} {w' : World} (ho : ops[i]? = some o) (hg : o.guard = none) (hr : (execOp a.eval o).run P w = .ok (.value v) w') (hk : K (a.put o.dst v) w') :
    wpOp P ops Q i K a w := by
  unfold wpOp
  rw [ho]
  simp only
  rw [if_pos (by unfold Region.wanted; rw [hg])]
  refine .inl ?_
  unfold Oper.wp
  rw [hr]
  exact hk

theorem wpOp_skip' {i : Nat} {o : Oper} {K : Act → World → Prop} {w' : World} (ho : ops[i]? = some o) (hg : o.guard = none) (hr : (execOp a.eval o).run P w = .ok .skip w') (hk : K (a.put o.dst undef) w') :
    wpOp P ops Q i K a w := by
  unfold wpOp
  rw [ho]
  simp only
  rw [if_pos (by unfold Region.wanted; rw [hg])]
  refine .inl ?_
  unfold Oper.wp
  rw [hr]
  exact hk

theorem run_zero {t : TypeId} {v : Value} {s : Nat} (hi : (P.info? t).map (fun i => (i.zero, i.size)) = some (some v, s)) : (zeroValue t).run P w = .ok v w := by
  cases h : P.info? t with
  | none => rw [h] at hi; cases hi
  | some i =>
    rw [h] at hi
    simp only [Option.map_some, Option.some.injEq, Prod.mk.injEq] at hi
    simp [zeroValue, typeInfo, h, hi.1]

theorem run_size {t : TypeId} {v : Option Value} {s : Nat} (hi : (P.info? t).map (fun i => (i.zero, i.size)) = some (v, s)) : (sizeOf t).run P w = .ok s w := by
  cases h : P.info? t with
  | none => rw [h] at hi; cases hi
  | some i =>
    rw [h] at hi
    simp only [Option.map_some, Option.some.injEq, Prod.mk.injEq] at hi
    simp [sizeOf, typeInfo, h, hi.2]

theorem run_under {t : TypeId} {d : TypeDesc} (hu : P.underlying t = some d) : (underlying t).run P w = .ok d w := by
  simp [underlying, hu]

theorem setCell_new (w : World) (t : TypeId) (x v : Value) : (w.alloc (.cells #[x] t)).setCell ⟨w.heap.size, 0, none⟩ v = w.alloc (.cells #[v] t) := by
  have hsz : (w.heap.push (.cells #[x] t)).size = (w.heap.push (.cells #[v] t)).size := by simp
  unfold World.setCell World.alloc
  congr 1
  apply Array.ext
  · simp
  · intro i h1 h2
    simp only [Array.getElem_modify, Array.getElem_push]
    by_cases hi : i < w.heap.size
    · rw [if_neg (by omega), dif_pos hi, dif_pos hi]
    · have : i = w.heap.size := by simp at h1; omega
      rw [if_pos this.symm, dif_neg hi, dif_neg hi]
      rfl

theorem coin_core {t : TypeId} {d e : Tmp} {o0 o1 o2 o3 : Oper} (hmix : P.follows .mixedOrders = true) (hu : P.underlying t = some .bool) (hi : (P.info? t).map (fun i => (i.zero, i.size)) = some (some (.bool false), 1))
    (hd : d < a.tmps.size) (hsz : ops.size = 4) (h0 : ops[0]? = some o0) (h1 : ops[1]? = some o1) (h2 : ops[2]? = some o2) (h3 : ops[3]? = some o3)
    (g0 : o0.guard = none) (g1 : o1.guard = none) (g2 : o2.guard = none) (g3 : o3.guard = none) (d0 : o0.dst = some d) (d1 : o1.dst = none) (d2 : o2.dst = none) (d3 : o3.dst = some e)
    (p0 : o0.op = .alloc t) (p1 : o1.op = .store t (.tmp d) (.const (.bool true))) (p2 : o2.op = .store t (.tmp d) (.const (.bool false))) (p3 : o3.op = .load t (.tmp d))
    (r0 : Region.ready .any ops #[false, false, false, false] = [0]) (r1 : Region.ready .any ops #[true, false, false, false] = [1, 2]) (r2 : Region.ready .any ops #[true, true, false, false] = [2])
    (r3 : Region.ready .any ops #[true, false, true, false] = [1]) (r4 : Region.ready .any ops #[true, true, true, false] = [3]) (r5 : Region.ready .any ops #[true, true, true, true] = [])
    (hq : ∀ b a', a' = ((a.put (some d) (.pointer (some ⟨w.heap.size, 0, none⟩))).put (some e) (.bool b)) → Q .normal a' (coinWorld t b w)) {id : Nat} : (Code.region id ops true).wp P Q a w := by
  refine wp_region_any hmix ?_
  rw [hsz]
  have er : Array.replicate 4 false = #[false, false, false, false] := rfl
  rw [er]
  have hz : ∀ w : World, (zeroValue t).run P w = .ok (.bool false) w := fun w => run_zero hi
  have hs : ∀ w : World, (sizeOf t).run P w = .ok 1 w := fun w => run_size hi
  have hun : ∀ w : World, (underlying t).run P w = .ok .bool w := fun w => run_under hu
  let ptr : Value := .pointer (some ⟨w.heap.size, 0, none⟩)
  have e0 : (execOp a.eval o0).run P w.drew = .ok (.value ptr) (w.drew.alloc (.cells #[.bool false] t)) := by
    unfold execOp
    rw [p0]
    simp only [Instr.alloc, Sem.run_bind, hz, Result.andThen_ok, newVar, newRow, run_newObj, Sem.run_pure, Value.cells]
    rfl
  have ed : (a.put (some d) ptr).eval (.tmp d) = ptr := by
    simp [Act.eval, Act.put, hd]
  have hst : ∀ (b c : Bool), (storeVar t ⟨w.heap.size, 0, none⟩ (.bool b)).run P (w.drew.alloc (.cells #[.bool c] t)) = .ok () (w.drew.alloc (.cells #[.bool b] t)) := fun b c => by
    have hc : (w.drew.alloc (.cells #[.bool c] t)).cell? ⟨w.heap.size, 0, none⟩ = some (.bool c) := World.cell?_alloc_new w.drew #[.bool c] t 0
    have hb : (w.drew.alloc (.cells #[.bool c] t)).heap[w.heap.size]? = some (.cells #[.bool c] t) := by
      show (w.heap.push _)[w.heap.size]? = _
      simp
    have hf : (w.drew.alloc (.cells #[.bool c] t)).frozen? ⟨w.heap.size, 0, none⟩ = false := by
      unfold World.frozen?
      simp only [hb]
      rfl
    have h1 := run_store P (w.drew.alloc (.cells #[.bool c] t)) ⟨w.heap.size, 0, none⟩ (.bool b) .plain rfl
    rw [hc, hf] at h1
    simp only [Bool.false_eq_true, if_false] at h1
    have h2 : (w.drew.alloc (.cells #[.bool c] t)).setCell ⟨w.heap.size, 0, none⟩ (.bool b) = w.drew.alloc (.cells #[.bool b] t) := setCell_new w.drew t (.bool c) (.bool b)
    rw [h2] at h1
    unfold storeVar
    simp only [Sem.run_bind, hs, Result.andThen_ok]
    rw [if_neg (by simp [Value.cells])]
    show ((storeCells ⟨w.heap.size, 0, none⟩ [.bool b]).run P _) = _
    unfold storeCells
    simp only [Sem.run_bind]
    rw [show (Addr.add ⟨w.heap.size, 0, none⟩ 0) = (⟨w.heap.size, 0, none⟩ : Addr) from rfl, h1]
    rfl
  have est : ∀ (x : Oper) (b c : Bool), x.op = .store t (.tmp d) (.const (.bool b)) →
      (execOp (a.put (some d) ptr).eval x).run P (w.drew.alloc (.cells #[.bool c] t)) = .ok .skip (w.drew.alloc (.cells #[.bool b] t)) := fun x b c hx => by
    unfold execOp
    rw [hx]
    simp only [Sem.run_bind, Instr.storeAt, ed]
    show Result.andThen (Result.andThen ((pure (⟨w.heap.size, 0, none⟩ : Addr) : Sem Addr).run P _) _) _ = _
    simp only [Sem.run_pure, Result.andThen_ok]
    have := hst b c
    simp only [Act.eval]
    rw [this]
    rfl
  have eld : ∀ b : Bool, (execOp (a.put (some d) ptr).eval o3).run P (w.drew.alloc (.cells #[.bool b] t)) = .ok (.value (.bool b)) (w.drew.alloc (.cells #[.bool b] t)) := fun b => by
    have hc : (w.drew.alloc (.cells #[.bool b] t)).cell? ⟨w.heap.size, 0, none⟩ = some (.bool b) := World.cell?_alloc_new w.drew #[.bool b] t 0
    unfold execOp
    rw [p3]
    simp only [Sem.run_bind, Instr.loadAt, ed]
    show Result.andThen (Result.andThen ((pure (⟨w.heap.size, 0, none⟩ : Addr) : Sem Addr).run P _) _) _ = _
    simp only [Sem.run_pure, Result.andThen_ok, loadVar, isAgg, Sem.run_bind, hun]
    simp only [Bool.false_eq_true, if_false, run_load, hc]
    rfl
  refine wpAny_all r0 (by simp) fun i hi => ?_
  obtain rfl : i = 0 := by simpa using hi
  refine wpOp_step' h0 g0 e0 ?_
  rw [d0]
  have hq' : ∀ b fuel, wpAny P .any ops Q (fuel + 1) #[true, true, true, false] (a.put (some d) ptr) (w.drew.alloc (.cells #[.bool b] t)) := fun b fuel => by
    refine wpAny_all r4 (by simp) fun i hi => ?_
    obtain rfl : i = 3 := by simpa using hi
    refine wpOp_step' h3 g3 (eld b) ?_
    rw [d3]
    exact wpAny_done r5 (hq b _ rfl) _
  refine wpAny_all r1 (by simp) fun i hi => ?_
  have hi' : i = 1 ∨ i = 2 := by simpa using hi
  rcases hi' with rfl | rfl
  · refine wpOp_skip' h1 g1 (est o1 true false p1) ?_
    rw [d1]
    refine wpAny_all r2 (by simp) fun i hi => ?_
    obtain rfl : i = 2 := by simpa using hi
    refine wpOp_skip' h2 g2 (est o2 false true p2) ?_
    rw [d2]
    exact hq' false _
  · refine wpOp_skip' h2 g2 (est o2 false false p2) ?_
    rw [d2]
    refine wpAny_all r3 (by simp) fun i hi => ?_
    obtain rfl : i = 1 := by simpa using hi
    refine wpOp_skip' h1 g1 (est o1 true false p1) ?_
    rw [d1]
    exact hq' true _

theorem runs_coin (hmix : P.follows .mixedOrders = true) {id n : Nat} {env e1 e2 : Tri} {ρ : Nat → Value} {k : List Item} {t : TypeId} {d e : Tmp} (hc : coin ops = some (t, d, e)) (hd : d < C.N) (hnone : env.get d = none)
    (hu : P.underlying t = some .bool) (hi : (P.info? t).map (fun i => (i.zero, i.size)) = some (some (.bool false), 1)) (hm : Match C.N env ρ n a)
    (hs1 : setDst C env (some e) (.const (.bool true)) = some e1) (hs2 : setDst C env (some e) (.const (.bool false)) = some e2)
    (h1 : ∀ a', Match C.N e1 ρ n a' → (∀ t, t ∉ dstsOf ops → a'.tmps.getD t undef = a.tmps.getD t undef) → Runs P f R k a' (coinWorld t true w))
    (h2 : ∀ a', Match C.N e2 ρ n a' → (∀ t, t ∉ dstsOf ops → a'.tmps.getD t undef = a.tmps.getD t undef) → Runs P f R k a' (coinWorld t false w)) :
    Runs P f R (.code (.region id ops true) :: k) a w := by
  obtain ⟨l⟩ := ops
  unfold coin at hc
  simp only at hc
  split at hc
  · rw [Bool.cond_eq_ite] at hc
    split at hc
    · rename_i hb
      simp only [Bool.and_eq_true, beq_iff_eq] at hb
      simp only [Option.some.injEq, Prod.mk.injEq] at hc
      obtain ⟨rfl, rfl, rfl⟩ := hc
      obtain ⟨⟨⟨⟨⟨⟨⟨⟨⟨⟨⟨q1, q2⟩, q3⟩, q4⟩, q5⟩, q6⟩, r0⟩, r1⟩, r2⟩, r3⟩, r4⟩, r5⟩ := hb
      have q1 := Nat.eq_of_beq_eq_true q1
      have q2 := Nat.eq_of_beq_eq_true q2
      have q3 := Nat.eq_of_beq_eq_true q3
      have q4 := Nat.eq_of_beq_eq_true q4
      have q5 := Nat.eq_of_beq_eq_true q5
      have q6 := Nat.eq_of_beq_eq_true q6
      subst q1 q2 q3 q4 q5 q6
      refine .wp (coin_core hmix hu hi (by rw [hm.size]; exact hd) rfl rfl rfl rfl rfl rfl rfl rfl rfl rfl rfl rfl rfl rfl rfl rfl rfl r0 r1 r2 r3 r4 r5 fun b a' ha => ⟨rfl, ?_⟩)
      have hput : ∀ (x : Act) (s : Tmp) (v : Value) (u : Tmp), u ≠ s → (x.put (some s) v).tmps.getD u undef = x.tmps.getD u undef := fun x s v u hne => by
        simp [Act.put, Array.getElem?_setIfInBounds_ne (Ne.symm hne)]
      have hm1 : ∀ v, Match C.N env ρ n (a.put (some _) v) := fun v => ⟨by simp [Act.put, hm.size], hm.defs, fun u x hx => by
        rw [hput _ _ _ _ (fun e => by rw [e, hnone] at hx; cases hx)]
        exact hm.val u x hx, hm.below⟩
      have hother : ∀ (x y : Tmp) v u s, s ≠ x → s ≠ y → ((a.put (some x) v).put (some y) u).tmps.getD s undef = a.tmps.getD s undef := fun x y v u s hx hy => by
        rw [hput _ _ _ _ hy, hput _ _ _ _ hx]
      subst ha
      cases b with
      | true => exact h1 _ ((hm1 _).set hs1 rfl (Nat.le_refl _) (fun _ _ => rfl) trivial rfl) fun s hs => hother _ _ _ _ s (fun e => hs (by rw [e]; simp [dstsOf])) (fun e => hs (by rw [e]; simp [dstsOf]))
      | false => exact h2 _ ((hm1 _).set hs2 rfl (Nat.le_refl _) (fun _ _ => rfl) trivial rfl) fun s hs => hother _ _ _ _ s (fun e => hs (by rw [e]; simp [dstsOf])) (fun e => hs (by rw [e]; simp [dstsOf]))
    · cases hc
  · cases hc

end

end Go.Kf

namespace Go.Kf

open Go

section

variable {P : Program} {f : FuncId} {R : Value → World → Prop} {fn : Func} {C : Cfg}

theorem runs_ret (hf : P.funcs[f]? = some fn) (hr : C.results = fn.results.toList) {Γ : List (List Value → World → Prop)} {n : Nat} {env : Tri} {ρ : Nat → Value} {a : Act} {w : World} {k : List Item}
    (h : (mkRet C env).sem P R Γ n ρ w) (hm : Match C.N env ρ n a) : Runs P f R (.code .ret :: k) a w := fun cs => by
  unfold mkRet at h
  cases hrs : retOf env C.results with
  | none => rw [hrs] at h; exact h.elim
  | some rs =>
    rw [hrs] at h
    obtain ⟨vs, hv, hR⟩ := h
    rw [hr] at hrs
    exact ⟨oneOf vs, w, _, hR, .one step_ret, rfl, rfl, hm.defs, rfl, fn, hf, results_run hm hrs hv⟩

theorem runs_end (hf : P.funcs[f]? = some fn) (hr : C.results = fn.results.toList) {Γ : List (List Value → World → Prop)} {n : Nat} {env : Tri} {ρ : Nat → Value} {a : Act} {w : World}
    (h : (mkRet C env).sem P R Γ n ρ w) (hm : Match C.N env ρ n a) : Runs P f R [] a w := fun cs => by
  unfold mkRet at h
  cases hrs : retOf env C.results with
  | none => rw [hrs] at h; exact h.elim
  | some rs =>
    rw [hrs] at h
    obtain ⟨vs, hv, hR⟩ := h
    rw [hr] at hrs
    exact ⟨oneOf vs, w, _, hR, .one step_end, rfl, rfl, hm.defs, rfl, fn, hf, results_run hm hrs hv⟩

variable {Γ : List (List Value → World → Prop)}

theorem runs_to {i : KI} {K : List KI} {S : List (Nat → Value)} {l : Nat} {sl : List Tmp} {n0 n : Nat} {env0 env : Tri} {ρ : Nat → Value} {a : Act} {w : World}
    (hmk : markSlots i = some (l, sl, n0, env0)) (h : (mkTo env l sl).sem P R Γ n ρ w) (hm : Match C.N env ρ n a) (hh : Holds P f R C.N Γ (i :: K) S) (hs : Stays (i :: K) S a) :
    Runs P f R (strip (i :: K)) a w := by
  unfold mkTo at h
  cases hx : lookAll env (sl.map Operand.tmp) with
  | none => rw [hx] at h; exact h.elim
  | some xs =>
    rw [hx] at h
    obtain ⟨p, hp, hv⟩ := h
    unfold Holds at hh
    unfold Stays at hs
    rw [hmk] at hh hs
    cases S with
    | nil => exact hh.elim
    | cons ρ0 S =>
      obtain ⟨⟨hb, q, hq, hrun⟩, _⟩ := hh
      obtain rfl : p = q := Option.some.inj (hp.symm.trans hq)
      exact hrun (xs.map (ev ρ)) w a (by simpa using lookAll_len _ _ hx) hv (hm.many hx hb hs.1) (by unfold Stays; rw [hmk]; exact hs)

theorem Holds.code {c : Code} {K : List KI} {S : List (Nat → Value)} {N : Nat} : Holds P f R N Γ (.code c :: K) S ↔ Holds P f R N Γ K S := Iff.rfl

theorem Stays.code {c : Code} {K : List KI} {S : List (Nat → Value)} {a : Act} : Stays (.code c :: K) S a ↔ Stays K S a := Iff.rfl

theorem FreeOf.carried {env : Tri} {K : List KI} {i : KI} {l n0 : Nat} {W : List Tmp} {t : Tmp} (hmk : markSlots i = some (l, Kf.carried env W [], n0, env)) (ht : t ∈ W) (hK : FreeOf K t) : FreeOf (i :: K) t := by
  refine ⟨?_, hK⟩
  rw [hmk]
  by_cases h : env.get t = none
  · exact .inl h
  · exact .inr (carried_spec W [] (.inl ⟨ht, h⟩))

theorem exec_sound (hf : P.funcs[f]? = some fn) (hr : C.results = fn.results.toList) (hmix : P.follows .mixedOrders = true) :
    ∀ (fuel : Nat) (K : List KI) (S : List (Nat → Value)) (Γ : List (List Value → World → Prop)) (env : Tri) (d n : Nat) (ρ : Nat → Value) (w : World) (a : Act), Γ.length = d →
      (exec C fuel K env d n).sem P R Γ n ρ w → Match C.N env ρ n a → Holds P f R C.N Γ K S → Stays K S a → Safe K → Runs P f R (strip K) a w
  | 0, _, _, _, _, _, _, _, _, _, _, h, _, _, _, _ => h.elim
  | _ + 1, [], _, _, _, _, _, _, _, _, _, h, hm, _, _, _ => runs_end hf hr h hm
  | fuel + 1, .blk _ :: K, S, Γ, env, d, n, ρ, w, a, hd, h, hm, hh, hs, hsf =>
    .step (fun _ => step_inBlock) (exec_sound hf hr hmix fuel K S Γ env d n ρ w a hd h hm hh hs hsf.2)
  | fuel + 1, .scp _ :: K, S, Γ, env, d, n, ρ, w, a, hd, h, hm, hh, hs, hsf =>
    .step (fun _ => step_inScope) (exec_sound hf hr hmix fuel K S Γ env d n ρ w a hd h hm hh hs hsf.2)
  | _ + 1, .jn l sl n0 env0 :: K, S, Γ, env, d, n, ρ, w, a, _, h, hm, hh, hs, _ => runs_to (i := .jn l sl n0 env0) rfl h hm hh hs
  | _ + 1, .lp b l sl n0 env0 :: K, S, Γ, env, d, n, ρ, w, a, _, h, hm, hh, hs, _ => runs_to (i := .lp b l sl n0 env0) rfl h hm hh hs
  | fuel + 1, .code c :: K, S, Γ, env, d, n, ρ, w, a, hd, h, hm, hh, hs, hsf => by
    have hh' : Holds P f R C.N Γ K S := hh
    have hs' : Stays K S a := hs
    have ih := exec_sound hf hr hmix fuel
    cases c with
    | skip => exact .step (fun _ => step_skip) (ih K S Γ env d n ρ w a hd h hm hh' hs' hsf.2)
    | label l => exact .step (fun _ => step_label) (ih K S Γ env d n ρ w a hd h hm hh' hs' hsf.2)
    | ret => exact runs_ret hf hr h hm
    | refuse why => exact h.elim
    | rangeFunc f ps qs b => exact h.elim
    | seq x y =>
      refine .step (fun _ => step_seq) (ih (.code x :: .code y :: K) S Γ env d n ρ w a hd h hm hh' hs' ⟨fun t ht => ⟨trivial, hsf.1 t ?_⟩, fun t ht => hsf.1 t ?_, hsf.2⟩)
      · exact List.mem_append.2 (.inl ht)
      · exact List.mem_append.2 (.inr ht)
    | block id b => exact .step (fun _ => step_block) (ih (.code b :: .blk id :: K) S Γ env d n ρ w a hd h hm hh' hs' ⟨fun t ht => ⟨trivial, hsf.1 t ht⟩, (fun t ht => (by cases ht)), hsf.2⟩)
    | scope b => exact .step (fun _ => step_scope) (ih (.code b :: .scp b :: K) S Γ env d n ρ w a hd h hm hh' hs' ⟨fun t ht => ⟨trivial, hsf.1 t ht⟩, fun t ht => hsf.1 t ht, hsf.2⟩)
    | exit id =>
      simp only [exec] at h
      cases hx : exitK id K with
      | none => rw [hx] at h; exact h.elim
      | some K' =>
        rw [hx] at h
        obtain ⟨S', h1, h2, h3⟩ := exitK_keeps id K K' S hx hh' hs' hsf.2
        exact .step (fun _ => step_exit (exitK_strip id K K' hx)) (ih K' S' Γ env d n ρ w a hd h hm h1 h2 h3)
    | goto l =>
      simp only [exec] at h
      cases hx : gotoK l K with
      | none => rw [hx] at h; exact h.elim
      | some K' =>
        rw [hx] at h
        obtain ⟨S', h1, h2, h3⟩ := gotoK_keeps l K K' S hx hh' hs' hsf.2
        exact .step (fun _ => step_goto (gotoK_strip l K K' hx)) (ih K' S' Γ env d n ρ w a hd h hm h1 h2 h3)
    | region id ops draw =>
      simp only [exec] at h
      have hst : ∀ a' : Act, (∀ t, t ∉ dstsOf ops → a'.tmps.getD t undef = a.tmps.getD t undef) → Stays K S a' := fun a' he => Stays.change (dstsOf ops) hs' hsf.1 he
      cases draw with
      | false => exact runs_seq rfl h hm fun env' n' ρ' w' a' h1 h2 h3 => ih K S Γ env' d n' ρ' w' a' hd h1 h2 hh' (hst a' h3) hsf.2
      | true =>
        simp only at h
        cases hsel : Region.noSelect ops with
        | false => rw [hsel] at h; exact h.elim
        | true =>
          rw [hsel] at h
          simp only at h
          cases hcn : coin ops with
          | none =>
            rw [hcn] at h
            exact runs_draw rfl hmix hsel h hm fun env' n' ρ' w' a' h1 h2 h3 => ih K S Γ env' d n' ρ' w' a' hd h1 h2 hh' (hst a' h3) hsf.2
          | some te =>
            obtain ⟨t, s, e⟩ := te
            rw [hcn] at h
            simp only at h
            cases hb : Nat.blt s C.N && (env.get s).isNone with
            | false => rw [hb] at h; exact h.elim
            | true =>
              cases hs1 : setDst C env (some e) (.const (.bool true)) with
              | none => rw [hb, hs1] at h; exact h.elim
              | some e1 =>
                cases hs2 : setDst C env (some e) (.const (.bool false)) with
                | none => rw [hb, hs1, hs2] at h; exact h.elim
                | some e2 =>
                  rw [hb, hs1, hs2] at h
                  obtain ⟨hu, hi, h1, h2⟩ := h
                  rw [Bool.and_eq_true, Option.isNone_iff_eq_none] at hb
                  refine runs_coin hmix hcn (Nat.blt_eq ▸ hb.1) hb.2 hu hi hm hs1 hs2 (fun a' hm' he => ?_) fun a' hm' he => ?_
                  · exact ih K S Γ e1 d n ρ _ a' hd h1 hm' hh' (hst a' he) hsf.2
                  · exact ih K S Γ e2 d n ρ _ a' hd h2 hm' hh' (hst a' he) hsf.2
    | cond x t e =>
      have sub : ∀ (b : Bool), ∀ s ∈ writes (if b then t else e), FreeOf K s := fun b s hs => hsf.1 s (by
        cases b
        · exact List.mem_append.2 (.inr hs)
        · exact List.mem_append.2 (.inl hs))
      simp only [exec] at h
      split at h
      · rename_i b hx
        refine .step (k' := .code (if b then t else e) :: strip K) (fun _ => step_cond (t := b) (hm.look hx)) ?_
        have hb : (bif b then t else e) = if b then t else e := by cases b <;> rfl
        rw [hb] at h
        exact ih (.code (if b then t else e) :: K) S Γ env d n ρ w a hd h hm hh' hs' ⟨sub b, hsf.2⟩
      · rename_i y hx
        cases hends : ends t || ends e with
        | true =>
          rw [hends] at h
          obtain ⟨b, hb, h1, h2⟩ := h
          have hev : a.eval x = .bool b := (hm.look hx).trans hb
          refine .step (k' := .code (if b then t else e) :: strip K) (fun _ => step_cond (t := b) hev) ?_
          refine ih (.code (if b then t else e) :: K) S Γ env d n ρ w a hd ?_ hm hh' hs' ⟨sub b, hsf.2⟩
          cases b
          · exact h2 rfl
          · exact h1 rfl
        | false =>
          rw [hends] at h
          simp only at h
          cases hab : allBelow C.N (carried env (writes t ++ writes e) []) with
          | false => rw [hab] at h; exact h.elim
          | true =>
            rw [hab] at h
            obtain ⟨hl, J, ⟨b, hb, h1, h2⟩, h3⟩ := h
            have hev : a.eval x = .bool b := (hm.look hx).trans hb
            refine .step (k' := .code (if b then t else e) :: strip K) (fun _ => step_cond (t := b) hev) ?_
            have hS : Stays (.jn d (carried env (writes t ++ writes e) []) n env :: K) (ρ :: S) a := ⟨fun s z hz _ => hm.val s z hz, hs'⟩
            have hH : Holds P f R C.N (Γ ++ [J]) (.jn d (carried env (writes t ++ writes e) []) n env :: K) (ρ :: S) := by
              refine ⟨⟨hm.below, J, by rw [hl]; simp, fun vs w' a' hlen hJ hm' hs1 => ?_⟩, hh'.more⟩
              exact ih K S Γ _ d _ _ w' a' hd (h3 vs w' hlen hJ) hm' hh' hs1.2 hsf.2
            have hF : ∀ s ∈ writes (if b then t else e), FreeOf (.jn d (carried env (writes t ++ writes e) []) n env :: K) s := fun s hs =>
              FreeOf.carried (W := writes t ++ writes e) rfl (by
                cases b
                · exact List.mem_append.2 (.inr hs)
                · exact List.mem_append.2 (.inl hs)) (sub b s hs)
            refine ih (.code (if b then t else e) :: .jn d (carried env (writes t ++ writes e) []) n env :: K) (ρ :: S) (Γ ++ [J]) env (d + 1) n ρ w a (by simp [hd]) ?_ hm hH hS ⟨hF, fun s hs => (by cases hs), hsf.2⟩
            cases b
            · exact h2 rfl
            · exact h1 rfl
      · exact h.elim
    | loop b =>
      simp only [exec] at h
      cases hab : allBelow C.N (carried env (writes b) []) with
      | false => rw [hab] at h; exact h.elim
      | true =>
        rw [hab] at h
        simp only at h
        cases hx : lookAll env ((carried env (writes b) []).map Operand.tmp) with
        | none => rw [hx] at h; exact h.elim
        | some xs =>
          rw [hx] at h
          obtain ⟨hl, I, μ, hI, hround⟩ := h
          have hlen : xs.length = (carried env (writes b) []).length := by simpa using lookAll_len _ _ hx
          -- each round, by the measure
          have key : ∀ (m : Nat) (vs : List Value) (w : World) (a' : Act), μ vs w = m → vs.length = (carried env (writes b) []).length → I vs w →
              Match C.N (setMany env (carried env (writes b) []) n) (ext ρ n vs) (n + (carried env (writes b) []).length) a' →
              Stays (.lp b d (carried env (writes b) []) n env :: K) (ρ :: S) a' → Runs P f R (.code b :: .inLoop b :: strip K) a' w := by
            intro m
            induction m using Nat.strongRecOn with
            | _ m ihm =>
              intro vs w1 a1 hm0 hvl hI1 hm1 hst
              have hsem := hround vs w1 (by rw [hvl, hlen]) hI1
              rw [hlen] at hsem
              have hH : Holds P f R C.N (Γ ++ [fun vs' w'' => I vs' w'' ∧ μ vs' w'' < μ vs w1]) (.lp b d (carried env (writes b) []) n env :: K) (ρ :: S) := by
                refine ⟨⟨hm.below, fun vs' w'' => I vs' w'' ∧ μ vs' w'' < μ vs w1, by rw [hl]; simp, fun vs' w' a' hlen' hJ hm' hs2 => ?_⟩, hh'.more⟩
                exact .step (k' := .code b :: .inLoop b :: strip K) (fun _ => step_inLoop) (ihm (μ vs' w') (hm0 ▸ hJ.2) vs' w' a' rfl hlen' hJ.1 hm' hs2)
              have hF : ∀ s ∈ writes b, FreeOf (.lp b d (carried env (writes b) []) n env :: K) s := fun s hs => FreeOf.carried (W := writes b) rfl hs (hsf.1 s hs)
              exact ih (.code b :: .lp b d (carried env (writes b) []) n env :: K) (ρ :: S) _ _ (d + 1) _ _ w1 a1 (by simp [hd]) hsem hm1 hH hst ⟨hF, fun s hs => (by cases hs), hsf.2⟩
          refine .step (k' := .code b :: .inLoop b :: strip K) (fun _ => step_loop) ?_
          refine key _ (xs.map (ev ρ)) w a rfl (by simpa using hlen) hI (hm.many hx hm.below fun t x ht _ => hm.val t x ht) ⟨fun t x ht _ => hm.val t x ht, hs'⟩

/-- The parameters' slots at the beginning: what they hold, by name or by value. -/
def params : List Operand → Nat → Tri → Tri
  | [], _, e => e
  | x :: r, i, e => params r (i + 1) (e.set i x)

theorem params_get : ∀ (xs : List Operand) (i : Nat) (e : Tri) (t : Nat) (x : Operand), (params xs i e).get t = some x → (∃ j, xs[j]? = some x ∧ t = i + j) ∨ e.get t = some x
  | [], _, _, _, _, h => .inr h
  | y :: r, i, e, t, x, h => by
    rcases params_get r (i + 1) _ t x h with ⟨j, hj, rfl⟩ | h1
    · exact .inl ⟨j + 1, by simpa using hj, by omega⟩
    · rcases Tri.get_set h1 with ⟨rfl, rfl⟩ | ⟨_, h2⟩
      · exact .inl ⟨0, by simp, by simp⟩
      · exact .inr h2

/-- A function's tree. -/
def treeOf (fn : Func) (orc : Nat → Option Value) (ps : List Operand) (n : Nat) : Tr := match fn.body with
  | some c => exec ⟨fn.ntmps, fn.results.toList, orc⟩ 100000 [.code c] (params ps 0 .nil) 0 n
  | none => .stuck

theorem calls_of_tree {args : Array Value} {w : World} {orc : Nat → Option Value} {ps : List Operand} {n : Nat} {ρ : Nat → Value} (hf : P.funcs[f]? = some fn) (hmix : P.follows .mixedOrders = true)
    (hn : args.size ≤ fn.ntmps) (hp : ps.map (ev ρ) = args.toList) (hb : ∀ x ∈ ps, opBelow n x) (h : (treeOf fn orc ps n).sem P R [] n ρ w) :
    Calls P f args w fun e w' => match e with
      | .returned v => R v w'
      | _ => False := by
  unfold treeOf at h
  cases hbody : fn.body with
  | none => rw [hbody] at h; exact h.elim
  | some c =>
    rw [hbody] at h
    refine calls_of_runs hf hbody ?_
    refine exec_sound (C := ⟨fn.ntmps, fn.results.toList, orc⟩) hf rfl hmix 100000 [.code c] [] [] _ 0 n ρ w _ rfl h ?_ trivial trivial ⟨fun _ _ => trivial, trivial⟩
    have hget : ∀ t x, (params ps 0 .nil).get t = some x → ps[t]? = some x := fun t x hx => by
      rcases params_get ps 0 .nil t x hx with ⟨j, hj, rfl⟩ | h1
      · simpa using hj
      · exact absurd h1 (by simp [Tri.get, Tri.getAt_nil])
    refine ⟨by simp; omega, rfl, fun t x hx => ?_, fun t x hx => hb x (List.mem_of_getElem? (hget t x hx))⟩
    have h1 := hget t x hx
    have h2 : args.toList[t]? = some (ev ρ x) := by rw [← hp, List.getElem?_map, h1]; rfl
    have h3 : args[t]? = some (ev ρ x) := by simpa using h2
    have h4 : t < args.size := (Array.getElem?_eq_some_iff.1 h3).1
    show (args ++ Array.replicate (fn.ntmps - args.size) undef).getD t undef = ev ρ x
    rw [Array.getD_eq_getD_getElem?, Array.getElem?_append_left h4, h3]
    rfl

end

end Go.Kf


namespace Go.Kf

open Go

/-- Block b holds these cells, and none of them is frozen. -/
def Has (w : World) (b : Nat) (cs : List Value) : Prop := ∃ t fr, w.heap[b]? = some (.cells ⟨cs⟩ t fr) ∧ (fr.2 ≤ fr.1 ∨ cs.length ≤ fr.1)

/-- But for the blocks listed, what was there is as it was. -/
structure Keeps (M : List Nat) (w w' : World) : Prop where
  os : w'.os = w.os
  tape : w'.tape = w.tape
  output : w'.output = w.output
  size : w.heap.size ≤ w'.heap.size
  block : ∀ k, k < w.heap.size → k ∉ M → w'.heap[k]? = w.heap[k]?

theorem Keeps.refl {M : List Nat} {w : World} : Keeps M w w := ⟨rfl, rfl, rfl, Nat.le_refl _, fun _ _ _ => rfl⟩

theorem Keeps.trans {M : List Nat} {a b c : World} (h : Keeps M a b) (k : Keeps M b c) : Keeps M a c :=
  ⟨k.os.trans h.os, k.tape.trans h.tape, k.output.trans h.output, Nat.le_trans h.size k.size, fun i hi hm => (k.block i (Nat.lt_of_lt_of_le hi h.size) hm).trans (h.block i hi hm)⟩

theorem Keeps.mono {M M' : List Nat} {w w' : World} (h : Keeps M w w') (hs : ∀ x ∈ M, x ∈ M') : Keeps M' w w' :=
  ⟨h.os, h.tape, h.output, h.size, fun k hk hm => h.block k hk fun e => hm (hs k e)⟩

/-- A block that did not stand at the beginning may be left out. -/
theorem Keeps.less {M M' : List Nat} {w w' : World} (h : Keeps M w w') (hs : ∀ x ∈ M, x ∈ M' ∨ w.heap.size ≤ x) : Keeps M' w w' :=
  ⟨h.os, h.tape, h.output, h.size, fun k hk hm => h.block k hk fun e => (hs k e).elim hm fun hle => by omega⟩

theorem Has.lt {w : World} {b : Nat} {cs : List Value} (h : Has w b cs) : b < w.heap.size := by
  obtain ⟨t, fr, hb, _⟩ := h
  exact (Array.getElem?_eq_some_iff.1 hb).1

theorem Has.keep {M : List Nat} {w w' : World} {b : Nat} {cs : List Value} (h : Has w b cs) (hk : Keeps M w w') (hm : b ∉ M) : Has w' b cs := by
  have hlt := h.lt
  obtain ⟨t, fr, hb, hf⟩ := h
  exact ⟨t, fr, by rw [hk.block b hlt hm]; exact hb, hf⟩

theorem Has.cell {w : World} {b i : Nat} {cs : List Value} {v : Value} (h : Has w b cs) (hi : cs[i]? = some v) : w.cell? ⟨b, i, none⟩ = some v := by
  obtain ⟨t, fr, hb, _⟩ := h
  unfold World.cell?
  simp only [hb]
  simpa using hi

theorem Has.unfrozen {w : World} {b i : Nat} {cs : List Value} (h : Has w b cs) (hi : i < cs.length) : w.frozen? ⟨b, i, none⟩ = false := by
  obtain ⟨t, fr, hb, hf⟩ := h
  unfold World.frozen?
  simp only [hb]
  rcases hf with hf | hf
  · simp; omega
  · simp; omega

theorem Has.inj {w : World} {b : Nat} {cs cs' : List Value} (h : Has w b cs) (h' : Has w b cs') : cs = cs' := by
  obtain ⟨t, fr, hb, _⟩ := h
  obtain ⟨t', fr', hb', _⟩ := h'
  rw [hb] at hb'
  simp only [Option.some.injEq, Obj.cells.injEq, Array.mk.injEq] at hb'
  exact hb'.1

theorem keeps_alloc (w : World) (o : Obj) (M : List Nat) : Keeps M w { w with heap := w.heap.push o } :=
  ⟨rfl, rfl, rfl, by simp, fun k hk _ => by
    show (w.heap.push o)[k]? = _
    rw [Array.getElem?_push, if_neg (by omega)]⟩

theorem has_alloc (w : World) (cs : List Value) (t : TypeId) : Has { w with heap := w.heap.push (.cells ⟨cs⟩ t) } w.heap.size cs :=
  ⟨t, (0, 0), by simp, .inl (Nat.le_refl _)⟩

theorem keeps_drawn (w : World) (M : List Nat) (n : Nat) : Keeps M w { w with drawn := n } := ⟨rfl, rfl, rfl, Nat.le_refl _, fun _ _ _ => rfl⟩

theorem Has.drawn {w : World} {b n : Nat} {cs : List Value} (h : Has w b cs) : Has { w with drawn := n } b cs := h

def splice (cs : List Value) (o : Nat) (vs : List Value) : List Value := cs.take o ++ vs ++ cs.drop (o + vs.length)

theorem splice_length {cs vs : List Value} {o : Nat} (h : o + vs.length ≤ cs.length) : (splice cs o vs).length = cs.length := by
  simp [splice]; omega

theorem splice_nil (cs : List Value) (o : Nat) : splice cs o [] = cs := by simp [splice]

theorem splice_cons {cs : List Value} {o : Nat} {v : Value} {vs : List Value} (h : o < cs.length) : splice (cs.set o v) (o + 1) vs = splice cs o (v :: vs) := by
  unfold splice
  have h1 : (cs.set o v).take (o + 1) = cs.take o ++ [v] := by
    rw [List.take_set, List.take_succ_eq_append_getElem (by simpa using h)]
    rw [List.set_append_right _ _ (by simp; omega)]
    simp
    rw [show o - min o cs.length = 0 by omega]
    rfl
  have h2 : (cs.set o v).drop (o + 1 + vs.length) = cs.drop (o + (v :: vs).length) := by
    rw [List.drop_set_of_lt (by omega)]
    congr 1
    simp; omega
  rw [h1, h2]
  simp

theorem setCell_keeps (w : World) (b i : Nat) (v : Value) : Keeps [b] w (w.setCell ⟨b, i, none⟩ v) :=
  ⟨rfl, rfl, rfl, by simp [World.setCell], fun k _ hm => by
    simp only [World.setCell, Array.getElem?_modify]
    rw [if_neg (fun e => hm (by simp [e]))]⟩

theorem Has.setCell {w : World} {b i : Nat} {cs : List Value} {v : Value} (h : Has w b cs) : Has (w.setCell ⟨b, i, none⟩ v) b (cs.set i v) := by
  obtain ⟨t, fr, hb, hf⟩ := h
  refine ⟨t, fr, ?_, by simpa using hf⟩
  simp only [World.setCell, Array.getElem?_modify, hb]
  simp

theorem storeCells_run {P : Program} : ∀ (vs : List Value) (w : World) (b o i : Nat) (cs : List Value), Has w b cs → o + i + vs.length ≤ cs.length → (∀ v ∈ vs, v.oneCell' = true) →
    ∃ w', (storeCells ⟨b, o, none⟩ vs i).run P w = .ok () w' ∧ Has w' b (splice cs (o + i) vs) ∧ Keeps [b] w w'
  | [], w, b, o, i, cs, h, _, _ => ⟨w, rfl, by rw [splice_nil]; exact h, .refl⟩
  | v :: vs, w, b, o, i, cs, h, hl, hv => by
    simp only [List.length_cons] at hl
    have hlt : o + i < cs.length := by omega
    have hadd : Addr.add ⟨b, o, none⟩ i = ⟨b, o + i, none⟩ := by
      unfold Addr.add
      split
      · rename_i h0; simp [h0]
      · rfl
    have h1 := run_store P w ⟨b, o + i, none⟩ v .plain (hv v List.mem_cons_self)
    rw [h.cell (List.getElem?_eq_getElem hlt), h.unfrozen hlt] at h1
    simp only [Bool.false_eq_true, if_false] at h1
    obtain ⟨w', h2, h3, h4⟩ := storeCells_run vs (w.setCell ⟨b, o + i, none⟩ v) b o (i + 1) (cs.set (o + i) v) h.setCell (by simp; omega) fun x hx => hv x (List.mem_cons_of_mem _ hx)
    refine ⟨w', ?_, ?_, (setCell_keeps w b (o + i) v).trans h4⟩
    · unfold storeCells
      simp only [Sem.run_bind, hadd, h1, Result.andThen_ok]
      exact h2
    · rw [← Nat.add_assoc, splice_cons hlt] at h3
      exact h3

theorem loadCellsFrom_run {P : Program} {w : World} {b : Nat} {cs : List Value} (h : Has w b cs) : ∀ (n o i : Nat) (acc : Array Value), o + i + n ≤ cs.length →
    (loadCellsFrom ⟨b, o, none⟩ i n acc).run P w = .ok (acc ++ (⟨(cs.drop (o + i)).take n⟩ : Array Value)) w
  | 0, o, i, acc, _ => by simp [loadCellsFrom]
  | n + 1, o, i, acc, hl => by
    have hlt : o + i < cs.length := by omega
    have hadd : Addr.add ⟨b, o, none⟩ i = ⟨b, o + i, none⟩ := by
      unfold Addr.add
      split
      · rename_i h0; simp [h0]
      · rfl
    unfold loadCellsFrom
    simp only [Sem.run_bind, hadd, run_load, h.cell (List.getElem?_eq_getElem hlt), Result.andThen_ok]
    rw [loadCellsFrom_run h n o (i + 1) _ (by omega)]
    congr 1
    apply Array.ext'
    rw [List.drop_eq_getElem_cons hlt]
    simp [Nat.add_assoc]

theorem loadCells_run {P : Program} {w : World} {b n o : Nat} {cs : List Value} (h : Has w b cs) (hl : o + n ≤ cs.length) :
    (loadCells ⟨b, o, none⟩ n).run P w = .ok (⟨(cs.drop o).take n⟩ : Array Value) w := by
  unfold loadCells
  rw [loadCellsFrom_run h n o 0 #[] (by omega)]
  simp

/-- A struct's field's first cell, where it takes at least one. -/
def fieldOff (P : Program) (s : TypeId) (i : Nat) : Option Nat := match P.underlying s with
  | some (.struct fs) => match fs[i]? with
    | some f => match P.info? f.type with
      | some inf => bif Nat.beq inf.size 0 then none else some f.offset
      | none => none
    | none => none
  | _ => none

/-- A type of one cell. -/
def oneTy (P : Program) (t : TypeId) : Bool := match P.underlying t with
  | some (.struct _) => false
  | some (.array _ _) => false
  | some _ => match P.info? t with
    | some inf => Nat.beq inf.size 1
    | none => false
  | none => false

/-- The cells of a struct or an array. -/
def aggTy (P : Program) (t : TypeId) : Option Nat := match P.underlying t with
  | some (.struct _) => (P.info? t).map (·.size)
  | some (.array _ _) => (P.info? t).map (·.size)
  | _ => none

def zeroTy (P : Program) (t : TypeId) : Option (Value × Nat) := match P.info? t with
  | some inf => match inf.zero with
    | some v => some (v, inf.size)
    | none => none
  | none => none

section

variable {P : Program} {w : World}

theorem size_run {t s : Nat} (h : (P.info? t).map (·.size) = some s) : (sizeOf t).run P w = .ok s w := by
  cases hi : P.info? t with
  | none => rw [hi] at h; cases h
  | some i =>
    rw [hi] at h
    simp only [Option.map_some, Option.some.injEq] at h
    simp [sizeOf, typeInfo, hi, h]

theorem oneTy_spec {t : TypeId} (h : oneTy P t = true) : (isAgg t).run P w = .ok false w ∧ (P.info? t).map (·.size) = some 1 := by
  unfold oneTy at h
  split at h
  · cases h
  · cases h
  · rename_i d hd1 hd2 hu
    cases hi : P.info? t with
    | none => rw [hi] at h; cases h
    | some inf =>
      rw [hi] at h
      have hs := Nat.eq_of_beq_eq_true h
      refine ⟨?_, by simp [hs]⟩
      unfold isAgg
      simp only [Sem.run_bind, run_under hu, Result.andThen_ok]
      cases d <;> first | rfl | (exact (hd1 _ hu).elim) | (exact (hd2 _ _ hu).elim)
  · cases h

theorem aggTy_spec {t s : Nat} (h : aggTy P t = some s) : (isAgg t).run P w = .ok true w ∧ (P.info? t).map (·.size) = some s := by
  unfold aggTy at h
  split at h
  · rename_i fs hu
    refine ⟨?_, h⟩
    unfold isAgg
    simp only [Sem.run_bind, run_under hu, Result.andThen_ok]
    rfl
  · rename_i l e hu
    refine ⟨?_, h⟩
    unfold isAgg
    simp only [Sem.run_bind, run_under hu, Result.andThen_ok]
    rfl
  · cases h

theorem zeroTy_spec {t s : Nat} {v : Value} (h : zeroTy P t = some (v, s)) : (zeroValue t).run P w = .ok v w ∧ (P.info? t).map (·.size) = some s := by
  unfold zeroTy at h
  cases hi : P.info? t with
  | none => rw [hi] at h; cases h
  | some inf =>
    rw [hi] at h
    cases hz : inf.zero with
    | none => simp only [hz] at h; cases h
    | some z =>
      simp only [hz, Option.some.injEq, Prod.mk.injEq] at h
      obtain ⟨rfl, rfl⟩ := h
      simp [zeroValue, typeInfo, hi, hz]

end

end Go.Kf

namespace Go.Kf

open Go

/-- The operation yields v in whatever world. -/
def Val (P : Program) (ρ : Nat → Value) (o : Op) (v : Value) : Prop := ∀ w, runOp P ρ o w = .ok (.value v) w

def goFn (P : Program) (f : FuncId) : Bool := match P.funcs[f]? with
  | some fn => fn.body.isSome && !(fn.name == "runtime.NumGoroutine")
  | none => false

/-- The function, called so, returns, and then this holds. -/
def Gives (P : Program) (f : FuncId) (args : List Value) (w : World) (Post : Value → World → Prop) : Prop :=
  goFn P f = true ∧ Calls P f ⟨args⟩ w fun e w' => match e with
    | .returned v => Post v w'
    | _ => False

theorem Gives.mono {P : Program} {f : FuncId} {args : List Value} {w : World} {Q Q' : Value → World → Prop} (h : Gives P f args w Q) (hq : ∀ v w', Q v w' → Q' v w') : Gives P f args w Q' :=
  ⟨h.1, Calls.mono h.2 fun e w' he => by
    cases e with
    | returned v => exact hq v w' he
    | panicked c => exact he
    | outgrown => exact he⟩

/-- A function by its tree. -/
theorem gives_of_tree {P : Program} {f : FuncId} {args : List Value} {w : World} {Post : Value → World → Prop} {fn : Func} {orc : Nat → Option Value} {ps : List Operand} {n : Nat} {ρ : Nat → Value} {T : Tr}
    (hf : P.funcs[f]? = some fn) (hg : goFn P f = true) (hmix : P.follows .mixedOrders = true) (hn : args.length ≤ fn.ntmps) (hT : treeOf fn orc ps n = T)
    (hp : ps.map (ev ρ) = args) (hb : ∀ x ∈ ps, opBelow n x) (h : T.sem P Post [] n ρ w) : Gives P f args w Post :=
  ⟨hg, calls_of_tree (args := ⟨args⟩) hf hmix hn hp hb (by rw [hT]; exact h)⟩

section

variable {P : Program} {ρ : Nat → Value} {R : Value → World → Prop} {Γ : List (List Value → World → Prop)} {n : Nat} {w w' : World} {k : Tr} {o : Op} {v : Value} {F : List (Op × Nat)}

theorem s_val (h : Val P ρ o v) (hk : k.sem P R Γ (n + 1) (ext ρ n [v]) w) : (Tr.op o none [] k).sem P R Γ n ρ w := by
  simp only [Tr.sem]
  rw [h w]
  exact ⟨fun u hu => (by cases hu), fun p hp => (by cases hp), hk⟩

theorem p_val (h : Val P ρ o v) (hk : k.sem P R Γ (n + 1) (ext ρ n [v]) w) : (Tr.pur o none k).sem P R Γ n ρ w := ⟨v, h, fun u hu => (by cases hu), hk⟩

theorem s_lok (h : runOp P ρ o w = .ok (.value v) w) (hk : k.sem P R Γ (n + 1) (ext ρ n [v]) w) : (Tr.op o none [] k).sem P R Γ n ρ w := by
  simp only [Tr.sem]
  rw [h]
  exact ⟨fun u hu => (by cases hu), fun p hp => (by cases hp), hk⟩

theorem l_lok (h : runOp P ρ o w = .ok (.value v) w) (hk : k.sem P R Γ (n + 1) (ext ρ n [v]) w) : (Tr.lok o none k).sem P R Γ n ρ w := ⟨v, h, fun u hu => (by cases hu), hk⟩

theorem s_act (h : runOp P ρ o w = .ok (.value v) w') (hF : ∀ p ∈ F, runOp P ρ p.1 w' = .ok (.value (ρ p.2)) w') (hk : k.sem P R Γ (n + 1) (ext ρ n [v]) w') : (Tr.op o none F k).sem P R Γ n ρ w := by
  simp only [Tr.sem]
  rw [h]
  exact ⟨fun u hu => (by cases hu), hF, hk⟩

theorem s_unit (h : runOp P ρ o w = .ok .skip w') (hF : ∀ p ∈ F, runOp P ρ p.1 w' = .ok (.value (ρ p.2)) w') (hk : k.sem P R Γ (n + 1) (ext ρ n [undef]) w') : (Tr.op o none F k).sem P R Γ n ρ w := by
  simp only [Tr.sem]
  rw [h]
  exact ⟨fun u hu => (by cases hu), hF, hk⟩

/-- A value that the tree knows. -/
theorem s_known {u : Value} (h : runOp P ρ o w = .ok (.value u) w) (hk : k.sem P R Γ (n + 1) (ext ρ n [u]) w) : (Tr.op o (some u) [] k).sem P R Γ n ρ w := by
  simp only [Tr.sem]
  rw [h]
  exact ⟨fun x hx => (by cases hx; rfl), fun p hp => (by cases hp), hk⟩

def callOp (f : FuncId) (xs : List Operand) : Op := .call { callee := .value (.func f), args := ⟨xs⟩, argTypes := #[] }

theorem run_call {f : FuncId} {xs : List Operand} (h : goFn P f = true) : runOp P ρ (callOp f xs) w = .ok (.enter f ⟨xs.map (ev ρ)⟩) w := by
  unfold goFn at h
  cases hf : P.funcs[f]? with
  | none => rw [hf] at h; cases h
  | some fn =>
    rw [hf] at h
    simp only [Bool.and_eq_true, Bool.not_eq_true'] at h
    have hb : fn.body.isNone = false := by
      cases hx : fn.body with
      | none => rw [hx] at h; cases h.1
      | some c => rfl
    unfold runOp callOp bareOp
    simp only [execOp, resolve, ev, Deferred.ofValue, pure_bind, invoke, callFunc, Sem.run_bind, run_program, Result.andThen_ok, hf, h.2, hb]
    simp

theorem s_call {f : FuncId} {xs : List Operand} {Post : Value → World → Prop} (h : Gives P f (xs.map (ev ρ)) w Post)
    (hk : ∀ v w', Post v w' → (∀ p ∈ F, runOp P ρ p.1 w' = .ok (.value (ρ p.2)) w') ∧ k.sem P R Γ (n + 1) (ext ρ n [v]) w') : (Tr.op (callOp f xs) none F k).sem P R Γ n ρ w := by
  simp only [Tr.sem]
  rw [run_call h.1]
  refine Calls.mono h.2 fun e w' he => ?_
  cases e with
  | returned v => exact ⟨fun u hu => (by cases hu), hk v w' he⟩
  | panicked c => exact he
  | outgrown => exact he

theorem s_call0 {f : FuncId} {xs : List Operand} {Post : Value → World → Prop} (h : Gives P f (xs.map (ev ρ)) w Post)
    (hk : ∀ v w', Post v w' → k.sem P R Γ (n + 1) (ext ρ n [v]) w') : (Tr.op (callOp f xs) none [] k).sem P R Γ n ρ w :=
  s_call h fun v w' hp => ⟨fun p hp => (by cases hp), hk v w' hp⟩

theorem s_cond {x : Operand} {b : Bool} {t e : Tr} (h : ev ρ x = .bool b) (ht : b = true → t.sem P R Γ n ρ w) (he : b = false → e.sem P R Γ n ρ w) : (Tr.cond x t e).sem P R Γ n ρ w := ⟨b, h, ht, he⟩

theorem s_ret0 (h : R (.tuple #[]) w) : (Tr.ret []).sem P R Γ n ρ w := ⟨[], rfl, h⟩

theorem s_ret1 {x : Operand} (h : R (ev ρ x) w) : (Tr.ret [(x, none)]).sem P R Γ n ρ w := ⟨[ev ρ x], rfl, h⟩

theorem v_nilCheck {x : Operand} {a : Addr} (h : ev ρ x = .pointer (some a)) : Val P ρ (.nilCheck x) (.pointer (some a)) := fun w => by
  unfold runOp bareOp
  simp only [execOp, h]
  rfl

theorem v_field {s i off : Nat} {x : Operand} {b o : Nat} (ht : fieldOff P s i = some off) (h : ev ρ x = .pointer (some ⟨b, o, none⟩)) : Val P ρ (.fieldAddr s x i) (.pointer (some ⟨b, o + off, none⟩)) := fun w => by
  unfold fieldOff at ht
  split at ht
  · rename_i fs hu
    cases hf : fs[i]? with
    | none => simp only [hf] at ht; cases ht
    | some f =>
      simp only [hf] at ht
      cases hi : P.info? f.type with
      | none => simp only [hi] at ht; cases ht
      | some inf =>
        simp only [hi] at ht
        cases hz : Nat.beq inf.size 0 with
        | true => simp only [hz] at ht; cases ht
        | false =>
          simp only [hz, cond, Option.some.injEq] at ht
          have hne : inf.size ≠ 0 := fun e => by rw [e] at hz; cases hz
          unfold runOp bareOp
          simp only [execOp, h, Instr.fieldAt, Sem.run_bind, run_under hu, Result.andThen_ok, hf, Instr.sureAddr, Sem.run_pure, fieldPlace, size_run (P := P) (t := f.type) (s := inf.size) (by simp [hi])]
          rw [if_neg hne]
          simp only [Sem.run_pure, Result.andThen_ok]
          rw [ht]
          congr 4
          unfold Addr.add
          split
          · rename_i h0; simp [h0]
          · rfl
  · cases ht

theorem v_len {t e : Nat} {x : Operand} {a : Option Addr} {l c : Nat} (ht : P.underlying t = some (.slice e)) (h : ev ρ x = .slice a l c) :
    Val P ρ (.call { callee := .builtin .len, args := ⟨[x]⟩, argTypes := ⟨[t]⟩ }) (.int .i64 l) := fun w => by
  unfold runOp bareOp
  simp only [execOp, resolve, pure_bind, invoke, builtin, Builtin.len_]
  simp [run_under ht, h, goInt]

theorem v_lenString {t : Nat} {x : Operand} {s : ByteArray} (ht : P.underlying t = some .string) (h : ev ρ x = .string s) :
    Val P ρ (.call { callee := .builtin .len, args := ⟨[x]⟩, argTypes := ⟨[t]⟩ }) (.int .i64 s.size) := fun w => by
  unfold runOp bareOp
  simp only [execOp, resolve, pure_bind, invoke, builtin, Builtin.len_]
  simp [run_under ht, h, goInt]

def cmpOf (op : BinOp) (a b : Int) : Option Bool := match op with
  | .eql => some (a == b)
  | .neq => some (a != b)
  | .lss => some (decide (a < b))
  | .leq => some (decide (a ≤ b))
  | .gtr => some (decide (a > b))
  | .geq => some (decide (a ≥ b))
  | _ => none

theorem v_cmp {op : BinOp} {t u : Nat} {x y : Operand} {kk : IntKind} {a b : Int} {r : Bool} (hx : ev ρ x = .int kk a) (hy : ev ρ y = .int kk b) (h : cmpOf op a b = some r) : Val P ρ (.binOp op t x y u) (.bool r) := fun w => by
  unfold runOp bareOp
  simp only [execOp, hx, hy]
  cases op <;> simp only [cmpOf, Option.some.injEq] at h <;> first
    | (subst h; simp [eqGuard, binOp, Op.intCmp]; done)
    | (cases h; done)

def arithOf (op : BinOp) (kk : IntKind) (a b : Int) : Option Int := match op with
  | .add => some (kk.wrap (a + b))
  | .sub => some (kk.wrap (a - b))
  | .mul => some (kk.wrap (a * b))
  | _ => none

theorem v_arith {op : BinOp} {t u : Nat} {x y : Operand} {kk : IntKind} {a b r : Int} (hx : ev ρ x = .int kk a) (hy : ev ρ y = .int kk b) (h : arithOf op kk a b = some r) : Val P ρ (.binOp op t x y u) (.int kk r) := fun w => by
  unfold runOp bareOp
  simp only [execOp, hx, hy]
  cases op <;> simp only [arithOf, Option.some.injEq] at h <;> first
    | (subst h; simp [eqGuard, binOp, Op.intArith]; done)
    | (cases h; done)

theorem v_not {t : Nat} {x : Operand} {b : Bool} (hx : ev ρ x = .bool b) : Val P ρ (.unOp .not t x) (.bool (!b)) := fun w => by
  unfold runOp bareOp
  simp only [execOp, hx]
  simp [Op.unary]

theorem v_conv {s d : Nat} {x : Operand} {k1 k2 : IntKind} {d1 : TypeDesc} {a : Int} (hs : P.underlying s = some d1) (hd : P.underlying d = some (.int k2)) (hx : ev ρ x = .int k1 a) : Val P ρ (.convert s d x) (.int k2 (k2.wrap a)) := fun w => by
  unfold runOp bareOp
  simp only [execOp, hx, convert, Sem.run_bind, run_under hs, run_under hd, Result.andThen_ok]
  simp [Conv.intToInt]

theorem v_extract {x : Operand} {i : Nat} {vs : Array Value} {v : Value} (hx : ev ρ x = .tuple vs) (hi : vs[i]? = some v) : Val P ρ (.extract x i) v := fun w => by
  unfold runOp bareOp
  simp only [execOp, hx, Instr.extract, hi]
  rfl

theorem v_makeFunc {f : Fn} {a b : List Operand} : Val P ρ (.makeFunc f ⟨a⟩ ⟨b⟩) (.func f ⟨a.map (ev ρ)⟩ ⟨b.map (ev ρ)⟩) := fun w => by
  unfold runOp bareOp
  simp only [execOp, Instr.makeFunc]
  simp

theorem v_indexAddr {t e sz : Nat} {x i : Operand} {b o l c : Nat} {kk : IntKind} {j : Int} (ht : P.underlying t = some (.slice e)) (hs : (P.info? e).map (·.size) = some sz) (hx : ev ρ x = .slice (some ⟨b, o, none⟩) l c)
    (hi : ev ρ i = .int kk j) (h0 : 0 ≤ j) (hl : j < l) : Val P ρ (.indexAddr t x i) (.pointer (some ⟨b, o + j.toNat * sz, none⟩)) := fun w => by
  unfold runOp bareOp
  simp only [execOp, hx, hi, Instr.indexAt, asIntOf, Sem.run_bind, Sem.run_pure, run_under ht, Result.andThen_ok]
  rw [if_pos ⟨h0, hl⟩]
  simp only [Sem.run_bind, size_run hs, Result.andThen_ok, Sem.run_pure]
  congr 4
  unfold Addr.add
  split
  · rename_i h0; simp [h0]
  · rfl

/-- '==' by a law on the values' meeting at whatever depth. -/
theorem v_equal {op : BinOp} {t u : Nat} {x y : Operand} {a b : Value} {q r : Bool} (hx : ev ρ x = a) (hy : ev ρ y = b) (hg : ∀ w, (eqGuard op t x y a b).run P w = .ok () w) (hop : op = .eql ∨ op = .neq)
    (hb : binOp op t a b = (match op with
      | .eql => do pure (.bool (← Op.equal t a b))
      | _ => do pure (.bool (!(← Op.equal t a b))))) (he : ∀ d w, (Op.equalIn (d + 1) t a b).run P w = .ok q w) (h : r = (match op with
      | .eql => q
      | _ => !q)) : Val P ρ (.binOp op t x y u) (.bool r) := fun w => by
  unfold runOp bareOp
  simp only [execOp, hx, hy, hb]
  have e : (Op.equal t a b).run P w = .ok q w := he 9999 w
  rcases hop with rfl | rfl
  · simp only [Sem.run_bind, hg, Result.andThen_ok, e, Sem.run_pure, h]
  · simp only [Sem.run_bind, hg, Result.andThen_ok, e, Sem.run_pure, h]

theorem v_eqlPtr {op : BinOp} {t e u : Nat} {x y : Operand} {a : Option Addr} {r : Bool} (ht : P.underlying t = some (.pointer e)) (hx : ev ρ x = .pointer a) (hy : ev ρ y = .pointer none)
    (h : (op = .eql ∧ r = a.isNone) ∨ (op = .neq ∧ r = !a.isNone)) : Val P ρ (.binOp op t x y u) (.bool r) := by
  refine v_equal (q := a.isNone) hx hy (fun w => ?_) (h.imp And.left And.left) ?_ (fun d w => ?_) ?_
  · rcases h with ⟨rfl, _⟩ | ⟨rfl, _⟩ <;> rfl
  · rcases h with ⟨rfl, _⟩ | ⟨rfl, _⟩ <;> rfl
  · cases a <;> simp [Op.equalIn, run_under ht]
  · rcases h with ⟨rfl, h⟩ | ⟨rfl, h⟩ <;> exact h

theorem v_eqlMap {op : BinOp} {t kt e u : Nat} {x y : Operand} {a : Option Nat} {r : Bool} (ht : P.underlying t = some (.map kt e)) (hx : ev ρ x = .map a) (hy : ev ρ y = .map none)
    (h : (op = .eql ∧ r = a.isNone) ∨ (op = .neq ∧ r = !a.isNone)) : Val P ρ (.binOp op t x y u) (.bool r) := by
  refine v_equal (q := a.isNone) hx hy (fun w => ?_) (h.imp And.left And.left) ?_ (fun d w => ?_) ?_
  · rcases h with ⟨rfl, _⟩ | ⟨rfl, _⟩ <;> rfl
  · rcases h with ⟨rfl, _⟩ | ⟨rfl, _⟩ <;> rfl
  · cases a <;> simp [Op.equalIn, run_under ht]
  · rcases h with ⟨rfl, h⟩ | ⟨rfl, h⟩ <;> exact h

theorem l_load1 {t : Nat} {x : Operand} {b o : Nat} {cs : List Value} {v : Value} (ht : oneTy P t = true) (hx : ev ρ x = .pointer (some ⟨b, o, none⟩)) (hb : Has w b cs) (hv : cs[o]? = some v) :
    runOp P ρ (.load t x) w = .ok (.value v) w := by
  unfold runOp bareOp
  simp only [execOp, hx, Instr.loadAt, Instr.sureAddr, loadVar, Sem.run_bind, Sem.run_pure, Result.andThen_ok, (oneTy_spec (w := w) ht).1, Bool.false_eq_true, if_false, run_load, hb.cell hv]

theorem l_loadN {t s : Nat} {x : Operand} {b o : Nat} {cs : List Value} (ht : aggTy P t = some s) (hx : ev ρ x = .pointer (some ⟨b, o, none⟩)) (hb : Has w b cs) (hl : o + s ≤ cs.length) :
    runOp P ρ (.load t x) w = .ok (.value (.agg ⟨(cs.drop o).take s⟩)) w := by
  have h1 := aggTy_spec (w := w) ht
  unfold runOp bareOp
  simp only [execOp, hx, Instr.loadAt, Instr.sureAddr, loadVar, Sem.run_bind, Sem.run_pure, Result.andThen_ok, h1.1, if_true, size_run h1.2, loadCells_run hb hl]

theorem a_storeCells {t : Nat} {x y : Operand} {b o : Nat} {cs vs : List Value} (ht : (P.info? t).map (·.size) = some vs.length) (hx : ev ρ x = .pointer (some ⟨b, o, none⟩)) (hy : (ev ρ y).cells = ⟨vs⟩) (hb : Has w b cs)
    (hl : o + vs.length ≤ cs.length) (hv : ∀ v ∈ vs, v.oneCell' = true) : ∃ w', runOp P ρ (.store t x y) w = .ok .skip w' ∧ Has w' b (splice cs o vs) ∧ Keeps [b] w w' := by
  obtain ⟨w', h1, h2, h3⟩ := storeCells_run (P := P) vs w b o 0 cs hb (by omega) hv
  refine ⟨w', ?_, h2, h3⟩
  unfold runOp bareOp
  simp only [execOp, hx, Instr.storeAt, Instr.sureAddr, storeVar, Sem.run_bind, Sem.run_pure, Result.andThen_ok, size_run ht, hy]
  rw [if_neg (by simp)]
  rw [h1]
  rfl

theorem splice_one (cs : List Value) (o : Nat) (v : Value) (h : o < cs.length) : splice cs o [v] = cs.set o v := by
  rw [← splice_cons h, splice_nil]

theorem a_store1 {t : Nat} {x y : Operand} {b o : Nat} {cs : List Value} {v : Value} (ht : oneTy P t = true) (hx : ev ρ x = .pointer (some ⟨b, o, none⟩)) (hy : ev ρ y = v) (hv : v.oneCell' = true) (hb : Has w b cs)
    (hl : o < cs.length) : ∃ w', runOp P ρ (.store t x y) w = .ok .skip w' ∧ Has w' b (cs.set o v) ∧ Keeps [b] w w' := by
  have h := a_storeCells (P := P) (ρ := ρ) (w := w) (t := t) (x := x) (y := y) (b := b) (o := o) (cs := cs) (vs := [v]) (oneTy_spec (w := w) ht).2 hx (by rw [hy]; cases v <;> first | rfl | (cases hv; done)) hb (by simp; omega) (by simpa using hv)
  rw [splice_one cs o v hl] at h
  exact h

theorem a_alloc {t s : Nat} {z : Value} (ht : zeroTy P t = some (z, s)) : ∃ w', runOp P ρ (.alloc t) w = .ok (.value (.pointer (some ⟨w.heap.size, 0, none⟩))) w' ∧ Has w' w.heap.size z.cells.toList ∧ Keeps [] w w' ∧ w'.heap.size = w.heap.size + 1 := by
  refine ⟨{ w with heap := w.heap.push (.cells ⟨z.cells.toList⟩ t) }, ?_, has_alloc w _ t, keeps_alloc w _ _, by simp⟩
  unfold runOp bareOp
  simp only [execOp, Instr.alloc, Sem.run_bind, (zeroTy_spec (w := w) ht).1, Result.andThen_ok, newVar, newRow, run_newObj, Sem.run_pure]

theorem a_box {t : Nat} {x : Operand} {v : Value} (hx : ev ρ x = v) : ∃ w', runOp P ρ (.box t x) w = .ok (.value (.pointer (some ⟨w.heap.size, 0, none⟩))) w' ∧ Has w' w.heap.size v.cells.toList ∧ Keeps [] w w' ∧ w'.heap.size = w.heap.size + 1 := by
  refine ⟨{ w with heap := w.heap.push (.cells ⟨v.cells.toList⟩ t) }, ?_, has_alloc w _ t, keeps_alloc w _ _, by simp⟩
  unfold runOp bareOp
  simp only [execOp, Instr.box, hx, Sem.run_bind, newVar, newRow, run_newObj, Sem.run_pure, Result.andThen_ok]

end

end Go.Kf


namespace Go.Kf

open Go

/-- The slice v owns its row: n elements of sz cells each, and spare cells behind. -/
def Own (w : World) (v : Value) (sz n : Nat) (xs : List Value) : Prop :=
  xs.length = n * sz ∧ ((v = .slice none 0 0 ∧ n = 0) ∨ ∃ b cap spare, v = .slice (some ⟨b, 0, none⟩) n cap ∧ Has w b (xs ++ spare) ∧ n ≤ cap ∧ cap < 2 ^ 63 ∧ (xs ++ spare).length = cap * sz)

/-- The block of a slice's row. -/
def blkOf : Value → List Nat
  | .slice (some a) _ _ => [a.block]
  | _ => []

theorem Own.nil (w : World) (sz : Nat) : Own w (.slice none 0 0) sz 0 [] := ⟨by simp, .inl ⟨rfl, rfl⟩⟩

theorem Own.lt {w : World} {v : Value} {sz n : Nat} {xs : List Value} (h : Own w v sz n xs) : ∀ b ∈ blkOf v, b < w.heap.size := by
  intro b hb
  rcases h.2 with ⟨rfl, _⟩ | ⟨b', cap, spare, rfl, hh, _⟩
  · cases hb
  · simp only [blkOf, List.mem_singleton] at hb
    subst hb
    exact hh.lt

theorem Own.keep {w w' : World} {v : Value} {sz n : Nat} {xs : List Value} {M : List Nat} (h : Own w v sz n xs) (hk : Keeps M w w') (hm : ∀ b ∈ blkOf v, b ∉ M) : Own w' v sz n xs := by
  refine ⟨h.1, ?_⟩
  rcases h.2 with hn | ⟨b, cap, spare, rfl, hh, hr⟩
  · exact .inl hn
  · exact .inr ⟨b, cap, spare, rfl, hh.keep hk (hm b (by simp [blkOf])), hr⟩

/-- The slice v reads as these cells (wherever they lie, nil included). -/
def Reads (w : World) (v : Value) (sz n : Nat) (xs : List Value) : Prop :=
  xs.length = n * sz ∧ ((v = .slice none 0 0 ∧ n = 0) ∨ ∃ b o cap cs, v = .slice (some ⟨b, o, none⟩) n cap ∧ n ≤ cap ∧ Has w b cs ∧ o + n * sz ≤ cs.length ∧ (cs.drop o).take (n * sz) = xs)

theorem Reads.keep {w w' : World} {v : Value} {sz n : Nat} {xs : List Value} {M : List Nat} (h : Reads w v sz n xs) (hk : Keeps M w w') (hm : ∀ b ∈ blkOf v, b ∉ M) : Reads w' v sz n xs := by
  refine ⟨h.1, ?_⟩
  rcases h.2 with hn | ⟨b, o, cap, cs, rfl, hc, hh, hr⟩
  · exact .inl hn
  · exact .inr ⟨b, o, cap, cs, rfl, hc, hh.keep hk (hm b (by simp [blkOf])), hr⟩

theorem Reads.lt {w : World} {v : Value} {sz n : Nat} {xs : List Value} (h : Reads w v sz n xs) : ∀ b ∈ blkOf v, b < w.heap.size := by
  intro b hb
  rcases h.2 with ⟨rfl, _⟩ | ⟨b', o, cap, cs, rfl, _, hh, _⟩
  · cases hb
  · simp only [blkOf, List.mem_singleton] at hb
    subst hb
    exact hh.lt

theorem Own.reads {w : World} {v : Value} {sz n : Nat} {xs : List Value} (h : Own w v sz n xs) : Reads w v sz n xs := by
  refine ⟨h.1, ?_⟩
  rcases h.2 with hn | ⟨b, cap, spare, rfl, hh, hc, _, hl⟩
  · exact .inl hn
  · refine .inr ⟨b, 0, cap, _, rfl, hc, hh, ?_, ?_⟩
    · rw [← h.1]; simp
    · simp [← h.1]

theorem addr_add (b o i : Nat) : Addr.add ⟨b, o, none⟩ i = ⟨b, o + i, none⟩ := by
  unfold Addr.add
  split
  · rename_i h0; simp [h0]
  · rfl

section

variable {P : Program} {ρ : Nat → Value} {w : World}

theorem Reads.src {x : Value} {sz m tx e : Nat} {ys : List Value} (h : Reads w x sz m ys) (ht : P.underlying tx = some (.slice e)) (h1 : ∀ u ∈ ys, u.oneCell' = true) : Src P sz tx x m ys w := by
  rcases h.2 with ⟨rfl, rfl⟩ | ⟨b, o, cap, cs, rfl, _, hh, hl, rfl⟩
  · have : ys = [] := List.eq_nil_of_length_eq_zero (by simpa using h.1)
    subst this
    exact Src.ofNil w ht 0
  · refine Src.ofSlice w ht ⟨b, o, none⟩ m cap _ h.1 (fun j u hu => ?_) h1
    rw [addr_add]
    refine hh.cell ?_
    rw [List.getElem?_take] at hu
    split at hu
    · rw [List.getElem?_drop] at hu; exact hu
    · cases hu

theorem setCells_ok {b o : Nat} {cs : List Value} (h : Has w b cs) : ∀ (ys : List Value), o + ys.length ≤ cs.length → (∀ u ∈ ys, u.oneCell' = true) → ∃ w', (storeCells ⟨b, o, none⟩ ys).run P w = .ok () w' ∧ Has w' b (splice cs o ys) ∧ Keeps [b] w w' :=
  fun ys hl h1 => storeCells_run ys w b o 0 cs h (by omega) h1

/-- append, whatever is appended. -/
theorem append_own {t tx ty e : TypeId} {inf : TypeInfo} {z : Value} {sz m n : Nat} {v x : Value} {xs ys : List Value} (ht : P.underlying t = some (.slice e)) (hi : P.info? e = some inf) (hz : inf.zero = some z) (hsz : inf.size = sz)
    (hzc : z.cells.size = sz) (ho : Own w v sz n xs) (hs : Src P sz tx x m ys w) (hb : (n + m) * inf.bytes ≤ 140737488355328) (h63 : n + m < 2 ^ 63) :
    ∃ v' w', (Builtin.append_ ⟨[t, tx]⟩ ty ⟨[v, x]⟩).run P w = .ok v' w' ∧ Own w' v' sz (n + m) (xs ++ ys) ∧ Keeps (blkOf v) w w' ∧ (∀ b ∈ blkOf v', b ∈ blkOf v ∨ w.heap.size ≤ b) := by
  subst hsz
  have hlen : (xs ++ ys).length = (n + m) * inf.size := by rw [List.length_append, ho.1, hs.newsLen, Nat.add_mul]
  have grow : ∀ (base : Option Addr) (cap : Nat), v = .slice base n cap → (Builtin.firstCells inf.size n (.slice base n cap)).run P w.drew = .ok xs.toArray w.drew → cap < n + m →
      ∃ v' w', (Builtin.append_ ⟨[t, tx]⟩ ty ⟨[v, x]⟩).run P w = .ok v' w' ∧ Own w' v' inf.size (n + m) (xs ++ ys) ∧ Keeps (blkOf v) w w' ∧ (∀ b ∈ blkOf v', b ∈ blkOf v ∨ w.heap.size ≤ b) := by
    intro base cap hv hold hg
    have h := run_append_grow_src (P := P) w t tx ty e inf z ht hi hz base n cap xs hold x m ys hs hg (by omega) (growslice_fits hg hb)
    have hge := grownCap_ge w (n + m) cap e
    have hlt : grownCap w (n + m) cap e < 2 ^ 63 := by
      have := grownCap_le_maxLen w (n + m) cap e (by simp only [maxLen]; omega)
      simp only [maxLen] at this
      omega
    refine ⟨_, _, by rw [hv]; exact h, ⟨hlen, .inr ⟨w.heap.size, _, (Builtin.zeroCells z.cells (grownCap w (n + m) cap e - (n + m))).toList, rfl, ?_, hge, hlt, ?_⟩⟩, ?_, fun b hb => ?_⟩
    · refine ⟨e, (0, 0), ?_, .inl (Nat.le_refl _)⟩
      show (w.heap.push _)[w.heap.size]? = _
      rw [Array.getElem?_push, if_pos rfl]
      congr 2
      apply Array.ext'
      simp
    · rw [List.length_append, hlen, Array.length_toList]
      simp only [Builtin.zeroCells, Array.size_map, Array.size_range, hzc]
      rw [← Nat.add_mul]
      congr 1
      omega
    · exact (keeps_drawn w _ _).trans (keeps_alloc w.drew _ _)
    · simp only [blkOf, List.mem_singleton] at hb
      exact .inr (by rw [hb]; exact Nat.le_refl _)
  rcases ho.2 with ⟨rfl, rfl⟩ | ⟨b, cap, spare, rfl, hh, hc, hc63, hl⟩
  · have hxs : xs = [] := List.eq_nil_of_length_eq_zero (by simpa using ho.1)
    subst hxs
    by_cases hm : m = 0
    · subst hm
      have hys : ys = [] := List.eq_nil_of_length_eq_zero (by simpa using hs.newsLen)
      subst hys
      refine ⟨.slice none 0 0, w, ?_, ⟨by simp, .inl ⟨rfl, rfl⟩⟩, .refl, fun b hb => (by cases hb)⟩
      rcases hs.kind with ⟨e', hk⟩ | hk <;> simp [Builtin.append_, run_underlying ht, run_underlying hk, sizeOf, typeInfo, hi, hs.len, hs.cells]
    · exact grow none 0 rfl (by simpa using run_firstCells_none w.drew inf.size 0 0 0) (by omega)
  · by_cases hg : cap < n + m
    · refine grow (some ⟨b, 0, none⟩) cap rfl ?_ hg
      refine run_firstCells_some w.drew inf.size n ⟨b, 0, none⟩ n cap xs ho.1 fun j u hu => ?_
      rw [addr_add, Nat.zero_add]
      have hh' : Has w.drew b (xs ++ spare) := hh
      exact hh'.cell (by rw [List.getElem?_append_left (List.getElem?_eq_some_iff.1 hu).1]; exact hu)
    · have hroom : n + m ≤ cap := by omega
      have hys : 0 + n * inf.size + ys.length ≤ (xs ++ spare).length := by
        rw [hl, hs.newsLen, Nat.zero_add, ← Nat.add_mul]
        exact Nat.mul_le_mul_right _ hroom
      have hcell : ∀ j, j < ys.length → (w.cell? ⟨b, 0 + n * inf.size + j, none⟩).isSome = true := fun j hj => by
        rw [hh.cell (List.getElem?_eq_getElem (by omega))]; rfl
      have hfr : ∀ j, j < ys.length → w.frozen? ⟨b, 0 + n * inf.size + j, none⟩ = false := fun j hj => hh.unfrozen (by omega)
      have h := run_append_room_src (P := P) w t tx ty e inf ht hi b 0 n cap x m ys hs hroom hcell hfr
      obtain ⟨w', h1, h2, h3⟩ := setCells_ok (P := P) hh (o := 0 + n * inf.size) ys hys hs.one
      have h4 : w.setCells b (0 + n * inf.size) ys = w' := by
        have h5 := run_storeCells_cells (P := P) b (0 + n * inf.size) ys 0 w (by simpa using hcell) (by simpa using hfr) hs.one
        rw [h1] at h5
        injection h5 with _ h6
        simpa using h6.symm
      rw [h4] at h
      refine ⟨_, _, h, ⟨hlen, .inr ⟨b, cap, spare.drop ys.length, rfl, ?_, hroom, hc63, ?_⟩⟩, h3, fun b' hb' => .inl hb'⟩
      · have hsp : splice (xs ++ spare) (0 + n * inf.size) ys = xs ++ ys ++ spare.drop ys.length := by
          unfold splice
          rw [Nat.zero_add, ← ho.1]
          simp
        rw [hsp] at h2
        exact h2
      · have : (xs ++ ys ++ spare.drop ys.length).length = (xs ++ spare).length := by
          have := splice_length hys
          unfold splice at this
          rw [Nat.zero_add, ← ho.1] at this
          simpa using this
        rw [this, hl]

theorem a_append {t tx e : TypeId} {inf : TypeInfo} {z : Value} {sz m n : Nat} {x y : Operand} {v u : Value} {xs ys : List Value} (ht : P.underlying t = some (.slice e)) (hi : P.info? e = some inf) (hz : inf.zero = some z) (hsz : inf.size = sz)
    (hzc : z.cells.size = sz) (hx : ev ρ x = v) (hy : ev ρ y = u) (ho : Own w v sz n xs) (hs : Src P sz tx u m ys w) (hb : (n + m) * inf.bytes ≤ 140737488355328) (h63 : n + m < 2 ^ 63) :
    ∃ v' w', runOp P ρ (.call { callee := .builtin .append, args := ⟨[x, y]⟩, argTypes := ⟨[t, tx]⟩ }) w = .ok (.value v') w' ∧ Own w' v' sz (n + m) (xs ++ ys) ∧ Keeps (blkOf v) w w' ∧ (∀ b ∈ blkOf v', b ∈ blkOf v ∨ w.heap.size ≤ b) := by
  obtain ⟨v', w', h, r⟩ := append_own (ty := 0) ht hi hz hsz hzc ho hs hb h63
  refine ⟨v', w', ?_, r⟩
  unfold runOp bareOp
  simp only [execOp, resolve, pure_bind, invoke, builtin, Sem.run_bind]
  have e1 : (Array.map (ev ρ) ⟨[x, y]⟩ : Array Value) = ⟨[v, u]⟩ := by simp [hx, hy]
  rw [e1, h]
  rfl

end

end Go.Kf





namespace Go.Kf

open Go

/-- Octets as cells. -/
def bcells (l : List UInt8) : List Value := l.map fun b => Value.int .u8 b.toNat

theorem bcells_length (l : List UInt8) : (bcells l).length = l.length := by simp [bcells]

theorem bcells_append (l r : List UInt8) : bcells (l ++ r) = bcells l ++ bcells r := by simp [bcells]

theorem bcells_one (l : List UInt8) : ∀ u ∈ bcells l, u.oneCell' = true := fun u hu => by
  obtain ⟨b, _, rfl⟩ := List.mem_map.1 hu
  rfl

theorem bcells_take (l : List UInt8) (n : Nat) : (bcells l).take n = bcells (l.take n) := by simp [bcells, List.map_take]

theorem bcells_drop (l : List UInt8) (n : Nat) : (bcells l).drop n = bcells (l.drop n) := by simp [bcells, List.map_drop]

/-- A text of these octets. -/
def strOf (l : List UInt8) : ByteArray := ⟨⟨l⟩⟩

section

variable {P : Program} {ρ : Nat → Value} {w : World}

theorem map_add (a : Option Addr) : (a.map fun x => x.add 0) = a := by cases a <;> simp [Addr.add]

/-- s[:h] -/
theorem v_sliceTo {t e sz : Nat} {x y : Operand} {a : Option Addr} {l c : Nat} {k : IntKind} {h : Int} (ht : P.underlying t = some (.slice e)) (hs : (P.info? e).map (·.size) = some sz) (hx : ev ρ x = .slice a l c) (hy : ev ρ y = .int k h)
    (h0 : 0 ≤ h) (hc : h ≤ c) : Val P ρ (.slice t x none (some y) none) (.slice a h.toNat c) := fun w => by
  unfold runOp bareOp
  simp only [execOp, hx, Option.map_some, Option.map_none, hy, Instr.sliceAt, Sem.run_bind, run_under ht, Result.andThen_ok, Instr.slice, Instr.sliceBounds, Sem.run_pure, Instr.sliceBound, asIntOf]
  rw [if_pos ⟨h0, hc⟩]
  simp only [Sem.run_pure, Result.andThen_ok, size_run hs, Nat.zero_mul, Nat.sub_zero, map_add]
  simp

/-- What s[:h:h] reads. -/
theorem Reads.to {v : Value} {sz m n : Nat} {xs : List Value} {a : Option Addr} {c : Nat} (h : Reads w (.slice a n c) sz n xs) (hm : m ≤ n) (c' : Nat) (hc : m ≤ c') (hnil : a = none → c' = 0) (_ : v = .slice a m c') : Reads w v sz m (xs.take (m * sz)) := by
  subst v
  have hms : m * sz ≤ n * sz := Nat.mul_le_mul_right _ hm
  refine ⟨by rw [List.length_take, h.1]; omega, ?_⟩
  rcases h.2 with ⟨hv, rfl⟩ | ⟨b, o, cap, cs, hv, _, hh, hl, hx⟩
  · injection hv with h1 h2 h3
    exact .inl ⟨by rw [h1, hnil h1, Nat.le_zero.1 hm], Nat.le_zero.1 hm⟩
  · injection hv with h1 h2 h3
    subst h1
    refine .inr ⟨b, o, c', cs, rfl, hc, hh, by omega, ?_⟩
    rw [← hx, List.take_take, Nat.min_eq_left hms]

/-- What s[i:] reads. -/
theorem Reads.from {sz i n c : Nat} {xs : List Value} {a : Option Addr} (h : Reads w (.slice a n c) sz n xs) (hi : i ≤ n) :
    Reads w (.slice (if c = i then a else a.map (·.add (i * sz))) (n - i) (c - i)) sz (n - i) (xs.drop (i * sz)) := by
  have hms : i * sz ≤ n * sz := Nat.mul_le_mul_right _ hi
  refine ⟨by rw [List.length_drop, h.1, Nat.sub_mul], ?_⟩
  rcases h.2 with ⟨hv, rfl⟩ | ⟨b, o, cap, cs, hv, hc, hh, hl, hx⟩
  · injection hv with h1 h2 h3
    subst h1; subst h3
    refine .inl ⟨?_, by omega⟩
    have : i = 0 := by omega
    subst this
    simp
  · injection hv with h1 h2 h3
    subst h1; subst h3
    by_cases hci : c = i
    · have : i = n := by omega
      subst this
      have hx0 : xs.drop (i * sz) = [] := List.drop_eq_nil_of_le (by rw [h.1]; exact Nat.le_refl _)
      rw [hx0]
      refine .inr ⟨b, o, c - i, cs, by rw [if_pos hci], by omega, hh, ?_, ?_⟩
      · rw [Nat.sub_self, Nat.zero_mul]; omega
      · rw [Nat.sub_self, Nat.zero_mul]; rfl
    · refine .inr ⟨b, o + i * sz, c - i, cs, ?_, by omega, hh, ?_, ?_⟩
      · rw [if_neg hci]
        simp only [Option.map_some, addr_add]
      · rw [Nat.sub_mul]; omega
      · rw [← hx, ← List.drop_drop, List.drop_take, Nat.sub_mul]

theorem foldl_push : ∀ (l : List UInt8) (s : ByteArray), (l.map fun b : UInt8 => (b.toNat : Int)).foldl (fun r n => r.push (UInt8.ofNat n.toNat)) s = ⟨s.data ++ ⟨l⟩⟩
  | [], s => by simp
  | b :: l, s => by
    simp only [List.map_cons, List.foldl_cons]
    rw [foldl_push l]
    congr 1
    simp [ByteArray.push]

/-- Zero cells over and over. -/
theorem made_flat (z : Array Value) (hz : 0 < z.size) : ∀ n : Nat, (madeCells z (n * z.size)).toList = (List.replicate n z.toList).flatten
  | 0 => by simp [madeCells]
  | n + 1 => by
    have ih := made_flat z hz n
    have h1 : (madeCells z ((n + 1) * z.size)).toList = (madeCells z (n * z.size)).toList ++ z.toList := by
      simp only [madeCells, Array.toList_map, Array.toList_range]
      rw [Nat.add_mul, Nat.one_mul, List.range_add, List.map_append]
      congr 1
      rw [List.map_map]
      apply List.ext_getElem
      · simp
      · intro i h1 h2
        simp only [List.length_map, List.length_range] at h1
        simp only [List.getElem_map, List.getElem_range, Function.comp_apply]
        rw [Nat.mul_comm n, Nat.mul_add_mod, Nat.mod_eq_of_lt h1]
        simp [h1]
    rw [h1, ih, List.replicate_succ', List.flatten_append]
    simp

theorem a_makeSlice {t e : TypeId} {inf : TypeInfo} {z : Value} {x y : Operand} {k1 k2 : IntKind} {l c : Int} (ht : P.underlying t = some (.slice e)) (hi : P.info? e = some inf) (hz : inf.zero = some z) (hzc : z.cells.size = inf.size) (hpos : 0 < inf.size)
    (hx : ev ρ x = .int k1 l) (hy : ev ρ y = .int k2 c) (h0 : 0 ≤ l) (hlc : l ≤ c) (hb : (inf.bytes : Int) * c ≤ 281474976710656) (h63 : c < 2 ^ 63) :
    ∃ w', runOp P ρ (.makeSlice t x y) w = .ok (.value (.slice (some ⟨w.heap.size, 0, none⟩) l.toNat c.toNat)) w' ∧ Has w' w.heap.size (List.replicate c.toNat z.cells.toList).flatten ∧ Keeps [] w w' ∧ w'.heap.size = w.heap.size + 1 := by
  have h := run_make (P := P) w t e inf z ht hi hz k1 k2 l c h0 hlc hb (by omega)
  refine ⟨w.alloc (.cells (madeCells z.cells (c.toNat * inf.size)) e), ?_, ?_, keeps_alloc w _ _, by simp⟩
  · unfold runOp bareOp
    simp only [execOp, hx, hy, Sem.run_bind]
    rw [h]
    rfl
  · have e1 : madeCells z.cells (c.toNat * inf.size) = ⟨(List.replicate c.toNat z.cells.toList).flatten⟩ := by
      apply Array.ext'
      rw [← hzc, made_flat _ (by omega)]
    rw [e1]
    exact has_alloc w _ e

end

end Go.Kf


namespace Go.Kf

open Go

/-- The numbers of the types and variables that are named below. -/
structure Nums where
  tInt : Nat
  tBool : Nat
  tU8 : Nat
  tI8 : Nat
  tI16 : Nat
  tU16 : Nat
  tI32 : Nat
  tU32 : Nat
  tI64 : Nat
  tU64 : Nat
  tUint : Nat
  tStr : Nat
  tBytes : Nat
  tErr : Nat
  tPStr : Nat
  tUuid : Nat
  tRd : Nat
  tBig : Nat
  gBig : Nat
  gErr : Nat
  tTags : Nat
  tMap : Nat
  tKeys : Nat
  tTree : Nat
  tTrees : Nat
  tTagL : Nat
  tTag : Nat
  sTree : Nat
  sTrees : Nat
  sTagL : Nat
  sTag : Nat

/-- A function's tree, where it may be called. -/
def treeIn (P : Program) (f : Nat) (orc : Nat → Option Value) (ps : List Operand) (n : Nat) : Tr := match P.funcs[f]? with
  | some fn => bif goFn P f && Nat.ble n fn.ntmps then treeOf fn orc ps n else .stuck
  | none => .stuck

def noOrc : Nat → Option Value := fun _ => none

/-- An environment of these values. -/
def en (vs : List Value) : Nat → Value := fun i => vs.getD i undef

/-- A function by its tree. -/
theorem gives_in {P : Program} {f : Nat} {args : List Value} {w : World} {Post : Value → World → Prop} {orc : Nat → Option Value} {ps : List Operand} {n : Nat} {ρ : Nat → Value} {T : Tr}
    (hmix : P.follows .mixedOrders = true) (hT : treeIn P f orc ps n = T) (hn : args.length ≤ n) (hp : ps.map (ev ρ) = args) (hb : ∀ x ∈ ps, opBelow n x) (h : T.sem P Post [] n ρ w) : Gives P f args w Post := by
  unfold treeIn at hT
  cases hf : P.funcs[f]? with
  | none => rw [hf] at hT; subst hT; exact h.elim
  | some fn =>
    rw [hf] at hT
    simp only at hT
    cases hc : goFn P f && Nat.ble n fn.ntmps with
    | false => rw [hc] at hT; subst hT; exact h.elim
    | true =>
      rw [hc] at hT
      simp only [Bool.and_eq_true] at hc
      exact gives_of_tree hf hc.1 hmix (Nat.le_trans hn (Nat.le_of_ble_eq_true hc.2)) hT hp hb h

/-- What is left to be read; whether something was amiss; whether the slice is nil. -/
structure Rd where
  l : List UInt8
  bad : Bool
  isNil : Bool

def Rd.fail : Rd := ⟨[], true, true⟩

def nilOf : Value → Bool
  | .slice none _ _ => true
  | _ => false

def ptr (b : Nat) (o : Nat := 0) : Value := .pointer (some ⟨b, o, none⟩)

/-- The types' facts that the reader's functions ask. -/
structure RdFacts (P : Program) (c : Nums) : Prop where
  mix : P.follows .mixedOrders = true
  rd0 : fieldOff P c.tRd 0 = some 0
  rd1 : fieldOff P c.tRd 1 = some 1
  oneBytes : oneTy P c.tBytes = true
  oneBool : oneTy P c.tBool = true
  oneU8 : oneTy P c.tU8 = true
  oneErr : oneTy P c.tErr = true
  bytes : P.underlying c.tBytes = some (.slice c.tU8)
  u8 : P.underlying c.tU8 = some (.int .u8)
  str : P.underlying c.tStr = some .string
  szU8 : (P.info? c.tU8).map (·.size) = some 1
  int : P.underlying c.tInt = some (.int .i64)
  i16 : P.underlying c.tI16 = some (.int .i16)
  i32 : P.underlying c.tI32 = some (.int .i32)
  u32 : P.underlying c.tU32 = some (.int .u32)

section

variable {P : Program} {c : Nums} {R : Value → World → Prop} {Γ : List (List Value → World → Prop)} {n : Nat} {ρ : Nat → Value} {w : World} {k : Tr} {rb D : Nat} {r : Rd}

/-- p.field, read. -/
def gGet (p : Operand) (s i ty n : Nat) (k : Tr) : Tr :=
  .op (.nilCheck p) none [] <| .op (.fieldAddr s (.tmp n) i) none [] <| .op (.load ty (.tmp (n + 1))) none [] k

theorem ext_ext (ρ : Nat → Value) (n : Nat) (vs us : List Value) : ext (ext ρ n vs) (n + vs.length) us = ext ρ n (vs ++ us) := by
  funext m
  simp only [ext]
  split
  · split
    · rfl
    · rw [List.getD_eq_getElem?_getD, List.getD_eq_getElem?_getD, List.getElem?_append_left (by omega)]
  · rw [if_neg (by omega), List.getD_eq_getElem?_getD, List.getD_eq_getElem?_getD, List.getElem?_append_right (by omega)]
    congr 2
    omega

theorem s_get {p : Operand} {s i ty b o off : Nat} {cs : List Value} {v : Value} (hf : fieldOff P s i = some off) (h1 : oneTy P ty = true) (hp : ev ρ p = ptr b o) (hh : Has w b cs) (hv : cs[o + off]? = some v)
    (hk : k.sem P R Γ (n + 3) (ext ρ n [ptr b o, ptr b (o + off), v]) w) : (gGet p s i ty n k).sem P R Γ n ρ w := by
  refine s_val (v_nilCheck hp) (s_val (v_field hf ext_at) (s_lok (l_load1 h1 ext_at hh hv) ?_))
  have e1 := ext_ext ρ n [ptr b o] [ptr b (o + off)]
  have e2 := ext_ext ρ n [ptr b o, ptr b (o + off)] [v]
  simp only [List.length_cons, List.length_nil, List.cons_append, List.nil_append] at e1 e2
  simp only [ptr] at e1 e2 hk ⊢
  rw [e1, e2]
  exact hk

/-- p.field = x -/
def gSet (p : Operand) (s i ty : Nat) (x : Operand) (n : Nat) (k : Tr) : Tr :=
  .op (.nilCheck p) none [] <| .op (.fieldAddr s (.tmp n) i) none [] <| .op (.store ty (.tmp (n + 1)) x) none [] k

/-- An operand that is not of the tree from n on. -/
theorem ev_ext {x : Operand} {vs : List Value} (h : opBelow n x) : ev (ext ρ n vs) x = ev ρ x := by
  cases x with
  | tmp t => exact ext_lt h
  | _ => rfl

theorem s_set {p x : Operand} {s i ty b o off : Nat} {cs : List Value} {v : Value} (hf : fieldOff P s i = some off) (h1 : oneTy P ty = true) (hp : ev ρ p = ptr b o) (hx : ev ρ x = v) (hbx : opBelow n x) (hv : v.oneCell' = true) (hh : Has w b cs)
    (hl : o + off < cs.length) (hk : ∀ w', Has w' b (cs.set (o + off) v) → Keeps [b] w w' → k.sem P R Γ (n + 3) (ext ρ n [ptr b o, ptr b (o + off), undef]) w') : (gSet p s i ty x n k).sem P R Γ n ρ w := by
  have e1 := ext_ext ρ n [ptr b o] [ptr b (o + off)]
  have e2 := ext_ext ρ n [ptr b o, ptr b (o + off)] [undef]
  simp only [List.length_cons, List.length_nil, List.cons_append, List.nil_append] at e1 e2
  refine s_val (v_nilCheck hp) (s_val (v_field hf ext_at) ?_)
  simp only [ptr] at e1 e2 hk ⊢
  rw [e1]
  have hx' : ev (ext ρ n [.pointer (some ⟨b, o, none⟩), .pointer (some ⟨b, o + off, none⟩)]) x = v := by rw [ev_ext hbx, hx]
  obtain ⟨w', h2, h3, h4⟩ := a_store1 (P := P) (w := w) (t := ty) (x := .tmp (n + 1)) h1 (by rw [← e1]; exact ext_at) hx' hv hh hl
  refine s_unit h2 (fun p hp => (by cases hp)) ?_
  rw [show n + 1 + 1 = n + (0 + 1 + 1) from rfl, e2]
  exact hk w' h3 h4

end

end Go.Kf


namespace Go.Kf

open Go

theorem Reads.form {w : World} {v : Value} {sz n : Nat} {xs : List Value} (h : Reads w v sz n xs) : ∃ a c, v = .slice a n c ∧ n ≤ c ∧ (a = none → n = 0 ∧ c = 0) := by
  rcases h.2 with ⟨rfl, rfl⟩ | ⟨b, o, cap, cs, rfl, hc, _⟩
  · exact ⟨none, 0, rfl, Nat.le_refl _, fun _ => ⟨rfl, rfl⟩⟩
  · exact ⟨_, cap, rfl, hc, fun h => by cases h⟩

section

variable {P : Program} {c : Nums} {R : Value → World → Prop} {Γ : List (List Value → World → Prop)} {n : Nat} {ρ : Nat → Value} {w : World} {k : Tr} {rb D : Nat} {r : Rd}

def rFix (N : Nat) (r : Rd) : Nat × Rd := if r.l.length < N then (0, .fail) else (Lib.beNat (r.l.take N), { r with l := r.l.drop N })

theorem beNat_lt (l : List UInt8) : Lib.beNat l < 256 ^ l.length := by
  have h : ∀ (l : List UInt8) (acc : Nat), Lib.beFrom acc l < (acc + 1) * 256 ^ l.length := by
    intro l
    induction l with
    | nil => intro acc; simp [Lib.beFrom]
    | cons b l ih =>
      intro acc
      refine Nat.lt_of_lt_of_le (ih (acc * 256 + b.toNat)) ?_
      rw [List.length_cons, Nat.pow_succ, Nat.mul_comm (256 ^ l.length), ← Nat.mul_assoc]
      have := b.toNat_lt
      exact Nat.mul_le_mul_right _ (by omega)
  have := h l 0
  rw [Nat.zero_add, Nat.one_mul] at this
  exact this

/-- So many octets; whether they are nil. -/
def rSpan (m : Int) (r : Rd) : (List UInt8 × Bool) × Rd := if (r.l.length : Int) < m ∨ m < 0 then (([], true), .fail) else ((r.l.take m.toNat, r.isNil), { r with l := r.l.drop m.toNat })

end

end Go.Kf


namespace Go.Kf

open Go

section

variable {P : Program} {ρ : Nat → Value}

theorem v_bits {op : BinOp} {t u : Nat} {x y : Operand} {kk : IntKind} {a b r : Int} (ho : op = .and ∨ op = .or) (hx : ev ρ x = .int kk a) (hy : ev ρ y = .int kk b) (h : bits op kk a b = r) : Val P ρ (.binOp op t x y u) (.int kk r) := fun w => by
  unfold runOp bareOp
  simp only [execOp, hx, hy]
  subst h
  rcases ho with rfl | rfl
  · simp [eqGuard, binOp, Op.intBits, bits]
  · simp [eqGuard, binOp, Op.intBits, bits]

end

theorem wraps_u32 (n : Int) (h₀ : 0 ≤ n) (h₁ : n < 2 ^ 32) : IntKind.u32.wrap n = n := by rw [IntKind.wrap_u32]; omega

/-- What is left of a number from its octet i on. -/
def uvarAt (i x : Nat) : List UInt8 → Nat × Int
  | [] => (0, 0)
  | b :: r => if i = 4 then (if b.toNat ≤ 15 then (x + b.toNat * 2 ^ 28, 5) else (0, -5)) else if b.toNat < 128 then (x + b.toNat * 2 ^ (7 * i), ((i + 1 : Nat) : Int)) else uvarAt (i + 1) (x + b.toNat % 128 * 2 ^ (7 * i)) r

def uvar (l : List UInt8) : Nat × Int := uvarAt 0 0 l

theorem ev_ext' {x : Operand} {ρ : Nat → Value} {n m : Nat} {vs : List Value} (h : opBelow n x) (hle : n ≤ m) : ev (ext ρ m vs) x = ev ρ x := ev_ext (by
  cases x with
  | tmp t => exact Nat.lt_of_lt_of_le h hle
  | _ => trivial)

section

variable {P : Program} {c : Nums} {R : Value → World → Prop} {Γ : List (List Value → World → Prop)} {n : Nat} {ρ : Nat → Value} {w : World} {k : Tr} {v : Value} {l : List UInt8}

end

end Go.Kf


namespace Go.Kf

open Go

/-- A struct's zero cells, and its fields' places. -/
def buildPlan (P : Program) (t : TypeId) : Option (List Value × List (Nat × Nat)) := match P.info? t with
  | some inf => match inf.zero with
    | some z => match P.underlying t with
      | some (.struct fs) => match fs.toList.mapM (fun f => (P.info? f.type).map fun i => (f.offset, i.size)) with
        | some ps => some (z.cells.toList, ps)
        | none => none
      | _ => none
    | none => none
  | none => none

/-- Parts of one cell each, set. -/
def fillOnes (ps : List (Nat × Nat)) (z : List Value) : List (Nat × Value) → Option (List Value)
  | [] => some z
  | (i, v) :: r => match ps[i]? with
    | some (off, size) => if size = 1 ∧ off < z.length then fillOnes ps (z.set off v) r else none
    | none => none

theorem cells_one {v : Value} (h : v.oneCell' = true) : v.cells = #[v] := by
  cases v <;> first | rfl | (cases h; done)

theorem fill_ones (ps : List (Nat × Nat)) : ∀ (xs : List (Nat × Value)) (z cells : List Value), (∀ p ∈ xs, p.2.oneCell' = true) → fillOnes ps z xs = some cells → Instr.fill (fun i => ps[i]?) ⟨z⟩ xs = some ⟨cells⟩
  | [], z, cells, _, h => by
    simp only [fillOnes, Option.some.injEq] at h
    subst h
    rfl
  | (i, v) :: r, z, cells, h1, h => by
    have hv : v.cells = #[v] := cells_one (h1 (i, v) List.mem_cons_self)
    simp only [fillOnes] at h
    cases hp : ps[i]? with
    | none => rw [hp] at h; cases h
    | some q =>
      obtain ⟨off, size⟩ := q
      rw [hp] at h
      simp only at h
      split at h
      · rename_i hc
        obtain ⟨rfl, ho⟩ := hc
        have ih := fill_ones ps r (z.set off v) cells (fun p hp => h1 p (List.mem_cons_of_mem _ hp)) h
        unfold Instr.fill
        simp only [hp, hv]
        rw [if_neg (by simp; omega)]
        rw [← ih]
        congr 1
        simp
      · cases h

section

variable {P : Program} {ρ : Nat → Value} {w : World}

theorem s_retAgg {R : Value → World → Prop} {Γ : List (List Value → World → Prop)} {n : Nat} {x : Operand} {t b : Nat} {cs : List Value} (hx : ev ρ x = ptr b) (hh : Has w b cs) (ht : aggTy P t = some cs.length) (h : R (.agg ⟨cs⟩) w) :
    (Tr.ret [(x, some t)]).sem P R Γ n ρ w := by
  refine ⟨[.agg ⟨cs⟩], ?_, h⟩
  have h1 := aggTy_spec (w := w) ht
  have h2 := loadCells_run (P := P) (n := cs.length) (o := 0) hh (by omega)
  simp only [List.drop_zero, List.take_length] at h2
  simp only [evRet, List.map_cons, List.map_nil, hx, ptr, retVals, asAddr, Sem.run_bind, Sem.run_pure, Result.andThen_ok, loadVar, h1.1, if_true, size_run h1.2, h2]

theorem built_of_plan {t : Nat} {z : List Value} {ps : List (Nat × Nat)} (hp : buildPlan P t = some (z, ps)) (xs : List (Nat × Value)) : P.built t xs = Instr.fill (fun i => ps[i]?) ⟨z⟩ xs := by
  unfold buildPlan at hp
  cases hi : P.info? t with
  | none => simp only [hi] at hp; cases hp
  | some inf =>
    simp only [hi] at hp
    cases hz : inf.zero with
    | none => simp only [hz] at hp; cases hp
    | some zv =>
      simp only [hz] at hp
      split at hp
      · rename_i fs hu
        split at hp
        · rename_i ps' hm
          simp only [Option.some.injEq, Prod.mk.injEq] at hp
          obtain ⟨rfl, rfl⟩ := hp
          simp [Program.built, hi, hu, hz, hm]
        · cases hp
      · cases hp

/-- A struct literal. -/
theorem v_build {t : Nat} {xs : List (Nat × Operand)} {z cells : List Value} {ps : List (Nat × Nat)} (hp : buildPlan P t = some (z, ps)) (h1 : ∀ p ∈ xs, (ev ρ p.2).oneCell' = true) (hf : fillOnes ps z (xs.map fun p => (p.1, ev ρ p.2)) = some cells) :
    Val P ρ (.build t ⟨xs⟩) (.agg ⟨cells⟩) := fun w => by
  have h := run_build (P := P) w t ⟨xs.map fun p => (p.1, ev ρ p.2)⟩ ⟨cells⟩ (by
    rw [built_of_plan hp]
    refine fill_ones ps _ z cells (fun p hp => ?_) hf
    obtain ⟨q, hq, rfl⟩ := List.mem_map.1 hp
    exact h1 q hq)
  unfold runOp bareOp
  simp only [execOp, Sem.run_bind]
  rw [show (Array.map (fun x : Nat × Operand => (x.1, ev ρ x.2)) ⟨xs⟩ : Array (Nat × Value)) = ⟨xs.map fun p => (p.1, ev ρ p.2)⟩ by simp]
  rw [h]
  rfl

/-- []T{} -/
theorem a_sliceEmpty {t e sz : Nat} (ht : P.underlying t = some (.slice e)) (hs : (P.info? e).map (·.size) = some sz) :
    ∃ w', runOp P ρ (.buildSlice t 0 ⟨[]⟩) w = .ok (.value (.slice (some ⟨w.heap.size, 0, none⟩) 0 0)) w' ∧ Has w' w.heap.size [] ∧ Keeps [] w w' ∧ w'.heap.size = w.heap.size + 1 := by
  refine ⟨{ w with heap := w.heap.push (.cells ⟨[]⟩ e) }, ?_, has_alloc w _ e, keeps_alloc w _ _, by simp⟩
  unfold runOp bareOp
  simp only [execOp, Instr.buildSlice, Sem.run_bind, run_under ht, Result.andThen_ok, size_run hs]
  have e0 : ∀ f : Nat → Value, Array.map f (Array.range 0) = ⟨[]⟩ := fun f => by simp [Array.range]
  simp [Instr.fill, newRow]
  rw [e0]

/-- []T{x} -/
theorem a_sliceOne {t e : Nat} {x : Operand} {z : Value} {cs : List Value} (ht : P.underlying t = some (.slice e)) (hz : zeroTy P e = some (z, cs.length)) (hpos : 0 < cs.length) (hsm : cs.length ≤ 1024) (hx : (ev ρ x).cells = ⟨cs⟩) :
    ∃ w', runOp P ρ (.buildSlice t 1 ⟨[(0, x)]⟩) w = .ok (.value (.slice (some ⟨w.heap.size, 0, none⟩) 1 1)) w' ∧ Has w' w.heap.size cs ∧ Keeps [] w w' ∧ w'.heap.size = w.heap.size + 1 := by
  have hs := zeroTy_spec (w := w) hz
  refine ⟨{ w with heap := w.heap.push (.cells ⟨cs⟩ e) }, ?_, has_alloc w _ e, keeps_alloc w _ _, by simp⟩
  have hfold : ∀ (l : List Value) (i : Nat) (acc : Array Value), i + l.length = acc.size → (l.zipIdx i).foldl (fun (a : Array Value) (p : Value × Nat) => a.setIfInBounds p.2 p.1) acc = ⟨acc.toList.take i ++ l⟩ := by
    intro l
    induction l with
    | nil =>
      intro i acc h
      simp only [List.length_nil] at h
      apply Array.ext'
      simp only [List.zipIdx_nil, List.foldl_nil, List.append_nil]
      rw [List.take_of_length_le (by simp; omega)]
    | cons v l ih =>
      intro i acc h
      simp only [List.length_cons] at h
      simp only [List.zipIdx_cons, List.foldl_cons]
      rw [ih (i + 1) _ (by simp; omega)]
      congr 1
      simp only [Array.toList_setIfInBounds]
      rw [List.take_set, List.take_succ_eq_append_getElem (by simp; omega), List.set_append_right _ _ (by simp; omega)]
      have h3 : i - (acc.toList.take i).length = 0 := by simp; omega
      rw [h3]
      simp
  have hfill : Instr.fill (fun i => some (i * cs.length, cs.length)) ((Array.range (1 * cs.length)).map (z.cells[· % z.cells.size]!)) [(0, ev ρ x)] = some ⟨cs⟩ := by
    unfold Instr.fill
    simp only [hx]
    rw [if_neg (by simp)]
    have := hfold cs 0 ((Array.range (1 * cs.length)).map (z.cells[· % z.cells.size]!)) (by simp)
    simp only [List.take_zero, List.nil_append] at this
    simp only [Instr.fill, Option.some.injEq]
    refine Eq.trans ?_ this
    simp
  unfold runOp bareOp
  simp only [execOp, Instr.buildSlice, Sem.run_bind, run_under ht, Result.andThen_ok, size_run hs.2]
  have hn : ¬ (1 * cs.length > 2 ^ 24) := by omega
  have hn2 : ¬ (1 * cs.length = 0) := by omega
  rw [if_neg hn]
  simp only [Sem.run_pure, Result.andThen_ok, if_neg hn2, Sem.run_bind, hs.1]
  have e1 : (Array.map (fun x : Nat × Operand => (x.1, ev ρ x.2)) ⟨[(0, x)]⟩).toList = [(0, ev ρ x)] := by simp
  simp only [e1, hfill]
  simp [newRow]

end

end Go.Kf

namespace Go.Kf

open Go

/-- A count in groups. -/
def rUv (r : Rd) : Nat × Rd := if (uvar r.l).2 ≤ 0 then (0, .fail) else ((uvar r.l).1, { r with l := r.l.drop (uvar r.l).2.toNat })

section

variable {P : Program} {c : Nums} {R : Value → World → Prop} {Γ : List (List Value → World → Prop)} {n : Nat} {ρ : Nat → Value} {w : World} {k : Tr} {rb D : Nat} {r : Rd}

def rLen (r : Rd) : Int × Rd :=
  let n := IntKind.i32.wrap (rFix 4 r).1
  if ((rFix 4 r).2.l.length : Int) < n then (0, .fail) else (n, (rFix 4 r).2)

def rCLen (r : Rd) : Int × Rd :=
  let n := IntKind.i32.wrap (IntKind.i32.wrap (rUv r).1 - 1)
  if ((rUv r).2.l.length : Int) < n then (0, .fail) else (n, (rUv r).2)

theorem i64_small {x : Int} (h1 : -9223372036854775808 ≤ x) (h2 : x < 9223372036854775808) : IntKind.i64.wrap x = x := by
  rw [IntKind.wrap_i64]; omega

def rStr (r : Rd) : List UInt8 × Rd := let x := rSpan (IntKind.i16.wrap (rFix 2 r).1) (rFix 2 r).2; (x.1.1, x.2)

def rCStr (r : Rd) : List UInt8 × Rd := let x := rSpan ((rUv r).1 - 1) (rUv r).2; (x.1.1, x.2)

def rNStr (r : Rd) : Option (List UInt8) × Rd := if IntKind.i16.wrap (rFix 2 r).1 < 0 then (none, (rFix 2 r).2) else let x := rSpan (IntKind.i16.wrap (rFix 2 r).1) (rFix 2 r).2; (some x.1.1, x.2)

def rCNStr (r : Rd) : Option (List UInt8) × Rd := if ((rUv r).1 : Int) - 1 < 0 then (none, (rUv r).2) else let x := rSpan ((rUv r).1 - 1) (rUv r).2; (some x.1.1, x.2)

/-- A text, or none: a pointer. -/
def NStrAt (w : World) (lo : Nat) : Option (List UInt8) → Value → Prop
  | none, v => v = .pointer none
  | some l, v => ∃ b, lo ≤ b ∧ v = ptr b ∧ Has w b [.string (strOf l)]

theorem NStrAt.keep {w w' : World} {lo : Nat} {o : Option (List UInt8)} {v : Value} {M : List Nat} (h : NStrAt w lo o v) (hk : Keeps M w w') (hm : ∀ b ∈ M, b < lo) : NStrAt w' lo o v := by
  cases o with
  | none => exact h
  | some l =>
    obtain ⟨b, hb, hv, hh⟩ := h
    exact ⟨b, hb, hv, hh.keep hk fun hbM => by have := hm b hbM; omega⟩

theorem NStrAt.mono {w : World} {lo lo' : Nat} {o : Option (List UInt8)} {v : Value} (h : NStrAt w lo o v) (hl : lo' ≤ lo) : NStrAt w lo' o v := by
  cases o with
  | none => exact h
  | some l =>
    obtain ⟨b, hb, hv⟩ := h
    exact ⟨b, Nat.le_trans hl hb, hv⟩

structure StrFacts (P : Program) (c : Nums) : Prop where
  zero : ∃ z, zeroTy P c.tStr = some (z, 1) ∧ z.cells.size = 1
  one : oneTy P c.tStr = true

def rBytes (r : Rd) : (List UInt8 × Bool) × Rd := if IntKind.i32.wrap (rFix 4 r).1 = -1 then (([], false), (rFix 4 r).2) else rSpan (IntKind.i32.wrap (rFix 4 r).1) (rFix 4 r).2

def rCBytes (r : Rd) : (List UInt8 × Bool) × Rd := if ((rUv r).1 : Int) - 1 = -1 then (([], false), (rUv r).2) else rSpan ((rUv r).1 - 1) (rUv r).2

def rNBytes (r : Rd) : (List UInt8 × Bool) × Rd := if IntKind.i32.wrap (rFix 4 r).1 < 0 then (([], true), (rFix 4 r).2) else rSpan (IntKind.i32.wrap (rFix 4 r).1) (rFix 4 r).2

def rCNBytes (r : Rd) : (List UInt8 × Bool) × Rd := if ((rUv r).1 : Int) - 1 < 0 then (([], true), (rUv r).2) else rSpan ((rUv r).1 - 1) (rUv r).2

/-- So many octets at the beginning of n noughts. -/
def padTo (n : Nat) (l : List UInt8) : List UInt8 := l.take n ++ List.replicate (n - l.length) 0

def rUuid (r : Rd) : List UInt8 × Rd := let x := rSpan 16 r; (padTo 16 x.1.1, x.2)

end

end Go.Kf

namespace Go.Kf

open Go

/-- Unknown tags: numbers and octets, in the order in which they came. -/
abbrev TM := List (Nat × List UInt8)

inductive FV where
  | one (v : Value)
  | uuid (l : List UInt8)
  | text (l : List UInt8)
  | ntext (o : Option (List UInt8))
  | octs (isNil : Bool) (l : List UInt8)
  | tags (m : TM)
  | list (isNil : Bool) (rows : List (List FV))
  | ptr (o : Option (List FV))
  | sub (fs : List FV)

mutual
def FV.wd : FV → Nat
  | .uuid _ => 16
  | .sub fs => wds fs
  | _ => 1
def wds : List FV → Nat
  | [] => 0
  | f :: fs => f.wd + wds fs
end

end Go.Kf

namespace Go.Kf

open Go

/-- A tag more, or said again. -/
def tmSet : TM → Nat → List UInt8 → TM
  | [], k, l => [(k, l)]
  | p :: m, k, l => if p.1 = k then (k, l) :: m else p :: tmSet m k l

def rTagsN : Nat → TM → Rd → TM × Rd
  | 0, m, r => (m, r)
  | n + 1, m, r => rTagsN n (tmSet m (rUv r).1 (rSpan (rUv (rUv r).2).1 (rUv (rUv r).2).2).1.1) (rSpan (rUv (rUv r).2).1 (rUv (rUv r).2).2).2

def rTags (r : Rd) : TM × Rd := rTagsN (rUv r).1 [] (rUv r).2

def rBool (r : Rd) : Bool × Rd := ((rFix 1 r).1 != 0, (rFix 1 r).2)

/-- The kinds of what a function of the reader reads. -/
inductive PK where
  | num (N : Nat) (k : IntKind)
  | bool
  | str
  | cstr
  | nstr
  | cnstr
  | bytes
  | cbytes
  | nbytes
  | cnbytes
  | uuid
  | tags

def PK.run : PK → Rd → FV × Rd
  | .num N k, r => (.one (.int k (k.wrap (rFix N r).1)), (rFix N r).2)
  | .bool, r => (.one (.bool (rBool r).1), (rBool r).2)
  | .str, r => (.text (rStr r).1, (rStr r).2)
  | .cstr, r => (.text (rCStr r).1, (rCStr r).2)
  | .nstr, r => (.ntext (rNStr r).1, (rNStr r).2)
  | .cnstr, r => (.ntext (rCNStr r).1, (rCNStr r).2)
  | .bytes, r => (.octs (rBytes r).1.2 (rBytes r).1.1, (rBytes r).2)
  | .cbytes, r => (.octs (rCBytes r).1.2 (rCBytes r).1.1, (rCBytes r).2)
  | .nbytes, r => (.octs (rNBytes r).1.2 (rNBytes r).1.1, (rNBytes r).2)
  | .cnbytes, r => (.octs (rCNBytes r).1.2 (rCNBytes r).1.1, (rCNBytes r).2)
  | .uuid, r => (.uuid (rUuid r).1, (rUuid r).2)
  | .tags, r => (.tags (rTags r).1, (rTags r).2)

def PK.wd : PK → Nat
  | .uuid => 16
  | _ => 1

/-- How a list's length is read; of the latter two an empty list is one that is not nil. -/
inductive LenK where
  | len
  | clen
  | nlen
  | nclen

def LenK.run : LenK → Rd → Int × Rd
  | .len => rLen
  | .clen => rCLen
  | .nlen => rLen
  | .nclen => rCLen

def LenK.nul : LenK → Bool
  | .len => false
  | .clen => false
  | .nlen => true
  | .nclen => true

/-- Is the list nil, that says it has so many? -/
def LenK.nilAt (lk : LenK) (m : Int) : Bool := bif lk.nul then decide (m < 0) else decide (m ≤ 0)

structure Fns where
  ok : Nat
  complete : Nat

def orcV (n : Nat) (v : Int) : Nat → Option Value := fun i => if i = n then some (.int .i16 v) else none

end Go.Kf

namespace Go.Kf

open Go

theorem wds_eq : ∀ fs : List FV, wds fs = (fs.map FV.wd).sum
  | [] => rfl
  | f :: fs => by simp [wds, wds_eq fs]

end Go.Kf

namespace Go.Kf

open Go

section

variable {P : Program} {c : Nums} {R : Value → World → Prop} {Γ : List (List Value → World → Prop)} {n : Nat} {ρ : Nat → Value} {w : World} {k : Tr} {rb D : Nat} {r : Rd}

theorem s_callx {f : Nat} {xs : List Operand} {args : List Value} {Post : Value → World → Prop} (h : Gives P f args w Post) (hx : xs.map (ev ρ) = args) (hk : ∀ v w', Post v w' → k.sem P R Γ (n + 1) (ext ρ n [v]) w') : (Tr.op (callOp f xs) none [] k).sem P R Γ n ρ w := by
  subst hx
  exact s_call0 h hk

/-- for i := 0; i < m; i++ -/
theorem s_count {kk : IntKind} {t q : Nat} {m : Int} {ri : List Operand} {body after : Tr} (Q : Nat → World → Prop) (hqn : q < n) (hq : ρ q = .int kk m) (h0 : Q 0 w)
    (hbody : ∀ j, j < m.toNat → ∀ (w' : World) (vr : List Value), Q j w' → vr.length = ri.length → ∀ J : List Value → World → Prop, (∀ (vr' : List Value) (w'' : World), vr'.length = ri.length → Q (j + 1) w'' → J (vr' ++ [.int kk (j + 1 : Nat)]) w'') →
      body.sem P R (Γ ++ [J]) (n + ri.length + 2) (ext ρ n (vr ++ [.int kk j, .bool true])) w')
    (hafter : ∀ (w' : World) (vr : List Value) (J : List Value → World → Prop), Q m.toNat w' → vr.length = ri.length → after.sem P R (Γ ++ [J]) (n + ri.length + 2) (ext ρ n (vr ++ [.int kk m.toNat, .bool false])) w') :
    (Tr.loop Γ.length (ri ++ [.const (.int kk 0)]) (.op (.binOp .lss t (.tmp (n + ri.length)) (.tmp q) t) none [] (.cond (.tmp (n + ri.length + 1)) body after))).sem P R Γ n ρ w := by
  refine ⟨rfl, fun vs w' => ∃ (vr : List Value) (j : Nat), vs = vr ++ [.int kk j] ∧ vr.length = ri.length ∧ j ≤ m.toNat ∧ Q j w', fun vs _ => m.toNat - (match vs.getLast? with
    | some (.int _ j) => j.toNat
    | _ => 0), ⟨ri.map (ev ρ), 0, by simp [ev], by simp, by omega, h0⟩, ?_⟩
  rintro vs w' _ ⟨vr, j, rfl, hvr, hj, hQ⟩
  rw [List.length_append, List.length_singleton]
  have e1 : ext ρ n (vr ++ [.int kk j]) (n + ri.length) = .int kk j := by
    rw [ext_ge, ← hvr]; simp
  refine s_val (v_cmp (kk := kk) (a := j) (b := m) (r := decide ((j : Int) < m)) e1 ((ext_lt hqn).trans hq) rfl) ?_
  have e2 := ext_ext ρ n (vr ++ [.int kk j]) [.bool (decide ((j : Int) < m))]
  rw [List.length_append, List.length_singleton, hvr, List.append_assoc] at e2
  rw [e2]
  have e3 : ext ρ n (vr ++ ([.int kk j] ++ [.bool (decide ((j : Int) < m))])) (n + ri.length + 1) = .bool (decide ((j : Int) < m)) := by
    rw [Nat.add_assoc, ext_ge, ← hvr]; simp
  refine s_cond (b := decide ((j : Int) < m)) e3 (fun hb => ?_) fun hb => ?_
  · have hlt : (j : Int) < m := by simpa using hb
    rw [decide_eq_true hlt]
    refine hbody j (by omega) w' vr hQ hvr _ fun vr' w'' hl hQ' => ⟨⟨vr', j + 1, rfl, hl, by omega, hQ'⟩, ?_⟩
    simp
    omega
  · have hge : ¬ (j : Int) < m := by simpa using hb
    rw [decide_eq_false hge]
    obtain rfl : j = m.toNat := by omega
    exact hafter w' vr _ hQ hvr

end

end Go.Kf

namespace Go.Kf

open Go

def isNilList : Option FV → Bool
  | some (.list true []) => true
  | _ => false

theorem isNilList_eq {o : Option FV} (h : isNilList o = true) : o = some (.list true []) := by
  unfold isNilList at h
  split at h
  · rfl
  · cases h

section

variable {P : Program} {c : Nums} {R : Value → World → Prop} {rb D : Nat} {e : Fns} {rd : Operand} {ev0 : Value}

theorem map_wd_set {fs : List FV} {ls : List Nat} {i wd : Nat} {f : FV} (h : fs.map FV.wd = ls) (hi : ls[i]? = some wd) (hf : f.wd = wd) : (fs.set i f).map FV.wd = ls := by
  subst h
  rw [List.map_set, hf]
  apply List.ext_getElem?
  intro j
  by_cases hj : i = j
  · subst hj
    rw [List.getElem?_set_self (List.getElem?_eq_some_iff.1 hi).1, hi]
  · rw [List.getElem?_set_ne hj]

end

end Go.Kf

namespace Go.Kf

open Go

/-- The cells of a field that points nowhere. -/
def FV.imm0 : FV → Option (List Value)
  | .one v => bif v.oneCell' then some [v] else none
  | .uuid l => bif Nat.beq l.length 16 then some (bcells l) else none
  | .text l => some [.string (strOf l)]
  | .ntext none => some [.pointer none]
  | .octs true [] => some [.slice none 0 0]
  | .tags [] => some [.map none]
  | .list true [] => some [.slice none 0 0]
  | .ptr none => some [.pointer none]
  | _ => none

mutual
def FV.imm : FV → Option (List Value)
  | .sub fs => immL fs
  | .one v => FV.imm0 (.one v)
  | .uuid l => FV.imm0 (.uuid l)
  | .text l => FV.imm0 (.text l)
  | .ntext o => FV.imm0 (.ntext o)
  | .octs nl l => FV.imm0 (.octs nl l)
  | .tags m => FV.imm0 (.tags m)
  | .list nl rows => FV.imm0 (.list nl rows)
  | .ptr o => FV.imm0 (.ptr o)
def immL : List FV → Option (List Value)
  | [] => some []
  | f :: fs => match f.imm, immL fs with
    | some a, some b => some (a ++ b)
    | _, _ => none
end

section

variable {P : Program} {c : Nums} {R : Value → World → Prop} {Γ : List (List Value → World → Prop)} {n : Nat} {ρ : Nat → Value} {w : World} {k : Tr} {rb D : Nat}

end

end Go.Kf

namespace Go.Kf

open Go

variable {P : Program} {c : Nums} {f : Nat}

theorem NStrAt.cells {w : World} {lo : Nat} {o : Option (List UInt8)} {v : Value} (h : NStrAt w lo o v) : v.cells = ⟨[v]⟩ := by
  cases o with
  | none => simp only [NStrAt] at h; subst h; rfl
  | some l => obtain ⟨b, _, rfl, _⟩ := h; rfl

end Go.Kf

namespace Go.Kf

open Go

/-- The slice v shows these cells. -/
def Ro (w : World) (v : Value) (sz n : Nat) (xs : List Value) : Prop :=
  xs.length = n * sz ∧ ((n = 0 ∧ ∃ a cap, v = .slice a 0 cap) ∨ ∃ b o cap, v = .slice (some ⟨b, o, none⟩) n cap ∧ b < w.heap.size ∧ n ≤ cap ∧ ∀ i, i < n * sz → w.cell? ⟨b, o + i, none⟩ = xs[i]?)

theorem cell_keep {w w' : World} {M : List Nat} (hk : Keeps M w w') {a : Addr} (hb : a.block < w.heap.size) (hm : a.block ∉ M) : w'.cell? a = w.cell? a := by
  unfold World.cell?
  rw [hk.block _ hb hm]

theorem Ro.keep {w w' : World} {v : Value} {sz n : Nat} {xs : List Value} (h : Ro w v sz n xs) (hk : Keeps [] w w') : Ro w' v sz n xs := by
  refine ⟨h.1, ?_⟩
  rcases h.2 with h0 | ⟨b, o, cap, rfl, hb, hc, hx⟩
  · exact .inl h0
  · exact .inr ⟨b, o, cap, rfl, Nat.lt_of_lt_of_le hb hk.size, hc, fun i hi => by rw [cell_keep hk hb (by simp)]; exact hx i hi⟩

theorem Ro.nil (w : World) (sz : Nat) : Ro w (.slice none 0 0) sz 0 [] := ⟨by simp, .inl ⟨rfl, _, _, rfl⟩⟩

theorem Ro.form {w : World} {v : Value} {sz n : Nat} {xs : List Value} (h : Ro w v sz n xs) : ∃ a cp, v = .slice a n cp := by
  rcases h.2 with ⟨rfl, a, cap, rfl⟩ | ⟨b, o, cap, rfl, _⟩
  · exact ⟨_, _, rfl⟩
  · exact ⟨_, _, rfl⟩

theorem Ro.one {w : World} {v : Value} {sz n : Nat} {xs : List Value} (h : Ro w v sz n xs) : v.oneCell' = true := by
  obtain ⟨a, cp, rfl⟩ := h.form
  rfl

theorem Ro.of_reads {w : World} {v : Value} {sz n : Nat} {xs : List Value} (h : Reads w v sz n xs) : Ro w v sz n xs := by
  refine ⟨h.1, ?_⟩
  rcases h.2 with ⟨rfl, rfl⟩ | ⟨b, o, cap, cs, rfl, hc, hh, hl, hx⟩
  · exact .inl ⟨rfl, _, _, rfl⟩
  · refine .inr ⟨b, o, cap, rfl, hh.lt, hc, fun i hi => ?_⟩
    rw [← hx, List.getElem?_take, if_pos hi, List.getElem?_drop, hh.cell (List.getElem?_eq_getElem (by omega)), List.getElem?_eq_getElem (by omega)]

/-- Where the elements lie. -/
theorem Ro.at {w : World} {v : Value} {sz n : Nat} {xs : List Value} (h : Ro w v sz n xs) (hn : 0 < n) : ∃ b o cap, v = .slice (some ⟨b, o, none⟩) n cap ∧ b < w.heap.size ∧ ∀ i, i < n * sz → w.cell? ⟨b, o + i, none⟩ = xs[i]? := by
  rcases h.2 with ⟨h0, _⟩ | ⟨b, o, cap, hv, hb, _, hx⟩
  · omega
  · exact ⟨b, o, cap, hv, hb, hx⟩

section

variable {P : Program} {ρ : Nat → Value} {w : World}

theorem Ro.src {x : Value} {sz m tx e : Nat} {ys : List Value} (h : Ro w x sz m ys) (ht : P.underlying tx = some (.slice e)) (h1 : ∀ u ∈ ys, u.oneCell' = true) : Src P sz tx x m ys w := by
  rcases h.2 with ⟨rfl, a, cap, rfl⟩ | ⟨b, o, cap, rfl, _, _, hx⟩
  · have : ys = [] := List.eq_nil_of_length_eq_zero (by simpa using h.1)
    subst this
    cases a with
    | none => exact Src.ofNil w ht cap
    | some a => exact Src.ofSlice w ht a 0 cap [] (by simp) (fun j u hu => by simp at hu) (by simp)
  · refine Src.ofSlice w ht ⟨b, o, none⟩ m cap _ h.1 (fun j u hu => ?_) h1
    rw [addr_add, hx j (by have := (List.getElem?_eq_some_iff.1 hu).1; have := h.1; omega), hu]

/-- The first m. -/
theorem Ro.to {sz m n c : Nat} {xs : List Value} {a : Option Addr} (h : Ro w (.slice a n c) sz n xs) (hm : m ≤ n) : Ro w (.slice a m c) sz m (xs.take (m * sz)) := by
  have hle : m * sz ≤ n * sz := Nat.mul_le_mul_right _ hm
  refine ⟨by rw [List.length_take, h.1]; omega, ?_⟩
  rcases h.2 with ⟨rfl, a', cap, e⟩ | ⟨b, o, cap, e, hb, hc, hx⟩
  · obtain rfl : m = 0 := by omega
    exact .inl ⟨rfl, _, _, rfl⟩
  · simp only [Value.slice.injEq] at e
    obtain ⟨rfl, _, rfl⟩ := e
    refine .inr ⟨b, o, c, rfl, hb, by omega, fun i hi => ?_⟩
    rw [hx i (by omega), List.getElem?_take, if_pos hi]

theorem l_cell1 {t : Nat} {x : Operand} {b o : Nat} {v : Value} (ht : oneTy P t = true) (hx : ev ρ x = ptr b o) (hv : w.cell? ⟨b, o, none⟩ = some v) : runOp P ρ (.load t x) w = .ok (.value v) w := by
  unfold runOp bareOp
  have hx' : ev ρ x = .pointer (some ⟨b, o, none⟩) := hx
  simp only [execOp, hx', Instr.loadAt, Instr.sureAddr, loadVar, Sem.run_bind, Sem.run_pure, Result.andThen_ok, (oneTy_spec (w := w) ht).1, Bool.false_eq_true, if_false, run_load, hv]

theorem loadCellsFrom_cells {b o : Nat} {xs : List Value} (h : ∀ i, i < xs.length → w.cell? ⟨b, o + i, none⟩ = xs[i]?) : ∀ (n i : Nat) (acc : Array Value), i + n ≤ xs.length →
    (loadCellsFrom ⟨b, o, none⟩ i n acc).run P w = .ok (acc ++ (⟨(xs.drop i).take n⟩ : Array Value)) w
  | 0, i, acc, _ => by simp [loadCellsFrom]
  | n + 1, i, acc, hl => by
    have hlt : i < xs.length := by omega
    unfold loadCellsFrom
    simp only [Sem.run_bind, addr_add, run_load, h i hlt, List.getElem?_eq_getElem hlt, Result.andThen_ok]
    rw [loadCellsFrom_cells h n (i + 1) _ (by omega)]
    congr 1
    apply Array.ext'
    rw [List.drop_eq_getElem_cons hlt, List.take_succ_cons]
    simp

theorem l_cellN {t s : Nat} {x : Operand} {b o : Nat} {xs : List Value} (ht : aggTy P t = some s) (hx : ev ρ x = ptr b o) (hl : xs.length = s) (hv : ∀ i, i < s → w.cell? ⟨b, o + i, none⟩ = xs[i]?) :
    runOp P ρ (.load t x) w = .ok (.value (.agg ⟨xs⟩)) w := by
  have h1 := aggTy_spec (w := w) ht
  have h2 := loadCellsFrom_cells (P := P) (w := w) (b := b) (o := o) (xs := xs) (fun i hi => hv i (by omega)) s 0 #[] (by omega)
  have hx' : ev ρ x = .pointer (some ⟨b, o, none⟩) := hx
  unfold runOp bareOp
  have h3 : (loadCells ⟨b, o, none⟩ s).run P w = .ok (⟨xs⟩ : Array Value) w := by
    unfold loadCells
    rw [h2, List.drop_zero, List.take_of_length_le (by omega)]
    simp
  simp only [execOp, hx', Instr.loadAt, Instr.sureAddr, loadVar, Sem.run_bind, Sem.run_pure, Result.andThen_ok, h1.1, if_true, size_run h1.2, h3]

end

theorem Ro.keepM {w w' : World} {v : Value} {sz n : Nat} {xs : List Value} {M : List Nat} (h : Ro w v sz n xs) (hk : Keeps M w w') (hm : n ≠ 0 → ∀ b ∈ blkOf v, b ∉ M) : Ro w' v sz n xs := by
  refine ⟨h.1, ?_⟩
  rcases h.2 with h0 | ⟨b, o, cap, rfl, hb, hc, hx⟩
  · exact .inl h0
  · by_cases hn : n = 0
    · exact .inl ⟨hn, by subst hn; exact ⟨_, _, rfl⟩⟩
    · exact .inr ⟨b, o, cap, rfl, Nat.lt_of_lt_of_le hb hk.size, hc, fun i hi => by rw [cell_keep hk hb (hm hn b (by simp [blkOf]))]; exact hx i hi⟩

theorem Ro.blk {w : World} {v : Value} {sz n : Nat} {xs : List Value} (h : Ro w v sz n xs) (hn : n ≠ 0) : ∀ b ∈ blkOf v, b < w.heap.size := by
  rcases h.2 with ⟨h0, _⟩ | ⟨b, o, cap, rfl, hb, _⟩
  · exact absurd h0 hn
  · intro x hx
    simp only [blkOf, List.mem_singleton] at hx
    subst hx
    exact hb

end Go.Kf

namespace Go.Kf

open Go

inductive PT where
  | mk (n : Int) (s : List UInt8) (null : Bool) (l : List PT) (u : TM)

/-- Octets that lie in blocks of A. -/
def OctIn (w : World) (A : Nat → Prop) (l : List UInt8) (v : Value) : Prop := Ro w v 1 l.length (bcells l) ∧ (l.length ≠ 0 → ∀ b ∈ blkOf v, A b) ∧ l.length < 4294967296

def TagRows (w : World) (A : Nat → Prop) : TM → List Value → Prop
  | [], cs => cs = []
  | p :: m, cs => ∃ v r, cs = .int .u32 p.1 :: v :: r ∧ OctIn w A p.2 v ∧ TagRows w A m r

/-- A list of tags. -/
def TagsIn (w : World) (A : Nat → Prop) (m : TM) (v : Value) : Prop := ∃ cs, Reads w v 2 m.length cs ∧ ((∀ b ∈ blkOf v, A b) ∧ m.length < 4294967296) ∧ TagRows w A m cs

mutual
def TreeAt (w : World) (A : Nat → Prop) : PT → List Value → Prop
  | .mk n s null l u, cs => ∃ sv lv uv lcs, cs = [.int .i64 n, sv, .bool null, lv, uv] ∧ OctIn w A s sv ∧ Reads w lv 5 l.length lcs ∧ ((∀ b ∈ blkOf lv, A b) ∧ l.length < 4294967296) ∧ TreesAt w A l lcs ∧ TagsIn w A u uv
def TreesAt (w : World) (A : Nat → Prop) : List PT → List Value → Prop
  | [], cs => cs = []
  | t :: ts, cs => ∃ c1 c2, cs = c1 ++ c2 ∧ TreeAt w A t c1 ∧ TreesAt w A ts c2
end

theorem OctIn.of {w : World} {A : Nat → Prop} {l : List UInt8} {v : Value} (h : Reads w v 1 l.length (bcells l)) (hA : ∀ b ∈ blkOf v, A b) (hl : l.length < 4294967296) : OctIn w A l v := ⟨Ro.of_reads h, fun _ => hA, hl⟩

theorem OctIn.keep {w w' : World} {A A' : Nat → Prop} {l : List UInt8} {v : Value} {M : List Nat} (h : OctIn w A l v) (hk : Keeps M w w') (hm : ∀ b ∈ M, ¬ A b) (hA : ∀ b, A b → b < w.heap.size → A' b) : OctIn w' A' l v :=
  ⟨h.1.keepM hk fun hn b hb hbM => hm b hbM (h.2.1 hn b hb), fun hn b hb => hA b (h.2.1 hn b hb) (h.1.blk hn b hb), h.2.2⟩

theorem TagRows.keep {w w' : World} {A A' : Nat → Prop} {M : List Nat} (hk : Keeps M w w') (hm : ∀ b ∈ M, ¬ A b) (hA : ∀ b, A b → b < w.heap.size → A' b) : ∀ (m : TM) (cs : List Value), TagRows w A m cs → TagRows w' A' m cs
  | [], _, h => h
  | _ :: m, _, ⟨v, r, e, h1, h2⟩ => ⟨v, r, e, h1.keep hk hm hA, TagRows.keep hk hm hA m r h2⟩

theorem TagsIn.keep {w w' : World} {A A' : Nat → Prop} {m : TM} {v : Value} {M : List Nat} (h : TagsIn w A m v) (hk : Keeps M w w') (hm : ∀ b ∈ M, ¬ A b) (hA : ∀ b, A b → b < w.heap.size → A' b) : TagsIn w' A' m v := by
  obtain ⟨cs, h1, h2, h3⟩ := h
  exact ⟨cs, h1.keep hk fun b hb hbM => hm b hbM (h2.1 b hb), ⟨fun b hb => hA b (h2.1 b hb) (h1.lt b hb), h2.2⟩, TagRows.keep hk hm hA m cs h3⟩

mutual
theorem TreeAt.keep {w w' : World} {A A' : Nat → Prop} {M : List Nat} (hk : Keeps M w w') (hm : ∀ b ∈ M, ¬ A b) (hA : ∀ b, A b → b < w.heap.size → A' b) : ∀ (t : PT) (cs : List Value), TreeAt w A t cs → TreeAt w' A' t cs
  | .mk _ _ _ l _, _, ⟨sv, lv, uv, lcs, e, h1, h2, h3, h4, h5⟩ =>
    ⟨sv, lv, uv, lcs, e, h1.keep hk hm hA, h2.keep hk fun b hb hbM => hm b hbM (h3.1 b hb), ⟨fun b hb => hA b (h3.1 b hb) (h2.lt b hb), h3.2⟩, TreesAt.keep hk hm hA l lcs h4, h5.keep hk hm hA⟩
theorem TreesAt.keep {w w' : World} {A A' : Nat → Prop} {M : List Nat} (hk : Keeps M w w') (hm : ∀ b ∈ M, ¬ A b) (hA : ∀ b, A b → b < w.heap.size → A' b) : ∀ (ts : List PT) (cs : List Value), TreesAt w A ts cs → TreesAt w' A' ts cs
  | [], _, h => h
  | t :: ts, _, ⟨c1, c2, e, h1, h2⟩ => ⟨c1, c2, e, TreeAt.keep hk hm hA t c1 h1, TreesAt.keep hk hm hA ts c2 h2⟩
end

theorem TreeAt.mono {w : World} {A A' : Nat → Prop} {t : PT} {cs : List Value} (h : TreeAt w A t cs) (hA : ∀ b, A b → b < w.heap.size → A' b) : TreeAt w A' t cs := TreeAt.keep (M := []) .refl (fun b hb => by cases hb) hA t cs h

theorem TreesAt.mono {w : World} {A A' : Nat → Prop} {ts : List PT} {cs : List Value} (h : TreesAt w A ts cs) (hA : ∀ b, A b → b < w.heap.size → A' b) : TreesAt w A' ts cs := TreesAt.keep (M := []) .refl (fun b hb => by cases hb) hA ts cs h

theorem TreeAt.len {w : World} {A : Nat → Prop} {t : PT} {cs : List Value} (h : TreeAt w A t cs) : cs.length = 5 := by
  cases t with
  | mk n s null l u =>
    obtain ⟨sv, lv, uv, lcs, e, _⟩ := h
    rw [e]; rfl

theorem TreesAt.len {w : World} {A : Nat → Prop} : ∀ {ts : List PT} {cs : List Value}, TreesAt w A ts cs → cs.length = ts.length * 5
  | [], _, h => by simp only [TreesAt] at h; subst h; rfl
  | t :: ts, _, ⟨c1, c2, e, h1, h2⟩ => by
    rw [e, List.length_append, h1.len, TreesAt.len h2, List.length_cons]; omega

theorem OctIn.one {w : World} {A : Nat → Prop} {l : List UInt8} {v : Value} (h : OctIn w A l v) : v.oneCell' = true := by
  exact h.1.one

theorem Reads.one {w : World} {v : Value} {sz n : Nat} {xs : List Value} (h : Reads w v sz n xs) : v.oneCell' = true := by
  obtain ⟨a, cp, rfl, _⟩ := h.form
  rfl

theorem TreeAt.ones {w : World} {A : Nat → Prop} {t : PT} {cs : List Value} (h : TreeAt w A t cs) : ∀ u ∈ cs, u.oneCell' = true := by
  cases t with
  | mk n s null l u =>
    obtain ⟨sv, lv, uv, lcs, e, h1, h2, _, _, hu⟩ := h
    obtain ⟨ucs, hu1, _⟩ := hu
    subst e
    intro x hx
    simp only [List.mem_cons, List.not_mem_nil, or_false] at hx
    rcases hx with rfl | rfl | rfl | rfl | rfl
    · rfl
    · exact h1.one
    · rfl
    · exact h2.one
    · exact hu1.one

theorem TreesAt.ones {w : World} {A : Nat → Prop} : ∀ {ts : List PT} {cs : List Value}, TreesAt w A ts cs → ∀ u ∈ cs, u.oneCell' = true
  | [], _, h => by simp only [TreesAt] at h; subst h; intro u hu; cases hu
  | t :: ts, _, ⟨c1, c2, e, h1, h2⟩ => by
    subst e; intro u hu
    rcases List.mem_append.1 hu with h | h
    · exact h1.ones u h
    · exact TreesAt.ones h2 u h

theorem TreesAt.snoc {w : World} {A : Nat → Prop} {t : PT} {c : List Value} (h : TreeAt w A t c) : ∀ {ts : List PT} {cs : List Value}, TreesAt w A ts cs → TreesAt w A (ts ++ [t]) (cs ++ c)
  | [], _, h2 => by simp only [TreesAt] at h2; subst h2; exact ⟨c, [], by simp, h, rfl⟩
  | x :: ts, _, ⟨c1, c2, e, h1, h2⟩ => ⟨c1, c2 ++ c, by rw [e]; simp, h1, TreesAt.snoc h h2⟩

/-- The tree i of a row. -/
theorem TreesAt.split {w : World} {A : Nat → Prop} : ∀ {ts : List PT} {cs : List Value} {i : Nat} {t : PT}, TreesAt w A ts cs → ts[i]? = some t → ∃ a m z, cs = a ++ m ++ z ∧ a.length = i * 5 ∧ TreeAt w A t m ∧
    ∀ (t' : PT) (m' : List Value), TreeAt w A t' m' → TreesAt w A (ts.set i t') (a ++ m' ++ z)
  | [], _, _, _, _, hi => by simp at hi
  | x :: ts, _, 0, t, ⟨c1, c2, e, h1, h2⟩, hi => by
    simp only [List.getElem?_cons_zero, Option.some.injEq] at hi
    subst hi
    exact ⟨[], c1, c2, by simpa using e, by simp, h1, fun t' m' h' => ⟨m', c2, by simp, h', h2⟩⟩
  | x :: ts, _, i + 1, t, ⟨c1, c2, e, h1, h2⟩, hi => by
    simp only [List.getElem?_cons_succ] at hi
    obtain ⟨a, m, z, e2, hl, ht, hset⟩ := TreesAt.split h2 hi
    exact ⟨c1 ++ a, m, z, by rw [e, e2]; simp, by rw [List.length_append, h1.len, hl]; omega, ht, fun t' m' h' => ⟨c1, a ++ m' ++ z, by simp, h1, hset t' m' h'⟩⟩

/-- What a tree says of nothing. -/
def PT.zero : PT := .mk 0 [] false [] []

def zeroTree : List Value := [.int .i64 0, .slice none 0 0, .bool false, .slice none 0 0, .slice none 0 0]

theorem zeroTree_at (w : World) (A : Nat → Prop) : TreeAt w A .zero zeroTree :=
  have hn : ∀ b ∈ blkOf (.slice none 0 0), A b := fun b hb => by cases hb
  have hr : ∀ sz, Reads w (.slice none 0 0) sz 0 [] := fun sz => ⟨by simp, .inl ⟨rfl, rfl⟩⟩
  ⟨_, _, _, [], rfl, ⟨Ro.nil w 1, (fun h => absurd rfl h), by decide⟩, hr 5, ⟨hn, by decide⟩, rfl, [], hr 2, ⟨hn, by decide⟩, rfl⟩

end Go.Kf

namespace Go.Kf

open Go

/-- Where the elements lie. -/
theorem Reads.at {w : World} {v : Value} {sz n : Nat} {xs : List Value} (h : Reads w v sz n xs) (hn : 0 < n) : ∃ b o cap cs, v = .slice (some ⟨b, o, none⟩) n cap ∧ Has w b cs ∧ o + n * sz ≤ cs.length ∧ ∀ i, i < n * sz → cs[o + i]? = xs[i]? := by
  rcases h.2 with ⟨_, h0⟩ | ⟨b, o, cap, cs, hv, _, hh, hl, hx⟩
  · omega
  · refine ⟨b, o, cap, cs, hv, hh, hl, fun i hi => ?_⟩
    rw [← hx, List.getElem?_take, if_pos hi, List.getElem?_drop]

def tSame (c : Nums) : Tr :=
  .op (.call { callee := (.builtin .len), args := ⟨[(.tmp 0)]⟩, argTypes := ⟨[c.tBytes]⟩ }) none [] <|
  .op (.call { callee := (.builtin .len), args := ⟨[(.tmp 1)]⟩, argTypes := ⟨[c.tBytes]⟩ }) none [] <|
  .op (.binOp .neq c.tInt (.tmp 2) (.tmp 3) c.tInt) none [] <|
  .cond (.tmp 4) (
    .ret [((.const (.bool false)), none)]
  ) (
    .op (.call { callee := (.builtin .len), args := ⟨[(.tmp 0)]⟩, argTypes := ⟨[c.tBytes]⟩ }) none [] <|
    .loop 0 [(.const (.bool false)), (.const (.int .i64 0))] <|
    .op (.binOp .lss c.tInt (.tmp 7) (.tmp 5) c.tInt) none [] <|
    .cond (.tmp 8) (
      .draw <|
      .pur (.indexAddr c.tBytes (.tmp 0) (.tmp 7)) none <|
      .lok (.load c.tU8 (.tmp 9)) none <|
      .pur (.indexAddr c.tBytes (.tmp 1) (.tmp 7)) none <|
      .lok (.load c.tU8 (.tmp 11)) none <|
      .pur (.binOp .neq c.tU8 (.tmp 10) (.tmp 12) c.tU8) none <|
      .cond (.tmp 13) (
        .ret [((.const (.bool false)), none)]
      ) (
        .op (.binOp .add c.tInt (.tmp 7) (.const (.int .i64 1)) c.tInt) none [] <|
        .to 0 [(.tmp 6), (.tmp 14)]
      )
    ) (
      .ret [((.const (.bool true)), none)]
    )
  )

def SameGives (P : Program) (f : Nat) : Prop := ∀ (w : World) (v1 v2 : Value) (l1 l2 : List UInt8), (l1.length < 2 ^ 62 ∨ l2.length < 2 ^ 62) → Ro w v1 1 l1.length (bcells l1) → Ro w v2 1 l2.length (bcells l2) → Gives P f [v1, v2] w fun u w' => u = .bool (decide (l1 = l2)) ∧ Keeps [] w w'

section

variable {P : Program} {c : Nums}

theorem same_gives {f : Nat} (F : RdFacts P c) (hT : treeIn P f noOrc [.tmp 0, .tmp 1] 2 = tSame c) : SameGives P f := by
  intro w v1 v2 l1 l2 hbig h1 h2
  refine gives_in (ρ := en [v1, v2]) F.mix hT (Nat.le_refl _) rfl (by simp [opBelow]) ?_
  obtain ⟨a1, cp1, hv1⟩ := h1.form
  obtain ⟨a2, cp2, hv2⟩ := h2.form
  refine s_val (v_len (a := a1) (l := l1.length) (c := cp1) F.bytes hv1) ?_
  refine s_val (v_len (a := a2) (l := l2.length) (c := cp2) F.bytes hv2) ?_
  refine s_val (v_cmp (kk := .i64) (a := l1.length) (b := l2.length) (r := ((l1.length : Int) != l2.length)) rfl rfl rfl) ?_
  refine s_cond (b := ((l1.length : Int) != l2.length)) rfl (fun hb => ?_) fun hb => ?_
  · refine s_ret1 ⟨?_, .refl⟩
    have hne : l1 ≠ l2 := fun e => by subst e; simp at hb
    rw [decide_eq_false hne]
    rfl
  · have hlen : l1.length = l2.length := by
      have : (l1.length : Int) = l2.length := by simpa using hb
      omega
    refine s_val (v_len (a := a1) (l := l1.length) (c := cp1) F.bytes hv1) ?_
    refine s_count (n := 6) (q := 5) (kk := .i64) (m := l1.length) (ri := [.const (.bool false)]) (Γ := []) (fun j w' => (∀ i, i < j → l1[i]? = l2[i]?) ∧ Keeps [] w w') (by omega) rfl ⟨fun i hi => by omega, .refl⟩ ?_ ?_
    · rintro j hj w' vr ⟨heq, kk⟩ hvr J hJ
      obtain ⟨vx, rfl⟩ : ∃ vx, vr = [vx] := by
        match vr, hvr with
        | [x], _ => exact ⟨x, rfl⟩
      have hj' : j < l1.length := by omega
      have hw1 : Keeps [] w' { w' with drawn := w'.drawn + 1 } := keeps_drawn w' _ _
      obtain ⟨b1, o1, q1, e1, _, hx1⟩ := ((h1.keep kk).keep hw1).at (by omega)
      obtain ⟨b2, o2, q2, e2, _, hx2⟩ := ((h2.keep kk).keep hw1).at (by omega)
      have hj2 : j < l2.length := by omega
      have hc1 := hx1 j (by omega)
      have hc2 := hx2 j (by omega)
      rw [show (bcells l1)[j]? = some (.int .u8 (l1[j]'hj').toNat) by simp [bcells, hj']] at hc1
      rw [show (bcells l2)[j]? = some (.int .u8 (l2[j]'hj2).toNat) by simp [bcells, hj2]] at hc2
      refine p_val (v_indexAddr (b := b1) (o := o1) (l := l1.length) (c := q1) (j := j) (kk := .i64) F.bytes F.szU8 e1 rfl (by omega) (by omega)) ?_
      rw [show o1 + (j : Int).toNat * 1 = o1 + j by omega]
      refine l_lok (l_cell1 F.oneU8 rfl hc1) ?_
      refine p_val (v_indexAddr (b := b2) (o := o2) (l := l2.length) (c := q2) (j := j) (kk := .i64) F.bytes F.szU8 e2 rfl (by omega) (by omega)) ?_
      rw [show o2 + (j : Int).toNat * 1 = o2 + j by omega]
      refine l_lok (l_cell1 F.oneU8 rfl hc2) ?_
      refine p_val (v_cmp (kk := .u8) (a := (l1[j]'hj').toNat) (b := (l2[j]'hj2).toNat) (r := (((l1[j]'hj').toNat : Int) != (l2[j]'hj2).toNat)) rfl rfl rfl) ?_
      refine s_cond (b := (((l1[j]'hj').toNat : Int) != (l2[j]'hj2).toNat)) rfl (fun hb => ?_) fun hb => ?_
      · refine s_ret1 ⟨?_, kk.trans hw1⟩
        have hne : l1 ≠ l2 := fun e => by subst e; simp at hb
        rw [decide_eq_false hne]
        rfl
      · have he : l1[j]'hj' = l2[j]'hj2 := by
          have : ((l1[j]'hj').toNat : Int) = (l2[j]'hj2).toNat := by simpa using hb
          exact UInt8.toNat_inj.1 (by omega)
        refine s_val (v_arith (kk := .i64) (a := j) (b := 1) (r := ((j + 1 : Nat) : Int)) rfl rfl ?_) ?_
        · simp only [arithOf, Option.some.injEq]; rw [IntKind.wrap_i64]; omega
        refine ⟨J, rfl, hJ [vx] _ rfl ⟨fun i hi => ?_, kk.trans hw1⟩⟩
        by_cases hij : i < j
        · exact heq i hij
        · obtain rfl : i = j := by omega
          rw [List.getElem?_eq_getElem hj', List.getElem?_eq_getElem hj2, he]
    · rintro w' vr J ⟨heq, kk⟩ hvr
      refine s_ret1 ⟨?_, kk⟩
      have he : l1 = l2 := by
        apply List.ext_getElem?
        intro i
        by_cases hi : i < l1.length
        · exact heq i (by omega)
        · rw [List.getElem?_eq_none (by omega), List.getElem?_eq_none (by omega)]
      rw [decide_eq_true he]
      rfl

end

end Go.Kf

namespace Go.Kf

open Go

/-- The types of trees. -/
structure TyFacts (P : Program) (c : Nums) (tree trees tagL tag : Nat) : Prop where
  f0 : fieldOff P tree 0 = some 0
  f1 : fieldOff P tree 1 = some 1
  f2 : fieldOff P tree 2 = some 2
  f3 : fieldOff P tree 3 = some 3
  f4 : fieldOff P tree 4 = some 4
  g0 : fieldOff P tag 0 = some 0
  g1 : fieldOff P tag 1 = some 1
  agg : aggTy P tree = some 5
  aggTag : aggTy P tag = some 2
  sl : P.underlying trees = some (.slice tree)
  slTag : P.underlying tagL = some (.slice tag)
  oneTrees : oneTy P trees = true
  oneTagL : oneTy P tagL = true
  oneI64 : oneTy P c.tI64 = true
  oneU32 : oneTy P c.tU32 = true
  i64 : P.underlying c.tI64 = some (.int .i64)
  bool : P.underlying c.tBool = some .bool

section

variable {P : Program} {c : Nums} {R : Value → World → Prop} {Γ : List (List Value → World → Prop)} {n : Nat} {ρ : Nat → Value} {w : World} {k : Tr}

/-- The cell of a struct's field, in a tree that draws. -/
theorem p_fl {s i ty off b o : Nat} {p x : Operand} {cs : List Value} {v : Value} (hf : fieldOff P s i = some off) (h1 : oneTy P ty = true) (hp : ev ρ p = ptr b o) (hx : x = .tmp n) (hh : Has w b cs) (hv : cs[o + off]? = some v)
    (hk : k.sem P R Γ (n + 2) (ext (ext ρ n [ptr b (o + off)]) (n + 1) [v]) w) : (Tr.pur (.fieldAddr s p i) none <| .lok (.load ty x) none k).sem P R Γ n ρ w := by
  subst hx
  exact p_val (v_field hf hp) (l_lok (l_load1 h1 ext_at hh hv) hk)

theorem s_fl {s i ty off b o : Nat} {p x : Operand} {cs : List Value} {v : Value} (hf : fieldOff P s i = some off) (h1 : oneTy P ty = true) (hp : ev ρ p = ptr b o) (hx : x = .tmp n) (hh : Has w b cs) (hv : cs[o + off]? = some v)
    (hk : k.sem P R Γ (n + 2) (ext (ext ρ n [ptr b (o + off)]) (n + 1) [v]) w) : (Tr.op (.fieldAddr s p i) none [] <| .op (.load ty x) none [] k).sem P R Γ n ρ w := by
  subst hx
  exact s_val (v_field hf hp) (s_lok (l_load1 h1 ext_at hh hv) hk)

theorem s_box {t : Nat} {x : Operand} {cs : List Value} (hx : ev ρ x = .agg ⟨cs⟩) (hk : ∀ w', Has w' w.heap.size cs → Keeps [] w w' → w'.heap.size = w.heap.size + 1 → k.sem P R Γ (n + 1) (ext ρ n [ptr w.heap.size]) w') : (Tr.op (.box t x) none [] k).sem P R Γ n ρ w := by
  obtain ⟨w', e, h, kk, s⟩ := a_box (P := P) (w := w) (t := t) hx
  exact s_act e (fun p hp => (by cases hp)) (hk w' h kk s)

/-- The element j of a row of trees: where it is, what it says. -/
theorem trees_elem {A : Nat → Prop} {v : Value} {l : List PT} {lcs : List Value} {j : Nat} (hr : Reads w v 5 l.length lcs) (ht : TreesAt w A l lcs) (hj : j < l.length) :
    ∃ b o cap cs, v = .slice (some ⟨b, o, none⟩) l.length cap ∧ Has w b cs ∧ o + j * 5 + 5 ≤ cs.length ∧ TreeAt w A l[j] ((cs.drop (o + j * 5)).take 5) := by
  obtain ⟨b, o, cap, cs, hv, hh, hl, hx⟩ := hr.at (by omega)
  obtain ⟨a, m, z, e, ha, hm, _⟩ := ht.split (List.getElem?_eq_getElem hj)
  have hml := hm.len
  have hlen : lcs.length = l.length * 5 := hr.1
  refine ⟨b, o, cap, cs, hv, hh, by omega, ?_⟩
  have : (cs.drop (o + j * 5)).take 5 = m := by
    apply List.ext_getElem?
    intro i
    by_cases hi : i < 5
    · rw [List.getElem?_take, if_pos hi, List.getElem?_drop, Nat.add_assoc, hx (j * 5 + i) (by omega), e, List.append_assoc, List.getElem?_append_right (by omega), List.getElem?_append_left (by omega)]
      congr 1
      omega
    · rw [List.getElem?_eq_none (by simp; omega), List.getElem?_eq_none (by omega)]
  rw [this]
  exact hm

theorem TagRows.elem {A : Nat → Prop} : ∀ {m : TM} {cs : List Value} {j : Nat} {p : Nat × List UInt8}, TagRows w A m cs → m[j]? = some p → ∃ v, cs[j * 2]? = some (.int .u32 p.1) ∧ cs[j * 2 + 1]? = some v ∧ OctIn w A p.2 v
  | [], _, _, _, _, hp => by simp at hp
  | q :: m, _, 0, p, ⟨v, r, e, h1, h2⟩, hp => by
    simp only [List.getElem?_cons_zero, Option.some.injEq] at hp
    subst hp
    exact ⟨v, by rw [e]; rfl, by rw [e]; rfl, h1⟩
  | q :: m, _, j + 1, p, ⟨v, r, e, h1, h2⟩, hp => by
    simp only [List.getElem?_cons_succ] at hp
    obtain ⟨v', a, b, h⟩ := TagRows.elem h2 hp
    refine ⟨v', ?_, ?_, h⟩
    · rw [e, show (j + 1) * 2 = j * 2 + 1 + 1 by omega]; exact a
    · rw [e, show (j + 1) * 2 + 1 = (j * 2 + 1) + 1 + 1 by omega]; exact b

theorem TagRows.len {A : Nat → Prop} : ∀ {m : TM} {cs : List Value}, TagRows w A m cs → cs.length = m.length * 2
  | [], _, h => by simp only [TagRows] at h; subst h; rfl
  | _ :: m, _, ⟨v, r, e, _, h2⟩ => by rw [e, List.length_cons, List.length_cons, TagRows.len h2, List.length_cons]; omega

/-- The element j of a list of tags. -/
theorem tags_elem {A : Nat → Prop} {v : Value} {m : TM} {j : Nat} (h : TagsIn w A m v) (hj : j < m.length) :
    ∃ b o cap cs vv, v = .slice (some ⟨b, o, none⟩) m.length cap ∧ Has w b cs ∧ cs[o + j * 2]? = some (.int .u32 m[j].1) ∧ cs[o + j * 2 + 1]? = some vv ∧ OctIn w A m[j].2 vv := by
  obtain ⟨ucs, hr, _, ht⟩ := h
  obtain ⟨b, o, cap, cs, hv, hh, hl, hx⟩ := hr.at (by omega)
  obtain ⟨vv, h1, h2, h3⟩ := ht.elem (List.getElem?_eq_getElem hj)
  refine ⟨b, o, cap, cs, vv, hv, hh, ?_, ?_, h3⟩
  · rw [hx _ (by omega)]; exact h1
  · rw [Nat.add_assoc, hx _ (by omega)]; exact h2

end

end Go.Kf

namespace Go.Kf

open Go

def tGot (c : Nums) (fLawsGot : Nat) : Tr :=
  .op (.box c.tTree (.tmp 0)) none [] <|
  .op (.alloc c.sTree) none [] <|
  .op (.fieldAddr c.tTree (.tmp 1) 0) none [] <|
  .op (.load c.tI64 (.tmp 3)) none [] <|
  .op (.fieldAddr c.tTree (.tmp 1) 1) none [] <|
  .op (.load c.tBytes (.tmp 5)) none [] <|
  .op (.fieldAddr c.tTree (.tmp 1) 2) none [] <|
  .op (.load c.tBool (.tmp 7)) none [] <|
  .op (.build c.sTree ⟨[(0, (.tmp 4)), (1, (.tmp 6)), (2, (.tmp 8))]⟩) none [] <|
  .op (.alloc c.sTree) none [] <|
  .op (.store c.sTree (.tmp 10) (.tmp 9)) none [] <|
  .op (.fieldAddr c.tTree (.tmp 1) 3) none [] <|
  .op (.load c.tTrees (.tmp 12)) none [] <|
  .op (.call { callee := (.builtin .len), args := ⟨[(.tmp 13)]⟩, argTypes := ⟨[c.tTrees]⟩ }) none [] <|
  .loop 0 [(.const (.int .i64 0))] <|
  .op (.binOp .lss c.tInt (.tmp 15) (.tmp 14) c.tInt) none [] <|
  .cond (.tmp 16) (
    .op (.indexAddr c.tTrees (.tmp 13) (.tmp 15)) none [] <|
    .op (.load c.tTree (.tmp 17)) none [] <|
    .op (.alloc c.tTree) none [] <|
    .op (.store c.tTree (.tmp 19) (.tmp 18)) none [] <|
    .draw <|
    .pur (.fieldAddr c.sTree (.tmp 10) 3) none <|
    .lok (.load c.sTrees (.tmp 21)) none <|
    .lok (.load c.tTree (.tmp 19)) none <|
    .op (callOp fLawsGot [(.tmp 23)]) none [((.load c.sTrees (.tmp 21)), 22)] <|
    .op (.buildSlice c.sTrees 1 ⟨[(0, (.tmp 24))]⟩) none [((.load c.sTrees (.tmp 21)), 22)] <|
    .op (.call { callee := (.builtin .append), args := ⟨[(.tmp 22), (.tmp 25)]⟩, argTypes := ⟨[c.sTrees, c.sTrees]⟩ }) none [] <|
    .pur (.fieldAddr c.sTree (.tmp 10) 3) none <|
    .op (.store c.sTrees (.tmp 27) (.tmp 26)) none [] <|
    .op (.binOp .add c.tInt (.tmp 15) (.const (.int .i64 1)) c.tInt) none [] <|
    .to 0 [(.tmp 29)]
  ) (
    .op (.fieldAddr c.tTree (.tmp 1) 4) none [] <|
    .op (.load c.tTagL (.tmp 17)) none [] <|
    .op (.call { callee := (.builtin .len), args := ⟨[(.tmp 18)]⟩, argTypes := ⟨[c.tTagL]⟩ }) none [] <|
    .loop 1 [(.const (.int .i64 0))] <|
    .op (.binOp .lss c.tInt (.tmp 20) (.tmp 19) c.tInt) none [] <|
    .cond (.tmp 21) (
      .op (.indexAddr c.tTagL (.tmp 18) (.tmp 20)) none [] <|
      .op (.load c.tTag (.tmp 22)) none [] <|
      .op (.alloc c.tTag) none [] <|
      .op (.store c.tTag (.tmp 24) (.tmp 23)) none [] <|
      .op (.fieldAddr c.sTree (.tmp 10) 4) none [] <|
      .op (.load c.sTagL (.tmp 26)) none [] <|
      .op (.fieldAddr c.tTag (.tmp 24) 0) none [] <|
      .op (.load c.tU32 (.tmp 28)) none [] <|
      .op (.fieldAddr c.tTag (.tmp 24) 1) none [] <|
      .op (.load c.tBytes (.tmp 30)) none [] <|
      .op (.build c.sTag ⟨[(0, (.tmp 29)), (1, (.tmp 31))]⟩) none [] <|
      .op (.buildSlice c.sTagL 1 ⟨[(0, (.tmp 32))]⟩) none [] <|
      .op (.call { callee := (.builtin .append), args := ⟨[(.tmp 27), (.tmp 33)]⟩, argTypes := ⟨[c.sTagL, c.sTagL]⟩ }) none [] <|
      .op (.fieldAddr c.sTree (.tmp 10) 4) none [] <|
      .op (.store c.sTagL (.tmp 35) (.tmp 34)) none [] <|
      .op (.binOp .add c.tInt (.tmp 20) (.const (.int .i64 1)) c.tInt) none [] <|
      .to 1 [(.tmp 37)]
    ) (
      .op (.load c.sTree (.tmp 10)) none [] <|
      .op (.store c.sTree (.tmp 2) (.tmp 22)) none [] <|
      .ret [((.tmp 2), (some c.sTree))]
    )
  )

/-- A row's element type. -/
structure RowFacts (P : Program) (T sz : Nat) : Prop where
  info : ∃ inf z, P.info? T = some inf ∧ inf.zero = some z ∧ inf.size = sz ∧ z.cells.size = sz ∧ inf.bytes ≤ 1024
  agg : aggTy P T = some sz
  pos : 0 < sz ∧ sz ≤ 1024

structure GotFacts (P : Program) (c : Nums) : Prop where
  plan : buildPlan P c.sTree = some (zeroTree, [(0, 1), (1, 1), (2, 1), (3, 1), (4, 1)])
  planTag : ∃ z, buildPlan P c.sTag = some (z, [(0, 1), (1, 1)]) ∧ z.length = 2
  zero : zeroTy P c.sTree = some (.agg ⟨zeroTree⟩, 5)
  zeroT : ∃ z, zeroTy P c.tTree = some (z, 5) ∧ z.cells.size = 5
  zeroTag : ∃ z, zeroTy P c.tTag = some (z, 2) ∧ z.cells.size = 2
  row : RowFacts P c.sTree 5
  rowTag : RowFacts P c.sTag 2

section

variable {P : Program} {c : Nums} {R : Value → World → Prop} {Γ : List (List Value → World → Prop)} {n : Nat} {ρ : Nat → Value} {w : World} {k : Tr}

theorem s_alloc {t s : Nat} {z : Value} (hz : zeroTy P t = some (z, s)) (hk : ∀ w', Has w' w.heap.size z.cells.toList → Keeps [] w w' → w'.heap.size = w.heap.size + 1 → k.sem P R Γ (n + 1) (ext ρ n [ptr w.heap.size]) w') : (Tr.op (.alloc t) none [] k).sem P R Γ n ρ w := by
  obtain ⟨w', e, h, kk, s⟩ := a_alloc (P := P) (ρ := ρ) (w := w) hz
  exact s_act e (fun p hp => (by cases hp)) (hk w' h kk s)

/-- A whole struct, stored. -/
theorem s_storeAll {t b : Nat} {x y : Operand} {old cs : List Value} (ht : aggTy P t = some cs.length) (hx : ev ρ x = ptr b) (hy : (ev ρ y).cells = ⟨cs⟩) (hh : Has w b old) (hl : old.length = cs.length) (h1 : ∀ u ∈ cs, u.oneCell' = true)
    (hk : ∀ w', Has w' b cs → Keeps [b] w w' → k.sem P R Γ (n + 1) (ext ρ n [undef]) w') : (Tr.op (.store t x y) none [] k).sem P R Γ n ρ w := by
  obtain ⟨w', e, h2, kk⟩ := a_storeCells (P := P) (ρ := ρ) (w := w) (t := t) (x := x) (y := y) (b := b) (o := 0) (vs := cs) (aggTy_spec (w := w) ht).2 hx hy hh (by omega) h1
  refine s_unit e (fun p hp => (by cases hp)) (hk w' ?_ kk)
  have : splice old 0 cs = cs := by
    unfold splice
    simp only [List.take_zero, List.nil_append, Nat.zero_add]
    rw [List.drop_eq_nil_of_le (by omega), List.append_nil]
  rwa [this] at h2

/-- A struct's field, stored. -/
theorem s_fs {s i ty off b o : Nat} {p x y : Operand} {cs : List Value} {v : Value} (hf : fieldOff P s i = some off) (h1 : oneTy P ty = true) (hp : ev ρ p = ptr b o) (hx : x = .tmp n) (hy : ev ρ y = v) (hby : opBelow n y) (hv : v.oneCell' = true) (hh : Has w b cs) (hl : o + off < cs.length)
    (hk : ∀ w', Has w' b (cs.set (o + off) v) → Keeps [b] w w' → k.sem P R Γ (n + 2) (ext (ext ρ n [ptr b (o + off)]) (n + 1) [undef]) w') : (Tr.op (.fieldAddr s p i) none [] <| .op (.store ty x y) none [] k).sem P R Γ n ρ w := by
  subst hx
  refine s_val (v_field hf hp) ?_
  obtain ⟨w', e, h2, kk⟩ := a_store1 (P := P) (ρ := ext ρ n [.pointer (some ⟨b, o + off, none⟩)]) (w := w) (t := ty) (x := .tmp n) (y := y) h1 ext_at (by rw [ev_ext hby]; exact hy) hv hh hl
  exact s_unit e (fun p hp => (by cases hp)) (hk w' h2 kk)

theorem p_fs {s i ty off b o : Nat} {p x y : Operand} {cs : List Value} {v : Value} (hf : fieldOff P s i = some off) (h1 : oneTy P ty = true) (hp : ev ρ p = ptr b o) (hx : x = .tmp n) (hy : ev ρ y = v) (hby : opBelow n y) (hv : v.oneCell' = true) (hh : Has w b cs) (hl : o + off < cs.length)
    (hk : ∀ w', Has w' b (cs.set (o + off) v) → Keeps [b] w w' → k.sem P R Γ (n + 2) (ext (ext ρ n [ptr b (o + off)]) (n + 1) [undef]) w') : (Tr.pur (.fieldAddr s p i) none <| .op (.store ty x y) none [] k).sem P R Γ n ρ w := by
  subst hx
  refine p_val (v_field hf hp) ?_
  obtain ⟨w', e, h2, kk⟩ := a_store1 (P := P) (ρ := ext ρ n [.pointer (some ⟨b, o + off, none⟩)]) (w := w) (t := ty) (x := .tmp n) (y := y) h1 ext_at (by rw [ev_ext hby]; exact hy) hv hh hl
  exact s_unit e (fun p hp => (by cases hp)) (hk w' h2 kk)

/-- One element, appended to an own row. -/
theorem append_one {t e sz : Nat} {ρ : Nat → Value} {x y : Operand} {v u : Value} {m : Nat} {xs cs : List Value} (hR : RowFacts P e sz) (ht : P.underlying t = some (.slice e)) (hx : ev ρ x = v) (hy : ev ρ y = u) (ho : Own w v sz m xs) (hr : Reads w u sz 1 cs) (h1 : ∀ q ∈ cs, q.oneCell' = true) (hm : m < 4294967296) :
    ∃ v' w', runOp P ρ (.call { callee := .builtin .append, args := ⟨[x, y]⟩, argTypes := ⟨[t, t]⟩ }) w = .ok (.value v') w' ∧ Own w' v' sz (m + 1) (xs ++ cs) ∧ Keeps (blkOf v) w w' ∧ (∀ b ∈ blkOf v', b ∈ blkOf v ∨ w.heap.size ≤ b) := by
  obtain ⟨inf, z, hi, hz, hsz, hzc, hb⟩ := hR.info
  exact a_append ht hi hz hsz hzc hx hy ho (hr.src ht h1) (by
    calc (m + 1) * inf.bytes ≤ 4294967296 * 1024 := Nat.mul_le_mul (by omega) hb
      _ ≤ 140737488355328 := by decide) (by omega)

/-- []T{x}, of a struct. -/
theorem one_slice {t e sz : Nat} {ρ : Nat → Value} {x : Operand} {cs : List Value} (hR : RowFacts P e sz) (ht : P.underlying t = some (.slice e)) (hx : (ev ρ x).cells = ⟨cs⟩) (hl : cs.length = sz) :
    ∃ w', runOp P ρ (.buildSlice t 1 ⟨[(0, x)]⟩) w = .ok (.value (.slice (some ⟨w.heap.size, 0, none⟩) 1 1)) w' ∧ Reads w' (.slice (some ⟨w.heap.size, 0, none⟩) 1 1) sz 1 cs ∧ Keeps [] w w' ∧ w'.heap.size = w.heap.size + 1 := by
  subst hl
  obtain ⟨inf, z, hi, hz, hsz, hzc, hb⟩ := hR.info
  obtain ⟨w', e1, hh, kk, hs⟩ := a_sliceOne (P := P) (ρ := ρ) (w := w) (x := x) (z := z) (cs := cs) ht (by simp [zeroTy, hi, hz, hsz]) hR.pos.1 hR.pos.2 hx
  refine ⟨w', e1, ⟨by simp, .inr ⟨w.heap.size, 0, 1, cs, rfl, Nat.le_refl _, hh, by simp, by simp⟩⟩, kk, hs⟩

theorem s_oneSlice {t e sz : Nat} {x : Operand} {cs : List Value} {Fo : List (Op × Nat)} (hR : RowFacts P e sz) (ht : P.underlying t = some (.slice e)) (hx : (ev ρ x).cells = ⟨cs⟩) (hl : cs.length = sz)
    (hk : ∀ w', Reads w' (.slice (some ⟨w.heap.size, 0, none⟩) 1 1) sz 1 cs → Keeps [] w w' → w'.heap.size = w.heap.size + 1 → (∀ p ∈ Fo, runOp P ρ p.1 w' = .ok (.value (ρ p.2)) w') ∧ k.sem P R Γ (n + 1) (ext ρ n [.slice (some ⟨w.heap.size, 0, none⟩) 1 1]) w') :
    (Tr.op (.buildSlice t 1 ⟨[(0, x)]⟩) none Fo k).sem P R Γ n ρ w := by
  obtain ⟨w', e1, hr, kk, hs⟩ := one_slice (w := w) (ρ := ρ) hR ht hx hl
  exact s_act e1 (hk w' hr kk hs).1 (hk w' hr kk hs).2

theorem s_appendOne {t e sz m : Nat} {x y : Operand} {v u : Value} {xs cs : List Value} {Fo : List (Op × Nat)} (hR : RowFacts P e sz) (ht : P.underlying t = some (.slice e)) (hx : ev ρ x = v) (hy : ev ρ y = u) (ho : Own w v sz m xs) (hr : Reads w u sz 1 cs) (h1 : ∀ q ∈ cs, q.oneCell' = true) (hm : m < 4294967296)
    (hk : ∀ v' w', Own w' v' sz (m + 1) (xs ++ cs) → Keeps (blkOf v) w w' → (∀ b ∈ blkOf v', b ∈ blkOf v ∨ w.heap.size ≤ b) → (∀ p ∈ Fo, runOp P ρ p.1 w' = .ok (.value (ρ p.2)) w') ∧ k.sem P R Γ (n + 1) (ext ρ n [v']) w') :
    (Tr.op (.call { callee := .builtin .append, args := ⟨[x, y]⟩, argTypes := ⟨[t, t]⟩ }) none Fo k).sem P R Γ n ρ w := by
  obtain ⟨v', w', e1, h2, h3, h4⟩ := append_one (w := w) (ρ := ρ) hR ht hx hy ho hr h1 hm
  exact s_act e1 (hk v' w' h2 h3 h4).1 (hk v' w' h2 h3 h4).2

theorem Own.one {w : World} {v : Value} {sz n : Nat} {xs : List Value} (h : Own w v sz n xs) : v.oneCell' = true := h.reads.one

theorem TagRows.snoc {A : Nat → Prop} {q : Nat × List UInt8} {v : Value} (h : OctIn w A q.2 v) : ∀ {m : TM} {cs : List Value}, TagRows w A m cs → TagRows w A (m ++ [q]) (cs ++ [.int .u32 q.1, v])
  | [], _, h2 => by simp only [TagRows] at h2; subst h2; exact ⟨v, [], rfl, h, rfl⟩
  | p :: m, _, ⟨v', r, e, h1, h2⟩ => ⟨v', r ++ [.int .u32 q.1, v], by rw [e]; simp, h1, TagRows.snoc h h2⟩

def GotOf (P : Program) (f : Nat) (x : PT) : Prop := ∀ (w : World) (A : Nat → Prop) (c1 : List Value), TreeAt w A x c1 → Gives P f [.agg ⟨c1⟩] w fun v w' => (∃ cs, v = .agg ⟨cs⟩ ∧ TreeAt w' (fun b => A b ∨ w.heap.size ≤ b) x cs) ∧ Keeps [] w w'

theorem got_step {f : Nat} (F : RdFacts P c) (Y : TyFacts P c c.sTree c.sTrees c.sTagL c.sTag) (Z : TyFacts P c c.tTree c.tTrees c.tTagL c.tTag) (G : GotFacts P c) (hT : treeIn P f noOrc [.tmp 0] 1 = tGot c f) {nn : Int} {s : List UInt8} {null : Bool} {l : List PT} {u : TM} (ih : ∀ t ∈ l, GotOf P f t) : GotOf P f (.mk nn s null l u) := by
  intro w A c1 h1
  obtain ⟨sv1, lv1, uv1, lcs1, rfl, hs1, hl1, hb1, ht1, hu1⟩ := h1
  refine gives_in (ρ := en [_]) F.mix hT (Nat.le_refl _) rfl (by simp [opBelow]) ?_
  refine s_box rfl fun w1 hx1 k1 z1 => ?_
  refine s_alloc G.zero fun w2 hr2 k2 z2 => ?_
  have hx2 := hx1.keep k2 (by simp)
  refine s_fl Z.f0 Z.oneI64 rfl rfl hx2 rfl (s_fl Z.f1 F.oneBytes rfl rfl hx2 rfl (s_fl Z.f2 F.oneBool rfl rfl hx2 rfl ?_))
  refine s_val (v_build (cells := [.int .i64 nn, sv1, .bool null, .slice none 0 0, .slice none 0 0]) G.plan (fun p hp => by
    simp only [List.mem_cons, List.not_mem_nil, or_false] at hp
    rcases hp with rfl | rfl | rfl
    · rfl
    · exact hs1.one
    · rfl) rfl) ?_
  refine s_alloc G.zero fun w3 hr3 k3 z3 => ?_
  refine s_storeAll (b := w2.heap.size) (old := zeroTree) (cs := [.int .i64 nn, sv1, .bool null, .slice none 0 0, .slice none 0 0]) Y.agg rfl rfl hr3 rfl (fun q hq => by
    simp only [List.mem_cons, List.not_mem_nil, or_false] at hq
    rcases hq with rfl | rfl | rfl | rfl | rfl
    · rfl
    · exact hs1.one
    · rfl
    · rfl
    · rfl) fun w4 hr4 k4 => ?_
  have k34 : Keeps [] w2 w4 := ((k3.mono (by simp)).trans k4).less fun x hx => .inr (by simp only [List.mem_singleton] at hx; omega)
  have k14 : Keeps [] w w4 := (k1.trans k2).trans k34
  have hx4 : Has w4 w.heap.size _ := hx2.keep k34 (by simp)
  have hr24 := hr2.keep k34 (by simp)
  obtain ⟨a1, q1, e1, _⟩ := hl1.form
  refine s_fl Z.f3 Z.oneTrees rfl rfl hx4 rfl (s_val (v_len (a := a1) (l := l.length) (c := q1) Z.sl e1) ?_)
  have hszT : (P.info? c.tTree).map (·.size) = some 5 := (aggTy_spec (w := w) Z.agg).2
  have hszG : (P.info? c.tTag).map (·.size) = some 2 := (aggTy_spec (w := w) Z.aggTag).2
  have s4 := k4.size
  have hs2 := k2.size
  have hs1' := k1.size
  refine s_count (n := 15) (q := 14) (kk := .i64) (m := l.length) (ri := []) (Γ := []) (fun j w' => Keeps [] w w' ∧ w4.heap.size ≤ w'.heap.size ∧ Has w' w.heap.size [.int .i64 nn, sv1, .bool null, lv1, uv1] ∧ Has w' w1.heap.size zeroTree ∧
    ∃ lv xs, Has w' w2.heap.size [.int .i64 nn, sv1, .bool null, lv, .slice none 0 0] ∧ Own w' lv 5 j xs ∧ (∀ b ∈ blkOf lv, w2.heap.size < b) ∧ TreesAt w' (fun b => (A b ∧ b < w.heap.size) ∨ (w2.heap.size < b ∧ b ∉ blkOf lv)) (l.take j) xs) (by omega) rfl
    ⟨k14, Nat.le_refl _, hx4, hr24, _, [], hr4, Own.nil w4 5, (fun b hb => by cases hb), rfl⟩ ?_ ?_
  · rintro j hj w5 vr ⟨k5, hsz5, hx5, hr5, lv, xs, ho5, hown, hblk, htr⟩ hvr J hJ
    obtain rfl : vr = [] := List.eq_nil_of_length_eq_zero hvr
    have hj' : j < l.length := by omega
    obtain ⟨b1, o1, p1, cs1, g1, hh1, hle1, hta1⟩ := trees_elem (hl1.keep k5 (by simp)) (ht1.keep k5 (fun b hb => by cases hb) (fun _ h hlt => (⟨h, hlt⟩ : A _ ∧ _ < w.heap.size))) hj'
    refine s_val (v_indexAddr (b := b1) (o := o1) (l := l.length) (c := p1) (j := j) (kk := .i64) Z.sl hszT g1 rfl (by omega) (by omega)) ?_
    refine s_lok (l_loadN (b := b1) (o := o1 + (j : Int).toNat * 5) Z.agg rfl hh1 (by rw [Int.toNat_natCast]; exact hle1)) ?_
    rw [Int.toNat_natCast]
    generalize hcc : (cs1.drop (o1 + j * 5)).take 5 = cc at hta1
    obtain ⟨zT, hzT, hzTc⟩ := G.zeroT
    refine s_alloc hzT fun w6 hn6 k6 z6 => ?_
    have hcl := hta1.len
    refine s_storeAll (b := w5.heap.size) (cs := cc) (by rw [hcl]; exact Z.agg) rfl rfl hn6 (by rw [hcl]; simpa using hzTc) hta1.ones fun w7 hn7 k7 => ?_
    have hd : Keeps [] w7 { w7 with drawn := w7.drawn + 1 } := keeps_drawn w7 _ _
    show Tr.sem _ _ _ _ _ _ { w7 with drawn := w7.drawn + 1 }
    generalize ({ w7 with drawn := w7.drawn + 1 } : World) = w8 at hd ⊢
    have k58 : Keeps [w5.heap.size] w5 w8 := (k6.mono (by simp)).trans (k7.trans (hd.mono (by simp)))
    have k58' : Keeps [] w5 w8 := k58.less fun x hx => .inr (by simp only [List.mem_singleton] at hx; omega)
    have ho8 := ho5.keep k58' (by simp)
    have hn8 := hn7.keep hd (by simp)
    have s58 := k58.size
    have s05 := k5.size
    have z42 := k34.size
    refine p_fl Y.f3 Y.oneTrees rfl rfl ho8 rfl ?_
    refine l_lok (l_loadN (b := w5.heap.size) (o := 0) Z.agg rfl hn8 (by omega)) ?_
    rw [show (cc.drop 0).take 5 = cc by rw [List.drop_zero, List.take_of_length_le (by omega)]]
    have hta8 := TreeAt.keep k58' (fun b hb => by cases hb) (fun _ h _ => h) _ _ hta1
    refine s_call (xs := [.tmp 23]) (ih l[j] (List.getElem_mem hj') _ _ cc hta8) fun v w9 ⟨⟨cs, hv, htc⟩, k9⟩ => ⟨?_, ?_⟩
    · intro p hp
      simp only [List.mem_singleton] at hp
      subst hp
      exact l_load1 (b := w2.heap.size) (o := 3) Y.oneTrees rfl (ho8.keep k9 (by simp)) rfl
    subst hv
    have hcsl := htc.len
    have ho9 := ho8.keep k9 (by simp)
    have s89 := k9.size
    refine s_oneSlice G.row Y.sl (x := .tmp 24) (cs := cs) rfl hcsl fun w10 hsl k10 z10 => ⟨?_, ?_⟩
    · intro p hp
      simp only [List.mem_singleton] at hp
      subst hp
      exact l_load1 (b := w2.heap.size) (o := 3) Y.oneTrees rfl (ho9.keep k10 (by simp)) rfl
    have hlt5 := hown.lt
    have k510 : Keeps [] w5 w10 := (k58'.trans k9).trans k10
    have hown10 : Own w10 lv 5 j xs := hown.keep k510 (by simp)
    have hbl := hb1.2
    refine s_appendOne (v := lv) (u := .slice (some ⟨w9.heap.size, 0, none⟩) 1 1) G.row Y.sl rfl rfl hown10 hsl htc.ones (by omega) fun lv' w11 hown11 k11 hb11 => ⟨fun p hp => (by cases hp), ?_⟩
    have ho11 : Has w11 w2.heap.size [.int .i64 nn, sv1, .bool null, lv, .slice none 0 0] := (ho9.keep k10 (by simp)).keep k11 fun hb => by have := hblk _ hb; omega
    refine p_fs (v := lv') Y.f3 Y.oneTrees rfl rfl rfl (by simp [opBelow]) hown11.one ho11 (show 0 + 3 < 5 by omega) fun w12 ho12 k12 => ?_
    refine s_val (v_arith (kk := .i64) (a := j) (b := 1) (r := ((j + 1 : Nat) : Int)) rfl rfl ?_) ?_
    · simp only [arithOf, Option.some.injEq]; rw [IntKind.wrap_i64]; omega
    have k512 : Keeps [] w w12 := ((k5.mono (by simp)).trans ((k510.mono (by simp)).trans ((k11.mono fun x hx => List.mem_append_left _ hx).trans (k12.mono fun x hx => List.mem_append_right _ hx))) : Keeps (blkOf lv ++ [w2.heap.size]) w w12).less fun x hx => .inr (by
      rcases List.mem_append.1 hx with h | h
      · have := hblk _ h; omega
      · simp only [List.mem_singleton] at h; omega)
    have s10 := k10.size
    have s11 := k11.size
    have s12 := k12.size
    have s510 := k510.size
    have old : ∀ {cs' : List Value} {b : Nat}, Has w5 b cs' → b < w2.heap.size → Has w12 b cs' := fun h hb => ((h.keep k510 (by simp)).keep k11 fun hq => by have := hblk _ hq; omega).keep k12 (by simp; omega)
    refine ⟨J, rfl, hJ [] _ rfl ⟨k512, by omega, old hx5 (by omega), old hr5 (by omega), lv', xs ++ cs, ho12, hown11.keep k12 (fun b hb => ?_), fun b hb => ?_, ?_⟩⟩
    · simp only [List.mem_singleton]
      rcases hb11 b hb with h | h
      · have := hblk _ h; omega
      · omega
    · rcases hb11 b hb with h | h
      · exact hblk _ h
      · omega
    · have hlt10 := hown10.lt
      rw [List.take_succ_eq_append_getElem hj']
      refine TreesAt.snoc ?_ ?_
      · have t10 := TreeAt.keep (A' := fun b => ((A b ∧ b < w.heap.size) ∨ w8.heap.size ≤ b) ∧ b < w9.heap.size) k10 (fun b hb => by cases hb) (fun b h hlt => ⟨h, hlt⟩) _ _ htc
        have t11 := TreeAt.keep k11 (fun b hb h => by
          have := hblk b hb
          have := hlt5 b hb
          rcases h.1 with h' | h'
          · have := h'.2; omega
          · omega) (fun _ h _ => h) _ _ t10
        exact TreeAt.keep k12 (fun b hb h => by
          simp only [List.mem_singleton] at hb
          rcases h.1 with h' | h'
          · have := h'.2; omega
          · omega) (fun b h _ => by
          rcases h.1 with h' | h'
          · exact .inl h'
          · refine .inr ⟨by omega, fun hb => ?_⟩
            rcases hb11 b hb with h5 | h5
            · have := hlt5 b h5; omega
            · omega) _ _ t11
      · have t10 := TreesAt.keep (A' := fun b => ((A b ∧ b < w.heap.size) ∨ (w2.heap.size < b ∧ b ∉ blkOf lv)) ∧ b < w5.heap.size) k510 (fun b hb => by cases hb) (fun b h hlt => ⟨h, hlt⟩) _ _ htr
        have t11 := TreesAt.keep k11 (fun b hb h => by
          have := hblk b hb
          rcases h.1 with h' | h'
          · have := h'.2; omega
          · exact h'.2 hb) (fun _ h _ => h) _ _ t10
        exact TreesAt.keep k12 (fun b hb h => by
          simp only [List.mem_singleton] at hb
          rcases h.1 with h' | h'
          · have := h'.2; omega
          · have := h'.1; omega) (fun b h _ => by
          rcases h.1 with h' | h'
          · exact .inl h'
          · refine .inr ⟨h'.1, fun hb => ?_⟩
            rcases hb11 b hb with h5 | h5
            · exact h'.2 h5
            · omega) _ _ t11
  · rintro w5 vr J ⟨k5, hsz5, hx5, hr5, lv, xs, ho5, hown, hblk, htr⟩ hvr
    obtain rfl : vr = [] := List.eq_nil_of_length_eq_zero hvr
    rw [Int.toNat_natCast, List.take_length] at htr
    rw [Int.toNat_natCast] at hown
    have hu5 := hu1
    obtain ⟨ucs1, hur1, hub1, _⟩ := hu5
    obtain ⟨a3, q3, e3, _⟩ := hur1.form
    refine s_fl Z.f4 Z.oneTagL rfl rfl hx5 rfl (s_val (v_len (a := a3) (l := u.length) (c := q3) Z.slTag e3) ?_)
    have hltv := hown.lt
    refine s_count (n := 20) (q := 19) (kk := .i64) (m := u.length) (ri := []) (Γ := [J]) (fun j w' => Keeps [] w w' ∧ w5.heap.size ≤ w'.heap.size ∧ Has w' w1.heap.size zeroTree ∧ Own w' lv 5 l.length xs ∧ TreesAt w' (fun b => ((A b ∧ b < w.heap.size) ∨ w2.heap.size < b) ∧ b < w5.heap.size) l xs ∧
      ∃ uv ucs, Has w' w2.heap.size [.int .i64 nn, sv1, .bool null, lv, uv] ∧ Own w' uv 2 j ucs ∧ (∀ b ∈ blkOf uv, w5.heap.size ≤ b) ∧ TagRows w' (fun b => A b ∧ b < w.heap.size) (u.take j) ucs) (by omega) rfl
      ⟨k5, Nat.le_refl _, hr5, hown, htr.mono (fun b h hlt => ?_), _, [], ho5, Own.nil w5 2, (fun b hb => by cases hb), rfl⟩ ?_ ?_
    · rcases h with h | h
      · exact ⟨.inl h, hlt⟩
      · exact ⟨.inr h.1, hlt⟩
    · rintro j hj w6 vr ⟨k6, hsz6, hr6, hown6, htr6, uv, ucs, ho6, hownu, hblku, hrows⟩ hvr J2 hJ2
      obtain rfl : vr = [] := List.eq_nil_of_length_eq_zero hvr
      have hj' : j < u.length := by omega
      obtain ⟨b1, o1, p1, cs1, vv, g1, hh1, hka, hva, hoc⟩ := tags_elem (hu1.keep (A' := fun b => A b ∧ b < w.heap.size) k6 (fun b hb => by cases hb) (fun _ h hlt => ⟨h, hlt⟩)) hj'
      refine s_val (v_indexAddr (b := b1) (o := o1) (l := u.length) (c := p1) (j := j) (kk := .i64) Z.slTag hszG g1 rfl (by omega) (by omega)) ?_
      rw [Int.toNat_natCast]
      have hle : o1 + j * 2 + 2 ≤ cs1.length := by
        have := (List.getElem?_eq_some_iff.1 hva).1
        omega
      refine s_lok (l_loadN (b := b1) (o := o1 + j * 2) Z.aggTag rfl hh1 hle) ?_
      have hcell : (cs1.drop (o1 + j * 2)).take 2 = [.int .u32 u[j].1, vv] := by
        apply List.ext_getElem?
        intro i
        match i with
        | 0 => rw [List.getElem?_take, if_pos (by omega), List.getElem?_drop]; exact hka
        | 1 => rw [List.getElem?_take, if_pos (by omega), List.getElem?_drop]; exact hva
        | i + 2 => rw [List.getElem?_eq_none (by simp; omega), List.getElem?_eq_none (by simp)]
      rw [hcell]
      obtain ⟨zT, hzT, hzTc⟩ := G.zeroTag
      refine s_alloc hzT fun w7 hn7 k7 z7 => ?_
      have hv1 := hoc.one
      refine s_storeAll (b := w6.heap.size) (cs := [.int .u32 u[j].1, vv]) Z.aggTag rfl rfl hn7 (by simpa using hzTc) (fun q hq => by
        simp only [List.mem_cons, List.not_mem_nil, or_false] at hq
        rcases hq with rfl | rfl
        · rfl
        · exact hv1) fun w8 hn8 k8 => ?_
      have k68 : Keeps [] w6 w8 := ((k7.mono (by simp)).trans k8).less fun x hx => .inr (by simp only [List.mem_singleton] at hx; omega)
      have ho8 := ho6.keep k68 (by simp)
      refine s_fl Y.f4 Y.oneTagL rfl rfl ho8 rfl (s_fl Z.g0 Z.oneU32 rfl rfl hn8 rfl (s_fl Z.g1 F.oneBytes rfl rfl hn8 rfl ?_))
      obtain ⟨zt, hplan, hztl⟩ := G.planTag
      obtain ⟨z1, z2, rfl⟩ : ∃ a b, zt = [a, b] := by
        match zt, hztl with
        | [a, b], _ => exact ⟨a, b, rfl⟩
      refine s_val (v_build (cells := [.int .u32 u[j].1, vv]) hplan (fun p hp => by
        simp only [List.mem_cons, List.not_mem_nil, or_false] at hp
        rcases hp with rfl | rfl
        · rfl
        · exact hv1) rfl) ?_
      refine s_oneSlice G.rowTag Y.slTag (x := .tmp 32) (cs := [.int .u32 u[j].1, vv]) rfl rfl fun w9 hsl k9 z9 => ⟨fun p hp => (by cases hp), ?_⟩
      have k69 : Keeps [] w6 w9 := k68.trans k9
      have hown9 := hownu.keep k69 (by simp)
      have hltu := hownu.lt
      have hub := hub1.2
      refine s_appendOne (v := uv) (u := .slice (some ⟨w8.heap.size, 0, none⟩) 1 1) G.rowTag Y.slTag rfl rfl hown9 hsl (fun q hq => by
        simp only [List.mem_cons, List.not_mem_nil, or_false] at hq
        rcases hq with rfl | rfl
        · rfl
        · exact hv1) (by omega) fun uv' w10 hown10 k10 hb10 => ⟨fun p hp => (by cases hp), ?_⟩
      have s34 := k34.size
      have s05 := k5.size
      have ho10 : Has w10 w2.heap.size [.int .i64 nn, sv1, .bool null, lv, uv] := (ho6.keep k69 (by simp)).keep k10 fun hb => by have := hblku _ hb; omega
      refine s_fs (v := uv') Y.f4 Y.oneTagL rfl rfl rfl (by simp [opBelow]) hown10.one ho10 (show 0 + 4 < 5 by omega) fun w11 ho11 k11 => ?_
      refine s_val (v_arith (kk := .i64) (a := j) (b := 1) (r := ((j + 1 : Nat) : Int)) rfl rfl ?_) ?_
      · simp only [arithOf, Option.some.injEq]; rw [IntKind.wrap_i64]; omega
      have k611 : Keeps [] w w11 := ((k6.mono (by simp)).trans ((k69.mono (by simp)).trans ((k10.mono fun x hx => List.mem_append_left _ hx).trans (k11.mono fun x hx => List.mem_append_right _ hx))) : Keeps (blkOf uv ++ [w2.heap.size]) w w11).less fun x hx => .inr (by
        rcases List.mem_append.1 hx with h | h
        · have := hblku _ h; omega
        · simp only [List.mem_singleton] at h; omega)
      have s69 := k69.size
      have s10 := k10.size
      have s11 := k11.size
      refine ⟨J2, rfl, hJ2 [] _ rfl ⟨k611, by omega, ((hr6.keep k69 (by simp)).keep k10 fun hb => by have := hblku _ hb; omega).keep k11 (by simp; omega), ((hown6.keep k69 (by simp)).keep k10 fun b hb hb' => ?_).keep k11 fun b hb => ?_, ?_, uv', ucs ++ [.int .u32 u[j].1, vv], ho11, hown10.keep k11 fun b hb => ?_, fun b hb => ?_, ?_⟩⟩
      · have := hblku _ hb'; have := hltv b hb; omega
      · simp only [List.mem_singleton]; have := hblk b hb; omega
      · have t9 := TreesAt.keep k69 (fun b hb => by cases hb) (fun _ h _ => h) _ _ htr6
        have t10 := TreesAt.keep k10 (fun b hb h => by have := hblku b hb; have := h.2; omega) (fun _ h _ => h) _ _ t9
        exact TreesAt.keep k11 (fun b hb h => by
          simp only [List.mem_singleton] at hb
          rcases h.1 with h' | h'
          · have := h'.2; omega
          · omega) (fun _ h _ => h) _ _ t10
      · simp only [List.mem_singleton]
        rcases hb10 b hb with h | h
        · have := hblku b h; omega
        · omega
      · rcases hb10 b hb with h | h
        · exact hblku b h
        · omega
      · rw [List.take_succ_eq_append_getElem hj']
        have o9 := hoc.keep k69 (fun b hb => by cases hb) (fun _ h _ => h)
        have o10 := o9.keep k10 (fun b hb h => by have := hblku b hb; have := h.2; omega) (fun _ h _ => h)
        have o11 := o10.keep k11 (fun b hb h => by simp only [List.mem_singleton] at hb; have := h.2; omega) (fun _ h _ => h)
        have t9 := TagRows.keep k69 (fun b hb => by cases hb) (fun _ h _ => h) _ _ hrows
        have t10 := TagRows.keep k10 (fun b hb h => by have := hblku b hb; have := h.2; omega) (fun _ h _ => h) _ _ t9
        exact TagRows.snoc o11 (TagRows.keep k11 (fun b hb h => by simp only [List.mem_singleton] at hb; have := h.2; omega) (fun _ h _ => h) _ _ t10)
    · rintro w6 vr J2 ⟨k6, hsz6, hr6, hown6, htr6, uv, ucs, ho6, hownu, hblku, hrows⟩ hvr
      obtain rfl : vr = [] := List.eq_nil_of_length_eq_zero hvr
      rw [Int.toNat_natCast, List.take_length] at hrows
      rw [Int.toNat_natCast] at hownu
      have s34 := k34.size
      have s05 := k5.size
      refine s_lok (l_loadN (b := w2.heap.size) (o := 0) Y.agg rfl ho6 (show 0 + 5 ≤ 5 by omega)) ?_
      have hones : ∀ q ∈ [Value.int .i64 nn, sv1, .bool null, lv, uv], q.oneCell' = true := fun q hq => by
        simp only [List.mem_cons, List.not_mem_nil, or_false] at hq
        rcases hq with rfl | rfl | rfl | rfl | rfl
        · rfl
        · exact hs1.one
        · rfl
        · exact hown6.one
        · exact hownu.one
      refine s_storeAll (b := w1.heap.size) (cs := [.int .i64 nn, sv1, .bool null, lv, uv]) Y.agg rfl rfl hr6 rfl hones fun w7 hn7 k7 => ?_
      have k67 : Keeps [] w w7 := ((k6.mono (by simp)).trans k7).less fun x hx => .inr (by simp only [List.mem_singleton] at hx; omega)
      refine s_retAgg (b := w1.heap.size) rfl hn7 Y.agg ⟨⟨_, rfl, sv1, lv, uv, xs, rfl, hs1.keep k67 (fun b hb => by cases hb) (fun _ h _ => .inl h), ?_, ⟨?_, hb1.2⟩, ?_, ucs, ?_, ⟨?_, hub1.2⟩, ?_⟩, k67⟩
      · exact (hown6.keep k7 fun b hb => by simp only [List.mem_singleton]; have := hblk b hb; omega).reads
      · intro b hb
        have := hblk b hb
        exact .inr (by omega)
      · exact TreesAt.keep k7 (fun b hb h => by
          simp only [List.mem_singleton] at hb
          rcases h.1 with h' | h'
          · have := h'.2; omega
          · omega) (fun b h _ => by
          rcases h.1 with h' | h'
          · exact .inl h'.1
          · exact .inr (by omega)) _ _ htr6
      · exact (hownu.keep k7 fun b hb => by simp only [List.mem_singleton]; have := hblku b hb; omega).reads
      · intro b hb
        have := hblku b hb
        exact .inr (by omega)
      · exact TagRows.keep k7 (fun b hb h => by simp only [List.mem_singleton] at hb; have := h.2; omega) (fun _ h _ => .inl h.1) _ _ hrows

mutual
theorem got_gives {f : Nat} (F : RdFacts P c) (Y : TyFacts P c c.sTree c.sTrees c.sTagL c.sTag) (Z : TyFacts P c c.tTree c.tTrees c.tTagL c.tTag) (G : GotFacts P c) (hT : treeIn P f noOrc [.tmp 0] 1 = tGot c f) : ∀ x : PT, GotOf P f x
  | .mk _ _ _ l _ => got_step F Y Z G hT (gots_give F Y Z G hT l)
theorem gots_give {f : Nat} (F : RdFacts P c) (Y : TyFacts P c c.sTree c.sTrees c.sTagL c.sTag) (Z : TyFacts P c c.tTree c.tTrees c.tTagL c.tTag) (G : GotFacts P c) (hT : treeIn P f noOrc [.tmp 0] 1 = tGot c f) : ∀ l : List PT, ∀ t ∈ l, GotOf P f t
  | [], _, h => by cases h
  | x :: l, t, h => by
    rcases List.mem_cons.1 h with e | h
    · rw [e]
      exact got_gives F Y Z G hT x
    · exact gots_give F Y Z G hT l t h
end

end

end Go.Kf

namespace Go.Kf

open Go

inductive Ty where
  | num (k : IntKind)
  | bool
  | uuid
  | text
  | ntext
  | octs
  | tags
  | list (ts : List Ty)
  | ptr (ts : List Ty)
  | sub (ts : List Ty)

mutual
def Ty.beq : Ty → Ty → Bool
  | .num k, .num k' => decide (k = k')
  | .bool, .bool => true
  | .uuid, .uuid => true
  | .text, .text => true
  | .ntext, .ntext => true
  | .octs, .octs => true
  | .tags, .tags => true
  | .list a, .list b => beqTys a b
  | .ptr a, .ptr b => beqTys a b
  | .sub a, .sub b => beqTys a b
  | _, _ => false
def beqTys : List Ty → List Ty → Bool
  | [], [] => true
  | a :: l, b :: r => a.beq b && beqTys l r
  | _, _ => false
end

mutual
theorem Ty.beq_eq : ∀ (a b : Ty), a.beq b = true → a = b
  | .num k, b, h => by cases b <;> simp [Ty.beq] at h; rw [h]
  | .bool, b, h => by cases b <;> simp [Ty.beq] at h; rfl
  | .uuid, b, h => by cases b <;> simp [Ty.beq] at h; rfl
  | .text, b, h => by cases b <;> simp [Ty.beq] at h; rfl
  | .ntext, b, h => by cases b <;> simp [Ty.beq] at h; rfl
  | .octs, b, h => by cases b <;> simp [Ty.beq] at h; rfl
  | .tags, b, h => by cases b <;> simp [Ty.beq] at h; rfl
  | .list a, b, h => by
    cases b <;> simp only [Ty.beq, Bool.false_eq_true] at h
    rw [beqTys_eq _ _ h]
  | .ptr a, b, h => by
    cases b <;> simp only [Ty.beq, Bool.false_eq_true] at h
    rw [beqTys_eq _ _ h]
  | .sub a, b, h => by
    cases b <;> simp only [Ty.beq, Bool.false_eq_true] at h
    rw [beqTys_eq _ _ h]
theorem beqTys_eq : ∀ (a b : List Ty), beqTys a b = true → a = b
  | [], b, h => by cases b <;> simp [beqTys] at h; rfl
  | x :: xs, b, h => by
    cases b with
    | nil => simp [beqTys] at h
    | cons y ys =>
      simp only [beqTys, Bool.and_eq_true] at h
      rw [Ty.beq_eq x y h.1, beqTys_eq xs ys h.2]
end

/-- How long texts, octets and lists may be. -/
def big : Nat := 1073741825

mutual
def okF : FV → Ty → Prop
  | .one v, t => match t with
    | .num k => ∃ x, v = .int k x ∧ k.wrap x = x
    | .bool => ∃ b, v = .bool b
    | _ => False
  | .uuid l, t => t = .uuid ∧ l.length = 16
  | .text l, t => t = .text ∧ l.length ≤ big
  | .ntext o, t => t = .ntext ∧ ∀ l, o = some l → l.length ≤ big
  | .octs _ l, t => t = .octs ∧ l.length ≤ big
  | .tags m, t => t = .tags ∧ m.length ≤ big ∧ ∀ p ∈ m, p.2.length ≤ big
  | .list _ rows, t => match t with
    | .list ts => rows.length ≤ big ∧ okRows rows ts
    | _ => False
  | .ptr none, t => match t with
    | .ptr _ => True
    | _ => False
  | .ptr (some fs), t => match t with
    | .ptr ts => okFs fs ts
    | _ => False
  | .sub fs, t => match t with
    | .sub ts => okFs fs ts
    | _ => False
def okFs : List FV → List Ty → Prop
  | [], ts => ts = []
  | f :: fs, ts => match ts with
    | t :: ts => okF f t ∧ okFs fs ts
    | [] => False
def okRows : List (List FV) → List Ty → Prop
  | [], _ => True
  | r :: rs, ts => okFs r ts ∧ okRows rs ts
end

theorem okFs_get : ∀ {fs : List FV} {ts : List Ty} {i : Nat} {t : Ty}, okFs fs ts → ts[i]? = some t → ∃ f, fs[i]? = some f ∧ okF f t
  | [], ts, i, t, h, hi => by simp only [okFs] at h; subst h; simp at hi
  | f :: fs, [], _, _, h, _ => by simp only [okFs] at h
  | f :: fs, t0 :: ts, 0, t, h, hi => by
    simp only [okFs] at h
    simp only [List.getElem?_cons_zero, Option.some.injEq] at hi
    subst hi
    exact ⟨f, rfl, h.1⟩
  | f :: fs, t0 :: ts, i + 1, t, h, hi => by
    simp only [okFs] at h
    simp only [List.getElem?_cons_succ] at hi ⊢
    exact okFs_get h.2 hi

theorem okRows_mem : ∀ {rs : List (List FV)} {ts : List Ty}, okRows rs ts → ∀ r ∈ rs, okFs r ts
  | [], _, _, _, h => by cases h
  | _ :: _, _, h, x, hx => by
    rcases List.mem_cons.1 hx with e | hx
    · rw [e]; exact h.1
    · exact okRows_mem h.2 x hx

theorem wrap_wrap (k : IntKind) (x : Int) : k.wrap (k.wrap x) = k.wrap x := by
  cases k <;> simp only [IntKind.wrap, IntKind.bits, IntKind.signed] <;> simp <;> (try split) <;> (try split) <;> omega

def PK.ty : PK → Ty
  | .num _ k => .num k
  | .bool => .bool
  | .str => .text
  | .cstr => .text
  | .nstr => .ntext
  | .cnstr => .ntext
  | .bytes => .octs
  | .cbytes => .octs
  | .nbytes => .octs
  | .cnbytes => .octs
  | .uuid => .uuid
  | .tags => .tags

theorem tmSet_mem : ∀ (m : TM) (k : Nat) (l : List UInt8) (p : Nat × List UInt8), p ∈ tmSet m k l → p ∈ m ∨ p = (k, l)
  | [], k, l, p, h => by simp only [tmSet, List.mem_singleton] at h; exact .inr h
  | q :: m, k, l, p, h => by
    simp only [tmSet] at h
    split at h
    · rcases List.mem_cons.1 h with h | h
      · exact .inr h
      · exact .inl (List.mem_cons_of_mem _ h)
    · rcases List.mem_cons.1 h with h | h
      · exact .inl (by rw [h]; exact List.mem_cons_self)
      · exact (tmSet_mem m k l p h).imp (List.mem_cons_of_mem _) id

end Go.Kf

namespace Go.Kf

open Go

/-- The field i of the told struct. -/
structure FieldOk (P : Program) (S : Nat) (ls : List Nat) (i off : Nat) : Prop where
  field : fieldOff P S i = some off
  off : (ls.take i).sum = off

section

variable {P : Program} {c : Nums} {R : Value → World → Prop} {Γ : List (List Value → World → Prop)} {n : Nat} {ρ : Nat → Value} {w w0 : World} {k : Tr} {N : Nat} {ts : List PT} {u : TM} {uv : Value} {D V lo S : Nat} {pre post : List Value} {fs : List FV}

end

end Go.Kf

namespace Go.Kf

open Go

theorem TreesAt.append {w : World} {A : Nat → Prop} : ∀ {xs ys : List PT} {a b : List Value}, TreesAt w A xs a → TreesAt w A ys b → TreesAt w A (xs ++ ys) (a ++ b)
  | [], _, _, _, h, h2 => by simp only [TreesAt] at h; subst h; exact h2
  | x :: xs, ys, _, b, ⟨c1, c2, e, h1, h3⟩, h2 => ⟨c1, c2 ++ b, by rw [e]; simp, h1, TreesAt.append h3 h2⟩

section

variable {P : Program} {c : Nums} {R : Value → World → Prop} {Γ : List (List Value → World → Prop)} {n : Nat} {ρ : Nat → Value} {w w0 : World}

end

end Go.Kf

namespace Go.Kf

open Go

section

variable {P : Program} {c : Nums} {R : Value → World → Prop} {w0 : World} {N : Nat} {D V lo S : Nat} {pre post : List Value} {fs : List FV}

structure TellFacts (P : Program) (c : Nums) : Prop where
  plan : buildPlan P c.tTree = some (zeroTree, [(0, 1), (1, 1), (2, 1), (3, 1), (4, 1)])
  zero : zeroTy P c.tTree = some (.agg ⟨zeroTree⟩, 5)
  row : RowFacts P c.tTree 5
  coin : (P.info? c.tBool).map (fun i => (i.zero, i.size)) = some (some (.bool false), 1)

end

end Go.Kf

namespace Go.Kf

open Go

section

variable {P : Program} {c : Nums} {w : World}

theorem v_rem {ρ : Nat → Value} {t u : Nat} {x y : Operand} {a b : Nat} (hx : ev ρ x = .int .i64 a) (hy : ev ρ y = .int .i64 b) (hb : 0 < b) : Val P ρ (.binOp .rem t x y u) (.int .i64 (a % b : Nat)) := fun w => by
  unfold runOp bareOp
  simp only [execOp, hx, hy]
  have hb0 : ¬ b = 0 := by omega
  have h2 : Int.tmod (a : Int) b = ((a % b : Nat) : Int) := rfl
  simp [eqGuard, binOp, Op.intDiv, hb0, h2]

end

end Go.Kf

namespace Go.Kf

open Go

section

variable {P : Program} {c : Nums} {w : World}

structure OctFacts (P : Program) (c : Nums) : Prop where
  info : ∃ inf z, P.info? c.tU8 = some inf ∧ inf.zero = some z ∧ inf.size = 1 ∧ z.cells.size = 1 ∧ inf.bytes ≤ 8

end

end Go.Kf

namespace Go.Kf

open Go

mutual
def Ty.wd : Ty → Nat
  | .uuid => 16
  | .sub ts => tyWds ts
  | _ => 1
def tyWds : List Ty → Nat
  | [] => 0
  | t :: ts => t.wd + tyWds ts
end

theorem okF_num {f : FV} {k : IntKind} (h : okF f (.num k)) : ∃ x, f = .one (.int k x) ∧ k.wrap x = x := by
  cases f with
  | one v => obtain ⟨x, rfl, h⟩ := h; exact ⟨x, rfl, h⟩
  | ptr o => cases o <;> simp [okF] at h
  | _ => simp [okF] at h

theorem okF_bool {f : FV} (h : okF f .bool) : ∃ b, f = .one (.bool b) := by
  cases f with
  | one v => obtain ⟨x, rfl⟩ := h; exact ⟨x, rfl⟩
  | ptr o => cases o <;> simp [okF] at h
  | _ => simp [okF] at h

theorem okF_text {f : FV} (h : okF f .text) : ∃ l, f = .text l ∧ l.length ≤ big := by
  cases f with
  | text l => exact ⟨l, rfl, h.2⟩
  | ptr o => cases o <;> simp [okF] at h
  | _ => simp [okF] at h

theorem okF_ntext {f : FV} (h : okF f .ntext) : ∃ o, f = .ntext o ∧ ∀ l, o = some l → l.length ≤ big := by
  cases f with
  | ntext l => exact ⟨l, rfl, h.2⟩
  | ptr o => cases o <;> simp [okF] at h
  | _ => simp [okF] at h

theorem okF_octs {f : FV} (h : okF f .octs) : ∃ nl l, f = .octs nl l ∧ l.length ≤ big := by
  cases f with
  | octs nl l => exact ⟨nl, l, rfl, h.2⟩
  | ptr o => cases o <;> simp [okF] at h
  | _ => simp [okF] at h

theorem okF_uuid {f : FV} (h : okF f .uuid) : ∃ l, f = .uuid l ∧ l.length = 16 := by
  cases f with
  | uuid l => exact ⟨l, rfl, h.2⟩
  | ptr o => cases o <;> simp [okF] at h
  | _ => simp [okF] at h

theorem okF_tags {f : FV} (h : okF f .tags) : ∃ m, f = .tags m ∧ m.length ≤ big ∧ ∀ p ∈ m, p.2.length ≤ big := by
  cases f with
  | tags m => exact ⟨m, rfl, h.2⟩
  | ptr o => cases o <;> simp [okF] at h
  | _ => simp [okF] at h

theorem okF_list {f : FV} {ts : List Ty} (h : okF f (.list ts)) : ∃ nl rows, f = .list nl rows ∧ rows.length ≤ big ∧ okRows rows ts := by
  cases f with
  | list nl rows => exact ⟨nl, rows, rfl, h.1, h.2⟩
  | ptr o => cases o <;> simp [okF] at h
  | _ => simp [okF] at h

theorem okF_sub {f : FV} {ts : List Ty} (h : okF f (.sub ts)) : ∃ fs, f = .sub fs ∧ okFs fs ts := by
  cases f with
  | sub fs => exact ⟨fs, rfl, h⟩
  | ptr o => cases o <;> simp [okF] at h
  | _ => simp [okF] at h

theorem okF_ptr {f : FV} {ts : List Ty} (h : okF f (.ptr ts)) : ∃ o, f = .ptr o ∧ ∀ fs, o = some fs → okFs fs ts := by
  cases f with
  | ptr o => cases o with
    | none => exact ⟨none, rfl, fun fs h => by cases h⟩
    | some fs => exact ⟨some fs, rfl, fun fs' h' => by cases h'; exact h⟩
  | _ => simp [okF] at h

mutual
theorem okF_wd : ∀ (f : FV) (t : Ty), okF f t → f.wd = t.wd
  | f, .num k, h => by obtain ⟨x, rfl, _⟩ := okF_num h; rfl
  | f, .bool, h => by obtain ⟨x, rfl⟩ := okF_bool h; rfl
  | f, .uuid, h => by obtain ⟨x, rfl, _⟩ := okF_uuid h; rfl
  | f, .text, h => by obtain ⟨x, rfl, _⟩ := okF_text h; rfl
  | f, .ntext, h => by obtain ⟨x, rfl, _⟩ := okF_ntext h; rfl
  | f, .octs, h => by obtain ⟨_, x, rfl, _⟩ := okF_octs h; rfl
  | f, .tags, h => by obtain ⟨x, rfl, _⟩ := okF_tags h; rfl
  | f, .list ts, h => by obtain ⟨_, x, rfl, _⟩ := okF_list h; rfl
  | f, .ptr ts, h => by obtain ⟨x, rfl, _⟩ := okF_ptr h; rfl
  | f, .sub ts, h => by
    obtain ⟨fs, rfl, hf⟩ := okF_sub h
    simp only [FV.wd, Ty.wd]
    exact okFs_wds fs ts hf
theorem okFs_wds : ∀ (fs : List FV) (ts : List Ty), okFs fs ts → wds fs = tyWds ts
  | [], ts, h => by simp only [okFs] at h; subst h; rfl
  | f :: fs, [], h => by simp only [okFs] at h
  | f :: fs, t :: ts, h => by
    simp only [okFs] at h
    simp only [wds, tyWds, okF_wd f t h.1, okFs_wds fs ts h.2]
end

theorem okFs_map : ∀ (fs : List FV) (ts : List Ty), okFs fs ts → fs.map FV.wd = ts.map Ty.wd
  | [], ts, h => by simp only [okFs] at h; subst h; rfl
  | f :: fs, [], h => by simp only [okFs] at h
  | f :: fs, t :: ts, h => by
    simp only [okFs] at h
    simp only [List.map_cons, okF_wd f t h.1, okFs_map fs ts h.2]

theorem okRows_wds {rows : List (List FV)} {ts : List Ty} (h : okRows rows ts) : ∀ r ∈ rows, wds r = tyWds ts := fun r hr => okFs_wds r ts (okRows_mem h r hr)

section

variable {P : Program} {c : Nums}

def FieldTy (P : Program) (S : Nat) (ts : List Ty) (i off : Nat) (t : Ty) : Prop := fieldOff P S i = some off ∧ ((ts.map Ty.wd).take i).sum = off ∧ ts[i]? = some t

theorem FieldTy.ok {S i off : Nat} {ts : List Ty} {t : Ty} (h : FieldTy P S ts i off t) : FieldOk P S (ts.map Ty.wd) i off := ⟨h.1, h.2.1⟩

def fvGet (fs : List FV) (i : Nat) : FV := fs.getD i (.text [])

theorem fvGet_eq {fs : List FV} {i : Nat} {f : FV} (h : fs[i]? = some f) : fvGet fs i = f := by
  unfold fvGet
  rw [List.getD_eq_getElem?_getD, h]; rfl

/-- Kinds that 64 bits hold. -/
def IntKind.fits (k : IntKind) : Prop := ∀ x, k.wrap x = x → IntKind.i64.wrap x = x

end

end Go.Kf




namespace Go.Kf

open Go Go.ChangeShapes Go.WideShapes Go.RowKit

theorem lit_u8 {n : Int} (h : (Lit.int .u8 n).wf = true) : ∃ m : Nat, n = m ∧ m < 256 := by
  simp only [Lit.wf, Bool.and_eq_true, decide_eq_true_eq] at h
  have e1 : IntKind.u8.min = 0 := rfl
  have e2 : IntKind.u8.max = 255 := rfl
  rw [e1, e2] at h
  exact ⟨n.toNat, by omega, by omega⟩

theorem cell_block {w : World} {a : Addr} {v : Value} (h : w.cell? a = some v) : a.block < w.heap.size := by
  unfold World.cell? at h
  cases hb : w.heap[a.block]? with
  | none => rw [hb] at h; cases h
  | some o => exact (Array.getElem?_eq_some_iff.1 hb).1

theorem keptBut_keeps {w w' : World} (hk : Keeps [] w w') (may : MemPlace → Prop) : w.keptBut w' may := by
  refine ⟨hk.os, hk.output, fun i hi => ?_⟩
  rw [hk.block i hi (by simp)]
  split <;> simp_all

end Go.Kf


namespace Go.Kf

open Go

variable {P : Program} {c : Nums}

def chkZero (P : Program) (t s : Nat) : Bool := match zeroTy P t with
  | some (z, s') => Nat.beq s' s && Nat.beq z.cells.size s
  | none => false

theorem zero_of {t s : Nat} (h : chkZero P t s = true) : ∃ z, zeroTy P t = some (z, s) ∧ z.cells.size = s := by
  unfold chkZero at h
  split at h
  · rename_i z s' hz
    simp only [Bool.and_eq_true] at h
    obtain rfl := Nat.eq_of_beq_eq_true h.1
    exact ⟨z, hz, Nat.eq_of_beq_eq_true h.2⟩
  · cases h

def chkInfo (P : Program) (t s m : Nat) : Bool := match P.info? t with
  | some i => match i.zero with
    | some z => Nat.beq i.size s && Nat.beq z.cells.size s && Nat.ble i.bytes m
    | none => false
  | none => false

theorem info_of {t s m : Nat} (h : chkInfo P t s m = true) : ∃ inf z, P.info? t = some inf ∧ inf.zero = some z ∧ inf.size = s ∧ z.cells.size = s ∧ inf.bytes ≤ m := by
  unfold chkInfo at h
  split at h
  · rename_i i hi
    split at h
    · rename_i z hz
      simp only [Bool.and_eq_true] at h
      exact ⟨i, z, hi, hz, Nat.eq_of_beq_eq_true h.1.1, Nat.eq_of_beq_eq_true h.1.2, Nat.le_of_ble_eq_true h.2⟩
    · cases h
  · cases h

theorem StrFacts.of (h : chkZero P c.tStr 1 = true) (h1 : oneTy P c.tStr = true) : StrFacts P c := ⟨zero_of h, h1⟩

theorem RowFacts.of {T sz : Nat} (h : chkInfo P T sz 1024 = true) (ha : aggTy P T = some sz) (hp : 0 < sz ∧ sz ≤ 1024) : RowFacts P T sz := ⟨info_of h, ha, hp⟩

theorem OctFacts.of (h : chkInfo P c.tU8 1 8 = true) : OctFacts P c := ⟨info_of h⟩

def chkPlan (P : Program) (t n : Nat) (fs : List (Nat × Nat)) : Bool := match buildPlan P t with
  | some (z, gs) => Nat.beq z.length n && decide (gs = fs)
  | none => false

theorem plan_of {t n : Nat} {fs : List (Nat × Nat)} (h : chkPlan P t n fs = true) : ∃ z, buildPlan P t = some (z, fs) ∧ z.length = n := by
  unfold chkPlan at h
  split at h
  · rename_i z gs hz
    simp only [Bool.and_eq_true, decide_eq_true_eq] at h
    obtain rfl := h.2
    exact ⟨z, hz, Nat.eq_of_beq_eq_true h.1⟩
  · cases h

theorem GotFacts.of (h1 : buildPlan P c.sTree = some (zeroTree, [(0, 1), (1, 1), (2, 1), (3, 1), (4, 1)])) (h2 : chkPlan P c.sTag 2 [(0, 1), (1, 1)] = true) (h3 : zeroTy P c.sTree = some (.agg ⟨zeroTree⟩, 5)) (h4 : chkZero P c.tTree 5 = true) (h5 : chkZero P c.tTag 2 = true)
    (h6 : RowFacts P c.sTree 5) (h7 : RowFacts P c.sTag 2) : GotFacts P c := ⟨h1, plan_of h2, h3, zero_of h4, zero_of h5, h6, h7⟩

end Go.Kf

namespace Go.Kf

open Go

/-- A field, apart from memory. -/
inductive PF where
  | mk (kind fr to nul tag dflt elem : Int) (sub : List PF)

mutual
def FieldC (w : World) : PF → List Value → Prop
  | .mk k f t n g d e sub, cs => ∃ sv scs, cs = [.int .i64 k, .int .i64 f, .int .i64 t, .int .i64 n, .int .i64 g, .int .i64 d, .int .i64 e, sv] ∧ Ro w sv 8 sub.length scs ∧ FieldsC w sub scs
def FieldsC (w : World) : List PF → List Value → Prop
  | [], cs => cs = []
  | t :: ts, cs => ∃ c1 c2, cs = c1 ++ c2 ∧ FieldC w t c1 ∧ FieldsC w ts c2
end

/-- A list of fields. -/
def FieldsV (w : World) (fs : List PF) (v : Value) : Prop := ∃ cs, Ro w v 8 fs.length cs ∧ FieldsC w fs cs

def TagsC (w : World) : TM → List Value → Prop
  | [], cs => cs = []
  | p :: m, cs => ∃ v r, cs = .int .u32 p.1 :: v :: r ∧ Ro w v 1 p.2.length (bcells p.2) ∧ TagsC w m r

mutual
def TreeC (w : World) : PT → List Value → Prop
  | .mk n s null l u, cs => ∃ sv lv uv lcs ucs, cs = [.int .i64 n, sv, .bool null, lv, uv] ∧ Ro w sv 1 s.length (bcells s) ∧ Ro w lv 5 l.length lcs ∧ TreesC w l lcs ∧ Ro w uv 2 u.length ucs ∧ TagsC w u ucs ∧ (s.length < 4294967296 ∧ l.length < 4294967296 ∧ u.length < 4294967296)
def TreesC (w : World) : List PT → List Value → Prop
  | [], cs => cs = []
  | t :: ts, cs => ∃ c1 c2, cs = c1 ++ c2 ∧ TreeC w t c1 ∧ TreesC w ts c2
end

section

variable {w w' : World}

mutual
theorem FieldC.keep (hk : Keeps [] w w') : ∀ (f : PF) (cs : List Value), FieldC w f cs → FieldC w' f cs
  | .mk _ _ _ _ _ _ _ sub, _, ⟨sv, scs, e, h1, h2⟩ => ⟨sv, scs, e, h1.keep hk, FieldsC.keep hk sub scs h2⟩
theorem FieldsC.keep (hk : Keeps [] w w') : ∀ (fs : List PF) (cs : List Value), FieldsC w fs cs → FieldsC w' fs cs
  | [], _, h => h
  | t :: ts, _, ⟨c1, c2, e, h1, h2⟩ => ⟨c1, c2, e, FieldC.keep hk t c1 h1, FieldsC.keep hk ts c2 h2⟩
end

theorem FieldsV.keep (hk : Keeps [] w w') {fs : List PF} {v : Value} (h : FieldsV w fs v) : FieldsV w' fs v := by
  obtain ⟨cs, h1, h2⟩ := h
  exact ⟨cs, h1.keep hk, FieldsC.keep hk fs cs h2⟩

theorem TagsC.keep (hk : Keeps [] w w') : ∀ (m : TM) (cs : List Value), TagsC w m cs → TagsC w' m cs
  | [], _, h => h
  | _ :: m, _, ⟨v, r, e, h1, h2⟩ => ⟨v, r, e, h1.keep hk, TagsC.keep hk m r h2⟩

mutual
theorem TreeC.keep (hk : Keeps [] w w') : ∀ (t : PT) (cs : List Value), TreeC w t cs → TreeC w' t cs
  | .mk _ _ _ l u, _, ⟨sv, lv, uv, lcs, ucs, e, h1, h2, h3, h4, h5, h6⟩ => ⟨sv, lv, uv, lcs, ucs, e, h1.keep hk, h2.keep hk, TreesC.keep hk l lcs h3, h4.keep hk, TagsC.keep hk u ucs h5, h6⟩
theorem TreesC.keep (hk : Keeps [] w w') : ∀ (ts : List PT) (cs : List Value), TreesC w ts cs → TreesC w' ts cs
  | [], _, h => h
  | t :: ts, _, ⟨c1, c2, e, h1, h2⟩ => ⟨c1, c2, e, TreeC.keep hk t c1 h1, TreesC.keep hk ts c2 h2⟩
end

theorem TagsC.of_rows {A : Nat → Prop} : ∀ {m : TM} {cs : List Value}, TagRows w A m cs → TagsC w m cs
  | [], _, h => h
  | _ :: _, _, ⟨v, r, e, h1, h2⟩ => ⟨v, r, e, h1.1, TagsC.of_rows h2⟩

mutual
theorem TreeC.of_at {A : Nat → Prop} : ∀ {t : PT} {cs : List Value}, TreeAt w A t cs → TreeC w t cs
  | .mk _ _ _ _ _, _, ⟨sv, lv, uv, lcs, e, h1, h2, h3, h4, ucs, h5, h7, h6⟩ => ⟨sv, lv, uv, lcs, ucs, e, h1.1, .of_reads h2, TreesC.of_at h4, .of_reads h5, TagsC.of_rows h6, h1.2.2, h3.2, h7.2⟩
theorem TreesC.of_at {A : Nat → Prop} : ∀ {ts : List PT} {cs : List Value}, TreesAt w A ts cs → TreesC w ts cs
  | [], _, h => h
  | _ :: _, _, ⟨c1, c2, e, h1, h2⟩ => ⟨c1, c2, e, TreeC.of_at h1, TreesC.of_at h2⟩
end

theorem FieldC.len {f : PF} {cs : List Value} (h : FieldC w f cs) : cs.length = 8 := by
  cases f with
  | mk => obtain ⟨sv, scs, e, _⟩ := h; rw [e]; rfl

theorem FieldC.ones {f : PF} {cs : List Value} (h : FieldC w f cs) : ∀ u ∈ cs, u.oneCell' = true := by
  cases f with
  | mk =>
    obtain ⟨sv, scs, e, h1, _⟩ := h
    have := h1.one
    subst e
    intro u hu
    simp only [List.mem_cons, List.not_mem_nil, or_false] at hu
    rcases hu with rfl | rfl | rfl | rfl | rfl | rfl | rfl | rfl <;> first | rfl | assumption

theorem TreeC.len {t : PT} {cs : List Value} (h : TreeC w t cs) : cs.length = 5 := by
  cases t with
  | mk => obtain ⟨sv, lv, uv, lcs, ucs, e, _⟩ := h; rw [e]; rfl

theorem TreeC.ones {t : PT} {cs : List Value} (h : TreeC w t cs) : ∀ u ∈ cs, u.oneCell' = true := by
  cases t with
  | mk =>
    obtain ⟨sv, lv, uv, lcs, ucs, e, h1, h2, _, h3, _⟩ := h
    have := h1.one; have := h2.one; have := h3.one
    subst e
    intro u hu
    simp only [List.mem_cons, List.not_mem_nil, or_false] at hu
    rcases hu with rfl | rfl | rfl | rfl | rfl <;> first | rfl | assumption

theorem FieldsC.get : ∀ {fs : List PF} {cs : List Value} {j : Nat}, FieldsC w fs cs → (hj : j < fs.length) → FieldC w fs[j] ((cs.drop (j * 8)).take 8)
  | t :: ts, _, 0, ⟨c1, c2, e, h1, h2⟩, _ => by
    have := h1.len
    subst e
    simp only [Nat.zero_mul, List.drop_zero, List.getElem_cons_zero]
    rw [List.take_append_of_le_length (by omega), List.take_of_length_le (by omega)]
    exact h1
  | t :: ts, _, j + 1, ⟨c1, c2, e, h1, h2⟩, hj => by
    have := h1.len
    subst e
    have := FieldsC.get h2 (by simpa using hj)
    rw [show (j + 1) * 8 = c1.length + j * 8 by omega, List.drop_append, List.drop_eq_nil_of_le (by omega), List.nil_append, show c1.length + j * 8 - c1.length = j * 8 by omega]
    exact this

theorem TreesC.get : ∀ {ts : List PT} {cs : List Value} {j : Nat}, TreesC w ts cs → (hj : j < ts.length) → TreeC w ts[j] ((cs.drop (j * 5)).take 5)
  | t :: ts, _, 0, ⟨c1, c2, e, h1, h2⟩, _ => by
    have := h1.len
    subst e
    simp only [Nat.zero_mul, List.drop_zero, List.getElem_cons_zero]
    rw [List.take_append_of_le_length (by omega), List.take_of_length_le (by omega)]
    exact h1
  | t :: ts, _, j + 1, ⟨c1, c2, e, h1, h2⟩, hj => by
    have := h1.len
    subst e
    have := TreesC.get h2 (by simpa using hj)
    rw [show (j + 1) * 5 = c1.length + j * 5 by omega, List.drop_append, List.drop_eq_nil_of_le (by omega), List.nil_append, show c1.length + j * 5 - c1.length = j * 5 by omega]
    exact this

theorem TagsC.get : ∀ {m : TM} {cs : List Value} {j : Nat}, TagsC w m cs → (hj : j < m.length) → ∃ v, (cs.drop (j * 2)).take 2 = [.int .u32 m[j].1, v] ∧ Ro w v 1 m[j].2.length (bcells m[j].2)
  | p :: m, _, 0, ⟨v, r, e, h1, h2⟩, _ => ⟨v, by subst e; rfl, h1⟩
  | p :: m, _, j + 1, ⟨v, r, e, h1, h2⟩, hj => by
    obtain ⟨v', h3, h4⟩ := TagsC.get h2 (j := j) (by simpa using hj)
    refine ⟨v', ?_, h4⟩
    subst e
    rw [show (j + 1) * 2 = j * 2 + 1 + 1 by omega]
    simpa using h3

/-- The cells of an element. -/
theorem Ro.elem {v : Value} {sz n j : Nat} {xs : List Value} (h : Ro w v sz n xs) (hj : j < n) (hsz : 0 < sz) :
    ∃ b o cap, v = .slice (some ⟨b, o, none⟩) n cap ∧ b < w.heap.size ∧ ((xs.drop (j * sz)).take sz).length = sz ∧ ∀ i, i < sz → w.cell? ⟨b, o + j * sz + i, none⟩ = ((xs.drop (j * sz)).take sz)[i]? := by
  obtain ⟨b, o, cap, e, hb, hx⟩ := h.at (by omega)
  have h1 : j * sz + sz ≤ n * sz := by rw [← Nat.succ_mul]; exact Nat.mul_le_mul_right _ hj
  refine ⟨b, o, cap, e, hb, by rw [List.length_take, List.length_drop, h.1]; omega, fun i hi => ?_⟩
  rw [Nat.add_assoc, hx _ (by omega), List.getElem?_take, if_pos hi, List.getElem?_drop]

theorem TreeC.zero (w : World) : TreeC w .zero zeroTree := TreeC.of_at (zeroTree_at w fun _ => True)

theorem TreesC.len : ∀ {ts : List PT} {cs : List Value}, TreesC w ts cs → cs.length = ts.length * 5
  | [], _, h => by simp only [TreesC] at h; subst h; rfl
  | t :: ts, _, ⟨c1, c2, e, h1, h2⟩ => by rw [e, List.length_append, h1.len, TreesC.len h2, List.length_cons]; omega

theorem TreesC.take : ∀ {ts : List PT} {cs : List Value} (m : Nat), TreesC w ts cs → TreesC w (ts.take m) (cs.take (m * 5))
  | _, _, 0, _ => by simp [TreesC]
  | [], _, m + 1, h => by simp only [TreesC] at h; subst h; simp [TreesC]
  | t :: ts, _, m + 1, ⟨c1, c2, e, h1, h2⟩ => by
    have := h1.len
    subst e
    refine ⟨c1, c2.take (m * 5), ?_, h1, TreesC.take m h2⟩
    rw [List.take_append, show (m + 1) * 5 - c1.length = m * 5 by omega, List.take_of_length_le (by omega)]

theorem TagsC.len : ∀ {m : TM} {cs : List Value}, TagsC w m cs → cs.length = m.length * 2
  | [], _, h => by simp only [TagsC] at h; subst h; rfl
  | _ :: m, _, ⟨v, r, e, _, h2⟩ => by rw [e, List.length_cons, List.length_cons, TagsC.len h2, List.length_cons]; omega

theorem TagsC.take : ∀ {m : TM} {cs : List Value} (k : Nat), TagsC w m cs → TagsC w (m.take k) (cs.take (k * 2))
  | _, _, 0, _ => by simp [TagsC]
  | [], _, k + 1, h => by simp only [TagsC] at h; subst h; simp [TagsC]
  | p :: m, _, k + 1, ⟨v, r, e, h1, h2⟩ => by
    subst e
    exact ⟨v, r.take (k * 2), by rw [show (k + 1) * 2 = k * 2 + 1 + 1 by omega]; simp, h1, TagsC.take k h2⟩

end

end Go.Kf

namespace Go.Kf

open Go

def PF.kind : PF → Int | .mk k _ _ _ _ _ _ _ => k

def PF.fr : PF → Int | .mk _ f _ _ _ _ _ _ => f

def PF.to : PF → Int | .mk _ _ t _ _ _ _ _ => t

def PF.nul : PF → Int | .mk _ _ _ n _ _ _ _ => n

def PF.tag : PF → Int | .mk _ _ _ _ g _ _ _ => g

def PF.dflt : PF → Int | .mk _ _ _ _ _ d _ _ => d

def PF.elem : PF → Int | .mk _ _ _ _ _ _ e _ => e

def PF.sub : PF → List PF | .mk _ _ _ _ _ _ _ s => s

def PT.n : PT → Int | .mk n _ _ _ _ => n

def PT.s : PT → List UInt8 | .mk _ s _ _ _ => s

def PT.null : PT → Bool | .mk _ _ b _ _ => b

def PT.l : PT → List PT | .mk _ _ _ l _ => l

def PT.u : PT → TM | .mk _ _ _ _ u => u

def pHas (f : PF) (v : Int) : Bool := decide (f.fr ≤ v) && (decide (f.to < 0) || decide (v ≤ f.to))

def pNull (f : PF) (v : Int) (t : PT) : Bool := t.null && decide (0 ≤ f.nul) && decide (f.nul ≤ v)

def pWhole (s : List UInt8) : List UInt8 := s.take 32767

def pThings (l : List PT) : List PT := l.take 32767

def pAt (t : PT) (i : Nat) : PT := t.l.getD i .zero

def pUvN : Nat → Nat → List UInt8
  | 0, n => [UInt8.ofNat n]
  | k + 1, n => if 127 < n then UInt8.ofNat (n % 128 + 128) :: pUvN k (n / 128) else [UInt8.ofNat n]

def pUv (n : Nat) : List UInt8 := pUvN 10 n

/-- The octet i of a number. -/
def octOf (n : Int) (i : Nat) : UInt8 := UInt8.ofNat ((n / 2 ^ (8 * i)) % 256).toNat

def pFixed (n : Int) : Nat → List UInt8
  | 0 => []
  | k + 1 => octOf n k :: pFixed n k

def pWidth (kind : Int) : Nat := if kind = 1 then 1 else if kind = 2 ∨ kind = 5 then 2 else if kind = 3 then 4 else 8

def pCounted (flex null : Bool) (n size : Nat) : List UInt8 :=
  if flex then (if null then [0] else pUv (n + 1)) else if null then pFixed (-1) size else pFixed n size

/-- 16 octets. -/
def pId (s : List UInt8) : List UInt8 := (s ++ List.replicate 16 0).take 16

/-- What is written of a value; pp: of a part. -/
def pValue (pp : PT → List UInt8) (kind : Int) (null flex : Bool) (t : PT) : List UInt8 :=
  if kind = 0 then [UInt8.ofNat (t.n % 2).toNat]
  else if kind = 7 then pId t.s
  else if kind = 8 then (let s := if null then [] else pWhole t.s; pCounted flex null s.length 2 ++ s)
  else if kind = 9 then (let s := if null then [] else pWhole t.s; pCounted flex null s.length 4 ++ s)
  else if kind = 10 then pp t
  else pFixed t.n (pWidth kind)

def pFieldOf (pp : PT → List UInt8) (f : PF) (v : Int) (flex : Bool) (t : PT) : List UInt8 :=
  let null := pNull f v t
  if f.kind = 11 then
    let l := if null then [] else pThings t.l
    pCounted flex null l.length 4 ++ (l.map fun x => pValue pp f.elem false flex x).flatten
  else if f.kind = 10 ∧ 0 ≤ f.nul then (if null then pFixed (-1) 1 else pFixed 1 1 ++ pp t)
  else pValue pp f.kind null flex t

/-- The tag that is one more than all. -/
def pKnown : List PF → Nat → Nat
  | [], n => n
  | f :: r, n => pKnown r (if 0 ≤ f.tag then max n (f.tag.toNat + 1) else n)

/-- A tag, put where it belongs. -/
def pPut (q : Nat × List UInt8) : TM → TM
  | [] => [q]
  | p :: m => if p.1 < q.1 then p :: pPut q m else if p.1 = q.1 then p :: m else q :: p :: m

def pUnknownN (least : Nat) : TM → TM → TM
  | [], out => out
  | q :: m, out => pUnknownN least m (if q.1 < least then out else pPut q out)

def pUnknown (fs : List PF) (u : TM) : TM := pUnknownN (pKnown fs 0) (u.take 32767) []

def pTag1 (k : Nat) (b : List UInt8) : List UInt8 := pUv k ++ pUv b.length ++ b

def pTags (m : TM) : List UInt8 := (m.map fun q => pTag1 q.1 (pWhole q.2)).flatten

/-- Is it as by default? uu: of a part. -/
def pUsualOf (uu : PT → Bool) (f : PF) (t : PT) : Bool :=
  if f.kind = 0 then decide (t.n % 2 = f.dflt)
  else if f.kind = 7 then (t.s.take 16).all (· == 0)
  else if f.kind = 8 ∨ f.kind = 9 then (if 0 ≤ f.nul then t.null else t.s.isEmpty)
  else if f.kind = 11 then t.l.isEmpty
  else if f.kind = 10 then uu t
  else decide (pFixed t.n (pWidth f.kind) = pFixed f.dflt (pWidth f.kind))

mutual
def pUsual : PF → PT → Bool
  | .mk k f t n g d e sub, x => pUsualOf (fun y => pUsuals sub y 0 && (pUnknown sub y.u).isEmpty) (.mk k f t n g d e sub) x
def pUsuals : List PF → PT → Nat → Bool
  | [], _, _ => true
  | f :: r, t, i => pUsual f (pAt t i) && pUsuals r t (i + 1)
end

mutual
def pField : PF → Int → Bool → PT → List UInt8
  | .mk k f t n g d e sub, v, flex, x =>
    pFieldOf (fun y => pPlain sub v flex y 0 ++ pEnd sub (pTagged sub v flex y 0) flex y) (.mk k f t n g d e sub) v flex x
/-- The fields without tags. -/
def pPlain : List PF → Int → Bool → PT → Nat → List UInt8
  | [], _, _, _, _ => []
  | f :: r, v, flex, t, i => (if decide (f.tag < 0) && pHas f v then pField f v flex (pAt t i) else []) ++ pPlain r v flex t (i + 1)
/-- Those with tags that aren't as by default. -/
def pTagged : List PF → Int → Bool → PT → Nat → List (Int × List UInt8)
  | [], _, _, _, _ => []
  | f :: r, v, flex, t, i => (if 0 ≤ f.tag ∧ pUsual f (pAt t i) = false then [(f.tag, pField f v flex (pAt t i))] else []) ++ pTagged r v flex t (i + 1)
/-- What stands behind the fields without tags. -/
def pEnd (fs : List PF) (tg : List (Int × List UInt8)) (flex : Bool) (t : PT) : List UInt8 :=
  if flex then
    let known := (List.range (pKnown fs 0)).flatMap fun (k : Nat) => tg.filter fun p => p.1 == (k : Int)
    pUv (known.length + (pUnknown fs t.u).length) ++ ((known.map fun p => pTag1 p.1.toNat p.2).flatten ++ pTags (pUnknown fs t.u))
  else []
end

def pPart (fs : List PF) (v : Int) (flex : Bool) (t : PT) : List UInt8 := pPlain fs v flex t 0 ++ pEnd fs (pTagged fs v flex t 0) flex t

def pFlex (flex v : Int) : Bool := decide (0 ≤ flex) && decide (flex ≤ v)

def pWrite (fs : List PF) (flex v : Int) (t : PT) : List UInt8 := pPart fs v (pFlex flex v) t

theorem pField_eq (f : PF) (v : Int) (flex : Bool) (t : PT) : pField f v flex t = pFieldOf (fun y => pPart f.sub v flex y) f v flex t := by
  cases f; rw [pField]; rfl

end Go.Kf
