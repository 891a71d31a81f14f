/- The library for this proof, part 1: trees of function bodies, and what the package's functions do. -/
import Derived.OrdersHeld
import Derived.Scope
import Derived.KernelRfl
import Derived.Tactics
import Derived.Laws.Sem
import Derived.RowKit3
import Derived.Deep.AppendSrc
import Derived.Laws.BytesString
import Derived.Lib.ConvBytes
import Derived.Laws.MakeOwn
import Derived.Lib.AppendZeros
import Derived.Below
import Derived.Lib.Endian
import Derived.Laws.BitsLemmas
import Derived.Laws.Tables



namespace Go.Kf

open Go

inductive Tri where
  | nil
  | leaf (k : Nat) (v : Operand)
  | node (l r : Tri)

def Tri.getAt : Nat → Tri → Nat → Nat → Option Operand
  | 0, t, _, key => match t with
    | .leaf k' v => bif Nat.beq k' key then some v else none
    | _ => none
  | f + 1, t, k, key => match t with
    | .node l r => bif Nat.beq (Nat.mod k 2) 0 then getAt f l (Nat.div k 2) key else getAt f r (Nat.div k 2) key
    | _ => none

def Tri.setAt : Nat → Tri → Nat → Nat → Operand → Tri
  | 0, _, _, key, v => .leaf key v
  | f + 1, t, k, key, v => match t with
    | .node l r => bif Nat.beq (Nat.mod k 2) 0 then .node (setAt f l (Nat.div k 2) key v) r else .node l (setAt f r (Nat.div k 2) key v)
    | _ => bif Nat.beq (Nat.mod k 2) 0 then .node (setAt f .nil (Nat.div k 2) key v) .nil else .node .nil (setAt f .nil (Nat.div k 2) key v)

def Tri.get (t : Tri) (k : Nat) : Option Operand := t.getAt 12 k k

def Tri.set (t : Tri) (k : Nat) (v : Operand) : Tri := t.setAt 12 k k v

theorem Tri.getAt_nil : ∀ (f k key : Nat), Tri.getAt f .nil k key = none
  | 0, _, _ => rfl
  | _ + 1, _, _ => rfl

theorem Tri.getAt_setAt : ∀ (f : Nat) (t : Tri) (k key k' key' : Nat) (v x : Operand), Tri.getAt f (Tri.setAt f t k key v) k' key' = some x →
    (key' = key ∧ x = v) ∨ (key' ≠ key ∧ Tri.getAt f t k' key' = some x) ∨ (key' = key ∧ k' ≠ k ∧ Tri.getAt f t k' key' = some x)
  | 0, t, k, key, k', key', v, x, h => by
    simp only [setAt, getAt] at h
    cases hb : Nat.beq key key' with
    | false => rw [hb] at h; cases h
    | true =>
      rw [hb] at h
      injection h with h
      exact .inl ⟨(Nat.eq_of_beq_eq_true hb).symm, h.symm⟩
  | f + 1, t, k, key, k', key', v, x, h => by
    have hmod : ∀ a b : Nat, Nat.beq (Nat.mod a 2) 0 ≠ Nat.beq (Nat.mod b 2) 0 → a ≠ b := fun a b h e => h (by rw [e])
    have hdiv : ∀ a b : Nat, Nat.div a 2 ≠ Nat.div b 2 → a ≠ b := fun a b h e => h (by rw [e])
    have fin : ∀ (t' : Tri), Tri.getAt f (Tri.setAt f t' (Nat.div k 2) key v) (Nat.div k' 2) key' = some x →
        (∀ y, Tri.getAt f t' (Nat.div k' 2) key' = some y → Tri.getAt (f + 1) t k' key' = some y) →
        (key' = key ∧ x = v) ∨ (key' ≠ key ∧ Tri.getAt (f + 1) t k' key' = some x) ∨ (key' = key ∧ k' ≠ k ∧ Tri.getAt (f + 1) t k' key' = some x) := by
      intro t' h1 h2
      rcases getAt_setAt f t' _ key _ key' v x h1 with h | ⟨h, h3⟩ | ⟨h, h4, h3⟩
      · exact .inl h
      · exact .inr (.inl ⟨h, h2 _ h3⟩)
      · exact .inr (.inr ⟨h, hdiv _ _ h4, h2 _ h3⟩)
    have oth : Nat.beq (Nat.mod k' 2) 0 ≠ Nat.beq (Nat.mod k 2) 0 → Tri.getAt (f + 1) t k' key' = some x →
        (key' = key ∧ x = v) ∨ (key' ≠ key ∧ Tri.getAt (f + 1) t k' key' = some x) ∨ (key' = key ∧ k' ≠ k ∧ Tri.getAt (f + 1) t k' key' = some x) := by
      intro h1 h2
      by_cases hk : key' = key
      · exact .inr (.inr ⟨hk, hmod _ _ h1, h2⟩)
      · exact .inr (.inl ⟨hk, h2⟩)
    cases t with
    | node l r =>
      cases hk : Nat.beq (Nat.mod k 2) 0 <;> cases hk' : Nat.beq (Nat.mod k' 2) 0 <;> simp only [setAt, hk, hk', getAt, cond] at h
      · exact fin r h (fun y hy => by simp only [getAt, hk', cond]; exact hy)
      · exact oth (by rw [hk, hk']; simp) (by simp only [getAt, hk', cond]; exact h)
      · exact oth (by rw [hk, hk']; simp) (by simp only [getAt, hk', cond]; exact h)
      · exact fin l h (fun y hy => by simp only [getAt, hk', cond]; exact hy)
    | nil =>
      cases hk : Nat.beq (Nat.mod k 2) 0 <;> cases hk' : Nat.beq (Nat.mod k' 2) 0 <;> simp only [setAt, hk, hk', getAt, cond] at h
      · exact fin .nil h (fun y hy => by rw [getAt_nil] at hy; cases hy)
      · rw [getAt_nil] at h; cases h
      · rw [getAt_nil] at h; cases h
      · exact fin .nil h (fun y hy => by rw [getAt_nil] at hy; cases hy)
    | leaf k0 v0 =>
      cases hk : Nat.beq (Nat.mod k 2) 0 <;> cases hk' : Nat.beq (Nat.mod k' 2) 0 <;> simp only [setAt, hk, hk', getAt, cond] at h
      · exact fin .nil h (fun y hy => by rw [getAt_nil] at hy; cases hy)
      · rw [getAt_nil] at h; cases h
      · rw [getAt_nil] at h; cases h
      · exact fin .nil h (fun y hy => by rw [getAt_nil] at hy; cases hy)

theorem Tri.get_set {t : Tri} {k k' : Nat} {v x : Operand} (h : (t.set k v).get k' = some x) : (k' = k ∧ x = v) ∨ (k' ≠ k ∧ t.get k' = some x) := by
  rcases getAt_setAt 12 t k k k' k' v x h with h | h | ⟨h1, h2, _⟩
  · exact .inl h
  · exact .inr h
  · exact absurd h1 h2

/-- An operand of the text, in terms of what has been named. -/
def look (env : Tri) : Operand → Option Operand
  | .tmp t => env.get t
  | x => some x

def lookAll (env : Tri) : List Operand → Option (List Operand)
  | [] => some []
  | x :: r => match look env x with
    | none => none
    | some y => match lookAll env r with
      | none => none
      | some s => some (y :: s)

def lookParts (env : Tri) : List (Nat × Operand) → Option (List (Nat × Operand))
  | [] => some []
  | x :: r => match look env x.2 with
    | none => none
    | some y => match lookParts env r with
      | none => none
      | some s => some ((x.1, y) :: s)

def lookOpt (env : Tri) : Option Operand → Option (Option Operand)
  | none => some none
  | some x => match look env x with
    | none => none
    | some y => some (some y)

/-- The builtins whose meaning hangs on their operands and operands' types alone. -/
def plainBuiltin : Builtin → Bool
  | .len | .cap | .append | .copy | .min | .max => true
  | _ => false

/-- A bare nil is a bare nil of the text. -/
def keeps (x x' : Operand) : Bool := match x' with
  | .const .nilIface => Region.isConst x
  | _ => true

/-- An operation over what has been named; 'none': not taken. -/
def renOp (env : Tri) : Op → Option Op
  | .pick c a b => match look env c, look env a, look env b with
    | some c, some a, some b => some (.pick c a b)
    | _, _, _ => none
  | .alloc e => some (.alloc e)
  | .box e x => match look env x with
    | some x => some (.box e x)
    | none => none
  | .build t ps => match lookParts env ps.toList with
    | some ps => some (.build t ⟨ps⟩)
    | none => none
  | .buildSlice t n ps => match lookParts env ps.toList with
    | some ps => some (.buildSlice t n ⟨ps⟩)
    | none => none
  | .load t a => match look env a with
    | some a => some (.load t a)
    | none => none
  | .store t a x => match look env a, look env x with
    | some a, some x => some (.store t a x)
    | _, _ => none
  | .nilCheck x => match look env x with
    | some x => some (.nilCheck x)
    | none => none
  | .binOp o t x y u => match look env x, look env y with
    | some x', some y' => bif keeps x x' && keeps y y' then some (.binOp o t x' y' u) else none
    | _, _ => none
  | .unOp o t x => match look env x with
    | some x => some (.unOp o t x)
    | none => none
  | .convert s d x => match look env x with
    | some x => some (.convert s d x)
    | none => none
  | .makeInterface t x => match look env x with
    | some x => some (.makeInterface t x)
    | none => none
  | .makeFunc f a b => match lookAll env a.toList, lookAll env b.toList with
    | some a, some b => some (.makeFunc f ⟨a⟩ ⟨b⟩)
    | _, _ => none
  | .makeMap t r => match lookOpt env r with
    | some r => some (.makeMap t r)
    | none => none
  | .makeSlice t l c => match look env l, look env c with
    | some l, some c => some (.makeSlice t l c)
    | _, _ => none
  | .slice t x l h m => match look env x, lookOpt env l, lookOpt env h, lookOpt env m with
    | some x, some l, some h, some m => some (.slice t x l h m)
    | _, _, _, _ => none
  | .fieldAddr t x f => match look env x with
    | some x => some (.fieldAddr t x f)
    | none => none
  | .field t x f => match look env x with
    | some x => some (.field t x f)
    | none => none
  | .indexAddr t x i => match look env x, look env i with
    | some x, some i => some (.indexAddr t x i)
    | _, _ => none
  | .index t x i => match look env x, look env i with
    | some x, some i => some (.index t x i)
    | _, _ => none
  | .lookup t x i ok => match look env x, look env i with
    | some x, some i => some (.lookup t x i ok)
    | _, _ => none
  | .mapUpdate t m k x => match look env m, look env k, look env x with
    | some m, some k, some x => some (.mapUpdate t m k x)
    | _, _, _ => none
  | .range t x => match look env x with
    | some x => some (.range t x)
    | none => none
  | .next x s => match look env x with
    | some x => some (.next x s)
    | none => none
  | .entry x => match look env x with
    | some x => some (.entry x)
    | none => none
  | .extract x i => match look env x with
    | some x => some (.extract x i)
    | none => none
  | .typeAssert x t u ok => match look env x with
    | some x => some (.typeAssert x t u ok)
    | none => none
  | .call c => match c.callee with
    | .value f => match look env f, lookAll env c.args.toList with
      | some f, some xs => some (.call { callee := .value f, args := ⟨xs⟩, argTypes := #[] })
      | _, _ => none
    | .invoke r m => match look env r, lookAll env c.args.toList with
      | some r, some xs => some (.call { callee := .invoke r m, args := ⟨xs⟩, argTypes := #[] })
      | _, _ => none
    | .builtin b => bif plainBuiltin b then match lookAll env c.args.toList with
        | some xs => some (.call { callee := .builtin b, args := ⟨xs⟩, argTypes := c.argTypes })
        | none => none
      else none
  | _ => none

inductive Tr where
  | stuck
  | ret (rs : List (Operand × Option TypeId))
  | op (o : Op) (c : Option Value) (F : List (Op × Nat)) (k : Tr)
  | pur (o : Op) (c : Option Value) (k : Tr)
  | lok (o : Op) (c : Option Value) (k : Tr)
  | draw (k : Tr)
  | coin (ty : TypeId) (t e : Tr)
  | both (t e : Tr)
  | cond (x : Operand) (t e : Tr)
  | join (l : Nat) (t : Tr) (m : Nat) (k : Tr)
  | loop (l : Nat) (inits : List Operand) (body : Tr)
  | to (l : Nat) (xs : List Operand)

/-- What an operand is, under a naming. -/
def ev (ρ : Nat → Value) : Operand → Value
  | .tmp t => ρ t
  | .const v => v
  | .global g => .pointer (some ⟨g, 0, none⟩)
  | .func f => .func (.func f) #[] #[]

def ext (ρ : Nat → Value) (n : Nat) (vs : List Value) : Nat → Value := fun m => if m < n then ρ m else vs.getD (m - n) undef

def bareOp (o : Op) : Oper := { dst := none, op := o, type := 0, pos := "", after := #[], guard := none }

/-- How an operation went. -/
def Went (P : Program) (K : Value → World → Prop) : Result Next → Prop
  | .ok (.value v) w' => K v w'
  | .ok .skip w' => K undef w'
  | .ok (.enter f args) w' => Calls P f args w' fun e w'' => match e with
    | .returned v => K v w''
    | _ => False
  | .ok (.row row args) w' => Rows P row args w' K
  | _ => False

def runOp (P : Program) (ρ : Nat → Value) (o : Op) (w : World) : Result Next := (execOp (ev ρ) (bareOp o)).run P w

def evRet (rs : List (Operand × Option TypeId)) (ρ : Nat → Value) : List (Value × Option TypeId) := rs.map fun x => (ev ρ x.1, x.2)

def retVals : List (Value × Option TypeId) → Sem (List Value)
  | [] => pure []
  | (v, none) :: r => do pure (v :: (← retVals r))
  | (v, some t) :: r => do
    let x ← loadVar t (← asAddr v)
    pure (x :: (← retVals r))

def oneOf (vs : List Value) : Value := match vs with
  | [v] => v
  | vs => .tuple vs.toArray

/-- Behind a choice that Go leaves open. -/
def coinWorld (ty : TypeId) (b : Bool) (w : World) : World := { w with heap := w.heap.push (.cells #[.bool b] ty), drawn := w.drawn + 1 }

/-- What is to be shown for a tree. -/
def Tr.sem (P : Program) (R : Value → World → Prop) : Tr → List (List Value → World → Prop) → Nat → (Nat → Value) → World → Prop
  | .stuck, _, _, _, _ => False
  | .ret rs, _, _, ρ, w => ∃ vs, (retVals (evRet rs ρ)).run P w = .ok vs w ∧ R (oneOf vs) w
  | .op o c F k, Γ, n, ρ, w => Went P (fun v w' => (∀ u, c = some u → v = u) ∧ (∀ p ∈ F, runOp P ρ p.1 w' = .ok (.value (ρ p.2)) w') ∧ k.sem P R Γ (n + 1) (ext ρ n [v]) w') (runOp P ρ o w)
  | .pur o c k, Γ, n, ρ, w => ∃ v, (∀ w, runOp P ρ o w = .ok (.value v) w) ∧ (∀ u, c = some u → v = u) ∧ k.sem P R Γ (n + 1) (ext ρ n [v]) w
  | .lok o c k, Γ, n, ρ, w => ∃ v, runOp P ρ o w = .ok (.value v) w ∧ (∀ u, c = some u → v = u) ∧ k.sem P R Γ (n + 1) (ext ρ n [v]) w
  | .draw k, Γ, n, ρ, w => k.sem P R Γ n ρ { w with drawn := w.drawn + 1 }
  | .both t e, Γ, n, ρ, w => t.sem P R Γ n ρ w ∧ e.sem P R Γ n ρ w
  | .coin ty t e, Γ, n, ρ, w => P.underlying ty = some .bool ∧ (P.info? ty).map (fun i => (i.zero, i.size)) = some (some (.bool false), 1) ∧
      t.sem P R Γ n ρ (coinWorld ty true w) ∧ e.sem P R Γ n ρ (coinWorld ty false w)
  | .cond x t e, Γ, n, ρ, w => ∃ b, ev ρ x = .bool b ∧ (b = true → t.sem P R Γ n ρ w) ∧ (b = false → e.sem P R Γ n ρ w)
  | .join l t m k, Γ, n, ρ, w => l = Γ.length ∧ ∃ J : List Value → World → Prop, t.sem P R (Γ ++ [J]) n ρ w ∧ ∀ vs w', vs.length = m → J vs w' → k.sem P R Γ (n + m) (ext ρ n vs) w'
  | .loop l inits body, Γ, n, ρ, w => l = Γ.length ∧ ∃ (I : List Value → World → Prop) (μ : List Value → World → Nat), I (inits.map (ev ρ)) w ∧
      ∀ vs w', vs.length = inits.length → I vs w' → body.sem P R (Γ ++ [fun vs' w'' => I vs' w'' ∧ μ vs' w'' < μ vs w']) (n + inits.length) (ext ρ n vs) w'
  | .to l xs, Γ, _, ρ, w => ∃ p, Γ[l]? = some p ∧ p (xs.map (ev ρ)) w

end Go.Kf

namespace Go.Kf

open Go

structure Cfg where
  N : Nat
  results : List ResultVar
  orc : Nat → Option Value

def setDst (C : Cfg) (env : Tri) (dst : Option Tmp) (x : Operand) : Option Tri :=
  match dst with
  | none => some env
  | some d => bif Nat.blt d C.N then some (env.set d x) else none

def foldBin (op : BinOp) (k : IntKind) (a : Int) (k' : IntKind) (b : Int) : Option Operand :=
  bif decide (k = k') then
    match op with
    | .eql => some (.const (.bool (a == b)))
    | .neq => some (.const (.bool (a != b)))
    | .lss => some (.const (.bool (decide (a < b))))
    | .leq => some (.const (.bool (decide (a ≤ b))))
    | .gtr => some (.const (.bool (decide (a > b))))
    | .geq => some (.const (.bool (decide (a ≥ b))))
    | _ => none
  else none

/-- What wants no operation at all. -/
def simple (env : Tri) : Op → Option Operand
  | .move x => look env x
  | .assign x => look env x
  | .pick c a b => match look env c with
    | some (.const (.bool t)) => look env (bif t then a else b)
    | _ => none
  | .binOp op _ x y _ => match look env x, look env y with
    | some (.const (.int k a)), some (.const (.int k' b)) => foldBin op k a k' b
    | _, _ => none
  | .unOp .not _ x => match look env x with
    | some (.const (.bool b)) => some (.const (.bool (!b)))
    | _ => none
  | _ => none

inductive Grd where
  | run
  | skip
  | data (y : Nat) (t : Tmp)
  | bad

def slotOf (ops : Array Oper) (j : Nat) : Option Tmp := match ops[j]? with
  | some o => o.dst
  | none => none

def grd (env : Tri) (ops : Array Oper) (o : Oper) : Grd :=
  match o.guard with
  | none => .run
  | some (j, want) => match slotOf ops j with
    | none => .bad
    | some t => match env.get t with
      | some (.const (.bool b)) => bif b == want then .run else .skip
      | some (.const _) => .skip
      | some (.tmp y) => .data y t
      | _ => .bad

/-- What a fresh name stands for: itself, or what is known of it. -/
def named (n : Nat) : Option Value → Operand
  | some u => .const u
  | none => .tmp n

inductive Stepo where
  | bad
  | silent (env : Tri)
  | event (op : Op) (env : Tri)
  | split (y : Nat) (t : Tmp)

def silently : Option Tri → Stepo
  | some e => .silent e
  | none => .bad

def oneStep (C : Cfg) (ops : Array Oper) (env : Tri) (n : Nat) (o : Oper) : Stepo :=
  match grd env ops o with
  | .bad => .bad
  | .skip => silently (setDst C env o.dst (.const undef))
  | .data y t => .split y t
  | .run => match simple env o.op with
    | some x => silently (setDst C env o.dst x)
    | none => match renOp env o.op with
      | none => .bad
      | some op => match setDst C env o.dst (named n (C.orc n)) with
        | none => .bad
        | some env' => .event op env'

/-- Behind a guard's value that has been asked for: once more. -/
def splitting (s : Tri → Tr) (env : Tri) (y : Nat) (t : Tmp) : Tr :=
  .cond (.tmp y) (s (env.set t (.const (.bool true)))) (s (env.set t (.const (.bool false))))

def execSeq (C : Cfg) (ops : Array Oper) : List Oper → Tri → Nat → (Tri → Nat → Tr) → Tr
  | [], env, n, K => K env n
  | o :: r, env, n, K =>
    match oneStep C ops env n o with
    | .bad => .stuck
    | .silent env' => execSeq C ops r env' n K
    | .event op env' => .op op (C.orc n) [] (execSeq C ops r env' (n + 1) K)
    | .split y t => splitting (fun env1 => match oneStep C ops env1 n o with
      | .silent env' => execSeq C ops r env' n K
      | .event op env' => .op op (C.orc n) [] (execSeq C ops r env' (n + 1) K)
      | _ => .stuck) env y t

/-- An operation that changes nothing: 'some true': its value hangs on its operands alone; 'some false': on memory, too. -/
def quiet : Op → Option Bool
  | .move _ | .assign _ | .pick .. | .build .. | .nilCheck _ | .binOp .. | .unOp .. | .slice .. | .fieldAddr .. | .field .. | .indexAddr .. | .index .. | .extract .. | .makeFunc .. => some true
  | .call { callee := .builtin .len, .. } => some true
  | .load .. => some false
  | _ => none

/-- It is quiet, or it is not carried out. -/
def quietAt (env : Tri) (ops : Array Oper) (i : Nat) : Bool := match ops[i]? with
  | some o => (quiet o.op).isSome || (match grd env ops o with
    | .skip => true
    | _ => false)
  | none => false

def pickQuiet (env : Tri) (ops : Array Oper) (listed : Array Bool) : List Nat → Option Nat
  | [] => none
  | i :: r => bif quietAt env ops i && Region.free .any ops listed i then some i else pickQuiet env ops listed r

def waits (ops : Array Oper) (j i : Nat) : Bool := match ops[j]? with
  | some o => o.after.toList.any fun e => Region.binds .any e && Nat.beq e.on i
  | none => false

/-- Of what was read first: what operation number j does not wait for. -/
def shrink {α : Type} (ops : Array Oper) (j : Nat) (ix : α → Nat) (F : List α) : List α := F.filter fun x => !waits ops j (ix x)

abbrev Read := Op × Nat × Nat

def owed (F : List Read) : List (Op × Nat) := F.map fun x => (x.1, x.2.1)

def Read.ix (x : Read) : Nat := x.2.2

def drawQuiet (C : Cfg) (o : Oper) (n i : Nat) (F : List Read) (rest : Tri → Nat → List Read → Tr) : Stepo → Tr
  | .silent env' => rest env' n F
  | .event op env' => match quiet o.op with
    | some true => .pur op (C.orc n) (rest env' (n + 1) F)
    | some false => .lok op (C.orc n) (rest env' (n + 1) ((op, n, i) :: F))
    | none => .stuck
  | _ => .stuck

/-- F: what is owed behind it. -/
def drawActs (C : Cfg) (n : Nat) (F : List Read) (rest : Tri → Nat → List Read → Tr) : Stepo → Tr
  | .silent env' => rest env' n F
  | .event op env' => .op op (C.orc n) (owed F) (rest env' (n + 1) F)
  | _ => .stuck

def withSplit (env : Tri) (s : Tri → Stepo) (go : Stepo → Tr) : Tr :=
  match s env with
  | .split y t => splitting (fun env1 => go (s env1)) env y t
  | x => go x

/-- Whichever comes next. -/
def alts (g : Nat → Tr) : Nat → List Nat → Tr
  | i, [] => g i
  | i, j :: r => .both (g i) (alts g j r)

def execDraw (C : Cfg) (ops : Array Oper) : Nat → Array Bool → Tri → Nat → List Read → (Tri → Nat → Tr) → Tr
  | 0, listed, env, n, _, K => match Region.ready .any ops listed with
    | [] => K env n
    | _ :: _ => .stuck
  | f + 1, listed, env, n, F, K => match Region.ready .any ops listed with
    | [] => K env n
    | i0 :: rs => match pickQuiet env ops listed (i0 :: rs) with
      | some i => match ops[i]? with
        | none => .stuck
        | some o => withSplit env (fun env1 => oneStep C ops env1 n o) (drawQuiet C o n i F fun env' n' F' => execDraw C ops f (listed.setIfInBounds i true) env' n' F' K)
      | none => alts (fun i => match ops[i]? with
          | none => .stuck
          | some o => withSplit env (fun env1 => oneStep C ops env1 n o) (drawActs C n (shrink ops i Read.ix F) fun env' n' F' => execDraw C ops f (listed.setIfInBounds i true) env' n' F' K)) i0 rs

/-- A choice that Go leaves open (which of two stores into a new variable comes last): the variable's type, the slot of the answer. -/
def coin (ops : Array Oper) : Option (TypeId × Tmp × Tmp) :=
  match ops.toList with
  | [⟨some d, .alloc t, _, _, _, none⟩, ⟨none, .store t1 (.tmp d1) (.const (.bool true)), _, _, _, none⟩, ⟨none, .store t2 (.tmp d2) (.const (.bool false)), _, _, _, none⟩, ⟨some e, .load t3 (.tmp d3), _, _, _, none⟩] =>
    bif Nat.beq t t1 && Nat.beq t t2 && Nat.beq t t3 && Nat.beq d d1 && Nat.beq d d2 && Nat.beq d d3 &&
        (Region.ready .any ops #[false, false, false, false] == [0]) && (Region.ready .any ops #[true, false, false, false] == [1, 2]) && (Region.ready .any ops #[true, true, false, false] == [2]) &&
        (Region.ready .any ops #[true, false, true, false] == [1]) && (Region.ready .any ops #[true, true, true, false] == [3]) && (Region.ready .any ops #[true, true, true, true] == [])
    then some (t, d, e) else none
  | _ => none

def writes : Code → List Tmp
  | .region _ ops _ => ops.toList.filterMap (·.dst)
  | .seq a b => writes a ++ writes b
  | .cond _ a b => writes a ++ writes b
  | .block _ c => writes c
  | .loop c => writes c
  | .scope c => writes c
  | _ => []

/-- The run never comes behind it. -/
def ends : Code → Bool
  | .ret => true
  | .exit _ => true
  | .goto _ => true
  | .seq a b => ends a || ends b
  | .cond _ a b => ends a && ends b
  | _ => false

inductive KI where
  | code (c : Code)
  | blk (id : Nat)
  | scp (body : Code)
  | lp (body : Code) (l : Nat) (slots : List Tmp) (n : Nat) (env : Tri)
  | jn (l : Nat) (slots : List Tmp) (n : Nat) (env : Tri)

def strip : List KI → List Item
  | [] => []
  | .code c :: K => .code c :: strip K
  | .blk id :: K => .inBlock id :: strip K
  | .scp b :: K => .inScope b :: strip K
  | .lp b _ _ _ _ :: K => .inLoop b :: strip K
  | .jn _ _ _ _ :: K => strip K

def exitK (id : Nat) : List KI → Option (List KI)
  | .blk id' :: K => if id' == id then some K else exitK id K
  | _ :: K => exitK id K
  | [] => none

def gotoK (l : Nat) : List KI → Option (List KI)
  | .scp body :: K => match findLabel body l with
    | some rest => some (.code rest :: .scp body :: K)
    | none => gotoK l K
  | _ :: K => gotoK l K
  | [] => none

def addNew (t : Tmp) : List Tmp → List Tmp
  | [] => [t]
  | x :: r => bif Nat.beq x t then x :: r else x :: addNew t r

/-- Of the slots that are written those that hold something already, each once. -/
def carried (env : Tri) : List Tmp → List Tmp → List Tmp
  | [], acc => acc
  | t :: r, acc => match env.get t with
    | some _ => carried env r (addNew t acc)
    | none => carried env r acc

def setMany (env : Tri) : List Tmp → Nat → Tri
  | [], _ => env
  | t :: r, n => setMany (env.set t (.tmp n)) r (n + 1)

def allBelow (N : Nat) : List Tmp → Bool
  | [] => true
  | t :: r => Nat.blt t N && allBelow N r

def retOf (env : Tri) : List ResultVar → Option (List (Operand × Option TypeId))
  | [] => some []
  | .tmp t :: r => match env.get t, retOf env r with
    | some x, some s => some ((x, none) :: s)
    | _, _ => none
  | .cell t ty :: r => match env.get t, retOf env r with
    | some x, some s => some ((x, some ty) :: s)
    | _, _ => none

def mkRet (C : Cfg) (env : Tri) : Tr := match retOf env C.results with
  | some rs => .ret rs
  | none => .stuck

def mkTo (env : Tri) (l : Nat) (slots : List Tmp) : Tr := match lookAll env (slots.map Operand.tmp) with
  | some xs => .to l xs
  | none => .stuck

def exec (C : Cfg) : Nat → List KI → Tri → Nat → Nat → Tr
  | 0, _, _, _, _ => .stuck
  | _ + 1, [], env, _, _ => mkRet C env
  | f + 1, .blk _ :: K, env, d, n => exec C f K env d n
  | f + 1, .scp _ :: K, env, d, n => exec C f K env d n
  | _ + 1, .jn l slots _ _ :: _, env, _, _ => mkTo env l slots
  | _ + 1, .lp _ l slots _ _ :: _, env, _, _ => mkTo env l slots
  | f + 1, .code c :: K, env, d, n => match c with
    | .skip => exec C f K env d n
    | .label _ => exec C f K env d n
    | .ret => mkRet C env
    | .seq a b => exec C f (.code a :: .code b :: K) env d n
    | .block id b => exec C f (.code b :: .blk id :: K) env d n
    | .scope b => exec C f (.code b :: .scp b :: K) env d n
    | .exit id => match exitK id K with
      | some K' => exec C f K' env d n
      | none => .stuck
    | .goto l => match gotoK l K with
      | some K' => exec C f K' env d n
      | none => .stuck
    | .region _ ops draw => match draw with
      | false => execSeq C ops ops.toList env n fun env' n' => exec C f K env' d n'
      | true => match Region.noSelect ops with
        | false => .stuck
        | true => match coin ops with
          | some (t, s, e) => match Nat.blt s C.N && (env.get s).isNone, setDst C env (some e) (.const (.bool true)), setDst C env (some e) (.const (.bool false)) with
            | true, some e1, some e2 => .coin t (exec C f K e1 d n) (exec C f K e2 d n)
            | _, _, _ => .stuck
          | none => .draw (execDraw C ops ops.size (Array.replicate ops.size false) env n [] fun env' n' => exec C f K env' d n')
    | .cond x t e => match look env x with
      | some (.const (.bool b)) => exec C f (.code (bif b then t else e) :: K) env d n
      | some (.tmp y) => match ends t || ends e with
        | true => .cond (.tmp y) (exec C f (.code t :: K) env d n) (exec C f (.code e :: K) env d n)
        | false =>
          match carried env (writes t ++ writes e) [] with
          | sl => match allBelow C.N sl with
            | false => .stuck
            | true => .join d (.cond (.tmp y) (exec C f (.code t :: .jn d sl n env :: K) env (d + 1) n) (exec C f (.code e :: .jn d sl n env :: K) env (d + 1) n)) sl.length
                (exec C f K (setMany env sl n) d (n + sl.length))
      | _ => .stuck
    | .loop b => match carried env (writes b) [] with
      | sl => match allBelow C.N sl with
        | false => .stuck
        | true => match lookAll env (sl.map Operand.tmp) with
          | none => .stuck
          | some xs => .loop d xs (exec C f (.code b :: .lp b d sl n env :: K) (setMany env sl n) (d + 1) (n + sl.length))
    | _ => .stuck

end Go.Kf


namespace Go.Kf

open Go

def opBelow (n : Nat) : Operand → Prop
  | .tmp m => m < n
  | _ => True

theorem opBelow.mono {n n' : Nat} {x : Operand} (h : opBelow n x) (hn : n ≤ n') : opBelow n' x := by
  cases x with
  | tmp m => exact Nat.lt_of_lt_of_le h hn
  | _ => trivial

theorem ev_congr {ρ ρ' : Nat → Value} {n : Nat} {x : Operand} (h : opBelow n x) (he : ∀ m, m < n → ρ' m = ρ m) : ev ρ' x = ev ρ x := by
  cases x <;> simp only [ev]
  exact he _ h

theorem ext_lt {ρ : Nat → Value} {n m : Nat} {vs : List Value} (h : m < n) : ext ρ n vs m = ρ m := by simp [ext, h]

theorem ext_ge {ρ : Nat → Value} {n i : Nat} {vs : List Value} : ext ρ n vs (n + i) = vs.getD i undef := by simp only [ext]; rw [if_neg (by omega)]; congr 1; omega

theorem ext_at {ρ : Nat → Value} {n : Nat} {v : Value} {vs : List Value} : ext ρ n (v :: vs) n = v := by simp [ext]

structure Match (N : Nat) (env : Tri) (ρ : Nat → Value) (n : Nat) (a : Act) : Prop where
  size : a.tmps.size = N
  defs : a.defers = []
  val : ∀ t x, env.get t = some x → a.tmps.getD t undef = ev ρ x
  below : ∀ t x, env.get t = some x → opBelow n x

section

variable {N n n' : Nat} {env env' : Tri} {ρ ρ' : Nat → Value} {a : Act} {C : Cfg}

theorem Match.look (h : Match N env ρ n a) {x y : Operand} (hl : look env x = some y) : a.eval x = ev ρ y := by
  cases x with
  | tmp t => exact h.val t y hl
  | const v => simp only [Kf.look, Option.some.injEq] at hl; subst hl; rfl
  | global g => simp only [Kf.look, Option.some.injEq] at hl; subst hl; rfl
  | func f => simp only [Kf.look, Option.some.injEq] at hl; subst hl; rfl

theorem Match.look_below (h : Match N env ρ n a) {x y : Operand} (hl : Kf.look env x = some y) : opBelow n y := by
  cases x with
  | tmp t => exact h.below t y hl
  | const v => simp only [Kf.look, Option.some.injEq] at hl; subst hl; trivial
  | global g => simp only [Kf.look, Option.some.injEq] at hl; subst hl; trivial
  | func f => simp only [Kf.look, Option.some.injEq] at hl; subst hl; trivial

theorem Match.later (h : Match N env ρ n a) (hn : n ≤ n') (he : ∀ m, m < n → ρ' m = ρ m) : Match N env ρ' n' a :=
  ⟨h.size, h.defs, fun t x hx => by rw [h.val t x hx, ev_congr (h.below t x hx) he], fun t x hx => (h.below t x hx).mono hn⟩

theorem getD_set {tmps : Array Value} {d t : Nat} {v : Value} (hd : d < tmps.size) :
    (tmps.setIfInBounds d v).getD t undef = if t = d then v else tmps.getD t undef := by
  by_cases h : t = d
  · subst h; simp [hd]
  · simp [h, Array.getElem?_setIfInBounds_ne (Ne.symm h)]

theorem Match.set (h : Match N env ρ n a) {dst : Option Tmp} {x : Operand} (hs : setDst C env dst x = some env') (hN : C.N = N) (hn : n ≤ n')
    (he : ∀ m, m < n → ρ' m = ρ m) (hx : opBelow n' x) {v : Value} (hv : ev ρ' x = v) : Match N env' ρ' n' (a.put dst v) := by
  cases dst with
  | none =>
    simp only [setDst, Option.some.injEq] at hs
    subst hs
    exact h.later hn he
  | some d =>
    simp only [setDst] at hs
    cases hb : Nat.blt d C.N with
    | false => rw [hb] at hs; cases hs
    | true =>
      rw [hb] at hs
      simp only [cond, Option.some.injEq] at hs
      subst hs
      have hd : d < a.tmps.size := by
        rw [h.size, ← hN]; exact (Nat.blt_eq ▸ hb : d < C.N)
      refine ⟨by simp [Act.put, h.size], h.defs, fun t y hy => ?_, fun t y hy => ?_⟩
      · simp only [Act.put]
        rw [getD_set hd]
        rcases Tri.get_set hy with ⟨rfl, rfl⟩ | ⟨hne, hy'⟩
        · simp [hv]
        · rw [if_neg hne, h.val t y hy', ev_congr (h.below t y hy') he]
      · rcases Tri.get_set hy with ⟨rfl, rfl⟩ | ⟨hne, hy'⟩
        · exact hx
        · exact (h.below t y hy').mono hn

theorem Match.known (h : Match N env ρ n a) {t : Tmp} {y : Nat} {b : Bool} (ht : env.get t = some (.tmp y)) (hy : ρ y = .bool b) :
    Match N (env.set t (.const (.bool b))) ρ n a := by
  refine ⟨h.size, h.defs, fun s x hx => ?_, fun s x hx => ?_⟩
  · rcases Tri.get_set hx with ⟨rfl, rfl⟩ | ⟨_, hx'⟩
    · rw [h.val s _ ht]; exact hy
    · exact h.val s x hx'
  · rcases Tri.get_set hx with ⟨rfl, rfl⟩ | ⟨_, hx'⟩
    · trivial
    · exact h.below s x hx'

end

theorem lookAll_map {env : Tri} {e1 e2 : Operand → Value} (he : ∀ x y, look env x = some y → e1 x = e2 y) :
    ∀ (xs ys : List Operand), lookAll env xs = some ys → xs.map e1 = ys.map e2
  | [], ys, h => by simp only [lookAll, Option.some.injEq] at h; subst h; rfl
  | x :: r, ys, h => by
    simp only [lookAll] at h
    cases hx : look env x with
    | none => rw [hx] at h; cases h
    | some y =>
      rw [hx] at h
      cases hr : lookAll env r with
      | none => rw [hr] at h; cases h
      | some s =>
        rw [hr] at h
        simp only [Option.some.injEq] at h
        subst h
        simp only [List.map_cons, he x y hx, lookAll_map he r s hr]

theorem lookParts_map {env : Tri} {e1 e2 : Operand → Value} (he : ∀ x y, look env x = some y → e1 x = e2 y) :
    ∀ (xs ys : List (Nat × Operand)), lookParts env xs = some ys → xs.map (fun (i, x) => (i, e1 x)) = ys.map (fun (i, x) => (i, e2 x))
  | [], ys, h => by simp only [lookParts, Option.some.injEq] at h; subst h; rfl
  | x :: r, ys, h => by
    simp only [lookParts] at h
    cases hx : look env x.2 with
    | none => rw [hx] at h; cases h
    | some y =>
      rw [hx] at h
      cases hr : lookParts env r with
      | none => rw [hr] at h; cases h
      | some s =>
        rw [hr] at h
        simp only [Option.some.injEq] at h
        subst h
        simp only [List.map_cons, he x.2 y hx, lookParts_map he r s hr]

theorem lookOpt_map {env : Tri} {e1 e2 : Operand → Value} (he : ∀ x y, look env x = some y → e1 x = e2 y) {x y : Option Operand}
    (h : lookOpt env x = some y) : x.map e1 = y.map e2 := by
  cases x with
  | none => simp only [lookOpt, Option.some.injEq] at h; subst h; rfl
  | some x =>
    simp only [lookOpt] at h
    cases hx : look env x with
    | none => rw [hx] at h; cases h
    | some z =>
      rw [hx] at h
      simp only [Option.some.injEq] at h
      subst h
      simp [he x z hx]

theorem arr_map {α β : Type} {f : α → β} {g : α → β} {xs : Array α} {ys : List α} (h : xs.toList.map f = ys.map g) : xs.map f = (⟨ys⟩ : Array α).map g := by
  apply Array.ext'
  simpa using h

theorem builtin_plain {b : Builtin} (h : plainBuiltin b = true) (at_ : Array TypeId) (t t' : TypeId) (cs cs' : Array Bool) (args : Array Value) :
    builtin b at_ t cs args = builtin b at_ t' cs' args := by
  cases b <;> first | rfl | (simp [plainBuiltin] at h; done)

theorem isConst_keeps {env : Tri} {x x' : Operand} {e2 : Operand → Value} (hl : look env x = some x') (hx : keeps x x' = true) (hc : ∀ v, e2 (.const v) = v)
    (hn : e2 x' = .nilIface) : Region.isConst x = Region.isConst x' := by
  cases x with
  | tmp t =>
    cases x' with
    | const v =>
      rw [hc] at hn
      subst hn
      simp [keeps, Region.isConst] at hx
    | _ => rfl
  | const v => simp only [look, Option.some.injEq] at hl; subst hl; rfl
  | global g => simp only [look, Option.some.injEq] at hl; subst hl; rfl
  | func f => simp only [look, Option.some.injEq] at hl; subst hl; rfl

theorem eqGuard_left {o : BinOp} {t : TypeId} {x y x' : Operand} (h : Region.isConst x = Region.isConst x') :
    eqGuard o t x y .nilIface .nilIface = eqGuard o t x' y .nilIface .nilIface := by
  cases x <;> cases x' <;> first | rfl | (cases h; done)

theorem eqGuard_right {o : BinOp} {t : TypeId} {x y y' : Operand} (h : Region.isConst y = Region.isConst y') :
    eqGuard o t x y .nilIface .nilIface = eqGuard o t x y' .nilIface .nilIface := by
  cases y <;> cases y' <;> first | rfl | (cases h; done)

theorem eqGuard_consts {o : BinOp} {t : TypeId} {x y x' y' : Operand} {a b : Value} (h : a = .nilIface → b = .nilIface → Region.isConst x = Region.isConst x' ∧ Region.isConst y = Region.isConst y') :
    eqGuard o t x y a b = eqGuard o t x' y' a b := by
  by_cases ha : a = .nilIface
  · by_cases hb : b = .nilIface
    · subst ha; subst hb
      obtain ⟨h1, h2⟩ := h rfl rfl
      rw [eqGuard_left h1, eqGuard_right h2]
    · cases b <;> first | (exact absurd rfl hb) | (subst ha; rfl)
  · cases a <;> first | (exact absurd rfl ha) | rfl | (cases b <;> rfl)

theorem renOp_exec {env : Tri} {o : Oper} {op : Op} {e1 e2 : Operand → Value} (h : renOp env o.op = some op)
    (he : ∀ x y, look env x = some y → e1 x = e2 y) (hc : ∀ v, e2 (.const v) = v) : execOp e1 o = execOp e2 (bareOp op) := by
  obtain ⟨dst, oo, ty, pos, after, guard⟩ := o
  cases oo <;> simp only [renOp] at h
  case call c =>
    obtain ⟨callee, args, argTypes⟩ := c
    cases callee with
    | value f =>
      simp only at h
      split at h
      · rename_i f' xs hf hxs
        simp only [Option.some.injEq] at h
        subst h
        simp only [execOp, bareOp, resolve, he _ _ hf, arr_map (lookAll_map he _ _ hxs)]
      · cases h
    | invoke r m =>
      simp only at h
      split at h
      · rename_i f' xs hf hxs
        simp only [Option.some.injEq] at h
        subst h
        simp only [execOp, bareOp, resolve, he _ _ hf, arr_map (lookAll_map he _ _ hxs)]
      · cases h
    | builtin b =>
      simp only at h
      cases hb : plainBuiltin b with
      | false => rw [hb] at h; cases h
      | true =>
        rw [hb] at h
        simp only [cond] at h
        split at h
        · rename_i xs hxs
          simp only [Option.some.injEq] at h
          subst h
          simp only [execOp, bareOp, resolve, arr_map (lookAll_map he _ _ hxs), pure_bind, invoke]
          exact builtin_plain hb _ _ _ _ _ _
        · cases h
  case build t ps =>
    split at h
    · rename_i xs hxs
      simp only [Option.some.injEq] at h
      subst h
      simp only [execOp, bareOp]
      rw [arr_map (lookParts_map he _ _ hxs)]
    · cases h
  case buildSlice t n ps =>
    split at h
    · rename_i xs hxs
      simp only [Option.some.injEq] at h
      subst h
      simp only [execOp, bareOp]
      rw [arr_map (lookParts_map he _ _ hxs)]
    · cases h
  case makeFunc f x y =>
    split at h
    · rename_i xs ys hxs hys
      simp only [Option.some.injEq] at h
      subst h
      simp only [execOp, bareOp]
      rw [arr_map (lookAll_map he _ _ hxs), arr_map (lookAll_map he _ _ hys)]
    · cases h
  case binOp o t x y u =>
    split at h
    · rename_i x' y' hx hy
      cases hk : keeps x x' && keeps y y' with
      | false => rw [hk] at h; cases h
      | true =>
        rw [hk] at h
        simp only [cond, Option.some.injEq] at h
        subst h
        rw [Bool.and_eq_true] at hk
        simp only [execOp, bareOp, he _ _ hx, he _ _ hy]
        rw [eqGuard_consts (x := x) (y := y) (x' := x') (y' := y') fun h1 h2 => ⟨isConst_keeps hx hk.1 hc h1, isConst_keeps hy hk.2 hc h2⟩]
    · cases h
  case next x s =>
    split at h
    · rename_i xs hxs
      simp only [Option.some.injEq] at h
      subst h
      simp only [execOp, bareOp, he _ _ hxs]
      rfl
    · cases h
  all_goals first
    | (cases h; done)
    | (simp only [Option.some.injEq] at h; subst h; rfl)
    | (split at h <;> first
        | (cases h; done)
        | (simp only [Option.some.injEq] at h; subst h; simp only [execOp, bareOp, he _ _ (by assumption)]; done)
        | (simp only [Option.some.injEq] at h; subst h; simp_all only [execOp, bareOp]; simp [he _ _ (by assumption), lookOpt_map he (by assumption)]; done)
        | (rename_i h1 h2; simp only [Option.some.injEq] at h; subst h; simp only [execOp, bareOp, he _ _ h1, he _ _ h2]; done)
        | (rename_i h1 h2 h3; simp only [Option.some.injEq] at h; subst h; simp only [execOp, bareOp, he _ _ h1, he _ _ h2, he _ _ h3]; done)
        | (rename_i h1 h2 h3 h4; simp only [Option.some.injEq] at h; subst h; simp only [execOp, bareOp, he _ _ h1, lookOpt_map he h2, lookOpt_map he h3, lookOpt_map he h4]; done)
        | (rename_i h1; simp only [Option.some.injEq] at h; subst h; simp only [execOp, bareOp, lookOpt_map he h1]; done))

end Go.Kf

namespace Go.Kf

open Go

theorem waits_false {ops : Array Oper} {i j : Nat} {o : Oper} (ho : ops[j]? = some o) (h : ∀ e ∈ o.after, Region.binds .any e = true → e.on ≠ i) :
    waits ops j i = false := by
  unfold waits
  rw [ho]
  simp only [List.any_eq_false]
  intro e he hb
  rw [Bool.and_eq_true] at hb
  exact h e (Array.mem_toList_iff.1 he) hb.1 (Nat.eq_of_beq_eq_true hb.2)

section

variable {P : Program} {ops : Array Oper} {Q : Exit → Act → World → Prop}

abbrev Owes := Nat × (World → Prop)

def Owes.ix (p : Owes) : Nat := p.1

/-- Whatever order is picked from here on; behind each operation the conditions of those that it does not wait for. -/
def wpAnyF (P : Program) (ops : Array Oper) (Q : Exit → Act → World → Prop) : Nat → Array Bool → List Owes → Act → World → Prop
  | 0, listed, _, a, w => Region.ready .any ops listed = [] ∧ Q .normal a w
  | fuel + 1, listed, F, a, w =>
    (Region.ready .any ops listed = [] → Q .normal a w) ∧
    ∀ i ∈ Region.ready .any ops listed, wpOp P ops Q i (fun a' w' => (∀ p ∈ shrink ops i Owes.ix F, p.2 w') ∧ wpAnyF P ops Q fuel (listed.setIfInBounds i true) (shrink ops i Owes.ix F) a' w') a w

theorem wpAny_of_F : ∀ (fuel : Nat) (listed : Array Bool) (F : List Owes) (a : Act) (w : World), wpAnyF P ops Q fuel listed F a w → wpAny P .any ops Q fuel listed a w
  | 0, _, _, _, _, h => h
  | fuel + 1, _, _, _, _, h => ⟨h.1, fun i hi => wpOp_mono (fun a' w' h' => wpAny_of_F fuel _ _ a' w' h'.2) (h.2 i hi)⟩

theorem wpAnyF_less : ∀ (fuel : Nat) (listed : Array Bool) (F F' : List Owes) (a : Act) (w : World), (∀ p ∈ F', p ∈ F) → wpAnyF P ops Q fuel listed F a w → wpAnyF P ops Q fuel listed F' a w
  | 0, _, _, _, _, _, _, h => h
  | fuel + 1, _, F, F', _, _, hs, h => by
    have hs' : ∀ i, ∀ p ∈ shrink ops i Owes.ix F', p ∈ shrink ops i Owes.ix F := fun i p hp => by
      unfold shrink at *
      rw [List.mem_filter] at *
      exact ⟨hs p hp.1, hp.2⟩
    exact ⟨h.1, fun i hi => wpOp_mono (fun a' w' h' => ⟨fun p hp => h'.1 p (hs' i p hp), wpAnyF_less fuel _ _ _ a' w' (hs' i) h'.2⟩) (h.2 i hi)⟩

theorem wpAnyF_first {i : Nat} {oi : Oper} {v : Value} {S : World → Prop} (hi : ops[i]? = some oi)
    (hsel : ∀ (j : Nat) (o : Oper) cs b, ops[j]? = some o → o.op ≠ .select cs b)
    (hQ : ∀ c a w, Q (.panic c) (a.put oi.dst v) w → Q (.panic c) a w) :
    ∀ (fuel : Nat) (listed : Array Bool) (F : List Owes) (a : Act) (w : World),
      (∀ j oj, ops[j]? = some oj → j ≠ i → listed.getD j true = false → (∀ e ∈ oj.after, Region.binds .any e = true → e.on ≠ i) → oi.apart ops oj = true) →
      i ∈ Region.ready .any ops listed → YieldsIf P ops S oi v a → S w → (∀ p ∈ shrink ops i Owes.ix F, p.2 w) →
      wpAnyF P ops Q fuel (listed.setIfInBounds i true) ((i, S) :: F) (a.put oi.dst v) w → wpAnyF P ops Q (fuel + 1) listed F a w := by
  intro fuel
  induction fuel with
  | zero =>
    intro listed F a w _ hr hy hS hF H
    refine ⟨fun h => (by rw [h] at hr; cases hr), fun j hj => ?_⟩
    by_cases hji : j = i
    · subst hji; exact hy.wpOp hi hS ⟨hF, H⟩
    · have := ready_mono hj hji
      rw [H.1] at this
      cases this
  | succ fuel ih =>
    intro listed F a w hfree hr hy hS hF H
    refine ⟨fun h => (by rw [h] at hr; cases hr), fun j hj => ?_⟩
    by_cases hji : j = i
    · subst hji
      exact hy.wpOp hi hS ⟨hF, wpAnyF_less _ _ _ _ _ _ (fun p hp => List.mem_cons_of_mem _ (List.mem_filter.1 hp).1) H⟩
    · have h1 := H.2 j (ready_mono hj hji)
      obtain ⟨hjun, oj, hoj, hall⟩ := mem_ready.1 hj
      have hnot : ∀ e ∈ oj.after, Region.binds .any e = true → e.on ≠ i := fun e he hb heq => by
        have h1 := hall e he hb
        have h0 := (mem_ready.1 hr).1
        rw [heq] at h1
        rcases Nat.lt_or_ge i listed.size with h' | h'
        · simp [h'] at h0 h1; rw [h0] at h1; cases h1
        · simp [Array.getElem?_eq_none h'] at h1
      have hw := waits_false hoj hnot
      have hsh : shrink ops j Owes.ix ((i, S) :: F) = (i, S) :: shrink ops j Owes.ix F := by
        unfold shrink
        rw [List.filter_cons_of_pos]
        simp [Owes.ix, hw]
      rw [hsh] at h1
      have h2 := wpOp_putIf hoj (hfree j oj hoj hji hjun hnot) (fun cs b => hsel i oi cs b hi) (fun cs b => hsel j oj cs b hoj) hQ hy h1
      have hfree' : ∀ k ok, ops[k]? = some ok → k ≠ i → (listed.setIfInBounds j true).getD k true = false →
          (∀ e ∈ ok.after, Region.binds .any e = true → e.on ≠ i) → oi.apart ops ok = true := fun k ok hk hki hun hno => by
        refine hfree k ok hk hki ?_ hno
        by_cases hjk : j = k
        · subst hjk; exact hjun
        · rw [getD_set_ne true hjk] at hun; exact hun
      refine wpOp_mono (fun a' w' h3 => ⟨fun p hp => h3.2.1 p (List.mem_cons_of_mem _ hp), ih (listed.setIfInBounds j true) _ a' w' hfree' (ready_mono hr (Ne.symm hji)) h3.1
        (h3.2.1 (i, S) List.mem_cons_self) (fun p hp => h3.2.1 p (List.mem_cons_of_mem _ (List.mem_filter.1 hp).1)) ?_⟩) h2
      rw [Array.setIfInBounds_comm _ _ hji]
      exact h3.2.2

theorem wpAnyF_take {i : Nat} {oi : Oper} {v : Value} {fuel : Nat} {listed : Array Bool} {F : List Owes} {S : World → Prop} {a : Act} {w : World} (hi : ops[i]? = some oi)
    (hs : Region.noSelect ops = true) (hf : Region.free .any ops listed i = true) (hr : i ∈ Region.ready .any ops listed)
    (hQ : ∀ c a w, Q (.panic c) (a.put oi.dst v) w → Q (.panic c) a w) (hy : YieldsIf P ops S oi v a) (hS : S w) (hF : ∀ p ∈ shrink ops i Owes.ix F, p.2 w)
    (h : wpAnyF P ops Q fuel (listed.setIfInBounds i true) ((i, S) :: F) (a.put oi.dst v) w) : wpAnyF P ops Q (fuel + 1) listed F a w :=
  wpAnyF_first hi (Region.noSelect_spec hs) hQ fuel listed F a w (Region.free_spec hi hf) hr hy hS hF h

theorem wpAnyF_all {rs : List Nat} {fuel : Nat} {listed : Array Bool} {F : List Owes} {a : Act} {w : World} (hr : Region.ready .any ops listed = rs) (hne : rs ≠ [])
    (h : ∀ i ∈ rs, wpOp P ops Q i (fun a' w' => (∀ p ∈ shrink ops i Owes.ix F, p.2 w') ∧ wpAnyF P ops Q fuel (listed.setIfInBounds i true) (shrink ops i Owes.ix F) a' w') a w) : wpAnyF P ops Q (fuel + 1) listed F a w :=
  ⟨fun h0 => absurd (hr ▸ h0) hne, hr ▸ h⟩

theorem wpAnyF_done {listed : Array Bool} {F : List Owes} {a : Act} {w : World} (hr : Region.ready .any ops listed = []) (h : Q .normal a w) :
    ∀ fuel, wpAnyF P ops Q fuel listed F a w
  | 0 => ⟨hr, h⟩
  | _ + 1 => ⟨fun _ => h, by rw [hr]; simp⟩

theorem wp_region_F {id : Nat} {a : Act} {w : World} (hm : P.follows .mixedOrders = true)
    (h : wpAnyF P ops Q ops.size (Array.replicate ops.size false) [] a { w with drawn := w.drawn + 1 }) : (Code.region id ops true).wp P Q a w :=
  wp_region_any hm (wpAny_of_F _ _ _ _ _ h)

end

end Go.Kf

namespace Go.Kf

open Go

section

variable {P : Program} {N n : Nat} {env env' : Tri} {ρ : Nat → Value} {a : Act} {C : Cfg} {ops : Array Oper} {o : Oper}

theorem yielded_of {j t : Nat} {b : Bool} (hs : slotOf ops j = some t) (h : a.tmps.getD t undef = .bool b) : yielded ops a.tmps j = some b := by
  have h1 : (ops[j]?).bind (·.dst) = some t := by
    unfold slotOf at hs
    cases ho : ops[j]? with
    | none => rw [ho] at hs; cases hs
    | some o => rw [ho] at hs; exact hs
  have h2 : a.tmps[t]? = some (.bool b) := by
    rw [Array.getD_eq_getD_getElem?] at h
    cases hx : a.tmps[t]? with
    | none => rw [hx] at h; cases h
    | some v => rw [hx] at h; exact congrArg some h
  unfold yielded
  rw [h1]
  show (match a.tmps[t]? with | some (.bool b) => some b | _ => none) = some b
  rw [h2]

theorem yielded_none {j t : Nat} (hs : slotOf ops j = some t) (h : ∀ b, a.tmps.getD t undef = .bool b → False) : yielded ops a.tmps j = none := by
  have h1 : (ops[j]?).bind (·.dst) = some t := by
    unfold slotOf at hs
    cases ho : ops[j]? with
    | none => rw [ho] at hs; cases hs
    | some o => rw [ho] at hs; exact hs
  unfold yielded
  rw [h1]
  show (match a.tmps[t]? with | some (.bool b) => some b | _ => none) = none
  cases hx : a.tmps[t]? with
  | none => rfl
  | some v =>
    rw [Array.getD_eq_getD_getElem?, hx] at h
    cases v <;> first | rfl | (exact (h _ rfl).elim)

theorem grd_run (hm : Match N env ρ n a) (h : grd env ops o = .run) : Region.wanted o (yielded ops a.tmps) = true := by
  unfold grd at h
  unfold Region.wanted
  cases hg : o.guard with
  | none => rfl
  | some gw =>
    obtain ⟨j, want⟩ := gw
    rw [hg] at h
    simp only at h
    cases hs : slotOf ops j with
    | none => rw [hs] at h; cases h
    | some t =>
      rw [hs] at h
      simp only at h
      split at h
      · rename_i b hb
        have hy := yielded_of hs ((hm.val t _ hb).trans rfl)
        simp only [hy]
        cases b <;> cases want <;> first | rfl | (cases h; done)
      · cases h
      · cases h
      · cases h

theorem grd_skip (hm : Match N env ρ n a) (h : grd env ops o = .skip) : Region.wanted o (yielded ops a.tmps) = false := by
  unfold grd at h
  unfold Region.wanted
  cases hg : o.guard with
  | none => rw [hg] at h; cases h
  | some gw =>
    obtain ⟨j, want⟩ := gw
    rw [hg] at h
    simp only at h
    cases hs : slotOf ops j with
    | none => rw [hs] at h; cases h
    | some t =>
      rw [hs] at h
      simp only at h
      split at h
      · rename_i b hb
        have hy := yielded_of hs ((hm.val t _ hb).trans rfl)
        simp only [hy]
        cases b <;> cases want <;> first | rfl | (cases h; done)
      · rename_i v hnb hv
        have hy := yielded_none hs fun b hb => hnb b ((hm.val t _ hv).symm.trans hb)
        simp only [hy]
        rfl
      · cases h
      · cases h

theorem grd_data {y t : Nat} (h : grd env ops o = .data y t) : env.get t = some (.tmp y) ∧ ∃ j, slotOf ops j = some t := by
  unfold grd at h
  cases hg : o.guard with
  | none => rw [hg] at h; cases h
  | some gw =>
    obtain ⟨j, want⟩ := gw
    rw [hg] at h
    simp only at h
    cases hs : slotOf ops j with
    | none => rw [hs] at h; cases h
    | some s =>
      rw [hs] at h
      simp only at h
      split at h
      · rename_i b hb
        cases b <;> cases want <;> cases h
      · cases h
      · rename_i y' hy
        injection h with h1 h2
        subst h1; subst h2
        exact ⟨hy, j, hs⟩
      · cases h

theorem foldBin_run {op : BinOp} {k k' : IntKind} {p q : Int} {x : Operand} (h : foldBin op k p k' q = some x) (t : TypeId) (x0 y0 : Operand) (w : World) :
    (do eqGuard op t x0 y0 (.int k p) (.int k' q); binOp op t (.int k p) (.int k' q) : Sem Value).run P w = .ok (ev ρ x) w := by
  unfold foldBin at h
  by_cases hk : k = k'
  · subst hk
    rw [decide_eq_true rfl] at h
    simp only [cond] at h
    cases op <;> simp only [Option.some.injEq] at h <;> first
      | (subst h; simp [eqGuard, binOp, Op.intCmp, ev]; done)
      | (cases h; done)
  · rw [decide_eq_false hk] at h
    cases h

theorem foldBin_const {op : BinOp} {k k' : IntKind} {p q : Int} {x : Operand} (h : foldBin op k p k' q = some x) : ∃ c, x = .const (.bool c) := by
  unfold foldBin at h
  by_cases hk : k = k'
  · rw [decide_eq_true hk] at h
    simp only [cond] at h
    cases op <;> simp only [Option.some.injEq] at h <;> first
      | exact ⟨_, h.symm⟩
      | (cases h; done)
  · rw [decide_eq_false hk] at h
    cases h

theorem simple_run (hm : Match N env ρ n a) {x : Operand} (h : simple env o.op = some x) (w : World) :
    (execOp a.eval o).run P w = .ok (.value (ev ρ x)) w ∧ opBelow n x := by
  obtain ⟨dst, oo, ty, pos, after, guard⟩ := o
  cases oo <;> simp only [simple] at h
  case move y => exact ⟨by simp only [execOp]; rw [hm.look h]; rfl, hm.look_below h⟩
  case assign y => exact ⟨by simp only [execOp]; rw [hm.look h]; rfl, hm.look_below h⟩
  case pick c p q =>
    split at h
    · rename_i t hc
      refine ⟨?_, hm.look_below h⟩
      simp only [execOp]
      rw [hm.look hc]
      cases t <;> simp only [cond] at h <;> simp [ev, asBool, hm.look h]
    · cases h
  case binOp op t x0 y0 u =>
    split at h
    · rename_i k p k' q hx hy
      have hb : opBelow n x := by
        obtain ⟨c, rfl⟩ := foldBin_const h
        trivial
      refine ⟨?_, hb⟩
      simp only [execOp]
      rw [hm.look hx, hm.look hy]
      have := foldBin_run (P := P) (ρ := ρ) h t x0 y0 w
      simp only [ev]
      simp only [Sem.run_bind] at this ⊢
      rw [this]
      rfl
    · cases h
  case unOp op t x0 =>
    cases op <;> simp only at h
    case not =>
      split at h
      · rename_i b hx
        simp only [Option.some.injEq] at h
        subst h
        refine ⟨?_, trivial⟩
        simp only [execOp]
        rw [hm.look hx]
        simp [ev, Op.unary]
      · cases h
    all_goals cases h
  all_goals cases h

/-- 'silent': the operation yields its value in whatever world, and the state goes on matching. -/
theorem oneStep_silent (hm : Match N env ρ n a) (hN : C.N = N) (h : oneStep C ops env n o = .silent env') :
    ∃ v, YieldsIf P ops (fun _ => True) o v a ∧ Match N env' ρ n (a.put o.dst v) := by
  unfold oneStep at h
  cases hg : grd env ops o with
  | bad => rw [hg] at h; cases h
  | data y t => rw [hg] at h; cases h
  | skip =>
    rw [hg] at h
    simp only at h
    cases hs : setDst C env o.dst (.const undef) with
    | none => rw [hs] at h; cases h
    | some e =>
      rw [hs] at h
      simp only [silently, Stepo.silent.injEq] at h
      subst h
      exact ⟨undef, .inr ⟨grd_skip hm hg, rfl⟩, hm.set hs hN (Nat.le_refl _) (fun _ _ => rfl) trivial rfl⟩
  | run =>
    rw [hg] at h
    simp only at h
    cases hx : simple env o.op with
    | none =>
      rw [hx] at h
      simp only at h
      split at h
      · cases h
      · split at h <;> cases h
    | some x =>
      rw [hx] at h
      simp only at h
      cases hs : setDst C env o.dst x with
      | none => rw [hs] at h; cases h
      | some e =>
        rw [hs] at h
        simp only [silently, Stepo.silent.injEq] at h
        subst h
        exact ⟨ev ρ x, .inl ⟨grd_run hm hg, fun w _ => (simple_run hm hx w).1⟩, hm.set hs hN (Nat.le_refl _) (fun _ _ => rfl) (simple_run (P := P) hm hx default).2 rfl⟩

/-- 'event': the operation is wanted, is what its renamed twin is, and behind it the state matches. -/
theorem oneStep_event {op : Op} (hm : Match N env ρ n a) (hN : C.N = N) (h : oneStep C ops env n o = .event op env') :
    Region.wanted o (yielded ops a.tmps) = true ∧ (∀ ρ' : Nat → Value, (∀ m, m < n → ρ' m = ρ m) → execOp (ev ρ') (bareOp op) = execOp a.eval o) ∧
      ∀ v, (∀ u, C.orc n = some u → v = u) → Match N env' (ext ρ n [v]) (n + 1) (a.put o.dst v) := by
  unfold oneStep at h
  cases hg : grd env ops o with
  | bad => rw [hg] at h; cases h
  | data y t => rw [hg] at h; cases h
  | skip =>
    rw [hg] at h
    simp only at h
    cases hs : setDst C env o.dst (.const undef) with
    | none => rw [hs] at h; cases h
    | some e => rw [hs] at h; cases h
  | run =>
    rw [hg] at h
    simp only at h
    cases hx : simple env o.op with
    | some x =>
      rw [hx] at h
      simp only at h
      cases hs : setDst C env o.dst x with
      | none => rw [hs] at h; cases h
      | some e => rw [hs] at h; cases h
    | none =>
      rw [hx] at h
      simp only at h
      cases hr : renOp env o.op with
      | none => rw [hr] at h; cases h
      | some op' =>
        rw [hr] at h
        simp only at h
        cases hs : setDst C env o.dst (named n (C.orc n)) with
        | none => rw [hs] at h; cases h
        | some e =>
          rw [hs] at h
          simp only [Stepo.event.injEq] at h
          obtain ⟨rfl, rfl⟩ := h
          refine ⟨grd_run hm hg, fun ρ' hρ => ?_, fun v hv => ?_⟩
          · refine (renOp_exec hr (fun x y hy => ?_) (fun _ => rfl)).symm
            rw [hm.look hy, ev_congr (hm.look_below hy) hρ]
          · refine hm.set hs hN (Nat.le_succ _) (fun m hlt => ext_lt hlt) ?_ ?_
            · cases hc : C.orc n <;> simp [named, opBelow]
            · cases hc : C.orc n with
              | none => simp [named, ev, ext_at]
              | some u => simp only [named, ev]; exact (hv u hc).symm

theorem oneStep_split {y t : Nat} (h : oneStep C ops env n o = .split y t) : env.get t = some (.tmp y) ∧ ∃ j, slotOf ops j = some t := by
  unfold oneStep at h
  cases hg : grd env ops o with
  | bad => rw [hg] at h; cases h
  | data y' t' =>
    rw [hg] at h
    simp only [Stepo.split.injEq] at h
    obtain ⟨rfl, rfl⟩ := h
    exact grd_data hg
  | skip =>
    rw [hg] at h
    simp only at h
    cases hs : setDst C env o.dst (.const undef) with
    | none => rw [hs] at h; cases h
    | some e => rw [hs] at h; cases h
  | run =>
    rw [hg] at h
    simp only at h
    cases hx : simple env o.op with
    | some x =>
      rw [hx] at h
      simp only at h
      cases hs : setDst C env o.dst x with
      | none => rw [hs] at h; cases h
      | some e => rw [hs] at h; cases h
    | none =>
      rw [hx] at h
      simp only at h
      split at h
      · cases h
      · split at h <;> cases h

/-- How an operation went, for the machine. -/
theorem went_wp {K : Value → World → Prop} {next : Act → World → Prop} {Q : Exit → Act → World → Prop} {w : World} (h : Went P K ((execOp a.eval o).run P w))
    (hk : ∀ v w', K v w' → next (a.put o.dst v) w') : o.wp P a w next Q := by
  unfold Oper.wp
  generalize (execOp a.eval o).run P w = r at *
  cases r with
  | halt x w' => exact h.elim
  | ok x w' =>
    cases x <;> simp only [Went] at h <;> simp only [Oper.upon] <;> first
      | exact hk _ _ h
      | exact h.elim
      | (refine Calls.mono h fun e w'' he => ?_
         cases e with
         | returned v => exact hk _ _ he
         | panicked c => exact he.elim
         | outgrown => exact he.elim)
      | exact Rows.mono h fun v w'' he => hk _ _ he

end

end Go.Kf


namespace Go.Kf

open Go

/-- From a list of items to the function's end. -/
def Runs (P : Program) (f : FuncId) (R : Value → World → Prop) (k : List Item) (a : Act) (w : World) : Prop :=
  ∀ cs, ∃ v w' fr, R v w' ∧ Steps P (lone (({ (default : Frame) with fn := f, kind := .normal } : Frame).at a k) cs w) (lone fr cs w') ∧ fr.fn = f ∧ fr.leaving P w' (.returned v)

section

variable {P : Program} {f : FuncId} {R : Value → World → Prop} {a : Act} {w : World}

theorem Runs.step {k k' : List Item} {a' : Act} {w' : World}
    (h : ∀ cs, step P (lone (({ (default : Frame) with fn := f, kind := .normal } : Frame).at a k) cs w) = .next (lone (({ (default : Frame) with fn := f, kind := .normal } : Frame).at a' k') cs w'))
    (hr : Runs P f R k' a' w') : Runs P f R k a w := fun cs =>
  let ⟨v, w'', fr, r, s, rest⟩ := hr cs
  ⟨v, w'', fr, r, .head (h cs) s, rest⟩

theorem Runs.wp {c : Code} {k : List Item} (h : c.wp P (fun e a' w' => e = .normal ∧ Runs P f R k a' w') a w) : Runs P f R (.code c :: k) a w := fun cs => by
  obtain ⟨e, a', w', ⟨rfl, hq⟩, harr⟩ := h { (default : Frame) with fn := f, kind := .normal } k cs
  obtain ⟨v, w'', fr, r, s, rest⟩ := hq cs
  exact ⟨v, w'', fr, r, Steps.trans harr s, rest⟩

theorem calls_of_runs {fn : Func} {c : Code} {args : Array Value} (hf : P.funcs[f]? = some fn) (hb : fn.body = some c)
    (h : Runs P f R [.code c] { tmps := args ++ Array.replicate (fn.ntmps - args.size) undef, defers := [] } w) :
    Calls P f args w fun e w' => match e with
      | .returned v => R v w'
      | _ => False := fun cs => by
  have henter : Frame.enter P f args .normal =
      ({ (default : Frame) with fn := f, kind := .normal } : Frame).at { tmps := args ++ Array.replicate (fn.ntmps - args.size) undef, defers := [] } [.code c] := by
    simp [Frame.enter, Frame.at, hf, hb]
  obtain ⟨v, w', fr, hR, hs, hfn, hl⟩ := h cs
  rw [← henter] at hs
  exact ⟨.returned v, w', fr, hR, hs, hfn, hl⟩

theorem retOf_run {N n : Nat} {env : Tri} {ρ : Nat → Value} (hm : Match N env ρ n a) : ∀ (l : List ResultVar) (rs : List (Operand × Option TypeId)), retOf env l = some rs →
    (l.mapM fun r : ResultVar => match r with
      | .tmp t => (pure (a.tmps.getD t undef) : Sem Value)
      | .cell s ty => do loadVar ty (← asAddr (a.tmps.getD s undef))) = retVals (evRet rs ρ)
  | [], rs, h => by simp only [retOf, Option.some.injEq] at h; subst h; rfl
  | .tmp t :: l, rs, h => by
    simp only [retOf] at h
    split at h
    · rename_i x s hx hs
      simp only [Option.some.injEq] at h
      subst h
      have ih := retOf_run hm l s hs
      simp only [List.mapM_cons, ih, pure_bind, hm.val t x hx]
      simp only [evRet, List.map_cons, retVals]
    · cases h
  | .cell t ty :: l, rs, h => by
    simp only [retOf] at h
    split at h
    · rename_i x s hx hs
      simp only [Option.some.injEq] at h
      subst h
      have ih := retOf_run hm l s hs
      simp only [List.mapM_cons, ih, hm.val t x hx]
      simp only [evRet, List.map_cons, retVals, bind_assoc]
    · cases h

theorem results_run {N n : Nat} {env : Tri} {ρ : Nat → Value} {fn : Func} {rs : List (Operand × Option TypeId)} {vs : List Value} {w' : World} (hm : Match N env ρ n a)
    (h : retOf env fn.results.toList = some rs) (hv : (retVals (evRet rs ρ)).run P w = .ok vs w') : (results fn a.tmps).run P w = .ok (oneOf vs) w' := by
  unfold results
  rw [Array.mapM_eq_mapM_toList]
  have e := retOf_run hm _ _ h
  simp only [map_eq_pure_bind, bind_assoc, pure_bind, Sem.run_bind]
  have e2 : (List.mapM (fun x : ResultVar => match x with
      | .tmp t => (pure (a.tmps.getD t undef) : Sem Value)
      | .cell s ty => do loadVar ty (← asAddr (a.tmps.getD s undef))) fn.results.toList).run P w = .ok vs w' := by rw [e]; exact hv
  have e3 : ∀ g : List Value → World → Result Value, ((List.mapM (fun x : ResultVar => match x with
      | .tmp t => (pure (a.tmps.getD t undef) : Sem Value)
      | .cell s ty => do loadVar ty (← asAddr (a.tmps.getD s undef))) fn.results.toList).run P w).andThen g = g vs w' := fun g => by rw [e2]; rfl
  refine (e3 _).trans ?_
  cases vs with
  | nil => rfl
  | cons v r =>
    cases r with
    | nil => rfl
    | cons x r => simp [oneOf]

def markSlots : KI → Option (Nat × List Tmp × Nat × Tri)
  | .jn l sl n env => some (l, sl, n, env)
  | .lp _ l sl n env => some (l, sl, n, env)
  | _ => none

/-- What the marks protect is as it was. -/
def Stays : List KI → List (Nat → Value) → Act → Prop
  | [], _, _ => True
  | i :: K, S, a => match markSlots i with
    | none => Stays K S a
    | some (_, sl, _, env) => match S with
      | [] => False
      | ρ0 :: S => (∀ t x, env.get t = some x → t ∉ sl → a.tmps.getD t undef = ev ρ0 x) ∧ Stays K S a

/-- No mark protects this slot. -/
def FreeOf : List KI → Tmp → Prop
  | [], _ => True
  | i :: K, t => (match markSlots i with
    | none => True
    | some (_, sl, _, env) => env.get t = none ∨ t ∈ sl) ∧ FreeOf K t

def writesI : KI → List Tmp
  | .code c => writes c
  | .scp b => writes b
  | _ => []

def Safe : List KI → Prop
  | [] => True
  | i :: K => (∀ t ∈ writesI i, FreeOf K t) ∧ Safe K

/-- What a join, or a loop, hands on: for each its naming at the time. -/
def Holds (P : Program) (f : FuncId) (R : Value → World → Prop) (N : Nat) (Γ : List (List Value → World → Prop)) : List KI → List (Nat → Value) → Prop
  | [], _ => True
  | i :: K, S => match markSlots i with
    | none => Holds P f R N Γ K S
    | some (l, sl, n0, env0) => match S with
      | [] => False
      | ρ0 :: S => ((∀ t x, env0.get t = some x → opBelow n0 x) ∧ ∃ p, Γ[l]? = some p ∧ ∀ vs w a, vs.length = sl.length → p vs w → Match N (setMany env0 sl n0) (ext ρ0 n0 vs) (n0 + sl.length) a → Stays (i :: K) (ρ0 :: S) a → Runs P f R (strip (i :: K)) a w) ∧
          Holds P f R N Γ K S

variable {N : Nat} {Γ : List (List Value → World → Prop)}

theorem Holds.more {J : List Value → World → Prop} : ∀ {K : List KI} {S : List (Nat → Value)}, Holds P f R N Γ K S → Holds P f R N (Γ ++ [J]) K S
  | [], _, _ => trivial
  | i :: K, S, h => by
    unfold Holds at *
    cases hm : markSlots i with
    | none => rw [hm] at h; exact Holds.more h
    | some x =>
      obtain ⟨l, sl, n0, env0⟩ := x
      rw [hm] at h
      cases S with
      | nil => exact h
      | cons ρ0 S =>
        obtain ⟨⟨h0, p, hp, h1⟩, h2⟩ := h
        refine ⟨⟨h0, p, ?_, h1⟩, Holds.more h2⟩
        have hlt : l < Γ.length := (List.getElem?_eq_some_iff.1 hp).1
        rw [List.getElem?_append_left hlt]
        exact hp

theorem Stays.change : ∀ {K : List KI} {S : List (Nat → Value)} {a a' : Act} (W : List Tmp), Stays K S a → (∀ t ∈ W, FreeOf K t) → (∀ t, t ∉ W → a'.tmps.getD t undef = a.tmps.getD t undef) → Stays K S a'
  | [], _, _, _, _, _, _, _ => trivial
  | i :: K, S, a, a', W, h, hf, he => by
    have hf' : ∀ t ∈ W, FreeOf K t := fun t ht => (hf t ht).2
    unfold Stays at *
    cases hm : markSlots i with
    | none => rw [hm] at h; exact Stays.change W h hf' he
    | some x =>
      obtain ⟨l, sl, n0, env0⟩ := x
      rw [hm] at h
      cases S with
      | nil => exact h
      | cons ρ0 S =>
        refine ⟨fun t x hx hn => ?_, Stays.change W h.2 hf' he⟩
        by_cases ht : t ∈ W
        · have := (hf t ht).1
          rw [hm] at this
          rcases this with h1 | h1
          · rw [hx] at h1; cases h1
          · exact absurd h1 hn
        · rw [he t ht]; exact h.1 t x hx hn

theorem exitK_strip : ∀ (id : Nat) (K K' : List KI), exitK id K = some K' → exitTo id (strip K) = some (strip K')
  | _, [], _, h => by cases h
  | id, .blk id' :: K, K', h => by
    simp only [exitK] at h
    simp only [strip, exitTo]
    split at h
    · rename_i he; rw [if_pos he]; exact congrArg (fun x => some (strip x)) (Option.some.inj h)
    · rename_i he; rw [if_neg he]; exact exitK_strip id K K' h
  | id, .code _ :: K, K', h => by simp only [exitK] at h; simp only [strip, exitTo]; exact exitK_strip id K K' h
  | id, .scp _ :: K, K', h => by simp only [exitK] at h; simp only [strip, exitTo]; exact exitK_strip id K K' h
  | id, .lp _ _ _ _ _ :: K, K', h => by simp only [exitK] at h; simp only [strip, exitTo]; exact exitK_strip id K K' h
  | id, .jn _ _ _ _ :: K, K', h => by simp only [exitK] at h; simp only [strip]; exact exitK_strip id K K' h

theorem exitK_keeps {a : Act} : ∀ (id : Nat) (K K' : List KI) (S : List (Nat → Value)), exitK id K = some K' → Holds P f R N Γ K S → Stays K S a → Safe K →
    ∃ S', Holds P f R N Γ K' S' ∧ Stays K' S' a ∧ Safe K'
  | _, [], _, _, h, _, _, _ => by cases h
  | id, i :: K, K', S, h, hh, hs, hf => by
    have hf' : Safe K := hf.2
    have pass : (∃ S1, Holds P f R N Γ K S1 ∧ Stays K S1 a) := by
      unfold Holds at hh
      unfold Stays at hs
      cases hm : markSlots i with
      | none => rw [hm] at hh hs; exact ⟨S, hh, hs⟩
      | some x =>
        obtain ⟨l, sl, n0, env0⟩ := x
        rw [hm] at hh hs
        cases S with
        | nil => exact hh.elim
        | cons ρ0 S => exact ⟨S, hh.2, hs.2⟩
    obtain ⟨S1, hh1, hs1⟩ := pass
    cases i with
    | blk id' =>
      simp only [exitK] at h
      split at h
      · cases h; exact ⟨S1, hh1, hs1, hf'⟩
      · exact exitK_keeps id K K' S1 h hh1 hs1 hf'
    | code c => simp only [exitK] at h; exact exitK_keeps id K K' S1 h hh1 hs1 hf'
    | scp c => simp only [exitK] at h; exact exitK_keeps id K K' S1 h hh1 hs1 hf'
    | lp b l sl n0 env0 => simp only [exitK] at h; exact exitK_keeps id K K' S1 h hh1 hs1 hf'
    | jn l sl n0 env0 => simp only [exitK] at h; exact exitK_keeps id K K' S1 h hh1 hs1 hf'

theorem findLabel_writes : ∀ (c : Code) (l : Nat) (rest : Code), findLabel c l = some rest → ∀ t ∈ writes rest, t ∈ writes c
  | .seq x y, l, rest, h => by
    simp only [findLabel] at h
    intro t ht
    cases hx : findLabel x l with
    | some r =>
      rw [hx] at h
      simp only [Option.some.injEq] at h
      subst h
      simp only [writes, List.mem_append] at ht ⊢
      rcases ht with ht | ht
      · exact .inl (findLabel_writes x l r hx t ht)
      · exact .inr ht
    | none =>
      rw [hx] at h
      simp only [writes, List.mem_append]
      exact .inr (findLabel_writes y l rest h t ht)
  | .label l', l, rest, h => by
    simp only [findLabel] at h
    split at h
    · cases h; intro t ht; cases ht
    · cases h
  | .skip, _, _, h | .region .., _, _, h | .cond .., _, _, h | .block .., _, _, h | .loop _, _, _, h | .rangeFunc .., _, _, h | .exit _, _, _, h | .scope _, _, _, h
  | .goto _, _, _, h | .ret, _, _, h | .refuse _, _, _, h => by simp only [findLabel] at h; cases h

theorem gotoK_strip : ∀ (l : Nat) (K K' : List KI), gotoK l K = some K' → gotoIn l (strip K) = some (strip K')
  | _, [], _, h => by cases h
  | l, .scp b :: K, K', h => by
    simp only [gotoK] at h
    simp only [strip, gotoIn]
    cases hl : findLabel b l with
    | some rest => rw [hl] at h; cases h; rfl
    | none => rw [hl] at h; exact gotoK_strip l K K' h
  | l, .blk _ :: K, K', h => by simp only [gotoK] at h; simp only [strip, gotoIn]; exact gotoK_strip l K K' h
  | l, .code _ :: K, K', h => by simp only [gotoK] at h; simp only [strip, gotoIn]; exact gotoK_strip l K K' h
  | l, .lp _ _ _ _ _ :: K, K', h => by simp only [gotoK] at h; simp only [strip, gotoIn]; exact gotoK_strip l K K' h
  | l, .jn _ _ _ _ :: K, K', h => by simp only [gotoK] at h; simp only [strip]; exact gotoK_strip l K K' h

theorem gotoK_keeps {a : Act} : ∀ (l : Nat) (K K' : List KI) (S : List (Nat → Value)), gotoK l K = some K' → Holds P f R N Γ K S → Stays K S a → Safe K →
    ∃ S', Holds P f R N Γ K' S' ∧ Stays K' S' a ∧ Safe K'
  | _, [], _, _, h, _, _, _ => by cases h
  | id, i :: K, K', S, h, hh, hs, hf => by
    have hf' : Safe K := hf.2
    have pass : (∃ S1, Holds P f R N Γ K S1 ∧ Stays K S1 a) := by
      unfold Holds at hh
      unfold Stays at hs
      cases hm : markSlots i with
      | none => rw [hm] at hh hs; exact ⟨S, hh, hs⟩
      | some x =>
        obtain ⟨l, sl, n0, env0⟩ := x
        rw [hm] at hh hs
        cases S with
        | nil => exact hh.elim
        | cons ρ0 S => exact ⟨S, hh.2, hs.2⟩
    obtain ⟨S1, hh1, hs1⟩ := pass
    cases i with
    | scp b =>
      simp only [gotoK] at h
      cases hl : findLabel b id with
      | some rest =>
        rw [hl] at h
        cases h
        refine ⟨S1, hh1, hs1, fun t ht => ⟨trivial, hf.1 t (findLabel_writes b id rest hl t ht)⟩, hf⟩
      | none => rw [hl] at h; exact gotoK_keeps id K K' S1 h hh1 hs1 hf'
    | code c => simp only [gotoK] at h; exact gotoK_keeps id K K' S1 h hh1 hs1 hf'
    | blk c => simp only [gotoK] at h; exact gotoK_keeps id K K' S1 h hh1 hs1 hf'
    | lp b l sl n0 env0 => simp only [gotoK] at h; exact gotoK_keeps id K K' S1 h hh1 hs1 hf'
    | jn l sl n0 env0 => simp only [gotoK] at h; exact gotoK_keeps id K K' S1 h hh1 hs1 hf'

theorem setMany_get : ∀ (sl : List Tmp) (env : Tri) (n t : Nat) (x : Operand), (setMany env sl n).get t = some x → (∃ i, sl[i]? = some t ∧ x = .tmp (n + i)) ∨ (t ∉ sl ∧ env.get t = some x)
  | [], _, _, _, _, h => .inr ⟨by simp, h⟩
  | s :: r, env, n, t, x, h => by
    rcases setMany_get r (env.set s (.tmp n)) (n + 1) t x h with ⟨i, hi, hx⟩ | ⟨hn, hx⟩
    · exact .inl ⟨i + 1, by simpa using hi, by rw [hx, show n + 1 + i = n + (i + 1) from by omega]⟩
    · rcases Tri.get_set hx with ⟨rfl, rfl⟩ | ⟨hne, hx'⟩
      · exact .inl ⟨0, by simp, rfl⟩
      · exact .inr ⟨by simp [hne, hn], hx'⟩

theorem lookAll_len {env : Tri} : ∀ (l xs : List Operand), lookAll env l = some xs → xs.length = l.length
  | [], xs, h => by simp only [lookAll, Option.some.injEq] at h; subst h; rfl
  | x :: r, xs, h => by
    simp only [lookAll] at h
    cases hx : look env x with
    | none => rw [hx] at h; cases h
    | some y =>
      rw [hx] at h
      cases hr : lookAll env r with
      | none => rw [hr] at h; cases h
      | some s => rw [hr] at h; simp only [Option.some.injEq] at h; subst h; simp [lookAll_len r s hr]

theorem Match.many {n0 n : Nat} {env env0 : Tri} {ρ ρ0 : Nat → Value} {sl : List Tmp} {xs : List Operand} (hm : Match N env ρ n a) (hx : lookAll env (sl.map Operand.tmp) = some xs)
    (hb : ∀ t x, env0.get t = some x → opBelow n0 x) (hs : ∀ t x, env0.get t = some x → t ∉ sl → a.tmps.getD t undef = ev ρ0 x) :
    Match N (setMany env0 sl n0) (ext ρ0 n0 (xs.map (ev ρ))) (n0 + sl.length) a := by
  have hv : (sl.map Operand.tmp).map a.eval = xs.map (ev ρ) := lookAll_map (fun x y h => hm.look h) _ _ hx
  refine ⟨hm.size, hm.defs, fun t x h => ?_, fun t x h => ?_⟩
  · rcases setMany_get _ _ _ _ _ h with ⟨i, hi, rfl⟩ | ⟨hn, h'⟩
    · simp only [ev]
      rw [ext_ge, ← hv]
      have : ((sl.map Operand.tmp).map a.eval)[i]? = some (a.tmps.getD t undef) := by
        simp only [List.getElem?_map, hi, Option.map_some]; rfl
      rw [List.getD_eq_getElem?_getD, this]; rfl
    · rw [hs t x h' hn, ev_congr (hb t x h') (fun m hlt => ext_lt hlt)]
  · rcases setMany_get _ _ _ _ _ h with ⟨i, hi, rfl⟩ | ⟨hn, h'⟩
    · have : i < sl.length := (List.getElem?_eq_some_iff.1 hi).1
      exact (Nat.add_lt_add_left this n0 : n0 + i < n0 + sl.length)
    · exact (hb t x h').mono (by omega)

theorem mem_addNew {s t : Tmp} : ∀ {l : List Tmp}, t ∈ addNew s l ↔ t = s ∨ t ∈ l
  | [] => by simp [addNew]
  | x :: r => by
    simp only [addNew]
    cases hb : Nat.beq x s with
    | true =>
      have := Nat.eq_of_beq_eq_true hb
      subst this
      simp
    | false =>
      simp only [cond, List.mem_cons, mem_addNew]
      constructor
      · rintro (h | h | h) <;> simp [h]
      · rintro (h | h | h) <;> simp [h]

theorem carried_spec {env : Tri} {t : Tmp} : ∀ (l acc : List Tmp), (t ∈ l ∧ env.get t ≠ none) ∨ t ∈ acc → t ∈ carried env l acc
  | [], acc, h => by
    rcases h with h | h
    · cases h.1
    · exact h
  | s :: r, acc, h => by
    simp only [carried]
    cases hg : env.get s with
    | none =>
      simp only
      refine carried_spec r acc ?_
      rcases h with ⟨h1, h2⟩ | h
      · rcases List.mem_cons.1 h1 with rfl | h1
        · exact absurd hg h2
        · exact .inl ⟨h1, h2⟩
      · exact .inr h
    | some y =>
      simp only
      refine carried_spec r _ ?_
      rcases h with ⟨h1, h2⟩ | h
      · rcases List.mem_cons.1 h1 with rfl | h1
        · exact .inr (mem_addNew.2 (.inl rfl))
        · exact .inl ⟨h1, h2⟩
      · exact .inr (mem_addNew.2 (.inr h))

def dstsOf (ops : Array Oper) : List Tmp := ops.toList.filterMap (·.dst)

theorem put_other {o : Oper} {ops : Array Oper} {t : Tmp} {v : Value} (ho : o ∈ ops.toList) (ht : t ∉ dstsOf ops) : (a.put o.dst v).tmps.getD t undef = a.tmps.getD t undef := by
  cases hd : o.dst with
  | none => rfl
  | some d =>
    have hne : d ≠ t := fun e => ht (List.mem_filterMap.2 ⟨o, ho, by rw [hd, e]⟩)
    simp [Act.put, Array.getElem?_setIfInBounds_ne hne]

variable {C : Cfg} {ops : Array Oper} {Q : Exit → Act → World → Prop} {Kt : Tri → Nat → Tr}

/-- What follows a region: that the rest holds, and that nothing else was written. -/
def Follows (P : Program) (R : Value → World → Prop) (N : Nat) (Γ : List (List Value → World → Prop)) (ops : Array Oper) (Q : Exit → Act → World → Prop) (Kt : Tri → Nat → Tr) (a : Act) : Prop :=
  ∀ env' n' ρ' w' a', (Kt env' n').sem P R Γ n' ρ' w' → Match N env' ρ' n' a' → (∀ t, t ∉ dstsOf ops → a'.tmps.getD t undef = a.tmps.getD t undef) → Q .normal a' w'

theorem Follows.put {o : Oper} {v : Value} (h : Follows P R N Γ ops Q Kt a) (ho : o ∈ ops.toList) : Follows P R N Γ ops Q Kt (a.put o.dst v) :=
  fun env' n' ρ' w' a' h1 h2 h3 => h env' n' ρ' w' a' h1 h2 fun t ht => (h3 t ht).trans (put_other ho ht)

theorem Went.runOp_eq {op : Op} {o : Oper} {n : Nat} {ρ : Nat → Value} (h : ∀ ρ' : Nat → Value, (∀ m, m < n → ρ' m = ρ m) → execOp (ev ρ') (bareOp op) = execOp a.eval o) : runOp P ρ op w = (execOp a.eval o).run P w := by
  unfold runOp; rw [h ρ fun _ _ => rfl]

theorem wp_silent {K : Act → World → Prop} {o : Oper} {v : Value} (hy : YieldsIf P ops (fun _ => True) o v a) (h : K (a.put o.dst v) w) :
    if Region.wanted o (yielded ops a.tmps) = true then o.wp P a w K Q ∨ (o.asks P a w ∧ LetsOut Q) else K (a.put o.dst undef) w := by
  rcases hy with ⟨hw, hr⟩ | ⟨hw, rfl⟩
  · rw [if_pos hw]
    refine .inl ?_
    unfold Oper.wp
    rw [hr w trivial]
    exact h
  · rw [hw, if_neg (by simp)]
    exact h

theorem execSeq_sound (hN : C.N = N) : ∀ (l : List Oper) (env : Tri) (n : Nat) (ρ : Nat → Value) (w : World) (a : Act), (∀ o ∈ l, o ∈ ops.toList) →
    (execSeq C ops l env n Kt).sem P R Γ n ρ w → Match N env ρ n a → Follows P R N Γ ops Q Kt a → wpList P ops Q l a w
  | [], env, n, ρ, w, a, _, h, hm, hf => hf _ _ _ _ _ h hm fun _ _ => rfl
  | o :: r, env, n, ρ, w, a, hl, h, hm, hf => by
    have ho : o ∈ ops.toList := hl o List.mem_cons_self
    have hr : ∀ o ∈ r, o ∈ ops.toList := fun o' h' => hl o' (List.mem_cons_of_mem _ h')
    have silent : ∀ (env1 env' : Tri), Match N env1 ρ n a → oneStep C ops env1 n o = .silent env' → (execSeq C ops r env' n Kt).sem P R Γ n ρ w → wpList P ops Q (o :: r) a w := by
      intro env1 env' hm1 hs h1
      obtain ⟨v, hy, hm'⟩ := oneStep_silent (P := P) hm1 hN hs
      exact wp_silent hy (execSeq_sound hN r env' n ρ w _ hr h1 hm' (hf.put ho))
    have event : ∀ (env1 env' : Tri) (op : Op), Match N env1 ρ n a → oneStep C ops env1 n o = .event op env' →
        (Tr.op op (C.orc n) [] (execSeq C ops r env' (n + 1) Kt)).sem P R Γ n ρ w → wpList P ops Q (o :: r) a w := by
      intro env1 env' op hm1 hs h1
      obtain ⟨hw, he, hm'⟩ := oneStep_event hm1 hN hs
      simp only [Tr.sem] at h1
      rw [Went.runOp_eq he] at h1
      unfold wpList
      rw [if_pos hw]
      exact .inl (went_wp h1 fun v w' hv => execSeq_sound hN r env' (n + 1) _ w' _ hr hv.2.2 (hm' v hv.1) (hf.put ho))
    simp only [execSeq] at h
    cases hs : oneStep C ops env n o with
    | bad => rw [hs] at h; exact h.elim
    | silent env' => rw [hs] at h; exact silent env env' hm hs h
    | event op env' => rw [hs] at h; exact event env env' op hm hs h
    | split y t =>
      rw [hs] at h
      simp only [splitting, Tr.sem] at h
      obtain ⟨b, hb, h1, h2⟩ := h
      have ht := (oneStep_split hs).1
      have hm1 := hm.known ht hb
      cases b with
      | true =>
        have h1 := h1 rfl
        cases hs1 : oneStep C ops (env.set t (.const (.bool true))) n o with
        | bad => rw [hs1] at h1; exact h1.elim
        | silent env' => rw [hs1] at h1; exact silent _ env' hm1 hs1 h1
        | event op env' => rw [hs1] at h1; exact event _ env' op hm1 hs1 h1
        | split y t => rw [hs1] at h1; exact h1.elim
      | false =>
        have h1 := h2 rfl
        cases hs1 : oneStep C ops (env.set t (.const (.bool false))) n o with
        | bad => rw [hs1] at h1; exact h1.elim
        | silent env' => rw [hs1] at h1; exact silent _ env' hm1 hs1 h1
        | event op env' => rw [hs1] at h1; exact event _ env' op hm1 hs1 h1
        | split y t => rw [hs1] at h1; exact h1.elim

/-- What is owed, in the tree and in the run. -/
def FOK (P : Program) (ρ : Nat → Value) (n : Nat) (F : List Read) (FS : List Owes) : Prop :=
  ∀ p ∈ FS, (∀ w, p.2 w) ∨ ∃ x ∈ F, Read.ix x = Owes.ix p ∧ ∀ ρ' : Nat → Value, (∀ m, m < n → ρ' m = ρ m) → ∀ w, runOp P ρ' x.1 w = .ok (.value (ρ' x.2.1)) w → p.2 w

theorem FOK.later {ρ ρ' : Nat → Value} {n n' : Nat} {F : List Read} {FS : List Owes} (h : FOK P ρ n F FS) (hn : n ≤ n') (he : ∀ m, m < n → ρ' m = ρ m) : FOK P ρ' n' F FS :=
  fun p hp => (h p hp).imp id fun ⟨x, hx, hi, h1⟩ =>
    ⟨x, hx, hi, fun ρ'' h2 w hw => h1 ρ'' (fun m hm => (h2 m (Nat.lt_of_lt_of_le hm hn)).trans (he m hm)) w hw⟩

theorem FOK.shrink {ρ : Nat → Value} {n i : Nat} {F : List Read} {FS : List Owes} (h : FOK P ρ n F FS) : FOK P ρ n (Kf.shrink ops i Read.ix F) (Kf.shrink ops i Owes.ix FS) := fun p hp => by
  unfold Kf.shrink at hp ⊢
  rw [List.mem_filter] at hp
  exact (h p hp.1).imp id fun ⟨x, hx, hi, h1⟩ => ⟨x, List.mem_filter.2 ⟨hx, by rw [hi]; exact hp.2⟩, hi, h1⟩

theorem FOK.idle {ρ : Nat → Value} {n i : Nat} {F : List Read} {FS : List Owes} (h : FOK P ρ n F FS) : FOK P ρ n F ((i, fun _ => True) :: FS) := fun p hp => by
  rcases List.mem_cons.1 hp with rfl | hp
  · exact .inl fun _ => trivial
  · exact h p hp

theorem FOK.read {ρ : Nat → Value} {n i : Nat} {x : Read} {F : List Read} {FS : List Owes} {S : World → Prop} (h : FOK P ρ n F FS) (hi : Read.ix x = i)
    (hx : ∀ ρ' : Nat → Value, (∀ m, m < n → ρ' m = ρ m) → ∀ w, runOp P ρ' x.1 w = .ok (.value (ρ' x.2.1)) w → S w) : FOK P ρ n (x :: F) ((i, S) :: FS) := fun p hp => by
  rcases List.mem_cons.1 hp with rfl | hp
  · exact .inr ⟨x, List.mem_cons_self, hi, hx⟩
  · exact (h p hp).imp id fun ⟨y, hy, h1⟩ => ⟨y, List.mem_cons_of_mem _ hy, h1⟩

theorem FOK.paid {ρ : Nat → Value} {n : Nat} {F : List Read} {FS : List Owes} (h : FOK P ρ n F FS) (hp : ∀ p ∈ owed F, runOp P ρ p.1 w = .ok (.value (ρ p.2)) w) : ∀ p ∈ FS, p.2 w := fun p hp' => by
  rcases h p hp' with h1 | ⟨x, hx, _, h1⟩
  · exact h1 w
  · exact h1 ρ (fun _ _ => rfl) w (hp (x.1, x.2.1) (List.mem_map.2 ⟨x, hx, rfl⟩))

theorem pickQuiet_spec {env : Tri} {listed : Array Bool} {i : Nat} : ∀ {rs : List Nat}, pickQuiet env ops listed rs = some i → i ∈ rs ∧ Region.free .any ops listed i = true
  | [], h => by cases h
  | j :: r, h => by
    simp only [pickQuiet] at h
    cases hb : quietAt env ops j && Region.free .any ops listed j with
    | true =>
      rw [hb] at h
      cases h
      rw [Bool.and_eq_true] at hb
      exact ⟨List.mem_cons_self, hb.2⟩
    | false =>
      rw [hb] at h
      obtain ⟨h1, h2⟩ := pickQuiet_spec (rs := r) h
      exact ⟨List.mem_cons_of_mem _ h1, h2⟩

theorem alts_spec {g : Nat → Tr} {n : Nat} {ρ : Nat → Value} : ∀ {i0 : Nat} {rs : List Nat}, (alts g i0 rs).sem P R Γ n ρ w → ∀ i ∈ i0 :: rs, (g i).sem P R Γ n ρ w
  | i0, [], h, i, hi => by
    obtain rfl : i = i0 := by simpa using hi
    exact h
  | i0, j :: r, h, i, hi => by
    rcases List.mem_cons.1 hi with rfl | hi
    · exact h.1
    · exact alts_spec h.2 i hi

theorem execDraw_sound (hN : C.N = N) (hsel : Region.noSelect ops = true) (hQ : ∀ c a w, ¬ Q (.panic c) a w) : ∀ (fuel : Nat) (listed : Array Bool) (env : Tri) (n : Nat) (F : List Read) (FS : List Owes)
    (ρ : Nat → Value) (w : World) (a : Act), (execDraw C ops fuel listed env n F Kt).sem P R Γ n ρ w → Match N env ρ n a → FOK P ρ n F FS → (∀ p ∈ FS, p.2 w) → Follows P R N Γ ops Q Kt a →
    wpAnyF P ops Q fuel listed FS a w
  | 0, listed, env, n, F, FS, ρ, w, a, h, hm, _, _, hf => by
    simp only [execDraw] at h
    cases hr : Region.ready .any ops listed with
    | nil => rw [hr] at h; exact wpAnyF_done hr (hf _ _ _ _ _ h hm fun _ _ => rfl) 0
    | cons i0 rs => rw [hr] at h; exact h.elim
  | fuel + 1, listed, env, n, F, FS, ρ, w, a, h, hm, hF, hS, hf => by
    simp only [execDraw] at h
    cases hr : Region.ready .any ops listed with
    | nil => rw [hr] at h; exact wpAnyF_done hr (hf _ _ _ _ _ h hm fun _ _ => rfl) _
    | cons i0 rs =>
      rw [hr] at h
      simp only at h
      cases hp : pickQuiet env ops listed (i0 :: rs) with
      | some i =>
        rw [hp] at h
        simp only at h
        obtain ⟨hi, hfree⟩ := pickQuiet_spec hp
        rw [← hr] at hi
        cases ho : ops[i]? with
        | none => rw [ho] at h; exact h.elim
        | some o =>
          rw [ho] at h
          simp only at h
          have hmem : o ∈ ops.toList := Array.mem_toList_iff.2 (Array.mem_of_getElem? ho)
          have go : ∀ env1, Match N env1 ρ n a → (drawQuiet C o n i F (fun env' n' F' => execDraw C ops fuel (listed.setIfInBounds i true) env' n' F' Kt) (oneStep C ops env1 n o)).sem P R Γ n ρ w →
              wpAnyF P ops Q (fuel + 1) listed FS a w := by
            intro env1 hm1 h1
            have hsh : ∀ p ∈ Kf.shrink ops i Owes.ix FS, p.2 w := fun p hp => hS p (List.mem_filter.1 hp).1
            cases hs : oneStep C ops env1 n o with
            | bad => rw [hs] at h1; exact h1.elim
            | split y t => rw [hs] at h1; exact h1.elim
            | silent env' =>
              rw [hs] at h1
              obtain ⟨v, hy, hm'⟩ := oneStep_silent (P := P) hm1 hN hs
              refine wpAnyF_take ho hsel hfree hi (fun c a w hq => (hQ c _ w hq).elim) hy trivial hsh ?_
              exact execDraw_sound hN hsel hQ fuel _ env' n F _ ρ w _ h1 hm' hF.idle (fun p hp => by
                rcases List.mem_cons.1 hp with rfl | hp
                · trivial
                · exact hS p hp) (hf.put hmem)
            | event op env' =>
              rw [hs] at h1
              obtain ⟨hw, he, hm'⟩ := oneStep_event hm1 hN hs
              simp only [drawQuiet] at h1
              cases hq : quiet o.op with
              | none => rw [hq] at h1; exact h1.elim
              | some b =>
                rw [hq] at h1
                cases b with
                | true =>
                  simp only [Tr.sem] at h1
                  obtain ⟨v, hv, hc, h2⟩ := h1
                  refine wpAnyF_take (S := fun _ => True) (v := v) ho hsel hfree hi (fun c a w hq => (hQ c _ w hq).elim) (.inl ⟨hw, fun w _ => ?_⟩) trivial hsh ?_
                  · rw [← Went.runOp_eq he]; exact hv w
                  · exact execDraw_sound hN hsel hQ fuel _ env' (n + 1) F _ _ w _ h2 (hm' v hc) ((hF.later (Nat.le_succ n) fun m hlt => ext_lt hlt).idle) (fun p hp => by
                      rcases List.mem_cons.1 hp with rfl | hp
                      · trivial
                      · exact hS p hp) (hf.put hmem)
                | false =>
                  simp only [Tr.sem] at h1
                  obtain ⟨v, hv, hc, h2⟩ := h1
                  refine wpAnyF_take (S := fun w => (execOp a.eval o).run P w = .ok (.value v) w) ho hsel hfree hi (fun c a w hq => (hQ c _ w hq).elim) (.inl ⟨hw, fun w h => h⟩) ?_ hsh ?_
                  · rw [← Went.runOp_eq he]; exact hv
                  · have hlk : (execOp a.eval o).run P w = .ok (.value v) w := by rw [← Went.runOp_eq he]; exact hv
                    refine execDraw_sound hN hsel hQ fuel _ env' (n + 1) ((op, n, i) :: F) _ _ w _ h2 (hm' v hc) ((hF.later (Nat.le_succ n) fun m hlt => ext_lt hlt).read rfl ?_) (fun p hp => by
                      rcases List.mem_cons.1 hp with rfl | hp
                      · exact hlk
                      · exact hS p hp) (hf.put hmem)
                    intro ρ' hρ w' hw'
                    have e1 : ρ' n = v := by rw [hρ n (Nat.lt_succ_self n), ext_at]
                    have e2 : runOp P ρ' op w' = (execOp a.eval o).run P w' := by
                      unfold runOp
                      rw [he ρ' fun m hlt => by rw [hρ m (Nat.lt_succ_of_lt hlt), ext_lt hlt]]
                    simp only [e1] at hw'
                    rw [← e2]; exact hw'
          simp only [withSplit] at h
          cases hs : oneStep C ops env n o with
          | split y t =>
            rw [hs] at h
            simp only [splitting, Tr.sem] at h
            obtain ⟨b, hb, h1, h2⟩ := h
            have hm1 := hm.known (oneStep_split hs).1 hb
            cases b with
            | true => exact go _ hm1 (h1 rfl)
            | false => exact go _ hm1 (h2 rfl)
          | bad => rw [hs] at h; exact go env hm (by rw [hs]; exact h)
          | silent env' => rw [hs] at h; exact go env hm (by rw [hs]; exact h)
          | event op env' => rw [hs] at h; exact go env hm (by rw [hs]; exact h)
      | none =>
        rw [hp] at h
        simp only at h
        refine wpAnyF_all hr (by simp) fun i hi => ?_
        have h := alts_spec (i0 := i0) (rs := rs) h i hi
        cases ho : ops[i]? with
        | none => rw [ho] at h; exact h.elim
        | some o =>
          rw [ho] at h
          simp only at h
          have hmem : o ∈ ops.toList := Array.mem_toList_iff.2 (Array.mem_of_getElem? ho)
          have go : ∀ env1, Match N env1 ρ n a → (drawActs C n (Kf.shrink ops i Read.ix F) (fun env' n' F' => execDraw C ops fuel (listed.setIfInBounds i true) env' n' F' Kt) (oneStep C ops env1 n o)).sem P R Γ n ρ w →
              wpOp P ops Q i (fun a' w' => (∀ p ∈ Kf.shrink ops i Owes.ix FS, p.2 w') ∧ wpAnyF P ops Q fuel (listed.setIfInBounds i true) (Kf.shrink ops i Owes.ix FS) a' w') a w := by
            intro env1 hm1 h1
            have hsh : ∀ p ∈ Kf.shrink ops i Owes.ix FS, p.2 w := fun p hp => hS p (List.mem_filter.1 hp).1
            cases hs : oneStep C ops env1 n o with
            | bad => rw [hs] at h1; exact h1.elim
            | split y t => rw [hs] at h1; exact h1.elim
            | silent env' =>
              rw [hs] at h1
              obtain ⟨v, hy, hm'⟩ := oneStep_silent (P := P) hm1 hN hs
              exact hy.wpOp ho trivial ⟨hsh, execDraw_sound hN hsel hQ fuel _ env' n _ _ ρ w _ h1 hm' hF.shrink hsh (hf.put hmem)⟩
            | event op env' =>
              rw [hs] at h1
              obtain ⟨hw, he, hm'⟩ := oneStep_event hm1 hN hs
              simp only [drawActs, Tr.sem] at h1
              rw [Went.runOp_eq he] at h1
              unfold wpOp
              rw [ho]
              simp only
              rw [if_pos hw]
              refine .inl (went_wp h1 fun v w' hv => ?_)
              have hpaid : ∀ p ∈ Kf.shrink ops i Owes.ix FS, p.2 w' := hF.shrink.paid hv.2.1
              exact ⟨hpaid, execDraw_sound hN hsel hQ fuel _ env' (n + 1) _ _ _ w' _ hv.2.2 (hm' v hv.1) (hF.shrink.later (Nat.le_succ n) fun m hlt => ext_lt hlt) hpaid (hf.put hmem)⟩
          simp only [withSplit] at h
          cases hs : oneStep C ops env n o with
          | split y t =>
            rw [hs] at h
            simp only [splitting, Tr.sem] at h
            obtain ⟨b, hb, h1, h2⟩ := h
            have hm1 := hm.known (oneStep_split hs).1 hb
            cases b with
            | true => exact go _ hm1 (h1 rfl)
            | false => exact go _ hm1 (h2 rfl)
          | bad => rw [hs] at h; exact go env hm (by rw [hs]; exact h)
          | silent env' => rw [hs] at h; exact go env hm (by rw [hs]; exact h)
          | event op env' => rw [hs] at h; exact go env hm (by rw [hs]; exact h)

theorem Follows.of {k : List Item} {fnm : FuncId} (h : ∀ env' n' ρ' w' a', (Kt env' n').sem P R Γ n' ρ' w' → Match N env' ρ' n' a' → (∀ t, t ∉ dstsOf ops → a'.tmps.getD t undef = a.tmps.getD t undef) → Runs P fnm R k a' w') :
    Follows P R N Γ ops (fun e a' w' => e = .normal ∧ Runs P fnm R k a' w') Kt a := fun env' n' ρ' w' a' h1 h2 h3 => ⟨rfl, h env' n' ρ' w' a' h1 h2 h3⟩

/-- A region. -/
theorem runs_seq (hN : C.N = N) {id n : Nat} {env : Tri} {ρ : Nat → Value} {k : List Item} (h : (execSeq C ops ops.toList env n Kt).sem P R Γ n ρ w) (hm : Match N env ρ n a)
    (hk : ∀ env' n' ρ' w' a', (Kt env' n').sem P R Γ n' ρ' w' → Match N env' ρ' n' a' → (∀ t, t ∉ dstsOf ops → a'.tmps.getD t undef = a.tmps.getD t undef) → Runs P f R k a' w') :
    Runs P f R (.code (.region id ops false) :: k) a w :=
  .wp (wp_region_list (execSeq_sound hN _ env n ρ w a (fun _ h => h) h hm (.of hk)))

theorem runs_draw (hN : C.N = N) (hmix : P.follows .mixedOrders = true) {id n : Nat} {env : Tri} {ρ : Nat → Value} {k : List Item} (hsel : Region.noSelect ops = true)
    (h : (execDraw C ops ops.size (Array.replicate ops.size false) env n [] Kt).sem P R Γ n ρ { w with drawn := w.drawn + 1 }) (hm : Match N env ρ n a)
    (hk : ∀ env' n' ρ' w' a', (Kt env' n').sem P R Γ n' ρ' w' → Match N env' ρ' n' a' → (∀ t, t ∉ dstsOf ops → a'.tmps.getD t undef = a.tmps.getD t undef) → Runs P f R k a' w') :
    Runs P f R (.code (.region id ops true) :: k) a w :=
  .wp (wp_region_F hmix (execDraw_sound hN hsel (fun c a w hq => by cases hq.1) _ _ env n [] [] ρ _ a h hm (fun p hp => by cases hp) (fun p hp => by cases hp) (.of hk)))

theorem wpOp_step' {i : Nat} {o : Oper} {K : Act → World → Prop} {v : Value} {w' : World} (ho : ops[i]? = some o) (hg : o.guard = none) (hr : (execOp a.eval o).run P w = .ok (.value v) w') (hk : K (a.put o.dst v) w') :
    wpOp P ops Q i K a w := by
  unfold wpOp
  rw [ho]
  simp only
  rw [if_pos (by unfold Region.wanted; rw [hg])]
  refine .inl ?_
  unfold Oper.wp
  rw [hr]
  exact hk

theorem wpOp_skip' {i : Nat} {o : Oper} {K : Act → World → Prop} {w' : World} (ho : ops[i]? = some o) (hg : o.guard = none) (hr : (execOp a.eval o).run P w = .ok .skip w') (hk : K (a.put o.dst undef) w') :
    wpOp P ops Q i K a w := by
  unfold wpOp
  rw [ho]
  simp only
  rw [if_pos (by unfold Region.wanted; rw [hg])]
  refine .inl ?_
  unfold Oper.wp
  rw [hr]
  exact hk

theorem run_zero {t : TypeId} {v : Value} {s : Nat} (hi : (P.info? t).map (fun i => (i.zero, i.size)) = some (some v, s)) : (zeroValue t).run P w = .ok v w := by
  cases h : P.info? t with
  | none => rw [h] at hi; cases hi
  | some i =>
    rw [h] at hi
    simp only [Option.map_some, Option.some.injEq, Prod.mk.injEq] at hi
    simp [zeroValue, typeInfo, h, hi.1]

theorem run_size {t : TypeId} {v : Option Value} {s : Nat} (hi : (P.info? t).map (fun i => (i.zero, i.size)) = some (v, s)) : (sizeOf t).run P w = .ok s w := by
  cases h : P.info? t with
  | none => rw [h] at hi; cases hi
  | some i =>
    rw [h] at hi
    simp only [Option.map_some, Option.some.injEq, Prod.mk.injEq] at hi
    simp [sizeOf, typeInfo, h, hi.2]

theorem run_under {t : TypeId} {d : TypeDesc} (hu : P.underlying t = some d) : (underlying t).run P w = .ok d w := by
  simp [underlying, hu]

theorem setCell_new (w : World) (t : TypeId) (x v : Value) : (w.alloc (.cells #[x] t)).setCell ⟨w.heap.size, 0, none⟩ v = w.alloc (.cells #[v] t) := by
  have hsz : (w.heap.push (.cells #[x] t)).size = (w.heap.push (.cells #[v] t)).size := by simp
  unfold World.setCell World.alloc
  congr 1
  apply Array.ext
  · simp
  · intro i h1 h2
    simp only [Array.getElem_modify, Array.getElem_push]
    by_cases hi : i < w.heap.size
    · rw [if_neg (by omega), dif_pos hi, dif_pos hi]
    · have : i = w.heap.size := by simp at h1; omega
      rw [if_pos this.symm, dif_neg hi, dif_neg hi]
      rfl

theorem coin_core {t : TypeId} {d e : Tmp} {o0 o1 o2 o3 : Oper} (hmix : P.follows .mixedOrders = true) (hu : P.underlying t = some .bool) (hi : (P.info? t).map (fun i => (i.zero, i.size)) = some (some (.bool false), 1))
    (hd : d < a.tmps.size) (hsz : ops.size = 4) (h0 : ops[0]? = some o0) (h1 : ops[1]? = some o1) (h2 : ops[2]? = some o2) (h3 : ops[3]? = some o3)
    (g0 : o0.guard = none) (g1 : o1.guard = none) (g2 : o2.guard = none) (g3 : o3.guard = none) (d0 : o0.dst = some d) (d1 : o1.dst = none) (d2 : o2.dst = none) (d3 : o3.dst = some e)
    (p0 : o0.op = .alloc t) (p1 : o1.op = .store t (.tmp d) (.const (.bool true))) (p2 : o2.op = .store t (.tmp d) (.const (.bool false))) (p3 : o3.op = .load t (.tmp d))
    (r0 : Region.ready .any ops #[false, false, false, false] = [0]) (r1 : Region.ready .any ops #[true, false, false, false] = [1, 2]) (r2 : Region.ready .any ops #[true, true, false, false] = [2])
    (r3 : Region.ready .any ops #[true, false, true, false] = [1]) (r4 : Region.ready .any ops #[true, true, true, false] = [3]) (r5 : Region.ready .any ops #[true, true, true, true] = [])
    (hq : ∀ b a', a' = ((a.put (some d) (.pointer (some ⟨w.heap.size, 0, none⟩))).put (some e) (.bool b)) → Q .normal a' (coinWorld t b w)) {id : Nat} : (Code.region id ops true).wp P Q a w := by
  refine wp_region_any hmix ?_
  rw [hsz]
  have er : Array.replicate 4 false = #[false, false, false, false] := rfl
  rw [er]
  have hz : ∀ w : World, (zeroValue t).run P w = .ok (.bool false) w := fun w => run_zero hi
  have hs : ∀ w : World, (sizeOf t).run P w = .ok 1 w := fun w => run_size hi
  have hun : ∀ w : World, (underlying t).run P w = .ok .bool w := fun w => run_under hu
  let ptr : Value := .pointer (some ⟨w.heap.size, 0, none⟩)
  have e0 : (execOp a.eval o0).run P w.drew = .ok (.value ptr) (w.drew.alloc (.cells #[.bool false] t)) := by
    unfold execOp
    rw [p0]
    simp only [Instr.alloc, Sem.run_bind, hz, Result.andThen_ok, newVar, newRow, run_newObj, Sem.run_pure, Value.cells]
    rfl
  have ed : (a.put (some d) ptr).eval (.tmp d) = ptr := by
    simp [Act.eval, Act.put, hd]
  have hst : ∀ (b c : Bool), (storeVar t ⟨w.heap.size, 0, none⟩ (.bool b)).run P (w.drew.alloc (.cells #[.bool c] t)) = .ok () (w.drew.alloc (.cells #[.bool b] t)) := fun b c => by
    have hc : (w.drew.alloc (.cells #[.bool c] t)).cell? ⟨w.heap.size, 0, none⟩ = some (.bool c) := World.cell?_alloc_new w.drew #[.bool c] t 0
    have hb : (w.drew.alloc (.cells #[.bool c] t)).heap[w.heap.size]? = some (.cells #[.bool c] t) := by
      show (w.heap.push _)[w.heap.size]? = _
      simp
    have hf : (w.drew.alloc (.cells #[.bool c] t)).frozen? ⟨w.heap.size, 0, none⟩ = false := by
      unfold World.frozen?
      simp only [hb]
      rfl
    have h1 := run_store P (w.drew.alloc (.cells #[.bool c] t)) ⟨w.heap.size, 0, none⟩ (.bool b) .plain rfl
    rw [hc, hf] at h1
    simp only [Bool.false_eq_true, if_false] at h1
    have h2 : (w.drew.alloc (.cells #[.bool c] t)).setCell ⟨w.heap.size, 0, none⟩ (.bool b) = w.drew.alloc (.cells #[.bool b] t) := setCell_new w.drew t (.bool c) (.bool b)
    rw [h2] at h1
    unfold storeVar
    simp only [Sem.run_bind, hs, Result.andThen_ok]
    rw [if_neg (by simp [Value.cells])]
    show ((storeCells ⟨w.heap.size, 0, none⟩ [.bool b]).run P _) = _
    unfold storeCells
    simp only [Sem.run_bind]
    rw [show (Addr.add ⟨w.heap.size, 0, none⟩ 0) = (⟨w.heap.size, 0, none⟩ : Addr) from rfl, h1]
    rfl
  have est : ∀ (x : Oper) (b c : Bool), x.op = .store t (.tmp d) (.const (.bool b)) →
      (execOp (a.put (some d) ptr).eval x).run P (w.drew.alloc (.cells #[.bool c] t)) = .ok .skip (w.drew.alloc (.cells #[.bool b] t)) := fun x b c hx => by
    unfold execOp
    rw [hx]
    simp only [Sem.run_bind, Instr.storeAt, ed]
    show Result.andThen (Result.andThen ((pure (⟨w.heap.size, 0, none⟩ : Addr) : Sem Addr).run P _) _) _ = _
    simp only [Sem.run_pure, Result.andThen_ok]
    have := hst b c
    simp only [Act.eval]
    rw [this]
    rfl
  have eld : ∀ b : Bool, (execOp (a.put (some d) ptr).eval o3).run P (w.drew.alloc (.cells #[.bool b] t)) = .ok (.value (.bool b)) (w.drew.alloc (.cells #[.bool b] t)) := fun b => by
    have hc : (w.drew.alloc (.cells #[.bool b] t)).cell? ⟨w.heap.size, 0, none⟩ = some (.bool b) := World.cell?_alloc_new w.drew #[.bool b] t 0
    unfold execOp
    rw [p3]
    simp only [Sem.run_bind, Instr.loadAt, ed]
    show Result.andThen (Result.andThen ((pure (⟨w.heap.size, 0, none⟩ : Addr) : Sem Addr).run P _) _) _ = _
    simp only [Sem.run_pure, Result.andThen_ok, loadVar, isAgg, Sem.run_bind, hun]
    simp only [Bool.false_eq_true, if_false, run_load, hc]
    rfl
  refine wpAny_all r0 (by simp) fun i hi => ?_
  obtain rfl : i = 0 := by simpa using hi
  refine wpOp_step' h0 g0 e0 ?_
  rw [d0]
  have hq' : ∀ b fuel, wpAny P .any ops Q (fuel + 1) #[true, true, true, false] (a.put (some d) ptr) (w.drew.alloc (.cells #[.bool b] t)) := fun b fuel => by
    refine wpAny_all r4 (by simp) fun i hi => ?_
    obtain rfl : i = 3 := by simpa using hi
    refine wpOp_step' h3 g3 (eld b) ?_
    rw [d3]
    exact wpAny_done r5 (hq b _ rfl) _
  refine wpAny_all r1 (by simp) fun i hi => ?_
  have hi' : i = 1 ∨ i = 2 := by simpa using hi
  rcases hi' with rfl | rfl
  · refine wpOp_skip' h1 g1 (est o1 true false p1) ?_
    rw [d1]
    refine wpAny_all r2 (by simp) fun i hi => ?_
    obtain rfl : i = 2 := by simpa using hi
    refine wpOp_skip' h2 g2 (est o2 false true p2) ?_
    rw [d2]
    exact hq' false _
  · refine wpOp_skip' h2 g2 (est o2 false false p2) ?_
    rw [d2]
    refine wpAny_all r3 (by simp) fun i hi => ?_
    obtain rfl : i = 1 := by simpa using hi
    refine wpOp_skip' h1 g1 (est o1 true false p1) ?_
    rw [d1]
    exact hq' true _

theorem runs_coin (hmix : P.follows .mixedOrders = true) {id n : Nat} {env e1 e2 : Tri} {ρ : Nat → Value} {k : List Item} {t : TypeId} {d e : Tmp} (hc : coin ops = some (t, d, e)) (hd : d < C.N) (hnone : env.get d = none)
    (hu : P.underlying t = some .bool) (hi : (P.info? t).map (fun i => (i.zero, i.size)) = some (some (.bool false), 1)) (hm : Match C.N env ρ n a)
    (hs1 : setDst C env (some e) (.const (.bool true)) = some e1) (hs2 : setDst C env (some e) (.const (.bool false)) = some e2)
    (h1 : ∀ a', Match C.N e1 ρ n a' → (∀ t, t ∉ dstsOf ops → a'.tmps.getD t undef = a.tmps.getD t undef) → Runs P f R k a' (coinWorld t true w))
    (h2 : ∀ a', Match C.N e2 ρ n a' → (∀ t, t ∉ dstsOf ops → a'.tmps.getD t undef = a.tmps.getD t undef) → Runs P f R k a' (coinWorld t false w)) :
    Runs P f R (.code (.region id ops true) :: k) a w := by
  obtain ⟨l⟩ := ops
  unfold coin at hc
  simp only at hc
  split at hc
  · rw [Bool.cond_eq_ite] at hc
    split at hc
    · rename_i hb
      simp only [Bool.and_eq_true, beq_iff_eq] at hb
      simp only [Option.some.injEq, Prod.mk.injEq] at hc
      obtain ⟨rfl, rfl, rfl⟩ := hc
      obtain ⟨⟨⟨⟨⟨⟨⟨⟨⟨⟨⟨q1, q2⟩, q3⟩, q4⟩, q5⟩, q6⟩, r0⟩, r1⟩, r2⟩, r3⟩, r4⟩, r5⟩ := hb
      have q1 := Nat.eq_of_beq_eq_true q1
      have q2 := Nat.eq_of_beq_eq_true q2
      have q3 := Nat.eq_of_beq_eq_true q3
      have q4 := Nat.eq_of_beq_eq_true q4
      have q5 := Nat.eq_of_beq_eq_true q5
      have q6 := Nat.eq_of_beq_eq_true q6
      subst q1 q2 q3 q4 q5 q6
      refine .wp (coin_core hmix hu hi (by rw [hm.size]; exact hd) rfl rfl rfl rfl rfl rfl rfl rfl rfl rfl rfl rfl rfl rfl rfl rfl rfl r0 r1 r2 r3 r4 r5 fun b a' ha => ⟨rfl, ?_⟩)
      have hput : ∀ (x : Act) (s : Tmp) (v : Value) (u : Tmp), u ≠ s → (x.put (some s) v).tmps.getD u undef = x.tmps.getD u undef := fun x s v u hne => by
        simp [Act.put, Array.getElem?_setIfInBounds_ne (Ne.symm hne)]
      have hm1 : ∀ v, Match C.N env ρ n (a.put (some _) v) := fun v => ⟨by simp [Act.put, hm.size], hm.defs, fun u x hx => by
        rw [hput _ _ _ _ (fun e => by rw [e, hnone] at hx; cases hx)]
        exact hm.val u x hx, hm.below⟩
      have hother : ∀ (x y : Tmp) v u s, s ≠ x → s ≠ y → ((a.put (some x) v).put (some y) u).tmps.getD s undef = a.tmps.getD s undef := fun x y v u s hx hy => by
        rw [hput _ _ _ _ hy, hput _ _ _ _ hx]
      subst ha
      cases b with
      | true => exact h1 _ ((hm1 _).set hs1 rfl (Nat.le_refl _) (fun _ _ => rfl) trivial rfl) fun s hs => hother _ _ _ _ s (fun e => hs (by rw [e]; simp [dstsOf])) (fun e => hs (by rw [e]; simp [dstsOf]))
      | false => exact h2 _ ((hm1 _).set hs2 rfl (Nat.le_refl _) (fun _ _ => rfl) trivial rfl) fun s hs => hother _ _ _ _ s (fun e => hs (by rw [e]; simp [dstsOf])) (fun e => hs (by rw [e]; simp [dstsOf]))
    · cases hc
  · cases hc

end

end Go.Kf

namespace Go.Kf

open Go

section

variable {P : Program} {f : FuncId} {R : Value → World → Prop} {fn : Func} {C : Cfg}

theorem runs_ret (hf : P.funcs[f]? = some fn) (hr : C.results = fn.results.toList) {Γ : List (List Value → World → Prop)} {n : Nat} {env : Tri} {ρ : Nat → Value} {a : Act} {w : World} {k : List Item}
    (h : (mkRet C env).sem P R Γ n ρ w) (hm : Match C.N env ρ n a) : Runs P f R (.code .ret :: k) a w := fun cs => by
  unfold mkRet at h
  cases hrs : retOf env C.results with
  | none => rw [hrs] at h; exact h.elim
  | some rs =>
    rw [hrs] at h
    obtain ⟨vs, hv, hR⟩ := h
    rw [hr] at hrs
    exact ⟨oneOf vs, w, _, hR, .one step_ret, rfl, rfl, hm.defs, rfl, fn, hf, results_run hm hrs hv⟩

theorem runs_end (hf : P.funcs[f]? = some fn) (hr : C.results = fn.results.toList) {Γ : List (List Value → World → Prop)} {n : Nat} {env : Tri} {ρ : Nat → Value} {a : Act} {w : World}
    (h : (mkRet C env).sem P R Γ n ρ w) (hm : Match C.N env ρ n a) : Runs P f R [] a w := fun cs => by
  unfold mkRet at h
  cases hrs : retOf env C.results with
  | none => rw [hrs] at h; exact h.elim
  | some rs =>
    rw [hrs] at h
    obtain ⟨vs, hv, hR⟩ := h
    rw [hr] at hrs
    exact ⟨oneOf vs, w, _, hR, .one step_end, rfl, rfl, hm.defs, rfl, fn, hf, results_run hm hrs hv⟩

variable {Γ : List (List Value → World → Prop)}

theorem runs_to {i : KI} {K : List KI} {S : List (Nat → Value)} {l : Nat} {sl : List Tmp} {n0 n : Nat} {env0 env : Tri} {ρ : Nat → Value} {a : Act} {w : World}
    (hmk : markSlots i = some (l, sl, n0, env0)) (h : (mkTo env l sl).sem P R Γ n ρ w) (hm : Match C.N env ρ n a) (hh : Holds P f R C.N Γ (i :: K) S) (hs : Stays (i :: K) S a) :
    Runs P f R (strip (i :: K)) a w := by
  unfold mkTo at h
  cases hx : lookAll env (sl.map Operand.tmp) with
  | none => rw [hx] at h; exact h.elim
  | some xs =>
    rw [hx] at h
    obtain ⟨p, hp, hv⟩ := h
    unfold Holds at hh
    unfold Stays at hs
    rw [hmk] at hh hs
    cases S with
    | nil => exact hh.elim
    | cons ρ0 S =>
      obtain ⟨⟨hb, q, hq, hrun⟩, _⟩ := hh
      obtain rfl : p = q := Option.some.inj (hp.symm.trans hq)
      exact hrun (xs.map (ev ρ)) w a (by simpa using lookAll_len _ _ hx) hv (hm.many hx hb hs.1) (by unfold Stays; rw [hmk]; exact hs)

theorem Holds.code {c : Code} {K : List KI} {S : List (Nat → Value)} {N : Nat} : Holds P f R N Γ (.code c :: K) S ↔ Holds P f R N Γ K S := Iff.rfl

theorem Stays.code {c : Code} {K : List KI} {S : List (Nat → Value)} {a : Act} : Stays (.code c :: K) S a ↔ Stays K S a := Iff.rfl

theorem FreeOf.carried {env : Tri} {K : List KI} {i : KI} {l n0 : Nat} {W : List Tmp} {t : Tmp} (hmk : markSlots i = some (l, Kf.carried env W [], n0, env)) (ht : t ∈ W) (hK : FreeOf K t) : FreeOf (i :: K) t := by
  refine ⟨?_, hK⟩
  rw [hmk]
  by_cases h : env.get t = none
  · exact .inl h
  · exact .inr (carried_spec W [] (.inl ⟨ht, h⟩))

theorem exec_sound (hf : P.funcs[f]? = some fn) (hr : C.results = fn.results.toList) (hmix : P.follows .mixedOrders = true) :
    ∀ (fuel : Nat) (K : List KI) (S : List (Nat → Value)) (Γ : List (List Value → World → Prop)) (env : Tri) (d n : Nat) (ρ : Nat → Value) (w : World) (a : Act), Γ.length = d →
      (exec C fuel K env d n).sem P R Γ n ρ w → Match C.N env ρ n a → Holds P f R C.N Γ K S → Stays K S a → Safe K → Runs P f R (strip K) a w
  | 0, _, _, _, _, _, _, _, _, _, _, h, _, _, _, _ => h.elim
  | _ + 1, [], _, _, _, _, _, _, _, _, _, h, hm, _, _, _ => runs_end hf hr h hm
  | fuel + 1, .blk _ :: K, S, Γ, env, d, n, ρ, w, a, hd, h, hm, hh, hs, hsf =>
    .step (fun _ => step_inBlock) (exec_sound hf hr hmix fuel K S Γ env d n ρ w a hd h hm hh hs hsf.2)
  | fuel + 1, .scp _ :: K, S, Γ, env, d, n, ρ, w, a, hd, h, hm, hh, hs, hsf =>
    .step (fun _ => step_inScope) (exec_sound hf hr hmix fuel K S Γ env d n ρ w a hd h hm hh hs hsf.2)
  | _ + 1, .jn l sl n0 env0 :: K, S, Γ, env, d, n, ρ, w, a, _, h, hm, hh, hs, _ => runs_to (i := .jn l sl n0 env0) rfl h hm hh hs
  | _ + 1, .lp b l sl n0 env0 :: K, S, Γ, env, d, n, ρ, w, a, _, h, hm, hh, hs, _ => runs_to (i := .lp b l sl n0 env0) rfl h hm hh hs
  | fuel + 1, .code c :: K, S, Γ, env, d, n, ρ, w, a, hd, h, hm, hh, hs, hsf => by
    have hh' : Holds P f R C.N Γ K S := hh
    have hs' : Stays K S a := hs
    have ih := exec_sound hf hr hmix fuel
    cases c with
    | skip => exact .step (fun _ => step_skip) (ih K S Γ env d n ρ w a hd h hm hh' hs' hsf.2)
    | label l => exact .step (fun _ => step_label) (ih K S Γ env d n ρ w a hd h hm hh' hs' hsf.2)
    | ret => exact runs_ret hf hr h hm
    | refuse why => exact h.elim
    | rangeFunc f ps qs b => exact h.elim
    | seq x y =>
      refine .step (fun _ => step_seq) (ih (.code x :: .code y :: K) S Γ env d n ρ w a hd h hm hh' hs' ⟨fun t ht => ⟨trivial, hsf.1 t ?_⟩, fun t ht => hsf.1 t ?_, hsf.2⟩)
      · exact List.mem_append.2 (.inl ht)
      · exact List.mem_append.2 (.inr ht)
    | block id b => exact .step (fun _ => step_block) (ih (.code b :: .blk id :: K) S Γ env d n ρ w a hd h hm hh' hs' ⟨fun t ht => ⟨trivial, hsf.1 t ht⟩, (fun t ht => (by cases ht)), hsf.2⟩)
    | scope b => exact .step (fun _ => step_scope) (ih (.code b :: .scp b :: K) S Γ env d n ρ w a hd h hm hh' hs' ⟨fun t ht => ⟨trivial, hsf.1 t ht⟩, fun t ht => hsf.1 t ht, hsf.2⟩)
    | exit id =>
      simp only [exec] at h
      cases hx : exitK id K with
      | none => rw [hx] at h; exact h.elim
      | some K' =>
        rw [hx] at h
        obtain ⟨S', h1, h2, h3⟩ := exitK_keeps id K K' S hx hh' hs' hsf.2
        exact .step (fun _ => step_exit (exitK_strip id K K' hx)) (ih K' S' Γ env d n ρ w a hd h hm h1 h2 h3)
    | goto l =>
      simp only [exec] at h
      cases hx : gotoK l K with
      | none => rw [hx] at h; exact h.elim
      | some K' =>
        rw [hx] at h
        obtain ⟨S', h1, h2, h3⟩ := gotoK_keeps l K K' S hx hh' hs' hsf.2
        exact .step (fun _ => step_goto (gotoK_strip l K K' hx)) (ih K' S' Γ env d n ρ w a hd h hm h1 h2 h3)
    | region id ops draw =>
      simp only [exec] at h
      have hst : ∀ a' : Act, (∀ t, t ∉ dstsOf ops → a'.tmps.getD t undef = a.tmps.getD t undef) → Stays K S a' := fun a' he => Stays.change (dstsOf ops) hs' hsf.1 he
      cases draw with
      | false => exact runs_seq rfl h hm fun env' n' ρ' w' a' h1 h2 h3 => ih K S Γ env' d n' ρ' w' a' hd h1 h2 hh' (hst a' h3) hsf.2
      | true =>
        simp only at h
        cases hsel : Region.noSelect ops with
        | false => rw [hsel] at h; exact h.elim
        | true =>
          rw [hsel] at h
          simp only at h
          cases hcn : coin ops with
          | none =>
            rw [hcn] at h
            exact runs_draw rfl hmix hsel h hm fun env' n' ρ' w' a' h1 h2 h3 => ih K S Γ env' d n' ρ' w' a' hd h1 h2 hh' (hst a' h3) hsf.2
          | some te =>
            obtain ⟨t, s, e⟩ := te
            rw [hcn] at h
            simp only at h
            cases hb : Nat.blt s C.N && (env.get s).isNone with
            | false => rw [hb] at h; exact h.elim
            | true =>
              cases hs1 : setDst C env (some e) (.const (.bool true)) with
              | none => rw [hb, hs1] at h; exact h.elim
              | some e1 =>
                cases hs2 : setDst C env (some e) (.const (.bool false)) with
                | none => rw [hb, hs1, hs2] at h; exact h.elim
                | some e2 =>
                  rw [hb, hs1, hs2] at h
                  obtain ⟨hu, hi, h1, h2⟩ := h
                  rw [Bool.and_eq_true, Option.isNone_iff_eq_none] at hb
                  refine runs_coin hmix hcn (Nat.blt_eq ▸ hb.1) hb.2 hu hi hm hs1 hs2 (fun a' hm' he => ?_) fun a' hm' he => ?_
                  · exact ih K S Γ e1 d n ρ _ a' hd h1 hm' hh' (hst a' he) hsf.2
                  · exact ih K S Γ e2 d n ρ _ a' hd h2 hm' hh' (hst a' he) hsf.2
    | cond x t e =>
      have sub : ∀ (b : Bool), ∀ s ∈ writes (if b then t else e), FreeOf K s := fun b s hs => hsf.1 s (by
        cases b
        · exact List.mem_append.2 (.inr hs)
        · exact List.mem_append.2 (.inl hs))
      simp only [exec] at h
      split at h
      · rename_i b hx
        refine .step (k' := .code (if b then t else e) :: strip K) (fun _ => step_cond (t := b) (hm.look hx)) ?_
        have hb : (bif b then t else e) = if b then t else e := by cases b <;> rfl
        rw [hb] at h
        exact ih (.code (if b then t else e) :: K) S Γ env d n ρ w a hd h hm hh' hs' ⟨sub b, hsf.2⟩
      · rename_i y hx
        cases hends : ends t || ends e with
        | true =>
          rw [hends] at h
          obtain ⟨b, hb, h1, h2⟩ := h
          have hev : a.eval x = .bool b := (hm.look hx).trans hb
          refine .step (k' := .code (if b then t else e) :: strip K) (fun _ => step_cond (t := b) hev) ?_
          refine ih (.code (if b then t else e) :: K) S Γ env d n ρ w a hd ?_ hm hh' hs' ⟨sub b, hsf.2⟩
          cases b
          · exact h2 rfl
          · exact h1 rfl
        | false =>
          rw [hends] at h
          simp only at h
          cases hab : allBelow C.N (carried env (writes t ++ writes e) []) with
          | false => rw [hab] at h; exact h.elim
          | true =>
            rw [hab] at h
            obtain ⟨hl, J, ⟨b, hb, h1, h2⟩, h3⟩ := h
            have hev : a.eval x = .bool b := (hm.look hx).trans hb
            refine .step (k' := .code (if b then t else e) :: strip K) (fun _ => step_cond (t := b) hev) ?_
            have hS : Stays (.jn d (carried env (writes t ++ writes e) []) n env :: K) (ρ :: S) a := ⟨fun s z hz _ => hm.val s z hz, hs'⟩
            have hH : Holds P f R C.N (Γ ++ [J]) (.jn d (carried env (writes t ++ writes e) []) n env :: K) (ρ :: S) := by
              refine ⟨⟨hm.below, J, by rw [hl]; simp, fun vs w' a' hlen hJ hm' hs1 => ?_⟩, hh'.more⟩
              exact ih K S Γ _ d _ _ w' a' hd (h3 vs w' hlen hJ) hm' hh' hs1.2 hsf.2
            have hF : ∀ s ∈ writes (if b then t else e), FreeOf (.jn d (carried env (writes t ++ writes e) []) n env :: K) s := fun s hs =>
              FreeOf.carried (W := writes t ++ writes e) rfl (by
                cases b
                · exact List.mem_append.2 (.inr hs)
                · exact List.mem_append.2 (.inl hs)) (sub b s hs)
            refine ih (.code (if b then t else e) :: .jn d (carried env (writes t ++ writes e) []) n env :: K) (ρ :: S) (Γ ++ [J]) env (d + 1) n ρ w a (by simp [hd]) ?_ hm hH hS ⟨hF, fun s hs => (by cases hs), hsf.2⟩
            cases b
            · exact h2 rfl
            · exact h1 rfl
      · exact h.elim
    | loop b =>
      simp only [exec] at h
      cases hab : allBelow C.N (carried env (writes b) []) with
      | false => rw [hab] at h; exact h.elim
      | true =>
        rw [hab] at h
        simp only at h
        cases hx : lookAll env ((carried env (writes b) []).map Operand.tmp) with
        | none => rw [hx] at h; exact h.elim
        | some xs =>
          rw [hx] at h
          obtain ⟨hl, I, μ, hI, hround⟩ := h
          have hlen : xs.length = (carried env (writes b) []).length := by simpa using lookAll_len _ _ hx
          -- each round, by the measure
          have key : ∀ (m : Nat) (vs : List Value) (w : World) (a' : Act), μ vs w = m → vs.length = (carried env (writes b) []).length → I vs w →
              Match C.N (setMany env (carried env (writes b) []) n) (ext ρ n vs) (n + (carried env (writes b) []).length) a' →
              Stays (.lp b d (carried env (writes b) []) n env :: K) (ρ :: S) a' → Runs P f R (.code b :: .inLoop b :: strip K) a' w := by
            intro m
            induction m using Nat.strongRecOn with
            | _ m ihm =>
              intro vs w1 a1 hm0 hvl hI1 hm1 hst
              have hsem := hround vs w1 (by rw [hvl, hlen]) hI1
              rw [hlen] at hsem
              have hH : Holds P f R C.N (Γ ++ [fun vs' w'' => I vs' w'' ∧ μ vs' w'' < μ vs w1]) (.lp b d (carried env (writes b) []) n env :: K) (ρ :: S) := by
                refine ⟨⟨hm.below, fun vs' w'' => I vs' w'' ∧ μ vs' w'' < μ vs w1, by rw [hl]; simp, fun vs' w' a' hlen' hJ hm' hs2 => ?_⟩, hh'.more⟩
                exact .step (k' := .code b :: .inLoop b :: strip K) (fun _ => step_inLoop) (ihm (μ vs' w') (hm0 ▸ hJ.2) vs' w' a' rfl hlen' hJ.1 hm' hs2)
              have hF : ∀ s ∈ writes b, FreeOf (.lp b d (carried env (writes b) []) n env :: K) s := fun s hs => FreeOf.carried (W := writes b) rfl hs (hsf.1 s hs)
              exact ih (.code b :: .lp b d (carried env (writes b) []) n env :: K) (ρ :: S) _ _ (d + 1) _ _ w1 a1 (by simp [hd]) hsem hm1 hH hst ⟨hF, fun s hs => (by cases hs), hsf.2⟩
          refine .step (k' := .code b :: .inLoop b :: strip K) (fun _ => step_loop) ?_
          refine key _ (xs.map (ev ρ)) w a rfl (by simpa using hlen) hI (hm.many hx hm.below fun t x ht _ => hm.val t x ht) ⟨fun t x ht _ => hm.val t x ht, hs'⟩

/-- The parameters' slots at the beginning: what they hold, by name or by value. -/
def params : List Operand → Nat → Tri → Tri
  | [], _, e => e
  | x :: r, i, e => params r (i + 1) (e.set i x)

theorem params_get : ∀ (xs : List Operand) (i : Nat) (e : Tri) (t : Nat) (x : Operand), (params xs i e).get t = some x → (∃ j, xs[j]? = some x ∧ t = i + j) ∨ e.get t = some x
  | [], _, _, _, _, h => .inr h
  | y :: r, i, e, t, x, h => by
    rcases params_get r (i + 1) _ t x h with ⟨j, hj, rfl⟩ | h1
    · exact .inl ⟨j + 1, by simpa using hj, by omega⟩
    · rcases Tri.get_set h1 with ⟨rfl, rfl⟩ | ⟨_, h2⟩
      · exact .inl ⟨0, by simp, by simp⟩
      · exact .inr h2

/-- A function's tree. -/
def treeOf (fn : Func) (orc : Nat → Option Value) (ps : List Operand) (n : Nat) : Tr := match fn.body with
  | some c => exec ⟨fn.ntmps, fn.results.toList, orc⟩ 100000 [.code c] (params ps 0 .nil) 0 n
  | none => .stuck

theorem calls_of_tree {args : Array Value} {w : World} {orc : Nat → Option Value} {ps : List Operand} {n : Nat} {ρ : Nat → Value} (hf : P.funcs[f]? = some fn) (hmix : P.follows .mixedOrders = true)
    (hn : args.size ≤ fn.ntmps) (hp : ps.map (ev ρ) = args.toList) (hb : ∀ x ∈ ps, opBelow n x) (h : (treeOf fn orc ps n).sem P R [] n ρ w) :
    Calls P f args w fun e w' => match e with
      | .returned v => R v w'
      | _ => False := by
  unfold treeOf at h
  cases hbody : fn.body with
  | none => rw [hbody] at h; exact h.elim
  | some c =>
    rw [hbody] at h
    refine calls_of_runs hf hbody ?_
    refine exec_sound (C := ⟨fn.ntmps, fn.results.toList, orc⟩) hf rfl hmix 100000 [.code c] [] [] _ 0 n ρ w _ rfl h ?_ trivial trivial ⟨fun _ _ => trivial, trivial⟩
    have hget : ∀ t x, (params ps 0 .nil).get t = some x → ps[t]? = some x := fun t x hx => by
      rcases params_get ps 0 .nil t x hx with ⟨j, hj, rfl⟩ | h1
      · simpa using hj
      · exact absurd h1 (by simp [Tri.get, Tri.getAt_nil])
    refine ⟨by simp; omega, rfl, fun t x hx => ?_, fun t x hx => hb x (List.mem_of_getElem? (hget t x hx))⟩
    have h1 := hget t x hx
    have h2 : args.toList[t]? = some (ev ρ x) := by rw [← hp, List.getElem?_map, h1]; rfl
    have h3 : args[t]? = some (ev ρ x) := by simpa using h2
    have h4 : t < args.size := (Array.getElem?_eq_some_iff.1 h3).1
    show (args ++ Array.replicate (fn.ntmps - args.size) undef).getD t undef = ev ρ x
    rw [Array.getD_eq_getD_getElem?, Array.getElem?_append_left h4, h3]
    rfl

end

end Go.Kf


namespace Go.Kf

open Go

/-- Block b holds these cells, and none of them is frozen. -/
def Has (w : World) (b : Nat) (cs : List Value) : Prop := ∃ t fr, w.heap[b]? = some (.cells ⟨cs⟩ t fr) ∧ (fr.2 ≤ fr.1 ∨ cs.length ≤ fr.1)

/-- But for the blocks listed, what was there is as it was. -/
structure Keeps (M : List Nat) (w w' : World) : Prop where
  os : w'.os = w.os
  tape : w'.tape = w.tape
  output : w'.output = w.output
  size : w.heap.size ≤ w'.heap.size
  block : ∀ k, k < w.heap.size → k ∉ M → w'.heap[k]? = w.heap[k]?

theorem Keeps.refl {M : List Nat} {w : World} : Keeps M w w := ⟨rfl, rfl, rfl, Nat.le_refl _, fun _ _ _ => rfl⟩

theorem Keeps.trans {M : List Nat} {a b c : World} (h : Keeps M a b) (k : Keeps M b c) : Keeps M a c :=
  ⟨k.os.trans h.os, k.tape.trans h.tape, k.output.trans h.output, Nat.le_trans h.size k.size, fun i hi hm => (k.block i (Nat.lt_of_lt_of_le hi h.size) hm).trans (h.block i hi hm)⟩

theorem Keeps.mono {M M' : List Nat} {w w' : World} (h : Keeps M w w') (hs : ∀ x ∈ M, x ∈ M') : Keeps M' w w' :=
  ⟨h.os, h.tape, h.output, h.size, fun k hk hm => h.block k hk fun e => hm (hs k e)⟩

/-- A block that did not stand at the beginning may be left out. -/
theorem Keeps.less {M M' : List Nat} {w w' : World} (h : Keeps M w w') (hs : ∀ x ∈ M, x ∈ M' ∨ w.heap.size ≤ x) : Keeps M' w w' :=
  ⟨h.os, h.tape, h.output, h.size, fun k hk hm => h.block k hk fun e => (hs k e).elim hm fun hle => by omega⟩

theorem Has.lt {w : World} {b : Nat} {cs : List Value} (h : Has w b cs) : b < w.heap.size := by
  obtain ⟨t, fr, hb, _⟩ := h
  exact (Array.getElem?_eq_some_iff.1 hb).1

theorem Has.keep {M : List Nat} {w w' : World} {b : Nat} {cs : List Value} (h : Has w b cs) (hk : Keeps M w w') (hm : b ∉ M) : Has w' b cs := by
  have hlt := h.lt
  obtain ⟨t, fr, hb, hf⟩ := h
  exact ⟨t, fr, by rw [hk.block b hlt hm]; exact hb, hf⟩

theorem Has.cell {w : World} {b i : Nat} {cs : List Value} {v : Value} (h : Has w b cs) (hi : cs[i]? = some v) : w.cell? ⟨b, i, none⟩ = some v := by
  obtain ⟨t, fr, hb, _⟩ := h
  unfold World.cell?
  simp only [hb]
  simpa using hi

theorem Has.unfrozen {w : World} {b i : Nat} {cs : List Value} (h : Has w b cs) (hi : i < cs.length) : w.frozen? ⟨b, i, none⟩ = false := by
  obtain ⟨t, fr, hb, hf⟩ := h
  unfold World.frozen?
  simp only [hb]
  rcases hf with hf | hf
  · simp; omega
  · simp; omega

theorem Has.inj {w : World} {b : Nat} {cs cs' : List Value} (h : Has w b cs) (h' : Has w b cs') : cs = cs' := by
  obtain ⟨t, fr, hb, _⟩ := h
  obtain ⟨t', fr', hb', _⟩ := h'
  rw [hb] at hb'
  simp only [Option.some.injEq, Obj.cells.injEq, Array.mk.injEq] at hb'
  exact hb'.1

theorem keeps_alloc (w : World) (o : Obj) (M : List Nat) : Keeps M w { w with heap := w.heap.push o } :=
  ⟨rfl, rfl, rfl, by simp, fun k hk _ => by
    show (w.heap.push o)[k]? = _
    rw [Array.getElem?_push, if_neg (by omega)]⟩

theorem has_alloc (w : World) (cs : List Value) (t : TypeId) : Has { w with heap := w.heap.push (.cells ⟨cs⟩ t) } w.heap.size cs :=
  ⟨t, (0, 0), by simp, .inl (Nat.le_refl _)⟩

theorem keeps_drawn (w : World) (M : List Nat) (n : Nat) : Keeps M w { w with drawn := n } := ⟨rfl, rfl, rfl, Nat.le_refl _, fun _ _ _ => rfl⟩

theorem Has.drawn {w : World} {b n : Nat} {cs : List Value} (h : Has w b cs) : Has { w with drawn := n } b cs := h

def splice (cs : List Value) (o : Nat) (vs : List Value) : List Value := cs.take o ++ vs ++ cs.drop (o + vs.length)

theorem splice_length {cs vs : List Value} {o : Nat} (h : o + vs.length ≤ cs.length) : (splice cs o vs).length = cs.length := by
  simp [splice]; omega

theorem splice_nil (cs : List Value) (o : Nat) : splice cs o [] = cs := by simp [splice]

theorem splice_cons {cs : List Value} {o : Nat} {v : Value} {vs : List Value} (h : o < cs.length) : splice (cs.set o v) (o + 1) vs = splice cs o (v :: vs) := by
  unfold splice
  have h1 : (cs.set o v).take (o + 1) = cs.take o ++ [v] := by
    rw [List.take_set, List.take_succ_eq_append_getElem (by simpa using h)]
    rw [List.set_append_right _ _ (by simp; omega)]
    simp
    rw [show o - min o cs.length = 0 by omega]
    rfl
  have h2 : (cs.set o v).drop (o + 1 + vs.length) = cs.drop (o + (v :: vs).length) := by
    rw [List.drop_set_of_lt (by omega)]
    congr 1
    simp; omega
  rw [h1, h2]
  simp

theorem setCell_keeps (w : World) (b i : Nat) (v : Value) : Keeps [b] w (w.setCell ⟨b, i, none⟩ v) :=
  ⟨rfl, rfl, rfl, by simp [World.setCell], fun k _ hm => by
    simp only [World.setCell, Array.getElem?_modify]
    rw [if_neg (fun e => hm (by simp [e]))]⟩

theorem Has.setCell {w : World} {b i : Nat} {cs : List Value} {v : Value} (h : Has w b cs) : Has (w.setCell ⟨b, i, none⟩ v) b (cs.set i v) := by
  obtain ⟨t, fr, hb, hf⟩ := h
  refine ⟨t, fr, ?_, by simpa using hf⟩
  simp only [World.setCell, Array.getElem?_modify, hb]
  simp

theorem storeCells_run {P : Program} : ∀ (vs : List Value) (w : World) (b o i : Nat) (cs : List Value), Has w b cs → o + i + vs.length ≤ cs.length → (∀ v ∈ vs, v.oneCell' = true) →
    ∃ w', (storeCells ⟨b, o, none⟩ vs i).run P w = .ok () w' ∧ Has w' b (splice cs (o + i) vs) ∧ Keeps [b] w w'
  | [], w, b, o, i, cs, h, _, _ => ⟨w, rfl, by rw [splice_nil]; exact h, .refl⟩
  | v :: vs, w, b, o, i, cs, h, hl, hv => by
    simp only [List.length_cons] at hl
    have hlt : o + i < cs.length := by omega
    have hadd : Addr.add ⟨b, o, none⟩ i = ⟨b, o + i, none⟩ := by
      unfold Addr.add
      split
      · rename_i h0; simp [h0]
      · rfl
    have h1 := run_store P w ⟨b, o + i, none⟩ v .plain (hv v List.mem_cons_self)
    rw [h.cell (List.getElem?_eq_getElem hlt), h.unfrozen hlt] at h1
    simp only [Bool.false_eq_true, if_false] at h1
    obtain ⟨w', h2, h3, h4⟩ := storeCells_run vs (w.setCell ⟨b, o + i, none⟩ v) b o (i + 1) (cs.set (o + i) v) h.setCell (by simp; omega) fun x hx => hv x (List.mem_cons_of_mem _ hx)
    refine ⟨w', ?_, ?_, (setCell_keeps w b (o + i) v).trans h4⟩
    · unfold storeCells
      simp only [Sem.run_bind, hadd, h1, Result.andThen_ok]
      exact h2
    · rw [← Nat.add_assoc, splice_cons hlt] at h3
      exact h3

theorem loadCellsFrom_run {P : Program} {w : World} {b : Nat} {cs : List Value} (h : Has w b cs) : ∀ (n o i : Nat) (acc : Array Value), o + i + n ≤ cs.length →
    (loadCellsFrom ⟨b, o, none⟩ i n acc).run P w = .ok (acc ++ (⟨(cs.drop (o + i)).take n⟩ : Array Value)) w
  | 0, o, i, acc, _ => by simp [loadCellsFrom]
  | n + 1, o, i, acc, hl => by
    have hlt : o + i < cs.length := by omega
    have hadd : Addr.add ⟨b, o, none⟩ i = ⟨b, o + i, none⟩ := by
      unfold Addr.add
      split
      · rename_i h0; simp [h0]
      · rfl
    unfold loadCellsFrom
    simp only [Sem.run_bind, hadd, run_load, h.cell (List.getElem?_eq_getElem hlt), Result.andThen_ok]
    rw [loadCellsFrom_run h n o (i + 1) _ (by omega)]
    congr 1
    apply Array.ext'
    rw [List.drop_eq_getElem_cons hlt]
    simp [Nat.add_assoc]

theorem loadCells_run {P : Program} {w : World} {b n o : Nat} {cs : List Value} (h : Has w b cs) (hl : o + n ≤ cs.length) :
    (loadCells ⟨b, o, none⟩ n).run P w = .ok (⟨(cs.drop o).take n⟩ : Array Value) w := by
  unfold loadCells
  rw [loadCellsFrom_run h n o 0 #[] (by omega)]
  simp

/-- A struct's field's first cell, where it takes at least one. -/
def fieldOff (P : Program) (s : TypeId) (i : Nat) : Option Nat := match P.underlying s with
  | some (.struct fs) => match fs[i]? with
    | some f => match P.info? f.type with
      | some inf => bif Nat.beq inf.size 0 then none else some f.offset
      | none => none
    | none => none
  | _ => none

/-- A type of one cell. -/
def oneTy (P : Program) (t : TypeId) : Bool := match P.underlying t with
  | some (.struct _) => false
  | some (.array _ _) => false
  | some _ => match P.info? t with
    | some inf => Nat.beq inf.size 1
    | none => false
  | none => false

/-- The cells of a struct or an array. -/
def aggTy (P : Program) (t : TypeId) : Option Nat := match P.underlying t with
  | some (.struct _) => (P.info? t).map (·.size)
  | some (.array _ _) => (P.info? t).map (·.size)
  | _ => none

def zeroTy (P : Program) (t : TypeId) : Option (Value × Nat) := match P.info? t with
  | some inf => match inf.zero with
    | some v => some (v, inf.size)
    | none => none
  | none => none

section

variable {P : Program} {w : World}

theorem size_run {t s : Nat} (h : (P.info? t).map (·.size) = some s) : (sizeOf t).run P w = .ok s w := by
  cases hi : P.info? t with
  | none => rw [hi] at h; cases h
  | some i =>
    rw [hi] at h
    simp only [Option.map_some, Option.some.injEq] at h
    simp [sizeOf, typeInfo, hi, h]

theorem oneTy_spec {t : TypeId} (h : oneTy P t = true) : (isAgg t).run P w = .ok false w ∧ (P.info? t).map (·.size) = some 1 := by
  unfold oneTy at h
  split at h
  · cases h
  · cases h
  · rename_i d hd1 hd2 hu
    cases hi : P.info? t with
    | none => rw [hi] at h; cases h
    | some inf =>
      rw [hi] at h
      have hs := Nat.eq_of_beq_eq_true h
      refine ⟨?_, by simp [hs]⟩
      unfold isAgg
      simp only [Sem.run_bind, run_under hu, Result.andThen_ok]
      cases d <;> first | rfl | (exact (hd1 _ hu).elim) | (exact (hd2 _ _ hu).elim)
  · cases h

theorem aggTy_spec {t s : Nat} (h : aggTy P t = some s) : (isAgg t).run P w = .ok true w ∧ (P.info? t).map (·.size) = some s := by
  unfold aggTy at h
  split at h
  · rename_i fs hu
    refine ⟨?_, h⟩
    unfold isAgg
    simp only [Sem.run_bind, run_under hu, Result.andThen_ok]
    rfl
  · rename_i l e hu
    refine ⟨?_, h⟩
    unfold isAgg
    simp only [Sem.run_bind, run_under hu, Result.andThen_ok]
    rfl
  · cases h

theorem zeroTy_spec {t s : Nat} {v : Value} (h : zeroTy P t = some (v, s)) : (zeroValue t).run P w = .ok v w ∧ (P.info? t).map (·.size) = some s := by
  unfold zeroTy at h
  cases hi : P.info? t with
  | none => rw [hi] at h; cases h
  | some inf =>
    rw [hi] at h
    cases hz : inf.zero with
    | none => simp only [hz] at h; cases h
    | some z =>
      simp only [hz, Option.some.injEq, Prod.mk.injEq] at h
      obtain ⟨rfl, rfl⟩ := h
      simp [zeroValue, typeInfo, hi, hz]

end

end Go.Kf

namespace Go.Kf

open Go

/-- The operation yields v in whatever world. -/
def Val (P : Program) (ρ : Nat → Value) (o : Op) (v : Value) : Prop := ∀ w, runOp P ρ o w = .ok (.value v) w

def goFn (P : Program) (f : FuncId) : Bool := match P.funcs[f]? with
  | some fn => fn.body.isSome && !(fn.name == "runtime.NumGoroutine")
  | none => false

/-- The function, called so, returns, and then this holds. -/
def Gives (P : Program) (f : FuncId) (args : List Value) (w : World) (Post : Value → World → Prop) : Prop :=
  goFn P f = true ∧ Calls P f ⟨args⟩ w fun e w' => match e with
    | .returned v => Post v w'
    | _ => False

theorem Gives.mono {P : Program} {f : FuncId} {args : List Value} {w : World} {Q Q' : Value → World → Prop} (h : Gives P f args w Q) (hq : ∀ v w', Q v w' → Q' v w') : Gives P f args w Q' :=
  ⟨h.1, Calls.mono h.2 fun e w' he => by
    cases e with
    | returned v => exact hq v w' he
    | panicked c => exact he
    | outgrown => exact he⟩

/-- A function by its tree. -/
theorem gives_of_tree {P : Program} {f : FuncId} {args : List Value} {w : World} {Post : Value → World → Prop} {fn : Func} {orc : Nat → Option Value} {ps : List Operand} {n : Nat} {ρ : Nat → Value} {T : Tr}
    (hf : P.funcs[f]? = some fn) (hg : goFn P f = true) (hmix : P.follows .mixedOrders = true) (hn : args.length ≤ fn.ntmps) (hT : treeOf fn orc ps n = T)
    (hp : ps.map (ev ρ) = args) (hb : ∀ x ∈ ps, opBelow n x) (h : T.sem P Post [] n ρ w) : Gives P f args w Post :=
  ⟨hg, calls_of_tree (args := ⟨args⟩) hf hmix hn hp hb (by rw [hT]; exact h)⟩

section

variable {P : Program} {ρ : Nat → Value} {R : Value → World → Prop} {Γ : List (List Value → World → Prop)} {n : Nat} {w w' : World} {k : Tr} {o : Op} {v : Value} {F : List (Op × Nat)}

theorem s_val (h : Val P ρ o v) (hk : k.sem P R Γ (n + 1) (ext ρ n [v]) w) : (Tr.op o none [] k).sem P R Γ n ρ w := by
  simp only [Tr.sem]
  rw [h w]
  exact ⟨fun u hu => (by cases hu), fun p hp => (by cases hp), hk⟩

theorem p_val (h : Val P ρ o v) (hk : k.sem P R Γ (n + 1) (ext ρ n [v]) w) : (Tr.pur o none k).sem P R Γ n ρ w := ⟨v, h, fun u hu => (by cases hu), hk⟩

theorem s_lok (h : runOp P ρ o w = .ok (.value v) w) (hk : k.sem P R Γ (n + 1) (ext ρ n [v]) w) : (Tr.op o none [] k).sem P R Γ n ρ w := by
  simp only [Tr.sem]
  rw [h]
  exact ⟨fun u hu => (by cases hu), fun p hp => (by cases hp), hk⟩

theorem l_lok (h : runOp P ρ o w = .ok (.value v) w) (hk : k.sem P R Γ (n + 1) (ext ρ n [v]) w) : (Tr.lok o none k).sem P R Γ n ρ w := ⟨v, h, fun u hu => (by cases hu), hk⟩

theorem s_act (h : runOp P ρ o w = .ok (.value v) w') (hF : ∀ p ∈ F, runOp P ρ p.1 w' = .ok (.value (ρ p.2)) w') (hk : k.sem P R Γ (n + 1) (ext ρ n [v]) w') : (Tr.op o none F k).sem P R Γ n ρ w := by
  simp only [Tr.sem]
  rw [h]
  exact ⟨fun u hu => (by cases hu), hF, hk⟩

theorem s_unit (h : runOp P ρ o w = .ok .skip w') (hF : ∀ p ∈ F, runOp P ρ p.1 w' = .ok (.value (ρ p.2)) w') (hk : k.sem P R Γ (n + 1) (ext ρ n [undef]) w') : (Tr.op o none F k).sem P R Γ n ρ w := by
  simp only [Tr.sem]
  rw [h]
  exact ⟨fun u hu => (by cases hu), hF, hk⟩

/-- A value that the tree knows. -/
theorem s_known {u : Value} (h : runOp P ρ o w = .ok (.value u) w) (hk : k.sem P R Γ (n + 1) (ext ρ n [u]) w) : (Tr.op o (some u) [] k).sem P R Γ n ρ w := by
  simp only [Tr.sem]
  rw [h]
  exact ⟨fun x hx => (by cases hx; rfl), fun p hp => (by cases hp), hk⟩

def callOp (f : FuncId) (xs : List Operand) : Op := .call { callee := .value (.func f), args := ⟨xs⟩, argTypes := #[] }

theorem run_call {f : FuncId} {xs : List Operand} (h : goFn P f = true) : runOp P ρ (callOp f xs) w = .ok (.enter f ⟨xs.map (ev ρ)⟩) w := by
  unfold goFn at h
  cases hf : P.funcs[f]? with
  | none => rw [hf] at h; cases h
  | some fn =>
    rw [hf] at h
    simp only [Bool.and_eq_true, Bool.not_eq_true'] at h
    have hb : fn.body.isNone = false := by
      cases hx : fn.body with
      | none => rw [hx] at h; cases h.1
      | some c => rfl
    unfold runOp callOp bareOp
    simp only [execOp, resolve, ev, Deferred.ofValue, pure_bind, invoke, callFunc, Sem.run_bind, run_program, Result.andThen_ok, hf, h.2, hb]
    simp

theorem s_call {f : FuncId} {xs : List Operand} {Post : Value → World → Prop} (h : Gives P f (xs.map (ev ρ)) w Post)
    (hk : ∀ v w', Post v w' → (∀ p ∈ F, runOp P ρ p.1 w' = .ok (.value (ρ p.2)) w') ∧ k.sem P R Γ (n + 1) (ext ρ n [v]) w') : (Tr.op (callOp f xs) none F k).sem P R Γ n ρ w := by
  simp only [Tr.sem]
  rw [run_call h.1]
  refine Calls.mono h.2 fun e w' he => ?_
  cases e with
  | returned v => exact ⟨fun u hu => (by cases hu), hk v w' he⟩
  | panicked c => exact he
  | outgrown => exact he

theorem s_call0 {f : FuncId} {xs : List Operand} {Post : Value → World → Prop} (h : Gives P f (xs.map (ev ρ)) w Post)
    (hk : ∀ v w', Post v w' → k.sem P R Γ (n + 1) (ext ρ n [v]) w') : (Tr.op (callOp f xs) none [] k).sem P R Γ n ρ w :=
  s_call h fun v w' hp => ⟨fun p hp => (by cases hp), hk v w' hp⟩

theorem s_cond {x : Operand} {b : Bool} {t e : Tr} (h : ev ρ x = .bool b) (ht : b = true → t.sem P R Γ n ρ w) (he : b = false → e.sem P R Γ n ρ w) : (Tr.cond x t e).sem P R Γ n ρ w := ⟨b, h, ht, he⟩

theorem s_ret0 (h : R (.tuple #[]) w) : (Tr.ret []).sem P R Γ n ρ w := ⟨[], rfl, h⟩

theorem s_ret1 {x : Operand} (h : R (ev ρ x) w) : (Tr.ret [(x, none)]).sem P R Γ n ρ w := ⟨[ev ρ x], rfl, h⟩

theorem v_nilCheck {x : Operand} {a : Addr} (h : ev ρ x = .pointer (some a)) : Val P ρ (.nilCheck x) (.pointer (some a)) := fun w => by
  unfold runOp bareOp
  simp only [execOp, h]
  rfl

theorem v_field {s i off : Nat} {x : Operand} {b o : Nat} (ht : fieldOff P s i = some off) (h : ev ρ x = .pointer (some ⟨b, o, none⟩)) : Val P ρ (.fieldAddr s x i) (.pointer (some ⟨b, o + off, none⟩)) := fun w => by
  unfold fieldOff at ht
  split at ht
  · rename_i fs hu
    cases hf : fs[i]? with
    | none => simp only [hf] at ht; cases ht
    | some f =>
      simp only [hf] at ht
      cases hi : P.info? f.type with
      | none => simp only [hi] at ht; cases ht
      | some inf =>
        simp only [hi] at ht
        cases hz : Nat.beq inf.size 0 with
        | true => simp only [hz] at ht; cases ht
        | false =>
          simp only [hz, cond, Option.some.injEq] at ht
          have hne : inf.size ≠ 0 := fun e => by rw [e] at hz; cases hz
          unfold runOp bareOp
          simp only [execOp, h, Instr.fieldAt, Sem.run_bind, run_under hu, Result.andThen_ok, hf, Instr.sureAddr, Sem.run_pure, fieldPlace, size_run (P := P) (t := f.type) (s := inf.size) (by simp [hi])]
          rw [if_neg hne]
          simp only [Sem.run_pure, Result.andThen_ok]
          rw [ht]
          congr 4
          unfold Addr.add
          split
          · rename_i h0; simp [h0]
          · rfl
  · cases ht

theorem v_len {t e : Nat} {x : Operand} {a : Option Addr} {l c : Nat} (ht : P.underlying t = some (.slice e)) (h : ev ρ x = .slice a l c) :
    Val P ρ (.call { callee := .builtin .len, args := ⟨[x]⟩, argTypes := ⟨[t]⟩ }) (.int .i64 l) := fun w => by
  unfold runOp bareOp
  simp only [execOp, resolve, pure_bind, invoke, builtin, Builtin.len_]
  simp [run_under ht, h, goInt]

def cmpOf (op : BinOp) (a b : Int) : Option Bool := match op with
  | .eql => some (a == b)
  | .neq => some (a != b)
  | .lss => some (decide (a < b))
  | .leq => some (decide (a ≤ b))
  | .gtr => some (decide (a > b))
  | .geq => some (decide (a ≥ b))
  | _ => none

theorem v_cmp {op : BinOp} {t u : Nat} {x y : Operand} {kk : IntKind} {a b : Int} {r : Bool} (hx : ev ρ x = .int kk a) (hy : ev ρ y = .int kk b) (h : cmpOf op a b = some r) : Val P ρ (.binOp op t x y u) (.bool r) := fun w => by
  unfold runOp bareOp
  simp only [execOp, hx, hy]
  cases op <;> simp only [cmpOf, Option.some.injEq] at h <;> first
    | (subst h; simp [eqGuard, binOp, Op.intCmp]; done)
    | (cases h; done)

def arithOf (op : BinOp) (kk : IntKind) (a b : Int) : Option Int := match op with
  | .add => some (kk.wrap (a + b))
  | .sub => some (kk.wrap (a - b))
  | .mul => some (kk.wrap (a * b))
  | _ => none

theorem v_arith {op : BinOp} {t u : Nat} {x y : Operand} {kk : IntKind} {a b r : Int} (hx : ev ρ x = .int kk a) (hy : ev ρ y = .int kk b) (h : arithOf op kk a b = some r) : Val P ρ (.binOp op t x y u) (.int kk r) := fun w => by
  unfold runOp bareOp
  simp only [execOp, hx, hy]
  cases op <;> simp only [arithOf, Option.some.injEq] at h <;> first
    | (subst h; simp [eqGuard, binOp, Op.intArith]; done)
    | (cases h; done)

theorem v_not {t : Nat} {x : Operand} {b : Bool} (hx : ev ρ x = .bool b) : Val P ρ (.unOp .not t x) (.bool (!b)) := fun w => by
  unfold runOp bareOp
  simp only [execOp, hx]
  simp [Op.unary]

theorem v_conv {s d : Nat} {x : Operand} {k1 k2 : IntKind} {d1 : TypeDesc} {a : Int} (hs : P.underlying s = some d1) (hd : P.underlying d = some (.int k2)) (hx : ev ρ x = .int k1 a) : Val P ρ (.convert s d x) (.int k2 (k2.wrap a)) := fun w => by
  unfold runOp bareOp
  simp only [execOp, hx, convert, Sem.run_bind, run_under hs, run_under hd, Result.andThen_ok]
  simp [Conv.intToInt]

theorem v_extract {x : Operand} {i : Nat} {vs : Array Value} {v : Value} (hx : ev ρ x = .tuple vs) (hi : vs[i]? = some v) : Val P ρ (.extract x i) v := fun w => by
  unfold runOp bareOp
  simp only [execOp, hx, Instr.extract, hi]
  rfl

theorem v_indexAddr {t e sz : Nat} {x i : Operand} {b o l c : Nat} {kk : IntKind} {j : Int} (ht : P.underlying t = some (.slice e)) (hs : (P.info? e).map (·.size) = some sz) (hx : ev ρ x = .slice (some ⟨b, o, none⟩) l c)
    (hi : ev ρ i = .int kk j) (h0 : 0 ≤ j) (hl : j < l) : Val P ρ (.indexAddr t x i) (.pointer (some ⟨b, o + j.toNat * sz, none⟩)) := fun w => by
  unfold runOp bareOp
  simp only [execOp, hx, hi, Instr.indexAt, asIntOf, Sem.run_bind, Sem.run_pure, run_under ht, Result.andThen_ok]
  rw [if_pos ⟨h0, hl⟩]
  simp only [Sem.run_bind, size_run hs, Result.andThen_ok, Sem.run_pure]
  congr 4
  unfold Addr.add
  split
  · rename_i h0; simp [h0]
  · rfl

/-- '==' by a law on the values' meeting at whatever depth. -/
theorem v_equal {op : BinOp} {t u : Nat} {x y : Operand} {a b : Value} {q r : Bool} (hx : ev ρ x = a) (hy : ev ρ y = b) (hg : ∀ w, (eqGuard op t x y a b).run P w = .ok () w) (hop : op = .eql ∨ op = .neq)
    (hb : binOp op t a b = (match op with
      | .eql => do pure (.bool (← Op.equal t a b))
      | _ => do pure (.bool (!(← Op.equal t a b))))) (he : ∀ d w, (Op.equalIn (d + 1) t a b).run P w = .ok q w) (h : r = (match op with
      | .eql => q
      | _ => !q)) : Val P ρ (.binOp op t x y u) (.bool r) := fun w => by
  unfold runOp bareOp
  simp only [execOp, hx, hy, hb]
  have e : (Op.equal t a b).run P w = .ok q w := he 9999 w
  rcases hop with rfl | rfl
  · simp only [Sem.run_bind, hg, Result.andThen_ok, e, Sem.run_pure, h]
  · simp only [Sem.run_bind, hg, Result.andThen_ok, e, Sem.run_pure, h]

theorem v_eqlSlice {op : BinOp} {t e u : Nat} {x y : Operand} {a : Option Addr} {l c : Nat} {r : Bool} (ht : P.underlying t = some (.slice e)) (hx : ev ρ x = .slice a l c) (hy : ev ρ y = .slice none 0 0)
    (h : (op = .eql ∧ r = a.isNone) ∨ (op = .neq ∧ r = !a.isNone)) : Val P ρ (.binOp op t x y u) (.bool r) := by
  refine v_equal (q := a.isNone) hx hy (fun w => ?_) (h.imp And.left And.left) ?_ (fun d w => ?_) ?_
  · rcases h with ⟨rfl, _⟩ | ⟨rfl, _⟩ <;> rfl
  · rcases h with ⟨rfl, _⟩ | ⟨rfl, _⟩ <;> rfl
  · cases a <;> simp [Op.equalIn, run_under ht]
  · rcases h with ⟨rfl, h⟩ | ⟨rfl, h⟩ <;> exact h

theorem v_eqlPtr {op : BinOp} {t e u : Nat} {x y : Operand} {a : Option Addr} {r : Bool} (ht : P.underlying t = some (.pointer e)) (hx : ev ρ x = .pointer a) (hy : ev ρ y = .pointer none)
    (h : (op = .eql ∧ r = a.isNone) ∨ (op = .neq ∧ r = !a.isNone)) : Val P ρ (.binOp op t x y u) (.bool r) := by
  refine v_equal (q := a.isNone) hx hy (fun w => ?_) (h.imp And.left And.left) ?_ (fun d w => ?_) ?_
  · rcases h with ⟨rfl, _⟩ | ⟨rfl, _⟩ <;> rfl
  · rcases h with ⟨rfl, _⟩ | ⟨rfl, _⟩ <;> rfl
  · cases a <;> simp [Op.equalIn, run_under ht]
  · rcases h with ⟨rfl, h⟩ | ⟨rfl, h⟩ <;> exact h

/-- An interface value against the literal nil. -/
theorem v_neqNil {t u : Nat} {ms : Array (String × TypeId)} {x : Operand} {v : Value} {r : Bool} (ht : P.underlying t = some (.interface ms)) (hx : ev ρ x = v) (h : (v = .nilIface ∧ r = false) ∨ (∃ d y, v = .iface d y ∧ r = true)) :
    Val P ρ (.binOp .neq t x (.const .nilIface) u) (.bool r) := by
  refine v_equal (b := .nilIface) (q := !r) hx rfl (fun w => ?_) (.inr rfl) ?_ (fun d w => ?_) ?_
  · rcases h with ⟨rfl, _⟩ | ⟨d, y, rfl, _⟩
    · simp [eqGuard]
    · rfl
  · rcases h with ⟨rfl, _⟩ | ⟨d, y, rfl, _⟩ <;> rfl
  · rcases h with ⟨rfl, rfl⟩ | ⟨d, y, rfl, rfl⟩ <;> simp [Op.equalIn, run_under ht]
  · simp

theorem v_eqlBool {op : BinOp} {t u : Nat} {x y : Operand} {a b r : Bool} (ht : P.underlying t = some .bool) (hx : ev ρ x = .bool a) (hy : ev ρ y = .bool b)
    (h : (op = .eql ∧ r = (a == b)) ∨ (op = .neq ∧ r = !(a == b))) : Val P ρ (.binOp op t x y u) (.bool r) := by
  refine v_equal (q := a == b) hx hy (fun w => ?_) (h.imp And.left And.left) ?_ (fun d w => ?_) ?_
  · rcases h with ⟨rfl, _⟩ | ⟨rfl, _⟩ <;> rfl
  · rcases h with ⟨rfl, _⟩ | ⟨rfl, _⟩ <;> rfl
  · simp [Op.equalIn, run_under ht]
  · rcases h with ⟨rfl, h⟩ | ⟨rfl, h⟩ <;> exact h

theorem l_load1 {t : Nat} {x : Operand} {b o : Nat} {cs : List Value} {v : Value} (ht : oneTy P t = true) (hx : ev ρ x = .pointer (some ⟨b, o, none⟩)) (hb : Has w b cs) (hv : cs[o]? = some v) :
    runOp P ρ (.load t x) w = .ok (.value v) w := by
  unfold runOp bareOp
  simp only [execOp, hx, Instr.loadAt, Instr.sureAddr, loadVar, Sem.run_bind, Sem.run_pure, Result.andThen_ok, (oneTy_spec (w := w) ht).1, Bool.false_eq_true, if_false, run_load, hb.cell hv]

theorem l_loadN {t s : Nat} {x : Operand} {b o : Nat} {cs : List Value} (ht : aggTy P t = some s) (hx : ev ρ x = .pointer (some ⟨b, o, none⟩)) (hb : Has w b cs) (hl : o + s ≤ cs.length) :
    runOp P ρ (.load t x) w = .ok (.value (.agg ⟨(cs.drop o).take s⟩)) w := by
  have h1 := aggTy_spec (w := w) ht
  unfold runOp bareOp
  simp only [execOp, hx, Instr.loadAt, Instr.sureAddr, loadVar, Sem.run_bind, Sem.run_pure, Result.andThen_ok, h1.1, if_true, size_run h1.2, loadCells_run hb hl]

theorem a_storeCells {t : Nat} {x y : Operand} {b o : Nat} {cs vs : List Value} (ht : (P.info? t).map (·.size) = some vs.length) (hx : ev ρ x = .pointer (some ⟨b, o, none⟩)) (hy : (ev ρ y).cells = ⟨vs⟩) (hb : Has w b cs)
    (hl : o + vs.length ≤ cs.length) (hv : ∀ v ∈ vs, v.oneCell' = true) : ∃ w', runOp P ρ (.store t x y) w = .ok .skip w' ∧ Has w' b (splice cs o vs) ∧ Keeps [b] w w' := by
  obtain ⟨w', h1, h2, h3⟩ := storeCells_run (P := P) vs w b o 0 cs hb (by omega) hv
  refine ⟨w', ?_, h2, h3⟩
  unfold runOp bareOp
  simp only [execOp, hx, Instr.storeAt, Instr.sureAddr, storeVar, Sem.run_bind, Sem.run_pure, Result.andThen_ok, size_run ht, hy]
  rw [if_neg (by simp)]
  rw [h1]
  rfl

theorem splice_one (cs : List Value) (o : Nat) (v : Value) (h : o < cs.length) : splice cs o [v] = cs.set o v := by
  rw [← splice_cons h, splice_nil]

theorem a_store1 {t : Nat} {x y : Operand} {b o : Nat} {cs : List Value} {v : Value} (ht : oneTy P t = true) (hx : ev ρ x = .pointer (some ⟨b, o, none⟩)) (hy : ev ρ y = v) (hv : v.oneCell' = true) (hb : Has w b cs)
    (hl : o < cs.length) : ∃ w', runOp P ρ (.store t x y) w = .ok .skip w' ∧ Has w' b (cs.set o v) ∧ Keeps [b] w w' := by
  have h := a_storeCells (P := P) (ρ := ρ) (w := w) (t := t) (x := x) (y := y) (b := b) (o := o) (cs := cs) (vs := [v]) (oneTy_spec (w := w) ht).2 hx (by rw [hy]; cases v <;> first | rfl | (cases hv; done)) hb (by simp; omega) (by simpa using hv)
  rw [splice_one cs o v hl] at h
  exact h

theorem a_alloc {t s : Nat} {z : Value} (ht : zeroTy P t = some (z, s)) : ∃ w', runOp P ρ (.alloc t) w = .ok (.value (.pointer (some ⟨w.heap.size, 0, none⟩))) w' ∧ Has w' w.heap.size z.cells.toList ∧ Keeps [] w w' ∧ w'.heap.size = w.heap.size + 1 := by
  refine ⟨{ w with heap := w.heap.push (.cells ⟨z.cells.toList⟩ t) }, ?_, has_alloc w _ t, keeps_alloc w _ _, by simp⟩
  unfold runOp bareOp
  simp only [execOp, Instr.alloc, Sem.run_bind, (zeroTy_spec (w := w) ht).1, Result.andThen_ok, newVar, newRow, run_newObj, Sem.run_pure]

theorem a_box {t : Nat} {x : Operand} {v : Value} (hx : ev ρ x = v) : ∃ w', runOp P ρ (.box t x) w = .ok (.value (.pointer (some ⟨w.heap.size, 0, none⟩))) w' ∧ Has w' w.heap.size v.cells.toList ∧ Keeps [] w w' ∧ w'.heap.size = w.heap.size + 1 := by
  refine ⟨{ w with heap := w.heap.push (.cells ⟨v.cells.toList⟩ t) }, ?_, has_alloc w _ t, keeps_alloc w _ _, by simp⟩
  unfold runOp bareOp
  simp only [execOp, Instr.box, hx, Sem.run_bind, newVar, newRow, run_newObj, Sem.run_pure, Result.andThen_ok]

end

end Go.Kf


namespace Go.Kf

open Go

/-- The slice v owns its row: n elements of sz cells each, and spare cells behind. -/
def Own (w : World) (v : Value) (sz n : Nat) (xs : List Value) : Prop :=
  xs.length = n * sz ∧ ((v = .slice none 0 0 ∧ n = 0) ∨ ∃ b cap spare, v = .slice (some ⟨b, 0, none⟩) n cap ∧ Has w b (xs ++ spare) ∧ n ≤ cap ∧ cap < 2 ^ 63 ∧ (xs ++ spare).length = cap * sz)

/-- The block of a slice's row. -/
def blkOf : Value → List Nat
  | .slice (some a) _ _ => [a.block]
  | _ => []

theorem Own.nil (w : World) (sz : Nat) : Own w (.slice none 0 0) sz 0 [] := ⟨by simp, .inl ⟨rfl, rfl⟩⟩

theorem Own.lt {w : World} {v : Value} {sz n : Nat} {xs : List Value} (h : Own w v sz n xs) : ∀ b ∈ blkOf v, b < w.heap.size := by
  intro b hb
  rcases h.2 with ⟨rfl, _⟩ | ⟨b', cap, spare, rfl, hh, _⟩
  · cases hb
  · simp only [blkOf, List.mem_singleton] at hb
    subst hb
    exact hh.lt

theorem Own.keep {w w' : World} {v : Value} {sz n : Nat} {xs : List Value} {M : List Nat} (h : Own w v sz n xs) (hk : Keeps M w w') (hm : ∀ b ∈ blkOf v, b ∉ M) : Own w' v sz n xs := by
  refine ⟨h.1, ?_⟩
  rcases h.2 with hn | ⟨b, cap, spare, rfl, hh, hr⟩
  · exact .inl hn
  · exact .inr ⟨b, cap, spare, rfl, hh.keep hk (hm b (by simp [blkOf])), hr⟩

/-- The slice v reads as these cells (wherever they lie, nil included). -/
def Reads (w : World) (v : Value) (sz n : Nat) (xs : List Value) : Prop :=
  xs.length = n * sz ∧ ((v = .slice none 0 0 ∧ n = 0) ∨ ∃ b o cap cs, v = .slice (some ⟨b, o, none⟩) n cap ∧ n ≤ cap ∧ Has w b cs ∧ o + n * sz ≤ cs.length ∧ (cs.drop o).take (n * sz) = xs)

theorem Reads.keep {w w' : World} {v : Value} {sz n : Nat} {xs : List Value} {M : List Nat} (h : Reads w v sz n xs) (hk : Keeps M w w') (hm : ∀ b ∈ blkOf v, b ∉ M) : Reads w' v sz n xs := by
  refine ⟨h.1, ?_⟩
  rcases h.2 with hn | ⟨b, o, cap, cs, rfl, hc, hh, hr⟩
  · exact .inl hn
  · exact .inr ⟨b, o, cap, cs, rfl, hc, hh.keep hk (hm b (by simp [blkOf])), hr⟩

theorem Reads.lt {w : World} {v : Value} {sz n : Nat} {xs : List Value} (h : Reads w v sz n xs) : ∀ b ∈ blkOf v, b < w.heap.size := by
  intro b hb
  rcases h.2 with ⟨rfl, _⟩ | ⟨b', o, cap, cs, rfl, _, hh, _⟩
  · cases hb
  · simp only [blkOf, List.mem_singleton] at hb
    subst hb
    exact hh.lt

theorem Own.reads {w : World} {v : Value} {sz n : Nat} {xs : List Value} (h : Own w v sz n xs) : Reads w v sz n xs := by
  refine ⟨h.1, ?_⟩
  rcases h.2 with hn | ⟨b, cap, spare, rfl, hh, hc, _, hl⟩
  · exact .inl hn
  · refine .inr ⟨b, 0, cap, _, rfl, hc, hh, ?_, ?_⟩
    · rw [← h.1]; simp
    · simp [← h.1]

theorem addr_add (b o i : Nat) : Addr.add ⟨b, o, none⟩ i = ⟨b, o + i, none⟩ := by
  unfold Addr.add
  split
  · rename_i h0; simp [h0]
  · rfl

section

variable {P : Program} {ρ : Nat → Value} {w : World}

theorem Reads.src {x : Value} {sz m tx e : Nat} {ys : List Value} (h : Reads w x sz m ys) (ht : P.underlying tx = some (.slice e)) (h1 : ∀ u ∈ ys, u.oneCell' = true) : Src P sz tx x m ys w := by
  rcases h.2 with ⟨rfl, rfl⟩ | ⟨b, o, cap, cs, rfl, _, hh, hl, rfl⟩
  · have : ys = [] := List.eq_nil_of_length_eq_zero (by simpa using h.1)
    subst this
    exact Src.ofNil w ht 0
  · refine Src.ofSlice w ht ⟨b, o, none⟩ m cap _ h.1 (fun j u hu => ?_) h1
    rw [addr_add]
    refine hh.cell ?_
    rw [List.getElem?_take] at hu
    split at hu
    · rw [List.getElem?_drop] at hu; exact hu
    · cases hu

theorem setCells_ok {b o : Nat} {cs : List Value} (h : Has w b cs) : ∀ (ys : List Value), o + ys.length ≤ cs.length → (∀ u ∈ ys, u.oneCell' = true) → ∃ w', (storeCells ⟨b, o, none⟩ ys).run P w = .ok () w' ∧ Has w' b (splice cs o ys) ∧ Keeps [b] w w' :=
  fun ys hl h1 => storeCells_run ys w b o 0 cs h (by omega) h1

/-- append, whatever is appended. -/
theorem append_own {t tx ty e : TypeId} {inf : TypeInfo} {z : Value} {sz m n : Nat} {v x : Value} {xs ys : List Value} (ht : P.underlying t = some (.slice e)) (hi : P.info? e = some inf) (hz : inf.zero = some z) (hsz : inf.size = sz)
    (hzc : z.cells.size = sz) (ho : Own w v sz n xs) (hs : Src P sz tx x m ys w) (hb : (n + m) * inf.bytes ≤ 140737488355328) (h63 : n + m < 2 ^ 63) :
    ∃ v' w', (Builtin.append_ ⟨[t, tx]⟩ ty ⟨[v, x]⟩).run P w = .ok v' w' ∧ Own w' v' sz (n + m) (xs ++ ys) ∧ Keeps (blkOf v) w w' ∧ (∀ b ∈ blkOf v', b ∈ blkOf v ∨ w.heap.size ≤ b) := by
  subst hsz
  have hlen : (xs ++ ys).length = (n + m) * inf.size := by rw [List.length_append, ho.1, hs.newsLen, Nat.add_mul]
  have grow : ∀ (base : Option Addr) (cap : Nat), v = .slice base n cap → (Builtin.firstCells inf.size n (.slice base n cap)).run P w.drew = .ok xs.toArray w.drew → cap < n + m →
      ∃ v' w', (Builtin.append_ ⟨[t, tx]⟩ ty ⟨[v, x]⟩).run P w = .ok v' w' ∧ Own w' v' inf.size (n + m) (xs ++ ys) ∧ Keeps (blkOf v) w w' ∧ (∀ b ∈ blkOf v', b ∈ blkOf v ∨ w.heap.size ≤ b) := by
    intro base cap hv hold hg
    have h := run_append_grow_src (P := P) w t tx ty e inf z ht hi hz base n cap xs hold x m ys hs hg (by omega) (growslice_fits hg hb)
    have hge := grownCap_ge w (n + m) cap e
    have hlt : grownCap w (n + m) cap e < 2 ^ 63 := by
      have := grownCap_le_maxLen w (n + m) cap e (by simp only [maxLen]; omega)
      simp only [maxLen] at this
      omega
    refine ⟨_, _, by rw [hv]; exact h, ⟨hlen, .inr ⟨w.heap.size, _, (Builtin.zeroCells z.cells (grownCap w (n + m) cap e - (n + m))).toList, rfl, ?_, hge, hlt, ?_⟩⟩, ?_, fun b hb => ?_⟩
    · refine ⟨e, (0, 0), ?_, .inl (Nat.le_refl _)⟩
      show (w.heap.push _)[w.heap.size]? = _
      rw [Array.getElem?_push, if_pos rfl]
      congr 2
      apply Array.ext'
      simp
    · rw [List.length_append, hlen, Array.length_toList]
      simp only [Builtin.zeroCells, Array.size_map, Array.size_range, hzc]
      rw [← Nat.add_mul]
      congr 1
      omega
    · exact (keeps_drawn w _ _).trans (keeps_alloc w.drew _ _)
    · simp only [blkOf, List.mem_singleton] at hb
      exact .inr (by rw [hb]; exact Nat.le_refl _)
  rcases ho.2 with ⟨rfl, rfl⟩ | ⟨b, cap, spare, rfl, hh, hc, hc63, hl⟩
  · have hxs : xs = [] := List.eq_nil_of_length_eq_zero (by simpa using ho.1)
    subst hxs
    by_cases hm : m = 0
    · subst hm
      have hys : ys = [] := List.eq_nil_of_length_eq_zero (by simpa using hs.newsLen)
      subst hys
      refine ⟨.slice none 0 0, w, ?_, ⟨by simp, .inl ⟨rfl, rfl⟩⟩, .refl, fun b hb => (by cases hb)⟩
      rcases hs.kind with ⟨e', hk⟩ | hk <;> simp [Builtin.append_, run_underlying ht, run_underlying hk, sizeOf, typeInfo, hi, hs.len, hs.cells]
    · exact grow none 0 rfl (by simpa using run_firstCells_none w.drew inf.size 0 0 0) (by omega)
  · by_cases hg : cap < n + m
    · refine grow (some ⟨b, 0, none⟩) cap rfl ?_ hg
      refine run_firstCells_some w.drew inf.size n ⟨b, 0, none⟩ n cap xs ho.1 fun j u hu => ?_
      rw [addr_add, Nat.zero_add]
      have hh' : Has w.drew b (xs ++ spare) := hh
      exact hh'.cell (by rw [List.getElem?_append_left (List.getElem?_eq_some_iff.1 hu).1]; exact hu)
    · have hroom : n + m ≤ cap := by omega
      have hys : 0 + n * inf.size + ys.length ≤ (xs ++ spare).length := by
        rw [hl, hs.newsLen, Nat.zero_add, ← Nat.add_mul]
        exact Nat.mul_le_mul_right _ hroom
      have hcell : ∀ j, j < ys.length → (w.cell? ⟨b, 0 + n * inf.size + j, none⟩).isSome = true := fun j hj => by
        rw [hh.cell (List.getElem?_eq_getElem (by omega))]; rfl
      have hfr : ∀ j, j < ys.length → w.frozen? ⟨b, 0 + n * inf.size + j, none⟩ = false := fun j hj => hh.unfrozen (by omega)
      have h := run_append_room_src (P := P) w t tx ty e inf ht hi b 0 n cap x m ys hs hroom hcell hfr
      obtain ⟨w', h1, h2, h3⟩ := setCells_ok (P := P) hh (o := 0 + n * inf.size) ys hys hs.one
      have h4 : w.setCells b (0 + n * inf.size) ys = w' := by
        have h5 := run_storeCells_cells (P := P) b (0 + n * inf.size) ys 0 w (by simpa using hcell) (by simpa using hfr) hs.one
        rw [h1] at h5
        injection h5 with _ h6
        simpa using h6.symm
      rw [h4] at h
      refine ⟨_, _, h, ⟨hlen, .inr ⟨b, cap, spare.drop ys.length, rfl, ?_, hroom, hc63, ?_⟩⟩, h3, fun b' hb' => .inl hb'⟩
      · have hsp : splice (xs ++ spare) (0 + n * inf.size) ys = xs ++ ys ++ spare.drop ys.length := by
          unfold splice
          rw [Nat.zero_add, ← ho.1]
          simp
        rw [hsp] at h2
        exact h2
      · have : (xs ++ ys ++ spare.drop ys.length).length = (xs ++ spare).length := by
          have := splice_length hys
          unfold splice at this
          rw [Nat.zero_add, ← ho.1] at this
          simpa using this
        rw [this, hl]

theorem a_append {t tx e : TypeId} {inf : TypeInfo} {z : Value} {sz m n : Nat} {x y : Operand} {v u : Value} {xs ys : List Value} (ht : P.underlying t = some (.slice e)) (hi : P.info? e = some inf) (hz : inf.zero = some z) (hsz : inf.size = sz)
    (hzc : z.cells.size = sz) (hx : ev ρ x = v) (hy : ev ρ y = u) (ho : Own w v sz n xs) (hs : Src P sz tx u m ys w) (hb : (n + m) * inf.bytes ≤ 140737488355328) (h63 : n + m < 2 ^ 63) :
    ∃ v' w', runOp P ρ (.call { callee := .builtin .append, args := ⟨[x, y]⟩, argTypes := ⟨[t, tx]⟩ }) w = .ok (.value v') w' ∧ Own w' v' sz (n + m) (xs ++ ys) ∧ Keeps (blkOf v) w w' ∧ (∀ b ∈ blkOf v', b ∈ blkOf v ∨ w.heap.size ≤ b) := by
  obtain ⟨v', w', h, r⟩ := append_own (ty := 0) ht hi hz hsz hzc ho hs hb h63
  refine ⟨v', w', ?_, r⟩
  unfold runOp bareOp
  simp only [execOp, resolve, pure_bind, invoke, builtin, Sem.run_bind]
  have e1 : (Array.map (ev ρ) ⟨[x, y]⟩ : Array Value) = ⟨[v, u]⟩ := by simp [hx, hy]
  rw [e1, h]
  rfl

end

end Go.Kf





namespace Go.Kf

open Go

/-- Octets as cells. -/
def bcells (l : List UInt8) : List Value := l.map fun b => Value.int .u8 b.toNat

theorem bcells_length (l : List UInt8) : (bcells l).length = l.length := by simp [bcells]

theorem bcells_append (l r : List UInt8) : bcells (l ++ r) = bcells l ++ bcells r := by simp [bcells]

theorem bcells_one (l : List UInt8) : ∀ u ∈ bcells l, u.oneCell' = true := fun u hu => by
  obtain ⟨b, _, rfl⟩ := List.mem_map.1 hu
  rfl

theorem bcells_take (l : List UInt8) (n : Nat) : (bcells l).take n = bcells (l.take n) := by simp [bcells, List.map_take]

theorem bcells_drop (l : List UInt8) (n : Nat) : (bcells l).drop n = bcells (l.drop n) := by simp [bcells, List.map_drop]

/-- A text of these octets. -/
def strOf (l : List UInt8) : ByteArray := ⟨⟨l⟩⟩

section

variable {P : Program} {ρ : Nat → Value} {w : World}

theorem map_add (a : Option Addr) : (a.map fun x => x.add 0) = a := by cases a <;> simp [Addr.add]

/-- s[:h] -/
theorem v_sliceTo {t e sz : Nat} {x y : Operand} {a : Option Addr} {l c : Nat} {k : IntKind} {h : Int} (ht : P.underlying t = some (.slice e)) (hs : (P.info? e).map (·.size) = some sz) (hx : ev ρ x = .slice a l c) (hy : ev ρ y = .int k h)
    (h0 : 0 ≤ h) (hc : h ≤ c) : Val P ρ (.slice t x none (some y) none) (.slice a h.toNat c) := fun w => by
  unfold runOp bareOp
  simp only [execOp, hx, Option.map_some, Option.map_none, hy, Instr.sliceAt, Sem.run_bind, run_under ht, Result.andThen_ok, Instr.slice, Instr.sliceBounds, Sem.run_pure, Instr.sliceBound, asIntOf]
  rw [if_pos ⟨h0, hc⟩]
  simp only [Sem.run_pure, Result.andThen_ok, size_run hs, Nat.zero_mul, Nat.sub_zero, map_add]
  simp

/-- s[l:] -/
theorem v_sliceFrom {t e sz : Nat} {x y : Operand} {a : Option Addr} {l c : Nat} {k : IntKind} {i : Int} (ht : P.underlying t = some (.slice e)) (hs : (P.info? e).map (·.size) = some sz) (hx : ev ρ x = .slice a l c) (hy : ev ρ y = .int k i)
    (h0 : 0 ≤ i) (hl : i ≤ l) : Val P ρ (.slice t x (some y) none none) (.slice (if c = i.toNat then a else a.map (·.add (i.toNat * sz))) (l - i.toNat) (c - i.toNat)) := fun w => by
  unfold runOp bareOp
  simp only [execOp, hx, Option.map_some, Option.map_none, hy, Instr.sliceAt, Sem.run_bind, run_under ht, Result.andThen_ok, Instr.slice, Instr.sliceBounds, Sem.run_pure, Instr.sliceBound, asIntOf]
  rw [if_pos ⟨h0, hl⟩]
  simp only [Sem.run_pure, Result.andThen_ok, size_run hs]

/-- s[:h:h] -/
theorem v_slice3 {t e sz : Nat} {x y z : Operand} {a : Option Addr} {l c : Nat} {k k' : IntKind} {h : Int} (ht : P.underlying t = some (.slice e)) (hs : (P.info? e).map (·.size) = some sz) (hx : ev ρ x = .slice a l c) (hy : ev ρ y = .int k h)
    (hz : ev ρ z = .int k' h) (h0 : 0 ≤ h) (hc : h ≤ c) : Val P ρ (.slice t x none (some y) (some z)) (.slice a h.toNat h.toNat) := fun w => by
  unfold runOp bareOp
  simp only [execOp, hx, Option.map_some, Option.map_none, hy, hz, Instr.sliceAt, Sem.run_bind, run_under ht, Result.andThen_ok, Instr.slice, Instr.sliceBounds, Sem.run_pure, Instr.sliceBound, asIntOf]
  rw [if_pos ⟨h0, hc⟩]
  simp only [Sem.run_pure, Result.andThen_ok]
  rw [if_pos ⟨h0, by omega⟩]
  simp only [Sem.run_pure, Result.andThen_ok, size_run hs, Nat.zero_mul, Nat.sub_zero, map_add]
  simp

/-- What s[:h:h] reads. -/
theorem Reads.to {v : Value} {sz m n : Nat} {xs : List Value} {a : Option Addr} {c : Nat} (h : Reads w (.slice a n c) sz n xs) (hm : m ≤ n) (c' : Nat) (hc : m ≤ c') (hnil : a = none → c' = 0) (_ : v = .slice a m c') : Reads w v sz m (xs.take (m * sz)) := by
  subst v
  have hms : m * sz ≤ n * sz := Nat.mul_le_mul_right _ hm
  refine ⟨by rw [List.length_take, h.1]; omega, ?_⟩
  rcases h.2 with ⟨hv, rfl⟩ | ⟨b, o, cap, cs, hv, _, hh, hl, hx⟩
  · injection hv with h1 h2 h3
    exact .inl ⟨by rw [h1, hnil h1, Nat.le_zero.1 hm], Nat.le_zero.1 hm⟩
  · injection hv with h1 h2 h3
    subst h1
    refine .inr ⟨b, o, c', cs, rfl, hc, hh, by omega, ?_⟩
    rw [← hx, List.take_take, Nat.min_eq_left hms]

/-- What s[i:] reads. -/
theorem Reads.from {sz i n c : Nat} {xs : List Value} {a : Option Addr} (h : Reads w (.slice a n c) sz n xs) (hi : i ≤ n) :
    Reads w (.slice (if c = i then a else a.map (·.add (i * sz))) (n - i) (c - i)) sz (n - i) (xs.drop (i * sz)) := by
  have hms : i * sz ≤ n * sz := Nat.mul_le_mul_right _ hi
  refine ⟨by rw [List.length_drop, h.1, Nat.sub_mul], ?_⟩
  rcases h.2 with ⟨hv, rfl⟩ | ⟨b, o, cap, cs, hv, hc, hh, hl, hx⟩
  · injection hv with h1 h2 h3
    subst h1; subst h3
    refine .inl ⟨?_, by omega⟩
    have : i = 0 := by omega
    subst this
    simp
  · injection hv with h1 h2 h3
    subst h1; subst h3
    by_cases hci : c = i
    · have : i = n := by omega
      subst this
      have hx0 : xs.drop (i * sz) = [] := List.drop_eq_nil_of_le (by rw [h.1]; exact Nat.le_refl _)
      rw [hx0]
      refine .inr ⟨b, o, c - i, cs, by rw [if_pos hci], by omega, hh, ?_, ?_⟩
      · rw [Nat.sub_self, Nat.zero_mul]; omega
      · rw [Nat.sub_self, Nat.zero_mul]; rfl
    · refine .inr ⟨b, o + i * sz, c - i, cs, ?_, by omega, hh, ?_, ?_⟩
      · rw [if_neg hci]
        simp only [Option.map_some, addr_add]
      · rw [Nat.sub_mul]; omega
      · rw [← hx, ← List.drop_drop, List.drop_take, Nat.sub_mul]

theorem foldl_push : ∀ (l : List UInt8) (s : ByteArray), (l.map fun b : UInt8 => (b.toNat : Int)).foldl (fun r n => r.push (UInt8.ofNat n.toNat)) s = ⟨s.data ++ ⟨l⟩⟩
  | [], s => by simp
  | b :: l, s => by
    simp only [List.map_cons, List.foldl_cons]
    rw [foldl_push l]
    congr 1
    simp [ByteArray.push]

theorem l_bytesString {s d e : Nat} {x : Operand} {v : Value} {l : List UInt8} (hs : P.underlying s = some (.slice e)) (he : P.underlying e = some (.int .u8)) (hd : P.underlying d = some .string) (hx : ev ρ x = v) (hr : Reads w v 1 l.length (bcells l)) :
    runOp P ρ (.convert s d x) w = .ok (.value (.string (strOf l))) w := by
  unfold runOp bareOp
  simp only [execOp, hx, Sem.run_bind]
  have key : (convert s d v).run P w = .ok (.string (strOf l)) w := by
    rcases hr.2 with ⟨rfl, hn⟩ | ⟨b, o, cap, cs, rfl, _, hh, hl, hc⟩
    · rw [run_convert_bytes_string w s d e none 0 0 hs he hd]
      have : l = [] := List.eq_nil_of_length_eq_zero hn
      subst this
      rfl
    · rw [run_convert_bytes_string w s d e (some ⟨b, o, none⟩) l.length cap hs he hd]
      have h1 := loadCells_run (P := P) hh (o := o) (n := l.length) (by simpa using hl)
      have e1 : (cs.drop o).take l.length = (l.map fun b : UInt8 => (b.toNat : Int)).map (Value.int .u8) := by
        rw [Nat.mul_one] at hc
        rw [hc]
        simp [bcells]
      rw [e1] at h1
      rw [run_bytesToString w ⟨b, o, none⟩ l.length cap _ h1, foldl_push]
      congr 2
      show (⟨#[] ++ ⟨l⟩⟩ : ByteArray) = strOf l
      simp [strOf]
  rw [key]
  rfl

theorem a_stringBytes {s d e : Nat} {x : Operand} {l : List UInt8} (hs : P.underlying s = some .string) (hd : P.underlying d = some (.slice e)) (he : P.underlying e = some (.int .u8)) (hx : ev ρ x = .string (strOf l)) (h63 : l.length < 2 ^ 63) :
    ∃ v w', runOp P ρ (.convert s d x) w = .ok (.value v) w' ∧ Own w' v 1 l.length (bcells l) ∧ Keeps [] w w' ∧ blkOf v = [w.heap.size] := by
  have hc : (Lib.bytesCells w e (strOf l)) = ⟨bcells l ++ List.replicate (grownCap w l.length 0 e - l.length) (.int .u8 0)⟩ := by
    apply Array.ext'
    simp [Lib.bytesCells, strOf, bcells]
    rfl
  have hge := grownCap_ge w l.length 0 e
  refine ⟨_, Lib.bytesWorld w e (strOf l), ?_, ⟨by rw [bcells_length, Nat.mul_one], .inr ⟨w.heap.size, grownCap w l.length 0 e, List.replicate (grownCap w l.length 0 e - l.length) (.int .u8 0), rfl, ?_, hge, ?_, ?_⟩⟩, ?_, rfl⟩
  · unfold runOp bareOp
    simp only [execOp, hx, Sem.run_bind]
    rw [Lib.run_convert_string_bytes w s d e (strOf l) hs hd he]
    rfl
  · refine ⟨e, ((Lib.bytesCells w e (strOf l)).size, (Lib.bytesCells w e (strOf l)).size + 1), ?_, .inr (Nat.le_of_eq ?_)⟩
    · rw [Lib.bytesWorld_at_new]
      exact congrArg some (congrArg (fun c => Obj.cells c e ((Lib.bytesCells w e (strOf l)).size, (Lib.bytesCells w e (strOf l)).size + 1)) hc)
    · rw [hc]; rfl
  · have := grownCap_le_maxLen w l.length 0 e (by simp only [maxLen]; omega)
    simp only [maxLen] at this
    omega
  · simp [bcells_length]; omega
  · refine ⟨rfl, rfl, rfl, ?_, fun k hk _ => Lib.bytesWorld_at_old w e _ k hk⟩
    rw [Lib.bytesWorld_size]; omega

/-- Zero cells over and over. -/
theorem made_flat (z : Array Value) (hz : 0 < z.size) : ∀ n : Nat, (madeCells z (n * z.size)).toList = (List.replicate n z.toList).flatten
  | 0 => by simp [madeCells]
  | n + 1 => by
    have ih := made_flat z hz n
    have h1 : (madeCells z ((n + 1) * z.size)).toList = (madeCells z (n * z.size)).toList ++ z.toList := by
      simp only [madeCells, Array.toList_map, Array.toList_range]
      rw [Nat.add_mul, Nat.one_mul, List.range_add, List.map_append]
      congr 1
      rw [List.map_map]
      apply List.ext_getElem
      · simp
      · intro i h1 h2
        simp only [List.length_map, List.length_range] at h1
        simp only [List.getElem_map, List.getElem_range, Function.comp_apply]
        rw [Nat.mul_comm n, Nat.mul_add_mod, Nat.mod_eq_of_lt h1]
        simp [h1]
    rw [h1, ih, List.replicate_succ', List.flatten_append]
    simp

theorem a_makeSlice {t e : TypeId} {inf : TypeInfo} {z : Value} {x y : Operand} {k1 k2 : IntKind} {l c : Int} (ht : P.underlying t = some (.slice e)) (hi : P.info? e = some inf) (hz : inf.zero = some z) (hzc : z.cells.size = inf.size) (hpos : 0 < inf.size)
    (hx : ev ρ x = .int k1 l) (hy : ev ρ y = .int k2 c) (h0 : 0 ≤ l) (hlc : l ≤ c) (hb : (inf.bytes : Int) * c ≤ 281474976710656) (h63 : c < 2 ^ 63) :
    ∃ w', runOp P ρ (.makeSlice t x y) w = .ok (.value (.slice (some ⟨w.heap.size, 0, none⟩) l.toNat c.toNat)) w' ∧ Has w' w.heap.size (List.replicate c.toNat z.cells.toList).flatten ∧ Keeps [] w w' ∧ w'.heap.size = w.heap.size + 1 := by
  have h := run_make (P := P) w t e inf z ht hi hz k1 k2 l c h0 hlc hb (by omega)
  refine ⟨w.alloc (.cells (madeCells z.cells (c.toNat * inf.size)) e), ?_, ?_, keeps_alloc w _ _, by simp⟩
  · unfold runOp bareOp
    simp only [execOp, hx, hy, Sem.run_bind]
    rw [h]
    rfl
  · have e1 : madeCells z.cells (c.toNat * inf.size) = ⟨(List.replicate c.toNat z.cells.toList).flatten⟩ := by
      apply Array.ext'
      rw [← hzc, made_flat _ (by omega)]
    rw [e1]
    exact has_alloc w _ e

/-- append(nil, make([]T, n)...) -/
theorem a_appendZeros {t tx e : TypeId} {k' : IntKind} {inf : TypeInfo} {z : Value} {x y : Operand} {kk : IntKind} {m : Nat} (ht : P.underlying t = some (.slice e)) (htx : P.underlying tx = some (.int k')) (hi : P.info? e = some inf) (hz : inf.zero = some z)
    (hzc : z.cells.size = inf.size) (hpos : 0 < inf.size) (hx : ev ρ x = .slice none 0 0) (hy : ev ρ y = .int kk m) (h0 : 0 < m) (hb : m * inf.bytes ≤ 281474976710656) (h63 : m < 2 ^ 63) :
    ∃ cap w', runOp P ρ (.call { callee := .builtin .append, args := ⟨[x, y]⟩, argTypes := ⟨[t, tx]⟩ }) w = .ok (.value (.slice (some ⟨w.heap.size, 0, none⟩) m cap)) w' ∧ m ≤ cap ∧ cap < 2 ^ 63 ∧
      Has w' w.heap.size (List.replicate cap z.cells.toList).flatten ∧ Keeps [] w w' ∧ w'.heap.size = w.heap.size + 1 := by
  have h := Lib.run_append_nil_zeros (P := P) (ty := 0) w t tx e inf z kk k' ht htx hi hz m h0 hpos (by omega) hb
  have hge := grownCap_ge w m 0 e
  have hlt : grownCap w m 0 e < 2 ^ 63 := by
    have := grownCap_le_maxLen w m 0 e (by simp only [maxLen]; omega)
    simp only [maxLen] at this
    omega
  refine ⟨grownCap w m 0 e, w.drew.alloc (.cells (Builtin.zeroCells z.cells m ++ Builtin.zeroCells z.cells (grownCap w m 0 e - m)) e), ?_, hge, hlt, ?_, (keeps_drawn w _ _).trans (keeps_alloc w.drew _ _), by simp⟩
  · unfold runOp bareOp
    have e1 : (Array.map (ev ρ) ⟨[x, y]⟩ : Array Value) = ⟨[.slice none 0 0, .int kk m]⟩ := by simp [hx, hy]
    simp only [execOp, resolve, pure_bind, invoke, builtin, Sem.run_bind, e1]
    rw [h]
    rfl
  · have hcells : (Builtin.zeroCells z.cells m ++ Builtin.zeroCells z.cells (grownCap w m 0 e - m) : Array Value) = ⟨(List.replicate (grownCap w m 0 e) z.cells.toList).flatten⟩ := by
      apply Array.ext'
      have hzm : ∀ n, (Builtin.zeroCells z.cells n).toList = (List.replicate n z.cells.toList).flatten := fun n => made_flat z.cells (by omega) n
      simp only [Array.toList_append, hzm]
      rw [← List.flatten_append, List.replicate_append_replicate]
      congr 2
      omega
    rw [hcells]
    exact has_alloc w.drew _ e

end

end Go.Kf


namespace Go.Kf

open Go

/-- The numbers of the types and variables that are named below. -/
structure Nums where
  tInt : Nat
  tBool : Nat
  tU8 : Nat
  tI8 : Nat
  tI16 : Nat
  tU16 : Nat
  tI32 : Nat
  tU32 : Nat
  tI64 : Nat
  tU64 : Nat
  tUint : Nat
  tStr : Nat
  tBytes : Nat
  tErr : Nat
  tPStr : Nat
  tUuid : Nat
  tRd : Nat
  tBig : Nat
  gBig : Nat
  gErr : Nat
  tTags : Nat
  tMap : Nat
  tKeys : Nat
  tTree : Nat
  tTrees : Nat
  tTagL : Nat
  tTag : Nat
  sTree : Nat
  sTrees : Nat
  sTagL : Nat
  sTag : Nat

/-- A function's tree, where it may be called. -/
def treeIn (P : Program) (f : Nat) (orc : Nat → Option Value) (ps : List Operand) (n : Nat) : Tr := match P.funcs[f]? with
  | some fn => bif goFn P f && Nat.ble n fn.ntmps then treeOf fn orc ps n else .stuck
  | none => .stuck

def noOrc : Nat → Option Value := fun _ => none

/-- An environment of these values. -/
def en (vs : List Value) : Nat → Value := fun i => vs.getD i undef

/-- A function by its tree. -/
theorem gives_in {P : Program} {f : Nat} {args : List Value} {w : World} {Post : Value → World → Prop} {orc : Nat → Option Value} {ps : List Operand} {n : Nat} {ρ : Nat → Value} {T : Tr}
    (hmix : P.follows .mixedOrders = true) (hT : treeIn P f orc ps n = T) (hn : args.length ≤ n) (hp : ps.map (ev ρ) = args) (hb : ∀ x ∈ ps, opBelow n x) (h : T.sem P Post [] n ρ w) : Gives P f args w Post := by
  unfold treeIn at hT
  cases hf : P.funcs[f]? with
  | none => rw [hf] at hT; subst hT; exact h.elim
  | some fn =>
    rw [hf] at hT
    simp only at hT
    cases hc : goFn P f && Nat.ble n fn.ntmps with
    | false => rw [hc] at hT; subst hT; exact h.elim
    | true =>
      rw [hc] at hT
      simp only [Bool.and_eq_true] at hc
      exact gives_of_tree hf hc.1 hmix (Nat.le_trans hn (Nat.le_of_ble_eq_true hc.2)) hT hp hb h

/-- What is left to be read; whether something was amiss; whether the slice is nil. -/
structure Rd where
  l : List UInt8
  bad : Bool
  isNil : Bool

def Rd.fail : Rd := ⟨[], true, true⟩

def nilOf : Value → Bool
  | .slice none _ _ => true
  | _ => false

/-- A slice of octets, which lie in block D or from lo on. -/
def OctAt (w : World) (D lo : Nat) (isNil : Bool) (l : List UInt8) (v : Value) : Prop := Reads w v 1 l.length (bcells l) ∧ nilOf v = isNil ∧ ∀ b ∈ blkOf v, b = D ∨ lo ≤ b

theorem OctAt.keep {w w' : World} {D lo : Nat} {isNil : Bool} {l : List UInt8} {v : Value} {M : List Nat} (h : OctAt w D lo isNil l v) (hk : Keeps M w w') (hm : ∀ b ∈ M, b ≠ D ∧ b < lo) : OctAt w' D lo isNil l v :=
  ⟨h.1.keep hk fun b hb hbM => (h.2.2 b hb).elim (hm b hbM).1 fun hle => by have := (hm b hbM).2; omega, h.2⟩

theorem OctAt.mono {w : World} {D lo lo' : Nat} {isNil : Bool} {l : List UInt8} {v : Value} (h : OctAt w D lo isNil l v) (hl : lo' ≤ lo) : OctAt w D lo' isNil l v :=
  ⟨h.1, h.2.1, fun b hb => (h.2.2 b hb).imp id fun x => Nat.le_trans hl x⟩

/-- The reader at block rb, over octets of block D alone. -/
def RdAt (w : World) (rb D : Nat) (r : Rd) : Prop := rb ≠ D ∧ D < w.heap.size ∧ ∃ v, Has w rb [v, .bool r.bad] ∧ Reads w v 1 r.l.length (bcells r.l) ∧ nilOf v = r.isNil ∧ ∀ b ∈ blkOf v, b = D

theorem RdAt.keep {w w' : World} {rb D : Nat} {r : Rd} {M : List Nat} (h : RdAt w rb D r) (hk : Keeps M w w') (h1 : rb ∉ M) (h2 : D ∉ M) : RdAt w' rb D r := by
  obtain ⟨hne, hD, v, hh, hr, hn, hb⟩ := h
  exact ⟨hne, Nat.lt_of_lt_of_le hD hk.size, v, hh.keep hk h1, hr.keep hk fun b hbv hbM => h2 (hb b hbv ▸ hbM), hn, hb⟩

def ptr (b : Nat) (o : Nat := 0) : Value := .pointer (some ⟨b, o, none⟩)

/-- The types' facts that the reader's functions ask. -/
structure RdFacts (P : Program) (c : Nums) : Prop where
  mix : P.follows .mixedOrders = true
  rd0 : fieldOff P c.tRd 0 = some 0
  rd1 : fieldOff P c.tRd 1 = some 1
  oneBytes : oneTy P c.tBytes = true
  oneBool : oneTy P c.tBool = true
  oneU8 : oneTy P c.tU8 = true
  oneErr : oneTy P c.tErr = true
  bytes : P.underlying c.tBytes = some (.slice c.tU8)
  u8 : P.underlying c.tU8 = some (.int .u8)
  str : P.underlying c.tStr = some .string
  szU8 : (P.info? c.tU8).map (·.size) = some 1
  int : P.underlying c.tInt = some (.int .i64)
  i16 : P.underlying c.tI16 = some (.int .i16)
  i32 : P.underlying c.tI32 = some (.int .i32)
  u32 : P.underlying c.tU32 = some (.int .u32)

section

variable {P : Program} {c : Nums} {R : Value → World → Prop} {Γ : List (List Value → World → Prop)} {n : Nat} {ρ : Nat → Value} {w : World} {k : Tr} {rb D : Nat} {r : Rd}

/-- p.field, read. -/
def gGet (p : Operand) (s i ty n : Nat) (k : Tr) : Tr :=
  .op (.nilCheck p) none [] <| .op (.fieldAddr s (.tmp n) i) none [] <| .op (.load ty (.tmp (n + 1))) none [] k

theorem ext_ext (ρ : Nat → Value) (n : Nat) (vs us : List Value) : ext (ext ρ n vs) (n + vs.length) us = ext ρ n (vs ++ us) := by
  funext m
  simp only [ext]
  split
  · split
    · rfl
    · rw [List.getD_eq_getElem?_getD, List.getD_eq_getElem?_getD, List.getElem?_append_left (by omega)]
  · rw [if_neg (by omega), List.getD_eq_getElem?_getD, List.getD_eq_getElem?_getD, List.getElem?_append_right (by omega)]
    congr 2
    omega

theorem s_get {p : Operand} {s i ty b o off : Nat} {cs : List Value} {v : Value} (hf : fieldOff P s i = some off) (h1 : oneTy P ty = true) (hp : ev ρ p = ptr b o) (hh : Has w b cs) (hv : cs[o + off]? = some v)
    (hk : k.sem P R Γ (n + 3) (ext ρ n [ptr b o, ptr b (o + off), v]) w) : (gGet p s i ty n k).sem P R Γ n ρ w := by
  refine s_val (v_nilCheck hp) (s_val (v_field hf ext_at) (s_lok (l_load1 h1 ext_at hh hv) ?_))
  have e1 := ext_ext ρ n [ptr b o] [ptr b (o + off)]
  have e2 := ext_ext ρ n [ptr b o, ptr b (o + off)] [v]
  simp only [List.length_cons, List.length_nil, List.cons_append, List.nil_append] at e1 e2
  simp only [ptr] at e1 e2 hk ⊢
  rw [e1, e2]
  exact hk

/-- p.field = x -/
def gSet (p : Operand) (s i ty : Nat) (x : Operand) (n : Nat) (k : Tr) : Tr :=
  .op (.nilCheck p) none [] <| .op (.fieldAddr s (.tmp n) i) none [] <| .op (.store ty (.tmp (n + 1)) x) none [] k

/-- An operand that is not of the tree from n on. -/
theorem ev_ext {x : Operand} {vs : List Value} (h : opBelow n x) : ev (ext ρ n vs) x = ev ρ x := by
  cases x with
  | tmp t => exact ext_lt h
  | _ => rfl

theorem s_set {p x : Operand} {s i ty b o off : Nat} {cs : List Value} {v : Value} (hf : fieldOff P s i = some off) (h1 : oneTy P ty = true) (hp : ev ρ p = ptr b o) (hx : ev ρ x = v) (hbx : opBelow n x) (hv : v.oneCell' = true) (hh : Has w b cs)
    (hl : o + off < cs.length) (hk : ∀ w', Has w' b (cs.set (o + off) v) → Keeps [b] w w' → k.sem P R Γ (n + 3) (ext ρ n [ptr b o, ptr b (o + off), undef]) w') : (gSet p s i ty x n k).sem P R Γ n ρ w := by
  have e1 := ext_ext ρ n [ptr b o] [ptr b (o + off)]
  have e2 := ext_ext ρ n [ptr b o, ptr b (o + off)] [undef]
  simp only [List.length_cons, List.length_nil, List.cons_append, List.nil_append] at e1 e2
  refine s_val (v_nilCheck hp) (s_val (v_field hf ext_at) ?_)
  simp only [ptr] at e1 e2 hk ⊢
  rw [e1]
  have hx' : ev (ext ρ n [.pointer (some ⟨b, o, none⟩), .pointer (some ⟨b, o + off, none⟩)]) x = v := by rw [ev_ext hbx, hx]
  obtain ⟨w', h2, h3, h4⟩ := a_store1 (P := P) (w := w) (t := ty) (x := .tmp (n + 1)) h1 (by rw [← e1]; exact ext_at) hx' hv hh hl
  refine s_unit h2 (fun p hp => (by cases hp)) ?_
  rw [show n + 1 + 1 = n + (0 + 1 + 1) from rfl, e2]
  exact hk w' h3 h4

/-- The reader gives up. -/
def gFail (c : Nums) (n : Nat) (k : Tr) : Tr := gSet (.tmp 0) c.tRd 1 c.tBool (.const (.bool true)) n (gSet (.tmp 0) c.tRd 0 c.tBytes (.const (.slice none 0 0)) (n + 3) k)

theorem s_fail (F : RdFacts P c) (h0 : 0 < n) (hp : ρ 0 = ptr rb) (h : RdAt w rb D r) (hk : ∀ w' vs, RdAt w' rb D .fail → Keeps [rb] w w' → k.sem P R Γ (n + 6) (ext ρ n vs) w') : (gFail c n k).sem P R Γ n ρ w := by
  obtain ⟨hne, hD, v, hh, _⟩ := h
  refine s_set F.rd1 F.oneBool hp rfl trivial rfl hh (by simp) fun w1 h1 k1 => ?_
  refine s_set F.rd0 F.oneBytes (show ext ρ n _ 0 = ptr rb from (ext_lt h0).trans hp) rfl trivial rfl h1 (by simp) fun w2 h2 k2 => ?_
  have e := ext_ext ρ n [ptr rb, ptr rb (0 + 1), undef] [ptr rb, ptr rb (0 + 0), undef]
  simp only [List.length_cons, List.length_nil] at e
  rw [show n + 3 = n + (0 + 1 + 1 + 1) from rfl, e]
  exact hk w2 _ ⟨hne, Nat.lt_of_lt_of_le hD (k1.trans k2).size, _, h2, ⟨rfl, .inl ⟨rfl, rfl⟩⟩, rfl, fun b hb => by cases hb⟩ (k1.trans k2)

def tOk (c : Nums) : Tr := gGet (.tmp 0) c.tRd 1 c.tBool 1 <| .op (.unOp .not c.tBool (.tmp 3)) none [] <| .ret [(.tmp 4, none)]

theorem ok_gives {f : Nat} (F : RdFacts P c) (hT : treeIn P f noOrc [.tmp 0] 1 = tOk c) (h : RdAt w rb D r) : Gives P f [ptr rb] w fun v w' => v = .bool (!r.bad) ∧ w' = w := by
  obtain ⟨hne, hD, v, hh, _⟩ := h
  refine gives_in (ρ := en [ptr rb]) F.mix hT (Nat.le_refl _) rfl (by simp [opBelow]) ?_
  refine s_get F.rd1 F.oneBool rfl hh rfl ?_
  refine s_val (v_not (b := r.bad) rfl) ?_
  exact s_ret1 ⟨rfl, rfl⟩

def tComplete (c : Nums) : Tr := gGet (.tmp 0) c.tRd 1 c.tBool 1 <| .cond (.tmp 3) (.op (.load c.tErr (.global c.gErr)) none [] <| .ret [(.tmp 4, none)]) (.ret [(.const .nilIface, none)])

/-- The error's variable. -/
def ErrAt (w : World) (g : Nat) (e : Value) : Prop := w.cell? ⟨g, 0, none⟩ = some e ∧ g < w.heap.size

theorem ErrAt.keep {w w' : World} {g : Nat} {e : Value} {M : List Nat} (h : ErrAt w g e) (hk : Keeps M w w') (hm : g ∉ M) : ErrAt w' g e := by
  refine ⟨?_, Nat.lt_of_lt_of_le h.2 hk.size⟩
  have h1 := h.1
  unfold World.cell? at h1 ⊢
  rw [show (⟨g, 0, none⟩ : Addr).block = g from rfl] at h1 ⊢
  rw [hk.block g h.2 hm]
  exact h1

theorem complete_gives {f : Nat} {e : Value} (F : RdFacts P c) (hT : treeIn P f noOrc [.tmp 0] 1 = tComplete c) (h : RdAt w rb D r) (he : ErrAt w c.gErr e) : Gives P f [ptr rb] w fun v w' => v = (if r.bad then e else .nilIface) ∧ w' = w := by
  obtain ⟨hne, hD, v, hh, _⟩ := h
  refine gives_in (ρ := en [ptr rb]) F.mix hT (Nat.le_refl _) rfl (by simp [opBelow]) ?_
  refine s_get F.rd1 F.oneBool rfl hh rfl ?_
  refine s_cond (b := r.bad) rfl (fun hb => ?_) fun hb => ?_
  · have h1 : runOp P (ext (en [ptr rb]) 1 [ptr rb, ptr rb (0 + 1), Value.bool r.bad]) (.load c.tErr (.global c.gErr)) w = .ok (.value e) w := by
      unfold runOp bareOp
      simp only [execOp, ev, Instr.loadAt, Instr.sureAddr, loadVar, Sem.run_bind, Sem.run_pure, Result.andThen_ok, (oneTy_spec (w := w) F.oneErr).1, Bool.false_eq_true, if_false, run_load, he.1]
    exact s_lok h1 (s_ret1 ⟨by rw [hb]; rfl, rfl⟩)
  · exact s_ret1 ⟨by rw [hb]; rfl, rfl⟩

end

end Go.Kf


namespace Go.Kf

open Go

theorem Reads.form {w : World} {v : Value} {sz n : Nat} {xs : List Value} (h : Reads w v sz n xs) : ∃ a c, v = .slice a n c ∧ n ≤ c ∧ (a = none → n = 0 ∧ c = 0) := by
  rcases h.2 with ⟨rfl, rfl⟩ | ⟨b, o, cap, cs, rfl, hc, _⟩
  · exact ⟨none, 0, rfl, Nat.le_refl _, fun _ => ⟨rfl, rfl⟩⟩
  · exact ⟨_, cap, rfl, hc, fun h => by cases h⟩

theorem Keeps.ofBelow {w w' : World} (h : RowKit.Below w.heap.size w w') : Keeps [] w w' := ⟨h.os, h.tape, h.output, h.size, fun k hk _ => h.block k hk⟩

section

variable {P : Program} {c : Nums} {R : Value → World → Prop} {Γ : List (List Value → World → Prop)} {n : Nat} {ρ : Nat → Value} {w : World} {k : Tr} {rb D : Nat} {r : Rd}

/-- b.Src = b.Src[x:] -/
def gAdvance (c : Nums) (x : Operand) (n : Nat) (k : Tr) : Tr :=
  gGet (.tmp 0) c.tRd 0 c.tBytes n <| .op (.slice c.tBytes (.tmp (n + 2)) (some x) none none) none [] <| gSet (.tmp 0) c.tRd 0 c.tBytes (.tmp (n + 3)) (n + 4) k

/-- b.Src, read. -/
def gSrc (c : Nums) (n : Nat) (k : Tr) : Tr := gGet (.tmp 0) c.tRd 0 c.tBytes n k

theorem s_src (F : RdFacts P c) (hp : ρ 0 = ptr rb) (h : RdAt w rb D r) (hk : ∀ v, OctAt w D (D + 1) r.isNil r.l v → (∀ b ∈ blkOf v, b = D) → Has w rb [v, .bool r.bad] → k.sem P R Γ (n + 3) (ext ρ n [ptr rb, ptr rb, v]) w) : (gSrc c n k).sem P R Γ n ρ w := by
  obtain ⟨hne, hD, v, hh, hr, hn, hb⟩ := h
  exact s_get F.rd0 F.oneBytes hp hh rfl (hk v ⟨hr, hn, fun b hb' => .inl (hb b hb')⟩ hb hh)

theorem from_ok {w : World} {v : Value} {l : List UInt8} {m : Nat} {a : Option Addr} {cp : Nat} (hv : v = .slice a l.length cp) (hr : Reads w v 1 l.length (bcells l)) (hm : m ≤ l.length) :
    Reads w (.slice (if cp = m then a else a.map (·.add (m * 1))) (l.length - m) (cp - m)) 1 (l.drop m).length (bcells (l.drop m)) := by
  subst hv
  have := Reads.from hr hm
  rw [Nat.mul_one, bcells_drop] at this
  rw [List.length_drop, Nat.mul_one]
  exact this

theorem nilOf_from {a : Option Addr} {m l cp : Nat} {f : Addr → Addr} (l' cp' : Nat) : nilOf (.slice (if cp = m then a else a.map f) l cp') = nilOf (.slice a l' cp) := by
  split
  · cases a <;> rfl
  · cases a <;> rfl

theorem blkOf_from {a : Option Addr} {m l cp l' cp' j : Nat} : blkOf (.slice (if cp = m then a else a.map (·.add j)) l cp') = blkOf (.slice a l' cp) := by
  have : ∀ x : Addr, (x.add j).block = x.block := fun x => by unfold Addr.add; split <;> rfl
  split
  · cases a <;> rfl
  · cases a with
    | none => rfl
    | some x => simp [blkOf, this]

theorem s_advance {x : Operand} {kk : IntKind} {m : Nat} (F : RdFacts P c) (h0 : 0 < n) (hp : ρ 0 = ptr rb) (hx : ev ρ x = .int kk m) (hbx : opBelow n x) (hm : m ≤ r.l.length) (h : RdAt w rb D r)
    (hk : ∀ w' vs, RdAt w' rb D { r with l := r.l.drop m } → Keeps [rb] w w' → k.sem P R Γ (n + 7) (ext ρ n vs) w') : (gAdvance c x n k).sem P R Γ n ρ w := by
  obtain ⟨hne, hD, v, hh, hr, hn, hb⟩ := h
  refine s_get F.rd0 F.oneBytes hp hh rfl ?_
  obtain ⟨a, cp, hv, hcp, _⟩ := hr.form
  have e : ev (ext ρ n [ptr rb, ptr rb (0 + 0), v]) (.tmp (n + 2)) = .slice a r.l.length cp := by
    show ext ρ n _ (n + 2) = _
    rw [ext_ge]; exact hv
  refine s_val (v_sliceFrom (k := kk) (i := m) F.bytes F.szU8 e (by rw [ev_ext hbx]; exact hx) (by omega) (by omega)) ?_
  have e1 := fun u => ext_ext ρ n [ptr rb, ptr rb (0 + 0), v] [u]
  simp only [List.length_cons, List.length_nil, List.cons_append, List.nil_append] at e1
  rw [show n + 3 = n + (0 + 1 + 1 + 1) from rfl, e1]
  refine s_set (n := n + (0 + 1 + 1 + 1) + 1) F.rd0 F.oneBytes (show ext ρ n _ 0 = ptr rb from (ext_lt h0).trans hp) (show ext ρ n _ (n + 3) = _ from ext_ge) (by simp [opBelow]) (by rfl) hh (by simp) fun w' h1 k1 => ?_
  have e2 := fun us => ext_ext ρ n [ptr rb, ptr rb (0 + 0), v, .slice (if cp = (m : Int).toNat then a else a.map fun x => x.add ((m : Int).toNat * 1)) (r.l.length - (m : Int).toNat) (cp - (m : Int).toNat)] us
  simp only [List.length_cons, List.length_nil] at e2
  rw [show n + (0 + 1 + 1 + 1) + 1 = n + (0 + 1 + 1 + 1 + 1) from rfl, e2]
  refine hk w' _ ⟨hne, Nat.lt_of_lt_of_le hD k1.size, _, h1, ?_, ?_, ?_⟩ k1
  · have := (from_ok hv hr hm).keep k1 (by
      intro b hb'
      rw [blkOf_from (l' := r.l.length), ← hv] at hb'
      simp only [List.mem_singleton]
      exact fun e => hne (e ▸ hb b hb'))
    simpa using this
  · show nilOf (.slice _ _ _) = _
    rw [nilOf_from r.l.length, ← hv, hn]
  · intro b hb'
    refine hb b ?_
    rw [hv]
    have h5 : b ∈ blkOf (Value.slice (if cp = (m : Int).toNat then a else a.map fun x => x.add ((m : Int).toNat * 1)) (r.l.length - (m : Int).toNat) (cp - (m : Int).toNat)) := hb'
    rw [blkOf_from (l' := r.l.length)] at h5
    exact h5

def rFix (N : Nat) (r : Rd) : Nat × Rd := if r.l.length < N then (0, .fail) else (Lib.beNat (r.l.take N), { r with l := r.l.drop N })

/-- What encoding/binary's function does. -/
def BeGives (P : Program) (f N : Nat) (kk : IntKind) : Prop := ∀ (w : World) (v : Value) (l : List UInt8), N ≤ l.length → Reads w v 1 l.length (bcells l) → Gives P f [.agg #[], v] w fun u w' => u = .int kk (Lib.beNat (l.take N)) ∧ Keeps [] w w'

/-- A reader's function that reads a number. -/
def RdNum (P : Program) (f N : Nat) (kk : IntKind) : Prop := ∀ (w : World) (rb D : Nat) (r : Rd), RdAt w rb D r → Gives P f [ptr rb] w fun v w' => v = .int kk (kk.wrap (rFix N r).1) ∧ RdAt w' rb D (rFix N r).2 ∧ Keeps [rb] w w'

def gBe (c : Nums) (f : Nat) (k : Tr) : Tr :=
  .draw <| .lok (.load c.tBig (.global c.gBig)) none <| .pur (.nilCheck (.tmp 0)) none <| .pur (.fieldAddr c.tRd (.tmp 7) 0) none <| .lok (.load c.tBytes (.tmp 8)) none <| .op (callOp f [.tmp 6, .tmp 9]) none [] k

def tFix (c : Nums) (f : Nat) (N : Int) (kk : IntKind) (t1 t2 : Nat) : Tr :=
  gSrc c 1 <| .op (.call { callee := .builtin .len, args := ⟨[.tmp 3]⟩, argTypes := ⟨[c.tBytes]⟩ }) none [] <| .op (.binOp .lss c.tInt (.tmp 4) (.const (.int .i64 N)) c.tInt) none [] <|
  .cond (.tmp 5) (gFail c 6 <| .ret [(.const (.int kk 0), none)]) <| gBe c f <| .op (.convert t1 t2 (.tmp 10)) none [] <| gAdvance c (.const (.int .i64 N)) 12 <| .ret [(.tmp 11, none)]

theorem l_loadNone {t : Nat} {x : Operand} {a : Addr} (ht : aggTy P t = some 0) (hx : ev ρ x = .pointer (some a)) : runOp P ρ (.load t x) w = .ok (.value (.agg #[])) w := by
  have h1 := aggTy_spec (w := w) ht
  unfold runOp bareOp
  simp only [execOp, hx, Instr.loadAt, Instr.sureAddr, loadVar, Sem.run_bind, Sem.run_pure, Result.andThen_ok, h1.1, if_true, size_run h1.2]
  rfl

theorem fix_gives {f g N : Nat} {kk k0 : IntKind} {t1 t2 : Nat} {d1 : TypeDesc} (F : RdFacts P c) (h1 : P.underlying t1 = some d1) (h2 : P.underlying t2 = some (.int kk)) (hg : BeGives P g N k0) (hz : kk.wrap 0 = 0)
    (hT : treeIn P f noOrc [.tmp 0] 1 = tFix c g N kk t1 t2) (hbig : aggTy P c.tBig = some 0) : RdNum P f N kk := by
  intro w rb D r h
  refine gives_in (ρ := en [ptr rb]) F.mix hT (Nat.le_refl _) rfl (by simp [opBelow]) ?_
  refine s_src F rfl h fun v hv hbv hh => ?_
  obtain ⟨a, cp, hav, hcp, hnil⟩ := hv.1.form
  refine s_val (v_len (a := a) (l := r.l.length) (c := cp) F.bytes hav) ?_
  refine s_val (v_cmp (kk := .i64) (a := r.l.length) (b := N) (r := decide ((r.l.length : Int) < N)) rfl rfl rfl) ?_
  refine s_cond (b := decide ((r.l.length : Int) < N)) rfl (fun hb => ?_) fun hb => ?_
  · have hlt : r.l.length < N := by simpa using hb
    refine s_fail F (by omega) rfl h fun w' vs h' k' => ?_
    refine s_ret1 ⟨?_, ?_, k'⟩
    · simp [rFix, hlt, hz, ev]
    · simp [rFix, hlt, h']
  · have hge : ¬ r.l.length < N := by simpa using hb
    have hw1 : Keeps [] w { w with drawn := w.drawn + 1 } := keeps_drawn w _ _
    have h' : RdAt { w with drawn := w.drawn + 1 } rb D r := h.keep hw1 (by simp) (by simp)
    have hh' := hh.keep hw1 (by simp)
    refine l_lok (l_loadNone hbig rfl) ?_
    refine p_val (v_nilCheck (a := ⟨rb, 0, none⟩) rfl) (p_val (v_field (b := rb) (o := 0) F.rd0 rfl) (l_lok (l_load1 (b := rb) (o := 0) F.oneBytes rfl hh' rfl) ?_))
    refine s_call0 (hg _ v r.l (by omega) (hv.1.keep hw1 (by simp))) fun u w1 ⟨hu, k1⟩ => ?_
    refine s_val (v_conv (k1 := k0) (a := Lib.beNat (r.l.take N)) h1 h2 hu) ?_
    refine s_advance (kk := .i64) (m := N) F (by omega) rfl rfl trivial (by omega) (h'.keep k1 (by simp) (by simp)) fun w2 vs h2 k2 => ?_
    refine s_ret1 ⟨?_, ?_, (hw1.mono (by simp)).trans ((k1.mono (by simp)).trans k2)⟩
    · simp [rFix, hge, ev, ext]
    · simpa [rFix, hge] using h2

/-- So many octets; whether they are nil. -/
def rSpan (m : Int) (r : Rd) : (List UInt8 × Bool) × Rd := if (r.l.length : Int) < m ∨ m < 0 then (([], true), .fail) else ((r.l.take m.toNat, r.isNil), { r with l := r.l.drop m.toNat })

def tSpan (c : Nums) : Tr :=
  gSrc c 2 <| .op (.call { callee := .builtin .len, args := ⟨[.tmp 4]⟩, argTypes := ⟨[c.tBytes]⟩ }) none [] <| .op (.binOp .lss c.tInt (.tmp 5) (.tmp 1) c.tInt) none [] <|
  .cond (.tmp 6) (gFail c 7 <| .ret [(.const (.slice none 0 0), none)]) <| .op (.binOp .lss c.tInt (.tmp 1) (.const (.int .i64 0)) c.tInt) none [] <|
  .cond (.tmp 7) (gFail c 8 <| .ret [(.const (.slice none 0 0), none)]) <| gSrc c 8 <| .op (.slice c.tBytes (.tmp 10) none (some (.tmp 1)) (some (.tmp 1))) none [] <| gAdvance c (.tmp 1) 12 <| .ret [(.tmp 11, none)]

def RdSpan (P : Program) (f : Nat) : Prop := ∀ (w : World) (rb D lo : Nat) (r : Rd) (m : Int), RdAt w rb D r → Gives P f [ptr rb, .int .i64 m] w fun v w' =>
  OctAt w' D lo (rSpan m r).1.2 (rSpan m r).1.1 v ∧ RdAt w' rb D (rSpan m r).2 ∧ Keeps [rb] w w'

theorem octAt_nil (w : World) (D lo : Nat) : OctAt w D lo true [] (.slice none 0 0) := ⟨⟨rfl, .inl ⟨rfl, rfl⟩⟩, rfl, fun b hb => by cases hb⟩

theorem span_gives {f : Nat} (F : RdFacts P c) (hT : treeIn P f noOrc [.tmp 0, .tmp 1] 2 = tSpan c) : RdSpan P f := by
  intro w rb D lo r m h
  refine gives_in (ρ := en [ptr rb, .int .i64 m]) F.mix hT (Nat.le_refl _) rfl (by simp [opBelow]) ?_
  refine s_src F rfl h fun v hv hbv hh => ?_
  obtain ⟨a, cp, hav, hcp, hnil⟩ := hv.1.form
  refine s_val (v_len (a := a) (l := r.l.length) (c := cp) F.bytes hav) ?_
  refine s_val (v_cmp (kk := .i64) (a := r.l.length) (b := m) (r := decide ((r.l.length : Int) < m)) rfl rfl rfl) ?_
  refine s_cond (b := decide ((r.l.length : Int) < m)) rfl (fun hb => ?_) fun hb => ?_
  · have hlt : (r.l.length : Int) < m := by simpa using hb
    refine s_fail F (by omega) rfl h fun w' vs h' k' => ?_
    refine s_ret1 ?_
    simp only [rSpan, hlt, true_or, if_true]
    exact ⟨octAt_nil w' D lo, h', k'⟩
  · have hge : ¬ (r.l.length : Int) < m := by simpa using hb
    refine s_val (v_cmp (kk := .i64) (a := m) (b := 0) (r := decide (m < 0)) rfl rfl rfl) ?_
    refine s_cond (b := decide (m < 0)) rfl (fun hb => ?_) fun hb => ?_
    · have hlt : m < 0 := by simpa using hb
      refine s_fail F (by omega) rfl h fun w' vs h' k' => ?_
      refine s_ret1 ?_
      simp only [rSpan, hlt, or_true, if_true]
      exact ⟨octAt_nil w' D lo, h', k'⟩
    · have h0 : ¬ m < 0 := by simpa using hb
      obtain ⟨q, rfl⟩ : ∃ q : Nat, m = q := ⟨m.toNat, by omega⟩
      have hq : q ≤ r.l.length := by omega
      refine s_src F rfl h fun v2 hv2 hbv2 hh2 => ?_
      obtain ⟨a2, cp2, hav2, hcp2, hnil2⟩ := hv2.1.form
      refine s_val (v_slice3 (k := .i64) (k' := .i64) (a := a2) (l := r.l.length) (c := cp2) (h := q) F.bytes F.szU8 hav2 rfl rfl (by omega) (by omega)) ?_
      refine s_advance (kk := .i64) (m := q) F (by omega) rfl rfl (by simp [opBelow]) hq h fun w2 vs h2 k2 => ?_
      refine s_ret1 ?_
      simp only [rSpan, hge, h0, or_self, if_false]
      refine ⟨?_, by simpa using h2, k2⟩
      have hr2 := hv2.1
      have hr3 : Reads w (.slice a2 q q) 1 q ((bcells r.l).take (q * 1)) := Reads.to (v := .slice a2 q q) (m := q) (hav2 ▸ hr2) hq q (Nat.le_refl _) (fun e => by have := hnil2 e; omega) rfl
      rw [Nat.mul_one, bcells_take] at hr3
      have hblk : blkOf (.slice a2 q q) = blkOf v2 := by rw [hav2]; cases a2 <;> rfl
      suffices hs : ∀ u, u = .slice a2 q q → OctAt w2 D lo r.isNil (r.l.take (q : Int).toNat) u from hs _ rfl
      rintro u rfl
      refine ⟨?_, ?_, fun b hb => .inl (hbv2 b (hblk ▸ hb))⟩
      · have := hr3.keep k2 (by
          intro b hb hbM
          rw [hblk] at hb
          simp only [List.mem_singleton] at hbM
          exact h.1 (hbM ▸ hbv2 b hb))
        simpa [List.length_take, Nat.min_eq_left hq] using this
      · rw [← hv2.2.1, hav2]
        cases a2 <;> rfl

end

end Go.Kf


namespace Go.Kf

open Go

section

variable {P : Program} {ρ : Nat → Value}

theorem v_bits {op : BinOp} {t u : Nat} {x y : Operand} {kk : IntKind} {a b r : Int} (ho : op = .and ∨ op = .or) (hx : ev ρ x = .int kk a) (hy : ev ρ y = .int kk b) (h : bits op kk a b = r) : Val P ρ (.binOp op t x y u) (.int kk r) := fun w => by
  unfold runOp bareOp
  simp only [execOp, hx, hy]
  subst h
  rcases ho with rfl | rfl
  · simp [eqGuard, binOp, Op.intBits, bits]
  · simp [eqGuard, binOp, Op.intBits, bits]

end

/-- What is left of a number from its octet i on. -/
def uvarAt (i x : Nat) : List UInt8 → Nat × Int
  | [] => (0, 0)
  | b :: r => if i = 4 then (if b.toNat ≤ 15 then (x + b.toNat * 2 ^ 28, 5) else (0, -5)) else if b.toNat < 128 then (x + b.toNat * 2 ^ (7 * i), ((i + 1 : Nat) : Int)) else uvarAt (i + 1) (x + b.toNat % 128 * 2 ^ (7 * i)) r

def uvar (l : List UInt8) : Nat × Int := uvarAt 0 0 l

theorem ev_ext' {x : Operand} {ρ : Nat → Value} {n m : Nat} {vs : List Value} (h : opBelow n x) (hle : n ≤ m) : ev (ext ρ m vs) x = ev ρ x := ev_ext (by
  cases x with
  | tmp t => exact Nat.lt_of_lt_of_le h hle
  | _ => trivial)

section

variable {P : Program} {c : Nums} {R : Value → World → Prop} {Γ : List (List Value → World → Prop)} {n : Nat} {ρ : Nat → Value} {w : World} {k : Tr} {v : Value} {l : List UInt8}

end

end Go.Kf


namespace Go.Kf

open Go

/-- A struct's zero cells, and its fields' places. -/
def buildPlan (P : Program) (t : TypeId) : Option (List Value × List (Nat × Nat)) := match P.info? t with
  | some inf => match inf.zero with
    | some z => match P.underlying t with
      | some (.struct fs) => match fs.toList.mapM (fun f => (P.info? f.type).map fun i => (f.offset, i.size)) with
        | some ps => some (z.cells.toList, ps)
        | none => none
      | _ => none
    | none => none
  | none => none

/-- Parts of one cell each, set. -/
def fillOnes (ps : List (Nat × Nat)) (z : List Value) : List (Nat × Value) → Option (List Value)
  | [] => some z
  | (i, v) :: r => match ps[i]? with
    | some (off, size) => if size = 1 ∧ off < z.length then fillOnes ps (z.set off v) r else none
    | none => none

theorem cells_one {v : Value} (h : v.oneCell' = true) : v.cells = #[v] := by
  cases v <;> first | rfl | (cases h; done)

theorem fill_ones (ps : List (Nat × Nat)) : ∀ (xs : List (Nat × Value)) (z cells : List Value), (∀ p ∈ xs, p.2.oneCell' = true) → fillOnes ps z xs = some cells → Instr.fill (fun i => ps[i]?) ⟨z⟩ xs = some ⟨cells⟩
  | [], z, cells, _, h => by
    simp only [fillOnes, Option.some.injEq] at h
    subst h
    rfl
  | (i, v) :: r, z, cells, h1, h => by
    have hv : v.cells = #[v] := cells_one (h1 (i, v) List.mem_cons_self)
    simp only [fillOnes] at h
    cases hp : ps[i]? with
    | none => rw [hp] at h; cases h
    | some q =>
      obtain ⟨off, size⟩ := q
      rw [hp] at h
      simp only at h
      split at h
      · rename_i hc
        obtain ⟨rfl, ho⟩ := hc
        have ih := fill_ones ps r (z.set off v) cells (fun p hp => h1 p (List.mem_cons_of_mem _ hp)) h
        unfold Instr.fill
        simp only [hp, hv]
        rw [if_neg (by simp; omega)]
        rw [← ih]
        congr 1
        simp
      · cases h

section

variable {P : Program} {ρ : Nat → Value} {w : World}

theorem s_retAgg {R : Value → World → Prop} {Γ : List (List Value → World → Prop)} {n : Nat} {x : Operand} {t b : Nat} {cs : List Value} (hx : ev ρ x = ptr b) (hh : Has w b cs) (ht : aggTy P t = some cs.length) (h : R (.agg ⟨cs⟩) w) :
    (Tr.ret [(x, some t)]).sem P R Γ n ρ w := by
  refine ⟨[.agg ⟨cs⟩], ?_, h⟩
  have h1 := aggTy_spec (w := w) ht
  have h2 := loadCells_run (P := P) (n := cs.length) (o := 0) hh (by omega)
  simp only [List.drop_zero, List.take_length] at h2
  simp only [evRet, List.map_cons, List.map_nil, hx, ptr, retVals, asAddr, Sem.run_bind, Sem.run_pure, Result.andThen_ok, loadVar, h1.1, if_true, size_run h1.2, h2]

theorem built_of_plan {t : Nat} {z : List Value} {ps : List (Nat × Nat)} (hp : buildPlan P t = some (z, ps)) (xs : List (Nat × Value)) : P.built t xs = Instr.fill (fun i => ps[i]?) ⟨z⟩ xs := by
  unfold buildPlan at hp
  cases hi : P.info? t with
  | none => simp only [hi] at hp; cases hp
  | some inf =>
    simp only [hi] at hp
    cases hz : inf.zero with
    | none => simp only [hz] at hp; cases hp
    | some zv =>
      simp only [hz] at hp
      split at hp
      · rename_i fs hu
        split at hp
        · rename_i ps' hm
          simp only [Option.some.injEq, Prod.mk.injEq] at hp
          obtain ⟨rfl, rfl⟩ := hp
          simp [Program.built, hi, hu, hz, hm]
        · cases hp
      · cases hp

/-- A struct literal. -/
theorem v_build {t : Nat} {xs : List (Nat × Operand)} {z cells : List Value} {ps : List (Nat × Nat)} (hp : buildPlan P t = some (z, ps)) (h1 : ∀ p ∈ xs, (ev ρ p.2).oneCell' = true) (hf : fillOnes ps z (xs.map fun p => (p.1, ev ρ p.2)) = some cells) :
    Val P ρ (.build t ⟨xs⟩) (.agg ⟨cells⟩) := fun w => by
  have h := run_build (P := P) w t ⟨xs.map fun p => (p.1, ev ρ p.2)⟩ ⟨cells⟩ (by
    rw [built_of_plan hp]
    refine fill_ones ps _ z cells (fun p hp => ?_) hf
    obtain ⟨q, hq, rfl⟩ := List.mem_map.1 hp
    exact h1 q hq)
  unfold runOp bareOp
  simp only [execOp, Sem.run_bind]
  rw [show (Array.map (fun x : Nat × Operand => (x.1, ev ρ x.2)) ⟨xs⟩ : Array (Nat × Value)) = ⟨xs.map fun p => (p.1, ev ρ p.2)⟩ by simp]
  rw [h]
  rfl

/-- []T{} -/
theorem a_sliceEmpty {t e sz : Nat} (ht : P.underlying t = some (.slice e)) (hs : (P.info? e).map (·.size) = some sz) :
    ∃ w', runOp P ρ (.buildSlice t 0 ⟨[]⟩) w = .ok (.value (.slice (some ⟨w.heap.size, 0, none⟩) 0 0)) w' ∧ Has w' w.heap.size [] ∧ Keeps [] w w' ∧ w'.heap.size = w.heap.size + 1 := by
  refine ⟨{ w with heap := w.heap.push (.cells ⟨[]⟩ e) }, ?_, has_alloc w _ e, keeps_alloc w _ _, by simp⟩
  unfold runOp bareOp
  simp only [execOp, Instr.buildSlice, Sem.run_bind, run_under ht, Result.andThen_ok, size_run hs]
  have e0 : ∀ f : Nat → Value, Array.map f (Array.range 0) = ⟨[]⟩ := fun f => by simp [Array.range]
  simp [Instr.fill, newRow]
  rw [e0]

/-- []T{x} -/
theorem a_sliceOne {t e : Nat} {x : Operand} {z : Value} {cs : List Value} (ht : P.underlying t = some (.slice e)) (hz : zeroTy P e = some (z, cs.length)) (hpos : 0 < cs.length) (hsm : cs.length ≤ 1024) (hx : (ev ρ x).cells = ⟨cs⟩) :
    ∃ w', runOp P ρ (.buildSlice t 1 ⟨[(0, x)]⟩) w = .ok (.value (.slice (some ⟨w.heap.size, 0, none⟩) 1 1)) w' ∧ Has w' w.heap.size cs ∧ Keeps [] w w' ∧ w'.heap.size = w.heap.size + 1 := by
  have hs := zeroTy_spec (w := w) hz
  refine ⟨{ w with heap := w.heap.push (.cells ⟨cs⟩ e) }, ?_, has_alloc w _ e, keeps_alloc w _ _, by simp⟩
  have hfold : ∀ (l : List Value) (i : Nat) (acc : Array Value), i + l.length = acc.size → (l.zipIdx i).foldl (fun (a : Array Value) (p : Value × Nat) => a.setIfInBounds p.2 p.1) acc = ⟨acc.toList.take i ++ l⟩ := by
    intro l
    induction l with
    | nil =>
      intro i acc h
      simp only [List.length_nil] at h
      apply Array.ext'
      simp only [List.zipIdx_nil, List.foldl_nil, List.append_nil]
      rw [List.take_of_length_le (by simp; omega)]
    | cons v l ih =>
      intro i acc h
      simp only [List.length_cons] at h
      simp only [List.zipIdx_cons, List.foldl_cons]
      rw [ih (i + 1) _ (by simp; omega)]
      congr 1
      simp only [Array.toList_setIfInBounds]
      rw [List.take_set, List.take_succ_eq_append_getElem (by simp; omega), List.set_append_right _ _ (by simp; omega)]
      have h3 : i - (acc.toList.take i).length = 0 := by simp; omega
      rw [h3]
      simp
  have hfill : Instr.fill (fun i => some (i * cs.length, cs.length)) ((Array.range (1 * cs.length)).map (z.cells[· % z.cells.size]!)) [(0, ev ρ x)] = some ⟨cs⟩ := by
    unfold Instr.fill
    simp only [hx]
    rw [if_neg (by simp)]
    have := hfold cs 0 ((Array.range (1 * cs.length)).map (z.cells[· % z.cells.size]!)) (by simp)
    simp only [List.take_zero, List.nil_append] at this
    simp only [Instr.fill, Option.some.injEq]
    refine Eq.trans ?_ this
    simp
  unfold runOp bareOp
  simp only [execOp, Instr.buildSlice, Sem.run_bind, run_under ht, Result.andThen_ok, size_run hs.2]
  have hn : ¬ (1 * cs.length > 2 ^ 24) := by omega
  have hn2 : ¬ (1 * cs.length = 0) := by omega
  rw [if_neg hn]
  simp only [Sem.run_pure, Result.andThen_ok, if_neg hn2, Sem.run_bind, hs.1]
  have e1 : (Array.map (fun x : Nat × Operand => (x.1, ev ρ x.2)) ⟨[(0, x)]⟩).toList = [(0, ev ρ x)] := by simp
  simp only [e1, hfill]
  simp [newRow]

end

end Go.Kf

namespace Go.Kf

open Go

theorem uvarAt_le : ∀ (l : List UInt8) (i x : Nat), i ≤ 4 → (uvarAt i x l).2 ≤ (i + l.length : Nat)
  | [], i, x, _ => by simp only [uvarAt]; omega
  | b :: r, i, x, hi => by
    simp only [uvarAt]
    split
    · split
      · simp only [List.length_cons]; omega
      · simp only [List.length_cons]; omega
    · split
      · simp only [List.length_cons]; omega
      · have := uvarAt_le r (i + 1) (x + b.toNat % 128 * 2 ^ (7 * i)) (by omega)
        simp only [List.length_cons]; omega

/-- A count in groups. -/
def rUv (r : Rd) : Nat × Rd := if (uvar r.l).2 ≤ 0 then (0, .fail) else ((uvar r.l).1, { r with l := r.l.drop (uvar r.l).2.toNat })

/-- A reader's function that yields a value that its pure twin tells. -/
def RdPure (P : Program) (f : Nat) (p : Rd → Value × Rd) : Prop := ∀ (w : World) (rb D : Nat) (r : Rd), RdAt w rb D r → Gives P f [ptr rb] w fun v w' => v = (p r).1 ∧ RdAt w' rb D (p r).2 ∧ Keeps [rb] w w'

section

variable {P : Program} {c : Nums} {R : Value → World → Prop} {Γ : List (List Value → World → Prop)} {n : Nat} {ρ : Nat → Value} {w : World} {k : Tr} {rb D : Nat} {r : Rd}

def rLen (r : Rd) : Int × Rd :=
  let n := IntKind.i32.wrap (rFix 4 r).1
  if ((rFix 4 r).2.l.length : Int) < n then (0, .fail) else (n, (rFix 4 r).2)

def rCLen (r : Rd) : Int × Rd :=
  let n := IntKind.i32.wrap (IntKind.i32.wrap (rUv r).1 - 1)
  if ((rUv r).2.l.length : Int) < n then (0, .fail) else (n, (rUv r).2)

/-- Behind the length, which is x. -/
def gLenTail (c : Nums) (x : Operand) (n : Nat) : Tr :=
  gSrc c n <| .op (.call { callee := .builtin .len, args := ⟨[.tmp (n + 2)]⟩, argTypes := ⟨[c.tBytes]⟩ }) none [] <| .op (.convert c.tI32 c.tInt x) none [] <| .op (.binOp .lss c.tInt (.tmp (n + 3)) (.tmp (n + 4)) c.tInt) none [] <|
  .cond (.tmp (n + 5)) (gFail c (n + 6) <| .ret [(.const (.int .i32 0), none)]) (.ret [(x, none)])

def tArrayLen (c : Nums) (f : Nat) : Tr := .op (callOp f [.tmp 0]) none [] <| gLenTail c (.tmp 1) 2

theorem i32_wrap_range (x : Int) : -2147483648 ≤ IntKind.i32.wrap x ∧ IntKind.i32.wrap x < 2147483648 := by
  rw [IntKind.wrap_i32]; omega

theorem i64_small {x : Int} (h1 : -9223372036854775808 ≤ x) (h2 : x < 9223372036854775808) : IntKind.i64.wrap x = x := by
  rw [IntKind.wrap_i64]; omega

theorem s_lenTail {x : Operand} {m : Int} (F : RdFacts P c) (h0 : 0 < n) (hp : ρ 0 = ptr rb) (hx : ev ρ x = .int .i32 m) (hbx : opBelow n x) (h1 : -2147483648 ≤ m ∧ m < 2147483648) (h : RdAt w rb D r)
    (hR : ∀ w', RdAt w' rb D (if (r.l.length : Int) < m then Rd.fail else r) → Keeps [rb] w w' → R (.int .i32 (if (r.l.length : Int) < m then 0 else m)) w') : (gLenTail c x n).sem P R Γ n ρ w := by
  refine s_src F hp h fun v hv hbv hh => ?_
  obtain ⟨a, cp, hav, hcp, hnil⟩ := hv.1.form
  refine s_val (v_len (a := a) (l := r.l.length) (c := cp) F.bytes ((show ext ρ n _ (n + 2) = _ from ext_ge).trans hav)) ?_
  refine s_val (v_conv (k1 := .i32) (a := m) F.i32 F.int (by rw [ev_ext' hbx, ev_ext' hbx] <;> first | exact hx | omega)) ?_
  rw [i64_small (by omega) (by omega)]
  refine s_val (v_cmp (kk := .i64) (a := r.l.length) (b := m) (r := decide ((r.l.length : Int) < m)) (by simp [ev, ext]) (by simp [ev, ext]) rfl) ?_
  refine s_cond (b := decide ((r.l.length : Int) < m)) (by simp [ev, ext]) (fun hb => ?_) fun hb => ?_
  · have hlt : (r.l.length : Int) < m := by simpa using hb
    refine s_fail (n := n + 6) F (by omega) (by simp [ext, h0, hp]) h fun w' vs h' k' => ?_
    refine s_ret1 ?_
    have := hR w'
    rw [if_pos hlt, if_pos hlt] at this
    exact this h' k'
  · have hge : ¬ (r.l.length : Int) < m := by simpa using hb
    refine s_ret1 ?_
    have := hR w
    rw [if_neg hge, if_neg hge] at this
    rw [ev_ext' hbx, ev_ext' hbx, ev_ext' hbx, ev_ext' hbx, hx] <;> first | exact this h .refl | omega

theorem arrayLen_gives {f g : Nat} (F : RdFacts P c) (hg : RdNum P g 4 .i32) (hT : treeIn P f noOrc [.tmp 0] 1 = tArrayLen c g) : RdPure P f fun r => (.int .i32 (rLen r).1, (rLen r).2) := by
  intro w rb D r h
  refine gives_in (ρ := en [ptr rb]) F.mix hT (Nat.le_refl _) rfl (by simp [opBelow]) ?_
  refine s_call0 (hg w rb D r h) fun u w1 ⟨hu, h', k1⟩ => ?_
  refine s_lenTail (m := IntKind.i32.wrap (rFix 4 r).1) F (by omega) rfl hu (by simp [opBelow]) (i32_wrap_range _) h' fun w' h2 k2 => ?_
  refine ⟨?_, ?_, k1.trans k2⟩
  · simp only [rLen]
    split <;> rfl
  · simp only [rLen]
    split at h2
    · rename_i hc; rw [if_pos hc]; exact h2
    · rename_i hc; rw [if_neg hc]; exact h2

def rStr (r : Rd) : List UInt8 × Rd := let x := rSpan (IntKind.i16.wrap (rFix 2 r).1) (rFix 2 r).2; (x.1.1, x.2)

def rCStr (r : Rd) : List UInt8 × Rd := let x := rSpan ((rUv r).1 - 1) (rUv r).2; (x.1.1, x.2)

def rNStr (r : Rd) : Option (List UInt8) × Rd := if IntKind.i16.wrap (rFix 2 r).1 < 0 then (none, (rFix 2 r).2) else let x := rSpan (IntKind.i16.wrap (rFix 2 r).1) (rFix 2 r).2; (some x.1.1, x.2)

def rCNStr (r : Rd) : Option (List UInt8) × Rd := if ((rUv r).1 : Int) - 1 < 0 then (none, (rUv r).2) else let x := rSpan ((rUv r).1 - 1) (rUv r).2; (some x.1.1, x.2)

def RdStr (P : Program) (f : Nat) (p : Rd → List UInt8 × Rd) : Prop := RdPure P f fun r => (.string (strOf (p r).1), (p r).2)

/-- How octets become a text: in place, or by a function. -/
def gText (c : Nums) (g : Option Nat) (x : Operand) (k : Tr) : Tr := match g with
  | none => .op (.convert c.tBytes c.tStr x) none [] k
  | some g => .op (callOp g [x]) none [] k

def tUnsafeString (c : Nums) : Tr := .op (.convert c.tBytes c.tStr (.tmp 0)) none [] <| .ret [(.tmp 1, none)]

/-- kbin.UnsafeString -/
def TextGives (P : Program) (f : Nat) : Prop := ∀ (w : World) (v : Value) (l : List UInt8), Reads w v 1 l.length (bcells l) → Gives P f [v] w fun u w' => u = .string (strOf l) ∧ w' = w

theorem unsafeString_gives {f : Nat} (F : RdFacts P c) (hT : treeIn P f noOrc [.tmp 0] 1 = tUnsafeString c) : TextGives P f := by
  intro w v l hr
  refine gives_in (ρ := en [v]) F.mix hT (Nat.le_refl _) rfl (by simp [opBelow]) ?_
  refine s_lok (l_bytesString F.bytes F.u8 F.str rfl hr) ?_
  exact s_ret1 ⟨rfl, rfl⟩

theorem s_text {g : Option Nat} {x : Operand} {v : Value} {l : List UInt8} (F : RdFacts P c) (hg : ∀ q, g = some q → TextGives P q) (hx : ev ρ x = v) (hr : Reads w v 1 l.length (bcells l))
    (hk : k.sem P R Γ (n + 1) (ext ρ n [.string (strOf l)]) w) : (gText c g x k).sem P R Γ n ρ w := by
  cases g with
  | none => exact s_lok (l_bytesString F.bytes F.u8 F.str hx hr) hk
  | some q =>
    have h := hg q rfl w v l hr
    rw [← hx] at h
    refine s_call0 (xs := [x]) h fun u w' hp => ?_
    obtain ⟨rfl, rfl⟩ := hp
    exact hk

def tString (c : Nums) (f s : Nat) (g : Option Nat) : Tr :=
  .op (callOp f [.tmp 0]) none [] <| .op (.convert c.tI16 c.tInt (.tmp 1)) none [] <| .op (callOp s [.tmp 0, .tmp 2]) none [] <| gText c g (.tmp 3) <| .ret [(.tmp 4, none)]

theorem i16_wrap_range (x : Int) : -32768 ≤ IntKind.i16.wrap x ∧ IntKind.i16.wrap x < 32768 := by
  simp [IntKind.wrap, IntKind.bits, IntKind.signed]
  split <;> omega

theorem string_gives {f q s : Nat} {g : Option Nat} (F : RdFacts P c) (hq : RdNum P q 2 .i16) (hs : RdSpan P s) (hg : ∀ x, g = some x → TextGives P x) (hT : treeIn P f noOrc [.tmp 0] 1 = tString c q s g) : RdStr P f rStr := by
  intro w rb D r h
  refine gives_in (ρ := en [ptr rb]) F.mix hT (Nat.le_refl _) rfl (by simp [opBelow]) ?_
  refine s_call0 (hq w rb D r h) fun u w1 ⟨hu, h1, k1⟩ => ?_
  refine s_val (v_conv (k1 := .i16) (a := IntKind.i16.wrap (rFix 2 r).1) F.i16 F.int hu) ?_
  have hr := i16_wrap_range (rFix 2 r).1
  rw [i64_small (by omega) (by omega)]
  refine s_call0 (hs w1 rb D 0 _ _ h1) fun v w2 ⟨hv, h2, k2⟩ => ?_
  refine s_text F hg rfl hv.1 ?_
  exact s_ret1 ⟨rfl, h2, k1.trans k2⟩

/-- A text, or none: a pointer. -/
def NStrAt (w : World) (lo : Nat) : Option (List UInt8) → Value → Prop
  | none, v => v = .pointer none
  | some l, v => ∃ b, lo ≤ b ∧ v = ptr b ∧ Has w b [.string (strOf l)]

theorem NStrAt.keep {w w' : World} {lo : Nat} {o : Option (List UInt8)} {v : Value} {M : List Nat} (h : NStrAt w lo o v) (hk : Keeps M w w') (hm : ∀ b ∈ M, b < lo) : NStrAt w' lo o v := by
  cases o with
  | none => exact h
  | some l =>
    obtain ⟨b, hb, hv, hh⟩ := h
    exact ⟨b, hb, hv, hh.keep hk fun hbM => by have := hm b hbM; omega⟩

theorem NStrAt.mono {w : World} {lo lo' : Nat} {o : Option (List UInt8)} {v : Value} (h : NStrAt w lo o v) (hl : lo' ≤ lo) : NStrAt w lo' o v := by
  cases o with
  | none => exact h
  | some l =>
    obtain ⟨b, hb, hv⟩ := h
    exact ⟨b, Nat.le_trans hl hb, hv⟩

def RdNStr (P : Program) (f : Nat) (p : Rd → Option (List UInt8) × Rd) : Prop := ∀ (w : World) (rb D : Nat) (r : Rd), RdAt w rb D r → Gives P f [ptr rb] w fun v w' => NStrAt w' w.heap.size (p r).1 v ∧ RdAt w' rb D (p r).2 ∧ Keeps [rb] w w'

/-- A variable that holds x. -/
def gNew (t : Nat) (x : Operand) (n : Nat) : Tr := .op (.alloc t) none [] <| .op (.store t (.tmp n) x) none [] <| .ret [(.tmp n, none)]

theorem s_new {t : Nat} {x : Operand} {z v : Value} (hz : zeroTy P t = some (z, 1)) (hzc : z.cells.size = 1) (h1 : oneTy P t = true) (hx : ev ρ x = v) (hbx : opBelow n x) (hv : v.oneCell' = true)
    (hR : ∀ w', Has w' w.heap.size [v] → Keeps [] w w' → R (ptr w.heap.size) w') : (gNew t x n).sem P R Γ n ρ w := by
  obtain ⟨w1, e1, h2, k2, _⟩ := a_alloc (P := P) (ρ := ρ) (w := w) hz
  refine s_act e1 (fun p hp => (by cases hp)) ?_
  obtain ⟨w2, e2, h3, k3⟩ := a_store1 (P := P) (ρ := ext ρ n [.pointer (some ⟨w.heap.size, 0, none⟩)]) (w := w1) (x := .tmp n) (y := x) (b := w.heap.size) (o := 0) h1 ext_at (by rw [ev_ext hbx]; exact hx) hv h2 (by simp [hzc])
  refine s_unit e2 (fun p hp => (by cases hp)) ?_
  refine s_ret1 ?_
  have e4 : ev (ext (ext ρ n [.pointer (some ⟨w.heap.size, 0, none⟩)]) (n + 1) [undef]) (.tmp n) = ptr w.heap.size := by simp [ev, ext, ptr]
  rw [e4]
  refine hR w2 ?_ (((k2.mono (by simp)).trans k3).less fun x hx => .inr (by simp at hx; omega))
  have : z.cells.toList.set 0 v = [v] := by
    have hl : z.cells.toList.length = 1 := by simpa using hzc
    match z.cells.toList, hl with
    | [a], _ => rfl
  rw [← this]
  exact h3

def tNullableString (c : Nums) (f s : Nat) (g : Option Nat) : Tr :=
  .op (callOp f [.tmp 0]) none [] <| .op (.binOp .lss c.tI16 (.tmp 1) (.const (.int .i16 0)) c.tI16) none [] <|
  .cond (.tmp 2) (.ret [(.const (.pointer none), none)]) <| .op (.convert c.tI16 c.tInt (.tmp 1)) none [] <| .op (callOp s [.tmp 0, .tmp 3]) none [] <| gText c g (.tmp 4) <| gNew c.tStr (.tmp 5) 6

structure StrFacts (P : Program) (c : Nums) : Prop where
  zero : ∃ z, zeroTy P c.tStr = some (z, 1) ∧ z.cells.size = 1
  one : oneTy P c.tStr = true

theorem nullableString_gives {f q s : Nat} {g : Option Nat} (F : RdFacts P c) (S : StrFacts P c) (hq : RdNum P q 2 .i16) (hs : RdSpan P s) (hg : ∀ x, g = some x → TextGives P x) (hT : treeIn P f noOrc [.tmp 0] 1 = tNullableString c q s g) : RdNStr P f rNStr := by
  intro w rb D r h
  refine gives_in (ρ := en [ptr rb]) F.mix hT (Nat.le_refl _) rfl (by simp [opBelow]) ?_
  refine s_call0 (hq w rb D r h) fun u w1 ⟨hu, h1, k1⟩ => ?_
  refine s_val (v_cmp (kk := .i16) (a := IntKind.i16.wrap (rFix 2 r).1) (b := 0) (r := decide (IntKind.i16.wrap (rFix 2 r).1 < 0)) hu rfl rfl) ?_
  refine s_cond (b := decide (IntKind.i16.wrap (rFix 2 r).1 < 0)) rfl (fun hb => ?_) fun hb => ?_
  · have hlt : IntKind.i16.wrap (rFix 2 r).1 < 0 := by simpa using hb
    refine s_ret1 ?_
    simp only [rNStr, if_pos hlt]
    exact ⟨rfl, h1, k1⟩
  · have hge : ¬ IntKind.i16.wrap (rFix 2 r).1 < 0 := by simpa using hb
    refine s_val (v_conv (k1 := .i16) (a := IntKind.i16.wrap (rFix 2 r).1) F.i16 F.int hu) ?_
    have hr := i16_wrap_range (rFix 2 r).1
    rw [i64_small (by omega) (by omega)]
    refine s_call0 (hs w1 rb D 0 _ _ h1) fun v w2 ⟨hv, h2, k2⟩ => ?_
    refine s_text F hg rfl hv.1 ?_
    obtain ⟨z, hz, hzc⟩ := S.zero
    refine s_new (n := 6) hz hzc S.one rfl (by simp [opBelow]) rfl fun w3 h3 k3 => ?_
    simp only [rNStr, if_neg hge]
    have hw := (k1.trans k2).size
    exact ⟨⟨w2.heap.size, hw, rfl, h3⟩, h2.keep k3 (by simp) (by simp), (k1.trans k2).trans (k3.mono (by simp))⟩

def RdOct (P : Program) (f : Nat) (p : Rd → (List UInt8 × Bool) × Rd) : Prop := ∀ (w : World) (rb D : Nat) (r : Rd), RdAt w rb D r → Gives P f [ptr rb] w fun v w' => OctAt w' D w.heap.size (p r).1.2 (p r).1.1 v ∧ RdAt w' rb D (p r).2 ∧ Keeps [rb] w w'

def rBytes (r : Rd) : (List UInt8 × Bool) × Rd := if IntKind.i32.wrap (rFix 4 r).1 = -1 then (([], false), (rFix 4 r).2) else rSpan (IntKind.i32.wrap (rFix 4 r).1) (rFix 4 r).2

def rCBytes (r : Rd) : (List UInt8 × Bool) × Rd := if ((rUv r).1 : Int) - 1 = -1 then (([], false), (rUv r).2) else rSpan ((rUv r).1 - 1) (rUv r).2

def rNBytes (r : Rd) : (List UInt8 × Bool) × Rd := if IntKind.i32.wrap (rFix 4 r).1 < 0 then (([], true), (rFix 4 r).2) else rSpan (IntKind.i32.wrap (rFix 4 r).1) (rFix 4 r).2

def rCNBytes (r : Rd) : (List UInt8 × Bool) × Rd := if ((rUv r).1 : Int) - 1 < 0 then (([], true), (rUv r).2) else rSpan ((rUv r).1 - 1) (rUv r).2

def tRdNBytes (c : Nums) (f s : Nat) : Tr :=
  .op (callOp f [.tmp 0]) none [] <| .op (.binOp .lss c.tI32 (.tmp 1) (.const (.int .i32 0)) c.tI32) none [] <|
  .cond (.tmp 2) (.ret [(.const (.slice none 0 0), none)]) <| .op (.convert c.tI32 c.tInt (.tmp 1)) none [] <| .op (callOp s [.tmp 0, .tmp 3]) none [] <| .ret [(.tmp 4, none)]

theorem nullableBytes_gives {f q s : Nat} (F : RdFacts P c) (hq : RdNum P q 4 .i32) (hs : RdSpan P s) (hT : treeIn P f noOrc [.tmp 0] 1 = tRdNBytes c q s) : RdOct P f rNBytes := by
  intro w rb D r h
  refine gives_in (ρ := en [ptr rb]) F.mix hT (Nat.le_refl _) rfl (by simp [opBelow]) ?_
  refine s_call0 (hq w rb D r h) fun u w1 ⟨hu, h1, k1⟩ => ?_
  refine s_val (v_cmp (kk := .i32) (a := IntKind.i32.wrap (rFix 4 r).1) (b := 0) (r := decide (IntKind.i32.wrap (rFix 4 r).1 < 0)) hu rfl rfl) ?_
  refine s_cond (b := decide (IntKind.i32.wrap (rFix 4 r).1 < 0)) rfl (fun hb => ?_) fun hb => ?_
  · have he : IntKind.i32.wrap (rFix 4 r).1 < 0 := by simpa using hb
    refine s_ret1 ?_
    simp only [rNBytes, if_pos he]
    exact ⟨octAt_nil _ _ _, h1, k1⟩
  · have hne : ¬ IntKind.i32.wrap (rFix 4 r).1 < 0 := by simpa using hb
    refine s_val (v_conv (k1 := .i32) (a := IntKind.i32.wrap (rFix 4 r).1) F.i32 F.int hu) ?_
    have hr := i32_wrap_range (rFix 4 r).1
    rw [i64_small (by omega) (by omega)]
    refine s_call0 (hs w1 rb D w.heap.size _ _ h1) fun v w2 ⟨hv, h2, k2⟩ => ?_
    refine s_ret1 ?_
    simp only [rNBytes, if_neg hne]
    exact ⟨hv, h2, k1.trans k2⟩

/-- So many octets at the beginning of n noughts. -/
def padTo (n : Nat) (l : List UInt8) : List UInt8 := l.take n ++ List.replicate (n - l.length) 0

def rUuid (r : Rd) : List UInt8 × Rd := let x := rSpan 16 r; (padTo 16 x.1.1, x.2)

structure UuidFacts (P : Program) (c : Nums) : Prop where
  arr : P.underlying c.tUuid = some (.array 16 c.tU8)
  agg : aggTy P c.tUuid = some 16
  zero : ∃ z, zeroTy P c.tUuid = some (z, 16) ∧ z.cells.toList = bcells (List.replicate 16 0)

theorem padTo_length (n : Nat) (l : List UInt8) : (padTo n l).length = n := by
  simp [padTo]; omega

end

end Go.Kf

namespace Go.Kf

open Go

/-- Unknown tags: numbers and octets, in the order in which they came. -/
abbrev TM := List (Nat × List UInt8)

inductive FV where
  | one (v : Value)
  | uuid (l : List UInt8)
  | text (l : List UInt8)
  | ntext (o : Option (List UInt8))
  | octs (isNil : Bool) (l : List UInt8)
  | tags (m : TM)
  | list (isNil : Bool) (rows : List (List FV))
  | ptr (o : Option (List FV))
  | sub (fs : List FV)

/-- A map's entries. -/
def EntAt (D : Nat) (w : World) (lo : Nat) (e : MapEntry) (p : Nat × List UInt8) : Prop := e.key = .int .u32 p.1 ∧ ∃ nl, OctAt w D lo nl p.2 e.val

def EntsAt (D : Nat) (w : World) (lo : Nat) : List MapEntry → TM → Prop
  | [], [] => True
  | e :: es, p :: m => EntAt D w lo e p ∧ EntsAt D w lo es m
  | _, _ => False

def TagsAt (D : Nat) (w : World) (lo : Nat) (m : TM) (v : Value) : Prop :=
  (v = .map none ∧ m = []) ∨ ∃ b es clock, lo ≤ b ∧ v = .map (some b) ∧ w.heap[b]? = some (.map es clock) ∧ EntsAt D w lo es.toList m ∧ es.toList.Pairwise (fun a b => a.born < b.born) ∧ (∀ e ∈ es.toList, e.born < clock) ∧
    (∀ p ∈ m, p.1 < 2 ^ 32) ∧ (m.map (·.1)).Nodup ∧ m ≠ []

mutual
def FAt (D : Nat) (w : World) (lo : Nat) : FV → List Value → Prop
  | .one v, cs => cs = [v] ∧ v.oneCell' = true
  | .uuid l, cs => cs = bcells l ∧ l.length = 16
  | .text l, cs => cs = [.string (strOf l)]
  | .ntext o, cs => ∃ v, cs = [v] ∧ NStrAt w lo o v
  | .octs nl l, cs => ∃ v, cs = [v] ∧ OctAt w D lo nl l v
  | .tags m, cs => ∃ v, cs = [v] ∧ TagsAt D w lo m v
  | .list nl rows, cs => (nl = true ∧ cs = [.slice none 0 0] ∧ rows = []) ∨ (nl = false ∧ ∃ b cap rcs, lo ≤ b ∧ cs = [.slice (some ⟨b, 0, none⟩) rows.length cap] ∧ rows.length ≤ cap ∧ Has w b rcs ∧ RowsAt D w (b + 1) rows rcs)
  | .ptr none, cs => cs = [.pointer none]
  | .ptr (some fs), cs => ∃ b ccs, lo ≤ b ∧ cs = [Kf.ptr b] ∧ Has w b ccs ∧ FsAt D w (b + 1) fs ccs
  | .sub fs, cs => FsAt D w lo fs cs
def FsAt (D : Nat) (w : World) (lo : Nat) : List FV → List Value → Prop
  | [], cs => cs = []
  | f :: fs, cs => ∃ c1 c2, cs = c1 ++ c2 ∧ FAt D w lo f c1 ∧ FsAt D w lo fs c2
def RowsAt (D : Nat) (w : World) (lo : Nat) : List (List FV) → List Value → Prop
  | [], _ => True
  | r :: rs, cs => ∃ c1 c2, cs = c1 ++ c2 ∧ FsAt D w lo r c1 ∧ RowsAt D w lo rs c2
end

theorem EntsAt.imp {D D' lo lo' : Nat} {w w' : World} (h : ∀ e p, EntAt D w lo e p → EntAt D' w' lo' e p) : ∀ {es : List MapEntry} {m : TM}, EntsAt D w lo es m → EntsAt D' w' lo' es m
  | [], [], _ => trivial
  | _ :: _, _ :: _, hh => ⟨h _ _ hh.1, EntsAt.imp h hh.2⟩
  | [], _ :: _, hh => hh.elim
  | _ :: _, [], hh => hh.elim

theorem TagsAt.keep {D lo : Nat} {w w' : World} {m : TM} {v : Value} {M : List Nat} (h : TagsAt D w lo m v) (hk : Keeps M w w') (hm : ∀ b ∈ M, b ≠ D ∧ b < lo) : TagsAt D w' lo m v := by
  rcases h with h | ⟨b, es, clock, hb, hv, hh, he, hr⟩
  · exact .inl h
  · have hlt : b < w.heap.size := (Array.getElem?_eq_some_iff.1 hh).1
    refine .inr ⟨b, es, clock, hb, hv, ?_, he.imp fun e p ⟨h1, nl, h2⟩ => ⟨h1, nl, h2.keep hk hm⟩, hr⟩
    rw [hk.block b hlt fun hbM => by have := (hm b hbM).2; omega]
    exact hh

theorem TagsAt.mono {D lo lo' : Nat} {w : World} {m : TM} {v : Value} (h : TagsAt D w lo m v) (hl : lo' ≤ lo) : TagsAt D w lo' m v := by
  rcases h with h | ⟨b, es, clock, hb, hv, hh, he, hr⟩
  · exact .inl h
  · exact .inr ⟨b, es, clock, Nat.le_trans hl hb, hv, hh, he.imp fun e p ⟨h1, nl, h2⟩ => ⟨h1, nl, h2.mono hl⟩, hr⟩

mutual
theorem FAt.keep {D : Nat} {w w' : World} {M : List Nat} (hk : Keeps M w w') (lo : Nat) (hm : ∀ b ∈ M, b ≠ D ∧ b < lo) : ∀ (f : FV) (cs : List Value), FAt D w lo f cs → FAt D w' lo f cs
  | .one _, _, h => h
  | .uuid _, _, h => h
  | .text _, _, h => h
  | .ntext _, _, ⟨v, e, h⟩ => ⟨v, e, h.keep hk fun b hb => (hm b hb).2⟩
  | .octs _ _, _, ⟨v, e, h⟩ => ⟨v, e, h.keep hk hm⟩
  | .tags _, _, ⟨v, e, h⟩ => ⟨v, e, h.keep hk hm⟩
  | .list _ _, _, .inl h => .inl h
  | .list _ rows, _, .inr ⟨e, b, cap, rcs, hb, hc, hl, hh, hr⟩ =>
    .inr ⟨e, b, cap, rcs, hb, hc, hl, hh.keep hk (fun hbM => by have := (hm b hbM).2; omega), RowsAt.keep hk (b + 1) (fun x hx => ⟨(hm x hx).1, by have := (hm x hx).2; omega⟩) rows rcs hr⟩
  | .ptr none, _, h => h
  | .ptr (some fs), _, ⟨b, ccs, hb, hc, hh, hf⟩ =>
    ⟨b, ccs, hb, hc, hh.keep hk (fun hbM => by have := (hm b hbM).2; omega), FsAt.keep hk (b + 1) (fun x hx => ⟨(hm x hx).1, by have := (hm x hx).2; omega⟩) fs ccs hf⟩
  | .sub fs, cs, h => FsAt.keep hk lo hm fs cs h
theorem FsAt.keep {D : Nat} {w w' : World} {M : List Nat} (hk : Keeps M w w') (lo : Nat) (hm : ∀ b ∈ M, b ≠ D ∧ b < lo) : ∀ (fs : List FV) (cs : List Value), FsAt D w lo fs cs → FsAt D w' lo fs cs
  | [], _, h => h
  | f :: fs, _, ⟨c1, c2, e, h1, h2⟩ => ⟨c1, c2, e, FAt.keep hk lo hm f c1 h1, FsAt.keep hk lo hm fs c2 h2⟩
theorem RowsAt.keep {D : Nat} {w w' : World} {M : List Nat} (hk : Keeps M w w') (lo : Nat) (hm : ∀ b ∈ M, b ≠ D ∧ b < lo) : ∀ (rs : List (List FV)) (cs : List Value), RowsAt D w lo rs cs → RowsAt D w' lo rs cs
  | [], _, h => h
  | r :: rs, _, ⟨c1, c2, e, h1, h2⟩ => ⟨c1, c2, e, FsAt.keep hk lo hm r c1 h1, RowsAt.keep hk lo hm rs c2 h2⟩
end

mutual
theorem FAt.mono {D : Nat} {w : World} {lo lo' : Nat} (hl : lo' ≤ lo) : ∀ (f : FV) (cs : List Value), FAt D w lo f cs → FAt D w lo' f cs
  | .one _, _, h => h
  | .uuid _, _, h => h
  | .text _, _, h => h
  | .ntext _, _, ⟨v, e, h⟩ => ⟨v, e, h.mono hl⟩
  | .octs _ _, _, ⟨v, e, h⟩ => ⟨v, e, h.mono hl⟩
  | .tags _, _, ⟨v, e, h⟩ => ⟨v, e, h.mono hl⟩
  | .list _ _, _, .inl h => .inl h
  | .list _ _, _, .inr ⟨e, b, cap, rcs, hb, h⟩ => .inr ⟨e, b, cap, rcs, Nat.le_trans hl hb, h⟩
  | .ptr none, _, h => h
  | .ptr (some _), _, ⟨b, ccs, hb, h⟩ => ⟨b, ccs, Nat.le_trans hl hb, h⟩
  | .sub fs, cs, h => FsAt.mono hl fs cs h
theorem FsAt.mono {D : Nat} {w : World} {lo lo' : Nat} (hl : lo' ≤ lo) : ∀ (fs : List FV) (cs : List Value), FsAt D w lo fs cs → FsAt D w lo' fs cs
  | [], _, h => h
  | f :: fs, _, ⟨c1, c2, e, h1, h2⟩ => ⟨c1, c2, e, FAt.mono hl f c1 h1, FsAt.mono hl fs c2 h2⟩
end

mutual
def FV.wd : FV → Nat
  | .uuid _ => 16
  | .sub fs => wds fs
  | _ => 1
def wds : List FV → Nat
  | [] => 0
  | f :: fs => f.wd + wds fs
end

mutual
theorem FAt.len {D : Nat} {w : World} {lo : Nat} : ∀ (f : FV) (cs : List Value), FAt D w lo f cs → cs.length = f.wd
  | .one _, _, ⟨e, _⟩ => by subst e; rfl
  | .uuid _, _, ⟨e, h⟩ => by subst e; simp [FV.wd, bcells_length, h]
  | .text _, _, e => by simp only [FAt] at e; subst e; rfl
  | .ntext _, _, ⟨v, e, _⟩ => by subst e; rfl
  | .octs _ _, _, ⟨v, e, _⟩ => by subst e; rfl
  | .tags _, _, ⟨v, e, _⟩ => by subst e; rfl
  | .list _ _, _, .inl ⟨_, e, _⟩ => by subst e; rfl
  | .list _ _, _, .inr ⟨_, _, _, _, _, e, _⟩ => by subst e; rfl
  | .ptr none, _, e => by simp only [FAt] at e; subst e; rfl
  | .ptr (some _), _, ⟨_, _, _, e, _⟩ => by subst e; rfl
  | .sub fs, cs, h => FsAt.len fs cs h
theorem FsAt.len {D : Nat} {w : World} {lo : Nat} : ∀ (fs : List FV) (cs : List Value), FsAt D w lo fs cs → cs.length = wds fs
  | [], _, h => by simp only [FsAt] at h; subst h; rfl
  | f :: fs, _, ⟨c1, c2, e, h1, h2⟩ => by subst e; simp [wds, FAt.len f c1 h1, FsAt.len fs c2 h2]
end

/-- The field i, its cells, and what is about it. -/
theorem FsAt.split {D : Nat} {w : World} {lo : Nat} : ∀ {fs : List FV} {cs : List Value} {i : Nat} {f : FV}, FsAt D w lo fs cs → fs[i]? = some f → ∃ a m z, cs = a ++ m ++ z ∧ a.length = wds (fs.take i) ∧ FAt D w lo f m ∧
    ∀ (f' : FV) (m' : List Value), FAt D w lo f' m' → FsAt D w lo (fs.set i f') (a ++ m' ++ z)
  | [], _, _, _, _, hi => by simp at hi
  | g :: fs, _, 0, f, ⟨c1, c2, e, h1, h2⟩, hi => by
    simp only [List.getElem?_cons_zero, Option.some.injEq] at hi
    subst hi
    exact ⟨[], c1, c2, by simpa using e, rfl, h1, fun f' m' h' => ⟨m', c2, by simp, h', h2⟩⟩
  | g :: fs, _, i + 1, f, ⟨c1, c2, e, h1, h2⟩, hi => by
    simp only [List.getElem?_cons_succ] at hi
    obtain ⟨a, m, z, e2, hl, hf, hset⟩ := FsAt.split h2 hi
    refine ⟨c1 ++ a, m, z, by rw [e, e2]; simp, ?_, hf, fun f' m' h' => ⟨c1, a ++ m' ++ z, by simp, h1, hset f' m' h'⟩⟩
    simp [wds, List.take_succ_cons, FAt.len g c1 h1, hl]

end Go.Kf

namespace Go.Kf

open Go

/-- A tag more, or said again. -/
def tmSet : TM → Nat → List UInt8 → TM
  | [], k, l => [(k, l)]
  | p :: m, k, l => if p.1 = k then (k, l) :: m else p :: tmSet m k l

def rTagsN : Nat → TM → Rd → TM × Rd
  | 0, m, r => (m, r)
  | n + 1, m, r => rTagsN n (tmSet m (rUv r).1 (rSpan (rUv (rUv r).2).1 (rUv (rUv r).2).2).1.1) (rSpan (rUv (rUv r).2).1 (rUv (rUv r).2).2).2

def rTags (r : Rd) : TM × Rd := rTagsN (rUv r).1 [] (rUv r).2

def rBool (r : Rd) : Bool × Rd := ((rFix 1 r).1 != 0, (rFix 1 r).2)

/-- The kinds of what a function of the reader reads. -/
inductive PK where
  | num (N : Nat) (k : IntKind)
  | bool
  | str
  | cstr
  | nstr
  | cnstr
  | bytes
  | cbytes
  | nbytes
  | cnbytes
  | uuid
  | tags

def PK.run : PK → Rd → FV × Rd
  | .num N k, r => (.one (.int k (k.wrap (rFix N r).1)), (rFix N r).2)
  | .bool, r => (.one (.bool (rBool r).1), (rBool r).2)
  | .str, r => (.text (rStr r).1, (rStr r).2)
  | .cstr, r => (.text (rCStr r).1, (rCStr r).2)
  | .nstr, r => (.ntext (rNStr r).1, (rNStr r).2)
  | .cnstr, r => (.ntext (rCNStr r).1, (rCNStr r).2)
  | .bytes, r => (.octs (rBytes r).1.2 (rBytes r).1.1, (rBytes r).2)
  | .cbytes, r => (.octs (rCBytes r).1.2 (rCBytes r).1.1, (rCBytes r).2)
  | .nbytes, r => (.octs (rNBytes r).1.2 (rNBytes r).1.1, (rNBytes r).2)
  | .cnbytes, r => (.octs (rCNBytes r).1.2 (rCNBytes r).1.1, (rCNBytes r).2)
  | .uuid, r => (.uuid (rUuid r).1, (rUuid r).2)
  | .tags, r => (.tags (rTags r).1, (rTags r).2)

def PK.wd : PK → Nat
  | .uuid => 16
  | _ => 1

theorem PK.run_wd (pk : PK) (r : Rd) : (pk.run r).1.wd = pk.wd := by cases pk <;> rfl

/-- How a list's length is read; of the latter two an empty list is one that is not nil. -/
inductive LenK where
  | len
  | clen
  | nlen
  | nclen

def LenK.run : LenK → Rd → Int × Rd
  | .len => rLen
  | .clen => rCLen
  | .nlen => rLen
  | .nclen => rCLen

def LenK.nul : LenK → Bool
  | .len => false
  | .clen => false
  | .nlen => true
  | .nclen => true

def LenK.sh (lk : LenK) : Nat := bif lk.nul then 2 else 0

/-- Is the list nil, that says it has so many? -/
def LenK.nilAt (lk : LenK) (m : Int) : Bool := bif lk.nul then decide (m < 0) else decide (m ≤ 0)

/-- What Default sets: a field (its number, its type, where it lies) to a value; a part's fields. -/
inductive Dset where
  | set (i ty off : Nat) (v : Value)
  | sub (i off T : Nat) (lsS : List Nat) (ds : List Dset)

mutual
def applyD1 : Dset → List FV → List FV
  | .set i _ _ v, fs => fs.set i (.one v)
  | .sub i _ _ _ ds, fs => match fs[i]? with
    | some (.sub gs) => fs.set i (.sub (applyD ds gs))
    | _ => fs
def applyD : List Dset → List FV → List FV
  | [], fs => fs
  | d :: ds, fs => applyD ds (applyD1 d fs)
end

def Dset.idx : Dset → Nat
  | .set i _ _ _ => i
  | .sub i _ _ _ _ => i

mutual
/-- A part that is set lies there. -/
def dPre : Dset → List FV → Bool
  | .set .., _ => true
  | .sub i _ _ lsS ds, fs => match fs[i]? with
    | some (.sub gs) => decide (gs.map FV.wd = lsS) && shapesOk gs ds
    | _ => false
def shapesOk (fs : List FV) : List Dset → Bool
  | [] => true
  | d :: ds => dPre d fs && ds.all (fun t => !Nat.beq t.idx d.idx) && shapesOk fs ds
end

theorem dPre_set {fs : List FV} {i : Nat} {f : FV} {d : Dset} (hne : i ≠ d.idx) : dPre d (fs.set i f) = dPre d fs := by
  cases d <;> simp only [dPre, Dset.idx] at hne ⊢
  rw [List.getElem?_set_ne hne]

theorem shapesOk_set {fs : List FV} {i : Nat} {f : FV} : ∀ {ds : List Dset}, ds.all (fun t => !Nat.beq t.idx i) = true → shapesOk fs ds = true → shapesOk (fs.set i f) ds = true
  | [], _, _ => rfl
  | d :: ds, h1, h2 => by
    simp only [List.all_cons, Bool.and_eq_true, Bool.not_eq_true'] at h1
    simp only [shapesOk, Bool.and_eq_true] at h2 ⊢
    have hne : i ≠ d.idx := fun e => by
      have := h1.1
      rw [e] at this
      simp at this
    exact ⟨⟨by rw [dPre_set hne]; exact h2.1.1, h2.1.2⟩, shapesOk_set h1.2 h2.2⟩

/-- How a struct is read. -/
inductive Step where
  | call (pk : PK) (f i ty off : Nat)
  | uuid (f i off : Nat)
  | listP (lk : LenK) (fl i tySl off : Nat) (pk : PK) (f T : Nat)
  | listS (lk : LenK) (fl i tySl off T sz fDef : Nat) (dflt : List FV) (ss : List Step)
  | sub (i off T fDef : Nat) (ds : List Dset) (lsS : List Nat) (ss : List Step)
  | strP (pk : PK) (f i ty off : Nat)
  | ghost

def readP (pk : PK) : Nat → Rd → List (List FV) × Rd
  | 0, r => ([], r)
  | n + 1, r => ([(pk.run r).1] :: (readP pk n (pk.run r).2).1, (readP pk n (pk.run r).2).2)

/-- So many, one after another. -/
def readS (g : Rd → Option (List FV × Rd)) : Nat → Rd → Option (List (List FV) × Rd)
  | 0, r => some ([], r)
  | n + 1, r => match g r with
    | some (x, r1) => match readS g n r1 with
      | some (xs, r2) => some (x :: xs, r2)
      | none => none
    | none => none

mutual
def runStep : Step → List FV → Rd → Option (List FV × Rd)
  | .call pk _ i _ _, fs, r => some (fs.set i (pk.run r).1, (pk.run r).2)
  | .uuid _ i _, fs, r => some (fs.set i (PK.uuid.run r).1, (PK.uuid.run r).2)
  | .listP lk _ i _ _ pk _ _, fs, r =>
    if (lk.run r).2.bad then none else some (fs.set i (.list (lk.nilAt (lk.run r).1) (readP pk (lk.run r).1.toNat (lk.run r).2).1), (readP pk (lk.run r).1.toNat (lk.run r).2).2)
  | .listS lk _ i _ _ _ _ _ dflt ss, fs, r =>
    if (lk.run r).2.bad then none else match readS (fun r => runSteps ss dflt r) (lk.run r).1.toNat (lk.run r).2 with
      | some (xs, r2) => some (fs.set i (.list (lk.nilAt (lk.run r).1) xs), r2)
      | none => none
  | .sub i _ _ _ ds _ ss, fs, r => match fs[i]? with
    | some (.sub gs) => match runSteps ss (applyD ds gs) r with
      | some (gs', r') => some (fs.set i (.sub gs'), r')
      | none => none
    | _ => none
  | .strP pk _ i _ _, fs, r => match (pk.run r).1 with
    | .text l => some (fs.set i (.ntext (some l)), (pk.run r).2)
    | _ => none
  | .ghost, fs, r => some (fs, r)
def runSteps : List Step → List FV → Rd → Option (List FV × Rd)
  | [], fs, r => some (fs, r)
  | s :: ss, fs, r => match runStep s fs r with
    | some (fs', r') => runSteps ss fs' r'
    | none => none
end

structure Fns where
  ok : Nat
  complete : Nat

mutual
def Step.isList : Step → Bool
  | .listP .. => true
  | .listS .. => true
  | .sub _ _ _ _ _ _ ss => hasRet ss
  | .ghost => true
  | _ => false
def hasRet : List Step → Bool
  | [] => false
  | s :: ss => s.isList || hasRet ss
end

/-- What an empty list is where it may be null. -/
def gNul (c : Nums) (lk : LenK) (tySl n d : Nat) (k : Operand → Tr) : Tr := match lk.nul with
  | false => k (.tmp (n + 2))
  | true => .op (.binOp .eql c.tI32 (.tmp (n + 3)) (.const (.int .i32 0)) c.tI32) none [] <|
    .join d (.cond (.tmp (n + 4)) (.op (.buildSlice tySl 0 ⟨[]⟩) none [] <| .to d [.tmp (n + 5)]) (.to d [.tmp (n + 2)])) 1 (k (.tmp (n + 5)))

def gListTail (c : Nums) (e : Fns) (rd : Operand) (tySl q m d : Nat) (x : Operand) (k : Tr) : Tr :=
  .op (callOp e.ok [rd]) none [] <| .op (.unOp .not c.tBool (.tmp (m + 4))) none [] <|
  .cond (.tmp (m + 5)) (.op (callOp e.complete [rd]) none [] <| .ret [(.tmp (m + 6), none)]) <|
  .op (.slice tySl x none (some (.const (.int .i64 0))) none) none [] <| .op (.binOp .gtr c.tI32 (.tmp q) (.const (.int .i32 0)) c.tI32) none [] <|
  .join d (.cond (.tmp (m + 7)) (.op (.call { callee := .builtin .append, args := ⟨[.tmp (m + 6), .tmp q]⟩, argTypes := ⟨[tySl, c.tI32]⟩ }) none [] <| .to d [.tmp (m + 8)]) (.to d [.tmp (m + 6)])) 1 k

def gListHead (c : Nums) (e : Fns) (rd s : Operand) (lk : LenK) (S i tySl fl n d : Nat) (k : Tr) : Tr :=
  gGet s S i tySl n <| .op (callOp fl [rd]) none [] <| gNul c lk tySl n d fun x => gListTail c e rd tySl (n + 3) (n + lk.sh) d x k

mutual
def gStep (c : Nums) (e : Fns) (rd : Operand) : Step → Operand → Nat → Nat → Nat → Operand → (Nat → Nat → Operand → Tr) → Tr
  | .call _ f i ty _, s, S, n, d, res, k => .op (callOp f [rd]) none [] <| gSet s S i ty (.tmp n) (n + 1) (k (n + 4) d res)
  | .uuid f i _, s, S, n, d, res, k => .op (callOp f [rd]) none [] <| .op (.alloc c.tUuid) none [] <| .op (.store c.tUuid (.tmp (n + 1)) (.tmp n)) none [] <| .op (.load c.tUuid (.tmp (n + 1))) none [] <| gSet s S i c.tUuid (.tmp (n + 3)) (n + 4) (k (n + 7) d res)
  | .listP lk fl i tySl _ _ f T, s, S, n, d, res, k => gListHead c e rd s lk S i tySl fl n d <|
    .loop d [.const (.int .i32 0)] <| .op (.binOp .lss c.tI32 (.tmp (n + lk.sh + 9)) (.tmp (n + 3)) c.tI32) none [] <|
    .cond (.tmp (n + lk.sh + 10)) (.op (callOp f [rd]) none [] <| .op (.indexAddr tySl (.tmp (n + lk.sh + 8)) (.tmp (n + lk.sh + 9))) none [] <| .op (.store T (.tmp (n + lk.sh + 12)) (.tmp (n + lk.sh + 11))) none [] <|
      .op (.binOp .add c.tI32 (.tmp (n + lk.sh + 9)) (.const (.int .i32 1)) c.tI32) none [] <| .to d [.tmp (n + lk.sh + 14)]) <|
    gSet s S i tySl (.tmp (n + lk.sh + 8)) (n + lk.sh + 11) (k (n + lk.sh + 14) (d + 1) res)
  | .listS lk fl i tySl _ T _ fDef _ ss, s, S, n, d, res, k => gListHead c e rd s lk S i tySl fl n d <|
    match hasRet ss with
    | false => .loop d [.const (.int .i32 0)] <| .op (.binOp .lss c.tI32 (.tmp (n + lk.sh + 9)) (.tmp (n + 3)) c.tI32) none [] <|
      .cond (.tmp (n + lk.sh + 10)) (.op (.indexAddr tySl (.tmp (n + lk.sh + 8)) (.tmp (n + lk.sh + 9))) none [] <| .op (callOp fDef [.tmp (n + lk.sh + 11)]) none [] <|
        gSteps c e rd ss (.tmp (n + lk.sh + 11)) T (n + lk.sh + 13) (d + 1) res fun n' _ _ => .op (.binOp .add c.tI32 (.tmp (n + lk.sh + 9)) (.const (.int .i32 1)) c.tI32) none [] <| .to d [.tmp n']) <|
      gSet s S i tySl (.tmp (n + lk.sh + 8)) (n + lk.sh + 11) (k (n + lk.sh + 14) (d + 1) res)
    | true => .loop d [res, .const (.int .i32 0)] <| .op (.binOp .lss c.tI32 (.tmp (n + lk.sh + 10)) (.tmp (n + 3)) c.tI32) none [] <|
      .cond (.tmp (n + lk.sh + 11)) (.op (.indexAddr tySl (.tmp (n + lk.sh + 8)) (.tmp (n + lk.sh + 10))) none [] <| .op (callOp fDef [.tmp (n + lk.sh + 12)]) none [] <|
        gSteps c e rd ss (.tmp (n + lk.sh + 12)) T (n + lk.sh + 14) (d + 1) (.tmp (n + lk.sh + 9)) fun n' _ res' => .op (.binOp .add c.tI32 (.tmp (n + lk.sh + 10)) (.const (.int .i32 1)) c.tI32) none [] <| .to d [res', .tmp n']) <|
      gSet s S i tySl (.tmp (n + lk.sh + 8)) (n + lk.sh + 12) (k (n + lk.sh + 15) (d + 1) (.tmp (n + lk.sh + 9)))
  | .sub i _ T fDef _ _ ss, s, S, n, d, res, k => .op (.nilCheck s) none [] <| .op (.fieldAddr S (.tmp n) i) none [] <| .op (callOp fDef [.tmp (n + 1)]) none [] <| gSteps c e rd ss (.tmp (n + 1)) T (n + 3) d res k
  | .strP _ f i ty _, s, S, n, d, res, k => .op (.alloc c.tStr) none [] <| .op (callOp f [rd]) none [] <| .op (.store c.tStr (.tmp n) (.tmp (n + 1))) none [] <| gSet s S i ty (.tmp n) (n + 3) (k (n + 6) d res)
  | .ghost, _, _, n, d, res, k => k n d res
def gSteps (c : Nums) (e : Fns) (rd : Operand) : List Step → Operand → Nat → Nat → Nat → Operand → (Nat → Nat → Operand → Tr) → Tr
  | [], _, _, n, d, res, k => k n d res
  | x :: ss, s, S, n, d, res, k => gStep c e rd x s S n d res fun n' d' res' => gSteps c e rd ss s S n' d' res' k
end

def orcV (n : Nat) (v : Int) : Nat → Option Value := fun i => if i = n then some (.int .i16 v) else none

end Go.Kf

namespace Go.Kf

open Go

/-- A function of the reader, of a kind. -/
def RdAny (P : Program) (f : Nat) (pk : PK) : Prop := ∀ (w : World) (rb D : Nat) (r : Rd), RdAt w rb D r → Gives P f [ptr rb] w fun v w' =>
  (∃ cs, v.cells = ⟨cs⟩ ∧ FAt D w' w.heap.size (pk.run r).1 cs) ∧ RdAt w' rb D (pk.run r).2 ∧ Keeps [rb] w w'

def LenOk (P : Program) (f : Nat) (lk : LenK) : Prop := RdPure P f fun r => (.int .i32 (lk.run r).1, (lk.run r).2)

def PK.isText : PK → Bool
  | .str => true
  | .cstr => true
  | _ => false

/-- What sets a struct to its defaults. -/
def DefOk (P : Program) (f T : Nat) (dflt : List FV) : Prop := ∃ (z : Value) (dc : List Value), (P.info? T).map (·.zero) = some (some z) ∧ (∀ D w lo, FsAt D w lo dflt dc) ∧
  ∀ (w : World) (b : Nat) (pre post : List Value), Has w b (pre ++ z.cells.toList ++ post) → Gives P f [ptr b pre.length] w fun _ w' => Has w' b (pre ++ dc ++ post) ∧ Keeps [b] w w'

/-- The types that a list asks. -/
structure ListOk (P : Program) (c : Nums) (tySl T sz : Nat) : Prop where
  sl : P.underlying tySl = some (.slice T)
  one : oneTy P tySl = true
  info : ∃ inf z, P.info? T = some inf ∧ inf.zero = some z ∧ inf.size = sz ∧ z.cells.size = sz ∧ 0 < sz ∧ inf.bytes ≤ 65536

/-- The field i lies at off. -/
structure PlaceOk (P : Program) (S : Nat) (ls : List Nat) (i off wd : Nat) : Prop where
  field : fieldOff P S i = some off
  wd : ls[i]? = some wd
  off : (ls.take i).sum = off

/-- What Default does. -/
def DefSets (P : Program) (f : Nat) (ls : List Nat) (ds : List Dset) : Prop := ∀ (D : Nat) (w : World) (b lo : Nat) (pre post mid : List Value) (fs : List FV), b ≠ D → b < lo → shapesOk fs ds = true → fs.map FV.wd = ls → Has w b (pre ++ mid ++ post) → FsAt D w lo fs mid →
  Gives P f [ptr b pre.length] w fun _ w' => (∃ mid', Has w' b (pre ++ mid' ++ post) ∧ FsAt D w' lo (applyD ds fs) mid') ∧ Keeps [b] w w'

mutual
def StepOk (P : Program) (c : Nums) (S : Nat) (ls : List Nat) : Step → Prop
  | .call pk f i ty off => RdAny P f pk ∧ PlaceOk P S ls i off pk.wd ∧ (P.info? ty).map (·.size) = some pk.wd
  | .uuid f i off => RdAny P f .uuid ∧ PlaceOk P S ls i off 16 ∧ UuidFacts P c
  | .listP lk fl i tySl off pk f T => LenOk P fl lk ∧ PlaceOk P S ls i off 1 ∧ ListOk P c tySl T pk.wd ∧ RdAny P f pk
  | .listS lk fl i tySl off T sz fDef dflt ss => LenOk P fl lk ∧ PlaceOk P S ls i off 1 ∧ ListOk P c tySl T sz ∧ DefOk P fDef T dflt ∧ (dflt.map FV.wd).sum = sz ∧ StepsOk P c T (dflt.map FV.wd) ss
  | .sub i off T fDef ds lsS ss => DefSets P fDef lsS ds ∧ PlaceOk P S ls i off lsS.sum ∧ StepsOk P c T lsS ss
  | .strP pk f i ty off => RdAny P f pk ∧ pk.isText = true ∧ PlaceOk P S ls i off 1 ∧ (P.info? ty).map (·.size) = some 1 ∧ StrFacts P c
  | .ghost => True
def StepsOk (P : Program) (c : Nums) (S : Nat) (ls : List Nat) : List Step → Prop
  | [] => True
  | s :: ss => StepOk P c S ls s ∧ StepsOk P c S ls ss
end

theorem wds_eq : ∀ fs : List FV, wds fs = (fs.map FV.wd).sum
  | [] => rfl
  | f :: fs => by simp [wds, wds_eq fs]

theorem rFix_len (N : Nat) (r : Rd) : (rFix N r).2.l.length ≤ r.l.length := by
  unfold rFix; split <;> simp [Rd.fail]

theorem rSpan_len (m : Int) (r : Rd) : (rSpan m r).2.l.length ≤ r.l.length := by
  unfold rSpan; split <;> simp [Rd.fail]

theorem rUv_len (r : Rd) : (rUv r).2.l.length ≤ r.l.length := by
  unfold rUv; split <;> simp [Rd.fail]

theorem rTagsN_len : ∀ (n : Nat) (m : TM) (r : Rd), (rTagsN n m r).2.l.length ≤ r.l.length
  | 0, _, _ => Nat.le_refl _
  | n + 1, m, r => by
    refine Nat.le_trans (rTagsN_len n _ _) ?_
    exact Nat.le_trans (rSpan_len _ _) (Nat.le_trans (rUv_len _) (rUv_len _))

theorem PK.run_len (pk : PK) (r : Rd) : (pk.run r).2.l.length ≤ r.l.length := by
  have h2 := fun m (r' : Rd) => rSpan_len m r'
  cases pk with
  | num N k => exact rFix_len N r
  | bool => exact rFix_len 1 r
  | str => exact Nat.le_trans (rSpan_len _ _) (rFix_len 2 r)
  | cstr => exact Nat.le_trans (rSpan_len _ _) (rUv_len r)
  | nstr => simp only [PK.run, rNStr]; split; exact rFix_len 2 r; exact Nat.le_trans (rSpan_len _ _) (rFix_len 2 r)
  | cnstr => simp only [PK.run, rCNStr]; split; exact rUv_len r; exact Nat.le_trans (rSpan_len _ _) (rUv_len r)
  | bytes => simp only [PK.run, rBytes]; split; exact rFix_len 4 r; exact Nat.le_trans (rSpan_len _ _) (rFix_len 4 r)
  | cbytes => simp only [PK.run, rCBytes]; split; exact rUv_len r; exact Nat.le_trans (rSpan_len _ _) (rUv_len r)
  | nbytes => simp only [PK.run, rNBytes]; split; exact rFix_len 4 r; exact Nat.le_trans (rSpan_len _ _) (rFix_len 4 r)
  | cnbytes => simp only [PK.run, rCNBytes]; split; exact rUv_len r; exact Nat.le_trans (rSpan_len _ _) (rUv_len r)
  | uuid => exact rSpan_len _ _
  | tags => exact Nat.le_trans (rTagsN_len _ _ _) (rUv_len r)

theorem LenK.run_len (lk : LenK) (r : Rd) : (lk.run r).2.l.length ≤ r.l.length := by
  cases lk with
  | len => simp only [LenK.run, rLen]; split <;> simp [Rd.fail, rFix_len]
  | clen => simp only [LenK.run, rCLen]; split <;> simp [Rd.fail, rUv_len]
  | nlen => simp only [LenK.run, rLen]; split <;> simp [Rd.fail, rFix_len]
  | nclen => simp only [LenK.run, rCLen]; split <;> simp [Rd.fail, rUv_len]

theorem LenK.run_le (lk : LenK) (r : Rd) : (lk.run r).1 ≤ (lk.run r).2.l.length := by
  cases lk with
  | len => simp only [LenK.run, rLen]; split <;> simp [Rd.fail]; omega
  | clen => simp only [LenK.run, rCLen]; split <;> simp [Rd.fail]; omega
  | nlen => simp only [LenK.run, rLen]; split <;> simp [Rd.fail]; omega
  | nclen => simp only [LenK.run, rCLen]; split <;> simp [Rd.fail]; omega

theorem LenK.run_range (lk : LenK) (r : Rd) : -2147483648 ≤ (lk.run r).1 ∧ (lk.run r).1 < 2147483648 := by
  cases lk with
  | len => simp only [LenK.run, rLen]; split; simp; exact i32_wrap_range _
  | clen => simp only [LenK.run, rCLen]; split; simp; exact i32_wrap_range _
  | nlen => simp only [LenK.run, rLen]; split; simp; exact i32_wrap_range _
  | nclen => simp only [LenK.run, rCLen]; split; simp; exact i32_wrap_range _

theorem readP_len (pk : PK) : ∀ (n : Nat) (r : Rd), (readP pk n r).2.l.length ≤ r.l.length
  | 0, _ => Nat.le_refl _
  | n + 1, r => Nat.le_trans (readP_len pk n _) (pk.run_len r)

theorem readS_len {g : Rd → Option (List FV × Rd)} (hg : ∀ r x r', g r = some (x, r') → r'.l.length ≤ r.l.length) : ∀ (n : Nat) (r : Rd) (xs : List (List FV)) (r' : Rd), readS g n r = some (xs, r') → r'.l.length ≤ r.l.length
  | 0, r, xs, r', h => by
    simp only [readS, Option.some.injEq, Prod.mk.injEq] at h
    rw [← h.2]; exact Nat.le_refl _
  | n + 1, r, xs, r', h => by
    simp only [readS] at h
    split at h
    · rename_i x r1 h1
      split at h
      · rename_i ys r2 h2
        simp only [Option.some.injEq, Prod.mk.injEq] at h
        rw [← h.2]
        exact Nat.le_trans (readS_len hg n r1 ys r2 h2) (hg r x r1 h1)
      · cases h
    · cases h

mutual
theorem runStep_len : ∀ (s : Step) (fs : List FV) (r : Rd) (fs' : List FV) (r' : Rd), runStep s fs r = some (fs', r') → r'.l.length ≤ r.l.length
  | .call pk _ _ _ _, fs, r, fs', r', h => by
    simp only [runStep, Option.some.injEq, Prod.mk.injEq] at h
    rw [← h.2]; exact pk.run_len r
  | .uuid _ _ _, fs, r, fs', r', h => by
    simp only [runStep, Option.some.injEq, Prod.mk.injEq] at h
    rw [← h.2]; exact PK.uuid.run_len r
  | .listP lk _ _ _ _ pk _ _, fs, r, fs', r', h => by
    simp only [runStep] at h
    split at h
    · cases h
    · simp only [Option.some.injEq, Prod.mk.injEq] at h
      rw [← h.2]; exact Nat.le_trans (readP_len pk _ _) (lk.run_len r)
  | .listS lk _ _ _ _ _ _ _ dflt ss, fs, r, fs', r', h => by
    simp only [runStep] at h
    split at h
    · cases h
    · split at h
      · rename_i xs r2 h2
        simp only [Option.some.injEq, Prod.mk.injEq] at h
        rw [← h.2]
        exact Nat.le_trans (readS_len (fun r x r' h => runSteps_len ss dflt r x r' h) _ _ _ _ h2) (lk.run_len r)
      · cases h
  | .sub i _ _ _ ds _ ss, fs, r, fs', r', h => by
    simp only [runStep] at h
    split at h
    · rename_i gs _
      split at h
      · rename_i gs' r2 h2
        simp only [Option.some.injEq, Prod.mk.injEq] at h
        rw [← h.2]; exact runSteps_len ss _ r gs' r2 h2
      · cases h
    · cases h
  | .strP pk _ _ _ _, fs, r, fs', r', h => by
    simp only [runStep] at h
    split at h
    · simp only [Option.some.injEq, Prod.mk.injEq] at h
      rw [← h.2]; exact pk.run_len r
    · cases h
  | .ghost, _, r, _, _, h => by
    simp only [runStep, Option.some.injEq, Prod.mk.injEq] at h
    rw [← h.2]; exact Nat.le_refl _
theorem runSteps_len : ∀ (ss : List Step) (fs : List FV) (r : Rd) (fs' : List FV) (r' : Rd), runSteps ss fs r = some (fs', r') → r'.l.length ≤ r.l.length
  | [], fs, r, fs', r', h => by
    simp only [runSteps, Option.some.injEq, Prod.mk.injEq] at h
    rw [← h.2]; exact Nat.le_refl _
  | s :: ss, fs, r, fs', r', h => by
    simp only [runSteps] at h
    split at h
    · rename_i fs1 r1 h1
      exact Nat.le_trans (runSteps_len ss fs1 r1 fs' r' h) (runStep_len s fs r fs1 r1 h1)
    · cases h
end

mutual
theorem FAt.ones {D : Nat} {w : World} {lo : Nat} : ∀ (f : FV) (cs : List Value), FAt D w lo f cs → ∀ u ∈ cs, u.oneCell' = true
  | .one _, _, ⟨e, h1⟩ => by subst e; simpa using h1
  | .uuid _, _, ⟨e, _⟩ => by subst e; exact bcells_one _
  | .text _, _, e => by simp only [FAt] at e; subst e; intro u hu; simp only [List.mem_singleton] at hu; subst hu; rfl
  | .ntext o, _, ⟨v, e, h⟩ => by
    subst e; intro u hu; simp only [List.mem_singleton] at hu; subst hu
    cases o with
    | none => simp only [NStrAt] at h; subst h; rfl
    | some l => obtain ⟨b, _, rfl, _⟩ := h; rfl
  | .octs _ _, _, ⟨v, e, h⟩ => by
    subst e; intro u hu; simp only [List.mem_singleton] at hu; subst hu
    obtain ⟨a, cp, rfl, _⟩ := h.1.form
    rfl
  | .tags _, _, ⟨v, e, h⟩ => by
    subst e; intro u hu; simp only [List.mem_singleton] at hu; subst hu
    rcases h with ⟨rfl, _⟩ | ⟨_, _, _, _, rfl, _⟩ <;> rfl
  | .list _ _, _, .inl ⟨_, e, _⟩ => by subst e; intro u hu; simp only [List.mem_singleton] at hu; subst hu; rfl
  | .list _ _, _, .inr ⟨_, _, _, _, _, e, _⟩ => by subst e; intro u hu; simp only [List.mem_singleton] at hu; subst hu; rfl
  | .ptr none, _, e => by simp only [FAt] at e; subst e; intro u hu; simp only [List.mem_singleton] at hu; subst hu; rfl
  | .ptr (some _), _, ⟨_, _, _, e, _⟩ => by subst e; intro u hu; simp only [List.mem_singleton] at hu; subst hu; rfl
  | .sub fs, cs, h => FsAt.ones fs cs h
theorem FsAt.ones {D : Nat} {w : World} {lo : Nat} : ∀ (fs : List FV) (cs : List Value), FsAt D w lo fs cs → ∀ u ∈ cs, u.oneCell' = true
  | [], _, h => by simp only [FsAt] at h; subst h; intro u hu; cases hu
  | f :: fs, _, ⟨c1, c2, e, h1, h2⟩ => by
    subst e; intro u hu
    rcases List.mem_append.1 hu with h | h
    · exact FAt.ones f c1 h1 u h
    · exact FsAt.ones fs c2 h2 u h
end

theorem RowsAt.snoc {D : Nat} {w : World} {lo : Nat} {row : List FV} {c rest : List Value} (hrow : FsAt D w lo row c) : ∀ (rs : List (List FV)) (done : List Value), (∀ x ∈ rs, wds x = wds row) → done.length = rs.length * wds row → RowsAt D w lo rs done → RowsAt D w lo (rs ++ [row]) (done ++ c ++ rest)
  | [], done, _, hl, _ => by
    have : done = [] := List.eq_nil_of_length_eq_zero (by simpa using hl)
    subst this
    exact ⟨c, rest, by simp, hrow, trivial⟩
  | x :: rs, done, hw, hl, ⟨c1, c2, e, h1, h2⟩ => by
    subst e
    refine ⟨c1, c2 ++ c ++ rest, by simp, h1, RowsAt.snoc hrow rs c2 (fun y hy => hw y (List.mem_cons_of_mem _ hy)) ?_ h2⟩
    have := FsAt.len x c1 h1
    rw [hw x List.mem_cons_self] at this
    simp only [List.length_append, List.length_cons, Nat.add_mul, Nat.one_mul] at hl
    omega

theorem RowsAt.more {D : Nat} {w : World} {lo : Nat} : ∀ (rs : List (List FV)) (done rest : List Value), RowsAt D w lo rs done → RowsAt D w lo rs (done ++ rest)
  | [], _, _, _ => trivial
  | _ :: rs, _, rest, ⟨c1, c2, e, h1, h2⟩ => ⟨c1, c2 ++ rest, by rw [e]; simp, h1, RowsAt.more rs c2 rest h2⟩

theorem RowsAt.mono {D : Nat} {w : World} {lo lo' : Nat} (hl : lo' ≤ lo) : ∀ (rs : List (List FV)) (cs : List Value), RowsAt D w lo rs cs → RowsAt D w lo' rs cs
  | [], _, h => h
  | _ :: rs, _, ⟨c1, c2, e, h1, h2⟩ => ⟨c1, c2, e, FsAt.mono hl _ _ h1, RowsAt.mono hl rs c2 h2⟩

end Go.Kf

namespace Go.Kf

open Go

section

variable {P : Program} {c : Nums} {R : Value → World → Prop} {Γ : List (List Value → World → Prop)} {n : Nat} {ρ : Nat → Value} {w : World} {k : Tr} {rb D : Nat} {r : Rd}

theorem s_callx {f : Nat} {xs : List Operand} {args : List Value} {Post : Value → World → Prop} (h : Gives P f args w Post) (hx : xs.map (ev ρ) = args) (hk : ∀ v w', Post v w' → k.sem P R Γ (n + 1) (ext ρ n [v]) w') : (Tr.op (callOp f xs) none [] k).sem P R Γ n ρ w := by
  subst hx
  exact s_call0 h hk

/-- for i := 0; i < m; i++ -/
theorem s_count {kk : IntKind} {t q : Nat} {m : Int} {ri : List Operand} {body after : Tr} (Q : Nat → World → Prop) (hqn : q < n) (hq : ρ q = .int kk m) (h0 : Q 0 w)
    (hbody : ∀ j, j < m.toNat → ∀ (w' : World) (vr : List Value), Q j w' → vr.length = ri.length → ∀ J : List Value → World → Prop, (∀ (vr' : List Value) (w'' : World), vr'.length = ri.length → Q (j + 1) w'' → J (vr' ++ [.int kk (j + 1 : Nat)]) w'') →
      body.sem P R (Γ ++ [J]) (n + ri.length + 2) (ext ρ n (vr ++ [.int kk j, .bool true])) w')
    (hafter : ∀ (w' : World) (vr : List Value) (J : List Value → World → Prop), Q m.toNat w' → vr.length = ri.length → after.sem P R (Γ ++ [J]) (n + ri.length + 2) (ext ρ n (vr ++ [.int kk m.toNat, .bool false])) w') :
    (Tr.loop Γ.length (ri ++ [.const (.int kk 0)]) (.op (.binOp .lss t (.tmp (n + ri.length)) (.tmp q) t) none [] (.cond (.tmp (n + ri.length + 1)) body after))).sem P R Γ n ρ w := by
  refine ⟨rfl, fun vs w' => ∃ (vr : List Value) (j : Nat), vs = vr ++ [.int kk j] ∧ vr.length = ri.length ∧ j ≤ m.toNat ∧ Q j w', fun vs _ => m.toNat - (match vs.getLast? with
    | some (.int _ j) => j.toNat
    | _ => 0), ⟨ri.map (ev ρ), 0, by simp [ev], by simp, by omega, h0⟩, ?_⟩
  rintro vs w' _ ⟨vr, j, rfl, hvr, hj, hQ⟩
  rw [List.length_append, List.length_singleton]
  have e1 : ext ρ n (vr ++ [.int kk j]) (n + ri.length) = .int kk j := by
    rw [ext_ge, ← hvr]; simp
  refine s_val (v_cmp (kk := kk) (a := j) (b := m) (r := decide ((j : Int) < m)) e1 ((ext_lt hqn).trans hq) rfl) ?_
  have e2 := ext_ext ρ n (vr ++ [.int kk j]) [.bool (decide ((j : Int) < m))]
  rw [List.length_append, List.length_singleton, hvr, List.append_assoc] at e2
  rw [e2]
  have e3 : ext ρ n (vr ++ ([.int kk j] ++ [.bool (decide ((j : Int) < m))])) (n + ri.length + 1) = .bool (decide ((j : Int) < m)) := by
    rw [Nat.add_assoc, ext_ge, ← hvr]; simp
  refine s_cond (b := decide ((j : Int) < m)) e3 (fun hb => ?_) fun hb => ?_
  · have hlt : (j : Int) < m := by simpa using hb
    rw [decide_eq_true hlt]
    refine hbody j (by omega) w' vr hQ hvr _ fun vr' w'' hl hQ' => ⟨⟨vr', j + 1, rfl, hl, by omega, hQ'⟩, ?_⟩
    simp
    omega
  · have hge : ¬ (j : Int) < m := by simpa using hb
    rw [decide_eq_false hge]
    obtain rfl : j = m.toNat := by omega
    exact hafter w' vr _ hQ hvr

/-- What is known while a struct is filled. -/
structure StAt (w : World) (rb D b g lo : Nat) (e : Value) (r : Rd) (pre post : List Value) (fs : List FV) : Prop where
  rd : RdAt w rb D r
  st : ∃ mid, Has w b (pre ++ mid ++ post) ∧ FsAt D w lo fs mid
  err : ErrAt w g e
  grb : g ≠ rb
  gb : g ≠ b
  rbb : rb ≠ b
  bD : b ≠ D
  blo : b < lo
  rblo : rb < lo
  los : lo ≤ w.heap.size
  len : r.l.length ≤ 1073741824

theorem StAt.keep {w w' : World} {b g lo : Nat} {e : Value} {r r' : Rd} {pre post : List Value} {fs : List FV} {M : List Nat} (h : StAt w rb D b g lo e r pre post fs) (hk : Keeps M w w') (hm : ∀ x ∈ M, x = rb) (hr : RdAt w' rb D r') (hl : r'.l.length ≤ r.l.length) :
    StAt w' rb D b g lo e r' pre post fs := by
  obtain ⟨mid, hh, hf⟩ := h.st
  have hD : rb ≠ D := h.rd.1
  exact ⟨hr, ⟨mid, hh.keep hk fun hb => h.rbb (hm _ hb).symm, FsAt.keep hk lo (fun x hx => by rw [hm x hx]; exact ⟨hD, h.rblo⟩) _ _ hf⟩, h.err.keep hk fun hg => h.grb (hm _ hg), h.grb, h.gb, h.rbb, h.bD, h.blo, h.rblo, Nat.le_trans h.los hk.size, Nat.le_trans hl h.len⟩

/-- A field set. -/
theorem s_setF {s x : Operand} {S i ty off wd b g lo : Nat} {e : Value} {ls : List Nat} {pre post m' : List Value} {fs : List FV} {f' : FV} (hp : PlaceOk P S ls i off wd) (hty : (P.info? ty).map (·.size) = some wd) (hs : ev ρ s = ptr b pre.length)
    (hbx : opBelow n x) (hx : (ev ρ x).cells = ⟨m'⟩) (hf' : FAt D w lo f' m') (hw' : f'.wd = wd) (hls : fs.map FV.wd = ls) (h : StAt w rb D b g lo e r pre post fs)
    (hk : ∀ w' vs, StAt w' rb D b g lo e r pre post (fs.set i f') → Keeps [b] w w' → k.sem P R Γ (n + 3) (ext ρ n vs) w') : (gSet s S i ty x n k).sem P R Γ n ρ w := by
  obtain ⟨mid, hh, hf⟩ := h.st
  have hi : ∃ f, fs[i]? = some f ∧ f.wd = wd := by
    have := hp.wd
    rw [← hls, List.getElem?_map] at this
    cases hfi : fs[i]? with
    | none => rw [hfi] at this; cases this
    | some f => rw [hfi] at this; exact ⟨f, rfl, by simpa using this⟩
  obtain ⟨f, hfi, hfw⟩ := hi
  obtain ⟨a, m, z, emid, ha, hfm, hset⟩ := hf.split hfi
  have hao : a.length = off := by
    rw [ha, wds_eq, List.map_take, hls]; exact hp.off
  have hml : m.length = wd := by rw [FAt.len f m hfm, hfw]
  have hml' : m'.length = wd := by rw [FAt.len f' m' hf', hw']
  have e1 := ext_ext ρ n [ptr b pre.length] [ptr b (pre.length + off)]
  have e2 := ext_ext ρ n [ptr b pre.length, ptr b (pre.length + off)] [undef]
  simp only [List.length_cons, List.length_nil, List.cons_append, List.nil_append] at e1 e2
  refine s_val (v_nilCheck hs) (s_val (v_field hp.field ext_at) ?_)
  simp only [ptr] at e1 e2 hk ⊢
  rw [e1]
  subst emid
  obtain ⟨w', h2, h3, h4⟩ := a_storeCells (P := P) (ρ := ext ρ n [.pointer (some ⟨b, pre.length, none⟩), .pointer (some ⟨b, pre.length + off, none⟩)]) (w := w) (t := ty) (x := .tmp (n + 1)) (y := x) (b := b) (o := pre.length + off) (vs := m')
    (by rw [hml']; exact hty) (by rw [← e1]; exact ext_at) (by rw [ev_ext hbx]; exact hx) hh (by simp; omega) (FAt.ones f' m' hf')
  refine s_unit h2 (fun p hp => (by cases hp)) ?_
  rw [show n + 1 + 1 = n + (0 + 1 + 1) from rfl, e2]
  have hsp : splice (pre ++ (a ++ m ++ z) ++ post) (pre.length + off) m' = pre ++ (a ++ m' ++ z) ++ post := by
    unfold splice
    have t1 : (pre ++ (a ++ m ++ z) ++ post).take (pre.length + off) = pre ++ a := by
      rw [show pre ++ (a ++ m ++ z) ++ post = (pre ++ a) ++ (m ++ z ++ post) by simp, List.take_left' (by simp [hao])]
    have t2 : (pre ++ (a ++ m ++ z) ++ post).drop (pre.length + off + m'.length) = z ++ post := by
      rw [show pre ++ (a ++ m ++ z) ++ post = (pre ++ a ++ m) ++ (z ++ post) by simp, List.drop_left' (by simp [hao, hml, hml']; omega)]
    rw [t1, t2]
    simp
  rw [hsp] at h3
  have hbD := h.bD
  have hblo := h.blo
  refine hk w' _ ⟨h.rd.keep h4 (by simpa using h.rbb) (by simpa using fun e => hbD e.symm), ⟨_, h3, FsAt.keep h4 lo (fun y hy => by simp only [List.mem_singleton] at hy; subst hy; exact ⟨hbD, hblo⟩) _ _ (hset f' m' hf')⟩,
    h.err.keep h4 (by simpa using h.gb), h.grb, h.gb, h.rbb, hbD, hblo, h.rblo, Nat.le_trans h.los h4.size, h.len⟩ h4

theorem opBelow_mono' {x : Operand} {n m : Nat} (h : opBelow n x) (hle : n ≤ m) : opBelow m x := by
  cases x with
  | tmp t => exact Nat.lt_of_lt_of_le h hle
  | _ => trivial

theorem ev_agree' {x : Operand} {n : Nat} {ρ ρ' : Nat → Value} (h : opBelow n x) (ha : ∀ y, y < n → ρ' y = ρ y) : ev ρ' x = ev ρ x := by
  cases x with
  | tmp t => exact ha t h
  | _ => rfl

/-- How far a list has been read; is it nil? -/
def RowSt (D : Nat) (w : World) (lo : Nat) (v : Value) (m sz : Nat) (zc : List Value) (nl : Bool) (rows : List (List FV)) : Prop :=
  (m = 0 ∧ nl = true ∧ v = .slice none 0 0 ∧ rows = []) ∨ (m = 0 ∧ nl = false ∧ rows = [] ∧ ∃ B, lo ≤ B ∧ v = .slice (some ⟨B, 0, none⟩) 0 0 ∧ Has w B []) ∨
  ∃ B cap done, 0 < m ∧ nl = false ∧ lo ≤ B ∧ v = .slice (some ⟨B, 0, none⟩) m cap ∧ m ≤ cap ∧ Has w B (done ++ (List.replicate (cap - rows.length) zc).flatten) ∧ done.length = rows.length * sz ∧ RowsAt D w (B + 1) rows done ∧
    (∀ x ∈ rows, wds x = sz) ∧ rows.length ≤ m

def OkGives (P : Program) (f : Nat) : Prop := ∀ (w : World) (rb D : Nat) (r : Rd), RdAt w rb D r → Gives P f [ptr rb] w fun v w' => v = .bool (!r.bad) ∧ w' = w

def CompGives (P : Program) (f g : Nat) : Prop := ∀ (w : World) (rb D : Nat) (r : Rd) (e : Value), RdAt w rb D r → ErrAt w g e → Gives P f [ptr rb] w fun v w' => v = (if r.bad then e else .nilIface) ∧ w' = w

/-- A list's head, behind its length. -/
theorem s_listTail {e : Fns} {rd x : Operand} {tySl T sz q m b lo lo0 : Nat} {ev0 : Value} {pre post zc : List Value} {fs : List FV} {lk : LenK} {a0 : Option Addr} (F : RdFacts P c) (hOk : OkGives P e.ok) (hCo : CompGives P e.complete c.gErr)
    (hL : ListOk P c tySl T sz) (hz : ∃ z : Value, (P.info? T).map (·.zero) = some (some z) ∧ z.cells.toList = zc) (hbr : opBelow (m + 4) rd) (hrd : ev ρ rd = ptr rb) (hqm : q < m + 4) (hq : ρ q = .int .i32 (lk.run r).1) (hbx : opBelow (m + 4) x) (hx : ev ρ x = .slice a0 0 0)
    (h1 : StAt w rb D b c.gErr lo ev0 (lk.run r).2 pre post fs) (hlo0 : lo0 ≤ w.heap.size) (ha0 : a0 = none ∨ ∃ B, a0 = some ⟨B, 0, none⟩ ∧ lo0 ≤ B ∧ Has w B [] ∧ (lk.run r).1 = 0) (hexit : (lk.run r).2.bad = true → R ev0 w)
    (hk : (lk.run r).2.bad = false → ∀ ρ' w' v, (∀ x, x < m + 4 → ρ' x = ρ x) → ρ' (m + 8) = v → StAt w' rb D b c.gErr lo ev0 (lk.run r).2 pre post fs → Keeps [] w w' → RowSt D w' lo0 v (lk.run r).1.toNat sz zc (a0.isNone && decide ((lk.run r).1 ≤ 0)) [] →
      k.sem P R Γ (m + 9) ρ' w') : (gListTail c e rd tySl q m Γ.length x k).sem P R Γ (m + 4) ρ w := by
  have hc2 := hOk w rb D _ h1.rd
  refine s_callx hc2 (by rw [List.map_cons, List.map_nil, hrd]) fun u2 w2 hu2 => ?_
  obtain ⟨rfl, rfl⟩ := hu2
  refine s_val (v_not (b := !(lk.run r).2.bad) (by show ext _ _ _ _ = _; exact ext_at)) ?_
  refine s_cond (b := (lk.run r).2.bad) (by show ext _ _ _ (m + 5) = _; rw [show m + 5 = m + 4 + 1 from rfl, ext_at, Bool.not_not]) (fun hb => ?_) fun hb => ?_
  · have hc3 := hCo w2 rb D _ ev0 h1.rd h1.err
    refine s_callx hc3 (by rw [List.map_cons, List.map_nil, ev_ext' hbr (by omega), ev_ext' hbr (by omega), hrd]) fun u3 w3 hu3 => ?_
    obtain ⟨rfl, rfl⟩ := hu3
    refine s_ret1 ?_
    rw [show ev (ext _ (m + 4 + 1 + 1) [if (lk.run r).2.bad = true then ev0 else Value.nilIface]) (.tmp (m + 6)) = if (lk.run r).2.bad = true then ev0 else Value.nilIface from ext_at, if_pos hb]
    exact hexit hb
  · refine s_val (v_sliceTo (a := a0) (l := 0) (c := 0) (k := .i64) (h := 0) hL.sl (sz := sz) ?_ (by rw [ev_ext' hbx (by omega), ev_ext' hbx (by omega)]; exact hx) rfl (by omega) (by omega)) ?_
    · obtain ⟨inf, z, hi, _, hsz, _⟩ := hL.info
      simp [hi, hsz]
    refine s_val (v_cmp (kk := .i32) (a := (lk.run r).1) (b := 0) (r := decide ((lk.run r).1 > 0)) (by show ext _ _ _ q = _; rw [ext_lt (by omega), ext_lt (by omega), ext_lt (by omega)]; exact hq) rfl rfl) ?_
    generalize hρ1 : ext (ext (ext (ext ρ (m + 4) _) _ _) _ _) _ _ = ρ1
    have g7 : ρ1 (m + 7) = .bool (decide ((lk.run r).1 > 0)) := by subst hρ1; exact ext_at
    have g6 : ρ1 (m + 6) = .slice a0 (0 : Int).toNat 0 := by subst hρ1; rw [ext_lt (by omega)]; exact ext_at
    have gl : ∀ y, y < m + 4 → ρ1 y = ρ y := fun y hy => by subst hρ1; rw [ext_lt (by omega), ext_lt (by omega), ext_lt (by omega), ext_lt (by omega)]
    clear hρ1
    refine ⟨rfl, fun vs w' => ∃ v, vs = [v] ∧ StAt w' rb D b c.gErr lo ev0 (lk.run r).2 pre post fs ∧ Keeps [] w2 w' ∧ RowSt D w' lo0 v (lk.run r).1.toNat sz zc (a0.isNone && decide ((lk.run r).1 ≤ 0)) [], ?_, ?_⟩
    · refine s_cond (b := decide ((lk.run r).1 > 0)) g7 (fun hgt => ?_) fun hgt => ?_
      · have hgt : (lk.run r).1 > 0 := by simpa using hgt
        obtain rfl : a0 = none := by
          rcases ha0 with h | ⟨_, _, _, _, h0⟩
          · exact h
          · omega
        obtain ⟨mm, hmm⟩ : ∃ mm : Nat, (lk.run r).1 = mm := ⟨(lk.run r).1.toNat, by omega⟩
        obtain ⟨inf, z, hi, hz2, hsz, hzc, hpos, hby⟩ := hL.info
        obtain ⟨z', hz', hzcl⟩ := hz
        have hzz : z' = z := by simpa [hi, hz2] using hz'.symm
        subst hzz
        have hle := lk.run_le r
        have hlen := h1.len
        have hrg := lk.run_range r
        obtain ⟨cap, w3, e6, hcap, hcap63, hh3, k3, s3⟩ := a_appendZeros (P := P) (ρ := ρ1) (w := w2) (t := tySl) (tx := c.tI32) (x := .tmp (m + 6)) (y := .tmp q) (kk := .i32) (m := mm)
          hL.sl F.i32 hi hz2 (by rw [hzc, hsz]) (by omega) g6 (by show ρ1 q = _; rw [gl q hqm, ← hmm]; exact hq) (by omega) (by
            have : mm ≤ 1073741824 := by omega
            calc mm * inf.bytes ≤ 1073741824 * 65536 := Nat.mul_le_mul this hby
              _ ≤ 281474976710656 := by decide) (by omega)
        refine s_act e6 (fun p hp => (by cases hp)) ?_
        refine ⟨_, by rw [List.getElem?_append_right (Nat.le_refl _)]; simp; rfl, ?_⟩
        refine ⟨_, rfl, h1.keep k3 (by simp) (h1.rd.keep k3 (by simp) (by simp)) (Nat.le_refl _), k3, .inr (.inr ⟨w2.heap.size, cap, [], ?_, ?_, hlo0, ?_, ?_, ?_, by simp, trivial, by simp, by simp⟩)⟩
        · rw [hmm]; omega
        · simp; omega
        · show ext _ _ _ (m + 8) = _
          rw [show m + 8 = m + 4 + 1 + 1 + 1 + 1 from rfl, ext_at, hmm]
          rfl
        · rw [hmm]; exact hcap
        · rw [← hzcl]; simpa using hh3
      · have hle : ¬ (lk.run r).1 > 0 := by simpa using hgt
        refine ⟨_, by rw [List.getElem?_append_right (Nat.le_refl _)]; simp; rfl, ?_⟩
        refine ⟨_, rfl, h1, .refl, ?_⟩
        rcases ha0 with rfl | ⟨B, rfl, hB, hhB, h0⟩
        · exact .inl ⟨by omega, by simp; omega, g6, rfl⟩
        · exact .inr (.inl ⟨by omega, rfl, rfl, B, hB, g6, hhB⟩)
    · rintro vs w' _ ⟨v, rfl, hst, kk, hrow⟩
      refine hk hb _ w' v (fun y hy => ?_) ?_ hst kk hrow
      · rw [ext_lt (by omega)]; exact gl y hy
      · rw [show m + 8 = m + 4 + 1 + 1 + 1 + 1 from rfl]; exact ext_at

/-- A list's head. -/
theorem s_listHead {e : Fns} {rd s : Operand} {S i off tySl T sz fl b lo : Nat} {ev0 : Value} {ls : List Nat} {pre post zc : List Value} {fs : List FV} {lk : LenK} (F : RdFacts P c) (hOk : OkGives P e.ok) (hCo : CompGives P e.complete c.gErr)
    (hl : LenOk P fl lk) (hp : PlaceOk P S ls i off 1) (hL : ListOk P c tySl T sz) (hz : ∃ z : Value, (P.info? T).map (·.zero) = some (some z) ∧ z.cells.toList = zc) (hbr : opBelow n rd) (hrd : ev ρ rd = ptr rb) (hs : ev ρ s = ptr b pre.length) (hls : fs.map FV.wd = ls) (hnil : fs[i]? = some (.list true []))
    (h : StAt w rb D b c.gErr lo ev0 r pre post fs) (hexit : (lk.run r).2.bad = true → ∀ w', Keeps [rb] w w' → R ev0 w')
    (hk : (lk.run r).2.bad = false → ∀ ρ' w' v, (∀ x, x < n → ρ' x = ρ x) → ρ' (n + 3) = .int .i32 (lk.run r).1 → ρ' (n + lk.sh + 8) = v → StAt w' rb D b c.gErr lo ev0 (lk.run r).2 pre post fs → Keeps [rb] w w' → RowSt D w' w.heap.size v (lk.run r).1.toNat sz zc (lk.nilAt (lk.run r).1) [] →
      k.sem P R Γ (n + lk.sh + 9) ρ' w') : (gListHead c e rd s lk S i tySl fl n Γ.length k).sem P R Γ n ρ w := by
  obtain ⟨mid, hh, hf⟩ := h.st
  obtain ⟨a, m, z, emid, ha, hfm, _⟩ := hf.split hnil
  have hao : a.length = off := by
    rw [ha, wds_eq, List.map_take, hls]; exact hp.off
  have hm0 : m = [.slice none 0 0] := by
    rcases hfm with ⟨_, e, _⟩ | ⟨e, _⟩
    · exact e
    · cases e
  subst emid hm0
  have hcell : (pre ++ (a ++ [Value.slice none 0 0] ++ z) ++ post)[pre.length + off]? = some (.slice none 0 0) := by
    rw [show pre ++ (a ++ [Value.slice none 0 0] ++ z) ++ post = (pre ++ a) ++ (Value.slice none 0 0 :: (z ++ post)) by simp, List.getElem?_append_right (by simp [hao])]
    simp [hao]
  refine s_get hp.field hL.one hs hh hcell ?_
  have hc1 := hl w rb D r h.rd
  refine s_callx hc1 (by rw [List.map_cons, List.map_nil, ev_ext hbr, hrd]) fun u w1 ⟨hu, hr1, k1⟩ => ?_
  have h1 : StAt w1 rb D b c.gErr lo ev0 (lk.run r).2 pre post fs := h.keep k1 (by simp) hr1 (lk.run_len r)
  generalize hρ1 : ext (ext ρ n _) (n + 3) _ = ρ1
  have g3 : ρ1 (n + 3) = .int .i32 (lk.run r).1 := by subst hρ1; rw [ext_at]; exact hu
  have g2 : ρ1 (n + 2) = .slice none 0 0 := by subst hρ1; rw [ext_lt (by omega), ext_ge]; rfl
  have gl : ∀ y, y < n → ρ1 y = ρ y := fun y hy => by subst hρ1; rw [ext_lt (by omega), ext_lt hy]
  clear hρ1
  cases hnul : lk.nul with
  | false =>
    have hsh : lk.sh = 0 := by simp [LenK.sh, hnul]
    simp only [gNul, hnul, hsh, Nat.add_zero] at hk ⊢
    refine s_listTail (m := n) (a0 := none) (lo0 := w.heap.size) F hOk hCo hL hz (opBelow_mono' hbr (by omega)) (by rw [ev_agree' hbr gl]; exact hrd) (by omega) g3 (by simp [opBelow]) g2 h1 k1.size (.inl rfl) (fun hb => hexit hb w1 k1) fun hb ρ' w' v hag h8 hst kk hrow => ?_
    refine hk hb ρ' w' v (fun y hy => (hag y (by omega)).trans (gl y hy)) ((hag _ (by omega)).trans g3) h8 hst (k1.trans (kk.mono (by simp))) ?_
    simpa [LenK.nilAt, hnul] using hrow
  | true =>
    have hsh : lk.sh = 2 := by simp [LenK.sh, hnul]
    simp only [gNul, hnul, hsh] at hk ⊢
    refine s_val (v_cmp (kk := .i32) (a := (lk.run r).1) (b := 0) (r := (lk.run r).1 == 0) g3 rfl rfl) ?_
    refine ⟨rfl, fun vs w' => ∃ a0, vs = [.slice a0 0 0] ∧ Keeps [] w1 w' ∧ ((a0 = none ∧ (lk.run r).1 ≠ 0) ∨ ∃ B, a0 = some ⟨B, 0, none⟩ ∧ w.heap.size ≤ B ∧ Has w' B [] ∧ (lk.run r).1 = 0), ?_, ?_⟩
    · refine s_cond (b := (lk.run r).1 == 0) ext_at (fun hb => ?_) (fun hb => ?_)
      · have h0 : (lk.run r).1 = 0 := by simpa using hb
        obtain ⟨w2, e2, h2, k2, s2⟩ := a_sliceEmpty (P := P) (ρ := ext ρ1 (n + 3 + 1) [.bool ((lk.run r).1 == 0)]) (w := w1) (t := tySl) (sz := sz) hL.sl (by obtain ⟨inf, z, hi, _, hsz, _⟩ := hL.info; simp [hi, hsz])
        refine s_act e2 (fun p hp => (by cases hp)) ?_
        refine ⟨_, by rw [List.getElem?_append_right (Nat.le_refl _)]; simp; rfl, ?_⟩
        exact ⟨some ⟨w1.heap.size, 0, none⟩, by simp only [List.map_cons, List.map_nil]; congr 1; exact ext_at, k2, .inr ⟨_, rfl, k1.size, h2, h0⟩⟩
      · have h0 : (lk.run r).1 ≠ 0 := by simpa using hb
        refine ⟨_, by rw [List.getElem?_append_right (Nat.le_refl _)]; simp; rfl, ?_⟩
        exact ⟨none, by simp only [List.map_cons, List.map_nil]; congr 1; show ext _ _ _ (n + 2) = _; rw [ext_lt (by omega)]; exact g2, .refl, .inl ⟨rfl, h0⟩⟩
    · rintro vs w2 _ ⟨a0, rfl, k2, ha0⟩
      have h2 : StAt w2 rb D b c.gErr lo ev0 (lk.run r).2 pre post fs := h1.keep k2 (by simp) (h1.rd.keep k2 (by simp) (by simp)) (Nat.le_refl _)
      have gl2 : ∀ y, y < n + 4 → ext (ext ρ1 (n + 3 + 1) [.bool ((lk.run r).1 == 0)]) (n + 3 + 1 + 1) [.slice a0 0 0] y = ρ1 y := fun y hy => by rw [ext_lt (by omega), ext_lt (by omega)]
      refine s_listTail (m := n + 2) (a0 := a0) (lo0 := w.heap.size) F hOk hCo hL hz (opBelow_mono' hbr (by omega)) (by rw [ev_agree' hbr (fun y hy => (gl2 y (by omega)).trans (gl y hy))]; exact hrd) (by omega) ((gl2 _ (by omega)).trans g3) (by simp [opBelow]) ext_at h2 (Nat.le_trans k1.size k2.size)
        (ha0.imp And.left id) (fun hb => hexit hb w2 (k1.trans (k2.mono (by simp)))) fun hb ρ' w' v hag h8 hst kk hrow => ?_
      refine hk hb ρ' w' v (fun y hy => (hag y (by omega)).trans ((gl2 y (by omega)).trans (gl y hy))) ((hag _ (by omega)).trans ((gl2 _ (by omega)).trans g3)) h8 hst (k1.trans ((k2.trans kk).mono (by simp))) ?_
      have hnl : (a0.isNone && decide ((lk.run r).1 ≤ 0)) = lk.nilAt (lk.run r).1 := by
        simp only [LenK.nilAt, hnul, cond]
        rcases ha0 with ⟨rfl, h0⟩ | ⟨B, rfl, _, _, h0⟩
        · simp only [Option.isNone_none, Bool.true_and, decide_eq_decide]; omega
        · simp [h0]
      rw [hnl] at hrow
      exact hrow

end

end Go.Kf

namespace Go.Kf

open Go

def Step.idx : Step → Nat
  | .call _ _ i _ _ => i
  | .uuid _ i _ => i
  | .listP _ _ i _ _ _ _ _ => i
  | .listS _ _ i _ _ _ _ _ _ _ => i
  | .sub i _ _ _ _ _ _ => i
  | .strP _ _ i _ _ => i
  | .ghost => 1000000

def isNilList : Option FV → Bool
  | some (.list true []) => true
  | _ => false

theorem isNilList_eq {o : Option FV} (h : isNilList o = true) : o = some (.list true []) := by
  unfold isNilList at h
  split at h
  · rfl
  · cases h

mutual
/-- A list is read over nil; a part lies there. -/
def stepPre : Step → List FV → Bool
  | .listP _ _ i _ _ _ _ _, fs => isNilList fs[i]?
  | .listS _ _ i _ _ _ _ _ _ _, fs => isNilList fs[i]?
  | .sub i _ _ _ ds lsS ss, fs => match fs[i]? with
    | some (.sub gs) => decide (gs.map FV.wd = lsS) && decide ((applyD ds gs).map FV.wd = lsS) && shapesOk gs ds && idxOk (applyD ds gs) ss
    | _ => false
  | _, _ => true
/-- No field is set twice. -/
def idxOk (fs : List FV) : List Step → Bool
  | [] => true
  | s :: ss => stepPre s fs && ss.all (fun t => !Nat.beq t.idx s.idx) && idxOk fs ss
end

mutual
def deepOk : Step → Bool
  | .listS _ _ _ _ _ _ _ _ dflt ss => idxOk dflt ss && deepsOk ss
  | .sub _ _ _ _ _ _ ss => deepsOk ss
  | _ => true
def deepsOk : List Step → Bool
  | [] => true
  | s :: ss => deepOk s && deepsOk ss
end

theorem stepPre_set {fs : List FV} {i : Nat} {f : FV} {s : Step} (hne : i ≠ s.idx) : stepPre s (fs.set i f) = stepPre s fs := by
  cases s <;> simp only [stepPre, Step.idx] at hne ⊢
  · rw [List.getElem?_set_ne hne]
  · rw [List.getElem?_set_ne hne]
  · rw [List.getElem?_set_ne hne]

theorem idxOk_set {fs : List FV} {i : Nat} {f : FV} : ∀ {ss : List Step}, ss.all (fun t => !Nat.beq t.idx i) = true → idxOk fs ss = true → idxOk (fs.set i f) ss = true
  | [], _, _ => rfl
  | s :: ss, h1, h2 => by
    simp only [List.all_cons, Bool.and_eq_true, Bool.not_eq_true'] at h1
    simp only [idxOk, Bool.and_eq_true] at h2 ⊢
    have hne : i ≠ s.idx := fun e => by
      have := h1.1
      rw [e] at this
      simp at this
    exact ⟨⟨by rw [stepPre_set hne]; exact h2.1.1, h2.1.2⟩, idxOk_set h1.2 h2.2⟩

section

variable {P : Program} {c : Nums} {R : Value → World → Prop} {rb D : Nat} {e : Fns} {rd : Operand} {ev0 : Value}

/-- What is to be shown for a part of a struct's reading. -/
def SemOf (P : Program) (c : Nums) (R : Value → World → Prop) (rb D : Nat) (rd : Operand) (ev0 : Value) (run : List FV → Rd → Option (List FV × Rd)) (T : Operand → Nat → Nat → Operand → (Nat → Nat → Operand → Tr) → Tr) (ls : List Nat) (pre0 : List FV → Bool) : Prop :=
  ∀ (s res : Operand) (n : Nat) (k : Nat → Nat → Operand → Tr) (Γ : List (List Value → World → Prop)) (ρ : Nat → Value) (w : World) (b lo : Nat) (pre post : List Value) (fs : List FV) (r : Rd),
    opBelow n rd → ev ρ rd = ptr rb → opBelow n s → ev ρ s = ptr b pre.length → opBelow n res → StAt w rb D b c.gErr lo ev0 r pre post fs → fs.map FV.wd = ls → pre0 fs = true →
    (∀ fs' r', run fs r = some (fs', r') → ∀ n' Γ' ρ' w' res', n ≤ n' → (∃ Δ, Γ' = Γ ++ Δ) → (∀ x, x < n → ρ' x = ρ x) → opBelow n' res' → StAt w' rb D b c.gErr lo ev0 r' pre post fs' → fs'.map FV.wd = ls → Keeps [rb, b] w w' → (k n' Γ'.length res').sem P R Γ' n' ρ' w') →
    (run fs r = none → ∀ w', Keeps [rb, b] w w' → R ev0 w') → (T s n Γ.length res k).sem P R Γ n ρ w

theorem opBelow_mono {x : Operand} {n m : Nat} (h : opBelow n x) (hle : n ≤ m) : opBelow m x := by
  cases x with
  | tmp t => exact Nat.lt_of_lt_of_le h hle
  | _ => trivial

theorem ev_agree {x : Operand} {n : Nat} {ρ ρ' : Nat → Value} (h : opBelow n x) (ha : ∀ t, t < n → ρ' t = ρ t) : ev ρ' x = ev ρ x := by
  cases x with
  | tmp t => exact ha t h
  | _ => rfl

theorem map_wd_set {fs : List FV} {ls : List Nat} {i wd : Nat} {f : FV} (h : fs.map FV.wd = ls) (hi : ls[i]? = some wd) (hf : f.wd = wd) : (fs.set i f).map FV.wd = ls := by
  subst h
  rw [List.map_set, hf]
  apply List.ext_getElem?
  intro j
  by_cases hj : i = j
  · subst hj
    rw [List.getElem?_set_self (List.getElem?_eq_some_iff.1 hi).1, hi]
  · rw [List.getElem?_set_ne hj]

theorem wds_zero_rows {fs : List FV} {sz : Nat} (h : (fs.map FV.wd).sum = sz) : wds fs = sz := by rw [wds_eq, h]

/-- The reading of n elements, begun. -/
theorem readS_step {g : Rd → Option (List FV × Rd)} {m j : Nat} {r1 rj : Rd} {rows : List (List FV)} (hj : j < m) (h : readS g m r1 = (readS g (m - j) rj).map fun p => (rows ++ p.1, p.2)) {x : List FV} {r' : Rd} (hg : g rj = some (x, r')) :
    readS g m r1 = (readS g (m - (j + 1)) r').map fun p => ((rows ++ [x]) ++ p.1, p.2) := by
  rw [h, show m - j = (m - (j + 1)) + 1 by omega]
  simp only [readS, hg]
  cases readS g (m - (j + 1)) r' with
  | none => rfl
  | some p => simp

theorem readS_stop {g : Rd → Option (List FV × Rd)} {m j : Nat} {r1 rj : Rd} {rows : List (List FV)} (hj : j < m) (h : readS g m r1 = (readS g (m - j) rj).map fun p => (rows ++ p.1, p.2)) (hg : g rj = none) : readS g m r1 = none := by
  rw [h, show m - j = (m - (j + 1)) + 1 by omega]
  simp only [readS, hg]
  rfl

theorem readP_eq (pk : PK) : ∀ (n : Nat) (r : Rd), readS (fun r => some ([(pk.run r).1], (pk.run r).2)) n r = some (readP pk n r)
  | 0, _ => rfl
  | n + 1, r => by simp only [readS, readP_eq pk n, readP]

/-- A row's next element. -/
theorem row_next {cap j : Nat} {zc : List Value} (h : j < cap) : (List.replicate (cap - j) zc).flatten = zc ++ (List.replicate (cap - (j + 1)) zc).flatten := by
  rw [show cap - j = (cap - (j + 1)) + 1 by omega, List.replicate_succ, List.flatten_cons]

end

end Go.Kf
