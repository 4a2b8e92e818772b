import JvmDerived
import JvmDerived.Pilot.@@N@@Statement
import JvmDerived.Pilot.@@N@@Code
set_option linter.unusedVariables false
set_option linter.unusedSimpArgs false
namespace Jvm.OwnEv
open Sem ClassFile Op Lib Jvm.Stand Jvm.Free Jvm.LawKit Jvm.RoadKit Jvm.Sym
/-! ## 1. The data of a world, and the evaluator's single moves -/
/-- a field: name, descriptor, type, final or not -/
abbrev FRow : Type := String × String × FieldType × Bool
/-- a class: name, number of slots, fields -/
abbrev CRow : Type := String × Nat × List FRow
/-- an object (class by its place in the table, values of its fields) or an array -/
abbrev Obj : Type := (Nat × List SVal) ⊕ (FieldType × List SVal)
abbrev AH : Type := List (Option Obj)
/-- pc, instruction, length, tag, two links, a constant, a type -/
abbrev Row : Type := Nat × Instr × Nat × Nat × Nat × Nat × Term × FieldType
/-- name, bytes, locals, result, number of parameters, rows -/
abbrev MRow : Type := MethodName × ByteArray × Nat × Option FieldType × Nat × List Row
abbrev CFact : Type := ClassFile.Cond × Term × Term × Bool

def nth {α : Type} : List α → Nat → Option α
  | [], _ => none
  | x :: _, 0 => some x
  | _ :: r, n + 1 => nth r n
theorem nth_eq {α : Type} : ∀ (L : List α) (n : Nat), nth L n = L[n]?
  | [], _ => rfl
  | _ :: _, 0 => rfl
  | _ :: r, n + 1 => by simpa [nth] using nth_eq r n
theorem nth_lt {α : Type} {L : List α} {n : Nat} {x : α} (h : nth L n = some x) : n < L.length := by
  rw [nth_eq] at h
  exact (List.getElem?_eq_some_iff.mp h).1
theorem nth_mem {α : Type} {L : List α} {n : Nat} {x : α} (h : nth L n = some x) : x ∈ L := by
  rw [nth_eq] at h
  exact List.mem_of_getElem? h
theorem nth_some {α : Type} {L : List α} {n : Nat} (h : n < L.length) : ∃ x, nth L n = some x := ⟨L[n], by rw [nth_eq]; exact List.getElem?_eq_getElem h⟩
theorem nth_set_self {α : Type} {L : List α} {n : Nat} (x : α) (h : n < L.length) : nth (L.set n x) n = some x := by rw [nth_eq, List.getElem?_set_self h]
theorem nth_set_ne {α : Type} {L : List α} {i j : Nat} (x : α) (h : i ≠ j) : nth (L.set i x) j = nth L j := by rw [nth_eq, nth_eq, List.getElem?_set_ne h]
theorem nth_append_lt {α : Type} {L M : List α} {n : Nat} (h : n < L.length) : nth (L ++ M) n = nth L n := by rw [nth_eq, nth_eq, List.getElem?_append_left h]
theorem nth_append_len {α : Type} {L : List α} {x : α} : nth (L ++ [x]) L.length = some x := by rw [nth_eq]; simp
theorem nth_map {α β : Type} {f : α → β} : ∀ (L : List α) (n : Nat), nth (L.map f) n = (nth L n).map f
  | [], _ => rfl
  | _ :: _, 0 => rfl
  | _ :: r, n + 1 => nth_map r n
theorem nth_replicate {α : Type} {x y : α} : ∀ (n i : Nat), nth (List.replicate n x) i = some y → y = x := fun n i h => by
  have := nth_mem h
  exact (List.mem_replicate.mp this).2

/-! ### terms -/
def litV : Term → Option Value
  | .int a => some (.int a)
  | .long a => some (.long a)
  | _ => none
def ofV (d : Term) : Option Value → Term
  | some (.int a) => .int a
  | some (.long a) => .long a
  | _ => d
def look : List (Term × Term) → Term → Term
  | [], t => t
  | (a, b) :: r, t => if a = t then b else look r t
def nrm (Γ : List (Term × Term)) (t : Term) : Term :=
  match t with
  | .op2 o a b => match litV a, litV b with
    | some x, some y => ofV (.op2 o a b) (o.apply x y)
    | _, _ => look Γ (.op2 o a b)
  | .op1 o a => match litV a with
    | some x => ofV (.op1 o a) (o.apply x)
    | none => match o, a with
      | .i2b, .op1 .i2b c => .op1 .i2b c
      | o, a => look Γ (.op1 o a)
  | .add a b => match a, b with
    | .int x, .int y => .int (x + y)
    | a, b => look Γ (.add a b)
  | .sub a b => match a, b with
    | .int x, .int y => .int (x - y)
    | a, b => look Γ (.sub a b)
  | .mul a b => match a, b with
    | .int x, .int y => .int (x * y)
    | a, b => look Γ (.mul a b)
  | .div a b => match a, b with
    | .int x, .int y => if y = 0 then .div a b else .int (x / y)
    | a, b => look Γ (.div a b)
  | .rem a b => match a, b with
    | .int x, .int y => if y = 0 then .rem a b else .int (x % y)
    | a, b => look Γ (.rem a b)
  | t => t
/-- what is assumed of terms -/
def ΓOk (Γ : List (Term × Term)) (A : Array Value) (Z : State) : Prop := ∀ q ∈ Γ, q.2.closed = true ∧ ∀ v, q.1.eval A Z none [] Z = some v → q.2.eval A Z none [] Z = some v
theorem litV_eval {A : Array Value} {Z : State} {t : Term} {v w : Value} (h : litV t = some v) (e : t.eval A Z none [] Z = some w) : v = w := by
  cases t <;> simp only [litV, Option.some.injEq, reduceCtorEq] at h <;> subst h <;> exact Option.some.inj e
theorem ofV_eval {A : Array Value} {Z : State} {d : Term} {o : Option Value} {v : Value} (hc : d.closed = true) (he : d.eval A Z none [] Z = some v) (h : o = some v) : (ofV d o).closed = true ∧ (ofV d o).eval A Z none [] Z = some v := by
  subst h
  cases v <;> exact ⟨by first | exact hc | rfl, by first | exact he | rfl⟩
theorem look_eval {A : Array Value} {Z : State} : ∀ (Γ : List (Term × Term)) (t : Term) (v : Value), ΓOk Γ A Z → t.closed = true → t.eval A Z none [] Z = some v → (look Γ t).closed = true ∧ (look Γ t).eval A Z none [] Z = some v
  | [], t, v, _, hc, he => ⟨hc, he⟩
  | (a, b) :: r, t, v, h, hc, he => by
    unfold look
    split
    · rename_i e
      subst e
      obtain ⟨q1, q2⟩ := h (a, b) (List.mem_cons_self ..)
      exact ⟨q1, q2 v he⟩
    · exact look_eval r t v (fun q hq => h q (List.mem_cons_of_mem _ hq)) hc he
theorem op2_inv {A : Array Value} {Z : State} {o : Binary} {a b : Term} {v : Value} (h : (Term.op2 o a b).eval A Z none [] Z = some v) : ∃ x y, a.eval A Z none [] Z = some x ∧ b.eval A Z none [] Z = some y ∧ o.apply x y = some v := op2_v h
theorem op1_inv {A : Array Value} {Z : State} {o : Unary} {a : Term} {v : Value} (h : (Term.op1 o a).eval A Z none [] Z = some v) : ∃ x, a.eval A Z none [] Z = some x ∧ o.apply x = some v := op1_v h
theorem i2b_twice (x : Int32) : x.toInt8.toInt32.toInt8.toInt32 = x.toInt8.toInt32 := by
  rw [Int8.toInt8_toInt32]
theorem nrm_eval {A : Array Value} {Z : State} {Γ : List (Term × Term)} (h : ΓOk Γ A Z) (t : Term) (v : Value) (hc : t.closed = true) (he : t.eval A Z none [] Z = some v) : (nrm Γ t).closed = true ∧ (nrm Γ t).eval A Z none [] Z = some v := by
  unfold nrm
  split
  · rename_i o a b
    split
    · rename_i x y hx hy
      obtain ⟨x', y', e1, e2, e3⟩ := op2_inv he
      cases litV_eval hx e1
      cases litV_eval hy e2
      exact ofV_eval hc he e3
    · exact look_eval Γ _ v h hc he
  · rename_i o a
    split
    · rename_i x hx
      obtain ⟨x', e1, e3⟩ := op1_inv he
      cases litV_eval hx e1
      exact ofV_eval hc he e3
    · split
      · rename_i c
        refine ⟨hc, ?_⟩
        obtain ⟨x, e1, e2⟩ := op1_inv he
        obtain ⟨y, e3, e4⟩ := op1_inv e1
        refine e1.trans ?_
        cases y <;> simp [Unary.apply] at e4
        subst e4
        simp only [Unary.apply, i2b_twice] at e2
        exact e2
      · exact look_eval Γ _ v h hc he
  all_goals first
    | (rename_i a b
       split
       · first
         | exact ⟨rfl, he⟩
         | (split
            · exact ⟨hc, he⟩
            · rename_i hy
              refine ⟨rfl, ?_⟩
              simpa [Term.eval, hy] using he)
       · exact look_eval Γ _ v h hc he)
    | exact ⟨hc, he⟩
/-! ### the environment grows -/
def Ex (A A' : Array Value) : Prop := ∀ (i : Nat) (v : Value), A[i]? = some v → A'[i]? = some v
theorem Ex.refl (A : Array Value) : Ex A A := fun _ _ h => h
theorem Ex.trans {A B C : Array Value} (h : Ex A B) (k : Ex B C) : Ex A C := fun i v q => k i v (h i v q)
theorem Ex.push (A : Array Value) (w : Value) : Ex A (A.push w) := fun i v h => by
  have q := (Array.getElem?_eq_some_iff.mp h).1
  rw [Array.getElem?_push_lt q]
  exact (Array.getElem?_eq_getElem q).symm.trans h
theorem eval_ext {A A' : Array Value} {Z : State} (h : Ex A A') : ∀ (t : Term) (v : Value), t.eval A Z none [] Z = some v → t.eval A' Z none [] Z = some v := by
  intro t
  induction t with
  | arg i => exact fun v hv => h i v hv
  | field a c n d ih | length a ih | sum a ih =>
    intro v hv
    cases ha : a.eval A Z none [] Z with
    | none => simp [Term.eval, ha] at hv
    | some x => simp only [Term.eval, ha] at hv; simp only [Term.eval, ih _ ha]; exact hv
  | op1 o a ih =>
    intro v hv
    cases ha : a.eval A Z none [] Z with
    | none => simp [Term.eval, ha] at hv
    | some x => simp only [Term.eval, ha] at hv; simp only [Term.eval, ih _ ha]; exact hv
  | old a ih => exact fun v hv => ih v hv
  | elem a b iha ihb | add a b iha ihb | sub a b iha ihb | mul a b iha ihb | div a b iha ihb | rem a b iha ihb =>
    intro v hv
    cases ha : a.eval A Z none [] Z with
    | none => simp [Term.eval, ha] at hv
    | some x =>
      cases hb : b.eval A Z none [] Z with
      | none => cases x <;> simp [Term.eval, ha, hb] at hv
      | some y => simp only [Term.eval, ha, hb] at hv; simp only [Term.eval, iha _ ha, ihb _ hb]; exact hv
  | op2 o a b iha ihb =>
    intro v hv
    obtain ⟨x, y, e1, e2, e3⟩ := op2_inv hv
    simp [Term.eval, iha _ e1, ihb _ e2, e3]
  | _ => exact fun v hv => hv
theorem Den.ext {A A' : Array Value} {Z : State} (h : Ex A A') {x : SVal} {v : Value} (d : x.Den A Z v) : x.Den A' Z v := ⟨d.1, eval_ext h _ _ d.2.1, d.2.2⟩
theorem DenStack.ext {A A' : Array Value} {Z : State} (h : Ex A A') : ∀ {xs : List SVal} {vs : List Value}, DenStack A Z xs vs → DenStack A' Z xs vs
  | [], [], _ => trivial
  | _ :: _, _ :: _, d => ⟨Den.ext h d.1, DenStack.ext h d.2⟩
  | [], _ :: _, d => d.elim
  | _ :: _, [], d => d.elim
theorem DenLocals.ext {A A' : Array Value} {Z : State} (h : Ex A A') {L : List SSlot} {ls : Array Slot} (d : DenLocals A Z L ls) : DenLocals A' Z L ls := fun i => by
  have q := d i
  cases h1 : L[i]? with
  | none => cases h2 : ls[i]? with
    | none => trivial
    | some y => rw [h1, h2] at q; exact q.elim
  | some x => cases h2 : ls[i]? with
    | none => rw [h1, h2] at q; exact q.elim
    | some y =>
      rw [h1, h2] at q
      cases x <;> cases y <;> first | exact q | exact Den.ext h q
theorem fits_ext {A A' : Array Value} {Z : State} (h : Ex A A') {m : MethodId} {σ : SFrame} {g : JFrame} (F : Sym.Fits A Z m σ g) : Sym.Fits A' Z m σ g := ⟨F.method, F.pc, DenLocals.ext h F.locals, DenStack.ext h F.stack, F.locked, F.entered, F.mroom⟩
theorem ΓOk.ext {Γ : List (Term × Term)} {A A' : Array Value} {Z : State} (h : Ex A A') (k : ∀ q ∈ Γ, q.2.closed = true ∧ ∃ v, q.1.eval A Z none [] Z = some v ∧ q.2.eval A Z none [] Z = some v) : ΓOk Γ A' Z := fun q hq => by
  obtain ⟨h1, v, h2, h3⟩ := k q hq
  refine ⟨h1, fun w hw => ?_⟩
  rw [eval_ext h _ _ h2] at hw
  cases hw
  exact eval_ext h _ _ h3
theorem den_nrm {Γ : List (Term × Term)} {A : Array Value} {Z : State} (h : ΓOk Γ A Z) {t : Term} {k : VKind} {v : Value} (d : (⟨t, k⟩ : SVal).Den A Z v) : (⟨nrm Γ t, k⟩ : SVal).Den A Z v := by
  obtain ⟨q1, q2⟩ := nrm_eval h t v d.1 d.2.1
  exact ⟨q1, q2, d.2.2⟩
end Jvm.OwnEv
namespace Jvm.OwnEv
open Sem ClassFile Op Lib Jvm.Stand Jvm.Free Jvm.LawKit Jvm.RoadKit Jvm.Sym
/-! ## 2. The moves of one row inside a frame -/
def nrmTop (Γ : List (Term × Term)) (σ : SFrame) : SFrame :=
  match σ.stack with
  | x :: r => { σ with stack := ⟨nrm Γ x.t, x.k⟩ :: r }
  | [] => σ
def mvArith (Γ : List (Term × Term)) (i : Instr) (len : Nat) (σ : SFrame) : Option SFrame :=
  (moveBinI i len σ <|> moveBinL i len σ <|> moveShL i len σ <|> moveUnII i len σ <|> moveI2l i len σ <|> moveL2i i len σ <|> moveLneg i len σ <|> moveLcmp i len σ).map (nrmTop Γ)
def mvIinc (Γ : List (Term × Term)) (i : Instr) (σ : SFrame) : Option SFrame :=
  match i with
  | .iinc n k => match σ.locals[n]? with
    | some (.val x) => if x.k = .int then (sStore σ.locals n ⟨nrm Γ (.add x.t (.int (Int32.ofInt k))), .int⟩).map fun L => { σ with pc := σ.pc + 3, locals := L } else none
    | _ => none
  | _ => none
def lookC : List CFact → ClassFile.Cond → Term → Term → Option Bool
  | [], _, _, _ => none
  | (k', a', b', v) :: r, k, a, b => if k' = k ∧ a' = a ∧ b' = b then some v else lookC r k a b
def decI (Γc : List CFact) (k : ClassFile.Cond) (a b : Term) : Option Bool :=
  match a, b with
  | .int x, .int y => some (if_icmp.holds k x y)
  | a, b => lookC Γc k a b
/-- is the reference null: known of null and of what the walk has made -/
def nullT (N n : Nat) : Term → Option Bool
  | .null => some true
  | .arg i => cond (Nat.ble N i && Nat.blt i (N + n)) (some false) none
  | _ => none
/-- a: the target -/
def mvFork (N : Nat) (Γc : List CFact) (n : Nat) (i : Instr) (a : Nat) (σ : SFrame) : Option SFrame :=
  match i, σ.stack with
  | .if_icmp k _, y :: x :: r => if x.k = .int ∧ y.k = .int then (decI Γc k x.t y.t).map fun v => cond v { σ with pc := a, stack := r } { σ with pc := σ.pc + 3, stack := r } else none
  | .ifCond k _, x :: r => if x.k = .int then (decI Γc k x.t (.int 0)).map fun v => cond v { σ with pc := a, stack := r } { σ with pc := σ.pc + 3, stack := r } else none
  | .ifnull _, x :: r => (nullT N n x.t).map fun v => cond v { σ with pc := a, stack := r } { σ with pc := σ.pc + 3, stack := r }
  | .ifnonnull _, x :: r => (nullT N n x.t).map fun v => cond v { σ with pc := σ.pc + 3, stack := r } { σ with pc := a, stack := r }
  | _, _ => none
def mvDiv (Γ : List (Term × Term)) (Γc : List CFact) (i : Instr) (σ : SFrame) : Option SFrame :=
  match σ.stack with
  | y :: _ => match y.t with
    | .int z => if z = 0 then none else ((moveDiv i 1 σ).map fun q => nrmTop Γ q.1)
    | .long z => if z = 0 then none else ((moveDiv i 1 σ).map fun q => nrmTop Γ q.1)
    | t => match lookC Γc .eq (match y.k with | .long => .op2 .lcmp t (.long 0) | _ => t) (.int 0) with
      | some false => (moveDiv i 1 σ).map fun q => nrmTop Γ q.1
      | _ => none
  | [] => none
def mvLdc (i : Instr) (len : Nat) (k : Term) (σ : SFrame) : Option SFrame :=
  match k with
  | .int v => some { σ with pc := σ.pc + len, stack := ⟨.int v, .int⟩ :: σ.stack }
  | .long v => some { σ with pc := σ.pc + len, stack := ⟨.long v, .long⟩ :: σ.stack }
  | _ => none
/-- the place in the abstract heap of what a reference names -/
def plc (N : Nat) : Term → Option Nat
  | .arg i => cond (Nat.ble N i) (some (i - N)) none
  | _ => none
def mvGet (N : Nat) (H : AH) (a b : Nat) (σ : SFrame) : Option SFrame :=
  match σ.stack with
  | x :: r => match plc N x.t with
    | some j => match nth H j with
      | some (some (.inl (ci, xs))) => cond (Nat.beq ci a) ((nth xs b).map fun y => { σ with pc := σ.pc + 3, stack := y :: r }) none
      | _ => none
    | none => none
  | [] => none
def kOk : FieldType → VKind → Bool
  | .int, .int => true
  | .long, .long => true
  | .object _, .ref => true
  | .array _, .ref => true
  | _, _ => false
def mvPut (N : Nat) (H : AH) (a b : Nat) (ty : FieldType) (σ : SFrame) : Option (SFrame × AH) :=
  match σ.stack with
  | y :: x :: r => match plc N x.t with
    | some j => match nth H j with
      | some (some (.inl (ci, xs))) => cond (Nat.beq ci a && kOk ty y.k && Nat.blt b xs.length) (some ({ σ with pc := σ.pc + 3, stack := r }, H.set j (some (.inl (ci, xs.set b y))))) none
      | _ => none
    | none => none
  | _ => none
def dflt : FieldType → SVal
  | .long => ⟨.long 0, .long⟩
  | .object _ => ⟨.null, .ref⟩
  | .array _ => ⟨.null, .ref⟩
  | _ => ⟨.int 0, .int⟩
def okTy : FieldType → Bool
  | .float => false
  | .double => false
  | _ => true
abbrev Res : Type := Option (SFrame × AH × Nat × Nat)
def mvNew (N : Nat) (CT : List CRow) (H : AH) (a c s : Nat) (σ : SFrame) : Res :=
  match nth CT a with
  | some (_, nn, fs) => cond (Nat.ble 1 c && Nat.ble nn s) (some ({ σ with pc := σ.pc + 3, stack := ⟨.arg (N + H.length), .ref⟩ :: σ.stack }, H ++ [some (.inl (a, fs.map fun f => dflt f.2.2.1))], c - 1, s - nn)) none
  | none => none
def mvNewA (N : Nat) (H : AH) (i : Instr) (c s : Nat) (σ : SFrame) : Res :=
  match i, σ.stack with
  | .newarray aty, x :: r => match x.t with
    | .int z => if ¬ z < 0 ∧ okTy (newarray.typeOf aty) = true ∧ z.toNatClampNeg ≤ 1000000 ∧ 1 ≤ c ∧ z.toNatClampNeg ≤ s then
        some ({ σ with pc := σ.pc + 2, stack := ⟨.arg (N + H.length), .ref⟩ :: r }, H ++ [some (.inr (newarray.typeOf aty, List.replicate z.toNatClampNeg (dflt (newarray.typeOf aty))))], c - 1, s - z.toNatClampNeg) else none
    | _ => none
  | _, _ => none
def mvLen (N : Nat) (H : AH) (σ : SFrame) : Option SFrame :=
  match σ.stack with
  | x :: r => match plc N x.t with
    | some j => match nth H j with
      | some (some (.inr (_, xs))) => some { σ with pc := σ.pc + 1, stack := ⟨.int (Int32.ofNat xs.length), .int⟩ :: r }
      | _ => none
    | none => none
  | [] => none
def ldOk : Instr → FieldType → Bool
  | .iaload, .int => true
  | .laload, .long => true
  | .baload, .byte => true
  | .baload, .boolean => true
  | _, _ => false
def mvALd (N : Nat) (H : AH) (i : Instr) (σ : SFrame) : Option SFrame :=
  match σ.stack with
  | z :: x :: r => match plc N x.t, z.t with
    | some j, .int q => match nth H j with
      | some (some (.inr (ty, xs))) => if ldOk i ty = true ∧ ¬ q < 0 then (nth xs q.toNatClampNeg).map fun y => { σ with pc := σ.pc + 1, stack := y :: r } else none
      | _ => none
    | _, _ => none
  | _ => none
/-- what a store into an array of that type lays down -/
def stV (Γ : List (Term × Term)) : Instr → FieldType → SVal → Option SVal
  | .iastore, .int, y => if y.k = .int then some y else none
  | .lastore, .long, y => if y.k = .long then some y else none
  | .bastore, .byte, y => if y.k = .int then some ⟨nrm Γ (.op1 .i2b y.t), .int⟩ else none
  | .bastore, .boolean, y => if y.k = .int then some ⟨nrm Γ (.op2 .iand y.t (.int 1)), .int⟩ else none
  | _, _, _ => none
def mvASt (N : Nat) (Γ : List (Term × Term)) (H : AH) (i : Instr) (σ : SFrame) : Option (SFrame × AH) :=
  match σ.stack with
  | y :: z :: x :: r => match plc N x.t, z.t with
    | some j, .int q => match nth H j with
      | some (some (.inr (ty, xs))) => if ¬ q < 0 ∧ q.toNatClampNeg < xs.length then (stV Γ i ty y).map fun w => ({ σ with pc := σ.pc + 1, stack := r }, H.set j (some (.inr (ty, xs.set q.toNatClampNeg w)))) else none
      | _ => none
    | _, _ => none
  | _ => none
def wt : List SVal → Nat
  | [] => 0
  | x :: r => (match x.k with | .long => 2 | _ => 1) + wt r
def mvInitO (N : Nat) (H : AH) (fr lo ml : Nat) (σ : SFrame) : Option SFrame :=
  match σ.stack with
  | x :: r => match plc N x.t with
    | some j => cond (Nat.blt j H.length && Nat.ble 1 fr && Nat.ble (wt r + 12) lo && Nat.beq σ.locals.length ml) (some { σ with pc := σ.pc + 3, stack := r }) none
    | none => none
  | [] => none
def mvClone (N : Nat) (H : AH) (fr lo ml c s : Nat) (ty : FieldType) (σ : SFrame) : Res :=
  match σ.stack with
  | x :: r => match plc N x.t with
    | some j => match nth H j with
      | some (some (.inr (ty', xs))) => if ty' = ty ∧ 1 ≤ fr ∧ wt r + 14 ≤ lo ∧ σ.locals.length = ml ∧ 1 ≤ c ∧ xs.length ≤ s then
          some ({ σ with pc := σ.pc + 3, stack := ⟨.arg (N + H.length), .ref⟩ :: r }, H ++ [some (.inr (ty', xs))], c - 1, s - xs.length) else none
      | _ => none
    | none => none
  | [] => none
def primTy : FieldType → Bool
  | .object _ => false
  | .array _ => false
  | _ => true
def mvCopy (N : Nat) (H : AH) (fr lo ml : Nat) (σ : SFrame) : Option (SFrame × AH) :=
  match σ.stack with
  | xn :: xd :: b :: xs :: a :: r => match plc N a.t, plc N b.t, xs.t, xd.t, xn.t with
    | some ja, some jb, .int sp, .int dp, .int nn => match nth H ja, nth H jb with
      | some (some (.inr (ta, va))), some (some (.inr (tb, vb))) =>
        if ta = tb ∧ primTy ta = true ∧ ¬ sp < 0 ∧ ¬ dp < 0 ∧ ¬ nn < 0 ∧ sp.toNatClampNeg + nn.toNatClampNeg ≤ va.length ∧ dp.toNatClampNeg + nn.toNatClampNeg ≤ vb.length ∧ 1 ≤ fr ∧ wt r + 18 ≤ lo ∧ σ.locals.length = ml then
          some ({ σ with pc := σ.pc + 3, stack := r }, H.set jb (some (.inr (tb, vb.take dp.toNatClampNeg ++ (va.drop sp.toNatClampNeg).take nn.toNatClampNeg ++ vb.drop (dp.toNatClampNeg + nn.toNatClampNeg))))) else none
      | _, _ => none
    | _, _, _, _, _ => none
  | _ => none
def mvCast (N : Nat) (H : AH) (ty : FieldType) (σ : SFrame) : Option SFrame :=
  match σ.stack with
  | x :: _ => match plc N x.t with
    | some j => match nth H j with
      | some (some (.inr (ty', _))) => if ty' = ty then some { σ with pc := σ.pc + 3 } else none
      | _ => none
    | none => none
  | [] => none
def keepH (H : AH) (c s : Nat) (o : Option SFrame) : Res := o.map fun σ => (σ, H, c, s)
def keepC (c s : Nat) (o : Option (SFrame × AH)) : Res := o.map fun q => (q.1, q.2, c, s)
/-- one row; tags: 0 load, 1 const, 2 getfield, 3 arithmetic, 4 fork, 5 store, 6 array load, 7 goto, 8 stack, 9 iinc, 10 putfield, 11 array store, 12 arraylength, 13 ldc, 14 new, 15 newarray, 16 Object.<init>, 17 division, 18 clone, 19 arraycopy, 20 checkcast -/
def mv1 (N : Nat) (CT : List CRow) (Γ : List (Term × Term)) (Γc : List CFact) (fr lo ml : Nat) (r : Row) (σ : SFrame) (H : AH) (c s : Nat) : Res :=
  match r with
  | (_, i, len, tag, a, b, k, ty) =>
    match tag with
    | 0 => keepH H c s (moveLoad i len σ)
    | 1 => keepH H c s (moveConst i len σ)
    | 2 => keepH H c s (mvGet N H a b σ)
    | 3 => keepH H c s (mvArith Γ i len σ)
    | 4 => keepH H c s (mvFork N Γc H.length i a σ)
    | 5 => keepH H c s (moveStore i len σ)
    | 6 => keepH H c s (mvALd N H i σ)
    | 7 => some ({ σ with pc := a }, H, c, s)
    | 8 => keepH H c s (moveStack i len σ <|> moveStack2 i len σ)
    | 9 => keepH H c s (mvIinc Γ i σ)
    | 10 => keepC c s (mvPut N H a b ty σ)
    | 11 => keepC c s (mvASt N Γ H i σ)
    | 12 => keepH H c s (mvLen N H σ)
    | 13 => keepH H c s (mvLdc i len k σ)
    | 14 => mvNew N CT H a c s σ
    | 15 => mvNewA N H i c s σ
    | 16 => keepH H c s (mvInitO N H fr lo ml σ)
    | 17 => keepH H c s (mvDiv Γ Γc i σ)
    | 18 => mvClone N H fr lo ml c s ty σ
    | 19 => keepC c s (mvCopy N H fr lo ml σ)
    | 20 => keepH H c s (mvCast N H ty σ)
    | 21 => keepH H c s (mvGet N H a b σ)
    | _ => none
/-- the literal of a string: a: four times its length -/
def mvStr (N a len c s : Nat) (H : AH) (σ : SFrame) : Res :=
  cond (Nat.ble 2 c && Nat.ble (a + 4) s && Nat.ble a 536870912) (some ({ σ with pc := σ.pc + len, stack := ⟨.arg (N + H.length), .ref⟩ :: σ.stack }, H ++ [none], c - 2, s - (a + 4))) none
/-! ### the evaluator -/
def findR : List Row → Nat → Option (Row × List Row)
  | [], _ => none
  | r :: rs, pc => cond (Nat.beq r.1 pc) (some (r, rs)) (findR rs pc)
def fetch (cur all : List Row) (pc : Nat) : Option (Row × List Row) :=
  match cur with
  | r :: rs => cond (Nat.beq r.1 pc) (some (r, rs)) (findR all pc)
  | [] => findR all pc
def takeR : Nat → List SVal → List SVal → Option (List SVal × List SVal)
  | 0, st, acc => some (acc, st)
  | n + 1, x :: st, acc => takeR n st (x :: acc)
  | _ + 1, [], _ => none
def fillS : List SVal → List SSlot
  | [] => []
  | x :: r => match x.k with
    | .long => .val x :: .second :: fillS r
    | _ => .val x :: fillS r
def entryS (as : List SVal) (ml : Nat) : List SSlot := fillS as ++ List.replicate (ml - (fillS as).length) .unset
abbrev Out : Type := Option SVal × AH × Nat × Nat
/-- returns: 30 nothing, 31 an int, 32 a boolean, 33 a long, 34 a reference -/
def mvRet (Γ : List (Term × Term)) (tag : Nat) (σ : SFrame) : Option (Option SVal) :=
  match tag with
  | 30 => some none
  | 31 => match σ.stack with | x :: _ => if x.k = .int then some (some x) else none | [] => none
  | 32 => match σ.stack with | x :: _ => if x.k = .int then some (some ⟨nrm Γ (.op2 .iand x.t (.int 1)), .int⟩) else none | [] => none
  | 33 => match σ.stack with | x :: _ => if x.k = .long then some (some x) else none | [] => none
  | 34 => match σ.stack with | x :: _ => if x.k = .ref then some (some x) else none | [] => none
  | _ => none
/-- is the receiver what a virtual call's row says -/
def recvOk (N : Nat) (H : AH) (tag b : Nat) (as : List SVal) : Bool :=
  cond (Nat.beq tag 40) true (match as with
    | x :: _ => match plc N x.t with
      | some j => match nth H j with
        | some (some (.inl (ci, _))) => Nat.beq ci b
        | _ => false
      | none => false
    | [] => false)
def pushV (v : Option SVal) (r : List SVal) : List SVal := match v with | some x => x :: r | none => r
/-- calls: 40 static, 41 a constructor, 42 virtual, 43 private (a: the method, b: the receiver's class) -/
def ev (N : Nat) (CT : List CRow) (MT : List MRow) (Γ : List (Term × Term)) (Γc : List CFact) : Nat → Nat → Nat → MRow → List Row → SFrame → AH → Nat → Nat → Option Out
  | 0 => fun _ _ _ _ _ _ _ _ => none
  | n + 1 => fun fr lo M cur σ H c s =>
    match fetch cur M.2.2.2.2.2 σ.pc with
    | none => none
    | some (r, cur') =>
      cond (Nat.blt r.2.2.2.1 30)
        (match mv1 N CT Γ Γc fr lo M.2.2.1 r σ H c s with
          | some (σ', H', c', s') => ev N CT MT Γ Γc n fr lo M cur' σ' H' c' s'
          | none => none)
        (cond (Nat.blt r.2.2.2.1 40)
          (cond (Nat.beq r.2.2.2.1 39)
            (match mvStr N r.2.2.2.2.1 r.2.2.1 c s H σ with
              | some (σ', H', c', s') => ev N CT MT Γ Γc n fr lo M cur' σ' H' c' s'
              | none => none)
            ((mvRet Γ r.2.2.2.1 σ).map fun v => (v, H, c, s)))
          (match nth MT r.2.2.2.2.1 with
            | none => none
            | some M' =>
              match takeR (cond (Nat.beq r.2.2.2.1 40) M'.2.2.2.2.1 (M'.2.2.2.2.1 + 1)) σ.stack [] with
              | none => none
              | some (as, rest) =>
                cond (recvOk N H r.2.2.2.1 r.2.2.2.2.2.1 as && Nat.ble r.2.2.2.1 44 && Nat.ble 1 fr && Nat.ble (wt rest + (M'.2.2.1 + 11)) lo && Nat.beq σ.locals.length M.2.2.1)
                  (match ev N CT MT Γ Γc n (fr - 1) (lo - (wt rest + (M'.2.2.1 + 11))) M' M'.2.2.2.2.2 ⟨0, entryS as M'.2.2.1, [], []⟩ H c s with
                    | none => none
                    | some (v, H', c', s') => ev N CT MT Γ Γc n fr lo M cur' { σ with pc := σ.pc + 3, stack := pushV v rest } H' c' s')
                  none))
end Jvm.OwnEv
namespace Jvm.OwnEv
open Sem ClassFile Op Lib Jvm.Stand Jvm.Free Jvm.LawKit Jvm.RoadKit Jvm.Sym
/-! ## 3. The abstract heap stands for the real one -/
abbrev adr (ty : FieldType) : String := "[" ++ ty.toString
def RepO (Z : State) (CT : List CRow) (n0 : Nat × Nat) (A : Array Value) (h : Heap) (a : Addr) : Option Obj → Prop
  | none => True
  | some (.inl (ci, xs)) => n0.1 ≤ a ∧ ∃ C nn fs, nth CT ci = some (C, nn, fs) ∧ Exa Z h a C ∧ xs.length = fs.length ∧ ∀ (i : Nat) (f : FRow) (x : SVal), nth fs i = some f → nth xs i = some x → ∃ v, x.Den A Z v ∧ Fld Z h a C f.1 f.2.1 v
  | some (.inr (ty, xs)) => n0.1 ≤ a ∧ xs.length < 2 ^ 31 ∧ Exa Z h a (adr ty) ∧ ∃ k vs, Arv Z h a k ty (Int32.ofNat xs.length) vs .null ∧ vs.length = xs.length ∧ DenStack A Z xs vs
def Inv (Z : State) (CT : List CRow) (N : Nat) (n0 : Nat × Nat) (A : Array Value) (H : AH) (h : Heap) : Prop :=
  A.size = N + H.length ∧ (n0.1 ≤ n0.2 ∧ n0.2 ≤ h.size) ∧ (∀ (j : Nat) (o : Option Obj), nth H j = some o → ∃ a, A[N + j]? = some (.ref a) ∧ RepO Z CT n0 A h a o) ∧
  ∀ (i j : Nat) (oi oj : Obj) (a b : Addr), i ≠ j → nth H i = some (some oi) → nth H j = some (some oj) → A[N + i]? = some (.ref a) → A[N + j]? = some (.ref b) → a ≠ b
/-- the class table's words -/
def COk (Z : State) (a0 : Array Value) (r : CRow) : Prop :=
  (Cond.instantiable r.1 r.2.1).before a0 Z = true ∧ (Cond.initialized r.1).before a0 Z = true ∧
  (∀ (i : Nat) (f : FRow), nth r.2.2 i = some f → (cond f.2.2.2 ((Cond.laysFinal r.1 r.1 f.1 f.2.1).before a0 Z) ((Cond.lays r.1 r.1 f.1 f.2.1).before a0 Z)) = true ∧ parseFieldDescriptor f.2.1 = some f.2.2.1 ∧ okTy f.2.2.1 = true) ∧
  ∀ (i j : Nat) (f g : FRow), i ≠ j → nth r.2.2 i = some f → nth r.2.2 j = some g → f.1 ≠ g.1
def CTOk (Z : State) (a0 : Array Value) (CT : List CRow) : Prop := ∀ (k : Nat) (r : CRow), nth CT k = some r → COk Z a0 r
section Facts
variable {Z : State} {a0 : Array Value} {CT : List CRow} {N : Nat} {n0 : Nat × Nat} {A A' : Array Value} {H : AH} {h h' : Heap}
theorem COk.laid {C : String} {nn : Nat} {fs : List FRow} (k : COk Z a0 (C, nn, fs)) {i : Nat} {f : FRow} (hi : nth fs i = some f) : Laid Z a0 C C f.1 f.2.1 := by
  have q := (k.2.2.1 i f hi).1
  cases hb : f.2.2.2 <;> rw [hb] at q
  · exact Or.inl q
  · exact Or.inr q
theorem ext_arv {a : Addr} {k : ClassId} {ty : FieldType} {z : Int32} {vs : List Value} {d : Value} (E : Ext h h') (F : Arv Z h a k ty z vs d) : Arv Z h' a k ty z vs d := F.ext E
theorem RepO.ext {a : Addr} {o : Option Obj} (E : Ext h h') (X : Ex A A') (F : RepO Z CT n0 A h a o) : RepO Z CT n0 A' h' a o := by
  match o, F with
  | none, _ => trivial
  | some (.inl (ci, xs)), ⟨h1, C, nn, fs, h2, h3, h4, h5⟩ =>
    exact ⟨h1, C, nn, fs, h2, h3.ext E, h4, fun i f x hf hx => by
      obtain ⟨v, d, F⟩ := h5 i f x hf hx
      exact ⟨v, Den.ext X d, F.ext E⟩⟩
  | some (.inr (ty, xs)), ⟨h1, h2, h3, k, vs, h4, h5, h6⟩ => exact ⟨h1, h2, h3.ext E, k, vs, h4.ext E, h5, DenStack.ext X h6⟩
theorem RepO.keep {a b : Addr} {o : Option Obj} (K : Keep h h' [a]) (hb : b ≠ a) (F : RepO Z CT n0 A h b o) : RepO Z CT n0 A h' b o := by
  have nin : b ∉ [a] := fun q => hb (List.mem_singleton.mp q)
  match o, F with
  | none, _ => trivial
  | some (.inl (ci, xs)), ⟨h1, C, nn, fs, h2, h3, h4, h5⟩ =>
    exact ⟨h1, C, nn, fs, h2, h3.keep K, h4, fun i f x hf hx => by
      obtain ⟨v, d, F⟩ := h5 i f x hf hx
      exact ⟨v, d, F.keep K nin⟩⟩
  | some (.inr (ty, xs)), ⟨h1, h2, h3, k, vs, h4, h5, h6⟩ => exact ⟨h1, h2, h3.keep K, k, vs, h4.keep K nin, h5, h6⟩
theorem RepO.lt {a : Addr} {o : Obj} (F : RepO Z CT n0 A h a (some o)) : a < h.size := by
  match o, F with
  | .inl (ci, xs), ⟨_, C, nn, fs, _, h3, _⟩ => exact h3.lt
  | .inr (ty, xs), ⟨_, _, h3, _⟩ => exact h3.lt
theorem RepO.ge {a : Addr} {o : Obj} (F : RepO Z CT n0 A h a (some o)) : n0.1 ≤ a := by
  match o, F with
  | .inl (ci, xs), ⟨q, _⟩ => exact q
  | .inr (ty, xs), ⟨q, _⟩ => exact q
theorem RepO.re {n1 : Nat × Nat} {a : Addr} {o : Option Obj} (e : n1.1 = n0.1) (F : RepO Z CT n0 A h a o) : RepO Z CT n1 A h a o := by
  match o, F with
  | none, _ => trivial
  | some (.inl (ci, xs)), ⟨h1, q⟩ => exact ⟨by rw [e]; exact h1, q⟩
  | some (.inr (ty, xs)), ⟨h1, q⟩ => exact ⟨by rw [e]; exact h1, q⟩
theorem Inv.re {n1 : Nat × Nat} (e : n1.1 = n0.1) (h1 : n1.1 ≤ n1.2) (h2 : n1.2 ≤ h.size) (I : Inv Z CT N n0 A H h) : Inv Z CT N n1 A H h :=
  ⟨I.1, ⟨h1, h2⟩, fun j o hj => by
    obtain ⟨a, ha, r⟩ := I.2.2.1 j o hj
    exact ⟨a, ha, r.re e⟩, I.2.2.2⟩
theorem Inv.pushNone (I : Inv Z CT N n0 A H h) (E : Ext h h') (w : Addr) : Inv Z CT N n0 (A.push (.ref w)) (H ++ [none]) h' := by
  obtain ⟨i1, i2, i3, i4⟩ := I
  have X := Ex.push A (.ref w)
  have here : (A.push (.ref w))[N + H.length]? = some (.ref w) := by rw [← i1]; simp
  have old : ∀ j o', nth (H ++ [none]) j = some o' → (j < H.length ∧ nth H j = some o') ∨ (j = H.length ∧ o' = none) := fun j o' hj => by
    have q := nth_lt hj
    rw [List.length_append, List.length_singleton] at q
    rcases Nat.lt_or_ge j H.length with u | u
    · rw [nth_append_lt u] at hj; exact Or.inl ⟨u, hj⟩
    · have e : j = H.length := by omega
      subst e
      rw [nth_append_len] at hj
      exact Or.inr ⟨rfl, (Option.some.inj hj).symm⟩
  refine ⟨by rw [Array.size_push, List.length_append, i1]; rfl, ⟨i2.1, Nat.le_trans i2.2 E.1⟩, fun j o' hj => ?_, fun i j oi oj a b ne hi hj ha hb => ?_⟩
  · rcases old j o' hj with ⟨-, q⟩ | ⟨rfl, rfl⟩
    · obtain ⟨a, ha, r⟩ := i3 j o' q
      exact ⟨a, X _ _ ha, r.ext E X⟩
    · exact ⟨_, here, trivial⟩
  · rcases old i _ hi with ⟨u, q⟩ | ⟨-, e'⟩ <;> rcases old j _ hj with ⟨u', q'⟩ | ⟨-, e''⟩
    · obtain ⟨c, hc, -⟩ := i3 i _ q
      obtain ⟨d, hd, -⟩ := i3 j _ q'
      rw [X _ _ hc] at ha; cases ha
      rw [X _ _ hd] at hb; cases hb
      exact i4 i j oi oj _ _ ne q q' hc hd
    · cases e''
    · cases e'
    · cases e'
theorem Inv.push (I : Inv Z CT N n0 A H h) (E : Ext h h') {o : Obj} (R : RepO Z CT n0 (A.push (.ref h.size)) h' h.size (some o)) : Inv Z CT N n0 (A.push (.ref h.size)) (H ++ [some o]) h' := by
  obtain ⟨i1, i2, i3, i4⟩ := I
  have X := Ex.push A (.ref h.size)
  have here : (A.push (.ref h.size))[N + H.length]? = some (.ref h.size) := by rw [← i1]; simp
  have old : ∀ j o', nth (H ++ [some o]) j = some o' → (j < H.length ∧ nth H j = some o') ∨ (j = H.length ∧ o' = some o) := fun j o' hj => by
    have q := nth_lt hj
    rw [List.length_append, List.length_singleton] at q
    rcases Nat.lt_or_ge j H.length with u | u
    · rw [nth_append_lt u] at hj; exact Or.inl ⟨u, hj⟩
    · have e : j = H.length := by omega
      subst e
      rw [nth_append_len] at hj
      exact Or.inr ⟨rfl, (Option.some.inj hj).symm⟩
  refine ⟨by rw [Array.size_push, List.length_append, i1]; rfl, ⟨i2.1, Nat.le_trans i2.2 E.1⟩, fun j o' hj => ?_, fun i j oi oj a b ne hi hj ha hb => ?_⟩
  · rcases old j o' hj with ⟨-, q⟩ | ⟨rfl, rfl⟩
    · obtain ⟨a, ha, r⟩ := i3 j o' q
      exact ⟨a, X _ _ ha, r.ext E X⟩
    · exact ⟨_, here, R⟩
  · have far : ∀ k ok c, k < H.length → nth H k = some (some ok) → (A.push (.ref h.size))[N + k]? = some (.ref c) → c < h.size := fun k ok c hk q hc => by
      obtain ⟨c', hc', r⟩ := i3 k _ q
      rw [X _ _ hc'] at hc
      cases hc
      exact r.lt
    rcases old i _ hi with ⟨u, q⟩ | ⟨rfl, -⟩ <;> rcases old j _ hj with ⟨u', q'⟩ | ⟨rfl, e'⟩
    · obtain ⟨c, hc, -⟩ := i3 i _ q
      obtain ⟨d, hd, -⟩ := i3 j _ q'
      rw [X _ _ hc] at ha; cases ha
      rw [X _ _ hd] at hb; cases hb
      exact i4 i j oi oj _ _ ne q q' hc hd
    · rw [here] at hb; cases hb
      exact Nat.ne_of_lt (far i oi a u q ha)
    · rw [here] at ha; cases ha
      exact (Nat.ne_of_lt (far j oj b u' q' hb)).symm
    · exact absurd rfl ne
theorem Inv.upd (I : Inv Z CT N n0 A H h) {j : Nat} {o o' : Obj} {a : Addr} (hj : nth H j = some (some o)) (ha : A[N + j]? = some (.ref a)) (K : Keep h h' [a]) (R : RepO Z CT n0 A h' a (some o')) : Inv Z CT N n0 A (H.set j (some o')) h' := by
  obtain ⟨i1, i2, i3, i4⟩ := I
  have lt := nth_lt hj
  have old : ∀ i x, nth (H.set j (some o')) i = some (some x) → ∃ y, nth H i = some (some y) := fun i x hi => by
    by_cases e : j = i
    · subst e; exact ⟨o, hj⟩
    · rw [nth_set_ne _ e] at hi; exact ⟨x, hi⟩
  refine ⟨by rw [List.length_set]; exact i1, ⟨i2.1, Nat.le_trans i2.2 K.1⟩, fun i x hi => ?_, fun i i' oi oj b c ne hi hi' hb hc => ?_⟩
  · by_cases e : j = i
    · subst e
      rw [nth_set_self _ lt] at hi
      cases hi
      exact ⟨a, ha, R⟩
    · rw [nth_set_ne _ e] at hi
      obtain ⟨b, hb, r⟩ := i3 i x hi
      cases x with
      | none => exact ⟨b, hb, trivial⟩
      | some x => exact ⟨b, hb, r.keep K (i4 i j x o b a (Ne.symm e) hi hj hb ha)⟩
  · obtain ⟨y, hy⟩ := old i oi hi
    obtain ⟨y', hy'⟩ := old i' oj hi'
    exact i4 i i' y y' b c ne hy hy' hb hc
/-- what a reference names -/
theorem plc_ref (I : Inv Z CT N n0 A H h) {t : Term} {j : Nat} {o : Option Obj} {v : Value} (hp : plc N t = some j) (hj : nth H j = some o) (he : t.eval A Z none [] Z = some v) : ∃ a, v = .ref a ∧ A[N + j]? = some (.ref a) ∧ RepO Z CT n0 A h a o := by
  cases t <;> simp only [plc, reduceCtorEq] at hp
  rename_i i
  cases hb : Nat.ble N i <;> rw [hb] at hp <;> simp only [cond_true, cond_false, Option.some.injEq, reduceCtorEq] at hp
  subst hp
  have le := Nat.le_of_ble_eq_true hb
  obtain ⟨a, ha, r⟩ := I.2.2.1 _ _ hj
  have e : N + (i - N) = i := by omega
  rw [e] at ha
  have he' : A[i]? = some v := he
  rw [ha] at he'
  cases he'
  exact ⟨a, rfl, by rw [e]; exact ha, r⟩
theorem dflt_den {ty : FieldType} (h : okTy ty = true) : (dflt ty).Den A Z (defaultValue ty) := by
  cases ty <;> first | (simp [okTy] at h; done) | exact ⟨rfl, rfl, rfl⟩
theorem denStack_nth : ∀ {xs : List SVal} {vs : List Value}, DenStack A Z xs vs → ∀ (i : Nat) (x : SVal), nth xs i = some x → ∃ v, vs[i]? = some v ∧ x.Den A Z v
  | _ :: _, v :: _, d, 0, x, hx => by cases hx; exact ⟨v, rfl, d.1⟩
  | _ :: xs, _ :: vs, d, i + 1, x, hx => by
    obtain ⟨w, h1, h2⟩ := denStack_nth (xs := xs) (vs := vs) d.2 i x hx
    exact ⟨w, by simpa using h1, h2⟩
  | [], [], _, _, _, hx => by cases hx
  | [], _ :: _, d, _, _, _ => d.elim
  | _ :: _, [], d, _, _, _ => d.elim
theorem denStack_len : ∀ {xs : List SVal} {vs : List Value}, DenStack A Z xs vs → vs.length = xs.length
  | [], [], _ => rfl
  | _ :: _, _ :: _, d => by rw [List.length_cons, List.length_cons, denStack_len d.2]
  | [], _ :: _, d => d.elim
  | _ :: _, [], d => d.elim
theorem denStack_set : ∀ {xs : List SVal} {vs : List Value} (i : Nat) {x : SVal} {v : Value}, DenStack A Z xs vs → x.Den A Z v → DenStack A Z (xs.set i x) (vs.set i v)
  | [], [], _, _, _, _, _ => trivial
  | _ :: _, _ :: _, 0, _, _, d, e => ⟨e, d.2⟩
  | _ :: _, _ :: _, i + 1, _, _, d, e => ⟨d.1, denStack_set i d.2 e⟩
  | [], _ :: _, _, _, _, d, _ => d.elim
  | _ :: _, [], _, _, _, d, _ => d.elim
theorem denStack_replicate {x : SVal} {v : Value} (d : x.Den A Z v) : ∀ n, DenStack A Z (List.replicate n x) (List.replicate n v)
  | 0 => trivial
  | n + 1 => ⟨d, denStack_replicate d n⟩
theorem denStack_append : ∀ {xs ys : List SVal} {vs ws : List Value}, DenStack A Z xs vs → DenStack A Z ys ws → DenStack A Z (xs ++ ys) (vs ++ ws)
  | [], _, [], _, _, e => e
  | _ :: _, _, _ :: _, _, d, e => ⟨d.1, denStack_append d.2 e⟩
  | [], _, _ :: _, _, d, _ => d.elim
  | _ :: _, _, [], _, d, _ => d.elim
theorem denStack_take : ∀ (n : Nat) {xs : List SVal} {vs : List Value}, DenStack A Z xs vs → DenStack A Z (xs.take n) (vs.take n)
  | 0, _, _, _ => by rw [List.take_zero, List.take_zero]; trivial
  | n + 1, [], [], _ => trivial
  | n + 1, _ :: _, _ :: _, d => ⟨d.1, denStack_take n d.2⟩
  | _ + 1, [], _ :: _, d => d.elim
  | _ + 1, _ :: _, [], d => d.elim
theorem denStack_drop : ∀ (n : Nat) {xs : List SVal} {vs : List Value}, DenStack A Z xs vs → DenStack A Z (xs.drop n) (vs.drop n)
  | 0, _, _, d => d
  | n + 1, [], [], _ => trivial
  | n + 1, _ :: _, _ :: _, d => denStack_drop n d.2
  | _ + 1, [], _ :: _, d => d.elim
  | _ + 1, _ :: _, [], d => d.elim
theorem denStack_snoc {xs : List SVal} {vs : List Value} {x : SVal} {v : Value} (d : DenStack A Z xs vs) (e : x.Den A Z v) : DenStack A Z (xs ++ [x]) (vs ++ [v]) := denStack_append d ⟨e, trivial⟩
theorem denStack_wt : ∀ {xs : List SVal} {vs : List Value}, DenStack A Z xs vs → (vs.map fun v => v.category).sum = wt xs
  | [], [], _ => rfl
  | x :: _, v :: _, d => by
    rw [List.map_cons, List.sum_cons, denStack_wt d.2]
    have q := d.1.2.2
    cases hk : x.k <;> rw [hk] at q <;> simp only [wt, hk] <;> cases v <;> first | rfl | (simp [VKind.ok] at q)
  | [], _ :: _, d => d.elim
  | _ :: _, [], d => d.elim
end Facts
end Jvm.OwnEv
namespace Jvm.OwnEv
open Sem ClassFile Op Lib Jvm.Stand Jvm.Free Jvm.LawKit Jvm.RoadKit Jvm.Sym
/-! ## 4. The single moves are sound -/
/-- where a walk stands -/
def Pnt (p : Program) (l : Launch) (e : Env) (R : Room) (st : State) (m : MethodId) (args : Array Value) (below : List Frame) (meth : Method) (cd : Code) (Z : State) (CT : List CRow) (N : Nat) (n0 : Nat × Nat)
    (A : Array Value) (σ : SFrame) (H : AH) (c s : Nat) (T : State) (g : JFrame) : Prop :=
  ∃ (locs : List Loc) (cells slots : Nat), Stand p l e R st m args below meth cd T locs cells slots ∧ Sym.Fits A Z m σ g ∧ Inv Z CT N n0 A H T.heap ∧ Fr n0.1 locs ∧ cells + c ≤ R.cells ∧ slots + s ≤ R.slots
def Goes (p : Program) (l : Launch) (e : Env) (R : Room) (st : State) (m : MethodId) (args : Array Value) (below : List Frame) (meth : Method) (cd : Code) (Z : State) (CT : List CRow) (N : Nat) (n0 : Nat × Nat)
    (A : Array Value) (T : State) (g : JFrame) (σ : SFrame) (H : AH) (c s : Nat) : Prop :=
  ∃ A' T' g', Ex A A' ∧ Pnt p l e R st m args below meth cd Z CT N n0 A' σ H c s T' g' ∧ Leads p.tables e below T g T' g'
def FLink (Z : State) (a0 : Array Value) (own : String) (idx : Nat) (C n d : String) : Prop := (Cond.fieldLink own idx C n d).before a0 Z = true ∨ (Cond.fieldLinkNest own idx C n d "").before a0 Z = true
def forkOff : Instr → Option Int
  | .if_icmp _ o => some o
  | .ifCond _ o => some o
  | .ifnull o => some o
  | .ifnonnull o => some o
  | _ => none
abbrev cloneN : MethodName := ⟨"java/lang/Object", "clone", "()Ljava/lang/Object;"⟩
section Moves
variable {p : Program} {l : Launch} {e : Env} {R : Room} {st : State} {m : MethodId} {args : Array Value} {below : List Frame} {meth : Method} {cd : Code} {Z : State} {a0 : Array Value} {CT : List CRow} {N : Nat} {n0 : Nat × Nat}
variable {A : Array Value} {σ σ' : SFrame} {H H' : AH} {c s c' s' : Nat} {T : State} {g : JFrame} {i : Instr} {len : Nat} {own : String}
theorem goesFits (P : Pnt p l e R st m args below meth cd Z CT N n0 A σ H c s T g) (q : ∃ g', Sym.Fits A Z m σ' g' ∧ Leads p.tables e below T g T g') : Goes p l e R st m args below meth cd Z CT N n0 A T g σ' H c s := by
  obtain ⟨locs, cells, slots, X, -, I, N1, B1, B2⟩ := P
  obtain ⟨g', F, L⟩ := q
  exact ⟨A, T, g', Ex.refl A, ⟨locs, cells, slots, X, F, I, N1, B1, B2⟩, L⟩
theorem fitsTop {Γ : List (Term × Term)} (h : ΓOk Γ A Z) (F : Sym.Fits A Z m σ g) : Sym.Fits A Z m (nrmTop Γ σ) g := by
  unfold nrmTop
  split
  · rename_i x r hst
    have q := F.stack
    rw [hst] at q
    obtain ⟨v, w, e1, d, ds⟩ := q.cons_inv
    refine ⟨F.method, F.pc, F.locals, ?_, F.locked, F.entered, F.mroom⟩
    show DenStack A Z (⟨nrm Γ x.t, x.k⟩ :: r) g.stack
    rw [e1]
    exact ⟨den_nrm h d, ds⟩
  · exact F
theorem sPlain (hx : p.tables.exec = Jvm.exec) (P : Pnt p l e R st m args below meth cd Z CT N n0 A σ H c s T g) (hd : decode cd.code g.pc = .ok (i, len)) (hm : moveLoad i len σ = some σ' ∨ moveConst i len σ = some σ' ∨ moveStore i len σ = some σ' ∨ moveStack i len σ = some σ' ∨ moveStack2 i len σ = some σ') :
    Goes p l e R st m args below meth cd Z CT N n0 A T g σ' H c s := by
  obtain ⟨locs, cells, slots, X, F, I, r⟩ := id P
  refine goesFits P ?_
  rcases hm with hm | hm | hm | hm | hm
  · exact moveLoad_sound X.here hx F hd hm
  · exact moveConst_sound X.here hx F hd hm
  · exact moveStore_sound X.here hx F hd hm
  · exact moveStack_sound X.here hx F hd hm
  · exact moveStack2_sound X.here hx F hd hm
theorem sArith (hx : p.tables.exec = Jvm.exec) {Γ : List (Term × Term)} (hΓ : ΓOk Γ A Z) (P : Pnt p l e R st m args below meth cd Z CT N n0 A σ H c s T g) (hd : decode cd.code g.pc = .ok (i, len)) (hm : mvArith Γ i len σ = some σ') :
    Goes p l e R st m args below meth cd Z CT N n0 A T g σ' H c s := by
  obtain ⟨locs, cells, slots, X, F, I, r⟩ := id P
  refine goesFits P ?_
  unfold mvArith at hm
  obtain ⟨σ₁, hm', rfl⟩ := Option.map_eq_some_iff.mp hm
  clear hm
  have hm := hm'
  have key : ∃ g', Sym.Fits A Z m σ₁ g' ∧ Leads p.tables e below T g T g' := by
    rcases orElse_some hm with hm | hm
    · exact moveBinI_sound X.here hx F hd hm
    rcases orElse_some hm with hm | hm
    · exact moveBinL_sound X.here hx F hd hm
    rcases orElse_some hm with hm | hm
    · exact moveShL_sound X.here hx F hd hm
    rcases orElse_some hm with hm | hm
    · exact moveUnII_sound X.here hx F hd hm
    rcases orElse_some hm with hm | hm
    · exact moveI2l_sound X.here hx F hd hm
    rcases orElse_some hm with hm | hm
    · exact moveL2i_sound X.here hx F hd hm
    rcases orElse_some hm with hm | hm
    · exact moveLneg_sound X.here hx F hd hm
    · exact moveLcmp_sound X.here hx F hd hm
  obtain ⟨g', F', L⟩ := key
  exact ⟨g', fitsTop hΓ F', L⟩
theorem sIinc (hx : p.tables.exec = Jvm.exec) {Γ : List (Term × Term)} (hΓ : ΓOk Γ A Z) (P : Pnt p l e R st m args below meth cd Z CT N n0 A σ H c s T g) (hd : decode cd.code g.pc = .ok (i, 3)) (hm : mvIinc Γ i σ = some σ') :
    Goes p l e R st m args below meth cd Z CT N n0 A T g σ' H c s := by
  obtain ⟨locs, cells, slots, X, F, I, r⟩ := id P
  refine goesFits P ?_
  unfold mvIinc at hm
  split at hm
  · rename_i n k
    split at hm
    · rename_i x hx'
      split at hm
      · rename_i hk
        obtain ⟨L, hL, rfl⟩ := Option.map_eq_some_iff.mp hm
        obtain ⟨v, hv, d⟩ := F.locals.get hx'
        obtain ⟨y, rfl⟩ := d.int hk
        have d2 : (⟨.add x.t (.int (Int32.ofInt k)), .int⟩ : SVal).Den A Z (.int (y + Int32.ofInt k)) := ⟨by show (x.t.closed && true) = true; rw [d.1]; rfl, by simp [Term.eval, d.2.1], rfl⟩
        obtain ⟨l', hl', dl⟩ := F.locals.store (den_nrm hΓ d2) hL
        exact ⟨{ g with pc := g.pc + 3, locals := l' }, ⟨F.method, by show g.pc + 3 = σ.pc + 3; rw [F.pc], dl, F.stack, F.locked, F.entered, F.mroom⟩, fun target hr => XS.iinc X.here hx F.method hd hv hl' hr⟩
      · cases hm
    · cases hm
  · cases hm
/-- what is assumed of comparisons -/
def CFOk (Γc : List CFact) (A : Array Value) (Z : State) : Prop := ∀ q ∈ Γc, ∀ x y : Int32, q.2.1.eval A Z none [] Z = some (.int x) → q.2.2.1.eval A Z none [] Z = some (.int y) → if_icmp.holds q.1 x y = q.2.2.2
theorem CFOk.ext {Γc : List CFact} {A A' : Array Value} {Z : State} (h : Ex A A') (k : ∀ q ∈ Γc, ∃ x y : Int32, q.2.1.eval A Z none [] Z = some (.int x) ∧ q.2.2.1.eval A Z none [] Z = some (.int y) ∧ if_icmp.holds q.1 x y = q.2.2.2) : CFOk Γc A' Z := fun q hq x y h1 h2 => by
  obtain ⟨x', y', e1, e2, e3⟩ := k q hq
  rw [eval_ext h _ _ e1] at h1
  rw [eval_ext h _ _ e2] at h2
  cases h1; cases h2
  exact e3
theorem lookC_ok {x y : Int32} : ∀ {Γc : List CFact} {k : ClassFile.Cond} {a b : Term} {v : Bool}, CFOk Γc A Z → lookC Γc k a b = some v → a.eval A Z none [] Z = some (.int x) → b.eval A Z none [] Z = some (.int y) → if_icmp.holds k x y = v
  | [], _, _, _, _, _, h, _, _ => by cases h
  | (k', a', b', v') :: r, k, a, b, v, hC, h, h1, h2 => by
    unfold lookC at h
    split at h
    · rename_i q
      obtain ⟨rfl, rfl, rfl⟩ := q
      cases h
      exact hC _ (List.mem_cons_self ..) x y h1 h2
    · exact lookC_ok (fun q hq => hC q (List.mem_cons_of_mem _ hq)) h h1 h2
theorem decI_ok {Γc : List CFact} {k : ClassFile.Cond} {a b : Term} {v : Bool} {x y : Int32} (hC : CFOk Γc A Z) (h : decI Γc k a b = some v) (h1 : a.eval A Z none [] Z = some (.int x)) (h2 : b.eval A Z none [] Z = some (.int y)) : if_icmp.holds k x y = v := by
  unfold decI at h
  split at h
  · cases h1; cases h2
    exact Option.some.inj h
  · exact lookC_ok hC h h1 h2
theorem nullT_ok (I : Inv Z CT N n0 A H T.heap) {t : Term} {b : Bool} {v : Value} (h : nullT N H.length t = some b) (he : t.eval A Z none [] Z = some v) : (b = true ∧ v = .null) ∨ (b = false ∧ ∃ a, v = .ref a) := by
  cases t <;> simp only [nullT, Option.some.injEq, reduceCtorEq] at h
  · rename_i i
    cases hb : (Nat.ble N i && Nat.blt i (N + H.length)) <;> rw [hb] at h <;> simp only [cond_true, cond_false, Option.some.injEq, reduceCtorEq] at h
    subst h
    simp only [Bool.and_eq_true] at hb
    have h1 := Nat.le_of_ble_eq_true hb.1
    have h2 : i < N + H.length := Nat.le_of_ble_eq_true hb.2
    obtain ⟨o, ho⟩ := nth_some (L := H) (n := i - N) (by omega)
    obtain ⟨a, ha, -⟩ := I.2.2.1 _ _ ho
    have e : N + (i - N) = i := by omega
    rw [e] at ha
    have he' : A[i]? = some v := he
    rw [ha] at he'
    cases he'
    exact Or.inr ⟨rfl, a, rfl⟩
  · subst h
    cases he
    exact Or.inl ⟨rfl, rfl⟩
theorem fitsAt {pc' : Nat} {r : List SVal} {vs : List Value} (F : Sym.Fits A Z m σ g) (d : DenStack A Z r vs) : Sym.Fits A Z m { σ with pc := pc', stack := r } { g with pc := pc', stack := vs } := ⟨F.method, rfl, F.locals, d, F.locked, F.entered, F.mroom⟩
theorem sFork (hx : p.tables.exec = Jvm.exec) {Γc : List CFact} (hC : CFOk Γc A Z) (P : Pnt p l e R st m args below meth cd Z CT N n0 A σ H c s T g) {a : Nat} (hd : decode cd.code g.pc = .ok (i, 3)) {o : Int} (ho : forkOff i = some o) (h0 : 0 ≤ (σ.pc : Int) + o) (ha : ((σ.pc : Int) + o).toNat = a)
    (hm : mvFork N Γc H.length i a σ = some σ') : Goes p l e R st m args below meth cd Z CT N n0 A T g σ' H c s := by
  obtain ⟨locs, cells, slots, X, F, I, r⟩ := id P
  refine goesFits P ?_
  unfold mvFork at hm
  split at hm
  · rename_i k o' y x r hst
    cases Option.some.inj ho
    split at hm
    · rename_i hk
      obtain ⟨v, hv, rfl⟩ := Option.map_eq_some_iff.mp hm
      have hs := F.stack
      rw [hst] at hs
      obtain ⟨vy, w, e1, dy, hs1⟩ := hs.cons_inv
      obtain ⟨vx, w', e2, dx, hs2⟩ := hs1.cons_inv
      subst e2
      obtain ⟨xi, rfl⟩ := dx.int hk.1
      obtain ⟨yi, rfl⟩ := dy.int hk.2
      have q := decI_ok hC hv dx.2.1 dy.2.1
      cases v
      · exact ⟨_, fitsAt (pc' := σ.pc + 3) F hs2, fun target hr => XS.icmpNo X.here hx F.method hd e1 q (by rw [F.pc]; exact hr)⟩
      · exact ⟨_, fitsAt (pc' := a) F hs2, fun target hr => XS.icmpYes X.here hx F.method F.pc hd e1 q h0 ha hr⟩
    · cases hm
  · rename_i k o' x r hst
    cases Option.some.inj ho
    split at hm
    · rename_i hk
      obtain ⟨v, hv, rfl⟩ := Option.map_eq_some_iff.mp hm
      have hs := F.stack
      rw [hst] at hs
      obtain ⟨vx, w', e1, dx, hs2⟩ := hs.cons_inv
      obtain ⟨xi, rfl⟩ := dx.int hk
      have q : if_icmp.holds k xi 0 = v := decI_ok hC hv dx.2.1 rfl
      have hh : ifCond.holds k xi = if_icmp.holds k xi 0 := by cases k <;> rfl
      rw [← hh] at q
      cases v
      · exact ⟨_, fitsAt (pc' := σ.pc + 3) F hs2, fun target hr => XS.ifNo X.here hx F.method hd e1 q (by rw [F.pc]; exact hr)⟩
      · exact ⟨_, fitsAt (pc' := a) F hs2, fun target hr => XS.ifYes X.here hx F.method F.pc hd e1 q h0 ha hr⟩
    · cases hm
  · rename_i o' x r hst
    cases Option.some.inj ho
    obtain ⟨v, hv, rfl⟩ := Option.map_eq_some_iff.mp hm
    have hs := F.stack
    rw [hst] at hs
    obtain ⟨vx, w', e1, dx, hs2⟩ := hs.cons_inv
    rcases nullT_ok I hv dx.2.1 with ⟨rfl, rfl⟩ | ⟨rfl, b, rfl⟩
    · exact ⟨_, fitsAt (pc' := a) F hs2, fun target hr => XS.ifnullYes X.here hx F.method F.pc hd e1 h0 ha hr⟩
    · exact ⟨_, fitsAt (pc' := σ.pc + 3) F hs2, fun target hr => XS.ifnullNo X.here hx F.method hd e1 (by rw [F.pc]; exact hr)⟩
  · rename_i o' x r hst
    cases Option.some.inj ho
    obtain ⟨v, hv, rfl⟩ := Option.map_eq_some_iff.mp hm
    have hs := F.stack
    rw [hst] at hs
    obtain ⟨vx, w', e1, dx, hs2⟩ := hs.cons_inv
    rcases nullT_ok I hv dx.2.1 with ⟨rfl, rfl⟩ | ⟨rfl, b, rfl⟩
    · exact ⟨_, fitsAt (pc' := σ.pc + 3) F hs2, fun target hr => XT.ifnonnullNo X.here hx F.method hd e1 (by rw [F.pc]; exact hr)⟩
    · exact ⟨_, fitsAt (pc' := a) F hs2, fun target hr => XT.ifnonnullYes X.here hx F.method F.pc hd e1 h0 ha hr⟩
  · cases hm
theorem sGoto (hx : p.tables.exec = Jvm.exec) (P : Pnt p l e R st m args below meth cd Z CT N n0 A σ H c s T g) {a : Nat} {o : Int} (hd : decode cd.code g.pc = .ok (.goto o, 3)) (h0 : 0 ≤ (σ.pc : Int) + o) (ha : ((σ.pc : Int) + o).toNat = a) :
    Goes p l e R st m args below meth cd Z CT N n0 A T g { σ with pc := a } H c s := by
  obtain ⟨locs, cells, slots, X, F, I, r⟩ := id P
  refine goesFits P ⟨{ g with pc := a }, ⟨F.method, rfl, F.locals, F.stack, F.locked, F.entered, F.mroom⟩, fun target hr => XS.goto X.here hx F.method F.pc hd h0 ha hr⟩
theorem isK_i {t : Term} {z : Int32} (h : t.eval A Z none [] Z = some (.int z)) : (isK .int t).before A Z = true := by
  show ((Cond.isInt t).value A Z none Z [] == some true) = true
  simp [Cond.value, h]
theorem isK_l {t : Term} {z : Int64} (h : t.eval A Z none [] Z = some (.long z)) : (isK .long t).before A Z = true := by
  show ((Cond.isLong t).value A Z none Z [] == some true) = true
  simp [Cond.value, h]
theorem need_div {a b : Term} {x y : Int32} (h1 : a.eval A Z none [] Z = some (.int x)) (h2 : b.eval A Z none [] Z = some (.int y)) (hy : y ≠ 0) : (isK .int (.div a b)).before A Z = true := isK_i (z := x / y) (by simp [Term.eval, h1, h2, hy])
theorem need_rem {a b : Term} {x y : Int32} (h1 : a.eval A Z none [] Z = some (.int x)) (h2 : b.eval A Z none [] Z = some (.int y)) (hy : y ≠ 0) : (isK .int (.rem a b)).before A Z = true := isK_i (z := x % y) (by simp [Term.eval, h1, h2, hy])
theorem need_ldiv {a b : Term} {x y : Int64} (h1 : a.eval A Z none [] Z = some (.long x)) (h2 : b.eval A Z none [] Z = some (.long y)) (hy : y ≠ 0) : (isK .long (.op2 .ldiv a b)).before A Z = true := isK_l (z := x / y) (by simp [Term.eval, h1, h2, hy, Binary.apply])
theorem need_lrem {a b : Term} {x y : Int64} (h1 : a.eval A Z none [] Z = some (.long x)) (h2 : b.eval A Z none [] Z = some (.long y)) (hy : y ≠ 0) : (isK .long (.op2 .lrem a b)).before A Z = true := isK_l (z := x - (x / y) * y) (by simp [Term.eval, h1, h2, hy, Binary.apply])
theorem divNeed {q : SFrame × List Jvm.Cond} {y : SVal} {r : List SVal} (F : Sym.Fits A Z m σ g) (hst : σ.stack = y :: r) (hq : moveDiv i 1 σ = some q) (hi : ∀ z : Int32, y.t.eval A Z none [] Z = some (.int z) → z ≠ 0) (hl : ∀ z : Int64, y.t.eval A Z none [] Z = some (.long z) → z ≠ 0) : ∀ n ∈ q.2, n.before A Z = true := by
  have hs := F.stack
  rw [hst] at hs
  obtain ⟨vy, w, e1, dy, hs1⟩ := hs.cons_inv
  obtain ⟨pc, L, S, W⟩ := σ
  dsimp only at hst
  subst hst
  cases r with
  | nil => cases i <;> cases hq
  | cons x r =>
    obtain ⟨vx, w', e2, dx, hs2⟩ := hs1.cons_inv
    cases i
    case idiv =>
      have hq' : (if x.k = .int ∧ y.k = .int then some _ else none) = some q := hq
      split at hq'
      · rename_i hk
        obtain ⟨xi, rfl⟩ := dx.int hk.1
        obtain ⟨yi, rfl⟩ := dy.int hk.2
        cases hq'
        intro n hn
        cases List.mem_singleton.mp hn
        exact need_div dx.2.1 dy.2.1 (hi yi dy.2.1)
      · cases hq'
    case irem =>
      have hq' : (if x.k = .int ∧ y.k = .int then some _ else none) = some q := hq
      split at hq'
      · rename_i hk
        obtain ⟨xi, rfl⟩ := dx.int hk.1
        obtain ⟨yi, rfl⟩ := dy.int hk.2
        cases hq'
        intro n hn
        cases List.mem_singleton.mp hn
        exact need_rem dx.2.1 dy.2.1 (hi yi dy.2.1)
      · cases hq'
    case ldiv =>
      have hq' : (if x.k = .long ∧ y.k = .long then some _ else none) = some q := hq
      split at hq'
      · rename_i hk
        obtain ⟨xi, rfl⟩ := dx.long hk.1
        obtain ⟨yi, rfl⟩ := dy.long hk.2
        cases hq'
        intro n hn
        cases List.mem_singleton.mp hn
        exact need_ldiv dx.2.1 dy.2.1 (hl yi dy.2.1)
      · cases hq'
    case lrem =>
      have hq' : (if x.k = .long ∧ y.k = .long then some _ else none) = some q := hq
      split at hq'
      · rename_i hk
        obtain ⟨xi, rfl⟩ := dx.long hk.1
        obtain ⟨yi, rfl⟩ := dy.long hk.2
        cases hq'
        intro n hn
        cases List.mem_singleton.mp hn
        exact need_lrem dx.2.1 dy.2.1 (hl yi dy.2.1)
      · cases hq'
    all_goals cases hq
theorem sDiv (hx : p.tables.exec = Jvm.exec) {Γ : List (Term × Term)} (hΓ : ΓOk Γ A Z) {Γc : List CFact} (hC : CFOk Γc A Z) (P : Pnt p l e R st m args below meth cd Z CT N n0 A σ H c s T g) (hd : decode cd.code g.pc = .ok (i, 1)) (hm : mvDiv Γ Γc i σ = some σ') :
    Goes p l e R st m args below meth cd Z CT N n0 A T g σ' H c s := by
  obtain ⟨locs, cells, slots, X, F, I, r⟩ := id P
  refine goesFits P ?_
  unfold mvDiv at hm
  split at hm
  · rename_i y r hst
    have go : ∀ q, moveDiv i 1 σ = some q → (∀ z : Int32, y.t.eval A Z none [] Z = some (.int z) → z ≠ 0) → (∀ z : Int64, y.t.eval A Z none [] Z = some (.long z) → z ≠ 0) → nrmTop Γ q.1 = σ' → ∃ g', Sym.Fits A Z m σ' g' ∧ Leads p.tables e below T g T g' := fun q hq hi hl e0 => by
      obtain ⟨q1, q2⟩ := q
      obtain ⟨g', F', L⟩ := moveDiv_sound (e := e) X.here hx F hd hq (divNeed F hst hq hi hl)
      exact ⟨g', e0 ▸ fitsTop hΓ F', L⟩
    split at hm
    · rename_i z hz
      split at hm
      · cases hm
      · rename_i nz
        obtain ⟨q, hq, e0⟩ := Option.map_eq_some_iff.mp hm
        exact go q hq (fun z' e1 => by rw [hz] at e1; cases e1; exact nz) (fun z' e1 => by rw [hz] at e1; cases e1) e0
    · rename_i z hz
      split at hm
      · cases hm
      · rename_i nz
        obtain ⟨q, hq, e0⟩ := Option.map_eq_some_iff.mp hm
        exact go q hq (fun z' e1 => by rw [hz] at e1; cases e1) (fun z' e1 => by rw [hz] at e1; cases e1; exact nz) e0
    · split at hm
      · rename_i hlook
        obtain ⟨q, hq, e0⟩ := Option.map_eq_some_iff.mp hm
        refine go q hq (fun z' e1 => ?_) (fun z' e1 => ?_) e0
        · have hs := F.stack
          rw [hst] at hs
          obtain ⟨vy, w, e2, dy, hs1⟩ := hs.cons_inv
          have hk : y.k = .int := by
            have := dy.2.2
            rw [dy.2.1] at e1
            cases e1
            cases hk : y.k <;> rw [hk] at this <;> first | rfl | (simp [VKind.ok] at this)
          rw [hk] at hlook
          have := lookC_ok hC hlook e1 rfl
          intro z0
          subst z0
          cases this
        · have hs := F.stack
          rw [hst] at hs
          obtain ⟨vy, w, e2, dy, hs1⟩ := hs.cons_inv
          have hk : y.k = .long := by
            have := dy.2.2
            rw [dy.2.1] at e1
            cases e1
            cases hk : y.k <;> rw [hk] at this <;> first | rfl | (simp [VKind.ok] at this)
          rw [hk] at hlook
          intro z0
          subst z0
          have e3 : (Term.op2 .lcmp y.t (.long 0)).eval A Z none [] Z = some (.int 0) := by simp [Term.eval, e1, Binary.apply]
          have := lookC_ok hC hlook e3 rfl
          cases this
      · cases hm
  · cases hm
theorem sLdc (hx : p.tables.exec = Jvm.exec) (hZ : Z.Warmed39 st.vm) (hown : st.vm.findClass own = some m.cls) (P : Pnt p l e R st m args below meth cd Z CT N n0 A σ H c s T g) {k : Term} (hd : decode cd.code g.pc = .ok (i, len))
    (hl : (∃ idx v, i = .ldc idx ∧ len = 2 ∧ k = .int v ∧ (Cond.constant own idx v).before a0 Z = true) ∨ (∃ idx v, i = .ldc_w idx ∧ len = 3 ∧ k = .int v ∧ (Cond.constant own idx v).before a0 Z = true) ∨ (∃ idx v, i = .ldc2_w idx ∧ len = 3 ∧ k = .long v ∧ (Cond.constantLong own idx v).before a0 Z = true))
    (hm : mvLdc i len k σ = some σ') : Goes p l e R st m args below meth cd Z CT N n0 A T g σ' H c s := by
  obtain ⟨locs, cells, slots, X, F, I, r⟩ := id P
  refine goesFits P ?_
  rcases hl with ⟨idx, v, rfl, rfl, rfl, w⟩ | ⟨idx, v, rfl, rfl, rfl, w⟩ | ⟨idx, v, rfl, rfl, rfl, w⟩
  · cases hm
    exact ⟨_, F.step (DenStack.cons ⟨rfl, rfl, rfl⟩ F.stack) 2, X.ldcInt hx hown (mv hZ w) F.method hd⟩
  · cases hm
    exact ⟨_, F.step (DenStack.cons ⟨rfl, rfl, rfl⟩ F.stack) 3, fun target hr => ldcWI X hx hown (mv hZ w) F.method hd hr⟩
  · cases hm
    exact ⟨_, F.step (DenStack.cons ⟨rfl, rfl, rfl⟩ F.stack) 3, X.ldc2Long hx hown (mv hZ w) F.method hd⟩
end Moves
end Jvm.OwnEv
namespace Jvm.OwnEv
open Sem ClassFile Op Lib Jvm.Stand Jvm.Free Jvm.LawKit Jvm.RoadKit Jvm.Sym
/-! ## 5. The moves that read or write the heap -/
section Moves
variable {p : Program} {l : Launch} {e : Env} {R : Room} {st : State} {m : MethodId} {args : Array Value} {below : List Frame} {meth : Method} {cd : Code} {Z : State} {a0 : Array Value} {CT : List CRow} {N : Nat} {n0 : Nat × Nat}
variable {A : Array Value} {σ σ' : SFrame} {H H' : AH} {c s c' s' : Nat} {T : State} {g : JFrame} {i : Instr} {len : Nat} {own : String}
theorem sGet (hx : p.tables.exec = Jvm.exec) (hZ : Z.Warmed39 st.vm) (hown : st.vm.findClass own = some m.cls) (P : Pnt p l e R st m args below meth cd Z CT N n0 A σ H c s T g) {idx a b : Nat} {C : String} {nn : Nat} {fs : List FRow} {f : FRow}
    (hd : decode cd.code g.pc = .ok (.getfield idx, 3)) (hC : nth CT a = some (C, nn, fs)) (hf : nth fs b = some f) (hl : FLink Z a0 own idx C f.1 f.2.1) (hm : mvGet N H a b σ = some σ') : Goes p l e R st m args below meth cd Z CT N n0 A T g σ' H c s := by
  obtain ⟨locs, cells, slots, X, F, I, N1, B1, B2⟩ := id P
  unfold mvGet at hm
  split at hm
  · rename_i x r hst
    split at hm
    · rename_i j hj
      split at hm
      · rename_i ci xs hO
        cases hb : Nat.beq ci a <;> rw [hb] at hm <;> simp only [cond_true, cond_false, reduceCtorEq] at hm
        have ec := Nat.eq_of_beq_eq_true hb
        subst ec
        obtain ⟨y, hy, rfl⟩ := Option.map_eq_some_iff.mp hm
        have hs := F.stack
        rw [hst] at hs
        obtain ⟨vx, w, e1, dx, hs1⟩ := hs.cons_inv
        obtain ⟨ad, rfl, -, -, C', nn', fs', q1, q2, q3, q4⟩ := plc_ref I hj hO dx.2.1
        cases hC.symm.trans q1
        obtain ⟨v, dv, FF⟩ := q4 b f y hf hy
        obtain ⟨T', X', eT, st'⟩ := getF X hx hZ hown (host := "") hl Via.refl rfl FF F.method e1 hd
        refine ⟨A, T', _, Ex.refl A, ⟨locs, cells, slots, X', F.step (DenStack.cons dv hs1) 3, by rw [eT]; exact I, N1, B1, B2⟩, st'⟩
      · cases hm
    · cases hm
  · cases hm
/-- getfield through an entry that is resolved already -/
theorem getR {locs : List Loc} {cells slots : Nat} (X : Stand p l e R st m args below meth cd T locs cells slots) (hx : p.tables.exec = Jvm.exec) (hZ : Z.Warmed39 st.vm) {O n d : String} {index : Nat} (hown : st.vm.findClass own = some m.cls) (w : (Cond.fieldRef own index O n d).before a0 Z = true)
    {a : Addr} {v : Value} (F : Fld Z T.heap a O n d v) (hg : g.method = m) {rest : List Value} (hs : g.stack = .ref a :: rest) (hd : decode cd.code g.pc = .ok (.getfield index, 3)) : ∃ T', Stand p l e R st m args below meth cd T' locs cells slots ∧ T'.heap = T.heap ∧ ∀ target, Steps p.tables e below (T'.setTop { g with pc := g.pc + 3, stack := v :: rest }) target → Steps p.tables e below (T.setTop g) target := by
  obtain ⟨cell, cf, k, i, f, h1, h2, h3, h4, -, -, h7⟩ := F
  have hT : Z.Warmed39 T.vm := wtrans hZ X.warmed
  obtain ⟨k', hi, -⟩ := State.fieldFound?_setVm (s := Z) hT.alike h2
  have hownT : (Z.setVm T.vm).vm.findClass own = some m.cls := by
    show T.vm.findClass own = some m.cls
    rw [X.warmed.alike.findClass]; exact hown
  obtain ⟨c2, k2, i2, f2, q1, q2⟩ := Cond.fieldRef_spec (s := Z.setVm T.vm) hownT (Cond.fieldRef_warmed39 hT w)
  cases hi.symm.trans q1
  have hready : T.vm.fieldReady m.cls index cf f := q2
  refine ⟨T, X, rfl, fun target hrest => ?_⟩
  subst hg
  jvm_step X.here [hx, hd, getfield.wp_ready (e := e) (s := T) (f := g) X.here.top hready h3 hs h1 h4 h7]
  exact hrest
theorem sGetR (hx : p.tables.exec = Jvm.exec) (hZ : Z.Warmed39 st.vm) (hown : st.vm.findClass own = some m.cls) (P : Pnt p l e R st m args below meth cd Z CT N n0 A σ H c s T g) {idx a b : Nat} {C : String} {nn : Nat} {fs : List FRow} {f : FRow}
    (hd : decode cd.code g.pc = .ok (.getfield idx, 3)) (hC : nth CT a = some (C, nn, fs)) (hf : nth fs b = some f) (hl : (Cond.fieldRef own idx C f.1 f.2.1).before a0 Z = true) (hm : mvGet N H a b σ = some σ') : Goes p l e R st m args below meth cd Z CT N n0 A T g σ' H c s := by
  obtain ⟨locs, cells, slots, X, F, I, N1, B1, B2⟩ := id P
  unfold mvGet at hm
  split at hm
  · rename_i x r hst
    split at hm
    · rename_i j hj
      split at hm
      · rename_i ci xs hO
        cases hb : Nat.beq ci a <;> rw [hb] at hm <;> simp only [cond_true, cond_false, reduceCtorEq] at hm
        have ec := Nat.eq_of_beq_eq_true hb
        subst ec
        obtain ⟨y, hy, rfl⟩ := Option.map_eq_some_iff.mp hm
        have hs := F.stack
        rw [hst] at hs
        obtain ⟨vx, w, e1, dx, hs1⟩ := hs.cons_inv
        obtain ⟨ad, rfl, -, -, C', nn', fs', q1, q2, q3, q4⟩ := plc_ref I hj hO dx.2.1
        cases hC.symm.trans q1
        obtain ⟨v, dv, FF⟩ := q4 b f y hf hy
        obtain ⟨T', X', eT, st'⟩ := getR X hx hZ hown hl FF F.method e1 hd
        refine ⟨A, T', _, Ex.refl A, ⟨locs, cells, slots, X', F.step (DenStack.cons dv hs1) 3, by rw [eT]; exact I, N1, B1, B2⟩, st'⟩
      · cases hm
    · cases hm
  · cases hm
theorem kOk_fits {ty : FieldType} {k : VKind} {v : Value} (h : kOk ty k = true) (d : k.ok v = true) : narrow ty v = v ∧ fits ty v = true := by
  cases ty <;> cases k <;> simp only [kOk, reduceCtorEq] at h <;> cases v <;> simp only [VKind.ok, reduceCtorEq] at d <;> exact ⟨rfl, rfl⟩
theorem sPut (hx : p.tables.exec = Jvm.exec) (hZ : Z.Warmed39 st.vm) (hown : st.vm.findClass own = some m.cls) (hCT : CTOk Z a0 CT) (P : Pnt p l e R st m args below meth cd Z CT N n0 A σ H c s T g) {idx a b : Nat} {C : String} {nn : Nat} {fs : List FRow} {f : FRow}
    (hd : decode cd.code g.pc = .ok (.putfield idx, 3)) (hC : nth CT a = some (C, nn, fs)) (hf : nth fs b = some f) (hl : FLink Z a0 own idx C f.1 f.2.1) (hfin : f.2.2.2 = true → own = C ∧ meth.name = "<init>") (hm : mvPut N H a b f.2.2.1 σ = some (σ', H')) : Goes p l e R st m args below meth cd Z CT N n0 A T g σ' H' c s := by
  obtain ⟨locs, cells, slots, X, F, I, N1, B1, B2⟩ := id P
  unfold mvPut at hm
  split at hm
  · rename_i y x r hst
    split at hm
    · rename_i j hj
      split at hm
      · rename_i ci xs hO
        cases hb : (Nat.beq ci a && kOk f.2.2.1 y.k && Nat.blt b xs.length) <;> rw [hb] at hm <;> simp only [cond_true, cond_false, reduceCtorEq, Option.some.injEq, Prod.mk.injEq] at hm
        obtain ⟨rfl, rfl⟩ := hm
        simp only [Bool.and_eq_true] at hb
        obtain ⟨⟨hb1, hb2⟩, hb3⟩ := hb
        have hlt : b < xs.length := Nat.le_of_ble_eq_true hb3
        have ec := Nat.eq_of_beq_eq_true hb1
        subst ec
        have hs := F.stack
        rw [hst] at hs
        obtain ⟨vy, w, e1, dy, hs1⟩ := hs.cons_inv
        obtain ⟨vx, w', e2, dx, hs2⟩ := hs1.cons_inv
        subst e2
        obtain ⟨ad, rfl, hA, ge, C', nn', fs', q1, q2, q3, q4⟩ := plc_ref I hj hO dx.2.1
        cases hC.symm.trans q1
        have hck := hCT _ _ hC
        obtain ⟨x0, hx0⟩ := nth_some hlt
        obtain ⟨v0, -, FF⟩ := q4 b f x0 hf hx0
        obtain ⟨kn, kf⟩ := kOk_fits hb2 dy.2.2
        have hty := (hck.2.2.1 b f hf).2.1
        have hL : (Cond.lays C C f.1 f.2.1).before a0 Z = true ∨ ((Cond.laysFinal C C f.1 f.2.1).before a0 Z = true ∧ own = C ∧ meth.name = "<init>") := by
          have q := (hck.2.2.1 b f hf).1
          cases hb : f.2.2.2 <;> rw [hb] at q
          · exact Or.inl q
          · exact Or.inr ⟨q, hfin hb⟩
        obtain ⟨T', h', X', eT, W, st'⟩ := putF X hx hZ hown (host := "") hl Via.refl rfl FF q2 hL hck.1 hty kn kf F.method e1 hd
        have K := Keep.of_wr W
        refine ⟨A, T', _, Ex.refl A, ⟨_, cells, slots, X', F.step hs2 3, ?_, Fr.snoc X' N1 ge, B1, B2⟩, st'⟩
        rw [eT]
        refine I.upd hO hA K ⟨ge, C, nn, fs, hC, q2.keep K, by rw [List.length_set]; exact q3, fun k f' x' hf' hx' => ?_⟩
        by_cases eb : b = k
        · subst eb
          cases hf.symm.trans hf'
          rw [nth_set_self _ hlt] at hx'
          cases hx'
          exact ⟨vy, dy, FF.same W⟩
        · rw [nth_set_ne _ eb] at hx'
          obtain ⟨v, dv, F2⟩ := q4 k f' x' hf' hx'
          exact ⟨v, dv, F2.other W (Or.inr (slot_ne (hck.laid hf') (hck.laid hf) (hck.2.2.2 k b f' f (Ne.symm eb) hf' hf) (hck.2.2.1 k f' hf').2.1 hty))⟩
      · cases hm
    · cases hm
  · cases hm
theorem argEval {A : Array Value} {n : Nat} {a : Addr} (h : A[n]? = some (.ref a)) : (⟨.arg n, .ref⟩ : SVal).Den A Z (.ref a) := ⟨rfl, h, rfl⟩
theorem sNew (hx : p.tables.exec = Jvm.exec) (hZ : Z.Warmed39 st.vm) (hown : st.vm.findClass own = some m.cls) (hCT : CTOk Z a0 CT) (P : Pnt p l e R st m args below meth cd Z CT N n0 A σ H c s T g) {idx a : Nat} {C : String} {nn : Nat} {fs : List FRow}
    (hd : decode cd.code g.pc = .ok (.new idx, 3)) (hC : nth CT a = some (C, nn, fs)) (hl : (Cond.classLink own idx C).before a0 Z = true) (hm : mvNew N CT H a c s σ = some (σ', H', c', s')) : Goes p l e R st m args below meth cd Z CT N n0 A T g σ' H' c' s' := by
  obtain ⟨locs, cells, slots, X, F, I, N1, B1, B2⟩ := id P
  unfold mvNew at hm
  rw [hC] at hm
  dsimp only at hm
  cases hb : (Nat.ble 1 c && Nat.ble nn s) <;> rw [hb] at hm <;> simp only [cond_true, cond_false, reduceCtorEq, Option.some.injEq, Prod.mk.injEq] at hm
  obtain ⟨rfl, rfl, rfl, rfl⟩ := hm
  simp only [Bool.and_eq_true] at hb
  have h1 := Nat.le_of_ble_eq_true hb.1
  have h2 := Nat.le_of_ble_eq_true hb.2
  have hck := hCT _ _ hC
  obtain ⟨T', h', X', eT, E, EX, D, -, st'⟩ := newO X hx hZ hown hl (n := nn) hck.1 hck.2.1 rfl F.method hd (by omega) (by omega)
  have XA := Ex.push A (.ref T.heap.size)
  have here : (A.push (.ref T.heap.size))[N + H.length]? = some (.ref T.heap.size) := by rw [← I.1]; simp
  refine ⟨A.push (.ref T.heap.size), T', _, XA, ⟨locs, cells + 1, slots + nn, X', (fits_ext XA F).step (DenStack.cons (argEval here) (DenStack.ext XA F.stack)) 3, ?_, N1, by omega, by omega⟩, st'⟩
  rw [eT]
  refine I.push E ⟨Nat.le_trans I.2.1.1 I.2.1.2, C, nn, fs, hC, EX, by rw [List.length_map], fun k f x hf hx => ?_⟩
  rw [nth_map, hf] at hx
  cases hx
  have q := hck.2.2.1 k f hf
  exact ⟨_, dflt_den q.2.2, D (hck.laid hf) q.2.1⟩
theorem back_len {z : Int32} (h : ¬ z < 0) : Int32.ofNat z.toNatClampNeg = z ∧ z.toNatClampNeg < 2 ^ 31 := back32 h
theorem fits_dflt {ty : FieldType} (h : okTy ty = true) : fits ty (defaultValue ty) = true := by
  cases ty <;> first | (simp [okTy] at h; done) | rfl | decide
theorem arvFull {a : Addr} {k : ClassId} {ty : FieldType} {z : Int32} {h : Heap} (hk : okTy ty = true) (F : Arr Z h a (newA k ty z) ty) (hz : ¬ z < 0) : Arv Z h a k ty z (List.replicate z.toNatClampNeg (defaultValue ty)) .null := by
  refine ⟨_, F, rfl, sz_new _ _ _, hz, fun i hi => ?_, fun i hi => ?_⟩
  · rw [sz_new] at hi
    simp [newA, List.getD_eq_getElem?_getD, hi]
  · rw [sz_new] at hi
    have e : (List.replicate z.toNatClampNeg (defaultValue ty)).getD i .null = defaultValue ty := by simp [List.getD_eq_getElem?_getD, hi]
    rw [e]
    exact fits_dflt hk
theorem sNewA (hx : p.tables.exec = Jvm.exec) (hZ : Z.Warmed39 st.vm) (P : Pnt p l e R st m args below meth cd Z CT N n0 A σ H c s T g) {aty : ArrayType}
    (hd : decode cd.code g.pc = .ok (.newarray aty, 2)) (hl : (Cond.arrayClass (newarray.typeOf aty)).before a0 Z = true) (hm : mvNewA N H (.newarray aty) c s σ = some (σ', H', c', s')) : Goes p l e R st m args below meth cd Z CT N n0 A T g σ' H' c' s' := by
  obtain ⟨locs, cells, slots, X, F, I, N1, B1, B2⟩ := id P
  unfold mvNewA at hm
  split at hm
  · rename_i aty' x r hi hst
    cases hi
    split at hm
    · rename_i z hz
      split at hm
      · rename_i hq
        obtain ⟨q1, q2, q3, q4, q5⟩ := hq
        simp only [Option.some.injEq, Prod.mk.injEq] at hm
        obtain ⟨rfl, rfl, rfl, rfl⟩ := hm
        have hs := F.stack
        rw [hst] at hs
        obtain ⟨vx, w, e1, dx, hs1⟩ := hs.cons_inv
        have ev := dx.2.1
        rw [hz] at ev
        cases ev
        obtain ⟨T', h', cA, X', eT, E, AR, EX, st'⟩ := newPE X hx hZ hl rfl F.method hd e1 q1 (cap := z.toNatClampNeg) (Nat.le_refl _) (by omega) (by omega) (by omega) rfl
        have XA := Ex.push A (.ref T.heap.size)
        have here : (A.push (.ref T.heap.size))[N + H.length]? = some (.ref T.heap.size) := by rw [← I.1]; simp
        refine ⟨A.push (.ref T.heap.size), T', _, XA, ⟨locs, cells + 1, slots + z.toNatClampNeg, X', (fits_ext XA F).step (DenStack.cons (argEval here) (DenStack.ext XA hs1)) 2, ?_, N1, by omega, by omega⟩, st'⟩
        rw [eT]
        obtain ⟨b1, b2⟩ := back_len q1
        refine I.push E ⟨Nat.le_trans I.2.1.1 I.2.1.2, by rw [List.length_replicate]; exact b2, EX, cA, _, ?_, by rw [List.length_replicate, List.length_replicate], denStack_replicate (dflt_den q2) _⟩
        rw [List.length_replicate, b1]
        exact arvFull q2 AR q1
      · cases hm
    · cases hm
  · cases hm
theorem sLen (hx : p.tables.exec = Jvm.exec) (hZ : Z.Warmed39 st.vm) (P : Pnt p l e R st m args below meth cd Z CT N n0 A σ H c s T g)
    (hd : decode cd.code g.pc = .ok (.arraylength, 1)) (hm : mvLen N H σ = some σ') : Goes p l e R st m args below meth cd Z CT N n0 A T g σ' H c s := by
  obtain ⟨locs, cells, slots, X, F, I, N1, B1, B2⟩ := id P
  unfold mvLen at hm
  split at hm
  · rename_i x r hst
    split at hm
    · rename_i j hj
      split at hm
      · rename_i ty xs hO
        cases hm
        have hs := F.stack
        rw [hst] at hs
        obtain ⟨vx, w, e1, dx, hs1⟩ := hs.cons_inv
        obtain ⟨ad, rfl, hA, ge, q2, q3, k, vs, ⟨cl, AR, -, S, NN, Hs, G⟩, q5, q6⟩ := plc_ref I hj hO dx.2.1
        refine goesFits P ⟨_, F.step (DenStack.cons ⟨rfl, rfl, rfl⟩ hs1) 1, fun target hr => X.arraylength hx AR.1 (State.isArrayOf_alike hZ.alike AR.2.1) F.method e1 hd target ?_⟩
        rw [len_of S NN]
        exact hr
      · cases hm
    · cases hm
  · cases hm
theorem inb {z q : Int32} {n : Nat} (hn : n < 2 ^ 31) (hz : z = Int32.ofNat n) (h1 : ¬ q < 0) (h2 : q.toNatClampNeg < n) {cl : Cell} (S : cl.slots.size = z.toNatClampNeg) : ¬ (q < 0 ∨ cl.slots.size ≤ q.toNatClampNeg) := by
  have e : z.toNatClampNeg = n := by rw [hz, Int32.toNatClampNeg, Int32.toInt_ofNat_of_lt (by omega)]; rfl
  rw [S, e]
  rintro (h | h)
  · exact h1 h
  · omega
theorem sALd (hx : p.tables.exec = Jvm.exec) (hZ : Z.Warmed39 st.vm) (P : Pnt p l e R st m args below meth cd Z CT N n0 A σ H c s T g)
    (hd : decode cd.code g.pc = .ok (i, 1)) (hm : mvALd N H i σ = some σ') : Goes p l e R st m args below meth cd Z CT N n0 A T g σ' H c s := by
  obtain ⟨locs, cells, slots, X, F, I, N1, B1, B2⟩ := id P
  unfold mvALd at hm
  split at hm
  · rename_i z x r hst
    split at hm
    · rename_i j q hj hz
      split at hm
      · rename_i ty xs hO
        split at hm
        · rename_i hq
          obtain ⟨y, hy, rfl⟩ := Option.map_eq_some_iff.mp hm
          have hs := F.stack
          rw [hst] at hs
          obtain ⟨vz, w, e1, dz, hs1⟩ := hs.cons_inv
          obtain ⟨vx, w', e2, dx, hs2⟩ := hs1.cons_inv
          subst e2
          have ev := dz.2.1
          rw [hz] at ev
          cases ev
          obtain ⟨ad, rfl, hA, ge, q2, q3, k, vs, ⟨cl, AR, -, S, NN, Hs, G⟩, q5, q6⟩ := plc_ref I hj hO dx.2.1
          obtain ⟨v, hv, dv⟩ := denStack_nth q6 _ _ hy
          have hin := inb q2 rfl hq.2 (nth_lt hy) S
          have hat : cl.slots[q.toNatClampNeg]? = some v := Hs.at hin (by rw [List.getD_eq_getElem?_getD, hv]; rfl)
          have hAl := State.isArrayOf_alike hZ.alike AR.2.1
          refine goesFits P ⟨_, F.step (DenStack.cons dv hs2) 1, fun target hr => ?_⟩
          have ok := hq.1
          cases i <;> cases ty <;> simp only [ldOk, reduceCtorEq] at ok
          all_goals first
            | exact X.iaload hx AR.1 hAl AR.2.2 hin hat F.method e1 hd target hr
            | exact X.laload hx AR.1 hAl AR.2.2 hin hat F.method e1 hd target hr
            | exact X.baloadBytes hx AR.1 hAl AR.2.2 hin hat F.method e1 hd target hr
            | exact X.baloadBooleans hx AR.1 hAl AR.2.2 hin hat F.method e1 hd target hr
        · cases hm
      · cases hm
    · cases hm
  · cases hm
theorem repSet {h h' : Heap} {a : Addr} {k : ClassId} {ty : FieldType} {xs : List SVal} {vs : List Value} {cl : Cell} {q : Int32} {w : SVal} {v : Value} (hn : xs.length < 2 ^ 31) (ge : n0.1 ≤ a) (EX : Exa Z h a (adr ty)) (AR : Arr Z h a cl ty) (hk : cl.cls = k) (S : cl.slots.size = (Int32.ofNat xs.length).toNatClampNeg) (NN : ¬ Int32.ofNat xs.length < 0) (Hs : Has cl vs .null) (G : ∀ i, i < cl.slots.size → fits ty (vs.getD i .null) = true)
    (hl : vs.length = xs.length) (ds : DenStack A Z xs vs) (hq : q.toNatClampNeg < xs.length) (dw : w.Den A Z v) (hv : fits ty v = true) (W : Wr h h' a q.toNatClampNeg v) : RepO Z CT n0 A h' a (some (.inr (ty, xs.set q.toNatClampNeg w))) := by
  refine ⟨ge, by rw [List.length_set]; exact hn, EX.wr W, k, vs.set q.toNatClampNeg v, ?_, by rw [List.length_set, List.length_set]; exact hl, denStack_set _ ds dw⟩
  rw [List.length_set]
  exact Arv.set AR hk S NN Hs G hv W q.toNatClampNeg rfl (by rw [hl]; exact hq)
theorem sASt (hx : p.tables.exec = Jvm.exec) (hZ : Z.Warmed39 st.vm) {Γ : List (Term × Term)} (hΓ : ΓOk Γ A Z) (P : Pnt p l e R st m args below meth cd Z CT N n0 A σ H c s T g)
    (hd : decode cd.code g.pc = .ok (i, 1)) (hm : mvASt N Γ H i σ = some (σ', H')) : Goes p l e R st m args below meth cd Z CT N n0 A T g σ' H' c s := by
  obtain ⟨locs, cells, slots, X, F, I, N1, B1, B2⟩ := id P
  unfold mvASt at hm
  split at hm
  · rename_i y z x r hst
    split at hm
    · rename_i j q hj hz
      split at hm
      · rename_i ty xs hO
        split at hm
        · rename_i hq
          obtain ⟨w, hw, e0⟩ := Option.map_eq_some_iff.mp hm
          simp only [Prod.mk.injEq] at e0
          obtain ⟨rfl, rfl⟩ := e0
          have hs := F.stack
          rw [hst] at hs
          obtain ⟨vy, wy, e1, dy, hs1⟩ := hs.cons_inv
          obtain ⟨vz, wz, e2, dz, hs2⟩ := hs1.cons_inv
          obtain ⟨vx, wx, e3, dx, hs3⟩ := hs2.cons_inv
          subst e2
          subst e3
          have ev := dz.2.1
          rw [hz] at ev
          cases ev
          obtain ⟨ad, rfl, hA, ge, q2, q3, k, vs, ⟨cl, AR, hk, S, NN, Hs, G⟩, q5, q6⟩ := plc_ref I hj hO dx.2.1
          have hin := inb q2 rfl hq.1 hq.2 S
          unfold stV at hw
          split at hw
          · split at hw
            · rename_i hy
              cases hw
              obtain ⟨n, rfl⟩ := dy.int hy
              obtain ⟨T', h', X', eT, W, st'⟩ := stI X hx hZ rfl AR hin F.method e1 hd
              refine ⟨A, T', _, Ex.refl A, ⟨_, cells, slots, X', F.step hs3 1, ?_, Fr.snoc X' N1 ge, B1, B2⟩, st'⟩
              rw [eT]
              exact I.upd hO hA (Keep.of_wr W) (repSet q2 ge q3 AR hk S NN Hs G q5 q6 hq.2 dy rfl W)
            · cases hw
          · split at hw
            · rename_i hy
              cases hw
              obtain ⟨n, rfl⟩ := dy.long hy
              obtain ⟨T', h', X', eT, W, st'⟩ := stJ X hx hZ rfl AR hin F.method e1 hd
              refine ⟨A, T', _, Ex.refl A, ⟨_, cells, slots, X', F.step hs3 1, ?_, Fr.snoc X' N1 ge, B1, B2⟩, st'⟩
              rw [eT]
              exact I.upd hO hA (Keep.of_wr W) (repSet q2 ge q3 AR hk S NN Hs G q5 q6 hq.2 dy rfl W)
            · cases hw
          · split at hw
            · rename_i hy
              cases hw
              obtain ⟨n, rfl⟩ := dy.int hy
              obtain ⟨T', h', X', eT, W, st'⟩ := stB X hx hZ rfl AR hin F.method e1 hd
              refine ⟨A, T', _, Ex.refl A, ⟨_, cells, slots, X', F.step hs3 1, ?_, Fr.snoc X' N1 ge, B1, B2⟩, st'⟩
              rw [eT]
              have dw : (⟨.op1 .i2b y.t, .int⟩ : SVal).Den A Z (.int (nar .byte n)) := ⟨dy.1, by simp [Term.eval, dy.2.1, Unary.apply, nar], rfl⟩
              exact I.upd hO hA (Keep.of_wr W) (repSet q2 ge q3 AR hk S NN Hs G q5 q6 hq.2 (den_nrm hΓ dw) (fits_nar_byte n) W)
            · cases hw
          · split at hw
            · rename_i hy
              cases hw
              obtain ⟨n, rfl⟩ := dy.int hy
              obtain ⟨T', h', X', eT, W, st'⟩ := stZ X hx hZ rfl AR hin F.method e1 hd
              refine ⟨A, T', _, Ex.refl A, ⟨_, cells, slots, X', F.step hs3 1, ?_, Fr.snoc X' N1 ge, B1, B2⟩, st'⟩
              rw [eT]
              have dw : (⟨.op2 .iand y.t (.int 1), .int⟩ : SVal).Den A Z (.int (nar .boolean n)) := ⟨by show (y.t.closed && true) = true; rw [dy.1]; rfl, by simp [Term.eval, dy.2.1, Binary.apply, nar], rfl⟩
              exact I.upd hO hA (Keep.of_wr W) (repSet q2 ge q3 AR hk S NN Hs G q5 q6 hq.2 (den_nrm hΓ dw) (fits_nar_bool n) W)
            · cases hw
          · cases hw
        · cases hm
      · cases hm
    · cases hm
  · cases hm
theorem sInitO (hx : p.tables.exec = Jvm.exec) (hZ : Z.Warmed39 st.vm) (hown : st.vm.findClass own = some m.cls) (P : Pnt p l e R st m args below meth cd Z CT N n0 A σ H c s T g) {idx fr lo : Nat} (hfr : fr ≤ R.frames) (hlo : lo ≤ R.locals)
    (hd : decode cd.code g.pc = .ok (.invokespecial idx, 3)) (w1 : (Cond.methodLink own idx Lib.objectInit).before a0 Z = true) (w2 : (Cond.instanceMethod Lib.objectInit).before a0 Z = true) (w3 : (Cond.code Lib.objectInit ⟨#[0xb1]⟩ 1 none).before a0 Z = true)
    (hm : mvInitO N H fr lo cd.maxLocals σ = some σ') : Goes p l e R st m args below meth cd Z CT N n0 A T g σ' H c s := by
  obtain ⟨locs, cells, slots, X, F, I, N1, B1, B2⟩ := id P
  unfold mvInitO at hm
  split at hm
  · rename_i x r hst
    split at hm
    · rename_i j hj
      cases hb : (Nat.blt j H.length && Nat.ble 1 fr && Nat.ble (wt r + 12) lo && Nat.beq σ.locals.length cd.maxLocals) <;> rw [hb] at hm <;> simp only [cond_true, cond_false, reduceCtorEq, Option.some.injEq] at hm
      subst hm
      simp only [Bool.and_eq_true] at hb
      obtain ⟨⟨⟨b1, b2⟩, b3⟩, b4⟩ := hb
      have b2 := Nat.le_of_ble_eq_true b2
      have b3 := Nat.le_of_ble_eq_true b3
      have b4 := Nat.eq_of_beq_eq_true b4
      obtain ⟨o, ho⟩ := nth_some (L := H) (n := j) (Nat.le_of_ble_eq_true b1)
      have hs := F.stack
      rw [hst] at hs
      obtain ⟨vx, w, e1, dx, hs1⟩ := hs.cons_inv
      obtain ⟨ad, rfl, -, -⟩ := plc_ref I hj ho dx.2.1
      obtain ⟨T', X', eT, st'⟩ := initO X hx hZ hown w1 w2 w3 rfl F.method (by rw [F.locals.size, b4]) e1 hd (by omega) (W := wt r) (by rw [F.mroom, denStack_wt hs1]; omega) (by omega)
      exact ⟨A, T', _, Ex.refl A, ⟨locs, cells, slots, X', F.step hs1 3, by rw [eT]; exact I, N1, B1, B2⟩, st'⟩
    · cases hm
  · cases hm
theorem sClone (hx : p.tables.exec = Jvm.exec) (hZ : Z.Warmed39 st.vm) (hown : st.vm.findClass own = some m.cls) (P : Pnt p l e R st m args below meth cd Z CT N n0 A σ H c s T g) {idx fr lo : Nat} {ty : FieldType} (hfr : fr ≤ R.frames) (hlo : lo ≤ R.locals)
    (hd : decode cd.code g.pc = .ok (.invokevirtual idx, 3)) (w1 : (Cond.methodLink own idx ⟨adr ty, "clone", "()Ljava/lang/Object;"⟩).before a0 Z = true) (w2 : (Cond.sameMethod (adr ty) "java/lang/Object" "clone" "()Ljava/lang/Object;").before a0 Z = true) (w3 : (Cond.native cloneN).before a0 Z = true)
    (w4 : (Cond.instanceMethod cloneN).before a0 Z = true) (w5 : (Cond.selects (adr ty) ⟨adr ty, "clone", "()Ljava/lang/Object;"⟩ cloneN).before a0 Z = true) (w6 : (Cond.castable (adr ty) "java/lang/Cloneable").before a0 Z = true)
    (hm : mvClone N H fr lo cd.maxLocals c s ty σ = some (σ', H', c', s')) : Goes p l e R st m args below meth cd Z CT N n0 A T g σ' H' c' s' := by
  obtain ⟨locs, cells, slots, X, F, I, N1, B1, B2⟩ := id P
  unfold mvClone at hm
  split at hm
  · rename_i x r hst
    split at hm
    · rename_i j hj
      split at hm
      · rename_i ty' xs hO
        split at hm
        · rename_i hq
          obtain ⟨rfl, b1, b2, b3, b4, b5⟩ := hq
          simp only [Option.some.injEq, Prod.mk.injEq] at hm
          obtain ⟨rfl, rfl, rfl, rfl⟩ := hm
          have hs := F.stack
          rw [hst] at hs
          obtain ⟨vx, w, e1, dx, hs1⟩ := hs.cons_inv
          obtain ⟨ad, rfl, hA, ge, q2, q3, k, vs, AV, q5, q6⟩ := plc_ref I hj hO dx.2.1
          have ez : (Int32.ofNat xs.length).toNatClampNeg = xs.length := by rw [Int32.toNatClampNeg, Int32.toInt_ofNat_of_lt (by omega)]; rfl
          obtain ⟨T', h', X', eT, E, AV', EX', st'⟩ := cloneH X hx hZ hown w1 w2 w3 w4 w5 w6 rfl AV.arh q3 F.method (by rw [F.locals.size, b3]) e1 hd (by omega) (W := wt r) (cap := xs.length) (by rw [F.mroom, denStack_wt hs1]; omega) (by omega) (by rw [ez]; exact Nat.le_refl _) (by omega) (by omega)
          have XA := Ex.push A (.ref T.heap.size)
          have here : (A.push (.ref T.heap.size))[N + H.length]? = some (.ref T.heap.size) := by rw [← I.1]; simp
          refine ⟨A.push (.ref T.heap.size), T', _, XA, ⟨locs, cells + 1, slots + xs.length, X', (fits_ext XA F).step (DenStack.cons (argEval here) (DenStack.ext XA hs1)) 3, ?_, N1, by omega, by omega⟩, st'⟩
          rw [eT]
          exact I.push E ⟨Nat.le_trans I.2.1.1 I.2.1.2, q2, EX', k, vs, AV', q5, DenStack.ext XA q6⟩
        · cases hm
      · cases hm
    · cases hm
  · cases hm
theorem take_drop_range {vs : List Value} {d : Value} {a n : Nat} (h : a + n ≤ vs.length) : (vs.drop a).take n = (List.range n).map fun i => vs.getD (a + i) d := by
  apply List.ext_getElem?
  intro i
  by_cases hi : i < n
  · rw [List.getElem?_take_of_lt hi, List.getElem?_drop]
    simp [List.getD_eq_getElem?_getD, hi, List.getElem?_eq_getElem (show a + i < vs.length by omega)]
  · rw [List.getElem?_eq_none (by rw [List.length_take, List.length_drop]; omega), List.getElem?_eq_none (by simp; omega)]
theorem sCopy (hx : p.tables.exec = Jvm.exec) (hZ : Z.Warmed39 st.vm) (hown : st.vm.findClass own = some m.cls) (P : Pnt p l e R st m args below meth cd Z CT N n0 A σ H c s T g) {idx fr lo : Nat} (hfr : fr ≤ R.frames) (hlo : lo ≤ R.locals)
    (hd : decode cd.code g.pc = .ok (.invokestatic idx, 3)) (w1 : (Cond.methodLink own idx Jvm.Stand.acN).before a0 Z = true) (w2 : (Cond.native Jvm.Stand.acN).before a0 Z = true) (w3 : (Cond.static Jvm.Stand.acN).before a0 Z = true) (w4 : (Cond.initialized "java/lang/System").before a0 Z = true)
    (hm : mvCopy N H fr lo cd.maxLocals σ = some (σ', H')) : Goes p l e R st m args below meth cd Z CT N n0 A T g σ' H' c s := by
  obtain ⟨locs, cells, slots, X, F, I, N1, B1, B2⟩ := id P
  unfold mvCopy at hm
  split at hm
  · rename_i xn xd b xs a r hst
    split at hm
    · rename_i ja jb sp dp nn hja hjb hsp hdp hnn
      split at hm
      · rename_i ta va tb vb hOa hOb
        split at hm
        · rename_i hq
          obtain ⟨rfl, b0, b1, b2, b3, b4, b5, b6, b7, b8⟩ := hq
          simp only [Option.some.injEq, Prod.mk.injEq] at hm
          obtain ⟨rfl, rfl⟩ := hm
          have hs := F.stack
          rw [hst] at hs
          obtain ⟨v1, u1, e1, d1, hs1⟩ := hs.cons_inv
          obtain ⟨v2, u2, e2, d2, hs2⟩ := hs1.cons_inv
          obtain ⟨v3, u3, e3, d3, hs3⟩ := hs2.cons_inv
          obtain ⟨v4, u4, e4, d4, hs4⟩ := hs3.cons_inv
          obtain ⟨v5, u5, e5, d5, hs5⟩ := hs4.cons_inv
          subst e2 e3 e4 e5
          have f1 := d1.2.1
          have f2 := d2.2.1
          have f4 := d4.2.1
          rw [hnn] at f1
          rw [hdp] at f2
          rw [hsp] at f4
          cases f1; cases f2; cases f4
          obtain ⟨aa, rfl, hA, gea, p2, p3, ka, wa, AVa, p5, p6⟩ := plc_ref I hja hOa d5.2.1
          obtain ⟨ab, rfl, hB, geb, q2, q3, kb, wb, AVb, q5, q6⟩ := plc_ref I hjb hOb d3.2.1
          have ea : (Int32.ofNat va.length).toNatClampNeg = va.length := by rw [Int32.toNatClampNeg, Int32.toInt_ofNat_of_lt (by omega)]; rfl
          have eb : (Int32.ofNat vb.length).toNatClampNeg = vb.length := by rw [Int32.toNatClampNeg, Int32.toInt_ofNat_of_lt (by omega)]; rfl
          have hr : refKind ta = false := by cases ta <;> first | (simp [primTy] at b0; done) | rfl
          have nw : nativeFrameWords "java/lang/System" "arraycopy" 5 + 11 = 18 := by decide +kernel
          obtain ⟨T', h', L, X', eT, NL, K, AV', st'⟩ := cpA X hx hZ hown w1 w2 w3 w4 rfl AVa AVb (Or.inl ⟨rfl, hr⟩) b1 b2 b3 (by rw [ea]; exact b4) (by rw [eb]; exact b5) rfl (by rw [q5]; exact b5) N1 geb F.method (by rw [F.locals.size, b8]) e1 hd (by omega) (W := wt r) (by rw [F.mroom, denStack_wt hs5]; omega) (by rw [nw]; omega)
          refine ⟨A, T', _, Ex.refl A, ⟨L, cells, slots, X', F.step hs5 3, ?_, NL, B1, B2⟩, st'⟩
          rw [eT]
          have ll : (vb.take dp.toNatClampNeg ++ (va.drop sp.toNatClampNeg).take nn.toNatClampNeg ++ vb.drop (dp.toNatClampNeg + nn.toNatClampNeg)).length = vb.length := by
            simp only [List.length_append, List.length_take, List.length_drop]; omega
          rw [← take_drop_range (by rw [p5]; exact b4)] at AV'
          refine I.upd hOb hB K ⟨geb, by rw [ll]; exact q2, q3.keep K, kb, _, by rw [ll]; exact AV', ?_, denStack_append (denStack_append (denStack_take _ q6) (denStack_take _ (denStack_drop _ p6))) (denStack_drop _ q6)⟩
          simp only [List.length_append, List.length_take, List.length_drop, p5, q5]
        · cases hm
      · cases hm
    · cases hm
  · cases hm
theorem sCast (hx : p.tables.exec = Jvm.exec) (hZ : Z.Warmed39 st.vm) (hown : st.vm.findClass own = some m.cls) (P : Pnt p l e R st m args below meth cd Z CT N n0 A σ H c s T g) {idx : Nat} {ty : FieldType} {K : String}
    (hd : decode cd.code g.pc = .ok (.checkcast idx, 3)) (w1 : (Cond.classLink own idx K).before a0 Z = true) (w2 : (Cond.castable (adr ty) K).before a0 Z = true)
    (hm : mvCast N H ty σ = some σ') : Goes p l e R st m args below meth cd Z CT N n0 A T g σ' H c s := by
  obtain ⟨locs, cells, slots, X, F, I, N1, B1, B2⟩ := id P
  unfold mvCast at hm
  split at hm
  · rename_i x r hst
    split at hm
    · rename_i j hj
      split at hm
      · rename_i ty' xs hO
        split at hm
        · rename_i hq
          subst hq
          cases hm
          have hs := F.stack
          rw [hst] at hs
          obtain ⟨vx, w, e1, dx, hs1⟩ := hs.cons_inv
          obtain ⟨ad, rfl, -, -, -, q3, -⟩ := plc_ref I hj hO dx.2.1
          obtain ⟨T', X', eT, st'⟩ := castY X hx hZ hown w1 rfl (Ins.of_exa q3 w2) F.method e1 hd
          have F' : Sym.Fits A Z m { σ with pc := σ.pc + 3 } { g with pc := g.pc + 3 } := ⟨F.method, by show g.pc + 3 = σ.pc + 3; rw [F.pc], F.locals, F.stack, F.locked, F.entered, F.mroom⟩
          exact ⟨A, T', _, Ex.refl A, ⟨locs, cells, slots, X', F', by rw [eT]; exact I, N1, B1, B2⟩, st'⟩
        · cases hm
      · cases hm
    · cases hm
  · cases hm
end Moves
end Jvm.OwnEv
namespace Jvm.OwnEv
open Sem ClassFile Op Lib Jvm.Stand Jvm.Free Jvm.LawKit Jvm.RoadKit Jvm.Sym
/-! ## 6. Rows, methods, the whole evaluator -/
def noMH (y : MethodName) : Prop := y.cls ≠ "java/lang/invoke/MethodHandle" ∧ y.cls ≠ "java/lang/invoke/VarHandle"
/-- a method that may be called: its words -/
def Callable (Z : State) (a0 : Array Value) (M : MRow) : Prop :=
  (Cond.initialized M.1.cls).before a0 Z = true ∧ (Cond.code M.1 M.2.1 M.2.2.1 M.2.2.2.1).before a0 Z = true ∧ noMH M.1 ∧ ∃ ps r, parseMethodDescriptor M.1.desc = some ⟨ps, r⟩ ∧ ps.length = M.2.2.2.2.1
def LinkOk (Z : State) (a0 : Array Value) (CT : List CRow) (MT : List MRow) (own nm : String) (rt : Option FieldType) (r : Row) : Prop :=
  match r with
  | (pc, i, len, tag, a, b, k, ty) =>
    match tag with
    | 2 => ∃ idx C nn fs f, i = .getfield idx ∧ len = 3 ∧ nth CT a = some (C, nn, fs) ∧ nth fs b = some f ∧ FLink Z a0 own idx C f.1 f.2.1
    | 4 => len = 3 ∧ ∃ o, forkOff i = some o ∧ 0 ≤ (pc : Int) + o ∧ ((pc : Int) + o).toNat = a
    | 6 => len = 1
    | 7 => ∃ o, i = .goto o ∧ len = 3 ∧ 0 ≤ (pc : Int) + o ∧ ((pc : Int) + o).toNat = a
    | 9 => len = 3
    | 10 => ∃ idx C nn fs f, i = .putfield idx ∧ len = 3 ∧ nth CT a = some (C, nn, fs) ∧ nth fs b = some f ∧ f.2.2.1 = ty ∧ FLink Z a0 own idx C f.1 f.2.1 ∧ (f.2.2.2 = true → own = C ∧ nm = "<init>")
    | 11 => len = 1
    | 12 => i = .arraylength ∧ len = 1
    | 13 => (∃ idx v, i = .ldc idx ∧ len = 2 ∧ k = .int v ∧ (Cond.constant own idx v).before a0 Z = true) ∨ (∃ idx v, i = .ldc_w idx ∧ len = 3 ∧ k = .int v ∧ (Cond.constant own idx v).before a0 Z = true) ∨ (∃ idx v, i = .ldc2_w idx ∧ len = 3 ∧ k = .long v ∧ (Cond.constantLong own idx v).before a0 Z = true)
    | 14 => ∃ idx C nn fs, i = .new idx ∧ len = 3 ∧ nth CT a = some (C, nn, fs) ∧ (Cond.classLink own idx C).before a0 Z = true
    | 15 => ∃ aty, i = .newarray aty ∧ len = 2 ∧ (Cond.arrayClass (newarray.typeOf aty)).before a0 Z = true
    | 16 => ∃ idx, i = .invokespecial idx ∧ len = 3 ∧ (Cond.methodLink own idx Lib.objectInit).before a0 Z = true ∧ (Cond.instanceMethod Lib.objectInit).before a0 Z = true ∧ (Cond.code Lib.objectInit ⟨#[0xb1]⟩ 1 none).before a0 Z = true
    | 17 => len = 1
    | 18 => ∃ idx, i = .invokevirtual idx ∧ len = 3 ∧ (Cond.methodLink own idx ⟨adr ty, "clone", "()Ljava/lang/Object;"⟩).before a0 Z = true ∧ (Cond.sameMethod (adr ty) "java/lang/Object" "clone" "()Ljava/lang/Object;").before a0 Z = true ∧ (Cond.native cloneN).before a0 Z = true ∧ (Cond.instanceMethod cloneN).before a0 Z = true ∧ (Cond.selects (adr ty) ⟨adr ty, "clone", "()Ljava/lang/Object;"⟩ cloneN).before a0 Z = true ∧ (Cond.castable (adr ty) "java/lang/Cloneable").before a0 Z = true
    | 19 => ∃ idx, i = .invokestatic idx ∧ len = 3 ∧ (Cond.methodLink own idx Jvm.Stand.acN).before a0 Z = true ∧ (Cond.native Jvm.Stand.acN).before a0 Z = true ∧ (Cond.static Jvm.Stand.acN).before a0 Z = true ∧ (Cond.initialized "java/lang/System").before a0 Z = true
    | 20 => ∃ idx K, i = .checkcast idx ∧ len = 3 ∧ (Cond.classLink own idx K).before a0 Z = true ∧ (Cond.castable (adr ty) K).before a0 Z = true
    | 21 => ∃ idx C nn fs f, i = .getfield idx ∧ len = 3 ∧ nth CT a = some (C, nn, fs) ∧ nth fs b = some f ∧ (Cond.fieldRef own idx C f.1 f.2.1).before a0 Z = true
    | 30 => i = .return_ ∧ len = 1 ∧ rt = none
    | 31 => i = .ireturn ∧ len = 1 ∧ rt = some .int
    | 32 => i = .ireturn ∧ len = 1 ∧ rt = some .boolean
    | 33 => i = .lreturn ∧ len = 1 ∧ rt = some .long
    | 34 => i = .areturn ∧ len = 1 ∧ ∃ t, rt = some t ∧ t.isReference = true
    | 39 => ∃ idx text, ((i = .ldc idx ∧ len = 2) ∨ (i = .ldc_w idx ∧ len = 3)) ∧ 4 * text.toList.length ≤ a ∧ (Cond.stringLink own idx text).before a0 Z = true ∧ ∀ d ∈ Bundle.stringAtoms, d.before a0 Z = true
    | 40 => ∃ idx M, i = .invokestatic idx ∧ len = 3 ∧ nth MT a = some M ∧ Callable Z a0 M ∧ (Cond.methodLink own idx M.1).before a0 Z = true ∧ (Cond.static M.1).before a0 Z = true
    | 41 => ∃ idx M, i = .invokespecial idx ∧ len = 3 ∧ nth MT a = some M ∧ Callable Z a0 M ∧ (Cond.methodLink own idx M.1).before a0 Z = true ∧ (Cond.instanceMethod M.1).before a0 Z = true ∧ M.1.name = "<init>" ∧ M.2.2.2.1 = none
    | 42 => ∃ idx M C nn fs, i = .invokevirtual idx ∧ len = 3 ∧ nth MT a = some M ∧ Callable Z a0 M ∧ (Cond.methodLink own idx M.1).before a0 Z = true ∧ (Cond.instanceMethod M.1).before a0 Z = true ∧ nth CT b = some (C, nn, fs) ∧ (Cond.declares M.1).before a0 Z = true ∧ (Cond.selects C M.1 M.1).before a0 Z = true
    | 43 => ∃ idx M nn fs, i = .invokevirtual idx ∧ len = 3 ∧ nth MT a = some M ∧ Callable Z a0 M ∧ (Cond.methodLink own idx M.1).before a0 Z = true ∧ (Cond.instanceMethod M.1).before a0 Z = true ∧ nth CT b = some (M.1.cls, nn, fs) ∧ (Cond.privateMethod M.1).before a0 Z = true
    | 44 => ∃ idx M, i = .invokespecial idx ∧ len = 3 ∧ nth MT a = some M ∧ Callable Z a0 M ∧ (Cond.methodRef own idx M.1).before a0 Z = true ∧ (Cond.instanceMethod M.1).before a0 Z = true ∧ M.1.name = "<init>" ∧ M.2.2.2.1 = none
    | _ => True
def RowOk (Z : State) (a0 : Array Value) (CT : List CRow) (MT : List MRow) (M : MRow) (r : Row) : Prop := decode M.2.1 r.1 = .ok (r.2.1, r.2.2.1) ∧ LinkOk Z a0 CT MT M.1.cls M.1.name M.2.2.2.1 r
def MOk (Z : State) (a0 : Array Value) (CT : List CRow) (MT : List MRow) (M : MRow) : Prop := plainFor M.1 = true ∧ ∀ r ∈ M.2.2.2.2.2, RowOk Z a0 CT MT M r
section Moves
variable {p : Program} {l : Launch} {e : Env} {R : Room} {st : State} {m : MethodId} {args : Array Value} {below : List Frame} {meth : Method} {cd : Code} {Z : State} {a0 : Array Value} {CT : List CRow} {MT : List MRow} {N : Nat} {n0 : Nat × Nat}
variable {A : Array Value} {σ σ' : SFrame} {H H' : AH} {c s c' s' : Nat} {T : State} {g : JFrame} {i : Instr} {len : Nat} {own : String}
theorem keepH_some {o : Option SFrame} (h : keepH H c s o = some (σ', H', c', s')) : o = some σ' ∧ H' = H ∧ c' = c ∧ s' = s := by
  obtain ⟨x, h1, h2⟩ := Option.map_eq_some_iff.mp h
  simp only [Prod.mk.injEq] at h2
  obtain ⟨rfl, rfl, rfl, rfl⟩ := h2
  exact ⟨h1, rfl, rfl, rfl⟩
theorem keepC_some {o : Option (SFrame × AH)} (h : keepC c s o = some (σ', H', c', s')) : o = some (σ', H') ∧ c' = c ∧ s' = s := by
  obtain ⟨x, h1, h2⟩ := Option.map_eq_some_iff.mp h
  obtain ⟨x1, x2⟩ := x
  simp only [Prod.mk.injEq] at h2
  obtain ⟨rfl, rfl, rfl, rfl⟩ := h2
  exact ⟨h1, rfl, rfl⟩
theorem mv1_sound {Γ : List (Term × Term)} {Γc : List CFact} {fr lo : Nat} {M : MRow} {r : Row} (hx : p.tables.exec = Jvm.exec) (hZ : Z.Warmed39 st.vm) (hown : st.vm.findClass M.1.cls = some m.cls) (hCT : CTOk Z a0 CT) (hΓ : ΓOk Γ A Z) (hC : CFOk Γc A Z) (hfr : fr ≤ R.frames) (hlo : lo ≤ R.locals)
    (hby : cd.code = M.2.1) (hml : cd.maxLocals = M.2.2.1) (hnm : meth.name = M.1.name) (hr : RowOk Z a0 CT MT M r) (hpc : r.1 = σ.pc)
    (P : Pnt p l e R st m args below meth cd Z CT N n0 A σ H c s T g) (hm : mv1 N CT Γ Γc fr lo M.2.2.1 r σ H c s = some (σ', H', c', s')) : Goes p l e R st m args below meth cd Z CT N n0 A T g σ' H' c' s' := by
  obtain ⟨pc, i, len, tag, a, b, k, ty⟩ := r
  obtain ⟨hd0, hl⟩ := hr
  dsimp only at hpc hd0
  have hd : decode cd.code g.pc = .ok (i, len) := by
    obtain ⟨_, _, _, _, F, _⟩ := id P
    rw [F.pc, ← hpc, hby]
    exact hd0
  rw [← hml] at hm
  unfold mv1 at hm
  dsimp only at hm
  split at hm
  · obtain ⟨q, rfl, rfl, rfl⟩ := keepH_some hm
    exact sPlain hx P hd (Or.inl q)
  · obtain ⟨q, rfl, rfl, rfl⟩ := keepH_some hm
    exact sPlain hx P hd (Or.inr (Or.inl q))
  · obtain ⟨q, rfl, rfl, rfl⟩ := keepH_some hm
    obtain ⟨idx, C, nn, fs, f, rfl, rfl, l1, l2, l3⟩ := hl
    exact sGet hx hZ hown P hd l1 l2 l3 q
  · obtain ⟨q, rfl, rfl, rfl⟩ := keepH_some hm
    exact sArith hx hΓ P hd q
  · obtain ⟨q, rfl, rfl, rfl⟩ := keepH_some hm
    obtain ⟨rfl, o, l1, l2, l3⟩ := hl
    exact sFork hx hC P hd l1 (by rw [← hpc]; exact l2) (by rw [← hpc]; exact l3) q
  · obtain ⟨q, rfl, rfl, rfl⟩ := keepH_some hm
    exact sPlain hx P hd (Or.inr (Or.inr (Or.inl q)))
  · obtain ⟨q, rfl, rfl, rfl⟩ := keepH_some hm
    have hl' : len = 1 := hl
    subst hl'
    exact sALd hx hZ P hd q
  · simp only [Option.some.injEq, Prod.mk.injEq] at hm
    obtain ⟨rfl, rfl, rfl, rfl⟩ := hm
    obtain ⟨o, rfl, rfl, l1, l2⟩ := hl
    exact sGoto hx P hd (by rw [← hpc]; exact l1) (by rw [← hpc]; exact l2)
  · obtain ⟨q, rfl, rfl, rfl⟩ := keepH_some hm
    exact sPlain hx P hd (Or.inr (Or.inr (Or.inr (orElse_some q))))
  · obtain ⟨q, rfl, rfl, rfl⟩ := keepH_some hm
    have hl' : len = 3 := hl
    subst hl'
    exact sIinc hx hΓ P hd q
  · obtain ⟨q, rfl, rfl⟩ := keepC_some hm
    obtain ⟨idx, C, nn, fs, f, rfl, rfl, l1, l2, rfl, l4, l5⟩ := hl
    exact sPut hx hZ hown hCT P hd l1 l2 l4 (fun u => by rw [hnm]; exact l5 u) q
  · obtain ⟨q, rfl, rfl⟩ := keepC_some hm
    have hl' : len = 1 := hl
    subst hl'
    exact sASt hx hZ hΓ P hd q
  · obtain ⟨q, rfl, rfl, rfl⟩ := keepH_some hm
    obtain ⟨rfl, rfl⟩ := hl
    exact sLen hx hZ P hd q
  · obtain ⟨q, rfl, rfl, rfl⟩ := keepH_some hm
    exact sLdc hx hZ hown P hd hl q
  · obtain ⟨idx, C, nn, fs, rfl, rfl, l1, l2⟩ := hl
    exact sNew hx hZ hown hCT P hd l1 l2 hm
  · obtain ⟨aty, rfl, rfl, l1⟩ := hl
    exact sNewA hx hZ P hd l1 hm
  · obtain ⟨q, rfl, rfl, rfl⟩ := keepH_some hm
    obtain ⟨idx, rfl, rfl, l1, l2, l3⟩ := hl
    exact sInitO hx hZ hown P hfr hlo hd l1 l2 l3 q
  · obtain ⟨q, rfl, rfl, rfl⟩ := keepH_some hm
    have hl' : len = 1 := hl
    subst hl'
    exact sDiv hx hΓ hC P hd q
  · obtain ⟨idx, rfl, rfl, l1, l2, l3, l4, l5, l6⟩ := hl
    exact sClone hx hZ hown P hfr hlo hd l1 l2 l3 l4 l5 l6 hm
  · obtain ⟨q, rfl, rfl⟩ := keepC_some hm
    obtain ⟨idx, rfl, rfl, l1, l2, l3, l4⟩ := hl
    exact sCopy hx hZ hown P hfr hlo hd l1 l2 l3 l4 q
  · obtain ⟨q, rfl, rfl, rfl⟩ := keepH_some hm
    obtain ⟨idx, K, rfl, rfl, l1, l2⟩ := hl
    exact sCast hx hZ hown P hd l1 l2 q
  · obtain ⟨q, rfl, rfl, rfl⟩ := keepH_some hm
    obtain ⟨idx, C, nn, fs, f, rfl, rfl, l1, l2, l3⟩ := hl
    exact sGetR hx hZ hown P hd l1 l2 l3 q
  · cases hm
/-- what comes back -/
def RetDen (A : Array Value) (Z : State) : Option SVal → Option Value → Prop
  | none, none => True
  | some x, some v => x.Den A Z v
  | _, _ => False
/-- how an evaluated body ends -/
def Ends (p : Program) (e : Env) (R : Room) (st : State) (below : List Frame) (Z : State) (CT : List CRow) (N nb : Nat) (A : Array Value) (T : State) (g : JFrame) (v : Option SVal) (H : AH) (c s : Nat) : Prop :=
  ∃ (s₂ : State) (w : Option Value) (L : List Loc) (k j : Nat) (A' : Array Value), Steps p.tables e below (T.setTop g) s₂ ∧ s₂.status = .running ∧ Ended s₂ below (.returned w) ∧ ReturnedEndW st (.returned w) s₂ L k j ∧ Fr nb L ∧ k + c ≤ R.cells ∧ j + s ≤ R.slots ∧ Ex A A' ∧ Inv Z CT N (nb, nb) A' H s₂.heap ∧ RetDen A' Z v w
/-- a point over tables that have warmed since the start -/
def PntS (p : Program) (l : Launch) (e : Env) (R : Room) (st : State) (m : MethodId) (args : Array Value) (below : List Frame) (meth : Method) (cd : Code) (Z : State) (CT : List CRow) (N nb : Nat) (own : String)
    (A : Array Value) (σ : SFrame) (H : AH) (c s : Nat) (T : State) (g : JFrame) : Prop :=
  ∃ (vm0 : Vm) (k0 : Nat), st.Since vm0 k0 ∧ Z.Warmed39 vm0 ∧ vm0.findClass own = some m.cls ∧ Pnt p l e R (st.setVm vm0) m args below meth cd Z CT N (nb, k0) A σ H c s T g
def GoesS (p : Program) (l : Launch) (e : Env) (R : Room) (st : State) (m : MethodId) (args : Array Value) (below : List Frame) (meth : Method) (cd : Code) (Z : State) (CT : List CRow) (N nb : Nat) (own : String)
    (A : Array Value) (T : State) (g : JFrame) (σ : SFrame) (H : AH) (c s : Nat) : Prop :=
  ∃ A' T' g', Ex A A' ∧ PntS p l e R st m args below meth cd Z CT N nb own A' σ H c s T' g' ∧ Leads p.tables e below T g T' g'
theorem Goes.up {vm0 : Vm} {k0 nb : Nat} (hS : st.Since vm0 k0) (hZ : Z.Warmed39 vm0) (hown : vm0.findClass own = some m.cls) (G : Goes p l e R (st.setVm vm0) m args below meth cd Z CT N (nb, k0) A T g σ H c s) : GoesS p l e R st m args below meth cd Z CT N nb own A T g σ H c s := by
  obtain ⟨A', T', g', X, P, L⟩ := G
  exact ⟨A', T', g', X, ⟨vm0, k0, hS, hZ, hown, P⟩, L⟩
theorem GoesS.ends {nb : Nat} {v : Option SVal} (G : GoesS p l e R st m args below meth cd Z CT N nb own A T g σ H c s) (k : ∀ A' T' g', Ex A A' → PntS p l e R st m args below meth cd Z CT N nb own A' σ H c s T' g' → Ends p e R st below Z CT N nb A' T' g' v H' c' s') : Ends p e R st below Z CT N nb A T g v H' c' s' := by
  obtain ⟨A', T', g', X, P, L⟩ := G
  obtain ⟨s₂, w, Lc, k', j, A2, h1, h2, h3, h4, h5, h6, h7, h8, h9⟩ := k A' T' g' X P
  exact ⟨s₂, w, Lc, k', j, A2, L _ h1, h2, h3, h4, h5, h6, h7, X.trans h8, h9⟩
theorem str_sound {nb a : Nat} {M : MRow} {text : String} {idx : Nat} (hx : p.tables.exec = Jvm.exec) (hi : (i = .ldc idx ∧ len = 2) ∨ (i = .ldc_w idx ∧ len = 3)) (ht : 4 * text.toList.length ≤ a) (w : (Cond.stringLink own idx text).before a0 Z = true) (wS : ∀ d ∈ Bundle.stringAtoms, d.before a0 Z = true)
    (P : PntS p l e R st m args below meth cd Z CT N nb own A σ H c s T g) (hd : decode cd.code g.pc = .ok (i, len)) (hm : mvStr N a len c s H σ = some (σ', H', c', s')) : GoesS p l e R st m args below meth cd Z CT N nb own A T g σ' H' c' s' := by
  obtain ⟨vm0, k0, hS, hZ, hown, locs, cells, slots, X, F, I, N1, B1, B2⟩ := P
  unfold mvStr at hm
  cases hb : (Nat.ble 2 c && Nat.ble (a + 4) s && Nat.ble a 536870912) <;> rw [hb] at hm <;> simp only [cond_true, cond_false, reduceCtorEq, Option.some.injEq, Prod.mk.injEq] at hm
  obtain ⟨rfl, rfl, rfl, rfl⟩ := hm
  simp only [Bool.and_eq_true] at hb
  have h1 := Nat.le_of_ble_eq_true hb.1.1
  have h2 := Nat.le_of_ble_eq_true hb.1.2
  have h3 := Nat.le_of_ble_eq_true hb.2
  have key : ∃ (b : Addr) (T' : State) (h' : Heap) (k1 : Nat), Stand p l e R (st.setVm T'.vm) m args below meth cd T' locs (cells + 2) (slots + (a + 4)) ∧ T'.heap = h' ∧ Ext T.heap h' ∧ st.Since T'.vm k1 ∧ k1 ≤ h'.size ∧ Z.Warmed39 (st.setVm T'.vm).vm ∧ (st.setVm T'.vm).vm.findClass own = some m.cls ∧
      ∀ target, Steps p.tables e below (T'.setTop { g with pc := g.pc + len, stack := .ref b :: g.stack }) target → Steps p.tables e below (T.setTop g) target := by
    rcases hi with ⟨rfl, rfl⟩ | ⟨rfl, rfl⟩
    · exact ldcS X hx hZ hown w wS rfl hS I.2.1.2 F.method hd ht h3 (by omega) (by omega)
    · exact ldcSW X hx hZ hown w wS rfl hS I.2.1.2 F.method hd ht h3 (by omega) (by omega)
  obtain ⟨b, T', h', k1, X', eT, E, hS', hk', hZ', hown', st'⟩ := key
  have XA := Ex.push A (.ref b)
  have here : (A.push (.ref b))[N + H.length]? = some (.ref b) := by rw [← I.1]; simp
  have nbh : nb ≤ h'.size := Nat.le_trans I.2.1.1 (Nat.le_trans I.2.1.2 E.1)
  refine ⟨A.push (.ref b), T', _, XA, ⟨T'.vm, max nb k1, ⟨hS'.1, fun j q hj hq => ?_⟩, hZ', hown', locs, cells + 2, slots + (a + 4), X', (fits_ext XA F).step (DenStack.cons (argEval here) (DenStack.ext XA F.stack)) len, ?_, N1, by omega, by omega⟩, st'⟩
  · have := hS'.2 j q hj hq
    exact ⟨this.1, Nat.lt_of_lt_of_le this.2 (Nat.le_max_right _ _)⟩
  · rw [eT]
    exact (I.pushNone E b).re (n0 := (nb, k0)) rfl (Nat.le_max_left _ _) (Nat.max_le.mpr ⟨nbh, hk'⟩)
theorem topEq (F : Sym.Fits A Z m σ g) {vs : List Value} (h : g.stack = vs) : g = mkF m g.pc g.locals vs := by
  obtain ⟨method, pc, locals, stack, locked, entered, monitorRoom⟩ := g
  obtain ⟨f1, f2, f3, f4, f5, f6, f7⟩ := F
  dsimp only at f1 f5 f6 f7 h
  subst f1 f5 f6 f7 h
  rfl
theorem ret_sound {nb : Nat} {Γ : List (Term × Term)} {M : MRow} {r : Row} (hx : p.tables.exec = Jvm.exec) (hΓ : ΓOk Γ A Z) (hby : cd.code = M.2.1) (hrt : meth.sig.returnType = M.2.2.2.1) (hlk : meth.locks = false) (hr : RowOk Z a0 CT MT M r) (hpc : r.1 = σ.pc)
    (P : PntS p l e R st m args below meth cd Z CT N nb own A σ H c s T g) {v : Option SVal} (hm : mvRet Γ r.2.2.2.1 σ = some v) : Ends p e R st below Z CT N nb A T g v H c s := by
  obtain ⟨pc, i, len, tag, a, b, k, ty⟩ := r
  obtain ⟨hd0, hl⟩ := hr
  dsimp only at hpc hd0 hm
  obtain ⟨vm0, k0, hS, hZ, hown, locs, cells, slots, X, F, I, N1, B1, B2⟩ := id P
  have hd : decode cd.code g.pc = .ok (i, len) := by
    rw [F.pc, ← hpc, hby]
    exact hd0
  have fin : ∀ (w : Option Value), (meth.sig.returnType = none → w = none) → RetDen A Z v w → (∀ fs, (∀ (f : JFrame) (acts : List Action), f.method = m → f.locked = none → f.entered = [] → (doReturn e (T.setTop f) acts w).1 = T.setFrames fs) → Steps p.tables e below (T.setTop g) (T.setFrames fs)) → Ends p e R st below Z CT N nb A T g v H c s := fun w hw hd hst => by
    obtain ⟨fs, hr, hrun, hended, hE⟩ := X.leaveW hS I.2.1.2 (v := w) hw hlk
    exact ⟨_, w, locs, cells, slots, A, hst fs hr, hrun, hended, hE, N1, B1, B2, Ex.refl A, I.re (n0 := (nb, k0)) rfl (Nat.le_refl _) (Nat.le_trans I.2.1.1 I.2.1.2), hd⟩
  unfold mvRet at hm
  split at hm
  · cases hm
    obtain ⟨rfl, rfl, rfl'⟩ := hl
    rw [rfl'] at hrt
    refine fin none (fun _ => rfl) trivial fun fs hr => ?_
    have hm' : T.vm.method? m = some meth := X.method'
    have hg := F.method
    have hlo := F.locked
    have hen := F.entered
    subst hg
    jvm_step X.here [X.here.top, hx, hd, hm', hrt]
    first | (intro acts; rw [hr _ acts rfl hlo hen]) | rw [hr _ _ rfl hlo hen]
    exact Steps.refl _
  · obtain ⟨rfl, rfl, rfl'⟩ := hl
    rw [rfl'] at hrt
    split at hm
    · rename_i x r hst
      split at hm
      · rename_i hk
        cases hm
        have hs := F.stack
        rw [hst] at hs
        obtain ⟨vx, w, e1, dx, hs1⟩ := hs.cons_inv
        obtain ⟨z, rfl⟩ := dx.int hk
        refine fin (some (.int z)) (fun q => by rw [hrt] at q; cases q) dx fun fs hr => ?_
        rw [topEq F e1]
        exact retOut X hx hrt rfl (Or.inl ⟨rfl, Or.inl rfl, z, rfl⟩) hd hr
      · cases hm
    · cases hm
  · obtain ⟨rfl, rfl, rfl'⟩ := hl
    rw [rfl'] at hrt
    split at hm
    · rename_i x r hst
      split at hm
      · rename_i hk
        cases hm
        have hs := F.stack
        rw [hst] at hs
        obtain ⟨vx, w, e1, dx, hs1⟩ := hs.cons_inv
        obtain ⟨z, rfl⟩ := dx.int hk
        have dw : (⟨.op2 .iand x.t (.int 1), .int⟩ : SVal).Den A Z (.int (nar .boolean z)) := ⟨by show (x.t.closed && true) = true; rw [dx.1]; rfl, by simp [Term.eval, dx.2.1, Binary.apply, nar], rfl⟩
        refine fin (some (.int (nar .boolean z))) (fun q => by rw [hrt] at q; cases q) (den_nrm hΓ dw) fun fs hr => ?_
        rw [topEq F e1]
        exact retN X hx hrt (Or.inl rfl) hd hr
      · cases hm
    · cases hm
  · obtain ⟨rfl, rfl, rfl'⟩ := hl
    rw [rfl'] at hrt
    split at hm
    · rename_i x r hst
      split at hm
      · rename_i hk
        cases hm
        have hs := F.stack
        rw [hst] at hs
        obtain ⟨vx, w, e1, dx, hs1⟩ := hs.cons_inv
        obtain ⟨z, rfl⟩ := dx.long hk
        refine fin (some (.long z)) (fun q => by rw [hrt] at q; cases q) dx fun fs hr => ?_
        rw [topEq F e1]
        exact retOut X hx hrt rfl (Or.inr (Or.inl ⟨rfl, rfl, z, rfl⟩)) hd hr
      · cases hm
    · cases hm
  · obtain ⟨rfl, rfl, t, rfl', ht⟩ := hl
    rw [rfl'] at hrt
    split at hm
    · rename_i x r hst
      split at hm
      · rename_i hk
        cases hm
        have hs := F.stack
        rw [hst] at hs
        obtain ⟨vx, w, e1, dx, hs1⟩ := hs.cons_inv
        have hv := dx.isRef hk
        refine fin (some vx) (fun q => by rw [hrt] at q; cases q) dx fun fs hr => ?_
        rw [topEq F e1]
        have hnr : narrow t vx = vx := by cases t <;> cases vx <;> first | rfl | (simp [Value.isRef] at hv) 
        exact retOut X hx hrt hnr (Or.inr (Or.inr (Or.inr (Or.inr ⟨rfl, ht, hv⟩)))) hd hr
      · cases hm
    · cases hm
  · cases hm
end Moves
end Jvm.OwnEv
namespace Jvm.OwnEv
open Sem ClassFile Op Lib Jvm.Stand Jvm.Free Jvm.LawKit Jvm.RoadKit Jvm.Sym
/-! ## 7. Calls, and the theorem -/
section Entry
variable {A : Array Value} {Z : State}
def DenL (A : Array Value) (Z : State) : List SSlot → List Slot → Prop
  | [], [] => True
  | x :: xs, y :: ys => x.Den A Z y ∧ DenL A Z xs ys
  | _, _ => False
theorem denL_locals {ls : Array Slot} : ∀ {L : List SSlot} {M : List Slot}, DenL A Z L M → ls.toList = M → DenLocals A Z L ls := fun {L M} d h i => by
  have e : ls[i]? = M[i]? := by rw [← h]; simp
  rw [e]
  clear e h
  induction L generalizing M i with
  | nil => cases M with
    | nil => simp; trivial
    | cons y M => exact d.elim
  | cons x L ih => cases M with
    | nil => exact d.elim
    | cons y M => cases i with
      | zero => exact d.1
      | succ i => simpa using ih d.2 i
def fillV : List Value → List Slot
  | [] => []
  | v :: r => if v.category = 2 then .val v :: .second :: fillV r else .val v :: fillV r
theorem fill_den : ∀ {xs : List SVal} {vs : List Value}, DenStack A Z xs vs → DenL A Z (fillS xs) (fillV vs) ∧ (fillV vs).length = (fillS xs).length
  | [], [], _ => ⟨trivial, rfl⟩
  | x :: xs, v :: vs, d => by
    obtain ⟨h1, h2⟩ := fill_den d.2
    have q := d.1.category
    unfold fillS fillV
    cases hk : x.k
    · rw [if_neg (by rw [q, hk]; simp)]
      exact ⟨⟨d.1, h1⟩, by simp [h2]⟩
    · rw [if_pos (by rw [q, hk])]
      exact ⟨⟨d.1, trivial, h1⟩, by simp [h2]⟩
    · rw [if_neg (by rw [q, hk]; simp)]
      exact ⟨⟨d.1, h1⟩, by simp [h2]⟩
  | [], _ :: _, d => d.elim
  | _ :: _, [], d => d.elim
theorem denL_append : ∀ {L L' : List SSlot} {M M' : List Slot}, DenL A Z L M → DenL A Z L' M' → DenL A Z (L ++ L') (M ++ M')
  | [], _, [], _, _, e => e
  | _ :: _, _, _ :: _, _, d, e => ⟨d.1, denL_append d.2 e⟩
  | [], _, _ :: _, _, d, _ => d.elim
  | _ :: _, _, [], _, d, _ => d.elim
theorem denL_unset : ∀ n, DenL A Z (List.replicate n .unset) (List.replicate n .unset)
  | 0 => trivial
  | n + 1 => ⟨trivial, denL_unset n⟩
theorem fold_fill : ∀ (vs : List Value) (acc : Array Slot), (vs.foldl (fun (acc : Array Slot) (v : Value) => if v.category = 2 then (acc.push (.val v)).push .second else acc.push (.val v)) acc).toList = acc.toList ++ fillV vs
  | [], acc => by simp [fillV]
  | v :: vs, acc => by
    have e : fillV (v :: vs) = if v.category = 2 then .val v :: .second :: fillV vs else .val v :: fillV vs := rfl
    rw [List.foldl_cons, fold_fill vs, e]
    split <;> simp
theorem argsToLocals_list (vs : List Value) (ml : Nat) : (argsToLocals vs.toArray ml).toList = fillV vs ++ List.replicate (ml - (fillV vs).length) .unset := by
  have h : (vs.toArray.foldl (init := (#[] : Array Slot)) fun acc v => if v.category = 2 then (acc.push (.val v)).push .second else acc.push (.val v)).toList = fillV vs := by
    rw [List.foldl_toArray, fold_fill]; rfl
  have e : argsToLocals vs.toArray ml = (vs.toArray.foldl (init := (#[] : Array Slot)) fun acc v => if v.category = 2 then (acc.push (.val v)).push .second else acc.push (.val v)) ++ Array.replicate (ml - (vs.toArray.foldl (init := (#[] : Array Slot)) fun acc v => if v.category = 2 then (acc.push (.val v)).push .second else acc.push (.val v)).size) .unset := rfl
  rw [e, Array.toList_append, h, Array.toList_replicate, ← Array.length_toList, h]
theorem entry_fits {xs : List SVal} {vs : List Value} (d : DenStack A Z xs vs) (m : MethodId) (ml : Nat) : Sym.Fits A Z m ⟨0, entryS xs ml, [], []⟩ (entryFrame m vs.toArray ml) := by
  obtain ⟨h1, h2⟩ := fill_den d
  refine ⟨rfl, rfl, ?_, trivial, rfl, rfl, rfl⟩
  refine denL_locals (ls := argsToLocals vs.toArray ml) (M := fillV vs ++ List.replicate (ml - (fillV vs).length) Slot.unset) ?_ (argsToLocals_list vs ml)
  rw [h2]
  exact denL_append h1 (denL_unset _)
theorem takeR_spec : ∀ (n : Nat) (S acc as rest : List SVal), takeR n S acc = some (as, rest) → ∃ B : List SVal, B.length = n ∧ S = B ++ rest ∧ as = B.reverse ++ acc
  | 0, S, acc, as, rest, h => by cases h; exact ⟨[], rfl, rfl, rfl⟩
  | n + 1, x :: S, acc, as, rest, h => by
    obtain ⟨B, h1, h2, h3⟩ := takeR_spec n S (x :: acc) as rest h
    exact ⟨x :: B, by rw [List.length_cons, h1], by rw [h2]; rfl, by rw [h3, List.reverse_cons, List.append_assoc]; rfl⟩
  | _ + 1, [], _, _, _, h => by cases h
theorem denStack_split : ∀ {xs ys : List SVal} {vs : List Value}, DenStack A Z (xs ++ ys) vs → ∃ v1 v2, vs = v1 ++ v2 ∧ DenStack A Z xs v1 ∧ DenStack A Z ys v2
  | [], _, vs, d => ⟨[], vs, rfl, trivial, d⟩
  | _ :: xs, ys, v :: vs, d => by
    obtain ⟨v1, v2, h1, h2, h3⟩ := denStack_split (xs := xs) d.2
    exact ⟨v :: v1, v2, by rw [h1]; rfl, ⟨d.1, h2⟩, h3⟩
  | _ :: _, _, [], d => d.elim
theorem denStack_rev : ∀ {xs : List SVal} {vs : List Value}, DenStack A Z xs vs → DenStack A Z xs.reverse vs.reverse
  | [], [], _ => trivial
  | x :: xs, v :: vs, d => by
    rw [List.reverse_cons, List.reverse_cons]
    exact denStack_snoc (denStack_rev d.2) d.1
  | [], _ :: _, d => d.elim
  | _ :: _, [], d => d.elim
/-- the arguments of a call -/
theorem args_of {n : Nat} {S as rest : List SVal} {vs : List Value} (h : takeR n S [] = some (as, rest)) (d : DenStack A Z S vs) : ∃ va vr, vs = va.reverse ++ vr ∧ va.length = n ∧ as.length = n ∧ DenStack A Z as va ∧ DenStack A Z rest vr := by
  obtain ⟨B, h1, h2, h3⟩ := takeR_spec n S [] as rest h
  rw [List.append_nil] at h3
  subst h2 h3
  obtain ⟨v1, v2, e1, d1, d2⟩ := denStack_split d
  have hl := denStack_len d1
  exact ⟨v1.reverse, v2, by rw [List.reverse_reverse]; exact e1, by rw [List.length_reverse, hl, h1], by rw [List.length_reverse, h1], denStack_rev d1, d2⟩
end Entry
theorem findR_spec : ∀ {L : List Row} {pc : Nat} {r : Row} {rs : List Row}, findR L pc = some (r, rs) → r.1 = pc ∧ r ∈ L ∧ ∀ q ∈ rs, q ∈ L
  | x :: L, pc, r, rs, h => by
    unfold findR at h
    cases hb : Nat.beq x.1 pc <;> rw [hb] at h
    · obtain ⟨h1, h2, h3⟩ := findR_spec (L := L) h
      exact ⟨h1, List.mem_cons_of_mem _ h2, fun q hq => List.mem_cons_of_mem _ (h3 q hq)⟩
    · cases h
      exact ⟨Nat.eq_of_beq_eq_true hb, List.mem_cons_self .., fun q hq => List.mem_cons_of_mem _ hq⟩
  | [], _, _, _, h => by cases h
theorem fetch_spec {cur all : List Row} {pc : Nat} {r : Row} {rs : List Row} (hc : ∀ q ∈ cur, q ∈ all) (h : fetch cur all pc = some (r, rs)) : r.1 = pc ∧ r ∈ all ∧ ∀ q ∈ rs, q ∈ all := by
  unfold fetch at h
  split at h
  · rename_i x L
    cases hb : Nat.beq x.1 pc <;> rw [hb] at h
    · exact findR_spec h
    · cases h
      exact ⟨Nat.eq_of_beq_eq_true hb, hc _ (List.mem_cons_self ..), fun q hq => hc q (List.mem_cons_of_mem _ hq)⟩
  · exact findR_spec h
section Whole
variable {Z : State} {a0 : Array Value} {CT : List CRow} {MT : List MRow} {N : Nat} {n0 : Nat × Nat} {Γ : List (Term × Term)} {Γc : List CFact} {A0 : Array Value}
/-- what an evaluated body promises, wherever it is entered -/
def Body1 (l : Launch) (Z : State) (a0 : Array Value) (CT : List CRow) (MT : List MRow) (N nb : Nat) (A0 : Array Value) (fr lo : Nat) (M : MRow) (cur : List Row) (σ : SFrame) (H : AH) (c s : Nat) (v : Option SVal) (H' : AH) (c' s' : Nat) : Prop :=
  ∀ (p : Program) (e : Env) (R : Room) (st : State) (m : MethodId) (args : Array Value) (below : List Frame) (meth : Method) (cd : Code) (A : Array Value) (T : State) (g : JFrame),
    p.tables.exec = Jvm.exec → cd.code = M.2.1 → cd.maxLocals = M.2.2.1 → meth.sig.returnType = M.2.2.2.1 → meth.name = M.1.name → meth.locks = false → fr ≤ R.frames → lo ≤ R.locals → Ex A0 A →
    PntS p l e R st m args below meth cd Z CT N nb M.1.cls A σ H c s T g → Ends p e R st below Z CT N nb A T g v H' c' s'
variable {nb : Nat}
/-- the contract of a method, evaluated at such arguments and such a heap -/
theorem met1 {l : Launch} {fr lo : Nat} {M : MRow} {as : List SVal} {H H' : AH} {c s c' s' : Nat} {v : Option SVal} {ws : List Jvm.Cond} {h : Heap} {A : Array Value} {va : List Value}
    (hpl : plainFor M.1 = true) (hB : Body1 l Z a0 CT MT N nb A0 fr lo M M.2.2.2.2.2 ⟨0, entryS as M.2.2.1, [], []⟩ H c s v H' c' s') (hX : Ex A0 A) (hI : Inv Z CT N (nb, nb) A H h) (hd : DenStack A Z as va) {rm : Room} (hf : fr ≤ rm.frames) (hl : lo ≤ rm.locals) (hc : c ≤ rm.cells) (hs : s ≤ rm.slots) :
    MetFree l M.1 (head1 (Cond.code M.1 M.2.1 M.2.2.1 M.2.2.2.1 :: ws) rm) (fun a U => a = va.toArray ∧ Z.Warmed39 U.vm ∧ U.heap = h) (fun _ _ _ _ _ => True)
      (fun _ U o U' => ∃ (w : Option Value) (L : List Loc) (k j : Nat) (A' : Array Value), o = .returned w ∧ ReturnedEndW U o U' L k j ∧ Fr nb L ∧ k + c' ≤ rm.cells ∧ j + s' ≤ rm.slots ∧ Ex A A' ∧ Inv Z CT N (nb, nb) A' H' U'.heap ∧ RetDen A' Z v w) := by
  refine MetFree.of_bodySF hpl hisR ?_
  intro p e st m args below meth cd s₁ Bd hml hP hK
  obtain ⟨rfl, hZ, hh⟩ := hP
  have X0 : Stand p l e rm (st.setVm st.vm) m va.toArray below meth cd s₁ [] 0 0 := Stand.of_body Bd
  have e0 : s₁.heap = h := by rw [← hh, Bd.state]; rfl
  have P : PntS p l e rm st m va.toArray below meth cd Z CT N nb M.1.cls A ⟨0, entryS as M.2.2.1, [], []⟩ H c s s₁ (entryFrame m va.toArray M.2.2.1) :=
    ⟨st.vm, nb, (State.WarmedH.refl st).since nb, hZ, findClass_of_methodNamed Bd.named, [], 0, 0, X0, entry_fits hd m M.2.2.1, by rw [e0]; exact hI, Fr.nil nb, by omega, by omega⟩
  obtain ⟨s₂, w, L, k, j, A', h1, h2, h3, h4, h5, h6, h7, h8, h9, h10⟩ := hB p e rm st m va.toArray below meth cd A s₁ _ Bd.exec Bd.bytes hml Bd.returns (name_of_methodNamed Bd.named Bd.method).1 Bd.notSynchronized hf hl hX P
  exact ⟨s₂, _, h1, h2, h3, w, L, k, j, A', rfl, h4, h5, h6, h7, h8, h9, h10⟩
/-- the same, as what a caller's premise asks -/
theorem back1 {l : Launch} {fr lo : Nat} {M : MRow} {as : List SVal} {H H' : AH} {c s c' s' : Nat} {v : Option SVal} {h : Heap} {A : Array Value} {va : List Value} {R : Room} {p : Program} {e : Env} {below : List Frame} {st : State} {args : Array Value} {W : Nat}
    (hpl : plainFor M.1 = true) (hB : Body1 l Z a0 CT MT N nb A0 fr lo M M.2.2.2.2.2 ⟨0, entryS as M.2.2.1, [], []⟩ H c s v H' c' s') (hX : Ex A0 A) (hI : Inv Z CT N (nb, nb) A H h) (hd : DenStack A Z as va)
    (hZ : Z.Warmed39 st.vm) (hk : Callable Z a0 M) (hf : fr + 1 ≤ R.frames) (hl : W + (M.2.2.1 + 11) + lo ≤ R.locals) :
    BackS l R p e below st args M.1 3 W (fun P a => a = va.toArray ∧ P.U.heap = h ∧ P.cells + c ≤ R.cells ∧ P.slots + s ≤ R.slots)
      (fun P _ w B => ∃ (L : List Loc) (k j : Nat) (A' : Array Value), Fr nb L ∧ k + c' ≤ c ∧ j + s' ≤ s ∧ Ex A A' ∧ Inv Z CT N (nb, nb) A' H' B.U.heap ∧ RetDen A' Z v w ∧ B.locs = P.locs ++ L ∧ B.cells = P.cells + k ∧ B.slots = P.slots + j) := by
  have hM := met1 (ws := []) hpl hB hX hI hd (rm := ({ frames := fr, cells := c, slots := s, locals := lo } : Room)) (Nat.le_refl _) (Nat.le_refl _) (Nat.le_refl _) (Nat.le_refl _)
  exact BackS.of_freeW (bytes := M.2.1) (maxL := M.2.2.1) (ret := M.2.2.2.1) (E := fun _ _ o t L k j => ∃ (w : Option Value) (A' : Array Value), o = .returned w ∧ Fr nb L ∧ k + c' ≤ c ∧ j + s' ≤ s ∧ Ex A A' ∧ Inv Z CT N (nb, nb) A' H' t.heap ∧ RetDen A' Z v w) hM hf hl
    (fun m meth cd P a Y hp => have hU : Z.Warmed39 P.U.vm := wtrans hZ Y.warmed
      ⟨by show (Cond.and _ .tt).before a P.U = true; rw [Cond.before_and, mv hU hk.2.1]; rfl, mv hU hk.2.1, mv hU hk.1, hp.2.2.1, hp.2.2.2⟩)
    (fun m meth cd P a g mk Y hp => ⟨hp.1, wtrans hZ Y.warmed, hp.2.1⟩) (fun _ _ _ _ _ _ _ _ _ => trivial)
    (fun _ _ _ _ ⟨w, L, k, j, A', h1, h2, h3, h4, h5, h6⟩ => ⟨L, k, j, h2, w, A', h1, h3, h4, h5, h6⟩)
    (fun m meth cd P a g mk w t L k j Y hp _ _ ⟨w', A', e1, h3, h4, h5, h6, h7, h8⟩ => by cases e1; exact ⟨L, k, j, A', h3, h4, h5, h6, h7, h8, rfl, rfl, rfl⟩)
theorem pushV_den {A : Array Value} {v : Option SVal} {w : Option Value} {r : List SVal} {vr : List Value} (d : RetDen A Z v w) (ds : DenStack A Z r vr) : DenStack A Z (pushV v r) (w.toList ++ vr) := by
  cases v <;> cases w <;> first | exact d.elim | exact ds | exact ⟨d, ds⟩
theorem recv_ref {A : Array Value} {H : AH} {h : Heap} {tag b : Nat} {as : List SVal} {va : List Value} (ht : tag ≠ 40) (I : Inv Z CT N n0 A H h) (hr : recvOk N H tag b as = true) (d : DenStack A Z as va) : ∃ x r a r', as = x :: r ∧ va = .ref a :: r' ∧ ∃ C nn fs, nth CT b = some (C, nn, fs) ∧ Exa Z h a C := by
  unfold recvOk at hr
  have hb : Nat.beq tag 40 = false := by
    cases hb : Nat.beq tag 40
    · rfl
    · exact absurd (Nat.eq_of_beq_eq_true hb) ht
  rw [hb] at hr
  simp only [cond_false] at hr
  split at hr
  · rename_i x r
    split at hr
    · rename_i j hj
      split at hr
      · rename_i ci xs hO
        have ec := Nat.eq_of_beq_eq_true hr
        subst ec
        obtain ⟨v, w, e1, dx, ds⟩ := d.cons_inv
        obtain ⟨a, rfl, -, -, C, nn, fs, q1, q2, -⟩ := plc_ref I hj hO dx.2.1
        exact ⟨x, r, a, w, rfl, e1, C, nn, fs, q1, q2⟩
      · cases hr
    · cases hr
  · cases hr
/-- a constructor called through an entry that is resolved already -/
theorem specialBackRef {p : Program} {l : Launch} {e : Env} {R : Room} {s : State} {m : MethodId} {args : Array Value} {below : List Frame} {meth : Method} {c : Code} {T : State} {locs : List Loc} {cells slots : Nat} {Z : State} {a0 : Array Value}
    (X : Stand p l e R s m args below meth c T locs cells slots) (hexec : p.tables.exec = Jvm.exec) {own : String} {index : Nat} {y : MethodName} (hy1 : y.name = "<init>")
    (hown : s.vm.findClass own = some m.cls) (hZ : Z.Warmed39 s.vm) (hlink : (Cond.methodRef own index y).before a0 Z = true) (hinst : (Cond.instanceMethod y).before args s = true)
    {bytes : ByteArray} {maxL : Nat} (hcode : (Cond.code y bytes maxL none).before args s = true)
    (hy : y.cls ≠ "java/lang/invoke/MethodHandle" ∧ y.cls ≠ "java/lang/invoke/VarHandle")
    {W : Nat} {Pre : Pt → Array Value → Prop} {Post : Pt → Array Value → Option Value → Pt → Prop} (hK : BackS l R p e below s args y 3 W Pre Post)
    {g : JFrame} (hg : g.method = m) (hsize : g.locals.size = c.maxLocals) {s₀ : State} (hcome : Steps p.tables e below s₀ (T.setTop g)) {a : Addr} {argsL rest : List Value}
    (hlen : ∀ sig, parseMethodDescriptor y.desc = some sig → argsL.length = sig.parameters.length) (hstack : g.stack = argsL.reverse ++ .ref a :: rest) (hW : 2 * g.monitorRoom + (rest.map fun v => v.category).sum ≤ W)
    (hdg : decode c.code g.pc = .ok (.invokespecial index, 3)) (hpre : ∀ vm₁, s.WarmedH vm₁ → Pre ⟨T.setVm vm₁, locs, cells, slots⟩ (.ref a :: argsL).toArray) :
    ∃ (v : Option Value) (vm₁ : Vm) (B : Pt), s.WarmedH vm₁ ∧ Stand p l e R (s.setVm B.U.vm) m args below meth c B.U B.locs B.cells B.slots ∧ s.Since B.U.vm B.U.heap.size ∧ T.heap.size ≤ B.U.heap.size ∧ Post ⟨T.setVm vm₁, locs, cells, slots⟩ (.ref a :: argsL).toArray v B ∧
      Steps p.tables e below s₀ (B.U.setTop { g with pc := g.pc + 3, stack := v.toList ++ rest }) := by
  obtain ⟨obj, methO, hnO, hmO, hstO, habO⟩ := Cond.instanceMethod_spec hinst
  obtain ⟨methO', cO, hmO', hcO, hbO, hlO, -, hlockO, -, hsigO⟩ := Cond.code_spec hnO hcode
  cases hmO.symm.trans hmO'
  obtain ⟨kO, hkO, hnameO⟩ := className_of_methodNamed hnO
  obtain ⟨hnameMO, hdescO⟩ := name_of_methodNamed hnO hmO
  have hT : Z.Warmed39 T.vm := wtrans hZ X.warmed
  have hnZ : Z.methodNamed? y = some obj := by
    have : (Z.setVm s.vm).methodNamed? y = Z.methodNamed? y := State.methodNamed?_setVm hZ.alike _
    rw [← this]; exact hnO
  have hownT : (Z.setVm T.vm).vm.findClass own = some m.cls := by
    show T.vm.findClass own = some m.cls
    rw [X.warmed.alike.findClass]; exact hown
  obtain ⟨mm, c', q1, q2, q3, q4⟩ := Cond.methodRef_named (s := Z.setVm T.vm) e hownT (Cond.methodRef_warmed39 hT hnZ hy hlink)
  have hnT : (Z.setVm T.vm).methodNamed? y = some obj := by rw [State.methodNamed?_setVm hT.alike]; exact hnZ
  cases (State.methodFound?_of_named hnT hy).symm.trans q1
  cases (findClass_of_methodNamed hnT).symm.trans q3
  obtain ⟨kO₂, hkO₂, heO₂⟩ := X.warmed.alike.2.2 _ _ hkO
  have hmO₂ : T.vm.method? obj = some methO := by rw [X.warmed.alike.method?]; exact hmO
  have hfound : lookupSpecial T.vm obj.cls "<init>" methO.desc = .method obj := by
    rw [X.warmed.alike.lookupSpecial, hdescO, ← hy1]; exact lookupSpecial_of_named hnO hmO hstO
  have X₁ := X.noted X.warmed
  obtain ⟨v, B, X', hS, hgr, hpost, hsteps⟩ := hK m meth c ⟨T.setVm T.vm, locs, cells, slots⟩ { g with stack := rest } (.invokespecial index) obj (.ref a :: argsL).toArray X₁ hg hsize hdg hW (X₁.named hnO) (hpre T.vm X.warmed)
  refine ⟨v, T.vm, B, X.warmed, X', hS, hgr, hpost, (hcome.trans ?_).trans hsteps⟩
  subst hg
  have hq : namesResolved T.vm g.method.cls index obj.cls := q4
  have hr : T.vm.methodReady g.method.cls index obj := q2
  jvm_step X.here [hexec, hdg, invokespecial.wp_init (e := e) (s := T) (k := kO₂) (meth := methO) (m := obj) (a := a) (args := argsL) (rest := rest) (f := g) X.here.top hq hr hkO₂ hmO₂ (by rw [hnameMO]; exact hy1) hstO habO hfound (hlen _ hsigO) hstack]
  first | (intro acts; rw [doInvoke_state]; exact Steps.refl _) | (rw [doInvoke_state]; exact Steps.refl _) | exact Steps.refl _
theorem call_sound {l : Launch} {p : Program} {e : Env} {R : Room} {st : State} {m : MethodId} {args : Array Value} {below : List Frame} {meth : Method} {cd : Code} {A : Array Value} {σ : SFrame} {H H' : AH} {c s c' s' : Nat} {T : State} {g : JFrame} {fr lo : Nat} {M M' : MRow} {r : Row} {as rest : List SVal} {v : Option SVal}
    (hx : p.tables.exec = Jvm.exec) (hCT : CTOk Z a0 CT) (hMT : ∀ k M, nth MT k = some M → MOk Z a0 CT MT M) (hfr : fr ≤ R.frames) (hlo : lo ≤ R.locals) (hX : Ex A0 A)
    (hby : cd.code = M.2.1) (hml : cd.maxLocals = M.2.2.1) (hr : RowOk Z a0 CT MT M r) (hpc : r.1 = σ.pc) (hM' : nth MT r.2.2.2.2.1 = some M') (htag : 40 ≤ r.2.2.2.1) (htag' : r.2.2.2.1 ≤ 44)
    (htk : takeR (cond (Nat.beq r.2.2.2.1 40) M'.2.2.2.2.1 (M'.2.2.2.2.1 + 1)) σ.stack [] = some (as, rest)) (hrv : recvOk N H r.2.2.2.1 r.2.2.2.2.2.1 as = true) (h1 : 1 ≤ fr) (h2 : wt rest + (M'.2.2.1 + 11) ≤ lo) (h3 : σ.locals.length = M.2.2.1)
    (hB : Body1 l Z a0 CT MT N nb A0 (fr - 1) (lo - (wt rest + (M'.2.2.1 + 11))) M' M'.2.2.2.2.2 ⟨0, entryS as M'.2.2.1, [], []⟩ H c s v H' c' s')
    (P : PntS p l e R st m args below meth cd Z CT N nb M.1.cls A σ H c s T g) : GoesS p l e R st m args below meth cd Z CT N nb M.1.cls A T g { σ with pc := σ.pc + 3, stack := pushV v rest } H' c' s' := by
  obtain ⟨pc, i, len, tag, a, b, k, ty⟩ := r
  obtain ⟨hd0, hl⟩ := hr
  dsimp only at hpc hd0 htag htag' htk hM' hrv
  obtain ⟨vm0, k0, hS, hZ0, hown0, locs, cells, slots, X, F, I, N1, B1, B2⟩ := id P
  have hZ : Z.Warmed39 (st.setVm vm0).vm := hZ0
  have hown : (st.setVm vm0).vm.findClass M.1.cls = some m.cls := hown0
  have I0 : Inv Z CT N (nb, nb) A H T.heap := I.re (n0 := (nb, k0)) rfl (Nat.le_refl _) (Nat.le_trans I.2.1.1 I.2.1.2)
  have hd : decode cd.code g.pc = .ok (i, len) := by
    rw [F.pc, ← hpc, hby]
    exact hd0
  obtain ⟨va, vr, e1, lv, la, dva, dvr⟩ := args_of htk F.stack
  have hsize : g.locals.size = cd.maxLocals := by rw [F.locals.size, h3, hml]
  have hW : 2 * g.monitorRoom + (vr.map fun v => v.category).sum ≤ wt rest := by rw [F.mroom, denStack_wt dvr]; omega
  have hpl := (hMT _ _ hM').1
  have hK : Callable Z a0 M' → BackS l R p e below (st.setVm vm0) args M'.1 3 (wt rest) _ _ := fun hk => back1 (R := R) (p := p) (e := e) (below := below) (st := st.setVm vm0) (args := args) (W := wt rest) hpl hB hX I0 dva hZ hk (by omega) (by omega)
  have fin : ∀ (w : Option Value) (B : Pt), Stand p l e R ((st.setVm vm0).setVm B.U.vm) m args below meth cd B.U B.locs B.cells B.slots → (st.setVm vm0).Since B.U.vm B.U.heap.size → T.heap.size ≤ B.U.heap.size →
      (∃ (L : List Loc) (k j : Nat) (A' : Array Value), Fr nb L ∧ k + c' ≤ c ∧ j + s' ≤ s ∧ Ex A A' ∧ Inv Z CT N (nb, nb) A' H' B.U.heap ∧ RetDen A' Z v w ∧ B.locs = locs ++ L ∧ B.cells = cells + k ∧ B.slots = slots + j) →
      Leads p.tables e below T g B.U { g with pc := g.pc + 3, stack := w.toList ++ vr } → GoesS p l e R st m args below meth cd Z CT N nb M.1.cls A T g { σ with pc := σ.pc + 3, stack := pushV v rest } H' c' s' := fun w B X' hS2 hgr hq hst => by
    obtain ⟨L, k, j, A', q1, q2, q3, q4, q5, q6, q7, q8, q9⟩ := hq
    refine ⟨A', B.U, _, q4, ⟨B.U.vm, B.U.heap.size, foldS hS I.2.1.2 hS2 hgr, State.Warmed39.trans (t := st.setVm vm0) hZ hS2.1, ?_, B.locs, B.cells, B.slots, X', (fits_ext q4 F).step (pushV_den q6 (DenStack.ext q4 dvr)) 3, q5.re (n0 := (nb, nb)) rfl q5.2.1.2 (Nat.le_refl _), by rw [q7]; exact N1.app q1, by rw [q8]; omega, by rw [q9]; omega⟩, hst⟩
    rw [hS2.1.alike.findClass]
    exact hown
  have cases4 : tag = 40 ∨ tag = 41 ∨ tag = 42 ∨ tag = 43 ∨ tag = 44 := by omega
  rcases cases4 with rfl | rfl | rfl | rfl | rfl
  · obtain ⟨idx, M2, rfl, rfl, l1, lk, l2, l3⟩ := hl
    cases hM'.symm.trans l1
    obtain ⟨ps, rr, pd, pl⟩ := lk.2.2.2
    obtain ⟨w, vm₁, B, hW₁, X', hS2, hgr, hq, hst⟩ := callSS X hx (y := M'.1) hown (mvT hZ l2) (mvT hZ l3) (mvT hZ lk.1) (mvT hZ lk.2.1) lk.2.2.1 (hK lk) F.method hsize (argsL := va) (rest := vr) (lenOf pd (by rw [lv, pl]; rfl)) e1 hW hd (fun _ _ => ⟨rfl, rfl, B1, B2⟩)
    exact fin w B X' hS2 hgr hq (fun target h => hst.trans h)
  · obtain ⟨idx, M2, rfl, rfl, l1, lk, l2, l3, l4, l5⟩ := hl
    cases hM'.symm.trans l1
    obtain ⟨ps, rr, pd, pl⟩ := lk.2.2.2
    obtain ⟨x, r1, ad, r2, rfl, rfl, -⟩ := recv_ref (n0 := (nb, k0)) (by omega) I hrv dva
    have hcode : (Cond.code M'.1 M'.2.1 M'.2.2.1 none).before args (st.setVm vm0) = true := by rw [← l5]; exact mvT hZ lk.2.1
    obtain ⟨w, vm₁, B, hW₁, X', hS2, hgr, hq, hst⟩ := X.specialBackS hx (y := M'.1) l4 hown (mvT hZ l2) (mvT hZ l3) hcode lk.2.2.1 (hK lk) F.method hsize (Steps.refl _) (a := ad) (argsL := r2) (rest := vr) (lenOf pd (by have q : r2.length + 1 = M'.2.2.2.2.1 + 1 := lv; omega)) (by rw [e1, List.reverse_cons, List.append_assoc]; rfl) hW hd (fun _ _ => ⟨rfl, rfl, B1, B2⟩)
    exact fin w B X' hS2 hgr hq (fun target h => hst.trans h)
  · obtain ⟨idx, M2, C, nn, fs, rfl, rfl, l1, lk, l2, l3, l4, l5, l6⟩ := hl
    cases hM'.symm.trans l1
    obtain ⟨ps, rr, pd, pl⟩ := lk.2.2.2
    obtain ⟨x, r1, ad, r2, rfl, rfl, C', nn', fs', q1, EX⟩ := recv_ref (n0 := (nb, k0)) (by omega) I hrv dva
    cases l4.symm.trans q1
    obtain ⟨cq, kq, qa, qb, qc⟩ := isOf hZ rfl EX
    obtain ⟨w, vm₁, B, hW₁, X', hS2, hgr, hq, hst⟩ := X.virtualBackS hx (y := M'.1) (z := M'.1) hown (mvT hZ l2) (mvT hZ l5) (notFace_of_selects (args := #[]) (mvT hZ l6)) (mvT hZ l6) (mvT hZ l3) lk.2.2.1 (hK lk) qa qc F.method hsize (Steps.refl _) (argsL := r2) (rest := vr) (lenOf pd (by have q : r2.length + 1 = M'.2.2.2.2.1 + 1 := lv; omega)) (by rw [e1, List.reverse_cons, List.append_assoc]; rfl) hW hd (fun _ _ => ⟨rfl, rfl, B1, B2⟩)
    exact fin w B X' hS2 hgr hq (fun target h => hst.trans h)
  · obtain ⟨idx, M2, nn, fs, rfl, rfl, l1, lk, l2, l3, l4, l5⟩ := hl
    cases hM'.symm.trans l1
    obtain ⟨ps, rr, pd, pl⟩ := lk.2.2.2
    obtain ⟨x, r1, ad, r2, rfl, rfl, C', nn', fs', q1, EX⟩ := recv_ref (n0 := (nb, k0)) (by omega) I hrv dva
    cases l4.symm.trans q1
    obtain ⟨cl, hcl, hob⟩ := EX.cell
    have hpv := Cond.privateMethod_at (mvP hZ l5 (args := #[]))
    have hinst : (Cond.instanceMethod M'.1).before args (st.setVm vm0) = true := mvT hZ l3
    obtain ⟨cI, kI, i1, i2, i3, i4, -⟩ := Cond.instantiable_spec (mvT (args := args) (s := st.setVm vm0) hZ (hCT _ _ l4).1)
    have hni : kI.isInterface = false := by
      cases hq : kI.isInterface
      · rfl
      · rw [hq] at i4; cases i4
    obtain ⟨w, vm₁, B, hW₁, X', hS2, hgr, hq, hst⟩ := X.privateBackS hx (y := M'.1) hown (mvT hZ l2) hinst (Jvm.Stand.selects_self_of_private i1 i2 hni hpv hinst lk.2.2.1) hpv (mvT hZ lk.2.1) lk.2.2.1 (hK lk) F.method hsize (Steps.refl _) (a := ad) hcl hob (argsL := r2) (rest := vr) (lenOf pd (by have q : r2.length + 1 = M'.2.2.2.2.1 + 1 := lv; omega)) (by rw [e1, List.reverse_cons, List.append_assoc]; rfl) hW hd (fun _ _ => ⟨rfl, rfl, B1, B2⟩)
    exact fin w B X' hS2 hgr hq (fun target h => hst.trans h)
  · obtain ⟨idx, M2, rfl, rfl, l1, lk, l2, l3, l4, l5⟩ := hl
    cases hM'.symm.trans l1
    obtain ⟨ps, rr, pd, pl⟩ := lk.2.2.2
    obtain ⟨x, r1, ad, r2, rfl, rfl, -⟩ := recv_ref (n0 := (nb, k0)) (by omega) I hrv dva
    have hcode : (Cond.code M'.1 M'.2.1 M'.2.2.1 none).before args (st.setVm vm0) = true := by rw [← l5]; exact mvT hZ lk.2.1
    obtain ⟨w, vm₁, B, hW₁, X', hS2, hgr, hq, hst⟩ := specialBackRef X hx (y := M'.1) l4 hown hZ l2 (mvT hZ l3) hcode lk.2.2.1 (hK lk) F.method hsize (Steps.refl _) (a := ad) (argsL := r2) (rest := vr) (lenOf pd (by have q : r2.length + 1 = M'.2.2.2.2.1 + 1 := lv; omega)) (by rw [e1, List.reverse_cons, List.append_assoc]; rfl) hW hd (fun _ _ => ⟨rfl, rfl, B1, B2⟩)
    exact fin w B X' hS2 hgr hq (fun target h => hst.trans h)
/-- THE EVALUATOR IS SOUND -/
theorem ev_sound (l : Launch) (hCT : CTOk Z a0 CT) (hMT : ∀ k M, nth MT k = some M → MOk Z a0 CT MT M)
    (hΓ : ∀ q ∈ Γ, q.2.closed = true ∧ ∃ v, q.1.eval A0 Z none [] Z = some v ∧ q.2.eval A0 Z none [] Z = some v)
    (hC : ∀ q ∈ Γc, ∃ x y : Int32, q.2.1.eval A0 Z none [] Z = some (.int x) ∧ q.2.2.1.eval A0 Z none [] Z = some (.int y) ∧ if_icmp.holds q.1 x y = q.2.2.2) :
    ∀ (n fr lo : Nat) (M : MRow) (cur : List Row) (σ : SFrame) (H : AH) (c s : Nat) (v : Option SVal) (H' : AH) (c' s' : Nat), ev N CT MT Γ Γc n fr lo M cur σ H c s = some (v, H', c', s') → MOk Z a0 CT MT M → (∀ q ∈ cur, q ∈ M.2.2.2.2.2) →
      Body1 l Z a0 CT MT N nb A0 fr lo M cur σ H c s v H' c' s' := by
  intro n
  induction n with
  | zero => intro fr lo M cur σ H c s v H' c' s' h; cases h
  | succ n ih =>
    intro fr lo M cur σ H c s v H' c' s' h hM hcur p e R st m args below meth cd A T g hx hby hml hrt hnm hlk hfr hlo hX P
    unfold ev at h
    split at h
    · cases h
    · rename_i r cur' hf
      obtain ⟨f1, f2, f3⟩ := fetch_spec hcur hf
      have hrow := hM.2 r f2
      have hΓA := ΓOk.ext hX hΓ
      have hCA := CFOk.ext hX hC
      cases hb : Nat.blt r.2.2.2.1 30 <;> rw [hb] at h <;> simp only [cond_true, cond_false] at h
      · cases hb2 : Nat.blt r.2.2.2.1 40 <;> rw [hb2] at h <;> simp only [cond_true, cond_false] at h
        · split at h
          · cases h
          · rename_i M' hM'
            split at h
            · cases h
            · rename_i as rest htk
              cases hb3 : (recvOk N H r.2.2.2.1 r.2.2.2.2.2.1 as && Nat.ble r.2.2.2.1 44 && Nat.ble 1 fr && Nat.ble (wt rest + (M'.2.2.1 + 11)) lo && Nat.beq σ.locals.length M.2.2.1) <;> rw [hb3] at h <;> simp only [cond_true, cond_false, reduceCtorEq] at h
              simp only [Bool.and_eq_true] at hb3
              obtain ⟨⟨⟨⟨b1, b0⟩, b2⟩, b3⟩, b4⟩ := hb3
              split at h
              · cases h
              · rename_i v1 H1 c1 s1 he
                have h40 : 40 ≤ r.2.2.2.1 := by
                  rcases Nat.lt_or_ge r.2.2.2.1 40 with q | q
                  · have := Nat.ble_eq_true_of_le q
                    rw [show Nat.blt r.2.2.2.1 40 = Nat.ble (r.2.2.2.1 + 1) 40 from rfl] at hb2
                    rw [this] at hb2
                    cases hb2
                  · exact q
                have h44 : r.2.2.2.1 ≤ 44 := Nat.le_of_ble_eq_true b0
                refine (call_sound hx hCT hMT hfr hlo hX hby hml hrow f1 hM' h40 h44 htk b1 (Nat.le_of_ble_eq_true b2) (Nat.le_of_ble_eq_true b3) (Nat.eq_of_beq_eq_true b4) (ih _ _ M' _ _ _ _ _ _ _ _ _ he (hMT _ _ hM') (fun q hq => hq)) P).ends fun A' T' g' X' P' => ?_
                exact ih _ _ M _ _ _ _ _ _ _ _ _ h hM f3 p e R st m args below meth cd A' T' g' hx hby hml hrt hnm hlk hfr hlo (hX.trans X') P'
        · cases hb4 : Nat.beq r.2.2.2.1 39 <;> rw [hb4] at h <;> simp only [cond_true, cond_false] at h
          · obtain ⟨v1, hv, e0⟩ := Option.map_eq_some_iff.mp h
            simp only [Prod.mk.injEq] at e0
            obtain ⟨rfl, rfl, rfl, rfl⟩ := e0
            exact ret_sound hx hΓA hby hrt hlk hrow f1 P hv
          · split at h
            · rename_i σ1 H1 c1 s1 hm
              obtain ⟨pc, i, len, tag, a, b, k, ty⟩ := r
              have e39 : tag = 39 := Nat.eq_of_beq_eq_true hb4
              subst e39
              obtain ⟨hd0, idx, text, l1, l2, l3, l4⟩ := hrow
              have hd : decode cd.code g.pc = .ok (i, len) := by
                obtain ⟨_, _, _, _, _, _, _, _, _, F, _⟩ := id P
                rw [F.pc, ← f1, hby]
                exact hd0
              refine (str_sound (M := M) hx l1 l2 l3 l4 P hd hm).ends fun A' T' g' X' P' => ?_
              exact ih _ _ M _ _ _ _ _ _ _ _ _ h hM f3 p e R st m args below meth cd A' T' g' hx hby hml hrt hnm hlk hfr hlo (hX.trans X') P'
            · cases h
      · split at h
        · rename_i σ1 H1 c1 s1 hm
          obtain ⟨vm0, k0, hS, hZ, hown, P0⟩ := P
          refine ((mv1_sound (st := st.setVm vm0) hx hZ hown hCT hΓA hCA hfr hlo hby hml hnm hrow f1 P0 hm).up hS hZ hown).ends fun A' T' g' X' P' => ?_
          exact ih _ _ M _ _ _ _ _ _ _ _ _ h hM f3 p e R st m args below meth cd A' T' g' hx hby hml hrt hnm hlk hfr hlo (hX.trans X') P'
        · cases h
end Whole
end Jvm.OwnEv
namespace Jvm.OwnEv
open Sem ClassFile Op Lib Jvm.Stand Jvm.Free Jvm.LawKit Jvm.RoadKit Jvm.Sym
/-! ## 8. From lists to tables -/
theorem mOk_of {Z : State} {a0 : Array Value} {CT : List CRow} {MT : List MRow} {M : MRow} (hp : plainFor M.1 = true) (hd : M.2.2.2.2.2.all (fun r => decide (decode M.2.1 r.1 = .ok (r.2.1, r.2.2.1))) = true) (hl : ∀ r ∈ M.2.2.2.2.2, LinkOk Z a0 CT MT M.1.cls M.1.name M.2.2.2.1 r) : MOk Z a0 CT MT M :=
  ⟨hp, fun r hr => ⟨of_decide_eq_true (List.all_eq_true.mp hd r hr), hl r hr⟩⟩
theorem ctOk_of {Z : State} {a0 : Array Value} {CT : List CRow} (h : ∀ r ∈ CT, COk Z a0 r) : CTOk Z a0 CT := fun _ r hr => h r (nth_mem hr)
theorem mtOk_of {Z : State} {a0 : Array Value} {CT : List CRow} {MT : List MRow} (h : ∀ M ∈ MT, MOk Z a0 CT MT M) : ∀ k M, nth MT k = some M → MOk Z a0 CT MT M := fun _ M hM => h M (nth_mem hM)
theorem cOk_of {Z : State} {a0 : Array Value} {C : String} {n : Nat} {fs : List FRow} (h1 : (Cond.instantiable C n).before a0 Z = true) (h2 : (Cond.initialized C).before a0 Z = true)
    (h3 : ∀ f ∈ fs, (cond f.2.2.2 ((Cond.laysFinal C C f.1 f.2.1).before a0 Z) ((Cond.lays C C f.1 f.2.1).before a0 Z)) = true ∧ parseFieldDescriptor f.2.1 = some f.2.2.1 ∧ okTy f.2.2.1 = true) (h4 : (fs.map fun f => f.1).Nodup) : COk Z a0 (C, n, fs) := by
  refine ⟨h1, h2, fun i f hf => h3 f (nth_mem hf), fun i j f g ne hf hg e => ne ?_⟩
  have e1 : (fs.map fun f => f.1)[i]? = some f.1 := by rw [List.getElem?_map, ← nth_eq, hf]; rfl
  have e2 : (fs.map fun f => f.1)[j]? = some g.1 := by rw [List.getElem?_map, ← nth_eq, hg]; rfl
  obtain ⟨l1, e1'⟩ := List.getElem?_eq_some_iff.mp e1
  obtain ⟨l2, e2'⟩ := List.getElem?_eq_some_iff.mp e2
  exact (List.getElem_inj h4).mp (e1'.trans (e.trans e2'.symm))
/-! ### plain facts -/
theorem maskI (x m : Int32) : ∃ n : Nat, n ≤ m.toBitVec.toNat ∧ (x &&& m) = Int32.ofNat n := by
  refine ⟨(x &&& m).toBitVec.toNat, ?_, ?_⟩
  · simp only [Int32.toBitVec_and, BitVec.toNat_and]
    exact Nat.and_le_right
  · apply Int32.toBitVec_inj.mp
    show _ = BitVec.ofNat 32 _
    rw [BitVec.ofNat_toNat]; simp
theorem and3 (x : Int32) : x &&& 3 = 0 ∨ x &&& 3 = 1 ∨ x &&& 3 = 2 ∨ x &&& 3 = 3 := by
  obtain ⟨n, hn, e⟩ := maskI x 3
  have hn : n ≤ 3 := hn
  rw [e]
  have : n = 0 ∨ n = 1 ∨ n = 2 ∨ n = 3 := by omega
  rcases this with rfl | rfl | rfl | rfl
  · exact Or.inl rfl
  · exact Or.inr (Or.inl rfl)
  · exact Or.inr (Or.inr (Or.inl rfl))
  · exact Or.inr (Or.inr (Or.inr rfl))
theorem and1 (x : Int32) : x &&& 1 = 0 ∨ x &&& 1 = 1 := and_one x
/-- a fact on terms, given -/
def TFact (A : Array Value) (Z : State) (q : Term × Term) : Prop := q.2.closed = true ∧ ∃ v, q.1.eval A Z none [] Z = some v ∧ q.2.eval A Z none [] Z = some v
def BFact (A : Array Value) (Z : State) (q : CFact) : Prop := ∃ x y : Int32, q.2.1.eval A Z none [] Z = some (.int x) ∧ q.2.2.1.eval A Z none [] Z = some (.int y) ∧ if_icmp.holds q.1 x y = q.2.2.2
theorem all0 {α : Type} {P : α → Prop} : ∀ q ∈ ([] : List α), P q := fun _ h => nomatch h
theorem allC {α : Type} {P : α → Prop} {a : α} {L : List α} (h : P a) (t : ∀ q ∈ L, P q) : ∀ q ∈ a :: L, P q := List.forall_mem_cons.mpr ⟨h, t⟩
theorem tInt {A : Array Value} {Z : State} {t : Term} {x y : Int32} (h : t.eval A Z none [] Z = some (.int x)) (e : x = y) : TFact A Z (t, .int y) := ⟨rfl, .int x, h, by rw [e]; rfl⟩
theorem tTerm {A : Array Value} {Z : State} {t u : Term} {v w : Value} (h : t.eval A Z none [] Z = some v) (k : u.eval A Z none [] Z = some w) (hc : u.closed = true) (e : v = w) : TFact A Z (t, u) := ⟨hc, v, h, by rw [e]; exact k⟩
section Evals
variable {A : Array Value} {Z : State} {a b : Term}
theorem evLadd {x y : Int64} (h : a.eval A Z none [] Z = some (.long x)) (k : b.eval A Z none [] Z = some (.long y)) : (Term.op2 .ladd a b).eval A Z none [] Z = some (.long (x + y)) := by simp [Term.eval, h, k, Binary.apply]
theorem evLsub {x y : Int64} (h : a.eval A Z none [] Z = some (.long x)) (k : b.eval A Z none [] Z = some (.long y)) : (Term.op2 .lsub a b).eval A Z none [] Z = some (.long (x - y)) := by simp [Term.eval, h, k, Binary.apply]
theorem evLmul {x y : Int64} (h : a.eval A Z none [] Z = some (.long x)) (k : b.eval A Z none [] Z = some (.long y)) : (Term.op2 .lmul a b).eval A Z none [] Z = some (.long (x * y)) := by simp [Term.eval, h, k, Binary.apply]
theorem evLcmp {x y : Int64} (h : a.eval A Z none [] Z = some (.long x)) (k : b.eval A Z none [] Z = some (.long y)) : (Term.op2 .lcmp a b).eval A Z none [] Z = some (.int (lcmpV x y)) := by simp [Term.eval, h, k, Binary.apply, lcmpV]
theorem evL2i {x : Int64} (h : a.eval A Z none [] Z = some (.long x)) : (Term.op1 .l2i a).eval A Z none [] Z = some (.int x.toInt32) := by simp [Term.eval, h, Unary.apply]
theorem evI2l {x : Int32} (h : a.eval A Z none [] Z = some (.int x)) : (Term.op1 .i2l a).eval A Z none [] Z = some (.long x.toInt64) := by simp [Term.eval, h, Unary.apply]
theorem evIadd {x y : Int32} (h : a.eval A Z none [] Z = some (.int x)) (k : b.eval A Z none [] Z = some (.int y)) : (Term.add a b).eval A Z none [] Z = some (.int (x + y)) := by simp [Term.eval, h, k]
theorem evIsub {x y : Int32} (h : a.eval A Z none [] Z = some (.int x)) (k : b.eval A Z none [] Z = some (.int y)) : (Term.sub a b).eval A Z none [] Z = some (.int (x - y)) := by simp [Term.eval, h, k]
theorem evIand {x y : Int32} (h : a.eval A Z none [] Z = some (.int x)) (k : b.eval A Z none [] Z = some (.int y)) : (Term.op2 .iand a b).eval A Z none [] Z = some (.int (x &&& y)) := by simp [Term.eval, h, k, Binary.apply]
theorem evIrem {x y : Int32} (h : a.eval A Z none [] Z = some (.int x)) (k : b.eval A Z none [] Z = some (.int y)) (hy : y ≠ 0) : (Term.rem a b).eval A Z none [] Z = some (.int (x % y)) := by simp [Term.eval, h, k, hy]
theorem evLrem {x y : Int64} (h : a.eval A Z none [] Z = some (.long x)) (k : b.eval A Z none [] Z = some (.long y)) (hy : y ≠ 0) : (Term.op2 .lrem a b).eval A Z none [] Z = some (.long (x - (x / y) * y)) := by simp [Term.eval, h, k, hy, Binary.apply]
theorem lcmp_self (x : Int64) : lcmpV x x = 0 := (lc_eq x x).mpr rfl
theorem bCmp {c : ClassFile.Cond} {x y : Int32} {v : Bool} (h : a.eval A Z none [] Z = some (.int x)) (k : b.eval A Z none [] Z = some (.int y)) (e : if_icmp.holds c x y = v) : BFact A Z (c, a, b, v) := ⟨x, y, h, k, e⟩
theorem tCmp0 {x y : Int64} (h : a.eval A Z none [] Z = some (.long x)) (k : b.eval A Z none [] Z = some (.long y)) (e : x = y) : TFact A Z (.op2 .lcmp a b, .int 0) := tInt (evLcmp h k) (by rw [e]; exact lcmp_self y)
end Evals
/-- did it end in 1 -/
def isOne : Option Out → Bool
  | some (some x, _, _, _) => decide (x = ⟨.int 1, .int⟩)
  | _ => false
theorem isOne_spec {o : Option Out} (h : isOne o = true) : ∃ H c s, o = some (some ⟨.int 1, .int⟩, H, c, s) := by
  unfold isOne at h
  split at h
  · rename_i x H c s
    have q := of_decide_eq_true h
    subst q
    exact ⟨H, c, s, rfl⟩
  · cases h
end Jvm.OwnEv
namespace Jvm.Pilot.@@N@@
open Jvm Jvm.ClassFile Sem Op Lib Jvm.Free Jvm.Stand Jvm.LawKit Jvm.RoadKit Bundle Jvm.Sym Jvm.OwnEv Jvm.Pilot.@@N@@.Jvm.D
/-! ## The world of this claim: classes, methods, their rows and facts (printed by a program out of the statement) -/
def own_CT : List Jvm.OwnEv.CRow := [("com/example/chain_to_verdict/chaintoverdict/DerReader", 3, [("der", "[B", (.array .byte), true), ("position", "I", .int, false), ("end", "I", .int, true)]), ("com/example/chain_to_verdict/chaintoverdict/DerReader$Header", 5, [("identifier", "I", .int, true), ("tagNumber", "I", .int, true), ("offset", "I", .int, true), ("contentStart", "I", .int, true), ("contentEnd", "I", .int, true)])]
def own_r0 : List Jvm.OwnEv.Row := [(0, .iload_n 3, 1, 0, 0, 0, .null, .int),
  (1, .iconst 1, 1, 1, 0, 0, .null, .int),
  (2, .iushr, 1, 3, 0, 0, .null, .int),
  (3, .iconst 3, 1, 1, 0, 0, .null, .int),
  (4, .iand, 1, 3, 0, 0, .null, .int),
  (5, .istore 4, 2, 5, 0, 0, .null, .int),
  (7, .iload 4, 2, 0, 0, 0, .null, .int),
  (9, .newarray .byte, 2, 15, 0, 0, .null, .int),
  (11, .astore 5, 2, 5, 0, 0, .null, .int),
  (13, .iload 4, 2, 0, 0, 0, .null, .int),
  (15, .ifCond .le 9, 3, 4, 24, 0, .null, .int),
  (18, .aload 5, 2, 0, 0, 0, .null, .int),
  (20, .iconst 0, 1, 1, 0, 0, .null, .int),
  (21, .iload_n 0, 1, 0, 0, 0, .null, .int),
  (22, .i2b, 1, 3, 0, 0, .null, .int),
  (23, .bastore, 1, 11, 0, 0, .null, .int),
  (24, .iload 4, 2, 0, 0, 0, .null, .int),
  (26, .iconst 1, 1, 1, 0, 0, .null, .int),
  (27, .if_icmp .le 9, 3, 4, 36, 0, .null, .int),
  (30, .aload 5, 2, 0, 0, 0, .null, .int),
  (32, .iconst 1, 1, 1, 0, 0, .null, .int),
  (33, .iload_n 1, 1, 0, 0, 0, .null, .int),
  (34, .i2b, 1, 3, 0, 0, .null, .int),
  (35, .bastore, 1, 11, 0, 0, .null, .int),
  (36, .iload 4, 2, 0, 0, 0, .null, .int),
  (38, .iconst 2, 1, 1, 0, 0, .null, .int),
  (39, .if_icmp .le 9, 3, 4, 48, 0, .null, .int),
  (42, .aload 5, 2, 0, 0, 0, .null, .int),
  (44, .iconst 2, 1, 1, 0, 0, .null, .int),
  (45, .iload_n 1, 1, 0, 0, 0, .null, .int),
  (46, .i2b, 1, 3, 0, 0, .null, .int),
  (47, .bastore, 1, 11, 0, 0, .null, .int),
  (48, .new 7, 3, 14, 0, 0, .null, .int),
  (51, .dup, 1, 8, 0, 0, .null, .int),
  (52, .aload 5, 2, 0, 0, 0, .null, .int),
  (54, .invokespecial 9, 3, 41, 1, 0, .null, .int),
  (57, .astore 6, 2, 5, 0, 0, .null, .int),
  (59, .aload 6, 2, 0, 0, 0, .null, .int),
  (61, .iload_n 2, 1, 0, 0, 0, .null, .int),
  (62, .invokevirtual 12, 3, 42, 3, 0, .null, .int),
  (65, .iload 4, 2, 0, 0, 0, .null, .int),
  (67, .ifCond .le 16, 3, 4, 83, 0, .null, .int),
  (70, .iload_n 0, 1, 0, 0, 0, .null, .int),
  (71, .sipush 255, 3, 1, 0, 0, .null, .int),
  (74, .iand, 1, 3, 0, 0, .null, .int),
  (75, .iload_n 2, 1, 0, 0, 0, .null, .int),
  (76, .if_icmp .ne 7, 3, 4, 83, 0, .null, .int),
  (79, .iconst 1, 1, 1, 0, 0, .null, .int),
  (80, .goto 4, 3, 7, 84, 0, .null, .int),
  (83, .iconst 0, 1, 1, 0, 0, .null, .int),
  (84, .if_icmp .ne 7, 3, 4, 91, 0, .null, .int),
  (87, .iconst 1, 1, 1, 0, 0, .null, .int),
  (88, .goto 4, 3, 7, 92, 0, .null, .int),
  (91, .iconst 0, 1, 1, 0, 0, .null, .int),
  (92, .istore 7, 2, 5, 0, 0, .null, .int),
  (94, .iload_n 3, 1, 0, 0, 0, .null, .int),
  (95, .iconst 1, 1, 1, 0, 0, .null, .int),
  (96, .iand, 1, 3, 0, 0, .null, .int),
  (97, .istore 8, 2, 5, 0, 0, .null, .int),
  (99, .iconst 4, 1, 1, 0, 0, .null, .int),
  (100, .newarray .byte, 2, 15, 0, 0, .null, .int),
  (102, .dup, 1, 8, 0, 0, .null, .int),
  (103, .iconst 0, 1, 1, 0, 0, .null, .int),
  (104, .bipush 48, 2, 1, 0, 0, .null, .int),
  (106, .bastore, 1, 11, 0, 0, .null, .int),
  (107, .dup, 1, 8, 0, 0, .null, .int),
  (108, .iconst 1, 1, 1, 0, 0, .null, .int),
  (109, .iload 8, 2, 0, 0, 0, .null, .int),
  (111, .i2b, 1, 3, 0, 0, .null, .int),
  (112, .bastore, 1, 11, 0, 0, .null, .int),
  (113, .dup, 1, 8, 0, 0, .null, .int),
  (114, .iconst 2, 1, 1, 0, 0, .null, .int),
  (115, .iload_n 0, 1, 0, 0, 0, .null, .int),
  (116, .i2b, 1, 3, 0, 0, .null, .int),
  (117, .bastore, 1, 11, 0, 0, .null, .int),
  (118, .dup, 1, 8, 0, 0, .null, .int),
  (119, .iconst 3, 1, 1, 0, 0, .null, .int),
  (120, .iload_n 1, 1, 0, 0, 0, .null, .int),
  (121, .i2b, 1, 3, 0, 0, .null, .int),
  (122, .bastore, 1, 11, 0, 0, .null, .int),
  (123, .astore 9, 2, 5, 0, 0, .null, .int),
  (125, .new 7, 3, 14, 0, 0, .null, .int),
  (128, .dup, 1, 8, 0, 0, .null, .int),
  (129, .aload 9, 2, 0, 0, 0, .null, .int),
  (131, .invokespecial 9, 3, 41, 1, 0, .null, .int),
  (134, .astore 10, 2, 5, 0, 0, .null, .int),
  (136, .aload 10, 2, 0, 0, 0, .null, .int),
  (138, .iload_n 2, 1, 0, 0, 0, .null, .int),
  (139, .invokevirtual 12, 3, 42, 3, 0, .null, .int),
  (142, .iload_n 2, 1, 0, 0, 0, .null, .int),
  (143, .bipush 48, 2, 1, 0, 0, .null, .int),
  (145, .if_icmp .ne 7, 3, 4, 152, 0, .null, .int),
  (148, .iconst 1, 1, 1, 0, 0, .null, .int),
  (149, .goto 4, 3, 7, 153, 0, .null, .int),
  (152, .iconst 0, 1, 1, 0, 0, .null, .int),
  (153, .if_icmp .ne 7, 3, 4, 160, 0, .null, .int),
  (156, .iconst 1, 1, 1, 0, 0, .null, .int),
  (157, .goto 4, 3, 7, 161, 0, .null, .int),
  (160, .iconst 0, 1, 1, 0, 0, .null, .int),
  (161, .istore 11, 2, 5, 0, 0, .null, .int),
  (163, .aload 10, 2, 0, 0, 0, .null, .int),
  (165, .ldc 16, 2, 39, 4, 0, .null, .int),
  (167, .invokevirtual 18, 3, 42, 4, 0, .null, .int),
  (170, .astore 12, 2, 5, 0, 0, .null, .int),
  (172, .aload 12, 2, 0, 0, 0, .null, .int),
  (174, .iload_n 2, 1, 0, 0, 0, .null, .int),
  (175, .invokevirtual 12, 3, 42, 3, 0, .null, .int),
  (178, .iload 8, 2, 0, 0, 0, .null, .int),
  (180, .iconst 1, 1, 1, 0, 0, .null, .int),
  (181, .if_icmp .ne 16, 3, 4, 197, 0, .null, .int),
  (184, .iload_n 0, 1, 0, 0, 0, .null, .int),
  (185, .sipush 255, 3, 1, 0, 0, .null, .int),
  (188, .iand, 1, 3, 0, 0, .null, .int),
  (189, .iload_n 2, 1, 0, 0, 0, .null, .int),
  (190, .if_icmp .ne 7, 3, 4, 197, 0, .null, .int),
  (193, .iconst 1, 1, 1, 0, 0, .null, .int),
  (194, .goto 4, 3, 7, 198, 0, .null, .int),
  (197, .iconst 0, 1, 1, 0, 0, .null, .int),
  (198, .if_icmp .ne 7, 3, 4, 205, 0, .null, .int),
  (201, .iconst 1, 1, 1, 0, 0, .null, .int),
  (202, .goto 4, 3, 7, 206, 0, .null, .int),
  (205, .iconst 0, 1, 1, 0, 0, .null, .int),
  (206, .istore 13, 2, 5, 0, 0, .null, .int),
  (208, .iload 8, 2, 0, 0, 0, .null, .int),
  (210, .iconst 1, 1, 1, 0, 0, .null, .int),
  (211, .if_icmp .ne 7, 3, 4, 218, 0, .null, .int),
  (214, .iload_n 1, 1, 0, 0, 0, .null, .int),
  (215, .goto 4, 3, 7, 219, 0, .null, .int),
  (218, .iload_n 0, 1, 0, 0, 0, .null, .int),
  (219, .istore 14, 2, 5, 0, 0, .null, .int),
  (221, .aload 10, 2, 0, 0, 0, .null, .int),
  (223, .iload_n 2, 1, 0, 0, 0, .null, .int),
  (224, .invokevirtual 12, 3, 42, 3, 0, .null, .int),
  (227, .iload 14, 2, 0, 0, 0, .null, .int),
  (229, .sipush 255, 3, 1, 0, 0, .null, .int),
  (232, .iand, 1, 3, 0, 0, .null, .int),
  (233, .iload_n 2, 1, 0, 0, 0, .null, .int),
  (234, .if_icmp .ne 7, 3, 4, 241, 0, .null, .int),
  (237, .iconst 1, 1, 1, 0, 0, .null, .int),
  (238, .goto 4, 3, 7, 242, 0, .null, .int),
  (241, .iconst 0, 1, 1, 0, 0, .null, .int),
  (242, .if_icmp .ne 7, 3, 4, 249, 0, .null, .int),
  (245, .iconst 1, 1, 1, 0, 0, .null, .int),
  (246, .goto 4, 3, 7, 250, 0, .null, .int),
  (249, .iconst 0, 1, 1, 0, 0, .null, .int),
  (250, .istore 15, 2, 5, 0, 0, .null, .int),
  (252, .iload 7, 2, 0, 0, 0, .null, .int),
  (254, .ifCond .eq 22, 3, 4, 276, 0, .null, .int),
  (257, .iload 11, 2, 0, 0, 0, .null, .int),
  (259, .ifCond .eq 17, 3, 4, 276, 0, .null, .int),
  (262, .iload 13, 2, 0, 0, 0, .null, .int),
  (264, .ifCond .eq 12, 3, 4, 276, 0, .null, .int),
  (267, .iload 15, 2, 0, 0, 0, .null, .int),
  (269, .ifCond .eq 7, 3, 4, 276, 0, .null, .int),
  (272, .iconst 1, 1, 1, 0, 0, .null, .int),
  (273, .goto 4, 3, 7, 277, 0, .null, .int),
  (276, .iconst 0, 1, 1, 0, 0, .null, .int),
  (277, .ireturn, 1, 32, 0, 0, .null, .int)]
def own_m0 : Jvm.OwnEv.MRow := (x, code, 16, (some .boolean), 4, own_r0)
def own_r1 : List Jvm.OwnEv.Row := [(0, .aload_n 0, 1, 0, 0, 0, .null, .int),
  (1, .aload_n 1, 1, 0, 0, 0, .null, .int),
  (2, .iconst 0, 1, 1, 0, 0, .null, .int),
  (3, .aload_n 1, 1, 0, 0, 0, .null, .int),
  (4, .arraylength, 1, 12, 0, 0, .null, .int),
  (5, .invokespecial 3, 3, 41, 2, 0, .null, .int),
  (8, .return_, 1, 30, 0, 0, .null, .int)]
def own_m1 : Jvm.OwnEv.MRow := ((⟨"com/example/chain_to_verdict/chaintoverdict/DerReader", "<init>", "([B)V"⟩ : MethodName), prog_14_method_1_code, 2, none, 1, own_r1)
def own_r2 : List Jvm.OwnEv.Row := [(0, .aload_n 0, 1, 0, 0, 0, .null, .int),
  (1, .invokespecial 9, 3, 16, 0, 0, .null, .int),
  (4, .aload_n 0, 1, 0, 0, 0, .null, .int),
  (5, .aload_n 1, 1, 0, 0, 0, .null, .int),
  (6, .putfield 14, 3, 10, 0, 0, .null, (.array .byte)),
  (9, .aload_n 0, 1, 0, 0, 0, .null, .int),
  (10, .iload_n 2, 1, 0, 0, 0, .null, .int),
  (11, .putfield 18, 3, 10, 0, 1, .null, .int),
  (14, .aload_n 0, 1, 0, 0, 0, .null, .int),
  (15, .iload_n 3, 1, 0, 0, 0, .null, .int),
  (16, .putfield 22, 3, 10, 0, 2, .null, .int),
  (19, .return_, 1, 30, 0, 0, .null, .int)]
def own_m2 : Jvm.OwnEv.MRow := ((⟨"com/example/chain_to_verdict/chaintoverdict/DerReader", "<init>", "([BII)V"⟩ : MethodName), prog_14_method_2_code, 4, none, 3, own_r2)
def own_r3 : List Jvm.OwnEv.Row := [(0, .aload_n 0, 1, 0, 0, 0, .null, .int),
  (1, .getfield 18, 3, 2, 0, 1, .null, .int),
  (4, .aload_n 0, 1, 0, 0, 0, .null, .int),
  (5, .getfield 22, 3, 2, 0, 2, .null, .int),
  (8, .if_icmp .ge 24, 3, 4, 32, 0, .null, .int),
  (11, .aload_n 0, 1, 0, 0, 0, .null, .int),
  (12, .getfield 14, 3, 2, 0, 0, .null, .int),
  (15, .aload_n 0, 1, 0, 0, 0, .null, .int),
  (16, .getfield 18, 3, 2, 0, 1, .null, .int),
  (19, .baload, 1, 6, 0, 0, .null, .int),
  (20, .sipush 255, 3, 1, 0, 0, .null, .int),
  (23, .iand, 1, 3, 0, 0, .null, .int),
  (24, .iload_n 1, 1, 0, 0, 0, .null, .int),
  (25, .if_icmp .ne 7, 3, 4, 32, 0, .null, .int),
  (28, .iconst 1, 1, 1, 0, 0, .null, .int),
  (29, .goto 4, 3, 7, 33, 0, .null, .int),
  (32, .iconst 0, 1, 1, 0, 0, .null, .int),
  (33, .ireturn, 1, 32, 0, 0, .null, .int)]
def own_m3 : Jvm.OwnEv.MRow := ((⟨"com/example/chain_to_verdict/chaintoverdict/DerReader", "nextIs", "(I)Z"⟩ : MethodName), prog_14_method_4_code, 2, (some .boolean), 1, own_r3)
def own_r4 : List Jvm.OwnEv.Row := [(0, .aload_n 0, 1, 0, 0, 0, .null, .int),
  (1, .aload_n 0, 1, 0, 0, 0, .null, .int),
  (2, .bipush 48, 2, 1, 0, 0, .null, .int),
  (4, .aload_n 1, 1, 0, 0, 0, .null, .int),
  (5, .invokevirtual 31, 3, 43, 5, 0, .null, .int),
  (8, .invokevirtual 35, 3, 43, 10, 0, .null, .int),
  (11, .areturn, 1, 34, 0, 0, .null, .int)]
def own_m4 : Jvm.OwnEv.MRow := ((⟨"com/example/chain_to_verdict/chaintoverdict/DerReader", "readSequence", "(Ljava/lang/String;)Lcom/example/chain_to_verdict/chaintoverdict/DerReader;"⟩ : MethodName), prog_14_method_7_code, 2, (some (.object "com/example/chain_to_verdict/chaintoverdict/DerReader")), 1, own_r4)
def own_r5 : List Jvm.OwnEv.Row := [(0, .aload_n 0, 1, 0, 0, 0, .null, .int),
  (1, .aload_n 2, 1, 0, 0, 0, .null, .int),
  (2, .invokevirtual 109, 3, 43, 6, 0, .null, .int),
  (5, .astore_n 3, 1, 5, 0, 0, .null, .int),
  (6, .aload_n 3, 1, 0, 0, 0, .null, .int),
  (7, .getfield 113, 3, 21, 1, 0, .null, .int),
  (10, .iload_n 1, 1, 0, 0, 0, .null, .int),
  (11, .if_icmp .eq 36, 3, 4, 47, 0, .null, .int),
  (14, .aload_n 3, 1, 0, 0, 0, .null, .int),
  (18, .aload_n 2, 1, 0, 0, 0, .null, .int),
  (22, .iload_n 1, 1, 0, 0, 0, .null, .int),
  (34, .aload_n 3, 1, 0, 0, 0, .null, .int),
  (47, .aload_n 3, 1, 0, 0, 0, .null, .int),
  (48, .areturn, 1, 34, 0, 0, .null, .int)]
def own_m5 : Jvm.OwnEv.MRow := ((⟨"com/example/chain_to_verdict/chaintoverdict/DerReader", "expect", "(ILjava/lang/String;)Lcom/example/chain_to_verdict/chaintoverdict/DerReader$Header;"⟩ : MethodName), prog_14_method_22_code, 4, (some (.object "com/example/chain_to_verdict/chaintoverdict/DerReader$Header")), 2, own_r5)
def own_r6 : List Jvm.OwnEv.Row := [(0, .aload_n 0, 1, 0, 0, 0, .null, .int),
  (1, .getfield 18, 3, 2, 0, 1, .null, .int),
  (4, .istore_n 2, 1, 5, 0, 0, .null, .int),
  (5, .aload_n 0, 1, 0, 0, 0, .null, .int),
  (6, .getfield 18, 3, 2, 0, 1, .null, .int),
  (9, .aload_n 0, 1, 0, 0, 0, .null, .int),
  (10, .getfield 22, 3, 2, 0, 2, .null, .int),
  (13, .if_icmp .lt 11, 3, 4, 24, 0, .null, .int),
  (16, .iload_n 2, 1, 0, 0, 0, .null, .int),
  (17, .aload_n 1, 1, 0, 0, 0, .null, .int),
  (24, .aload_n 0, 1, 0, 0, 0, .null, .int),
  (25, .getfield 14, 3, 2, 0, 0, .null, .int),
  (28, .aload_n 0, 1, 0, 0, 0, .null, .int),
  (29, .dup, 1, 8, 0, 0, .null, .int),
  (30, .getfield 18, 3, 2, 0, 1, .null, .int),
  (33, .dup_x1, 1, 8, 0, 0, .null, .int),
  (34, .iconst 1, 1, 1, 0, 0, .null, .int),
  (35, .iadd, 1, 3, 0, 0, .null, .int),
  (36, .putfield 18, 3, 10, 0, 1, .null, .int),
  (39, .baload, 1, 6, 0, 0, .null, .int),
  (40, .sipush 255, 3, 1, 0, 0, .null, .int),
  (43, .iand, 1, 3, 0, 0, .null, .int),
  (44, .istore_n 3, 1, 5, 0, 0, .null, .int),
  (45, .iload_n 3, 1, 0, 0, 0, .null, .int),
  (46, .bipush 31, 2, 1, 0, 0, .null, .int),
  (48, .iand, 1, 3, 0, 0, .null, .int),
  (49, .istore 4, 2, 5, 0, 0, .null, .int),
  (51, .iload 4, 2, 0, 0, 0, .null, .int),
  (53, .bipush 31, 2, 1, 0, 0, .null, .int),
  (55, .if_icmp .ne 11, 3, 4, 66, 0, .null, .int),
  (58, .aload_n 0, 1, 0, 0, 0, .null, .int),
  (59, .iload_n 2, 1, 0, 0, 0, .null, .int),
  (60, .aload_n 1, 1, 0, 0, 0, .null, .int),
  (64, .istore 4, 2, 5, 0, 0, .null, .int),
  (66, .aload_n 0, 1, 0, 0, 0, .null, .int),
  (67, .iload_n 2, 1, 0, 0, 0, .null, .int),
  (68, .aload_n 1, 1, 0, 0, 0, .null, .int),
  (69, .invokevirtual 174, 3, 43, 7, 0, .null, .int),
  (72, .lstore 5, 2, 5, 0, 0, .null, .int),
  (74, .lload 5, 2, 0, 0, 0, .null, .int),
  (76, .aload_n 0, 1, 0, 0, 0, .null, .int),
  (77, .getfield 22, 3, 2, 0, 2, .null, .int),
  (80, .aload_n 0, 1, 0, 0, 0, .null, .int),
  (81, .getfield 18, 3, 2, 0, 1, .null, .int),
  (84, .isub, 1, 3, 0, 0, .null, .int),
  (85, .i2l, 1, 3, 0, 0, .null, .int),
  (86, .lcmp, 1, 3, 0, 0, .null, .int),
  (87, .ifCond .le 29, 3, 4, 116, 0, .null, .int),
  (90, .iload_n 2, 1, 0, 0, 0, .null, .int),
  (91, .aload_n 1, 1, 0, 0, 0, .null, .int),
  (92, .lload 5, 2, 0, 0, 0, .null, .int),
  (94, .lload 5, 2, 0, 0, 0, .null, .int),
  (96, .aload_n 0, 1, 0, 0, 0, .null, .int),
  (97, .getfield 22, 3, 2, 0, 2, .null, .int),
  (100, .aload_n 0, 1, 0, 0, 0, .null, .int),
  (101, .getfield 18, 3, 2, 0, 1, .null, .int),
  (104, .isub, 1, 3, 0, 0, .null, .int),
  (105, .i2l, 1, 3, 0, 0, .null, .int),
  (106, .lsub, 1, 3, 0, 0, .null, .int),
  (116, .aload_n 0, 1, 0, 0, 0, .null, .int),
  (117, .getfield 18, 3, 2, 0, 1, .null, .int),
  (120, .istore 7, 2, 5, 0, 0, .null, .int),
  (122, .aload_n 0, 1, 0, 0, 0, .null, .int),
  (123, .dup, 1, 8, 0, 0, .null, .int),
  (124, .getfield 18, 3, 2, 0, 1, .null, .int),
  (127, .lload 5, 2, 0, 0, 0, .null, .int),
  (129, .l2i, 1, 3, 0, 0, .null, .int),
  (130, .iadd, 1, 3, 0, 0, .null, .int),
  (131, .putfield 18, 3, 10, 0, 1, .null, .int),
  (134, .new 50, 3, 14, 1, 0, .null, .int),
  (137, .dup, 1, 8, 0, 0, .null, .int),
  (138, .iload_n 3, 1, 0, 0, 0, .null, .int),
  (139, .iload 4, 2, 0, 0, 0, .null, .int),
  (141, .iload_n 2, 1, 0, 0, 0, .null, .int),
  (142, .iload 7, 2, 0, 0, 0, .null, .int),
  (144, .aload_n 0, 1, 0, 0, 0, .null, .int),
  (145, .getfield 18, 3, 2, 0, 1, .null, .int),
  (148, .invokespecial 181, 3, 44, 8, 1, .null, .int),
  (151, .areturn, 1, 34, 0, 0, .null, .int)]
def own_m6 : Jvm.OwnEv.MRow := ((⟨"com/example/chain_to_verdict/chaintoverdict/DerReader", "readHeader", "(Ljava/lang/String;)Lcom/example/chain_to_verdict/chaintoverdict/DerReader$Header;"⟩ : MethodName), prog_14_method_23_code, 8, (some (.object "com/example/chain_to_verdict/chaintoverdict/DerReader$Header")), 1, own_r6)
def own_r7 : List Jvm.OwnEv.Row := [(0, .aload_n 0, 1, 0, 0, 0, .null, .int),
  (1, .getfield 18, 3, 2, 0, 1, .null, .int),
  (4, .aload_n 0, 1, 0, 0, 0, .null, .int),
  (5, .getfield 22, 3, 2, 0, 2, .null, .int),
  (8, .if_icmp .lt 11, 3, 4, 19, 0, .null, .int),
  (11, .iload_n 1, 1, 0, 0, 0, .null, .int),
  (12, .aload_n 2, 1, 0, 0, 0, .null, .int),
  (19, .aload_n 0, 1, 0, 0, 0, .null, .int),
  (20, .getfield 14, 3, 2, 0, 0, .null, .int),
  (23, .aload_n 0, 1, 0, 0, 0, .null, .int),
  (24, .dup, 1, 8, 0, 0, .null, .int),
  (25, .getfield 18, 3, 2, 0, 1, .null, .int),
  (28, .dup_x1, 1, 8, 0, 0, .null, .int),
  (29, .iconst 1, 1, 1, 0, 0, .null, .int),
  (30, .iadd, 1, 3, 0, 0, .null, .int),
  (31, .putfield 18, 3, 10, 0, 1, .null, .int),
  (34, .baload, 1, 6, 0, 0, .null, .int),
  (35, .sipush 255, 3, 1, 0, 0, .null, .int),
  (38, .iand, 1, 3, 0, 0, .null, .int),
  (39, .istore_n 3, 1, 5, 0, 0, .null, .int),
  (40, .iload_n 3, 1, 0, 0, 0, .null, .int),
  (41, .sipush 128, 3, 1, 0, 0, .null, .int),
  (44, .if_icmp .ge 10, 3, 4, 54, 0, .null, .int),
  (47, .iload_n 3, 1, 0, 0, 0, .null, .int),
  (48, .i2l, 1, 3, 0, 0, .null, .int),
  (49, .lstore 4, 2, 5, 0, 0, .null, .int),
  (51, .goto 142, 3, 7, 193, 0, .null, .int),
  (54, .iload_n 3, 1, 0, 0, 0, .null, .int),
  (55, .sipush 128, 3, 1, 0, 0, .null, .int),
  (58, .if_icmp .ne 11, 3, 4, 69, 0, .null, .int),
  (61, .iload_n 1, 1, 0, 0, 0, .null, .int),
  (62, .aload_n 2, 1, 0, 0, 0, .null, .int),
  (69, .iload_n 3, 1, 0, 0, 0, .null, .int),
  (70, .bipush 127, 2, 1, 0, 0, .null, .int),
  (72, .iand, 1, 3, 0, 0, .null, .int),
  (73, .istore 6, 2, 5, 0, 0, .null, .int),
  (75, .iload 6, 2, 0, 0, 0, .null, .int),
  (77, .iconst 4, 1, 1, 0, 0, .null, .int),
  (78, .if_icmp .gt 17, 3, 4, 95, 0, .null, .int),
  (81, .iload 6, 2, 0, 0, 0, .null, .int),
  (83, .aload_n 0, 1, 0, 0, 0, .null, .int),
  (84, .getfield 22, 3, 2, 0, 2, .null, .int),
  (87, .aload_n 0, 1, 0, 0, 0, .null, .int),
  (88, .getfield 18, 3, 2, 0, 1, .null, .int),
  (91, .isub, 1, 3, 0, 0, .null, .int),
  (92, .if_icmp .le 16, 3, 4, 108, 0, .null, .int),
  (95, .iload_n 1, 1, 0, 0, 0, .null, .int),
  (96, .aload_n 2, 1, 0, 0, 0, .null, .int),
  (97, .iload 6, 2, 0, 0, 0, .null, .int),
  (108, .lconst 0, 1, 1, 0, 0, .null, .int),
  (109, .lstore 4, 2, 5, 0, 0, .null, .int),
  (111, .iconst 0, 1, 1, 0, 0, .null, .int),
  (112, .istore 7, 2, 5, 0, 0, .null, .int),
  (114, .iload 7, 2, 0, 0, 0, .null, .int),
  (116, .iload 6, 2, 0, 0, 0, .null, .int),
  (118, .if_icmp .ge 38, 3, 4, 156, 0, .null, .int),
  (121, .lload 4, 2, 0, 0, 0, .null, .int),
  (123, .bipush 8, 2, 1, 0, 0, .null, .int),
  (125, .lshl, 1, 3, 0, 0, .null, .int),
  (126, .aload_n 0, 1, 0, 0, 0, .null, .int),
  (127, .getfield 14, 3, 2, 0, 0, .null, .int),
  (130, .aload_n 0, 1, 0, 0, 0, .null, .int),
  (131, .dup, 1, 8, 0, 0, .null, .int),
  (132, .getfield 18, 3, 2, 0, 1, .null, .int),
  (135, .dup_x1, 1, 8, 0, 0, .null, .int),
  (136, .iconst 1, 1, 1, 0, 0, .null, .int),
  (137, .iadd, 1, 3, 0, 0, .null, .int),
  (138, .putfield 18, 3, 10, 0, 1, .null, .int),
  (141, .baload, 1, 6, 0, 0, .null, .int),
  (142, .sipush 255, 3, 1, 0, 0, .null, .int),
  (145, .iand, 1, 3, 0, 0, .null, .int),
  (146, .i2l, 1, 3, 0, 0, .null, .int),
  (147, .lor, 1, 3, 0, 0, .null, .int),
  (148, .lstore 4, 2, 5, 0, 0, .null, .int),
  (150, .iinc 7 1, 3, 9, 0, 0, .null, .int),
  (153, .goto (-39), 3, 7, 114, 0, .null, .int),
  (156, .lload 4, 2, 0, 0, 0, .null, .int),
  (158, .ldc2_w 194, 3, 13, 0, 0, (.long 128), .int),
  (161, .lcmp, 1, 3, 0, 0, .null, .int),
  (162, .ifCond .lt 18, 3, 4, 180, 0, .null, .int),
  (165, .lload 4, 2, 0, 0, 0, .null, .int),
  (167, .bipush 8, 2, 1, 0, 0, .null, .int),
  (169, .iload 6, 2, 0, 0, 0, .null, .int),
  (171, .iconst 1, 1, 1, 0, 0, .null, .int),
  (172, .isub, 1, 3, 0, 0, .null, .int),
  (173, .imul, 1, 3, 0, 0, .null, .int),
  (174, .lushr, 1, 3, 0, 0, .null, .int),
  (175, .lconst 0, 1, 1, 0, 0, .null, .int),
  (176, .lcmp, 1, 3, 0, 0, .null, .int),
  (177, .ifCond .ne 16, 3, 4, 193, 0, .null, .int),
  (180, .iload_n 1, 1, 0, 0, 0, .null, .int),
  (181, .aload_n 2, 1, 0, 0, 0, .null, .int),
  (182, .lload 4, 2, 0, 0, 0, .null, .int),
  (193, .lload 4, 2, 0, 0, 0, .null, .int),
  (195, .lreturn, 1, 33, 0, 0, .null, .int)]
def own_m7 : Jvm.OwnEv.MRow := ((⟨"com/example/chain_to_verdict/chaintoverdict/DerReader", "readLength", "(ILjava/lang/String;)J"⟩ : MethodName), prog_14_method_25_code, 8, (some .long), 2, own_r7)
def own_r8 : List Jvm.OwnEv.Row := [(0, .aload_n 0, 1, 0, 0, 0, .null, .int),
  (1, .invokespecial 1, 3, 41, 9, 1, .null, .int),
  (4, .aload_n 0, 1, 0, 0, 0, .null, .int),
  (5, .iload_n 1, 1, 0, 0, 0, .null, .int),
  (6, .putfield 7, 3, 10, 1, 0, .null, .int),
  (9, .aload_n 0, 1, 0, 0, 0, .null, .int),
  (10, .iload_n 2, 1, 0, 0, 0, .null, .int),
  (11, .putfield 13, 3, 10, 1, 1, .null, .int),
  (14, .aload_n 0, 1, 0, 0, 0, .null, .int),
  (15, .iload_n 3, 1, 0, 0, 0, .null, .int),
  (16, .putfield 16, 3, 10, 1, 2, .null, .int),
  (19, .aload_n 0, 1, 0, 0, 0, .null, .int),
  (20, .iload 4, 2, 0, 0, 0, .null, .int),
  (22, .putfield 19, 3, 10, 1, 3, .null, .int),
  (25, .aload_n 0, 1, 0, 0, 0, .null, .int),
  (26, .iload 5, 2, 0, 0, 0, .null, .int),
  (28, .putfield 22, 3, 10, 1, 4, .null, .int),
  (31, .return_, 1, 30, 0, 0, .null, .int)]
def own_m8 : Jvm.OwnEv.MRow := ((⟨"com/example/chain_to_verdict/chaintoverdict/DerReader$Header", "<init>", "(IIIII)V"⟩ : MethodName), prog_15_method_1_code, 6, none, 5, own_r8)
def own_r9 : List Jvm.OwnEv.Row := [(0, .aload_n 0, 1, 0, 0, 0, .null, .int),
  (1, .invokespecial 1, 3, 16, 0, 0, .null, .int),
  (4, .return_, 1, 30, 0, 0, .null, .int)]
def own_m9 : Jvm.OwnEv.MRow := ((⟨"java/lang/Record", "<init>", "()V"⟩ : MethodName), jdk_30_method_1_code, 1, none, 0, own_r9)
def own_r10 : List Jvm.OwnEv.Row := [(0, .new 4, 3, 14, 0, 0, .null, .int),
  (3, .dup, 1, 8, 0, 0, .null, .int),
  (4, .aload_n 0, 1, 0, 0, 0, .null, .int),
  (5, .getfield 14, 3, 2, 0, 0, .null, .int),
  (8, .aload_n 1, 1, 0, 0, 0, .null, .int),
  (9, .getfield 49, 3, 21, 1, 3, .null, .int),
  (12, .aload_n 1, 1, 0, 0, 0, .null, .int),
  (13, .getfield 70, 3, 21, 1, 4, .null, .int),
  (16, .invokespecial 3, 3, 41, 2, 0, .null, .int),
  (19, .areturn, 1, 34, 0, 0, .null, .int)]
def own_m10 : Jvm.OwnEv.MRow := ((⟨"com/example/chain_to_verdict/chaintoverdict/DerReader", "contentReader", "(Lcom/example/chain_to_verdict/chaintoverdict/DerReader$Header;)Lcom/example/chain_to_verdict/chaintoverdict/DerReader;"⟩ : MethodName), prog_14_method_21_code, 2, (some (.object "com/example/chain_to_verdict/chaintoverdict/DerReader")), 1, own_r10)
def own_MT : List Jvm.OwnEv.MRow := [own_m0, own_m1, own_m2, own_m3, own_m4, own_m5, own_m6, own_m7, own_m8, own_m9, own_m10]
theorem own_d0 : own_r0.all (fun r => decide (decode code r.1 = .ok (r.2.1, r.2.2.1))) = true := by decide +kernel
theorem own_pn0 : plainFor own_m0.1 = true := by decide +kernel
theorem own_d1 : own_r1.all (fun r => decide (decode prog_14_method_1_code r.1 = .ok (r.2.1, r.2.2.1))) = true := by decide +kernel
theorem own_pd1 : parseMethodDescriptor "([B)V" = some ⟨[(.array .byte)], none⟩ := by decide +kernel
theorem own_pn1 : plainFor own_m1.1 = true := by decide +kernel
theorem own_d2 : own_r2.all (fun r => decide (decode prog_14_method_2_code r.1 = .ok (r.2.1, r.2.2.1))) = true := by decide +kernel
theorem own_pd2 : parseMethodDescriptor "([BII)V" = some ⟨[(.array .byte), .int, .int], none⟩ := by decide +kernel
theorem own_pn2 : plainFor own_m2.1 = true := by decide +kernel
theorem own_d3 : own_r3.all (fun r => decide (decode prog_14_method_4_code r.1 = .ok (r.2.1, r.2.2.1))) = true := by decide +kernel
theorem own_pd3 : parseMethodDescriptor "(I)Z" = some ⟨[.int], (some .boolean)⟩ := by decide +kernel
theorem own_pn3 : plainFor own_m3.1 = true := by decide +kernel
theorem own_d4 : own_r4.all (fun r => decide (decode prog_14_method_7_code r.1 = .ok (r.2.1, r.2.2.1))) = true := by decide +kernel
theorem own_pd4 : parseMethodDescriptor "(Ljava/lang/String;)Lcom/example/chain_to_verdict/chaintoverdict/DerReader;" = some ⟨[(.object "java/lang/String")], (some (.object "com/example/chain_to_verdict/chaintoverdict/DerReader"))⟩ := by decide +kernel
theorem own_pn4 : plainFor own_m4.1 = true := by decide +kernel
theorem own_d5 : own_r5.all (fun r => decide (decode prog_14_method_22_code r.1 = .ok (r.2.1, r.2.2.1))) = true := by decide +kernel
theorem own_pd5 : parseMethodDescriptor "(ILjava/lang/String;)Lcom/example/chain_to_verdict/chaintoverdict/DerReader$Header;" = some ⟨[.int, (.object "java/lang/String")], (some (.object "com/example/chain_to_verdict/chaintoverdict/DerReader$Header"))⟩ := by decide +kernel
theorem own_pn5 : plainFor own_m5.1 = true := by decide +kernel
theorem own_d6 : own_r6.all (fun r => decide (decode prog_14_method_23_code r.1 = .ok (r.2.1, r.2.2.1))) = true := by decide +kernel
theorem own_pd6 : parseMethodDescriptor "(Ljava/lang/String;)Lcom/example/chain_to_verdict/chaintoverdict/DerReader$Header;" = some ⟨[(.object "java/lang/String")], (some (.object "com/example/chain_to_verdict/chaintoverdict/DerReader$Header"))⟩ := by decide +kernel
theorem own_pn6 : plainFor own_m6.1 = true := by decide +kernel
theorem own_d7 : own_r7.all (fun r => decide (decode prog_14_method_25_code r.1 = .ok (r.2.1, r.2.2.1))) = true := by decide +kernel
theorem own_pd7 : parseMethodDescriptor "(ILjava/lang/String;)J" = some ⟨[.int, (.object "java/lang/String")], (some .long)⟩ := by decide +kernel
theorem own_pn7 : plainFor own_m7.1 = true := by decide +kernel
theorem own_d8 : own_r8.all (fun r => decide (decode prog_15_method_1_code r.1 = .ok (r.2.1, r.2.2.1))) = true := by decide +kernel
theorem own_pd8 : parseMethodDescriptor "(IIIII)V" = some ⟨[.int, .int, .int, .int, .int], none⟩ := by decide +kernel
theorem own_pn8 : plainFor own_m8.1 = true := by decide +kernel
theorem own_d9 : own_r9.all (fun r => decide (decode jdk_30_method_1_code r.1 = .ok (r.2.1, r.2.2.1))) = true := by decide +kernel
theorem own_pd9 : parseMethodDescriptor "()V" = some ⟨[], none⟩ := by decide +kernel
theorem own_pn9 : plainFor own_m9.1 = true := by decide +kernel
theorem own_d10 : own_r10.all (fun r => decide (decode prog_14_method_21_code r.1 = .ok (r.2.1, r.2.2.1))) = true := by decide +kernel
theorem own_pd10 : parseMethodDescriptor "(Lcom/example/chain_to_verdict/chaintoverdict/DerReader$Header;)Lcom/example/chain_to_verdict/chaintoverdict/DerReader;" = some ⟨[(.object "com/example/chain_to_verdict/chaintoverdict/DerReader$Header")], (some (.object "com/example/chain_to_verdict/chaintoverdict/DerReader"))⟩ := by decide +kernel
theorem own_pn10 : plainFor own_m10.1 = true := by decide +kernel
theorem own_sa (Z : State) (a0 : Array Value) (hw : ∀ d ∈ tables_1, d.before a0 Z = true) : ∀ d ∈ Bundle.stringAtoms, d.before a0 Z = true := by
  have w := fun (k : Nat) (d : Jvm.Cond) (h : tables_1[k]? = some d) => hw d (List.mem_of_getElem? h)
  intro d hd
  simp only [Bundle.stringAtoms, List.mem_cons, List.not_mem_nil, or_false] at hd
  rcases hd with rfl | rfl | rfl | rfl | rfl | rfl | rfl
  all_goals first | exact w 25 _ rfl | exact w 26 _ rfl | exact w 0 _ rfl | exact w 27 _ rfl | exact w 28 _ rfl | exact w 29 _ rfl | exact w 30 _ rfl
section Words
variable (Z : State) (a0 : Array Value) (hw : ∀ d ∈ tables_1, d.before a0 Z = true)
theorem own_c1 (Z : State) (a0 : Array Value) (hw : ∀ d ∈ tables_1, d.before a0 Z = true) : Callable Z a0 own_m1 := by
  have w := fun (k : Nat) (d : Jvm.Cond) (h : tables_1[k]? = some d) => hw d (List.mem_of_getElem? h)
  exact ⟨w 3 _ rfl, w 6 _ rfl, ⟨by decide, by decide⟩, _, _, own_pd1, rfl⟩
theorem own_c2 (Z : State) (a0 : Array Value) (hw : ∀ d ∈ tables_1, d.before a0 Z = true) : Callable Z a0 own_m2 := by
  have w := fun (k : Nat) (d : Jvm.Cond) (h : tables_1[k]? = some d) => hw d (List.mem_of_getElem? h)
  exact ⟨w 3 _ rfl, w 9 _ rfl, ⟨by decide, by decide⟩, _, _, own_pd2, rfl⟩
theorem own_c3 (Z : State) (a0 : Array Value) (hw : ∀ d ∈ tables_1, d.before a0 Z = true) : Callable Z a0 own_m3 := by
  have w := fun (k : Nat) (d : Jvm.Cond) (h : tables_1[k]? = some d) => hw d (List.mem_of_getElem? h)
  exact ⟨w 3 _ rfl, w 23 _ rfl, ⟨by decide, by decide⟩, _, _, own_pd3, rfl⟩
theorem own_c4 (Z : State) (a0 : Array Value) (hw : ∀ d ∈ tables_1, d.before a0 Z = true) : Callable Z a0 own_m4 := by
  have w := fun (k : Nat) (d : Jvm.Cond) (h : tables_1[k]? = some d) => hw d (List.mem_of_getElem? h)
  exact ⟨w 3 _ rfl, w 35 _ rfl, ⟨by decide, by decide⟩, _, _, own_pd4, rfl⟩
theorem own_c5 (Z : State) (a0 : Array Value) (hw : ∀ d ∈ tables_1, d.before a0 Z = true) : Callable Z a0 own_m5 := by
  have w := fun (k : Nat) (d : Jvm.Cond) (h : tables_1[k]? = some d) => hw d (List.mem_of_getElem? h)
  exact ⟨w 3 _ rfl, w 39 _ rfl, ⟨by decide, by decide⟩, _, _, own_pd5, rfl⟩
theorem own_c6 (Z : State) (a0 : Array Value) (hw : ∀ d ∈ tables_1, d.before a0 Z = true) : Callable Z a0 own_m6 := by
  have w := fun (k : Nat) (d : Jvm.Cond) (h : tables_1[k]? = some d) => hw d (List.mem_of_getElem? h)
  exact ⟨w 3 _ rfl, w 43 _ rfl, ⟨by decide, by decide⟩, _, _, own_pd6, rfl⟩
theorem own_c7 (Z : State) (a0 : Array Value) (hw : ∀ d ∈ tables_1, d.before a0 Z = true) : Callable Z a0 own_m7 := by
  have w := fun (k : Nat) (d : Jvm.Cond) (h : tables_1[k]? = some d) => hw d (List.mem_of_getElem? h)
  exact ⟨w 3 _ rfl, w 47 _ rfl, ⟨by decide, by decide⟩, _, _, own_pd7, rfl⟩
theorem own_c8 (Z : State) (a0 : Array Value) (hw : ∀ d ∈ tables_1, d.before a0 Z = true) : Callable Z a0 own_m8 := by
  have w := fun (k : Nat) (d : Jvm.Cond) (h : tables_1[k]? = some d) => hw d (List.mem_of_getElem? h)
  exact ⟨w 50 _ rfl, w 53 _ rfl, ⟨by decide, by decide⟩, _, _, own_pd8, rfl⟩
theorem own_c9 (Z : State) (a0 : Array Value) (hw : ∀ d ∈ tables_1, d.before a0 Z = true) : Callable Z a0 own_m9 := by
  have w := fun (k : Nat) (d : Jvm.Cond) (h : tables_1[k]? = some d) => hw d (List.mem_of_getElem? h)
  exact ⟨w 57 _ rfl, w 58 _ rfl, ⟨by decide, by decide⟩, _, _, own_pd9, rfl⟩
theorem own_c10 (Z : State) (a0 : Array Value) (hw : ∀ d ∈ tables_1, d.before a0 Z = true) : Callable Z a0 own_m10 := by
  have w := fun (k : Nat) (d : Jvm.Cond) (h : tables_1[k]? = some d) => hw d (List.mem_of_getElem? h)
  exact ⟨w 3 _ rfl, w 74 _ rfl, ⟨by decide, by decide⟩, _, _, own_pd10, rfl⟩
set_option maxRecDepth 65536 in
theorem own_ok0 (Z : State) (a0 : Array Value) (hw : ∀ d ∈ tables_1, d.before a0 Z = true) : MOk Z a0 own_CT own_MT own_m0 := by
  have w := fun (k : Nat) (d : Jvm.Cond) (h : tables_1[k]? = some d) => hw d (List.mem_of_getElem? h)
  refine mOk_of own_pn0 own_d0 ?_
  refine List.forall_mem_cons.mpr ⟨trivial, ?_⟩
  refine List.forall_mem_cons.mpr ⟨trivial, ?_⟩
  refine List.forall_mem_cons.mpr ⟨trivial, ?_⟩
  refine List.forall_mem_cons.mpr ⟨trivial, ?_⟩
  refine List.forall_mem_cons.mpr ⟨trivial, ?_⟩
  refine List.forall_mem_cons.mpr ⟨trivial, ?_⟩
  refine List.forall_mem_cons.mpr ⟨trivial, ?_⟩
  refine List.forall_mem_cons.mpr ⟨(⟨_, rfl, rfl, w 0 _ rfl⟩ : LinkOk Z a0 own_CT own_MT own_m0.1.cls own_m0.1.name own_m0.2.2.2.1 (9, .newarray .byte, 2, 15, 0, 0, .null, .int)), ?_⟩
  refine List.forall_mem_cons.mpr ⟨trivial, ?_⟩
  refine List.forall_mem_cons.mpr ⟨trivial, ?_⟩
  refine List.forall_mem_cons.mpr ⟨(⟨rfl, _, rfl, by decide, by decide⟩ : LinkOk Z a0 own_CT own_MT own_m0.1.cls own_m0.1.name own_m0.2.2.2.1 (15, .ifCond .le 9, 3, 4, 24, 0, .null, .int)), ?_⟩
  refine List.forall_mem_cons.mpr ⟨trivial, ?_⟩
  refine List.forall_mem_cons.mpr ⟨trivial, ?_⟩
  refine List.forall_mem_cons.mpr ⟨trivial, ?_⟩
  refine List.forall_mem_cons.mpr ⟨trivial, ?_⟩
  refine List.forall_mem_cons.mpr ⟨(rfl : LinkOk Z a0 own_CT own_MT own_m0.1.cls own_m0.1.name own_m0.2.2.2.1 (23, .bastore, 1, 11, 0, 0, .null, .int)), ?_⟩
  refine List.forall_mem_cons.mpr ⟨trivial, ?_⟩
  refine List.forall_mem_cons.mpr ⟨trivial, ?_⟩
  refine List.forall_mem_cons.mpr ⟨(⟨rfl, _, rfl, by decide, by decide⟩ : LinkOk Z a0 own_CT own_MT own_m0.1.cls own_m0.1.name own_m0.2.2.2.1 (27, .if_icmp .le 9, 3, 4, 36, 0, .null, .int)), ?_⟩
  refine List.forall_mem_cons.mpr ⟨trivial, ?_⟩
  refine List.forall_mem_cons.mpr ⟨trivial, ?_⟩
  refine List.forall_mem_cons.mpr ⟨trivial, ?_⟩
  refine List.forall_mem_cons.mpr ⟨trivial, ?_⟩
  refine List.forall_mem_cons.mpr ⟨(rfl : LinkOk Z a0 own_CT own_MT own_m0.1.cls own_m0.1.name own_m0.2.2.2.1 (35, .bastore, 1, 11, 0, 0, .null, .int)), ?_⟩
  refine List.forall_mem_cons.mpr ⟨trivial, ?_⟩
  refine List.forall_mem_cons.mpr ⟨trivial, ?_⟩
  refine List.forall_mem_cons.mpr ⟨(⟨rfl, _, rfl, by decide, by decide⟩ : LinkOk Z a0 own_CT own_MT own_m0.1.cls own_m0.1.name own_m0.2.2.2.1 (39, .if_icmp .le 9, 3, 4, 48, 0, .null, .int)), ?_⟩
  refine List.forall_mem_cons.mpr ⟨trivial, ?_⟩
  refine List.forall_mem_cons.mpr ⟨trivial, ?_⟩
  refine List.forall_mem_cons.mpr ⟨trivial, ?_⟩
  refine List.forall_mem_cons.mpr ⟨trivial, ?_⟩
  refine List.forall_mem_cons.mpr ⟨(rfl : LinkOk Z a0 own_CT own_MT own_m0.1.cls own_m0.1.name own_m0.2.2.2.1 (47, .bastore, 1, 11, 0, 0, .null, .int)), ?_⟩
  refine List.forall_mem_cons.mpr ⟨(⟨_, _, _, _, rfl, rfl, rfl, w 1 _ rfl⟩ : LinkOk Z a0 own_CT own_MT own_m0.1.cls own_m0.1.name own_m0.2.2.2.1 (48, .new 7, 3, 14, 0, 0, .null, .int)), ?_⟩
  refine List.forall_mem_cons.mpr ⟨trivial, ?_⟩
  refine List.forall_mem_cons.mpr ⟨trivial, ?_⟩
  refine List.forall_mem_cons.mpr ⟨(⟨_, _, rfl, rfl, rfl, own_c1 Z a0 hw, w 4 _ rfl, w 5 _ rfl, rfl, rfl⟩ : LinkOk Z a0 own_CT own_MT own_m0.1.cls own_m0.1.name own_m0.2.2.2.1 (54, .invokespecial 9, 3, 41, 1, 0, .null, .int)), ?_⟩
  refine List.forall_mem_cons.mpr ⟨trivial, ?_⟩
  refine List.forall_mem_cons.mpr ⟨trivial, ?_⟩
  refine List.forall_mem_cons.mpr ⟨trivial, ?_⟩
  refine List.forall_mem_cons.mpr ⟨(⟨_, _, _, _, _, rfl, rfl, rfl, own_c3 Z a0 hw, w 19 _ rfl, w 21 _ rfl, rfl, w 20 _ rfl, w 22 _ rfl⟩ : LinkOk Z a0 own_CT own_MT own_m0.1.cls own_m0.1.name own_m0.2.2.2.1 (62, .invokevirtual 12, 3, 42, 3, 0, .null, .int)), ?_⟩
  refine List.forall_mem_cons.mpr ⟨trivial, ?_⟩
  refine List.forall_mem_cons.mpr ⟨(⟨rfl, _, rfl, by decide, by decide⟩ : LinkOk Z a0 own_CT own_MT own_m0.1.cls own_m0.1.name own_m0.2.2.2.1 (67, .ifCond .le 16, 3, 4, 83, 0, .null, .int)), ?_⟩
  refine List.forall_mem_cons.mpr ⟨trivial, ?_⟩
  refine List.forall_mem_cons.mpr ⟨trivial, ?_⟩
  refine List.forall_mem_cons.mpr ⟨trivial, ?_⟩
  refine List.forall_mem_cons.mpr ⟨trivial, ?_⟩
  refine List.forall_mem_cons.mpr ⟨(⟨rfl, _, rfl, by decide, by decide⟩ : LinkOk Z a0 own_CT own_MT own_m0.1.cls own_m0.1.name own_m0.2.2.2.1 (76, .if_icmp .ne 7, 3, 4, 83, 0, .null, .int)), ?_⟩
  refine List.forall_mem_cons.mpr ⟨trivial, ?_⟩
  refine List.forall_mem_cons.mpr ⟨(⟨_, rfl, rfl, by decide, by decide⟩ : LinkOk Z a0 own_CT own_MT own_m0.1.cls own_m0.1.name own_m0.2.2.2.1 (80, .goto 4, 3, 7, 84, 0, .null, .int)), ?_⟩
  refine List.forall_mem_cons.mpr ⟨trivial, ?_⟩
  refine List.forall_mem_cons.mpr ⟨(⟨rfl, _, rfl, by decide, by decide⟩ : LinkOk Z a0 own_CT own_MT own_m0.1.cls own_m0.1.name own_m0.2.2.2.1 (84, .if_icmp .ne 7, 3, 4, 91, 0, .null, .int)), ?_⟩
  refine List.forall_mem_cons.mpr ⟨trivial, ?_⟩
  refine List.forall_mem_cons.mpr ⟨(⟨_, rfl, rfl, by decide, by decide⟩ : LinkOk Z a0 own_CT own_MT own_m0.1.cls own_m0.1.name own_m0.2.2.2.1 (88, .goto 4, 3, 7, 92, 0, .null, .int)), ?_⟩
  refine List.forall_mem_cons.mpr ⟨trivial, ?_⟩
  refine List.forall_mem_cons.mpr ⟨trivial, ?_⟩
  refine List.forall_mem_cons.mpr ⟨trivial, ?_⟩
  refine List.forall_mem_cons.mpr ⟨trivial, ?_⟩
  refine List.forall_mem_cons.mpr ⟨trivial, ?_⟩
  refine List.forall_mem_cons.mpr ⟨trivial, ?_⟩
  refine List.forall_mem_cons.mpr ⟨trivial, ?_⟩
  refine List.forall_mem_cons.mpr ⟨(⟨_, rfl, rfl, w 0 _ rfl⟩ : LinkOk Z a0 own_CT own_MT own_m0.1.cls own_m0.1.name own_m0.2.2.2.1 (100, .newarray .byte, 2, 15, 0, 0, .null, .int)), ?_⟩
  refine List.forall_mem_cons.mpr ⟨trivial, ?_⟩
  refine List.forall_mem_cons.mpr ⟨trivial, ?_⟩
  refine List.forall_mem_cons.mpr ⟨trivial, ?_⟩
  refine List.forall_mem_cons.mpr ⟨(rfl : LinkOk Z a0 own_CT own_MT own_m0.1.cls own_m0.1.name own_m0.2.2.2.1 (106, .bastore, 1, 11, 0, 0, .null, .int)), ?_⟩
  refine List.forall_mem_cons.mpr ⟨trivial, ?_⟩
  refine List.forall_mem_cons.mpr ⟨trivial, ?_⟩
  refine List.forall_mem_cons.mpr ⟨trivial, ?_⟩
  refine List.forall_mem_cons.mpr ⟨trivial, ?_⟩
  refine List.forall_mem_cons.mpr ⟨(rfl : LinkOk Z a0 own_CT own_MT own_m0.1.cls own_m0.1.name own_m0.2.2.2.1 (112, .bastore, 1, 11, 0, 0, .null, .int)), ?_⟩
  refine List.forall_mem_cons.mpr ⟨trivial, ?_⟩
  refine List.forall_mem_cons.mpr ⟨trivial, ?_⟩
  refine List.forall_mem_cons.mpr ⟨trivial, ?_⟩
  refine List.forall_mem_cons.mpr ⟨trivial, ?_⟩
  refine List.forall_mem_cons.mpr ⟨(rfl : LinkOk Z a0 own_CT own_MT own_m0.1.cls own_m0.1.name own_m0.2.2.2.1 (117, .bastore, 1, 11, 0, 0, .null, .int)), ?_⟩
  refine List.forall_mem_cons.mpr ⟨trivial, ?_⟩
  refine List.forall_mem_cons.mpr ⟨trivial, ?_⟩
  refine List.forall_mem_cons.mpr ⟨trivial, ?_⟩
  refine List.forall_mem_cons.mpr ⟨trivial, ?_⟩
  refine List.forall_mem_cons.mpr ⟨(rfl : LinkOk Z a0 own_CT own_MT own_m0.1.cls own_m0.1.name own_m0.2.2.2.1 (122, .bastore, 1, 11, 0, 0, .null, .int)), ?_⟩
  refine List.forall_mem_cons.mpr ⟨trivial, ?_⟩
  refine List.forall_mem_cons.mpr ⟨(⟨_, _, _, _, rfl, rfl, rfl, w 1 _ rfl⟩ : LinkOk Z a0 own_CT own_MT own_m0.1.cls own_m0.1.name own_m0.2.2.2.1 (125, .new 7, 3, 14, 0, 0, .null, .int)), ?_⟩
  refine List.forall_mem_cons.mpr ⟨trivial, ?_⟩
  refine List.forall_mem_cons.mpr ⟨trivial, ?_⟩
  refine List.forall_mem_cons.mpr ⟨(⟨_, _, rfl, rfl, rfl, own_c1 Z a0 hw, w 4 _ rfl, w 5 _ rfl, rfl, rfl⟩ : LinkOk Z a0 own_CT own_MT own_m0.1.cls own_m0.1.name own_m0.2.2.2.1 (131, .invokespecial 9, 3, 41, 1, 0, .null, .int)), ?_⟩
  refine List.forall_mem_cons.mpr ⟨trivial, ?_⟩
  refine List.forall_mem_cons.mpr ⟨trivial, ?_⟩
  refine List.forall_mem_cons.mpr ⟨trivial, ?_⟩
  refine List.forall_mem_cons.mpr ⟨(⟨_, _, _, _, _, rfl, rfl, rfl, own_c3 Z a0 hw, w 19 _ rfl, w 21 _ rfl, rfl, w 20 _ rfl, w 22 _ rfl⟩ : LinkOk Z a0 own_CT own_MT own_m0.1.cls own_m0.1.name own_m0.2.2.2.1 (139, .invokevirtual 12, 3, 42, 3, 0, .null, .int)), ?_⟩
  refine List.forall_mem_cons.mpr ⟨trivial, ?_⟩
  refine List.forall_mem_cons.mpr ⟨trivial, ?_⟩
  refine List.forall_mem_cons.mpr ⟨(⟨rfl, _, rfl, by decide, by decide⟩ : LinkOk Z a0 own_CT own_MT own_m0.1.cls own_m0.1.name own_m0.2.2.2.1 (145, .if_icmp .ne 7, 3, 4, 152, 0, .null, .int)), ?_⟩
  refine List.forall_mem_cons.mpr ⟨trivial, ?_⟩
  refine List.forall_mem_cons.mpr ⟨(⟨_, rfl, rfl, by decide, by decide⟩ : LinkOk Z a0 own_CT own_MT own_m0.1.cls own_m0.1.name own_m0.2.2.2.1 (149, .goto 4, 3, 7, 153, 0, .null, .int)), ?_⟩
  refine List.forall_mem_cons.mpr ⟨trivial, ?_⟩
  refine List.forall_mem_cons.mpr ⟨(⟨rfl, _, rfl, by decide, by decide⟩ : LinkOk Z a0 own_CT own_MT own_m0.1.cls own_m0.1.name own_m0.2.2.2.1 (153, .if_icmp .ne 7, 3, 4, 160, 0, .null, .int)), ?_⟩
  refine List.forall_mem_cons.mpr ⟨trivial, ?_⟩
  refine List.forall_mem_cons.mpr ⟨(⟨_, rfl, rfl, by decide, by decide⟩ : LinkOk Z a0 own_CT own_MT own_m0.1.cls own_m0.1.name own_m0.2.2.2.1 (157, .goto 4, 3, 7, 161, 0, .null, .int)), ?_⟩
  refine List.forall_mem_cons.mpr ⟨trivial, ?_⟩
  refine List.forall_mem_cons.mpr ⟨trivial, ?_⟩
  refine List.forall_mem_cons.mpr ⟨trivial, ?_⟩
  refine List.forall_mem_cons.mpr ⟨(⟨_, "s", Or.inl ⟨rfl, rfl⟩, by decide, w 24 _ rfl, own_sa Z a0 hw⟩ : LinkOk Z a0 own_CT own_MT own_m0.1.cls own_m0.1.name own_m0.2.2.2.1 (165, .ldc 16, 2, 39, 4, 0, .null, .int)), ?_⟩
  refine List.forall_mem_cons.mpr ⟨(⟨_, _, _, _, _, rfl, rfl, rfl, own_c4 Z a0 hw, w 31 _ rfl, w 33 _ rfl, rfl, w 32 _ rfl, w 34 _ rfl⟩ : LinkOk Z a0 own_CT own_MT own_m0.1.cls own_m0.1.name own_m0.2.2.2.1 (167, .invokevirtual 18, 3, 42, 4, 0, .null, .int)), ?_⟩
  refine List.forall_mem_cons.mpr ⟨trivial, ?_⟩
  refine List.forall_mem_cons.mpr ⟨trivial, ?_⟩
  refine List.forall_mem_cons.mpr ⟨trivial, ?_⟩
  refine List.forall_mem_cons.mpr ⟨(⟨_, _, _, _, _, rfl, rfl, rfl, own_c3 Z a0 hw, w 19 _ rfl, w 21 _ rfl, rfl, w 20 _ rfl, w 22 _ rfl⟩ : LinkOk Z a0 own_CT own_MT own_m0.1.cls own_m0.1.name own_m0.2.2.2.1 (175, .invokevirtual 12, 3, 42, 3, 0, .null, .int)), ?_⟩
  refine List.forall_mem_cons.mpr ⟨trivial, ?_⟩
  refine List.forall_mem_cons.mpr ⟨trivial, ?_⟩
  refine List.forall_mem_cons.mpr ⟨(⟨rfl, _, rfl, by decide, by decide⟩ : LinkOk Z a0 own_CT own_MT own_m0.1.cls own_m0.1.name own_m0.2.2.2.1 (181, .if_icmp .ne 16, 3, 4, 197, 0, .null, .int)), ?_⟩
  refine List.forall_mem_cons.mpr ⟨trivial, ?_⟩
  refine List.forall_mem_cons.mpr ⟨trivial, ?_⟩
  refine List.forall_mem_cons.mpr ⟨trivial, ?_⟩
  refine List.forall_mem_cons.mpr ⟨trivial, ?_⟩
  refine List.forall_mem_cons.mpr ⟨(⟨rfl, _, rfl, by decide, by decide⟩ : LinkOk Z a0 own_CT own_MT own_m0.1.cls own_m0.1.name own_m0.2.2.2.1 (190, .if_icmp .ne 7, 3, 4, 197, 0, .null, .int)), ?_⟩
  refine List.forall_mem_cons.mpr ⟨trivial, ?_⟩
  refine List.forall_mem_cons.mpr ⟨(⟨_, rfl, rfl, by decide, by decide⟩ : LinkOk Z a0 own_CT own_MT own_m0.1.cls own_m0.1.name own_m0.2.2.2.1 (194, .goto 4, 3, 7, 198, 0, .null, .int)), ?_⟩
  refine List.forall_mem_cons.mpr ⟨trivial, ?_⟩
  refine List.forall_mem_cons.mpr ⟨(⟨rfl, _, rfl, by decide, by decide⟩ : LinkOk Z a0 own_CT own_MT own_m0.1.cls own_m0.1.name own_m0.2.2.2.1 (198, .if_icmp .ne 7, 3, 4, 205, 0, .null, .int)), ?_⟩
  refine List.forall_mem_cons.mpr ⟨trivial, ?_⟩
  refine List.forall_mem_cons.mpr ⟨(⟨_, rfl, rfl, by decide, by decide⟩ : LinkOk Z a0 own_CT own_MT own_m0.1.cls own_m0.1.name own_m0.2.2.2.1 (202, .goto 4, 3, 7, 206, 0, .null, .int)), ?_⟩
  refine List.forall_mem_cons.mpr ⟨trivial, ?_⟩
  refine List.forall_mem_cons.mpr ⟨trivial, ?_⟩
  refine List.forall_mem_cons.mpr ⟨trivial, ?_⟩
  refine List.forall_mem_cons.mpr ⟨trivial, ?_⟩
  refine List.forall_mem_cons.mpr ⟨(⟨rfl, _, rfl, by decide, by decide⟩ : LinkOk Z a0 own_CT own_MT own_m0.1.cls own_m0.1.name own_m0.2.2.2.1 (211, .if_icmp .ne 7, 3, 4, 218, 0, .null, .int)), ?_⟩
  refine List.forall_mem_cons.mpr ⟨trivial, ?_⟩
  refine List.forall_mem_cons.mpr ⟨(⟨_, rfl, rfl, by decide, by decide⟩ : LinkOk Z a0 own_CT own_MT own_m0.1.cls own_m0.1.name own_m0.2.2.2.1 (215, .goto 4, 3, 7, 219, 0, .null, .int)), ?_⟩
  refine List.forall_mem_cons.mpr ⟨trivial, ?_⟩
  refine List.forall_mem_cons.mpr ⟨trivial, ?_⟩
  refine List.forall_mem_cons.mpr ⟨trivial, ?_⟩
  refine List.forall_mem_cons.mpr ⟨trivial, ?_⟩
  refine List.forall_mem_cons.mpr ⟨(⟨_, _, _, _, _, rfl, rfl, rfl, own_c3 Z a0 hw, w 19 _ rfl, w 21 _ rfl, rfl, w 20 _ rfl, w 22 _ rfl⟩ : LinkOk Z a0 own_CT own_MT own_m0.1.cls own_m0.1.name own_m0.2.2.2.1 (224, .invokevirtual 12, 3, 42, 3, 0, .null, .int)), ?_⟩
  refine List.forall_mem_cons.mpr ⟨trivial, ?_⟩
  refine List.forall_mem_cons.mpr ⟨trivial, ?_⟩
  refine List.forall_mem_cons.mpr ⟨trivial, ?_⟩
  refine List.forall_mem_cons.mpr ⟨trivial, ?_⟩
  refine List.forall_mem_cons.mpr ⟨(⟨rfl, _, rfl, by decide, by decide⟩ : LinkOk Z a0 own_CT own_MT own_m0.1.cls own_m0.1.name own_m0.2.2.2.1 (234, .if_icmp .ne 7, 3, 4, 241, 0, .null, .int)), ?_⟩
  refine List.forall_mem_cons.mpr ⟨trivial, ?_⟩
  refine List.forall_mem_cons.mpr ⟨(⟨_, rfl, rfl, by decide, by decide⟩ : LinkOk Z a0 own_CT own_MT own_m0.1.cls own_m0.1.name own_m0.2.2.2.1 (238, .goto 4, 3, 7, 242, 0, .null, .int)), ?_⟩
  refine List.forall_mem_cons.mpr ⟨trivial, ?_⟩
  refine List.forall_mem_cons.mpr ⟨(⟨rfl, _, rfl, by decide, by decide⟩ : LinkOk Z a0 own_CT own_MT own_m0.1.cls own_m0.1.name own_m0.2.2.2.1 (242, .if_icmp .ne 7, 3, 4, 249, 0, .null, .int)), ?_⟩
  refine List.forall_mem_cons.mpr ⟨trivial, ?_⟩
  refine List.forall_mem_cons.mpr ⟨(⟨_, rfl, rfl, by decide, by decide⟩ : LinkOk Z a0 own_CT own_MT own_m0.1.cls own_m0.1.name own_m0.2.2.2.1 (246, .goto 4, 3, 7, 250, 0, .null, .int)), ?_⟩
  refine List.forall_mem_cons.mpr ⟨trivial, ?_⟩
  refine List.forall_mem_cons.mpr ⟨trivial, ?_⟩
  refine List.forall_mem_cons.mpr ⟨trivial, ?_⟩
  refine List.forall_mem_cons.mpr ⟨(⟨rfl, _, rfl, by decide, by decide⟩ : LinkOk Z a0 own_CT own_MT own_m0.1.cls own_m0.1.name own_m0.2.2.2.1 (254, .ifCond .eq 22, 3, 4, 276, 0, .null, .int)), ?_⟩
  refine List.forall_mem_cons.mpr ⟨trivial, ?_⟩
  refine List.forall_mem_cons.mpr ⟨(⟨rfl, _, rfl, by decide, by decide⟩ : LinkOk Z a0 own_CT own_MT own_m0.1.cls own_m0.1.name own_m0.2.2.2.1 (259, .ifCond .eq 17, 3, 4, 276, 0, .null, .int)), ?_⟩
  refine List.forall_mem_cons.mpr ⟨trivial, ?_⟩
  refine List.forall_mem_cons.mpr ⟨(⟨rfl, _, rfl, by decide, by decide⟩ : LinkOk Z a0 own_CT own_MT own_m0.1.cls own_m0.1.name own_m0.2.2.2.1 (264, .ifCond .eq 12, 3, 4, 276, 0, .null, .int)), ?_⟩
  refine List.forall_mem_cons.mpr ⟨trivial, ?_⟩
  refine List.forall_mem_cons.mpr ⟨(⟨rfl, _, rfl, by decide, by decide⟩ : LinkOk Z a0 own_CT own_MT own_m0.1.cls own_m0.1.name own_m0.2.2.2.1 (269, .ifCond .eq 7, 3, 4, 276, 0, .null, .int)), ?_⟩
  refine List.forall_mem_cons.mpr ⟨trivial, ?_⟩
  refine List.forall_mem_cons.mpr ⟨(⟨_, rfl, rfl, by decide, by decide⟩ : LinkOk Z a0 own_CT own_MT own_m0.1.cls own_m0.1.name own_m0.2.2.2.1 (273, .goto 4, 3, 7, 277, 0, .null, .int)), ?_⟩
  refine List.forall_mem_cons.mpr ⟨trivial, ?_⟩
  refine List.forall_mem_cons.mpr ⟨(⟨rfl, rfl, rfl⟩ : LinkOk Z a0 own_CT own_MT own_m0.1.cls own_m0.1.name own_m0.2.2.2.1 (277, .ireturn, 1, 32, 0, 0, .null, .int)), ?_⟩
  exact fun _ h => nomatch h
set_option maxRecDepth 65536 in
theorem own_ok1 (Z : State) (a0 : Array Value) (hw : ∀ d ∈ tables_1, d.before a0 Z = true) : MOk Z a0 own_CT own_MT own_m1 := by
  have w := fun (k : Nat) (d : Jvm.Cond) (h : tables_1[k]? = some d) => hw d (List.mem_of_getElem? h)
  refine mOk_of own_pn1 own_d1 ?_
  refine List.forall_mem_cons.mpr ⟨trivial, ?_⟩
  refine List.forall_mem_cons.mpr ⟨trivial, ?_⟩
  refine List.forall_mem_cons.mpr ⟨trivial, ?_⟩
  refine List.forall_mem_cons.mpr ⟨trivial, ?_⟩
  refine List.forall_mem_cons.mpr ⟨(⟨rfl, rfl⟩ : LinkOk Z a0 own_CT own_MT own_m1.1.cls own_m1.1.name own_m1.2.2.2.1 (4, .arraylength, 1, 12, 0, 0, .null, .int)), ?_⟩
  refine List.forall_mem_cons.mpr ⟨(⟨_, _, rfl, rfl, rfl, own_c2 Z a0 hw, w 7 _ rfl, w 8 _ rfl, rfl, rfl⟩ : LinkOk Z a0 own_CT own_MT own_m1.1.cls own_m1.1.name own_m1.2.2.2.1 (5, .invokespecial 3, 3, 41, 2, 0, .null, .int)), ?_⟩
  refine List.forall_mem_cons.mpr ⟨(⟨rfl, rfl, rfl⟩ : LinkOk Z a0 own_CT own_MT own_m1.1.cls own_m1.1.name own_m1.2.2.2.1 (8, .return_, 1, 30, 0, 0, .null, .int)), ?_⟩
  exact fun _ h => nomatch h
set_option maxRecDepth 65536 in
theorem own_ok2 (Z : State) (a0 : Array Value) (hw : ∀ d ∈ tables_1, d.before a0 Z = true) : MOk Z a0 own_CT own_MT own_m2 := by
  have w := fun (k : Nat) (d : Jvm.Cond) (h : tables_1[k]? = some d) => hw d (List.mem_of_getElem? h)
  refine mOk_of own_pn2 own_d2 ?_
  refine List.forall_mem_cons.mpr ⟨trivial, ?_⟩
  refine List.forall_mem_cons.mpr ⟨(⟨_, rfl, rfl, w 10 _ rfl, w 11 _ rfl, w 12 _ rfl⟩ : LinkOk Z a0 own_CT own_MT own_m2.1.cls own_m2.1.name own_m2.2.2.2.1 (1, .invokespecial 9, 3, 16, 0, 0, .null, .int)), ?_⟩
  refine List.forall_mem_cons.mpr ⟨trivial, ?_⟩
  refine List.forall_mem_cons.mpr ⟨trivial, ?_⟩
  refine List.forall_mem_cons.mpr ⟨(⟨_, _, _, _, _, rfl, rfl, rfl, rfl, rfl, Or.inl (w 13 _ rfl), fun _ => ⟨rfl, rfl⟩⟩ : LinkOk Z a0 own_CT own_MT own_m2.1.cls own_m2.1.name own_m2.2.2.2.1 (6, .putfield 14, 3, 10, 0, 0, .null, (.array .byte))), ?_⟩
  refine List.forall_mem_cons.mpr ⟨trivial, ?_⟩
  refine List.forall_mem_cons.mpr ⟨trivial, ?_⟩
  refine List.forall_mem_cons.mpr ⟨(⟨_, _, _, _, _, rfl, rfl, rfl, rfl, rfl, Or.inl (w 15 _ rfl), fun h => nomatch h⟩ : LinkOk Z a0 own_CT own_MT own_m2.1.cls own_m2.1.name own_m2.2.2.2.1 (11, .putfield 18, 3, 10, 0, 1, .null, .int)), ?_⟩
  refine List.forall_mem_cons.mpr ⟨trivial, ?_⟩
  refine List.forall_mem_cons.mpr ⟨trivial, ?_⟩
  refine List.forall_mem_cons.mpr ⟨(⟨_, _, _, _, _, rfl, rfl, rfl, rfl, rfl, Or.inl (w 17 _ rfl), fun _ => ⟨rfl, rfl⟩⟩ : LinkOk Z a0 own_CT own_MT own_m2.1.cls own_m2.1.name own_m2.2.2.2.1 (16, .putfield 22, 3, 10, 0, 2, .null, .int)), ?_⟩
  refine List.forall_mem_cons.mpr ⟨(⟨rfl, rfl, rfl⟩ : LinkOk Z a0 own_CT own_MT own_m2.1.cls own_m2.1.name own_m2.2.2.2.1 (19, .return_, 1, 30, 0, 0, .null, .int)), ?_⟩
  exact fun _ h => nomatch h
set_option maxRecDepth 65536 in
theorem own_ok3 (Z : State) (a0 : Array Value) (hw : ∀ d ∈ tables_1, d.before a0 Z = true) : MOk Z a0 own_CT own_MT own_m3 := by
  have w := fun (k : Nat) (d : Jvm.Cond) (h : tables_1[k]? = some d) => hw d (List.mem_of_getElem? h)
  refine mOk_of own_pn3 own_d3 ?_
  refine List.forall_mem_cons.mpr ⟨trivial, ?_⟩
  refine List.forall_mem_cons.mpr ⟨(⟨_, _, _, _, _, rfl, rfl, rfl, rfl, Or.inl (w 15 _ rfl)⟩ : LinkOk Z a0 own_CT own_MT own_m3.1.cls own_m3.1.name own_m3.2.2.2.1 (1, .getfield 18, 3, 2, 0, 1, .null, .int)), ?_⟩
  refine List.forall_mem_cons.mpr ⟨trivial, ?_⟩
  refine List.forall_mem_cons.mpr ⟨(⟨_, _, _, _, _, rfl, rfl, rfl, rfl, Or.inl (w 17 _ rfl)⟩ : LinkOk Z a0 own_CT own_MT own_m3.1.cls own_m3.1.name own_m3.2.2.2.1 (5, .getfield 22, 3, 2, 0, 2, .null, .int)), ?_⟩
  refine List.forall_mem_cons.mpr ⟨(⟨rfl, _, rfl, by decide, by decide⟩ : LinkOk Z a0 own_CT own_MT own_m3.1.cls own_m3.1.name own_m3.2.2.2.1 (8, .if_icmp .ge 24, 3, 4, 32, 0, .null, .int)), ?_⟩
  refine List.forall_mem_cons.mpr ⟨trivial, ?_⟩
  refine List.forall_mem_cons.mpr ⟨(⟨_, _, _, _, _, rfl, rfl, rfl, rfl, Or.inl (w 13 _ rfl)⟩ : LinkOk Z a0 own_CT own_MT own_m3.1.cls own_m3.1.name own_m3.2.2.2.1 (12, .getfield 14, 3, 2, 0, 0, .null, .int)), ?_⟩
  refine List.forall_mem_cons.mpr ⟨trivial, ?_⟩
  refine List.forall_mem_cons.mpr ⟨(⟨_, _, _, _, _, rfl, rfl, rfl, rfl, Or.inl (w 15 _ rfl)⟩ : LinkOk Z a0 own_CT own_MT own_m3.1.cls own_m3.1.name own_m3.2.2.2.1 (16, .getfield 18, 3, 2, 0, 1, .null, .int)), ?_⟩
  refine List.forall_mem_cons.mpr ⟨(rfl : LinkOk Z a0 own_CT own_MT own_m3.1.cls own_m3.1.name own_m3.2.2.2.1 (19, .baload, 1, 6, 0, 0, .null, .int)), ?_⟩
  refine List.forall_mem_cons.mpr ⟨trivial, ?_⟩
  refine List.forall_mem_cons.mpr ⟨trivial, ?_⟩
  refine List.forall_mem_cons.mpr ⟨trivial, ?_⟩
  refine List.forall_mem_cons.mpr ⟨(⟨rfl, _, rfl, by decide, by decide⟩ : LinkOk Z a0 own_CT own_MT own_m3.1.cls own_m3.1.name own_m3.2.2.2.1 (25, .if_icmp .ne 7, 3, 4, 32, 0, .null, .int)), ?_⟩
  refine List.forall_mem_cons.mpr ⟨trivial, ?_⟩
  refine List.forall_mem_cons.mpr ⟨(⟨_, rfl, rfl, by decide, by decide⟩ : LinkOk Z a0 own_CT own_MT own_m3.1.cls own_m3.1.name own_m3.2.2.2.1 (29, .goto 4, 3, 7, 33, 0, .null, .int)), ?_⟩
  refine List.forall_mem_cons.mpr ⟨trivial, ?_⟩
  refine List.forall_mem_cons.mpr ⟨(⟨rfl, rfl, rfl⟩ : LinkOk Z a0 own_CT own_MT own_m3.1.cls own_m3.1.name own_m3.2.2.2.1 (33, .ireturn, 1, 32, 0, 0, .null, .int)), ?_⟩
  exact fun _ h => nomatch h
set_option maxRecDepth 65536 in
theorem own_ok4 (Z : State) (a0 : Array Value) (hw : ∀ d ∈ tables_1, d.before a0 Z = true) : MOk Z a0 own_CT own_MT own_m4 := by
  have w := fun (k : Nat) (d : Jvm.Cond) (h : tables_1[k]? = some d) => hw d (List.mem_of_getElem? h)
  refine mOk_of own_pn4 own_d4 ?_
  refine List.forall_mem_cons.mpr ⟨trivial, ?_⟩
  refine List.forall_mem_cons.mpr ⟨trivial, ?_⟩
  refine List.forall_mem_cons.mpr ⟨trivial, ?_⟩
  refine List.forall_mem_cons.mpr ⟨trivial, ?_⟩
  refine List.forall_mem_cons.mpr ⟨(⟨_, _, _, _, rfl, rfl, rfl, own_c5 Z a0 hw, w 36 _ rfl, w 37 _ rfl, rfl, w 38 _ rfl⟩ : LinkOk Z a0 own_CT own_MT own_m4.1.cls own_m4.1.name own_m4.2.2.2.1 (5, .invokevirtual 31, 3, 43, 5, 0, .null, .int)), ?_⟩
  refine List.forall_mem_cons.mpr ⟨(⟨_, _, _, _, rfl, rfl, rfl, own_c10 Z a0 hw, w 71 _ rfl, w 72 _ rfl, rfl, w 73 _ rfl⟩ : LinkOk Z a0 own_CT own_MT own_m4.1.cls own_m4.1.name own_m4.2.2.2.1 (8, .invokevirtual 35, 3, 43, 10, 0, .null, .int)), ?_⟩
  refine List.forall_mem_cons.mpr ⟨(⟨rfl, rfl, _, rfl, rfl⟩ : LinkOk Z a0 own_CT own_MT own_m4.1.cls own_m4.1.name own_m4.2.2.2.1 (11, .areturn, 1, 34, 0, 0, .null, .int)), ?_⟩
  exact fun _ h => nomatch h
set_option maxRecDepth 65536 in
theorem own_ok5 (Z : State) (a0 : Array Value) (hw : ∀ d ∈ tables_1, d.before a0 Z = true) : MOk Z a0 own_CT own_MT own_m5 := by
  have w := fun (k : Nat) (d : Jvm.Cond) (h : tables_1[k]? = some d) => hw d (List.mem_of_getElem? h)
  refine mOk_of own_pn5 own_d5 ?_
  refine List.forall_mem_cons.mpr ⟨trivial, ?_⟩
  refine List.forall_mem_cons.mpr ⟨trivial, ?_⟩
  refine List.forall_mem_cons.mpr ⟨(⟨_, _, _, _, rfl, rfl, rfl, own_c6 Z a0 hw, w 40 _ rfl, w 41 _ rfl, rfl, w 42 _ rfl⟩ : LinkOk Z a0 own_CT own_MT own_m5.1.cls own_m5.1.name own_m5.2.2.2.1 (2, .invokevirtual 109, 3, 43, 6, 0, .null, .int)), ?_⟩
  refine List.forall_mem_cons.mpr ⟨trivial, ?_⟩
  refine List.forall_mem_cons.mpr ⟨trivial, ?_⟩
  refine List.forall_mem_cons.mpr ⟨(⟨_, _, _, _, _, rfl, rfl, rfl, rfl, w 70 _ rfl⟩ : LinkOk Z a0 own_CT own_MT own_m5.1.cls own_m5.1.name own_m5.2.2.2.1 (7, .getfield 113, 3, 21, 1, 0, .null, .int)), ?_⟩
  refine List.forall_mem_cons.mpr ⟨trivial, ?_⟩
  refine List.forall_mem_cons.mpr ⟨(⟨rfl, _, rfl, by decide, by decide⟩ : LinkOk Z a0 own_CT own_MT own_m5.1.cls own_m5.1.name own_m5.2.2.2.1 (11, .if_icmp .eq 36, 3, 4, 47, 0, .null, .int)), ?_⟩
  refine List.forall_mem_cons.mpr ⟨trivial, ?_⟩
  refine List.forall_mem_cons.mpr ⟨trivial, ?_⟩
  refine List.forall_mem_cons.mpr ⟨trivial, ?_⟩
  refine List.forall_mem_cons.mpr ⟨trivial, ?_⟩
  refine List.forall_mem_cons.mpr ⟨trivial, ?_⟩
  refine List.forall_mem_cons.mpr ⟨(⟨rfl, rfl, _, rfl, rfl⟩ : LinkOk Z a0 own_CT own_MT own_m5.1.cls own_m5.1.name own_m5.2.2.2.1 (48, .areturn, 1, 34, 0, 0, .null, .int)), ?_⟩
  exact fun _ h => nomatch h
set_option maxRecDepth 65536 in
theorem own_ok6 (Z : State) (a0 : Array Value) (hw : ∀ d ∈ tables_1, d.before a0 Z = true) : MOk Z a0 own_CT own_MT own_m6 := by
  have w := fun (k : Nat) (d : Jvm.Cond) (h : tables_1[k]? = some d) => hw d (List.mem_of_getElem? h)
  refine mOk_of own_pn6 own_d6 ?_
  refine List.forall_mem_cons.mpr ⟨trivial, ?_⟩
  refine List.forall_mem_cons.mpr ⟨(⟨_, _, _, _, _, rfl, rfl, rfl, rfl, Or.inl (w 15 _ rfl)⟩ : LinkOk Z a0 own_CT own_MT own_m6.1.cls own_m6.1.name own_m6.2.2.2.1 (1, .getfield 18, 3, 2, 0, 1, .null, .int)), ?_⟩
  refine List.forall_mem_cons.mpr ⟨trivial, ?_⟩
  refine List.forall_mem_cons.mpr ⟨trivial, ?_⟩
  refine List.forall_mem_cons.mpr ⟨(⟨_, _, _, _, _, rfl, rfl, rfl, rfl, Or.inl (w 15 _ rfl)⟩ : LinkOk Z a0 own_CT own_MT own_m6.1.cls own_m6.1.name own_m6.2.2.2.1 (6, .getfield 18, 3, 2, 0, 1, .null, .int)), ?_⟩
  refine List.forall_mem_cons.mpr ⟨trivial, ?_⟩
  refine List.forall_mem_cons.mpr ⟨(⟨_, _, _, _, _, rfl, rfl, rfl, rfl, Or.inl (w 17 _ rfl)⟩ : LinkOk Z a0 own_CT own_MT own_m6.1.cls own_m6.1.name own_m6.2.2.2.1 (10, .getfield 22, 3, 2, 0, 2, .null, .int)), ?_⟩
  refine List.forall_mem_cons.mpr ⟨(⟨rfl, _, rfl, by decide, by decide⟩ : LinkOk Z a0 own_CT own_MT own_m6.1.cls own_m6.1.name own_m6.2.2.2.1 (13, .if_icmp .lt 11, 3, 4, 24, 0, .null, .int)), ?_⟩
  refine List.forall_mem_cons.mpr ⟨trivial, ?_⟩
  refine List.forall_mem_cons.mpr ⟨trivial, ?_⟩
  refine List.forall_mem_cons.mpr ⟨trivial, ?_⟩
  refine List.forall_mem_cons.mpr ⟨(⟨_, _, _, _, _, rfl, rfl, rfl, rfl, Or.inl (w 13 _ rfl)⟩ : LinkOk Z a0 own_CT own_MT own_m6.1.cls own_m6.1.name own_m6.2.2.2.1 (25, .getfield 14, 3, 2, 0, 0, .null, .int)), ?_⟩
  refine List.forall_mem_cons.mpr ⟨trivial, ?_⟩
  refine List.forall_mem_cons.mpr ⟨trivial, ?_⟩
  refine List.forall_mem_cons.mpr ⟨(⟨_, _, _, _, _, rfl, rfl, rfl, rfl, Or.inl (w 15 _ rfl)⟩ : LinkOk Z a0 own_CT own_MT own_m6.1.cls own_m6.1.name own_m6.2.2.2.1 (30, .getfield 18, 3, 2, 0, 1, .null, .int)), ?_⟩
  refine List.forall_mem_cons.mpr ⟨trivial, ?_⟩
  refine List.forall_mem_cons.mpr ⟨trivial, ?_⟩
  refine List.forall_mem_cons.mpr ⟨trivial, ?_⟩
  refine List.forall_mem_cons.mpr ⟨(⟨_, _, _, _, _, rfl, rfl, rfl, rfl, rfl, Or.inl (w 15 _ rfl), fun h => nomatch h⟩ : LinkOk Z a0 own_CT own_MT own_m6.1.cls own_m6.1.name own_m6.2.2.2.1 (36, .putfield 18, 3, 10, 0, 1, .null, .int)), ?_⟩
  refine List.forall_mem_cons.mpr ⟨(rfl : LinkOk Z a0 own_CT own_MT own_m6.1.cls own_m6.1.name own_m6.2.2.2.1 (39, .baload, 1, 6, 0, 0, .null, .int)), ?_⟩
  refine List.forall_mem_cons.mpr ⟨trivial, ?_⟩
  refine List.forall_mem_cons.mpr ⟨trivial, ?_⟩
  refine List.forall_mem_cons.mpr ⟨trivial, ?_⟩
  refine List.forall_mem_cons.mpr ⟨trivial, ?_⟩
  refine List.forall_mem_cons.mpr ⟨trivial, ?_⟩
  refine List.forall_mem_cons.mpr ⟨trivial, ?_⟩
  refine List.forall_mem_cons.mpr ⟨trivial, ?_⟩
  refine List.forall_mem_cons.mpr ⟨trivial, ?_⟩
  refine List.forall_mem_cons.mpr ⟨trivial, ?_⟩
  refine List.forall_mem_cons.mpr ⟨(⟨rfl, _, rfl, by decide, by decide⟩ : LinkOk Z a0 own_CT own_MT own_m6.1.cls own_m6.1.name own_m6.2.2.2.1 (55, .if_icmp .ne 11, 3, 4, 66, 0, .null, .int)), ?_⟩
  refine List.forall_mem_cons.mpr ⟨trivial, ?_⟩
  refine List.forall_mem_cons.mpr ⟨trivial, ?_⟩
  refine List.forall_mem_cons.mpr ⟨trivial, ?_⟩
  refine List.forall_mem_cons.mpr ⟨trivial, ?_⟩
  refine List.forall_mem_cons.mpr ⟨trivial, ?_⟩
  refine List.forall_mem_cons.mpr ⟨trivial, ?_⟩
  refine List.forall_mem_cons.mpr ⟨trivial, ?_⟩
  refine List.forall_mem_cons.mpr ⟨(⟨_, _, _, _, rfl, rfl, rfl, own_c7 Z a0 hw, w 44 _ rfl, w 45 _ rfl, rfl, w 46 _ rfl⟩ : LinkOk Z a0 own_CT own_MT own_m6.1.cls own_m6.1.name own_m6.2.2.2.1 (69, .invokevirtual 174, 3, 43, 7, 0, .null, .int)), ?_⟩
  refine List.forall_mem_cons.mpr ⟨trivial, ?_⟩
  refine List.forall_mem_cons.mpr ⟨trivial, ?_⟩
  refine List.forall_mem_cons.mpr ⟨trivial, ?_⟩
  refine List.forall_mem_cons.mpr ⟨(⟨_, _, _, _, _, rfl, rfl, rfl, rfl, Or.inl (w 17 _ rfl)⟩ : LinkOk Z a0 own_CT own_MT own_m6.1.cls own_m6.1.name own_m6.2.2.2.1 (77, .getfield 22, 3, 2, 0, 2, .null, .int)), ?_⟩
  refine List.forall_mem_cons.mpr ⟨trivial, ?_⟩
  refine List.forall_mem_cons.mpr ⟨(⟨_, _, _, _, _, rfl, rfl, rfl, rfl, Or.inl (w 15 _ rfl)⟩ : LinkOk Z a0 own_CT own_MT own_m6.1.cls own_m6.1.name own_m6.2.2.2.1 (81, .getfield 18, 3, 2, 0, 1, .null, .int)), ?_⟩
  refine List.forall_mem_cons.mpr ⟨trivial, ?_⟩
  refine List.forall_mem_cons.mpr ⟨trivial, ?_⟩
  refine List.forall_mem_cons.mpr ⟨trivial, ?_⟩
  refine List.forall_mem_cons.mpr ⟨(⟨rfl, _, rfl, by decide, by decide⟩ : LinkOk Z a0 own_CT own_MT own_m6.1.cls own_m6.1.name own_m6.2.2.2.1 (87, .ifCond .le 29, 3, 4, 116, 0, .null, .int)), ?_⟩
  refine List.forall_mem_cons.mpr ⟨trivial, ?_⟩
  refine List.forall_mem_cons.mpr ⟨trivial, ?_⟩
  refine List.forall_mem_cons.mpr ⟨trivial, ?_⟩
  refine List.forall_mem_cons.mpr ⟨trivial, ?_⟩
  refine List.forall_mem_cons.mpr ⟨trivial, ?_⟩
  refine List.forall_mem_cons.mpr ⟨(⟨_, _, _, _, _, rfl, rfl, rfl, rfl, Or.inl (w 17 _ rfl)⟩ : LinkOk Z a0 own_CT own_MT own_m6.1.cls own_m6.1.name own_m6.2.2.2.1 (97, .getfield 22, 3, 2, 0, 2, .null, .int)), ?_⟩
  refine List.forall_mem_cons.mpr ⟨trivial, ?_⟩
  refine List.forall_mem_cons.mpr ⟨(⟨_, _, _, _, _, rfl, rfl, rfl, rfl, Or.inl (w 15 _ rfl)⟩ : LinkOk Z a0 own_CT own_MT own_m6.1.cls own_m6.1.name own_m6.2.2.2.1 (101, .getfield 18, 3, 2, 0, 1, .null, .int)), ?_⟩
  refine List.forall_mem_cons.mpr ⟨trivial, ?_⟩
  refine List.forall_mem_cons.mpr ⟨trivial, ?_⟩
  refine List.forall_mem_cons.mpr ⟨trivial, ?_⟩
  refine List.forall_mem_cons.mpr ⟨trivial, ?_⟩
  refine List.forall_mem_cons.mpr ⟨(⟨_, _, _, _, _, rfl, rfl, rfl, rfl, Or.inl (w 15 _ rfl)⟩ : LinkOk Z a0 own_CT own_MT own_m6.1.cls own_m6.1.name own_m6.2.2.2.1 (117, .getfield 18, 3, 2, 0, 1, .null, .int)), ?_⟩
  refine List.forall_mem_cons.mpr ⟨trivial, ?_⟩
  refine List.forall_mem_cons.mpr ⟨trivial, ?_⟩
  refine List.forall_mem_cons.mpr ⟨trivial, ?_⟩
  refine List.forall_mem_cons.mpr ⟨(⟨_, _, _, _, _, rfl, rfl, rfl, rfl, Or.inl (w 15 _ rfl)⟩ : LinkOk Z a0 own_CT own_MT own_m6.1.cls own_m6.1.name own_m6.2.2.2.1 (124, .getfield 18, 3, 2, 0, 1, .null, .int)), ?_⟩
  refine List.forall_mem_cons.mpr ⟨trivial, ?_⟩
  refine List.forall_mem_cons.mpr ⟨trivial, ?_⟩
  refine List.forall_mem_cons.mpr ⟨trivial, ?_⟩
  refine List.forall_mem_cons.mpr ⟨(⟨_, _, _, _, _, rfl, rfl, rfl, rfl, rfl, Or.inl (w 15 _ rfl), fun h => nomatch h⟩ : LinkOk Z a0 own_CT own_MT own_m6.1.cls own_m6.1.name own_m6.2.2.2.1 (131, .putfield 18, 3, 10, 0, 1, .null, .int)), ?_⟩
  refine List.forall_mem_cons.mpr ⟨(⟨_, _, _, _, rfl, rfl, rfl, w 48 _ rfl⟩ : LinkOk Z a0 own_CT own_MT own_m6.1.cls own_m6.1.name own_m6.2.2.2.1 (134, .new 50, 3, 14, 1, 0, .null, .int)), ?_⟩
  refine List.forall_mem_cons.mpr ⟨trivial, ?_⟩
  refine List.forall_mem_cons.mpr ⟨trivial, ?_⟩
  refine List.forall_mem_cons.mpr ⟨trivial, ?_⟩
  refine List.forall_mem_cons.mpr ⟨trivial, ?_⟩
  refine List.forall_mem_cons.mpr ⟨trivial, ?_⟩
  refine List.forall_mem_cons.mpr ⟨trivial, ?_⟩
  refine List.forall_mem_cons.mpr ⟨(⟨_, _, _, _, _, rfl, rfl, rfl, rfl, Or.inl (w 15 _ rfl)⟩ : LinkOk Z a0 own_CT own_MT own_m6.1.cls own_m6.1.name own_m6.2.2.2.1 (145, .getfield 18, 3, 2, 0, 1, .null, .int)), ?_⟩
  refine List.forall_mem_cons.mpr ⟨(⟨_, _, rfl, rfl, rfl, own_c8 Z a0 hw, w 51 _ rfl, w 52 _ rfl, rfl, rfl⟩ : LinkOk Z a0 own_CT own_MT own_m6.1.cls own_m6.1.name own_m6.2.2.2.1 (148, .invokespecial 181, 3, 44, 8, 1, .null, .int)), ?_⟩
  refine List.forall_mem_cons.mpr ⟨(⟨rfl, rfl, _, rfl, rfl⟩ : LinkOk Z a0 own_CT own_MT own_m6.1.cls own_m6.1.name own_m6.2.2.2.1 (151, .areturn, 1, 34, 0, 0, .null, .int)), ?_⟩
  exact fun _ h => nomatch h
set_option maxRecDepth 65536 in
theorem own_ok7 (Z : State) (a0 : Array Value) (hw : ∀ d ∈ tables_1, d.before a0 Z = true) : MOk Z a0 own_CT own_MT own_m7 := by
  have w := fun (k : Nat) (d : Jvm.Cond) (h : tables_1[k]? = some d) => hw d (List.mem_of_getElem? h)
  refine mOk_of own_pn7 own_d7 ?_
  refine List.forall_mem_cons.mpr ⟨trivial, ?_⟩
  refine List.forall_mem_cons.mpr ⟨(⟨_, _, _, _, _, rfl, rfl, rfl, rfl, Or.inl (w 15 _ rfl)⟩ : LinkOk Z a0 own_CT own_MT own_m7.1.cls own_m7.1.name own_m7.2.2.2.1 (1, .getfield 18, 3, 2, 0, 1, .null, .int)), ?_⟩
  refine List.forall_mem_cons.mpr ⟨trivial, ?_⟩
  refine List.forall_mem_cons.mpr ⟨(⟨_, _, _, _, _, rfl, rfl, rfl, rfl, Or.inl (w 17 _ rfl)⟩ : LinkOk Z a0 own_CT own_MT own_m7.1.cls own_m7.1.name own_m7.2.2.2.1 (5, .getfield 22, 3, 2, 0, 2, .null, .int)), ?_⟩
  refine List.forall_mem_cons.mpr ⟨(⟨rfl, _, rfl, by decide, by decide⟩ : LinkOk Z a0 own_CT own_MT own_m7.1.cls own_m7.1.name own_m7.2.2.2.1 (8, .if_icmp .lt 11, 3, 4, 19, 0, .null, .int)), ?_⟩
  refine List.forall_mem_cons.mpr ⟨trivial, ?_⟩
  refine List.forall_mem_cons.mpr ⟨trivial, ?_⟩
  refine List.forall_mem_cons.mpr ⟨trivial, ?_⟩
  refine List.forall_mem_cons.mpr ⟨(⟨_, _, _, _, _, rfl, rfl, rfl, rfl, Or.inl (w 13 _ rfl)⟩ : LinkOk Z a0 own_CT own_MT own_m7.1.cls own_m7.1.name own_m7.2.2.2.1 (20, .getfield 14, 3, 2, 0, 0, .null, .int)), ?_⟩
  refine List.forall_mem_cons.mpr ⟨trivial, ?_⟩
  refine List.forall_mem_cons.mpr ⟨trivial, ?_⟩
  refine List.forall_mem_cons.mpr ⟨(⟨_, _, _, _, _, rfl, rfl, rfl, rfl, Or.inl (w 15 _ rfl)⟩ : LinkOk Z a0 own_CT own_MT own_m7.1.cls own_m7.1.name own_m7.2.2.2.1 (25, .getfield 18, 3, 2, 0, 1, .null, .int)), ?_⟩
  refine List.forall_mem_cons.mpr ⟨trivial, ?_⟩
  refine List.forall_mem_cons.mpr ⟨trivial, ?_⟩
  refine List.forall_mem_cons.mpr ⟨trivial, ?_⟩
  refine List.forall_mem_cons.mpr ⟨(⟨_, _, _, _, _, rfl, rfl, rfl, rfl, rfl, Or.inl (w 15 _ rfl), fun h => nomatch h⟩ : LinkOk Z a0 own_CT own_MT own_m7.1.cls own_m7.1.name own_m7.2.2.2.1 (31, .putfield 18, 3, 10, 0, 1, .null, .int)), ?_⟩
  refine List.forall_mem_cons.mpr ⟨(rfl : LinkOk Z a0 own_CT own_MT own_m7.1.cls own_m7.1.name own_m7.2.2.2.1 (34, .baload, 1, 6, 0, 0, .null, .int)), ?_⟩
  refine List.forall_mem_cons.mpr ⟨trivial, ?_⟩
  refine List.forall_mem_cons.mpr ⟨trivial, ?_⟩
  refine List.forall_mem_cons.mpr ⟨trivial, ?_⟩
  refine List.forall_mem_cons.mpr ⟨trivial, ?_⟩
  refine List.forall_mem_cons.mpr ⟨trivial, ?_⟩
  refine List.forall_mem_cons.mpr ⟨(⟨rfl, _, rfl, by decide, by decide⟩ : LinkOk Z a0 own_CT own_MT own_m7.1.cls own_m7.1.name own_m7.2.2.2.1 (44, .if_icmp .ge 10, 3, 4, 54, 0, .null, .int)), ?_⟩
  refine List.forall_mem_cons.mpr ⟨trivial, ?_⟩
  refine List.forall_mem_cons.mpr ⟨trivial, ?_⟩
  refine List.forall_mem_cons.mpr ⟨trivial, ?_⟩
  refine List.forall_mem_cons.mpr ⟨(⟨_, rfl, rfl, by decide, by decide⟩ : LinkOk Z a0 own_CT own_MT own_m7.1.cls own_m7.1.name own_m7.2.2.2.1 (51, .goto 142, 3, 7, 193, 0, .null, .int)), ?_⟩
  refine List.forall_mem_cons.mpr ⟨trivial, ?_⟩
  refine List.forall_mem_cons.mpr ⟨trivial, ?_⟩
  refine List.forall_mem_cons.mpr ⟨(⟨rfl, _, rfl, by decide, by decide⟩ : LinkOk Z a0 own_CT own_MT own_m7.1.cls own_m7.1.name own_m7.2.2.2.1 (58, .if_icmp .ne 11, 3, 4, 69, 0, .null, .int)), ?_⟩
  refine List.forall_mem_cons.mpr ⟨trivial, ?_⟩
  refine List.forall_mem_cons.mpr ⟨trivial, ?_⟩
  refine List.forall_mem_cons.mpr ⟨trivial, ?_⟩
  refine List.forall_mem_cons.mpr ⟨trivial, ?_⟩
  refine List.forall_mem_cons.mpr ⟨trivial, ?_⟩
  refine List.forall_mem_cons.mpr ⟨trivial, ?_⟩
  refine List.forall_mem_cons.mpr ⟨trivial, ?_⟩
  refine List.forall_mem_cons.mpr ⟨trivial, ?_⟩
  refine List.forall_mem_cons.mpr ⟨(⟨rfl, _, rfl, by decide, by decide⟩ : LinkOk Z a0 own_CT own_MT own_m7.1.cls own_m7.1.name own_m7.2.2.2.1 (78, .if_icmp .gt 17, 3, 4, 95, 0, .null, .int)), ?_⟩
  refine List.forall_mem_cons.mpr ⟨trivial, ?_⟩
  refine List.forall_mem_cons.mpr ⟨trivial, ?_⟩
  refine List.forall_mem_cons.mpr ⟨(⟨_, _, _, _, _, rfl, rfl, rfl, rfl, Or.inl (w 17 _ rfl)⟩ : LinkOk Z a0 own_CT own_MT own_m7.1.cls own_m7.1.name own_m7.2.2.2.1 (84, .getfield 22, 3, 2, 0, 2, .null, .int)), ?_⟩
  refine List.forall_mem_cons.mpr ⟨trivial, ?_⟩
  refine List.forall_mem_cons.mpr ⟨(⟨_, _, _, _, _, rfl, rfl, rfl, rfl, Or.inl (w 15 _ rfl)⟩ : LinkOk Z a0 own_CT own_MT own_m7.1.cls own_m7.1.name own_m7.2.2.2.1 (88, .getfield 18, 3, 2, 0, 1, .null, .int)), ?_⟩
  refine List.forall_mem_cons.mpr ⟨trivial, ?_⟩
  refine List.forall_mem_cons.mpr ⟨(⟨rfl, _, rfl, by decide, by decide⟩ : LinkOk Z a0 own_CT own_MT own_m7.1.cls own_m7.1.name own_m7.2.2.2.1 (92, .if_icmp .le 16, 3, 4, 108, 0, .null, .int)), ?_⟩
  refine List.forall_mem_cons.mpr ⟨trivial, ?_⟩
  refine List.forall_mem_cons.mpr ⟨trivial, ?_⟩
  refine List.forall_mem_cons.mpr ⟨trivial, ?_⟩
  refine List.forall_mem_cons.mpr ⟨trivial, ?_⟩
  refine List.forall_mem_cons.mpr ⟨trivial, ?_⟩
  refine List.forall_mem_cons.mpr ⟨trivial, ?_⟩
  refine List.forall_mem_cons.mpr ⟨trivial, ?_⟩
  refine List.forall_mem_cons.mpr ⟨trivial, ?_⟩
  refine List.forall_mem_cons.mpr ⟨trivial, ?_⟩
  refine List.forall_mem_cons.mpr ⟨(⟨rfl, _, rfl, by decide, by decide⟩ : LinkOk Z a0 own_CT own_MT own_m7.1.cls own_m7.1.name own_m7.2.2.2.1 (118, .if_icmp .ge 38, 3, 4, 156, 0, .null, .int)), ?_⟩
  refine List.forall_mem_cons.mpr ⟨trivial, ?_⟩
  refine List.forall_mem_cons.mpr ⟨trivial, ?_⟩
  refine List.forall_mem_cons.mpr ⟨trivial, ?_⟩
  refine List.forall_mem_cons.mpr ⟨trivial, ?_⟩
  refine List.forall_mem_cons.mpr ⟨(⟨_, _, _, _, _, rfl, rfl, rfl, rfl, Or.inl (w 13 _ rfl)⟩ : LinkOk Z a0 own_CT own_MT own_m7.1.cls own_m7.1.name own_m7.2.2.2.1 (127, .getfield 14, 3, 2, 0, 0, .null, .int)), ?_⟩
  refine List.forall_mem_cons.mpr ⟨trivial, ?_⟩
  refine List.forall_mem_cons.mpr ⟨trivial, ?_⟩
  refine List.forall_mem_cons.mpr ⟨(⟨_, _, _, _, _, rfl, rfl, rfl, rfl, Or.inl (w 15 _ rfl)⟩ : LinkOk Z a0 own_CT own_MT own_m7.1.cls own_m7.1.name own_m7.2.2.2.1 (132, .getfield 18, 3, 2, 0, 1, .null, .int)), ?_⟩
  refine List.forall_mem_cons.mpr ⟨trivial, ?_⟩
  refine List.forall_mem_cons.mpr ⟨trivial, ?_⟩
  refine List.forall_mem_cons.mpr ⟨trivial, ?_⟩
  refine List.forall_mem_cons.mpr ⟨(⟨_, _, _, _, _, rfl, rfl, rfl, rfl, rfl, Or.inl (w 15 _ rfl), fun h => nomatch h⟩ : LinkOk Z a0 own_CT own_MT own_m7.1.cls own_m7.1.name own_m7.2.2.2.1 (138, .putfield 18, 3, 10, 0, 1, .null, .int)), ?_⟩
  refine List.forall_mem_cons.mpr ⟨(rfl : LinkOk Z a0 own_CT own_MT own_m7.1.cls own_m7.1.name own_m7.2.2.2.1 (141, .baload, 1, 6, 0, 0, .null, .int)), ?_⟩
  refine List.forall_mem_cons.mpr ⟨trivial, ?_⟩
  refine List.forall_mem_cons.mpr ⟨trivial, ?_⟩
  refine List.forall_mem_cons.mpr ⟨trivial, ?_⟩
  refine List.forall_mem_cons.mpr ⟨trivial, ?_⟩
  refine List.forall_mem_cons.mpr ⟨trivial, ?_⟩
  refine List.forall_mem_cons.mpr ⟨(rfl : LinkOk Z a0 own_CT own_MT own_m7.1.cls own_m7.1.name own_m7.2.2.2.1 (150, .iinc 7 1, 3, 9, 0, 0, .null, .int)), ?_⟩
  refine List.forall_mem_cons.mpr ⟨(⟨_, rfl, rfl, by decide, by decide⟩ : LinkOk Z a0 own_CT own_MT own_m7.1.cls own_m7.1.name own_m7.2.2.2.1 (153, .goto (-39), 3, 7, 114, 0, .null, .int)), ?_⟩
  refine List.forall_mem_cons.mpr ⟨trivial, ?_⟩
  refine List.forall_mem_cons.mpr ⟨(Or.inr (Or.inr ⟨_, _, rfl, rfl, rfl, w 78 _ rfl⟩) : LinkOk Z a0 own_CT own_MT own_m7.1.cls own_m7.1.name own_m7.2.2.2.1 (158, .ldc2_w 194, 3, 13, 0, 0, (.long 128), .int)), ?_⟩
  refine List.forall_mem_cons.mpr ⟨trivial, ?_⟩
  refine List.forall_mem_cons.mpr ⟨(⟨rfl, _, rfl, by decide, by decide⟩ : LinkOk Z a0 own_CT own_MT own_m7.1.cls own_m7.1.name own_m7.2.2.2.1 (162, .ifCond .lt 18, 3, 4, 180, 0, .null, .int)), ?_⟩
  refine List.forall_mem_cons.mpr ⟨trivial, ?_⟩
  refine List.forall_mem_cons.mpr ⟨trivial, ?_⟩
  refine List.forall_mem_cons.mpr ⟨trivial, ?_⟩
  refine List.forall_mem_cons.mpr ⟨trivial, ?_⟩
  refine List.forall_mem_cons.mpr ⟨trivial, ?_⟩
  refine List.forall_mem_cons.mpr ⟨trivial, ?_⟩
  refine List.forall_mem_cons.mpr ⟨trivial, ?_⟩
  refine List.forall_mem_cons.mpr ⟨trivial, ?_⟩
  refine List.forall_mem_cons.mpr ⟨trivial, ?_⟩
  refine List.forall_mem_cons.mpr ⟨(⟨rfl, _, rfl, by decide, by decide⟩ : LinkOk Z a0 own_CT own_MT own_m7.1.cls own_m7.1.name own_m7.2.2.2.1 (177, .ifCond .ne 16, 3, 4, 193, 0, .null, .int)), ?_⟩
  refine List.forall_mem_cons.mpr ⟨trivial, ?_⟩
  refine List.forall_mem_cons.mpr ⟨trivial, ?_⟩
  refine List.forall_mem_cons.mpr ⟨trivial, ?_⟩
  refine List.forall_mem_cons.mpr ⟨trivial, ?_⟩
  refine List.forall_mem_cons.mpr ⟨(⟨rfl, rfl, rfl⟩ : LinkOk Z a0 own_CT own_MT own_m7.1.cls own_m7.1.name own_m7.2.2.2.1 (195, .lreturn, 1, 33, 0, 0, .null, .int)), ?_⟩
  exact fun _ h => nomatch h
set_option maxRecDepth 65536 in
theorem own_ok8 (Z : State) (a0 : Array Value) (hw : ∀ d ∈ tables_1, d.before a0 Z = true) : MOk Z a0 own_CT own_MT own_m8 := by
  have w := fun (k : Nat) (d : Jvm.Cond) (h : tables_1[k]? = some d) => hw d (List.mem_of_getElem? h)
  refine mOk_of own_pn8 own_d8 ?_
  refine List.forall_mem_cons.mpr ⟨trivial, ?_⟩
  refine List.forall_mem_cons.mpr ⟨(⟨_, _, rfl, rfl, rfl, own_c9 Z a0 hw, w 54 _ rfl, w 55 _ rfl, rfl, rfl⟩ : LinkOk Z a0 own_CT own_MT own_m8.1.cls own_m8.1.name own_m8.2.2.2.1 (1, .invokespecial 1, 3, 41, 9, 1, .null, .int)), ?_⟩
  refine List.forall_mem_cons.mpr ⟨trivial, ?_⟩
  refine List.forall_mem_cons.mpr ⟨trivial, ?_⟩
  refine List.forall_mem_cons.mpr ⟨(⟨_, _, _, _, _, rfl, rfl, rfl, rfl, rfl, Or.inl (w 60 _ rfl), fun _ => ⟨rfl, rfl⟩⟩ : LinkOk Z a0 own_CT own_MT own_m8.1.cls own_m8.1.name own_m8.2.2.2.1 (6, .putfield 7, 3, 10, 1, 0, .null, .int)), ?_⟩
  refine List.forall_mem_cons.mpr ⟨trivial, ?_⟩
  refine List.forall_mem_cons.mpr ⟨trivial, ?_⟩
  refine List.forall_mem_cons.mpr ⟨(⟨_, _, _, _, _, rfl, rfl, rfl, rfl, rfl, Or.inl (w 62 _ rfl), fun _ => ⟨rfl, rfl⟩⟩ : LinkOk Z a0 own_CT own_MT own_m8.1.cls own_m8.1.name own_m8.2.2.2.1 (11, .putfield 13, 3, 10, 1, 1, .null, .int)), ?_⟩
  refine List.forall_mem_cons.mpr ⟨trivial, ?_⟩
  refine List.forall_mem_cons.mpr ⟨trivial, ?_⟩
  refine List.forall_mem_cons.mpr ⟨(⟨_, _, _, _, _, rfl, rfl, rfl, rfl, rfl, Or.inl (w 64 _ rfl), fun _ => ⟨rfl, rfl⟩⟩ : LinkOk Z a0 own_CT own_MT own_m8.1.cls own_m8.1.name own_m8.2.2.2.1 (16, .putfield 16, 3, 10, 1, 2, .null, .int)), ?_⟩
  refine List.forall_mem_cons.mpr ⟨trivial, ?_⟩
  refine List.forall_mem_cons.mpr ⟨trivial, ?_⟩
  refine List.forall_mem_cons.mpr ⟨(⟨_, _, _, _, _, rfl, rfl, rfl, rfl, rfl, Or.inl (w 66 _ rfl), fun _ => ⟨rfl, rfl⟩⟩ : LinkOk Z a0 own_CT own_MT own_m8.1.cls own_m8.1.name own_m8.2.2.2.1 (22, .putfield 19, 3, 10, 1, 3, .null, .int)), ?_⟩
  refine List.forall_mem_cons.mpr ⟨trivial, ?_⟩
  refine List.forall_mem_cons.mpr ⟨trivial, ?_⟩
  refine List.forall_mem_cons.mpr ⟨(⟨_, _, _, _, _, rfl, rfl, rfl, rfl, rfl, Or.inl (w 68 _ rfl), fun _ => ⟨rfl, rfl⟩⟩ : LinkOk Z a0 own_CT own_MT own_m8.1.cls own_m8.1.name own_m8.2.2.2.1 (28, .putfield 22, 3, 10, 1, 4, .null, .int)), ?_⟩
  refine List.forall_mem_cons.mpr ⟨(⟨rfl, rfl, rfl⟩ : LinkOk Z a0 own_CT own_MT own_m8.1.cls own_m8.1.name own_m8.2.2.2.1 (31, .return_, 1, 30, 0, 0, .null, .int)), ?_⟩
  exact fun _ h => nomatch h
set_option maxRecDepth 65536 in
theorem own_ok9 (Z : State) (a0 : Array Value) (hw : ∀ d ∈ tables_1, d.before a0 Z = true) : MOk Z a0 own_CT own_MT own_m9 := by
  have w := fun (k : Nat) (d : Jvm.Cond) (h : tables_1[k]? = some d) => hw d (List.mem_of_getElem? h)
  refine mOk_of own_pn9 own_d9 ?_
  refine List.forall_mem_cons.mpr ⟨trivial, ?_⟩
  refine List.forall_mem_cons.mpr ⟨(⟨_, rfl, rfl, w 59 _ rfl, w 11 _ rfl, w 12 _ rfl⟩ : LinkOk Z a0 own_CT own_MT own_m9.1.cls own_m9.1.name own_m9.2.2.2.1 (1, .invokespecial 1, 3, 16, 0, 0, .null, .int)), ?_⟩
  refine List.forall_mem_cons.mpr ⟨(⟨rfl, rfl, rfl⟩ : LinkOk Z a0 own_CT own_MT own_m9.1.cls own_m9.1.name own_m9.2.2.2.1 (4, .return_, 1, 30, 0, 0, .null, .int)), ?_⟩
  exact fun _ h => nomatch h
set_option maxRecDepth 65536 in
theorem own_ok10 (Z : State) (a0 : Array Value) (hw : ∀ d ∈ tables_1, d.before a0 Z = true) : MOk Z a0 own_CT own_MT own_m10 := by
  have w := fun (k : Nat) (d : Jvm.Cond) (h : tables_1[k]? = some d) => hw d (List.mem_of_getElem? h)
  refine mOk_of own_pn10 own_d10 ?_
  refine List.forall_mem_cons.mpr ⟨(⟨_, _, _, _, rfl, rfl, rfl, w 75 _ rfl⟩ : LinkOk Z a0 own_CT own_MT own_m10.1.cls own_m10.1.name own_m10.2.2.2.1 (0, .new 4, 3, 14, 0, 0, .null, .int)), ?_⟩
  refine List.forall_mem_cons.mpr ⟨trivial, ?_⟩
  refine List.forall_mem_cons.mpr ⟨trivial, ?_⟩
  refine List.forall_mem_cons.mpr ⟨(⟨_, _, _, _, _, rfl, rfl, rfl, rfl, Or.inl (w 13 _ rfl)⟩ : LinkOk Z a0 own_CT own_MT own_m10.1.cls own_m10.1.name own_m10.2.2.2.1 (5, .getfield 14, 3, 2, 0, 0, .null, .int)), ?_⟩
  refine List.forall_mem_cons.mpr ⟨trivial, ?_⟩
  refine List.forall_mem_cons.mpr ⟨(⟨_, _, _, _, _, rfl, rfl, rfl, rfl, w 76 _ rfl⟩ : LinkOk Z a0 own_CT own_MT own_m10.1.cls own_m10.1.name own_m10.2.2.2.1 (9, .getfield 49, 3, 21, 1, 3, .null, .int)), ?_⟩
  refine List.forall_mem_cons.mpr ⟨trivial, ?_⟩
  refine List.forall_mem_cons.mpr ⟨(⟨_, _, _, _, _, rfl, rfl, rfl, rfl, w 77 _ rfl⟩ : LinkOk Z a0 own_CT own_MT own_m10.1.cls own_m10.1.name own_m10.2.2.2.1 (13, .getfield 70, 3, 21, 1, 4, .null, .int)), ?_⟩
  refine List.forall_mem_cons.mpr ⟨(⟨_, _, rfl, rfl, rfl, own_c2 Z a0 hw, w 7 _ rfl, w 8 _ rfl, rfl, rfl⟩ : LinkOk Z a0 own_CT own_MT own_m10.1.cls own_m10.1.name own_m10.2.2.2.1 (16, .invokespecial 3, 3, 41, 2, 0, .null, .int)), ?_⟩
  refine List.forall_mem_cons.mpr ⟨(⟨rfl, rfl, _, rfl, rfl⟩ : LinkOk Z a0 own_CT own_MT own_m10.1.cls own_m10.1.name own_m10.2.2.2.1 (19, .areturn, 1, 34, 0, 0, .null, .int)), ?_⟩
  exact fun _ h => nomatch h
end Words
theorem own_ct (Z : State) (a0 : Array Value) (hw : ∀ d ∈ tables_1, d.before a0 Z = true) : CTOk Z a0 own_CT := by
  have w := fun (k : Nat) (d : Jvm.Cond) (h : tables_1[k]? = some d) => hw d (List.mem_of_getElem? h)
  refine ctOk_of ?_
  refine List.forall_mem_cons.mpr ⟨cOk_of (w 2 _ rfl) (w 3 _ rfl) ?_ (by decide +kernel), ?_⟩
  · refine List.forall_mem_cons.mpr ⟨⟨w 14 _ rfl, by decide +kernel, rfl⟩, ?_⟩
    refine List.forall_mem_cons.mpr ⟨⟨w 16 _ rfl, by decide +kernel, rfl⟩, ?_⟩
    refine List.forall_mem_cons.mpr ⟨⟨w 18 _ rfl, by decide +kernel, rfl⟩, ?_⟩
    exact fun _ h => nomatch h
  refine List.forall_mem_cons.mpr ⟨cOk_of (w 49 _ rfl) (w 50 _ rfl) ?_ (by decide +kernel), ?_⟩
  · refine List.forall_mem_cons.mpr ⟨⟨w 61 _ rfl, by decide +kernel, rfl⟩, ?_⟩
    refine List.forall_mem_cons.mpr ⟨⟨w 63 _ rfl, by decide +kernel, rfl⟩, ?_⟩
    refine List.forall_mem_cons.mpr ⟨⟨w 65 _ rfl, by decide +kernel, rfl⟩, ?_⟩
    refine List.forall_mem_cons.mpr ⟨⟨w 67 _ rfl, by decide +kernel, rfl⟩, ?_⟩
    refine List.forall_mem_cons.mpr ⟨⟨w 69 _ rfl, by decide +kernel, rfl⟩, ?_⟩
    exact fun _ h => nomatch h
  exact fun _ h => nomatch h
theorem own_mt (Z : State) (a0 : Array Value) (hw : ∀ d ∈ tables_1, d.before a0 Z = true) : ∀ k M, nth own_MT k = some M → MOk Z a0 own_CT own_MT M := by
  refine mtOk_of ?_
  refine List.forall_mem_cons.mpr ⟨own_ok0 Z a0 hw, ?_⟩
  refine List.forall_mem_cons.mpr ⟨own_ok1 Z a0 hw, ?_⟩
  refine List.forall_mem_cons.mpr ⟨own_ok2 Z a0 hw, ?_⟩
  refine List.forall_mem_cons.mpr ⟨own_ok3 Z a0 hw, ?_⟩
  refine List.forall_mem_cons.mpr ⟨own_ok4 Z a0 hw, ?_⟩
  refine List.forall_mem_cons.mpr ⟨own_ok5 Z a0 hw, ?_⟩
  refine List.forall_mem_cons.mpr ⟨own_ok6 Z a0 hw, ?_⟩
  refine List.forall_mem_cons.mpr ⟨own_ok7 Z a0 hw, ?_⟩
  refine List.forall_mem_cons.mpr ⟨own_ok8 Z a0 hw, ?_⟩
  refine List.forall_mem_cons.mpr ⟨own_ok9 Z a0 hw, ?_⟩
  refine List.forall_mem_cons.mpr ⟨own_ok10 Z a0 hw, ?_⟩
  exact fun _ h => nomatch h
def own_as : List SVal := [⟨.arg 0, .int⟩, ⟨.arg 1, .int⟩, ⟨.arg 2, .int⟩, ⟨.arg 3, .int⟩]
abbrev own_A (x0 : Int32) (x1 : Int32) (x2 : Int32) (x3 : Int32) : Array Value := #[.int x0, .int x1, .int x2, .int x3]
/-- the law, evaluated whole under assumed facts -/
def own_run (Γ : List (Term × Term)) (Γc : List CFact) (n : Nat) : Option Jvm.OwnEv.Out := ev 4 own_CT own_MT Γ Γc n 9 192 own_m0 own_r0 ⟨0, entryS own_as 16, [], []⟩ [] 24 1152
/-- at these arguments the law returns 1: there are facts, true of them, under which its evaluation ends in 1 -/
def own_Good (Z : State) (x0 : Int32) (x1 : Int32) (x2 : Int32) (x3 : Int32) : Prop := ∃ (Γ : List (Term × Term)) (Γc : List CFact) (n : Nat), (∀ q ∈ Γ, q.2.closed = true ∧ ∃ v, q.1.eval (own_A x0 x1 x2 x3) Z none [] Z = some v ∧ q.2.eval (own_A x0 x1 x2 x3) Z none [] Z = some v) ∧ (∀ q ∈ Γc, ∃ x y : Int32, q.2.1.eval (own_A x0 x1 x2 x3) Z none [] Z = some (.int x) ∧ q.2.2.1.eval (own_A x0 x1 x2 x3) Z none [] Z = some (.int y) ∧ if_icmp.holds q.1 x y = q.2.2.2) ∧ isOne (own_run Γ Γc n) = true
theorem own_met (l : Launch) (Z : State) (a0 : Array Value) (hw : ∀ d ∈ tables_1, d.before a0 Z = true) (ws : List Jvm.Cond) (x0 : Int32) (x1 : Int32) (x2 : Int32) (x3 : Int32) (h0 : Heap) (n0 : Nat) (Z0 : n0 ≤ h0.size) (G : own_Good Z x0 x1 x2 x3) :
    MetFree l x (head1 (Jvm.Cond.code x code maxLocals ret :: ws) room_1) (fun a U => a = own_A x0 x1 x2 x3 ∧ Z.Warmed39 U.vm ∧ U.heap = h0) (fun _ _ _ _ _ => True) (fun _ U o U' => ∃ v L, o = .returned v ∧ (v = some (.int 1) ∧ Fr n0 L) ∧ ReturnedEndW U o U' L 24 1152) := by
  obtain ⟨Γ, Γc, n, h1, h2, h3⟩ := G
  obtain ⟨H, c, s, h3⟩ := isOne_spec h3
  have B := ev_sound (nb := n0) l (own_ct Z a0 hw) (own_mt Z a0 hw) h1 h2 n _ _ own_m0 own_r0 _ [] _ _ _ _ _ _ h3 (own_ok0 Z a0 hw) (fun _ q => q)
  have I : Inv Z own_CT 4 (n0, n0) (own_A x0 x1 x2 x3) [] h0 := ⟨rfl, ⟨Nat.le_refl _, Z0⟩, fun _ _ h => (nomatch h), fun _ _ _ _ _ _ _ h => (nomatch h)⟩
  have D : DenStack (own_A x0 x1 x2 x3) Z own_as [.int x0, .int x1, .int x2, .int x3] := ⟨⟨rfl, rfl, rfl⟩, ⟨rfl, rfl, rfl⟩, ⟨rfl, rfl, rfl⟩, ⟨rfl, rfl, rfl⟩, trivial⟩
  have M := met1 (ws := ws) (M := own_m0) own_pn0 B (Ex.refl _) I D (rm := room_1) (Nat.le_refl _) (Nat.le_refl _) (Nat.le_refl _) (Nat.le_refl _)
  refine MetFree.mono M (fun _ _ q => q) (fun _ _ _ _ _ q => q) fun a U o U' hP hQ => ?_
  obtain ⟨w, L, k, j, A', rfl, f1, f2, f3, f4, -, -, f5⟩ := hQ
  refine ⟨w, L, rfl, ⟨?_, f2⟩, f1.1, f1.2.1, f1.2.2.1, f1.2.2.2.mono (Nat.le_trans (Nat.le_add_right _ _) f3) (Nat.le_trans (Nat.le_add_right _ _) f4)⟩
  cases w with
  | none => exact f5.elim
  | some v => exact congrArg some (Option.some.inj f5.2.1).symm
/-! ## The law's own part: the facts of each case -/
def own_nT : Term := .op2 .iand (.op2 .iushr (.arg 3) (.int 1)) (.int 3)
def own_kT : Term := .op2 .iand (.arg 3) (.int 1)
def own_B (i : Nat) : Term := .op2 .iand (.arg i) (.int 255)
def own_C (i : Nat) : Term := .op2 .iand (.op1 .i2b (.arg i)) (.int 255)
def own_Γ (n k : Nat) : List (Term × Term) := [(own_nT, .int (Int32.ofNat n)), (own_kT, .int (Int32.ofNat k)), (own_C 0, own_B 0), (own_C 1, own_B 1)]
def own_Γc (e0 e1 e2 : Bool) : List CFact := [(.ne, own_B 0, .arg 2, e0), (.ne, own_B 1, .arg 2, e1), (.ne, .int 48, .arg 2, e2), (.ne, .arg 2, .int 48, e2)]
def own_bb : List Bool := [true, false]
def own_t (n : Nat) : Bool := (List.range 2).all fun k => own_bb.all fun e0 => own_bb.all fun e1 => own_bb.all fun e2 => isOne (own_run (own_Γ n k) (own_Γc e0 e1 e2) 700)
set_option maxRecDepth 65536 in
theorem own_t0 : own_t 0 = true := by decide +kernel
set_option maxRecDepth 65536 in
theorem own_t1 : own_t 1 = true := by decide +kernel
set_option maxRecDepth 65536 in
theorem own_t2 : own_t 2 = true := by decide +kernel
set_option maxRecDepth 65536 in
theorem own_t3 : own_t 3 = true := by decide +kernel
theorem own_bbm (b : Bool) : b ∈ own_bb := by cases b <;> simp [own_bb]
theorem own_go {n k : Nat} (hn : n < 4) (hk : k < 2) (e0 e1 e2 : Bool) : isOne (own_run (own_Γ n k) (own_Γc e0 e1 e2) 700) = true := by
  have t : own_t n = true := by
    have : n = 0 ∨ n = 1 ∨ n = 2 ∨ n = 3 := by omega
    rcases this with rfl | rfl | rfl | rfl
    · exact own_t0
    · exact own_t1
    · exact own_t2
    · exact own_t3
  exact List.all_eq_true.mp (List.all_eq_true.mp (List.all_eq_true.mp (List.all_eq_true.mp t k (List.mem_range.mpr hk)) e0 (own_bbm _)) e1 (own_bbm _)) e2 (own_bbm _)
theorem own_byte (x : Int32) : (x.toInt8.toInt32 &&& 255) = x &&& 255 := by
  apply Int32.toBitVec_inj.mp
  rw [Int32.toBitVec_and, Int32.toBitVec_and]
  have e : x.toInt8.toInt32.toBitVec = (x.toBitVec.signExtend 8).signExtend 32 := by simp
  have e2 : (255 : Int32).toBitVec = 255#32 := rfl
  rw [e, e2]
  apply BitVec.eq_of_getLsbD_eq
  intro i hi
  rw [BitVec.getLsbD_and, BitVec.getLsbD_and]
  by_cases h : i < 8
  · rw [BitVec.getLsbD_signExtend, BitVec.getLsbD_signExtend]
    simp [hi, h, show i < 32 by omega]
  · have : (255#32).getLsbD i = false := by
      have : ∀ j : Fin 32, 8 ≤ j.val → (255#32).getLsbD j.val = false := by decide
      exact this ⟨i, hi⟩ (by show 8 ≤ i; omega)
    rw [this, Bool.and_false, Bool.and_false]
theorem own_swap (x : Int32) : if_icmp.holds .ne 48 x = if_icmp.holds .ne x 48 := by
  show (!((48 : Int32) == x)) = (!(x == 48))
  rw [Bool.beq_comm]
theorem own_good (Z : State) (x0 : Int32) (x1 : Int32) (x2 : Int32) (x3 : Int32) : own_Good Z x0 x1 x2 x3 := by
  obtain ⟨w, hw⟩ : ∃ w : Int32, (Term.op2 .iushr (.arg 3) (.int 1)).eval (own_A x0 x1 x2 x3) Z none [] Z = some (.int w) := ⟨_, rfl⟩
  have N : ∃ n : Nat, n < 4 ∧ own_nT.eval (own_A x0 x1 x2 x3) Z none [] Z = some (.int (Int32.ofNat n)) := by
    have q := evIand hw (b := .int 3) (y := 3) rfl
    rcases and3 w with h | h | h | h
    · exact ⟨0, by omega, by rw [h] at q; exact q⟩
    · exact ⟨1, by omega, by rw [h] at q; exact q⟩
    · exact ⟨2, by omega, by rw [h] at q; exact q⟩
    · exact ⟨3, by omega, by rw [h] at q; exact q⟩
  have K : ∃ k : Nat, k < 2 ∧ x3 &&& 1 = Int32.ofNat k := by
    rcases and1 x3 with h | h
    · exact ⟨0, by omega, h⟩
    · exact ⟨1, by omega, h⟩
  obtain ⟨n, hn, en⟩ := N
  obtain ⟨k, hk, ek⟩ := K
  refine ⟨own_Γ n k, own_Γc (if_icmp.holds .ne (x0 &&& 255) x2) (if_icmp.holds .ne (x1 &&& 255) x2) (if_icmp.holds .ne x2 48), 700, ?_, ?_, own_go hn hk _ _ _⟩
  · exact allC (tInt en rfl) (allC (tInt (x := x3 &&& 1) rfl ek) (allC (tTerm (v := .int (x0.toInt8.toInt32 &&& 255)) (w := .int (x0 &&& 255)) rfl rfl rfl (by rw [own_byte])) (allC (tTerm (v := .int (x1.toInt8.toInt32 &&& 255)) (w := .int (x1 &&& 255)) rfl rfl rfl (by rw [own_byte])) Jvm.OwnEv.all0)))
  · exact allC (bCmp (x := x0 &&& 255) (y := x2) rfl rfl rfl) (allC (bCmp (x := x1 &&& 255) (y := x2) rfl rfl rfl) (allC (bCmp (x := 48) (y := x2) rfl rfl (own_swap x2)) (allC (bCmp (x := x2) (y := 48) rfl rfl rfl) Jvm.OwnEv.all0)))
set_option maxRecDepth 65536 in
set_option maxHeartbeats 40000000 in
theorem comes_1 {Post : Tables → Env → Array Value → State → Outcome → State → Prop} (hpost : ∀ tb e args s v u, (limb_1_1.after args s (.returned v) u = true ∧ limb_1_2.after args s (.returned v) u = true ∧ True) → ReturnedEndW s (.returned v) u (Jvm.fieldLocs frame_1_writes args s ++ Jvm.arrayLocs frame_1_arrays args s ++ Jvm.staticLocs frame_1_statics s) 24 1152 → Post tb e args s (.returned v) u) :
    ArmFor flags0 classFile x code maxLocals ret World_1 tables_1 room_1 Calls_1 rest_1 Pre_1 Post := by
  intro l hfl _ _ p e ha hc hk s m args below hf hA hF happ hP
  obtain ⟨hcalls, hrest, hpre⟩ := hP
  obtain ⟨-, -, -, hnamed, -, -, -, hat⟩ := (Spec.applies_iff hf).mp happ
  obtain ⟨hg, hn⟩ := and_e (Cond.before_iff.mp (show (Jvm.Cond.and given_1 narrow_1).before args s = true from hpre))
  obtain ⟨g0, hg⟩ := and_e hg
  obtain ⟨g1, hg⟩ := and_e hg
  obtain ⟨g2, hg⟩ := and_e hg
  obtain ⟨g3, hg⟩ := and_e hg
  obtain ⟨w0, w1, w2, w3, rfl⟩ : ∃ w0 w1 w2 w3 : Value, args = #[w0, w1, w2, w3] := by
    have hs : args.size = 4 := by simpa [Cond.value, given_1] using g0
    obtain ⟨L⟩ := args
    match L, hs with
    | [w0, w1, w2, w3], _ => exact ⟨w0, w1, w2, w3, rfl⟩
  have hw := fun d (hd : d ∈ tables_1) => atoms_spec (ws := Jvm.Cond.code x code maxLocals ret :: tables_1) hat d (List.mem_cons_of_mem _ hd)
  obtain ⟨i0, e0⟩ := is_v g1
  obtain rfl : w0 = (.int i0) := Option.some.inj e0
  obtain ⟨i1, e1⟩ := is_v g2
  obtain rfl : w1 = (.int i1) := Option.some.inj e1
  obtain ⟨i2, e2⟩ := is_v g3
  obtain rfl : w2 = (.int i2) := Option.some.inj e2
  obtain ⟨i3, e3⟩ := is_v hg
  obtain rfl : w3 = (.int i3) := Option.some.inj e3
  obtain ⟨n, o, h1, h2, h3, _, L, rfl, ⟨rfl, N⟩, hq⟩ := own_met l s _ hw tables_1 i0 i1 i2 i3 s.heap s.heap.size (Nat.le_refl _) (own_good s i0 i1 i2 i3) p e ha hc hk s m _ below hf ((Spec.applies_iff_loose hf).mp happ).1 ⟨rfl, State.Warmed39.refl s, rfl⟩ trivial
  refine ⟨n, _, h1, h2, h3, hpost _ _ _ _ _ _ ⟨Cond.after_iff.mpr rfl, Cond.after_iff.mpr (eq_i res_at (Term.int_eval (1)) rfl), trivial⟩ ⟨hq.1, hq.2.1, hq.2.2.1, (hq.2.2.2.sift fun y hy => Or.inr (N y hy)).mono (by decide) (by decide)⟩⟩
theorem main_1_1 : Claimed_1_1 := comes_1 fun _ _ _ _ _ _ h hF => ⟨h.1, hF⟩
theorem main_1_2 : Claimed_1_2 := comes_1 fun _ _ _ _ _ _ h hF => ⟨h.2.1, hF⟩
end Jvm.Pilot.@@N@@
namespace Jvm.Pilot.@@N@@
open Jvm Jvm.ClassFile Sem Op Lib Jvm.Free Jvm.Stand Jvm.Pilot.@@N@@.Jvm.D
/-! MADE BY PROGRAM (witnessworld.py) out of the Statement's table words and the real class files: 16 classes; the members and pool entries that the words name. The judged class is class 1, her method 1. -/
namespace start1
open Jvm.ClassFile
def u (s : String) : CpInfo := .utf8 (stringToUtf16 s)
/-- a pool by its gaps: so many unusable entries, then the entry; so many at the end -/
def gap : Nat → List CpInfo → List CpInfo
  | 0, r => r
  | n + 1, r => .unusable :: gap n r
def poolList (es : List (Nat × CpInfo)) (last : Nat) : List CpInfo := es.foldr (fun e r => gap e.1 (e.2 :: r)) (gap last [])
def pool (es : List (Nat × CpInfo)) (last : Nat) : Array CpInfo := ⟨poolList es last⟩
def fileOf (pool : Array CpInfo) (this : Nat) (attrs : Array Attribute := #[]) (ms : Array MethodInfo := #[]) (fl : Nat := 33) (sup : Nat := 0) (ifs : Array Nat := #[]) (fds : Array FieldInfo := #[]) : ClassFile where
  minorVersion := 0
  majorVersion := 65
  constantPool := pool
  accessFlags := fl
  thisClass := this
  superClass := sup
  interfaces := ifs
  fields := fds
  methods := ms
  attributes := attrs
def plain (name : String) (sup : Option ClassId) : Class where
  name := name
  kind := .ordinary
  loader := none
  accessFlags := 33
  super := sup
  interfaces := #[]
  cf := none
  fields := #[]
  methods := #[]
  instanceTypes := #[]
  staticTypes := #[]
  resolved := #[]
  callSites := []
  init := .initialized
  statics := none
  mirror := none

def pool0 : Array CpInfo := pool [(5, u "<init>"), (0, u "()V"), (1, .class_ 10), (1, u "java/lang/Object")] 113

def k0c0 : Code := { maxStack := 0, maxLocals := 1, code := object_method_1_code, exceptionTable := #[], attributes := #[] }
def k0m0 : Method := { name := "<init>", desc := "()V", sig := { parameters := [], returnType := none }, accessFlags := 1, code := some k0c0 }
/-- java/lang/Object -/
def k0 : Class := { plain "java/lang/Object" none with
  accessFlags := 33
  interfaces := #[]
  cf := some (fileOf pool0 8 #[] #[{ accessFlags := 1, nameIndex := 5, descriptorIndex := 6, attributes := #[] }] 33 0 #[] #[])
  fields := #[]
  methods := #[k0m0]
  instanceTypes := #[]
  staticTypes := #[]
  resolved := Array.replicate 124 none
  statics := none }

def pool1 : Array CpInfo := pool [(2, .class_ 4), (1, u "java/lang/Object"), (0, u "<init>"), (0, u "()V"), (0, .class_ 8), (0, u "com/example/chain_to_verdict/chaintoverdict/DerReader"), (0, .methodref 7 10), (0, .nameAndType 5 11), (0, u "([B)V"), (0, .methodref 7 13), (0, .nameAndType 14 15), (0, u "nextIs"), (0, u "(I)Z"), (0, .string 17), (0, u "s"), (0, .methodref 7 19), (0, .nameAndType 20 21), (0, u "readSequence"), (0, u "(Ljava/lang/String;)Lcom/example/chain_to_verdict/chaintoverdict/DerReader;"), (0, .class_ 23), (0, u "com/example/chain_to_verdict/chaintoverdict/DerReaderNextIsPinLaw"), (2, u "law"), (0, u "(IIII)Z")] 8

def k1m0 : Method := { name := "<init>", desc := "()V", sig := { parameters := [], returnType := none }, accessFlags := 1, code := none }
def k1c1 : Code := { maxStack := 4, maxLocals := 16, code := code, exceptionTable := #[], attributes := #[] }
def k1m1 : Method := { name := "law", desc := "(IIII)Z", sig := { parameters := [.int, .int, .int, .int], returnType := some .boolean }, accessFlags := 9, code := some k1c1 }
/-- com/example/chain_to_verdict/chaintoverdict/DerReaderNextIsPinLaw -/
def k1 : Class := { plain "com/example/chain_to_verdict/chaintoverdict/DerReaderNextIsPinLaw" (some 0) with
  accessFlags := 49
  interfaces := #[]
  cf := some (fileOf pool1 22 #[] #[{ accessFlags := 1, nameIndex := 5, descriptorIndex := 6, attributes := #[] }, { accessFlags := 9, nameIndex := 26, descriptorIndex := 27, attributes := #[] }] 49 2 #[] #[])
  fields := #[]
  methods := #[k1m0, k1m1]
  instanceTypes := #[]
  staticTypes := #[]
  resolved := Array.replicate 36 none
  statics := none }

def pool2 : Array CpInfo := pool [(3, .methodref 4 5), (0, .class_ 6), (0, .nameAndType 7 8), (0, u "com/example/chain_to_verdict/chaintoverdict/DerReader"), (0, u "<init>"), (0, u "([BII)V"), (0, .methodref 10 11), (0, .class_ 12), (0, .nameAndType 7 13), (0, u "java/lang/Object"), (0, u "()V"), (0, .fieldref 4 15), (0, .nameAndType 16 17), (0, u "der"), (0, u "[B"), (0, .fieldref 4 19), (0, .nameAndType 20 21), (0, u "position"), (0, u "I"), (0, .fieldref 4 23), (0, .nameAndType 24 21), (0, u "end"), (6, .methodref 4 32), (0, .nameAndType 33 34), (0, u "expect"), (0, u "(ILjava/lang/String;)Lcom/example/chain_to_verdict/chaintoverdict/DerReader$Header;"), (0, .methodref 4 36), (0, .nameAndType 37 38), (0, u "contentReader"), (0, u "(Lcom/example/chain_to_verdict/chaintoverdict/DerReader$Header;)Lcom/example/chain_to_verdict/chaintoverdict/DerReader;"), (10, .fieldref 50 51), (0, .class_ 52), (0, .nameAndType 53 21), (0, u "com/example/chain_to_verdict/chaintoverdict/DerReader$Header"), (0, u "contentStart"), (16, .fieldref 50 71), (0, .nameAndType 72 21), (0, u "contentEnd"), (36, .methodref 4 110), (0, .nameAndType 111 112), (0, u "readHeader"), (0, u "(Ljava/lang/String;)Lcom/example/chain_to_verdict/chaintoverdict/DerReader$Header;"), (0, .fieldref 50 114), (0, .nameAndType 115 21), (0, u "identifier"), (8, .class_ 125), (0, u "com/example/chain_to_verdict/chaintoverdict/DerReader$Tagged"), (23, u "UNIVERSAL_NAMES"), (0, u "Ljava/util/Map;"), (23, .methodref 4 175), (0, .nameAndType 176 177), (0, u "readLength"), (0, u "(ILjava/lang/String;)J"), (3, .methodref 50 182), (0, .nameAndType 7 183), (0, u "(IIIII)V"), (10, .long 128), (23, u "BOOLEAN"), (1, u "INTEGER"), (3, u "NULL"), (3, u "ENUMERATED"), (1, u "SEQUENCE"), (1, u "SET"), (7, u "OCTET_STRING"), (2, u "OBJECT_IDENTIFIER"), (6, u "CLASS_AND_FORM"), (1, u "CONTEXT_CONSTRUCTED"), (1, u "HIGH_TAG_NUMBER"), (1, u "MAX_TAG_NUMBER_OCTETS"), (0, u "MAX_LENGTH_OCTETS"), (0, u "MAX_INTEGER_OCTETS"), (1, u "([B)V"), (5, u "nextIs"), (0, u "(I)Z"), (0, u "readSequence"), (0, u "(Ljava/lang/String;)Lcom/example/chain_to_verdict/chaintoverdict/DerReader;")] 59

def k2c0 : Code := { maxStack := 4, maxLocals := 2, code := prog_14_method_1_code, exceptionTable := #[], attributes := #[] }
def k2m0 : Method := { name := "<init>", desc := "([B)V", sig := { parameters := [(.array .byte)], returnType := none }, accessFlags := 0, code := some k2c0 }
def k2c1 : Code := { maxStack := 2, maxLocals := 4, code := prog_14_method_2_code, exceptionTable := #[], attributes := #[] }
def k2m1 : Method := { name := "<init>", desc := "([BII)V", sig := { parameters := [(.array .byte), .int, .int], returnType := none }, accessFlags := 2, code := some k2c1 }
def k2c2 : Code := { maxStack := 2, maxLocals := 2, code := prog_14_method_4_code, exceptionTable := #[], attributes := #[] }
def k2m2 : Method := { name := "nextIs", desc := "(I)Z", sig := { parameters := [.int], returnType := some .boolean }, accessFlags := 0, code := some k2c2 }
def k2c3 : Code := { maxStack := 4, maxLocals := 2, code := prog_14_method_7_code, exceptionTable := #[], attributes := #[] }
def k2m3 : Method := { name := "readSequence", desc := "(Ljava/lang/String;)Lcom/example/chain_to_verdict/chaintoverdict/DerReader;", sig := { parameters := [(.object "java/lang/String")], returnType := some (.object "com/example/chain_to_verdict/chaintoverdict/DerReader") }, accessFlags := 0, code := some k2c3 }
def k2c4 : Code := { maxStack := 5, maxLocals := 2, code := prog_14_method_21_code, exceptionTable := #[], attributes := #[] }
def k2m4 : Method := { name := "contentReader", desc := "(Lcom/example/chain_to_verdict/chaintoverdict/DerReader$Header;)Lcom/example/chain_to_verdict/chaintoverdict/DerReader;", sig := { parameters := [(.object "com/example/chain_to_verdict/chaintoverdict/DerReader$Header")], returnType := some (.object "com/example/chain_to_verdict/chaintoverdict/DerReader") }, accessFlags := 2, code := some k2c4 }
def k2c5 : Code := { maxStack := 4, maxLocals := 4, code := prog_14_method_22_code, exceptionTable := #[], attributes := #[] }
def k2m5 : Method := { name := "expect", desc := "(ILjava/lang/String;)Lcom/example/chain_to_verdict/chaintoverdict/DerReader$Header;", sig := { parameters := [.int, (.object "java/lang/String")], returnType := some (.object "com/example/chain_to_verdict/chaintoverdict/DerReader$Header") }, accessFlags := 2, code := some k2c5 }
def k2c6 : Code := { maxStack := 8, maxLocals := 8, code := prog_14_method_23_code, exceptionTable := #[], attributes := #[] }
def k2m6 : Method := { name := "readHeader", desc := "(Ljava/lang/String;)Lcom/example/chain_to_verdict/chaintoverdict/DerReader$Header;", sig := { parameters := [(.object "java/lang/String")], returnType := some (.object "com/example/chain_to_verdict/chaintoverdict/DerReader$Header") }, accessFlags := 2, code := some k2c6 }
def k2c7 : Code := { maxStack := 7, maxLocals := 8, code := prog_14_method_25_code, exceptionTable := #[], attributes := #[] }
def k2m7 : Method := { name := "readLength", desc := "(ILjava/lang/String;)J", sig := { parameters := [.int, (.object "java/lang/String")], returnType := some .long }, accessFlags := 2, code := some k2c7 }
/-- com/example/chain_to_verdict/chaintoverdict/DerReader -/
def k2 : Class := { plain "com/example/chain_to_verdict/chaintoverdict/DerReader" (some 0) with
  accessFlags := 48
  interfaces := #[]
  cf := some (fileOf pool2 4 #[.nestMembers #[50, 124]] #[{ accessFlags := 0, nameIndex := 7, descriptorIndex := 260, attributes := #[] }, { accessFlags := 2, nameIndex := 7, descriptorIndex := 8, attributes := #[] }, { accessFlags := 0, nameIndex := 266, descriptorIndex := 267, attributes := #[] }, { accessFlags := 0, nameIndex := 268, descriptorIndex := 269, attributes := #[] }, { accessFlags := 2, nameIndex := 37, descriptorIndex := 38, attributes := #[] }, { accessFlags := 2, nameIndex := 33, descriptorIndex := 34, attributes := #[] }, { accessFlags := 2, nameIndex := 111, descriptorIndex := 112, attributes := #[] }, { accessFlags := 2, nameIndex := 176, descriptorIndex := 177, attributes := #[] }] 48 10 #[] #[{ accessFlags := 24, nameIndex := 218, descriptorIndex := 21, attributes := #[] }, { accessFlags := 24, nameIndex := 220, descriptorIndex := 21, attributes := #[] }, { accessFlags := 24, nameIndex := 240, descriptorIndex := 21, attributes := #[] }, { accessFlags := 24, nameIndex := 224, descriptorIndex := 21, attributes := #[] }, { accessFlags := 24, nameIndex := 243, descriptorIndex := 21, attributes := #[] }, { accessFlags := 24, nameIndex := 228, descriptorIndex := 21, attributes := #[] }, { accessFlags := 24, nameIndex := 230, descriptorIndex := 21, attributes := #[] }, { accessFlags := 24, nameIndex := 232, descriptorIndex := 21, attributes := #[] }, { accessFlags := 26, nameIndex := 149, descriptorIndex := 150, attributes := #[] }, { accessFlags := 26, nameIndex := 250, descriptorIndex := 21, attributes := #[] }, { accessFlags := 26, nameIndex := 252, descriptorIndex := 21, attributes := #[] }, { accessFlags := 26, nameIndex := 254, descriptorIndex := 21, attributes := #[] }, { accessFlags := 26, nameIndex := 256, descriptorIndex := 21, attributes := #[] }, { accessFlags := 26, nameIndex := 257, descriptorIndex := 21, attributes := #[] }, { accessFlags := 26, nameIndex := 258, descriptorIndex := 21, attributes := #[] }, { accessFlags := 18, nameIndex := 16, descriptorIndex := 17, attributes := #[] }, { accessFlags := 18, nameIndex := 24, descriptorIndex := 21, attributes := #[] }, { accessFlags := 2, nameIndex := 20, descriptorIndex := 21, attributes := #[] }])
  fields := #[{ name := "BOOLEAN", type := .int, accessFlags := 24, slot := 0, constantValue := 0 }, { name := "INTEGER", type := .int, accessFlags := 24, slot := 1, constantValue := 0 }, { name := "OCTET_STRING", type := .int, accessFlags := 24, slot := 2, constantValue := 0 }, { name := "NULL", type := .int, accessFlags := 24, slot := 3, constantValue := 0 }, { name := "OBJECT_IDENTIFIER", type := .int, accessFlags := 24, slot := 4, constantValue := 0 }, { name := "ENUMERATED", type := .int, accessFlags := 24, slot := 5, constantValue := 0 }, { name := "SEQUENCE", type := .int, accessFlags := 24, slot := 6, constantValue := 0 }, { name := "SET", type := .int, accessFlags := 24, slot := 7, constantValue := 0 }, { name := "UNIVERSAL_NAMES", type := (.object "java/util/Map"), accessFlags := 26, slot := 8, constantValue := 0 }, { name := "CLASS_AND_FORM", type := .int, accessFlags := 26, slot := 9, constantValue := 0 }, { name := "CONTEXT_CONSTRUCTED", type := .int, accessFlags := 26, slot := 10, constantValue := 0 }, { name := "HIGH_TAG_NUMBER", type := .int, accessFlags := 26, slot := 11, constantValue := 0 }, { name := "MAX_TAG_NUMBER_OCTETS", type := .int, accessFlags := 26, slot := 12, constantValue := 0 }, { name := "MAX_LENGTH_OCTETS", type := .int, accessFlags := 26, slot := 13, constantValue := 0 }, { name := "MAX_INTEGER_OCTETS", type := .int, accessFlags := 26, slot := 14, constantValue := 0 }, { name := "der", type := (.array .byte), accessFlags := 18, slot := 0, constantValue := 0 }, { name := "end", type := .int, accessFlags := 18, slot := 1, constantValue := 0 }, { name := "position", type := .int, accessFlags := 2, slot := 2, constantValue := 0 }]
  methods := #[k2m0, k2m1, k2m2, k2m3, k2m4, k2m5, k2m6, k2m7]
  instanceTypes := #[(.array .byte), .int, .int]
  staticTypes := #[.int, .int, .int, .int, .int, .int, .int, .int, (.object "java/util/Map"), .int, .int, .int, .int, .int, .int]
  resolved := (((((Array.replicate 329 none).set! 49 (some (.field 10 3))).set! 50 (some (.cls 10))).set! 70 (some (.field 10 4))).set! 113 (some (.field 10 0))).set! 181 (some (.method ⟨10, 0⟩))
  statics := none }

def pool3 : Array CpInfo := pool [(1, .class_ 2), (0, u "java/io/Serializable"), (0, .class_ 4), (0, u "java/lang/Object")] 2

/-- java/io/Serializable -/
def k3 : Class := { plain "java/io/Serializable" (some 0) with
  accessFlags := 1537
  interfaces := #[]
  cf := some (fileOf pool3 1 #[] #[] 1537 3 #[] #[])
  fields := #[]
  methods := #[]
  instanceTypes := #[]
  staticTypes := #[]
  resolved := Array.replicate 7 none
  statics := none }

def pool4 : Array CpInfo := pool [(1, .class_ 2), (0, u "java/lang/Comparable"), (0, .class_ 4), (0, u "java/lang/Object")] 7

/-- java/lang/Comparable -/
def k4 : Class := { plain "java/lang/Comparable" (some 0) with
  accessFlags := 1537
  interfaces := #[]
  cf := some (fileOf pool4 1 #[] #[] 1537 3 #[] #[])
  fields := #[]
  methods := #[]
  instanceTypes := #[]
  staticTypes := #[]
  resolved := Array.replicate 12 none
  statics := none }

def pool5 : Array CpInfo := pool [(2, .class_ 4), (1, u "java/lang/CharSequence"), (42, .class_ 48), (0, u "java/lang/CharSequence$1CodePointIterator"), (10, .class_ 60), (0, u "java/lang/CharSequence$1CharIterator"), (5, .class_ 67), (0, u "java/lang/Object")] 63

/-- java/lang/CharSequence -/
def k5 : Class := { plain "java/lang/CharSequence" (some 0) with
  accessFlags := 1537
  interfaces := #[]
  cf := some (fileOf pool5 2 #[.nestMembers #[47, 59]] #[] 1537 66 #[] #[])
  fields := #[]
  methods := #[]
  instanceTypes := #[]
  staticTypes := #[]
  resolved := Array.replicate 131 none
  statics := none }

def pool6 : Array CpInfo := pool [(1, .class_ 2), (0, u "java/lang/constant/Constable"), (0, .class_ 4), (0, u "java/lang/Object")] 6

/-- java/lang/constant/Constable -/
def k6 : Class := { plain "java/lang/constant/Constable" (some 0) with
  accessFlags := 1537
  interfaces := #[]
  cf := some (fileOf pool6 1 #[] #[] 1537 3 #[] #[])
  fields := #[]
  methods := #[]
  instanceTypes := #[]
  staticTypes := #[]
  resolved := Array.replicate 11 none
  statics := none }

def pool7 : Array CpInfo := pool [(1, .class_ 2), (0, u "java/lang/constant/ConstantDesc"), (0, .class_ 4), (0, u "java/lang/Object")] 32

/-- java/lang/constant/ConstantDesc -/
def k7 : Class := { plain "java/lang/constant/ConstantDesc" (some 0) with
  accessFlags := 1537
  interfaces := #[]
  cf := some (fileOf pool7 1 #[] #[] 1537 3 #[] #[])
  fields := #[]
  methods := #[]
  instanceTypes := #[]
  staticTypes := #[]
  resolved := Array.replicate 37 none
  statics := none }

def pool8 : Array CpInfo := pool [(2, .class_ 4), (1, u "java/lang/Object"), (0, u "<init>"), (0, u "()V"), (3, .class_ 12), (1, u "java/lang/String"), (0, u "value"), (0, u "[B"), (2, u "coder"), (0, u "B"), (2, u "hash"), (0, u "I"), (2, u "hashIsZero"), (0, u "Z"), (13, u "COMPACT_STRINGS"), (534, .class_ 576), (0, u "java/lang/CharSequence"), (22, u "CASE_INSENSITIVE_ORDER"), (0, u "Ljava/util/Comparator;"), (500, u "serialPersistentFields"), (0, u "[Ljava/io/ObjectStreamField;"), (0, .class_ 1104), (0, u "java/lang/String$CaseInsensitiveComparator"), (1, .class_ 1107), (0, u "java/io/Serializable"), (0, .class_ 1109), (0, u "java/lang/Comparable"), (0, .class_ 1111), (0, u "java/lang/constant/Constable"), (0, .class_ 1113), (0, u "java/lang/constant/ConstantDesc"), (2, u "serialVersionUID"), (0, u "J"), (3, u "REPL"), (0, u "C"), (2, u "LATIN1"), (1, u "UTF16")] 323

def k8m0 : Method := { name := "<init>", desc := "()V", sig := { parameters := [], returnType := none }, accessFlags := 1, code := none }
/-- java/lang/String -/
def k8 : Class := { plain "java/lang/String" (some 0) with
  accessFlags := 49
  interfaces := #[3, 4, 5, 6, 7]
  cf := some (fileOf pool8 10 #[.nestMembers #[1103]] #[{ accessFlags := 1, nameIndex := 5, descriptorIndex := 6, attributes := #[] }] 49 2 #[1106, 1108, 575, 1110, 1112] #[{ accessFlags := 18, nameIndex := 13, descriptorIndex := 14, attributes := #[] }, { accessFlags := 18, nameIndex := 17, descriptorIndex := 18, attributes := #[] }, { accessFlags := 2, nameIndex := 21, descriptorIndex := 22, attributes := #[] }, { accessFlags := 2, nameIndex := 25, descriptorIndex := 26, attributes := #[] }, { accessFlags := 26, nameIndex := 1116, descriptorIndex := 1117, attributes := #[] }, { accessFlags := 24, nameIndex := 40, descriptorIndex := 26, attributes := #[] }, { accessFlags := 26, nameIndex := 1101, descriptorIndex := 1102, attributes := #[] }, { accessFlags := 26, nameIndex := 1121, descriptorIndex := 1122, attributes := #[] }, { accessFlags := 25, nameIndex := 599, descriptorIndex := 600, attributes := #[] }, { accessFlags := 24, nameIndex := 1125, descriptorIndex := 18, attributes := #[] }, { accessFlags := 24, nameIndex := 1127, descriptorIndex := 18, attributes := #[] }])
  fields := #[{ name := "value", type := (.array .byte), accessFlags := 18, slot := 0, constantValue := 0 }, { name := "coder", type := .byte, accessFlags := 18, slot := 1, constantValue := 0 }, { name := "hash", type := .int, accessFlags := 2, slot := 2, constantValue := 0 }, { name := "hashIsZero", type := .boolean, accessFlags := 2, slot := 3, constantValue := 0 }, { name := "serialVersionUID", type := .long, accessFlags := 26, slot := 0, constantValue := 0 }, { name := "COMPACT_STRINGS", type := .boolean, accessFlags := 24, slot := 1, constantValue := 0 }, { name := "serialPersistentFields", type := (.array (.object "java/io/ObjectStreamField")), accessFlags := 26, slot := 2, constantValue := 0 }, { name := "REPL", type := .char, accessFlags := 26, slot := 3, constantValue := 0 }, { name := "CASE_INSENSITIVE_ORDER", type := (.object "java/util/Comparator"), accessFlags := 25, slot := 4, constantValue := 0 }, { name := "LATIN1", type := .byte, accessFlags := 24, slot := 5, constantValue := 0 }, { name := "UTF16", type := .byte, accessFlags := 24, slot := 6, constantValue := 0 }]
  methods := #[k8m0]
  instanceTypes := #[(.array .byte), .byte, .int, .boolean]
  staticTypes := #[.long, .boolean, (.array (.object "java/io/ObjectStreamField")), .char, (.object "java/util/Comparator"), .byte, .byte]
  resolved := Array.replicate 1451 none
  statics := none }

def pool9 : Array CpInfo := pool [(1, .methodref 2 3), (0, .class_ 4), (0, .nameAndType 5 6), (0, u "java/lang/Object"), (0, u "<init>"), (0, u "()V"), (0, .class_ 8), (0, u "java/lang/Record")] 13

def k9c0 : Code := { maxStack := 1, maxLocals := 1, code := jdk_30_method_1_code, exceptionTable := #[], attributes := #[] }
def k9m0 : Method := { name := "<init>", desc := "()V", sig := { parameters := [], returnType := none }, accessFlags := 4, code := some k9c0 }
/-- java/lang/Record -/
def k9 : Class := { plain "java/lang/Record" (some 0) with
  accessFlags := 1057
  interfaces := #[]
  cf := some (fileOf pool9 7 #[] #[{ accessFlags := 4, nameIndex := 5, descriptorIndex := 6, attributes := #[] }] 1057 2 #[] #[])
  fields := #[]
  methods := #[k9m0]
  instanceTypes := #[]
  staticTypes := #[]
  resolved := Array.replicate 22 none
  statics := none }

def pool10 : Array CpInfo := pool [(1, .methodref 2 3), (0, .class_ 4), (0, .nameAndType 5 6), (0, u "java/lang/Record"), (0, u "<init>"), (0, u "()V"), (0, .fieldref 8 9), (0, .class_ 10), (0, .nameAndType 11 12), (0, u "com/example/chain_to_verdict/chaintoverdict/DerReader$Header"), (0, u "identifier"), (0, u "I"), (0, .fieldref 8 14), (0, .nameAndType 15 12), (0, u "tagNumber"), (0, .fieldref 8 17), (0, .nameAndType 18 12), (0, u "offset"), (0, .fieldref 8 20), (0, .nameAndType 21 12), (0, u "contentStart"), (0, .fieldref 8 23), (0, .nameAndType 24 12), (0, u "contentEnd"), (12, u "(IIIII)V"), (10, .class_ 49), (0, u "com/example/chain_to_verdict/chaintoverdict/DerReader")] 23

def k10c0 : Code := { maxStack := 2, maxLocals := 6, code := prog_15_method_1_code, exceptionTable := #[], attributes := #[] }
def k10m0 : Method := { name := "<init>", desc := "(IIIII)V", sig := { parameters := [.int, .int, .int, .int, .int], returnType := none }, accessFlags := 2, code := some k10c0 }
/-- com/example/chain_to_verdict/chaintoverdict/DerReader$Header -/
def k10 : Class := { plain "com/example/chain_to_verdict/chaintoverdict/DerReader$Header" (some 9) with
  accessFlags := 48
  interfaces := #[]
  cf := some (fileOf pool10 8 #[.nestHost 48] #[{ accessFlags := 2, nameIndex := 5, descriptorIndex := 37, attributes := #[] }] 48 2 #[] #[{ accessFlags := 18, nameIndex := 11, descriptorIndex := 12, attributes := #[] }, { accessFlags := 18, nameIndex := 15, descriptorIndex := 12, attributes := #[] }, { accessFlags := 18, nameIndex := 18, descriptorIndex := 12, attributes := #[] }, { accessFlags := 18, nameIndex := 21, descriptorIndex := 12, attributes := #[] }, { accessFlags := 18, nameIndex := 24, descriptorIndex := 12, attributes := #[] }])
  fields := #[{ name := "identifier", type := .int, accessFlags := 18, slot := 0, constantValue := 0 }, { name := "tagNumber", type := .int, accessFlags := 18, slot := 1, constantValue := 0 }, { name := "offset", type := .int, accessFlags := 18, slot := 2, constantValue := 0 }, { name := "contentStart", type := .int, accessFlags := 18, slot := 3, constantValue := 0 }, { name := "contentEnd", type := .int, accessFlags := 18, slot := 4, constantValue := 0 }]
  methods := #[k10m0]
  instanceTypes := #[.int, .int, .int, .int, .int]
  staticTypes := #[]
  resolved := Array.replicate 73 none
  statics := none }

def pool11 : Array CpInfo := pool [(1, u "java/lang/Cloneable"), (0, .class_ 1), (0, u "java/lang/Object"), (0, .class_ 3)] 3

/-- java/lang/Cloneable -/
def k11 : Class := { plain "java/lang/Cloneable" (some 0) with
  accessFlags := 1537
  interfaces := #[]
  cf := some (fileOf pool11 2 #[] #[] 1537 4 #[] #[])
  fields := #[]
  methods := #[]
  instanceTypes := #[]
  staticTypes := #[]
  resolved := Array.replicate 8 none
  statics := none }

/-- the primitive byte -/
def k12 : Class := { plain "byte" none with kind := .primitive 'B', accessFlags := 0x411 }
/-- [B -/
def k13 : Class := { plain "[B" (some 0) with kind := .array 12 .byte, interfaces := #[11, 3], accessFlags := 1041 }

/-- the primitive int -/
def k14 : Class := { plain "int" none with kind := .primitive 'I', accessFlags := 0x411 }
/-- [I -/
def k15 : Class := { plain "[I" (some 0) with kind := .array 14 .int, interfaces := #[11, 3], accessFlags := 1041 }

def heap : Heap := #[]
def classes : Array Class := #[k0, k1, k2, k3, k4, k5, k6, k7, k8, k9, k10, k11, k12, k13, k14, k15]
def interned : List (Array UInt16 × Addr) := []
def slotsUsed : Nat := 0
def theMethod : MethodId := ⟨1, 1⟩
def args0 : Array Value := #[.int 5, .int 7, .int 5, .int 3]
def aboutOver (below : List Frame) : State where
  vm := { classes := classes, interned := interned.toArray }
  heap := heap
  slotsUsed := slotsUsed
  threads := #[{ frames := .invoking theMethod args0 :: below }]
def below0 : List Frame := [.native { method := ⟨0, 0⟩, args := #[] }]
def about1 : State := aboutOver below0
def p0 : Program := .bare "" "" ""
def e0 : Env := launch0.env 0 0 0
theorem w_frames : about1.frames = Frame.invoking theMethod args0 :: below0 := rfl
set_option maxRecDepth 65536 in
theorem w_args : argsFit about1.vm theMethod args0 = true := by decide +kernel
set_option maxRecDepth 65536 in
theorem w_heap : heapFits about1 = true := by decide +kernel
set_option maxRecDepth 65536 in
theorem w_runnable : about1.curStatus? = some .runnable := by decide +kernel
set_option maxRecDepth 65536 in
theorem w_alone : about1.alone = true := by decide +kernel
set_option maxRecDepth 65536 in
theorem w_named : about1.methodNamed? x = some theMethod := by decide +kernel
set_option maxRecDepth 65536 in
theorem w_hears : about1.hears theMethod below0 = true := by decide +kernel
set_option maxRecDepth 65536 in
theorem w_ripe : about1.ripe theMethod args0 below0 = true := by decide +kernel
theorem w_running : about1.status = .running := rfl
set_option maxRecDepth 65536 in
theorem w_room : about1.hasRoom e0.platform room_1 = true :=
  launch0.hasRoom_least _ room_1 (by decide +kernel) (by decide +kernel) (by decide +kernel) (by decide +kernel) (by decide +kernel) (by decide +kernel)
theorem allAtoms_all (ts : List Jvm.Cond) (a : Array Jvm.Value) (st : Jvm.State) : (allAtoms ts).before a st = ts.all (fun c => c.before a st) := by
  induction ts with
  | nil => rfl
  | cons c t ih =>
    show (Jvm.Cond.and c (allAtoms t)).before a st = _
    rw [Jvm.Cond.before_and, ih, List.all_cons]
def words1 : List Jvm.Cond := Jvm.Cond.code x code maxLocals ret :: tables_1
/-- a 'code' word, met by the world's own term for the bytes: nothing is compared byte by byte -/
theorem code_word {y : MethodName} {bytes : ByteArray} {mx : Nat} {rt : Option FieldType} {a : Array Value} {s : State} {m : MethodId} {meth : Method} {c : Code} (h1 : s.methodNamed? y = some m) (h2 : s.vm.method? m = some meth) (h3 : meth.code = some c) (h4 : c.code = bytes)
    (h5 : (c.maxLocals == mx && c.exceptionTable.isEmpty && decide (c.maxStack ≤ mostOperands) && decide (meth.sig.returnType = rt) && !meth.locks && decide (parseMethodDescriptor y.desc = some meth.sig)) = true) : (Jvm.Cond.code y bytes mx rt).before a s = true := by
  simp only [Bool.and_eq_true, beq_iff_eq, Bool.not_eq_true', decide_eq_true_eq] at h5
  obtain ⟨⟨⟨⟨⟨g1, g2⟩, g3⟩, g4⟩, g5⟩, g6⟩ := h5
  simp [Cond.before, Cond.holds, Cond.value, h1, h2, h3, h4, g1, g2, g3, g4, g5, g6]
def isCode : Jvm.Cond → Bool
  | .code _ _ _ _ => true
  | _ => false
theorem all_split {L : List Jvm.Cond} {P : Jvm.Cond → Bool} (h1 : L.all (fun c => isCode c || P c) = true) (h2 : ∀ c ∈ L.filter isCode, P c = true) : L.all P = true := by
  refine List.all_eq_true.mpr fun c hc => ?_
  have h := List.all_eq_true.mp h1 c hc
  rcases Bool.eq_false_or_eq_true (isCode c) with hi | hi
  · exact h2 c (List.mem_filter.mpr ⟨hc, hi⟩)
  · simpa [hi] using h
set_option maxRecDepth 65536 in
theorem w_c0 : (Jvm.Cond.code x code maxLocals ret).before args0 about1 = true := code_word (m := ⟨1, 1⟩) (meth := k1m1) (c := k1c1) (by decide +kernel) rfl rfl rfl (by decide +kernel)
set_option maxRecDepth 65536 in
theorem w_c1 : (Jvm.Cond.code ({ cls := "com/example/chain_to_verdict/chaintoverdict/DerReader", name := "<init>", desc := "([B)V" } : Jvm.MethodName) prog_14_method_1_code (2 : Nat) (Option.none : Option Jvm.ClassFile.FieldType)).before args0 about1 = true := code_word (m := ⟨2, 0⟩) (meth := k2m0) (c := k2c0) (by decide +kernel) rfl rfl rfl (by decide +kernel)
set_option maxRecDepth 65536 in
theorem w_c2 : (Jvm.Cond.code ({ cls := "com/example/chain_to_verdict/chaintoverdict/DerReader", name := "<init>", desc := "([BII)V" } : Jvm.MethodName) prog_14_method_2_code (4 : Nat) (Option.none : Option Jvm.ClassFile.FieldType)).before args0 about1 = true := code_word (m := ⟨2, 1⟩) (meth := k2m1) (c := k2c1) (by decide +kernel) rfl rfl rfl (by decide +kernel)
set_option maxRecDepth 65536 in
theorem w_c3 : (Jvm.Cond.code ({ cls := "java/lang/Object", name := "<init>", desc := "()V" } : Jvm.MethodName) object_method_1_code (1 : Nat) (Option.none : Option Jvm.ClassFile.FieldType)).before args0 about1 = true := code_word (m := ⟨0, 0⟩) (meth := k0m0) (c := k0c0) (by decide +kernel) rfl rfl rfl (by decide +kernel)
set_option maxRecDepth 65536 in
theorem w_c4 : (Jvm.Cond.code ({ cls := "com/example/chain_to_verdict/chaintoverdict/DerReader", name := "nextIs", desc := "(I)Z" } : Jvm.MethodName) prog_14_method_4_code (2 : Nat) (Option.some Jvm.ClassFile.FieldType.boolean)).before args0 about1 = true := code_word (m := ⟨2, 2⟩) (meth := k2m2) (c := k2c2) (by decide +kernel) rfl rfl rfl (by decide +kernel)
set_option maxRecDepth 65536 in
theorem w_c5 : (Jvm.Cond.code ({ cls := "com/example/chain_to_verdict/chaintoverdict/DerReader", name := "readSequence", desc := "(Ljava/lang/String;)Lcom/example/chain_to_verdict/chaintoverdict/DerReader;" } : Jvm.MethodName) prog_14_method_7_code (2 : Nat) (Option.some (Jvm.ClassFile.FieldType.object "com/example/chain_to_verdict/chaintoverdict/DerReader"))).before args0 about1 = true := code_word (m := ⟨2, 3⟩) (meth := k2m3) (c := k2c3) (by decide +kernel) rfl rfl rfl (by decide +kernel)
set_option maxRecDepth 65536 in
theorem w_c6 : (Jvm.Cond.code ({ cls := "com/example/chain_to_verdict/chaintoverdict/DerReader", name := "expect", desc := "(ILjava/lang/String;)Lcom/example/chain_to_verdict/chaintoverdict/DerReader$Header;" } : Jvm.MethodName) prog_14_method_22_code (4 : Nat) (Option.some (Jvm.ClassFile.FieldType.object "com/example/chain_to_verdict/chaintoverdict/DerReader$Header"))).before args0 about1 = true := code_word (m := ⟨2, 5⟩) (meth := k2m5) (c := k2c5) (by decide +kernel) rfl rfl rfl (by decide +kernel)
set_option maxRecDepth 65536 in
theorem w_c7 : (Jvm.Cond.code ({ cls := "com/example/chain_to_verdict/chaintoverdict/DerReader", name := "readHeader", desc := "(Ljava/lang/String;)Lcom/example/chain_to_verdict/chaintoverdict/DerReader$Header;" } : Jvm.MethodName) prog_14_method_23_code (8 : Nat) (Option.some (Jvm.ClassFile.FieldType.object "com/example/chain_to_verdict/chaintoverdict/DerReader$Header"))).before args0 about1 = true := code_word (m := ⟨2, 6⟩) (meth := k2m6) (c := k2c6) (by decide +kernel) rfl rfl rfl (by decide +kernel)
set_option maxRecDepth 65536 in
theorem w_c8 : (Jvm.Cond.code ({ cls := "com/example/chain_to_verdict/chaintoverdict/DerReader", name := "readLength", desc := "(ILjava/lang/String;)J" } : Jvm.MethodName) prog_14_method_25_code (8 : Nat) (Option.some Jvm.ClassFile.FieldType.long)).before args0 about1 = true := code_word (m := ⟨2, 7⟩) (meth := k2m7) (c := k2c7) (by decide +kernel) rfl rfl rfl (by decide +kernel)
set_option maxRecDepth 65536 in
theorem w_c9 : (Jvm.Cond.code ({ cls := "com/example/chain_to_verdict/chaintoverdict/DerReader$Header", name := "<init>", desc := "(IIIII)V" } : Jvm.MethodName) prog_15_method_1_code (6 : Nat) (Option.none : Option Jvm.ClassFile.FieldType)).before args0 about1 = true := code_word (m := ⟨10, 0⟩) (meth := k10m0) (c := k10c0) (by decide +kernel) rfl rfl rfl (by decide +kernel)
set_option maxRecDepth 65536 in
theorem w_c10 : (Jvm.Cond.code ({ cls := "java/lang/Record", name := "<init>", desc := "()V" } : Jvm.MethodName) jdk_30_method_1_code (1 : Nat) (Option.none : Option Jvm.ClassFile.FieldType)).before args0 about1 = true := code_word (m := ⟨9, 0⟩) (meth := k9m0) (c := k9c0) (by decide +kernel) rfl rfl rfl (by decide +kernel)
set_option maxRecDepth 65536 in
theorem w_c11 : (Jvm.Cond.code ({ cls := "com/example/chain_to_verdict/chaintoverdict/DerReader", name := "contentReader", desc := "(Lcom/example/chain_to_verdict/chaintoverdict/DerReader$Header;)Lcom/example/chain_to_verdict/chaintoverdict/DerReader;" } : Jvm.MethodName) prog_14_method_21_code (2 : Nat) (Option.some (Jvm.ClassFile.FieldType.object "com/example/chain_to_verdict/chaintoverdict/DerReader"))).before args0 about1 = true := code_word (m := ⟨2, 4⟩) (meth := k2m4) (c := k2c4) (by decide +kernel) rfl rfl rfl (by decide +kernel)
def codes1 : List Jvm.Cond := [Jvm.Cond.code x code maxLocals ret, Jvm.Cond.code ({ cls := "com/example/chain_to_verdict/chaintoverdict/DerReader", name := "<init>", desc := "([B)V" } : Jvm.MethodName) prog_14_method_1_code (2 : Nat) (Option.none : Option Jvm.ClassFile.FieldType), Jvm.Cond.code ({ cls := "com/example/chain_to_verdict/chaintoverdict/DerReader", name := "<init>", desc := "([BII)V" } : Jvm.MethodName) prog_14_method_2_code (4 : Nat) (Option.none : Option Jvm.ClassFile.FieldType), Jvm.Cond.code ({ cls := "java/lang/Object", name := "<init>", desc := "()V" } : Jvm.MethodName) object_method_1_code (1 : Nat) (Option.none : Option Jvm.ClassFile.FieldType), Jvm.Cond.code ({ cls := "com/example/chain_to_verdict/chaintoverdict/DerReader", name := "nextIs", desc := "(I)Z" } : Jvm.MethodName) prog_14_method_4_code (2 : Nat) (Option.some Jvm.ClassFile.FieldType.boolean), Jvm.Cond.code ({ cls := "com/example/chain_to_verdict/chaintoverdict/DerReader", name := "readSequence", desc := "(Ljava/lang/String;)Lcom/example/chain_to_verdict/chaintoverdict/DerReader;" } : Jvm.MethodName) prog_14_method_7_code (2 : Nat) (Option.some (Jvm.ClassFile.FieldType.object "com/example/chain_to_verdict/chaintoverdict/DerReader")), Jvm.Cond.code ({ cls := "com/example/chain_to_verdict/chaintoverdict/DerReader", name := "expect", desc := "(ILjava/lang/String;)Lcom/example/chain_to_verdict/chaintoverdict/DerReader$Header;" } : Jvm.MethodName) prog_14_method_22_code (4 : Nat) (Option.some (Jvm.ClassFile.FieldType.object "com/example/chain_to_verdict/chaintoverdict/DerReader$Header")), Jvm.Cond.code ({ cls := "com/example/chain_to_verdict/chaintoverdict/DerReader", name := "readHeader", desc := "(Ljava/lang/String;)Lcom/example/chain_to_verdict/chaintoverdict/DerReader$Header;" } : Jvm.MethodName) prog_14_method_23_code (8 : Nat) (Option.some (Jvm.ClassFile.FieldType.object "com/example/chain_to_verdict/chaintoverdict/DerReader$Header")), Jvm.Cond.code ({ cls := "com/example/chain_to_verdict/chaintoverdict/DerReader", name := "readLength", desc := "(ILjava/lang/String;)J" } : Jvm.MethodName) prog_14_method_25_code (8 : Nat) (Option.some Jvm.ClassFile.FieldType.long), Jvm.Cond.code ({ cls := "com/example/chain_to_verdict/chaintoverdict/DerReader$Header", name := "<init>", desc := "(IIIII)V" } : Jvm.MethodName) prog_15_method_1_code (6 : Nat) (Option.none : Option Jvm.ClassFile.FieldType), Jvm.Cond.code ({ cls := "java/lang/Record", name := "<init>", desc := "()V" } : Jvm.MethodName) jdk_30_method_1_code (1 : Nat) (Option.none : Option Jvm.ClassFile.FieldType), Jvm.Cond.code ({ cls := "com/example/chain_to_verdict/chaintoverdict/DerReader", name := "contentReader", desc := "(Lcom/example/chain_to_verdict/chaintoverdict/DerReader$Header;)Lcom/example/chain_to_verdict/chaintoverdict/DerReader;" } : Jvm.MethodName) prog_14_method_21_code (2 : Nat) (Option.some (Jvm.ClassFile.FieldType.object "com/example/chain_to_verdict/chaintoverdict/DerReader"))]
set_option maxRecDepth 65536 in
theorem codes_eq : words1.filter isCode = codes1 := rfl
theorem w_codes : ∀ c ∈ words1.filter isCode, c.before args0 about1 = true := by
  rw [codes_eq]
  intro c hc
  simp only [codes1, List.mem_cons, List.not_mem_nil, or_false] at hc
  rcases hc with rfl | rfl | rfl | rfl | rfl | rfl | rfl | rfl | rfl | rfl | rfl | rfl
  · exact w_c0
  · exact w_c1
  · exact w_c2
  · exact w_c3
  · exact w_c4
  · exact w_c5
  · exact w_c6
  · exact w_c7
  · exact w_c8
  · exact w_c9
  · exact w_c10
  · exact w_c11
set_option maxRecDepth 65536 in
theorem w_t1 : (words1.take 24).all (fun c => isCode c || c.before args0 about1) = true := by decide +kernel
set_option maxRecDepth 65536 in
theorem w_t2 : ((words1.drop 24).take 24).all (fun c => isCode c || c.before args0 about1) = true := by decide +kernel
set_option maxRecDepth 65536 in
theorem w_t3 : (((words1.drop 24).drop 24).take 24).all (fun c => isCode c || c.before args0 about1) = true := by decide +kernel
set_option maxRecDepth 65536 in
theorem w_t4 : (((words1.drop 24).drop 24).drop 24).all (fun c => isCode c || c.before args0 about1) = true := by decide +kernel
theorem w_tables : (allAtoms (Jvm.Cond.code x code maxLocals ret :: tables_1)).before args0 about1 = true := by
  rw [allAtoms_all]
  show words1.all (fun c => c.before args0 about1) = true
  refine all_split ?_ w_codes
  rw [← List.take_append_drop 24 words1, List.all_append, w_t1, ← List.take_append_drop 24 (words1.drop 24), List.all_append, w_t2, ← List.take_append_drop 24 ((words1.drop 24).drop 24), List.all_append, w_t3, w_t4]
  rfl
set_option maxRecDepth 65536 in
theorem w_case : (Jvm.Cond.and given_1 narrow_1).before args0 about1 = true := by decide +kernel
theorem w_applies : (headSpec (Jvm.Cond.code x code maxLocals ret :: tables_1) room_1).applies x e0.platform about1 = true :=
  (Spec.applies_iff w_frames).mpr ⟨w_running, w_runnable, w_alone, w_named, w_hears, w_ripe, w_room, w_tables⟩
theorem atStart : AtStart classFile x code maxLocals ret World_1 tables_1 room_1 Calls_1 rest_1 Pre_1 launch0 p0 e0 about1 theMethod args0 below0 :=
  ⟨lists_1, trivial, launch0.admits_env _ _ _, launch0.least_env, fairChoices_fair.cas, fairChoices_fair.clock, w_frames, w_args, w_heap, w_applies, trivial, trivial, w_case⟩
end start1
theorem witness_1 : WitnessClaimed_1 := ⟨start1.p0, start1.e0, start1.about1, start1.theMethod, start1.args0, start1.below0, start1.atStart⟩
end Jvm.Pilot.@@N@@
