import JvmDerived
import JvmDerived.Pilot.@@N@@Statement
import JvmDerived.Pilot.@@N@@Code
set_option linter.unusedVariables false
set_option linter.unusedSimpArgs false
namespace Jvm.OwnEv
open Sem ClassFile Op Lib Jvm.Stand Jvm.Free Jvm.LawKit Jvm.RoadKit Jvm.Sym
/-! ## 1. The data of a world, and the evaluator's single moves -/
/-- a field: name, descriptor, type, final or not -/
abbrev FRow : Type := String × String × FieldType × Bool
/-- a class: name, number of slots, fields -/
abbrev CRow : Type := String × Nat × List FRow
/-- an object (class by its place in the table, values of its fields) or an array -/
abbrev Obj : Type := (Nat × List SVal) ⊕ (FieldType × List SVal)
abbrev AH : Type := List (Option Obj)
/-- pc, instruction, length, tag, two links, a constant, a type -/
abbrev Row : Type := Nat × Instr × Nat × Nat × Nat × Nat × Term × FieldType
/-- name, bytes, locals, result, number of parameters, rows -/
abbrev MRow : Type := MethodName × ByteArray × Nat × Option FieldType × Nat × List Row
abbrev CFact : Type := ClassFile.Cond × Term × Term × Bool

def nth {α : Type} : List α → Nat → Option α
  | [], _ => none
  | x :: _, 0 => some x
  | _ :: r, n + 1 => nth r n
theorem nth_eq {α : Type} : ∀ (L : List α) (n : Nat), nth L n = L[n]?
  | [], _ => rfl
  | _ :: _, 0 => rfl
  | _ :: r, n + 1 => by simpa [nth] using nth_eq r n
theorem nth_lt {α : Type} {L : List α} {n : Nat} {x : α} (h : nth L n = some x) : n < L.length := by
  rw [nth_eq] at h
  exact (List.getElem?_eq_some_iff.mp h).1
theorem nth_mem {α : Type} {L : List α} {n : Nat} {x : α} (h : nth L n = some x) : x ∈ L := by
  rw [nth_eq] at h
  exact List.mem_of_getElem? h
theorem nth_some {α : Type} {L : List α} {n : Nat} (h : n < L.length) : ∃ x, nth L n = some x := ⟨L[n], by rw [nth_eq]; exact List.getElem?_eq_getElem h⟩
theorem nth_set_self {α : Type} {L : List α} {n : Nat} (x : α) (h : n < L.length) : nth (L.set n x) n = some x := by rw [nth_eq, List.getElem?_set_self h]
theorem nth_set_ne {α : Type} {L : List α} {i j : Nat} (x : α) (h : i ≠ j) : nth (L.set i x) j = nth L j := by rw [nth_eq, nth_eq, List.getElem?_set_ne h]
theorem nth_append_lt {α : Type} {L M : List α} {n : Nat} (h : n < L.length) : nth (L ++ M) n = nth L n := by rw [nth_eq, nth_eq, List.getElem?_append_left h]
theorem nth_append_len {α : Type} {L : List α} {x : α} : nth (L ++ [x]) L.length = some x := by rw [nth_eq]; simp
theorem nth_map {α β : Type} {f : α → β} : ∀ (L : List α) (n : Nat), nth (L.map f) n = (nth L n).map f
  | [], _ => rfl
  | _ :: _, 0 => rfl
  | _ :: r, n + 1 => nth_map r n
theorem nth_replicate {α : Type} {x y : α} : ∀ (n i : Nat), nth (List.replicate n x) i = some y → y = x := fun n i h => by
  have := nth_mem h
  exact (List.mem_replicate.mp this).2

/-! ### terms -/
def litV : Term → Option Value
  | .int a => some (.int a)
  | .long a => some (.long a)
  | _ => none
def ofV (d : Term) : Option Value → Term
  | some (.int a) => .int a
  | some (.long a) => .long a
  | _ => d
def look : List (Term × Term) → Term → Term
  | [], t => t
  | (a, b) :: r, t => if a = t then b else look r t
def nrm (Γ : List (Term × Term)) (t : Term) : Term :=
  match t with
  | .op2 o a b => match litV a, litV b with
    | some x, some y => ofV (.op2 o a b) (o.apply x y)
    | _, _ => look Γ (.op2 o a b)
  | .op1 o a => match litV a with
    | some x => ofV (.op1 o a) (o.apply x)
    | none => match o, a with
      | .i2b, .op1 .i2b c => .op1 .i2b c
      | o, a => look Γ (.op1 o a)
  | .add a b => match a, b with
    | .int x, .int y => .int (x + y)
    | a, b => look Γ (.add a b)
  | .sub a b => match a, b with
    | .int x, .int y => .int (x - y)
    | a, b => look Γ (.sub a b)
  | .mul a b => match a, b with
    | .int x, .int y => .int (x * y)
    | a, b => look Γ (.mul a b)
  | .div a b => match a, b with
    | .int x, .int y => if y = 0 then .div a b else .int (x / y)
    | a, b => look Γ (.div a b)
  | .rem a b => match a, b with
    | .int x, .int y => if y = 0 then .rem a b else .int (x % y)
    | a, b => look Γ (.rem a b)
  | t => t
/-- what is assumed of terms -/
def ΓOk (Γ : List (Term × Term)) (A : Array Value) (Z : State) : Prop := ∀ q ∈ Γ, q.2.closed = true ∧ ∀ v, q.1.eval A Z none [] Z = some v → q.2.eval A Z none [] Z = some v
theorem litV_eval {A : Array Value} {Z : State} {t : Term} {v w : Value} (h : litV t = some v) (e : t.eval A Z none [] Z = some w) : v = w := by
  cases t <;> simp only [litV, Option.some.injEq, reduceCtorEq] at h <;> subst h <;> exact Option.some.inj e
theorem ofV_eval {A : Array Value} {Z : State} {d : Term} {o : Option Value} {v : Value} (hc : d.closed = true) (he : d.eval A Z none [] Z = some v) (h : o = some v) : (ofV d o).closed = true ∧ (ofV d o).eval A Z none [] Z = some v := by
  subst h
  cases v <;> exact ⟨by first | exact hc | rfl, by first | exact he | rfl⟩
theorem look_eval {A : Array Value} {Z : State} : ∀ (Γ : List (Term × Term)) (t : Term) (v : Value), ΓOk Γ A Z → t.closed = true → t.eval A Z none [] Z = some v → (look Γ t).closed = true ∧ (look Γ t).eval A Z none [] Z = some v
  | [], t, v, _, hc, he => ⟨hc, he⟩
  | (a, b) :: r, t, v, h, hc, he => by
    unfold look
    split
    · rename_i e
      subst e
      obtain ⟨q1, q2⟩ := h (a, b) (List.mem_cons_self ..)
      exact ⟨q1, q2 v he⟩
    · exact look_eval r t v (fun q hq => h q (List.mem_cons_of_mem _ hq)) hc he
theorem op2_inv {A : Array Value} {Z : State} {o : Binary} {a b : Term} {v : Value} (h : (Term.op2 o a b).eval A Z none [] Z = some v) : ∃ x y, a.eval A Z none [] Z = some x ∧ b.eval A Z none [] Z = some y ∧ o.apply x y = some v := op2_v h
theorem op1_inv {A : Array Value} {Z : State} {o : Unary} {a : Term} {v : Value} (h : (Term.op1 o a).eval A Z none [] Z = some v) : ∃ x, a.eval A Z none [] Z = some x ∧ o.apply x = some v := op1_v h
theorem i2b_twice (x : Int32) : x.toInt8.toInt32.toInt8.toInt32 = x.toInt8.toInt32 := by
  rw [Int8.toInt8_toInt32]
theorem nrm_eval {A : Array Value} {Z : State} {Γ : List (Term × Term)} (h : ΓOk Γ A Z) (t : Term) (v : Value) (hc : t.closed = true) (he : t.eval A Z none [] Z = some v) : (nrm Γ t).closed = true ∧ (nrm Γ t).eval A Z none [] Z = some v := by
  unfold nrm
  split
  · rename_i o a b
    split
    · rename_i x y hx hy
      obtain ⟨x', y', e1, e2, e3⟩ := op2_inv he
      cases litV_eval hx e1
      cases litV_eval hy e2
      exact ofV_eval hc he e3
    · exact look_eval Γ _ v h hc he
  · rename_i o a
    split
    · rename_i x hx
      obtain ⟨x', e1, e3⟩ := op1_inv he
      cases litV_eval hx e1
      exact ofV_eval hc he e3
    · split
      · rename_i c
        refine ⟨hc, ?_⟩
        obtain ⟨x, e1, e2⟩ := op1_inv he
        obtain ⟨y, e3, e4⟩ := op1_inv e1
        refine e1.trans ?_
        cases y <;> simp [Unary.apply] at e4
        subst e4
        simp only [Unary.apply, i2b_twice] at e2
        exact e2
      · exact look_eval Γ _ v h hc he
  all_goals first
    | (rename_i a b
       split
       · first
         | exact ⟨rfl, he⟩
         | (split
            · exact ⟨hc, he⟩
            · rename_i hy
              refine ⟨rfl, ?_⟩
              simpa [Term.eval, hy] using he)
       · exact look_eval Γ _ v h hc he)
    | exact ⟨hc, he⟩
/-! ### the environment grows -/
def Ex (A A' : Array Value) : Prop := ∀ (i : Nat) (v : Value), A[i]? = some v → A'[i]? = some v
theorem Ex.refl (A : Array Value) : Ex A A := fun _ _ h => h
theorem Ex.trans {A B C : Array Value} (h : Ex A B) (k : Ex B C) : Ex A C := fun i v q => k i v (h i v q)
theorem Ex.push (A : Array Value) (w : Value) : Ex A (A.push w) := fun i v h => by
  have q := (Array.getElem?_eq_some_iff.mp h).1
  rw [Array.getElem?_push_lt q]
  exact (Array.getElem?_eq_getElem q).symm.trans h
theorem eval_ext {A A' : Array Value} {Z : State} (h : Ex A A') : ∀ (t : Term) (v : Value), t.eval A Z none [] Z = some v → t.eval A' Z none [] Z = some v := by
  intro t
  induction t with
  | arg i => exact fun v hv => h i v hv
  | field a c n d ih | length a ih | sum a ih =>
    intro v hv
    cases ha : a.eval A Z none [] Z with
    | none => simp [Term.eval, ha] at hv
    | some x => simp only [Term.eval, ha] at hv; simp only [Term.eval, ih _ ha]; exact hv
  | op1 o a ih =>
    intro v hv
    cases ha : a.eval A Z none [] Z with
    | none => simp [Term.eval, ha] at hv
    | some x => simp only [Term.eval, ha] at hv; simp only [Term.eval, ih _ ha]; exact hv
  | old a ih => exact fun v hv => ih v hv
  | elem a b iha ihb | add a b iha ihb | sub a b iha ihb | mul a b iha ihb | div a b iha ihb | rem a b iha ihb =>
    intro v hv
    cases ha : a.eval A Z none [] Z with
    | none => simp [Term.eval, ha] at hv
    | some x =>
      cases hb : b.eval A Z none [] Z with
      | none => cases x <;> simp [Term.eval, ha, hb] at hv
      | some y => simp only [Term.eval, ha, hb] at hv; simp only [Term.eval, iha _ ha, ihb _ hb]; exact hv
  | op2 o a b iha ihb =>
    intro v hv
    obtain ⟨x, y, e1, e2, e3⟩ := op2_inv hv
    simp [Term.eval, iha _ e1, ihb _ e2, e3]
  | _ => exact fun v hv => hv
theorem Den.ext {A A' : Array Value} {Z : State} (h : Ex A A') {x : SVal} {v : Value} (d : x.Den A Z v) : x.Den A' Z v := ⟨d.1, eval_ext h _ _ d.2.1, d.2.2⟩
theorem DenStack.ext {A A' : Array Value} {Z : State} (h : Ex A A') : ∀ {xs : List SVal} {vs : List Value}, DenStack A Z xs vs → DenStack A' Z xs vs
  | [], [], _ => trivial
  | _ :: _, _ :: _, d => ⟨Den.ext h d.1, DenStack.ext h d.2⟩
  | [], _ :: _, d => d.elim
  | _ :: _, [], d => d.elim
theorem DenLocals.ext {A A' : Array Value} {Z : State} (h : Ex A A') {L : List SSlot} {ls : Array Slot} (d : DenLocals A Z L ls) : DenLocals A' Z L ls := fun i => by
  have q := d i
  cases h1 : L[i]? with
  | none => cases h2 : ls[i]? with
    | none => trivial
    | some y => rw [h1, h2] at q; exact q.elim
  | some x => cases h2 : ls[i]? with
    | none => rw [h1, h2] at q; exact q.elim
    | some y =>
      rw [h1, h2] at q
      cases x <;> cases y <;> first | exact q | exact Den.ext h q
theorem fits_ext {A A' : Array Value} {Z : State} (h : Ex A A') {m : MethodId} {σ : SFrame} {g : JFrame} (F : Sym.Fits A Z m σ g) : Sym.Fits A' Z m σ g := ⟨F.method, F.pc, DenLocals.ext h F.locals, DenStack.ext h F.stack, F.locked, F.entered, F.mroom⟩
theorem ΓOk.ext {Γ : List (Term × Term)} {A A' : Array Value} {Z : State} (h : Ex A A') (k : ∀ q ∈ Γ, q.2.closed = true ∧ ∃ v, q.1.eval A Z none [] Z = some v ∧ q.2.eval A Z none [] Z = some v) : ΓOk Γ A' Z := fun q hq => by
  obtain ⟨h1, v, h2, h3⟩ := k q hq
  refine ⟨h1, fun w hw => ?_⟩
  rw [eval_ext h _ _ h2] at hw
  cases hw
  exact eval_ext h _ _ h3
theorem den_nrm {Γ : List (Term × Term)} {A : Array Value} {Z : State} (h : ΓOk Γ A Z) {t : Term} {k : VKind} {v : Value} (d : (⟨t, k⟩ : SVal).Den A Z v) : (⟨nrm Γ t, k⟩ : SVal).Den A Z v := by
  obtain ⟨q1, q2⟩ := nrm_eval h t v d.1 d.2.1
  exact ⟨q1, q2, d.2.2⟩
end Jvm.OwnEv
namespace Jvm.OwnEv
open Sem ClassFile Op Lib Jvm.Stand Jvm.Free Jvm.LawKit Jvm.RoadKit Jvm.Sym
/-! ## 2. The moves of one row inside a frame -/
def nrmTop (Γ : List (Term × Term)) (σ : SFrame) : SFrame :=
  match σ.stack with
  | x :: r => { σ with stack := ⟨nrm Γ x.t, x.k⟩ :: r }
  | [] => σ
def mvArith (Γ : List (Term × Term)) (i : Instr) (len : Nat) (σ : SFrame) : Option SFrame :=
  (moveBinI i len σ <|> moveBinL i len σ <|> moveShL i len σ <|> moveUnII i len σ <|> moveI2l i len σ <|> moveL2i i len σ <|> moveLneg i len σ <|> moveLcmp i len σ).map (nrmTop Γ)
def mvIinc (Γ : List (Term × Term)) (i : Instr) (σ : SFrame) : Option SFrame :=
  match i with
  | .iinc n k => match σ.locals[n]? with
    | some (.val x) => if x.k = .int then (sStore σ.locals n ⟨nrm Γ (.add x.t (.int (Int32.ofInt k))), .int⟩).map fun L => { σ with pc := σ.pc + 3, locals := L } else none
    | _ => none
  | _ => none
def lookC : List CFact → ClassFile.Cond → Term → Term → Option Bool
  | [], _, _, _ => none
  | (k', a', b', v) :: r, k, a, b => if k' = k ∧ a' = a ∧ b' = b then some v else lookC r k a b
def decI (Γc : List CFact) (k : ClassFile.Cond) (a b : Term) : Option Bool :=
  match a, b with
  | .int x, .int y => some (if_icmp.holds k x y)
  | a, b => lookC Γc k a b
/-- is the reference null: known of null and of what the walk has made -/
def nullT (N n : Nat) : Term → Option Bool
  | .null => some true
  | .arg i => cond (Nat.ble N i && Nat.blt i (N + n)) (some false) none
  | _ => none
/-- a: the target -/
def mvFork (N : Nat) (Γc : List CFact) (n : Nat) (i : Instr) (a : Nat) (σ : SFrame) : Option SFrame :=
  match i, σ.stack with
  | .if_icmp k _, y :: x :: r => if x.k = .int ∧ y.k = .int then (decI Γc k x.t y.t).map fun v => cond v { σ with pc := a, stack := r } { σ with pc := σ.pc + 3, stack := r } else none
  | .ifCond k _, x :: r => if x.k = .int then (decI Γc k x.t (.int 0)).map fun v => cond v { σ with pc := a, stack := r } { σ with pc := σ.pc + 3, stack := r } else none
  | .ifnull _, x :: r => (nullT N n x.t).map fun v => cond v { σ with pc := a, stack := r } { σ with pc := σ.pc + 3, stack := r }
  | .ifnonnull _, x :: r => (nullT N n x.t).map fun v => cond v { σ with pc := σ.pc + 3, stack := r } { σ with pc := a, stack := r }
  | _, _ => none
def mvDiv (Γ : List (Term × Term)) (Γc : List CFact) (i : Instr) (σ : SFrame) : Option SFrame :=
  match σ.stack with
  | y :: _ => match y.t with
    | .int z => if z = 0 then none else ((moveDiv i 1 σ).map fun q => nrmTop Γ q.1)
    | .long z => if z = 0 then none else ((moveDiv i 1 σ).map fun q => nrmTop Γ q.1)
    | t => match lookC Γc .eq (match y.k with | .long => .op2 .lcmp t (.long 0) | _ => t) (.int 0) with
      | some false => (moveDiv i 1 σ).map fun q => nrmTop Γ q.1
      | _ => none
  | [] => none
def mvLdc (i : Instr) (len : Nat) (k : Term) (σ : SFrame) : Option SFrame :=
  match k with
  | .int v => some { σ with pc := σ.pc + len, stack := ⟨.int v, .int⟩ :: σ.stack }
  | .long v => some { σ with pc := σ.pc + len, stack := ⟨.long v, .long⟩ :: σ.stack }
  | _ => none
/-- the place in the abstract heap of what a reference names -/
def plc (N : Nat) : Term → Option Nat
  | .arg i => cond (Nat.ble N i) (some (i - N)) none
  | _ => none
def mvGet (N : Nat) (H : AH) (a b : Nat) (σ : SFrame) : Option SFrame :=
  match σ.stack with
  | x :: r => match plc N x.t with
    | some j => match nth H j with
      | some (some (.inl (ci, xs))) => cond (Nat.beq ci a) ((nth xs b).map fun y => { σ with pc := σ.pc + 3, stack := y :: r }) none
      | _ => none
    | none => none
  | [] => none
def kOk : FieldType → VKind → Bool
  | .int, .int => true
  | .long, .long => true
  | .object _, .ref => true
  | .array _, .ref => true
  | _, _ => false
def mvPut (N : Nat) (H : AH) (a b : Nat) (ty : FieldType) (σ : SFrame) : Option (SFrame × AH) :=
  match σ.stack with
  | y :: x :: r => match plc N x.t with
    | some j => match nth H j with
      | some (some (.inl (ci, xs))) => cond (Nat.beq ci a && kOk ty y.k && Nat.blt b xs.length) (some ({ σ with pc := σ.pc + 3, stack := r }, H.set j (some (.inl (ci, xs.set b y))))) none
      | _ => none
    | none => none
  | _ => none
def dflt : FieldType → SVal
  | .long => ⟨.long 0, .long⟩
  | .object _ => ⟨.null, .ref⟩
  | .array _ => ⟨.null, .ref⟩
  | _ => ⟨.int 0, .int⟩
def okTy : FieldType → Bool
  | .float => false
  | .double => false
  | _ => true
abbrev Res : Type := Option (SFrame × AH × Nat × Nat)
def mvNew (N : Nat) (CT : List CRow) (H : AH) (a c s : Nat) (σ : SFrame) : Res :=
  match nth CT a with
  | some (_, nn, fs) => cond (Nat.ble 1 c && Nat.ble nn s) (some ({ σ with pc := σ.pc + 3, stack := ⟨.arg (N + H.length), .ref⟩ :: σ.stack }, H ++ [some (.inl (a, fs.map fun f => dflt f.2.2.1))], c - 1, s - nn)) none
  | none => none
def mvNewA (N : Nat) (H : AH) (i : Instr) (c s : Nat) (σ : SFrame) : Res :=
  match i, σ.stack with
  | .newarray aty, x :: r => match x.t with
    | .int z => if ¬ z < 0 ∧ okTy (newarray.typeOf aty) = true ∧ z.toNatClampNeg ≤ 1000000 ∧ 1 ≤ c ∧ z.toNatClampNeg ≤ s then
        some ({ σ with pc := σ.pc + 2, stack := ⟨.arg (N + H.length), .ref⟩ :: r }, H ++ [some (.inr (newarray.typeOf aty, List.replicate z.toNatClampNeg (dflt (newarray.typeOf aty))))], c - 1, s - z.toNatClampNeg) else none
    | _ => none
  | _, _ => none
def mvLen (N : Nat) (H : AH) (σ : SFrame) : Option SFrame :=
  match σ.stack with
  | x :: r => match plc N x.t with
    | some j => match nth H j with
      | some (some (.inr (_, xs))) => some { σ with pc := σ.pc + 1, stack := ⟨.int (Int32.ofNat xs.length), .int⟩ :: r }
      | _ => none
    | none => none
  | [] => none
def ldOk : Instr → FieldType → Bool
  | .iaload, .int => true
  | .laload, .long => true
  | .baload, .byte => true
  | .baload, .boolean => true
  | _, _ => false
def mvALd (N : Nat) (H : AH) (i : Instr) (σ : SFrame) : Option SFrame :=
  match σ.stack with
  | z :: x :: r => match plc N x.t, z.t with
    | some j, .int q => match nth H j with
      | some (some (.inr (ty, xs))) => if ldOk i ty = true ∧ ¬ q < 0 then (nth xs q.toNatClampNeg).map fun y => { σ with pc := σ.pc + 1, stack := y :: r } else none
      | _ => none
    | _, _ => none
  | _ => none
/-- what a store into an array of that type lays down -/
def stV (Γ : List (Term × Term)) : Instr → FieldType → SVal → Option SVal
  | .iastore, .int, y => if y.k = .int then some y else none
  | .lastore, .long, y => if y.k = .long then some y else none
  | .bastore, .byte, y => if y.k = .int then some ⟨nrm Γ (.op1 .i2b y.t), .int⟩ else none
  | .bastore, .boolean, y => if y.k = .int then some ⟨nrm Γ (.op2 .iand y.t (.int 1)), .int⟩ else none
  | _, _, _ => none
def mvASt (N : Nat) (Γ : List (Term × Term)) (H : AH) (i : Instr) (σ : SFrame) : Option (SFrame × AH) :=
  match σ.stack with
  | y :: z :: x :: r => match plc N x.t, z.t with
    | some j, .int q => match nth H j with
      | some (some (.inr (ty, xs))) => if ¬ q < 0 ∧ q.toNatClampNeg < xs.length then (stV Γ i ty y).map fun w => ({ σ with pc := σ.pc + 1, stack := r }, H.set j (some (.inr (ty, xs.set q.toNatClampNeg w)))) else none
      | _ => none
    | _, _ => none
  | _ => none
def wt : List SVal → Nat
  | [] => 0
  | x :: r => (match x.k with | .long => 2 | _ => 1) + wt r
def mvInitO (N : Nat) (H : AH) (fr lo ml : Nat) (σ : SFrame) : Option SFrame :=
  match σ.stack with
  | x :: r => match plc N x.t with
    | some j => cond (Nat.blt j H.length && Nat.ble 1 fr && Nat.ble (wt r + 12) lo && Nat.beq σ.locals.length ml) (some { σ with pc := σ.pc + 3, stack := r }) none
    | none => none
  | [] => none
def mvClone (N : Nat) (H : AH) (fr lo ml c s : Nat) (ty : FieldType) (σ : SFrame) : Res :=
  match σ.stack with
  | x :: r => match plc N x.t with
    | some j => match nth H j with
      | some (some (.inr (ty', xs))) => if ty' = ty ∧ 1 ≤ fr ∧ wt r + 14 ≤ lo ∧ σ.locals.length = ml ∧ 1 ≤ c ∧ xs.length ≤ s then
          some ({ σ with pc := σ.pc + 3, stack := ⟨.arg (N + H.length), .ref⟩ :: r }, H ++ [some (.inr (ty', xs))], c - 1, s - xs.length) else none
      | _ => none
    | none => none
  | [] => none
def primTy : FieldType → Bool
  | .object _ => false
  | .array _ => false
  | _ => true
def mvCopy (N : Nat) (H : AH) (fr lo ml : Nat) (σ : SFrame) : Option (SFrame × AH) :=
  match σ.stack with
  | xn :: xd :: b :: xs :: a :: r => match plc N a.t, plc N b.t, xs.t, xd.t, xn.t with
    | some ja, some jb, .int sp, .int dp, .int nn => match nth H ja, nth H jb with
      | some (some (.inr (ta, va))), some (some (.inr (tb, vb))) =>
        if ta = tb ∧ primTy ta = true ∧ ¬ sp < 0 ∧ ¬ dp < 0 ∧ ¬ nn < 0 ∧ sp.toNatClampNeg + nn.toNatClampNeg ≤ va.length ∧ dp.toNatClampNeg + nn.toNatClampNeg ≤ vb.length ∧ 1 ≤ fr ∧ wt r + 18 ≤ lo ∧ σ.locals.length = ml then
          some ({ σ with pc := σ.pc + 3, stack := r }, H.set jb (some (.inr (tb, vb.take dp.toNatClampNeg ++ (va.drop sp.toNatClampNeg).take nn.toNatClampNeg ++ vb.drop (dp.toNatClampNeg + nn.toNatClampNeg))))) else none
      | _, _ => none
    | _, _, _, _, _ => none
  | _ => none
def mvCast (N : Nat) (H : AH) (ty : FieldType) (σ : SFrame) : Option SFrame :=
  match σ.stack with
  | x :: _ => match plc N x.t with
    | some j => match nth H j with
      | some (some (.inr (ty', _))) => if ty' = ty then some { σ with pc := σ.pc + 3 } else none
      | _ => none
    | none => none
  | [] => none
def keepH (H : AH) (c s : Nat) (o : Option SFrame) : Res := o.map fun σ => (σ, H, c, s)
def keepC (c s : Nat) (o : Option (SFrame × AH)) : Res := o.map fun q => (q.1, q.2, c, s)
/-- one row; tags: 0 load, 1 const, 2 getfield, 3 arithmetic, 4 fork, 5 store, 6 array load, 7 goto, 8 stack, 9 iinc, 10 putfield, 11 array store, 12 arraylength, 13 ldc, 14 new, 15 newarray, 16 Object.<init>, 17 division, 18 clone, 19 arraycopy, 20 checkcast -/
def mv1 (N : Nat) (CT : List CRow) (Γ : List (Term × Term)) (Γc : List CFact) (fr lo ml : Nat) (r : Row) (σ : SFrame) (H : AH) (c s : Nat) : Res :=
  match r with
  | (_, i, len, tag, a, b, k, ty) =>
    match tag with
    | 0 => keepH H c s (moveLoad i len σ)
    | 1 => keepH H c s (moveConst i len σ)
    | 2 => keepH H c s (mvGet N H a b σ)
    | 3 => keepH H c s (mvArith Γ i len σ)
    | 4 => keepH H c s (mvFork N Γc H.length i a σ)
    | 5 => keepH H c s (moveStore i len σ)
    | 6 => keepH H c s (mvALd N H i σ)
    | 7 => some ({ σ with pc := a }, H, c, s)
    | 8 => keepH H c s (moveStack i len σ <|> moveStack2 i len σ)
    | 9 => keepH H c s (mvIinc Γ i σ)
    | 10 => keepC c s (mvPut N H a b ty σ)
    | 11 => keepC c s (mvASt N Γ H i σ)
    | 12 => keepH H c s (mvLen N H σ)
    | 13 => keepH H c s (mvLdc i len k σ)
    | 14 => mvNew N CT H a c s σ
    | 15 => mvNewA N H i c s σ
    | 16 => keepH H c s (mvInitO N H fr lo ml σ)
    | 17 => keepH H c s (mvDiv Γ Γc i σ)
    | 18 => mvClone N H fr lo ml c s ty σ
    | 19 => keepC c s (mvCopy N H fr lo ml σ)
    | 20 => keepH H c s (mvCast N H ty σ)
    | _ => none
/-! ### the evaluator -/
def findR : List Row → Nat → Option (Row × List Row)
  | [], _ => none
  | r :: rs, pc => cond (Nat.beq r.1 pc) (some (r, rs)) (findR rs pc)
def fetch (cur all : List Row) (pc : Nat) : Option (Row × List Row) :=
  match cur with
  | r :: rs => cond (Nat.beq r.1 pc) (some (r, rs)) (findR all pc)
  | [] => findR all pc
def takeR : Nat → List SVal → List SVal → Option (List SVal × List SVal)
  | 0, st, acc => some (acc, st)
  | n + 1, x :: st, acc => takeR n st (x :: acc)
  | _ + 1, [], _ => none
def fillS : List SVal → List SSlot
  | [] => []
  | x :: r => match x.k with
    | .long => .val x :: .second :: fillS r
    | _ => .val x :: fillS r
def entryS (as : List SVal) (ml : Nat) : List SSlot := fillS as ++ List.replicate (ml - (fillS as).length) .unset
abbrev Out : Type := Option SVal × AH × Nat × Nat
/-- returns: 30 nothing, 31 an int, 32 a boolean, 33 a long, 34 a reference -/
def mvRet (Γ : List (Term × Term)) (tag : Nat) (σ : SFrame) : Option (Option SVal) :=
  match tag with
  | 30 => some none
  | 31 => match σ.stack with | x :: _ => if x.k = .int then some (some x) else none | [] => none
  | 32 => match σ.stack with | x :: _ => if x.k = .int then some (some ⟨nrm Γ (.op2 .iand x.t (.int 1)), .int⟩) else none | [] => none
  | 33 => match σ.stack with | x :: _ => if x.k = .long then some (some x) else none | [] => none
  | 34 => match σ.stack with | x :: _ => if x.k = .ref then some (some x) else none | [] => none
  | _ => none
/-- is the receiver what a virtual call's row says -/
def recvOk (N : Nat) (H : AH) (tag b : Nat) (as : List SVal) : Bool :=
  cond (Nat.beq tag 40) true (match as with
    | x :: _ => match plc N x.t with
      | some j => match nth H j with
        | some (some (.inl (ci, _))) => Nat.beq ci b
        | _ => false
      | none => false
    | [] => false)
def pushV (v : Option SVal) (r : List SVal) : List SVal := match v with | some x => x :: r | none => r
/-- calls: 40 static, 41 a constructor, 42 virtual, 43 private (a: the method, b: the receiver's class) -/
def ev (N : Nat) (CT : List CRow) (MT : List MRow) (Γ : List (Term × Term)) (Γc : List CFact) : Nat → Nat → Nat → MRow → List Row → SFrame → AH → Nat → Nat → Option Out
  | 0 => fun _ _ _ _ _ _ _ _ => none
  | n + 1 => fun fr lo M cur σ H c s =>
    match fetch cur M.2.2.2.2.2 σ.pc with
    | none => none
    | some (r, cur') =>
      cond (Nat.blt r.2.2.2.1 30)
        (match mv1 N CT Γ Γc fr lo M.2.2.1 r σ H c s with
          | some (σ', H', c', s') => ev N CT MT Γ Γc n fr lo M cur' σ' H' c' s'
          | none => none)
        (cond (Nat.blt r.2.2.2.1 40)
          ((mvRet Γ r.2.2.2.1 σ).map fun v => (v, H, c, s))
          (match nth MT r.2.2.2.2.1 with
            | none => none
            | some M' =>
              match takeR (cond (Nat.beq r.2.2.2.1 40) M'.2.2.2.2.1 (M'.2.2.2.2.1 + 1)) σ.stack [] with
              | none => none
              | some (as, rest) =>
                cond (recvOk N H r.2.2.2.1 r.2.2.2.2.2.1 as && Nat.ble r.2.2.2.1 43 && Nat.ble 1 fr && Nat.ble (wt rest + (M'.2.2.1 + 11)) lo && Nat.beq σ.locals.length M.2.2.1)
                  (match ev N CT MT Γ Γc n (fr - 1) (lo - (wt rest + (M'.2.2.1 + 11))) M' M'.2.2.2.2.2 ⟨0, entryS as M'.2.2.1, [], []⟩ H c s with
                    | none => none
                    | some (v, H', c', s') => ev N CT MT Γ Γc n fr lo M cur' { σ with pc := σ.pc + 3, stack := pushV v rest } H' c' s')
                  none))
end Jvm.OwnEv
namespace Jvm.OwnEv
open Sem ClassFile Op Lib Jvm.Stand Jvm.Free Jvm.LawKit Jvm.RoadKit Jvm.Sym
/-! ## 3. The abstract heap stands for the real one -/
abbrev adr (ty : FieldType) : String := "[" ++ ty.toString
def RepO (Z : State) (CT : List CRow) (n0 : Nat) (A : Array Value) (h : Heap) (a : Addr) : Option Obj → Prop
  | none => True
  | some (.inl (ci, xs)) => n0 ≤ a ∧ ∃ C nn fs, nth CT ci = some (C, nn, fs) ∧ Exa Z h a C ∧ xs.length = fs.length ∧ ∀ (i : Nat) (f : FRow) (x : SVal), nth fs i = some f → nth xs i = some x → ∃ v, x.Den A Z v ∧ Fld Z h a C f.1 f.2.1 v
  | some (.inr (ty, xs)) => n0 ≤ a ∧ xs.length < 2 ^ 31 ∧ Exa Z h a (adr ty) ∧ ∃ k vs, Arv Z h a k ty (Int32.ofNat xs.length) vs .null ∧ vs.length = xs.length ∧ DenStack A Z xs vs
def Inv (Z : State) (CT : List CRow) (N n0 : Nat) (A : Array Value) (H : AH) (h : Heap) : Prop :=
  A.size = N + H.length ∧ n0 ≤ h.size ∧ (∀ (j : Nat) (o : Option Obj), nth H j = some o → ∃ a, A[N + j]? = some (.ref a) ∧ RepO Z CT n0 A h a o) ∧
  ∀ (i j : Nat) (oi oj : Obj) (a b : Addr), i ≠ j → nth H i = some (some oi) → nth H j = some (some oj) → A[N + i]? = some (.ref a) → A[N + j]? = some (.ref b) → a ≠ b
/-- the class table's words -/
def COk (Z : State) (a0 : Array Value) (r : CRow) : Prop :=
  (Cond.instantiable r.1 r.2.1).before a0 Z = true ∧ (Cond.initialized r.1).before a0 Z = true ∧
  (∀ (i : Nat) (f : FRow), nth r.2.2 i = some f → (cond f.2.2.2 ((Cond.laysFinal r.1 r.1 f.1 f.2.1).before a0 Z) ((Cond.lays r.1 r.1 f.1 f.2.1).before a0 Z)) = true ∧ parseFieldDescriptor f.2.1 = some f.2.2.1 ∧ okTy f.2.2.1 = true) ∧
  ∀ (i j : Nat) (f g : FRow), i ≠ j → nth r.2.2 i = some f → nth r.2.2 j = some g → f.1 ≠ g.1
def CTOk (Z : State) (a0 : Array Value) (CT : List CRow) : Prop := ∀ (k : Nat) (r : CRow), nth CT k = some r → COk Z a0 r
section Facts
variable {Z : State} {a0 : Array Value} {CT : List CRow} {N n0 : Nat} {A A' : Array Value} {H : AH} {h h' : Heap}
theorem COk.laid {C : String} {nn : Nat} {fs : List FRow} (k : COk Z a0 (C, nn, fs)) {i : Nat} {f : FRow} (hi : nth fs i = some f) : Laid Z a0 C C f.1 f.2.1 := by
  have q := (k.2.2.1 i f hi).1
  cases hb : f.2.2.2 <;> rw [hb] at q
  · exact Or.inl q
  · exact Or.inr q
theorem ext_arv {a : Addr} {k : ClassId} {ty : FieldType} {z : Int32} {vs : List Value} {d : Value} (E : Ext h h') (F : Arv Z h a k ty z vs d) : Arv Z h' a k ty z vs d := F.ext E
theorem RepO.ext {a : Addr} {o : Option Obj} (E : Ext h h') (X : Ex A A') (F : RepO Z CT n0 A h a o) : RepO Z CT n0 A' h' a o := by
  match o, F with
  | none, _ => trivial
  | some (.inl (ci, xs)), ⟨h1, C, nn, fs, h2, h3, h4, h5⟩ =>
    exact ⟨h1, C, nn, fs, h2, h3.ext E, h4, fun i f x hf hx => by
      obtain ⟨v, d, F⟩ := h5 i f x hf hx
      exact ⟨v, Den.ext X d, F.ext E⟩⟩
  | some (.inr (ty, xs)), ⟨h1, h2, h3, k, vs, h4, h5, h6⟩ => exact ⟨h1, h2, h3.ext E, k, vs, h4.ext E, h5, DenStack.ext X h6⟩
theorem RepO.keep {a b : Addr} {o : Option Obj} (K : Keep h h' [a]) (hb : b ≠ a) (F : RepO Z CT n0 A h b o) : RepO Z CT n0 A h' b o := by
  have nin : b ∉ [a] := fun q => hb (List.mem_singleton.mp q)
  match o, F with
  | none, _ => trivial
  | some (.inl (ci, xs)), ⟨h1, C, nn, fs, h2, h3, h4, h5⟩ =>
    exact ⟨h1, C, nn, fs, h2, h3.keep K, h4, fun i f x hf hx => by
      obtain ⟨v, d, F⟩ := h5 i f x hf hx
      exact ⟨v, d, F.keep K nin⟩⟩
  | some (.inr (ty, xs)), ⟨h1, h2, h3, k, vs, h4, h5, h6⟩ => exact ⟨h1, h2, h3.keep K, k, vs, h4.keep K nin, h5, h6⟩
theorem RepO.lt {a : Addr} {o : Obj} (F : RepO Z CT n0 A h a (some o)) : a < h.size := by
  match o, F with
  | .inl (ci, xs), ⟨_, C, nn, fs, _, h3, _⟩ => exact h3.lt
  | .inr (ty, xs), ⟨_, _, h3, _⟩ => exact h3.lt
theorem RepO.ge {a : Addr} {o : Obj} (F : RepO Z CT n0 A h a (some o)) : n0 ≤ a := by
  match o, F with
  | .inl (ci, xs), ⟨q, _⟩ => exact q
  | .inr (ty, xs), ⟨q, _⟩ => exact q
theorem Inv.push (I : Inv Z CT N n0 A H h) (E : Ext h h') {o : Obj} (R : RepO Z CT n0 (A.push (.ref h.size)) h' h.size (some o)) : Inv Z CT N n0 (A.push (.ref h.size)) (H ++ [some o]) h' := by
  obtain ⟨i1, i2, i3, i4⟩ := I
  have X := Ex.push A (.ref h.size)
  have here : (A.push (.ref h.size))[N + H.length]? = some (.ref h.size) := by rw [← i1]; simp
  have old : ∀ j o', nth (H ++ [some o]) j = some o' → (j < H.length ∧ nth H j = some o') ∨ (j = H.length ∧ o' = some o) := fun j o' hj => by
    have q := nth_lt hj
    rw [List.length_append, List.length_singleton] at q
    rcases Nat.lt_or_ge j H.length with u | u
    · rw [nth_append_lt u] at hj; exact Or.inl ⟨u, hj⟩
    · have e : j = H.length := by omega
      subst e
      rw [nth_append_len] at hj
      exact Or.inr ⟨rfl, (Option.some.inj hj).symm⟩
  refine ⟨by rw [Array.size_push, List.length_append, i1]; rfl, Nat.le_trans i2 E.1, fun j o' hj => ?_, fun i j oi oj a b ne hi hj ha hb => ?_⟩
  · rcases old j o' hj with ⟨-, q⟩ | ⟨rfl, rfl⟩
    · obtain ⟨a, ha, r⟩ := i3 j o' q
      exact ⟨a, X _ _ ha, r.ext E X⟩
    · exact ⟨_, here, R⟩
  · have far : ∀ k ok c, k < H.length → nth H k = some (some ok) → (A.push (.ref h.size))[N + k]? = some (.ref c) → c < h.size := fun k ok c hk q hc => by
      obtain ⟨c', hc', r⟩ := i3 k _ q
      rw [X _ _ hc'] at hc
      cases hc
      exact r.lt
    rcases old i _ hi with ⟨u, q⟩ | ⟨rfl, -⟩ <;> rcases old j _ hj with ⟨u', q'⟩ | ⟨rfl, e'⟩
    · obtain ⟨c, hc, -⟩ := i3 i _ q
      obtain ⟨d, hd, -⟩ := i3 j _ q'
      rw [X _ _ hc] at ha; cases ha
      rw [X _ _ hd] at hb; cases hb
      exact i4 i j oi oj _ _ ne q q' hc hd
    · rw [here] at hb; cases hb
      exact Nat.ne_of_lt (far i oi a u q ha)
    · rw [here] at ha; cases ha
      exact (Nat.ne_of_lt (far j oj b u' q' hb)).symm
    · exact absurd rfl ne
theorem Inv.upd (I : Inv Z CT N n0 A H h) {j : Nat} {o o' : Obj} {a : Addr} (hj : nth H j = some (some o)) (ha : A[N + j]? = some (.ref a)) (K : Keep h h' [a]) (R : RepO Z CT n0 A h' a (some o')) : Inv Z CT N n0 A (H.set j (some o')) h' := by
  obtain ⟨i1, i2, i3, i4⟩ := I
  have lt := nth_lt hj
  have old : ∀ i x, nth (H.set j (some o')) i = some (some x) → ∃ y, nth H i = some (some y) := fun i x hi => by
    by_cases e : j = i
    · subst e; exact ⟨o, hj⟩
    · rw [nth_set_ne _ e] at hi; exact ⟨x, hi⟩
  refine ⟨by rw [List.length_set]; exact i1, Nat.le_trans i2 K.1, fun i x hi => ?_, fun i i' oi oj b c ne hi hi' hb hc => ?_⟩
  · by_cases e : j = i
    · subst e
      rw [nth_set_self _ lt] at hi
      cases hi
      exact ⟨a, ha, R⟩
    · rw [nth_set_ne _ e] at hi
      obtain ⟨b, hb, r⟩ := i3 i x hi
      cases x with
      | none => exact ⟨b, hb, trivial⟩
      | some x => exact ⟨b, hb, r.keep K (i4 i j x o b a (Ne.symm e) hi hj hb ha)⟩
  · obtain ⟨y, hy⟩ := old i oi hi
    obtain ⟨y', hy'⟩ := old i' oj hi'
    exact i4 i i' y y' b c ne hy hy' hb hc
/-- what a reference names -/
theorem plc_ref (I : Inv Z CT N n0 A H h) {t : Term} {j : Nat} {o : Option Obj} {v : Value} (hp : plc N t = some j) (hj : nth H j = some o) (he : t.eval A Z none [] Z = some v) : ∃ a, v = .ref a ∧ A[N + j]? = some (.ref a) ∧ RepO Z CT n0 A h a o := by
  cases t <;> simp only [plc, reduceCtorEq] at hp
  rename_i i
  cases hb : Nat.ble N i <;> rw [hb] at hp <;> simp only [cond_true, cond_false, Option.some.injEq, reduceCtorEq] at hp
  subst hp
  have le := Nat.le_of_ble_eq_true hb
  obtain ⟨a, ha, r⟩ := I.2.2.1 _ _ hj
  have e : N + (i - N) = i := by omega
  rw [e] at ha
  have he' : A[i]? = some v := he
  rw [ha] at he'
  cases he'
  exact ⟨a, rfl, by rw [e]; exact ha, r⟩
theorem dflt_den {ty : FieldType} (h : okTy ty = true) : (dflt ty).Den A Z (defaultValue ty) := by
  cases ty <;> first | (simp [okTy] at h; done) | exact ⟨rfl, rfl, rfl⟩
theorem denStack_nth : ∀ {xs : List SVal} {vs : List Value}, DenStack A Z xs vs → ∀ (i : Nat) (x : SVal), nth xs i = some x → ∃ v, vs[i]? = some v ∧ x.Den A Z v
  | _ :: _, v :: _, d, 0, x, hx => by cases hx; exact ⟨v, rfl, d.1⟩
  | _ :: xs, _ :: vs, d, i + 1, x, hx => by
    obtain ⟨w, h1, h2⟩ := denStack_nth (xs := xs) (vs := vs) d.2 i x hx
    exact ⟨w, by simpa using h1, h2⟩
  | [], [], _, _, _, hx => by cases hx
  | [], _ :: _, d, _, _, _ => d.elim
  | _ :: _, [], d, _, _, _ => d.elim
theorem denStack_len : ∀ {xs : List SVal} {vs : List Value}, DenStack A Z xs vs → vs.length = xs.length
  | [], [], _ => rfl
  | _ :: _, _ :: _, d => by rw [List.length_cons, List.length_cons, denStack_len d.2]
  | [], _ :: _, d => d.elim
  | _ :: _, [], d => d.elim
theorem denStack_set : ∀ {xs : List SVal} {vs : List Value} (i : Nat) {x : SVal} {v : Value}, DenStack A Z xs vs → x.Den A Z v → DenStack A Z (xs.set i x) (vs.set i v)
  | [], [], _, _, _, _, _ => trivial
  | _ :: _, _ :: _, 0, _, _, d, e => ⟨e, d.2⟩
  | _ :: _, _ :: _, i + 1, _, _, d, e => ⟨d.1, denStack_set i d.2 e⟩
  | [], _ :: _, _, _, _, d, _ => d.elim
  | _ :: _, [], _, _, _, d, _ => d.elim
theorem denStack_replicate {x : SVal} {v : Value} (d : x.Den A Z v) : ∀ n, DenStack A Z (List.replicate n x) (List.replicate n v)
  | 0 => trivial
  | n + 1 => ⟨d, denStack_replicate d n⟩
theorem denStack_append : ∀ {xs ys : List SVal} {vs ws : List Value}, DenStack A Z xs vs → DenStack A Z ys ws → DenStack A Z (xs ++ ys) (vs ++ ws)
  | [], _, [], _, _, e => e
  | _ :: _, _, _ :: _, _, d, e => ⟨d.1, denStack_append d.2 e⟩
  | [], _, _ :: _, _, d, _ => d.elim
  | _ :: _, _, [], _, d, _ => d.elim
theorem denStack_take : ∀ (n : Nat) {xs : List SVal} {vs : List Value}, DenStack A Z xs vs → DenStack A Z (xs.take n) (vs.take n)
  | 0, _, _, _ => by rw [List.take_zero, List.take_zero]; trivial
  | n + 1, [], [], _ => trivial
  | n + 1, _ :: _, _ :: _, d => ⟨d.1, denStack_take n d.2⟩
  | _ + 1, [], _ :: _, d => d.elim
  | _ + 1, _ :: _, [], d => d.elim
theorem denStack_drop : ∀ (n : Nat) {xs : List SVal} {vs : List Value}, DenStack A Z xs vs → DenStack A Z (xs.drop n) (vs.drop n)
  | 0, _, _, d => d
  | n + 1, [], [], _ => trivial
  | n + 1, _ :: _, _ :: _, d => denStack_drop n d.2
  | _ + 1, [], _ :: _, d => d.elim
  | _ + 1, _ :: _, [], d => d.elim
theorem denStack_snoc {xs : List SVal} {vs : List Value} {x : SVal} {v : Value} (d : DenStack A Z xs vs) (e : x.Den A Z v) : DenStack A Z (xs ++ [x]) (vs ++ [v]) := denStack_append d ⟨e, trivial⟩
theorem denStack_wt : ∀ {xs : List SVal} {vs : List Value}, DenStack A Z xs vs → (vs.map fun v => v.category).sum = wt xs
  | [], [], _ => rfl
  | x :: _, v :: _, d => by
    rw [List.map_cons, List.sum_cons, denStack_wt d.2]
    have q := d.1.2.2
    cases hk : x.k <;> rw [hk] at q <;> simp only [wt, hk] <;> cases v <;> first | rfl | (simp [VKind.ok] at q)
  | [], _ :: _, d => d.elim
  | _ :: _, [], d => d.elim
end Facts
end Jvm.OwnEv
namespace Jvm.OwnEv
open Sem ClassFile Op Lib Jvm.Stand Jvm.Free Jvm.LawKit Jvm.RoadKit Jvm.Sym
/-! ## 4. The single moves are sound -/
/-- where a walk stands -/
def Pnt (p : Program) (l : Launch) (e : Env) (R : Room) (st : State) (m : MethodId) (args : Array Value) (below : List Frame) (meth : Method) (cd : Code) (Z : State) (CT : List CRow) (N n0 : Nat)
    (A : Array Value) (σ : SFrame) (H : AH) (c s : Nat) (T : State) (g : JFrame) : Prop :=
  ∃ (locs : List Loc) (cells slots : Nat), Stand p l e R st m args below meth cd T locs cells slots ∧ Sym.Fits A Z m σ g ∧ Inv Z CT N n0 A H T.heap ∧ Fr n0 locs ∧ cells + c ≤ R.cells ∧ slots + s ≤ R.slots
def Goes (p : Program) (l : Launch) (e : Env) (R : Room) (st : State) (m : MethodId) (args : Array Value) (below : List Frame) (meth : Method) (cd : Code) (Z : State) (CT : List CRow) (N n0 : Nat)
    (A : Array Value) (T : State) (g : JFrame) (σ : SFrame) (H : AH) (c s : Nat) : Prop :=
  ∃ A' T' g', Ex A A' ∧ Pnt p l e R st m args below meth cd Z CT N n0 A' σ H c s T' g' ∧ Leads p.tables e below T g T' g'
def FLink (Z : State) (a0 : Array Value) (own : String) (idx : Nat) (C n d : String) : Prop := (Cond.fieldLink own idx C n d).before a0 Z = true ∨ (Cond.fieldLinkNest own idx C n d "").before a0 Z = true
def forkOff : Instr → Option Int
  | .if_icmp _ o => some o
  | .ifCond _ o => some o
  | .ifnull o => some o
  | .ifnonnull o => some o
  | _ => none
abbrev cloneN : MethodName := ⟨"java/lang/Object", "clone", "()Ljava/lang/Object;"⟩
section Moves
variable {p : Program} {l : Launch} {e : Env} {R : Room} {st : State} {m : MethodId} {args : Array Value} {below : List Frame} {meth : Method} {cd : Code} {Z : State} {a0 : Array Value} {CT : List CRow} {N n0 : Nat}
variable {A : Array Value} {σ σ' : SFrame} {H H' : AH} {c s c' s' : Nat} {T : State} {g : JFrame} {i : Instr} {len : Nat} {own : String}
theorem goesFits (P : Pnt p l e R st m args below meth cd Z CT N n0 A σ H c s T g) (q : ∃ g', Sym.Fits A Z m σ' g' ∧ Leads p.tables e below T g T g') : Goes p l e R st m args below meth cd Z CT N n0 A T g σ' H c s := by
  obtain ⟨locs, cells, slots, X, -, I, N1, B1, B2⟩ := P
  obtain ⟨g', F, L⟩ := q
  exact ⟨A, T, g', Ex.refl A, ⟨locs, cells, slots, X, F, I, N1, B1, B2⟩, L⟩
theorem fitsTop {Γ : List (Term × Term)} (h : ΓOk Γ A Z) (F : Sym.Fits A Z m σ g) : Sym.Fits A Z m (nrmTop Γ σ) g := by
  unfold nrmTop
  split
  · rename_i x r hst
    have q := F.stack
    rw [hst] at q
    obtain ⟨v, w, e1, d, ds⟩ := q.cons_inv
    refine ⟨F.method, F.pc, F.locals, ?_, F.locked, F.entered, F.mroom⟩
    show DenStack A Z (⟨nrm Γ x.t, x.k⟩ :: r) g.stack
    rw [e1]
    exact ⟨den_nrm h d, ds⟩
  · exact F
theorem sPlain (hx : p.tables.exec = Jvm.exec) (P : Pnt p l e R st m args below meth cd Z CT N n0 A σ H c s T g) (hd : decode cd.code g.pc = .ok (i, len)) (hm : moveLoad i len σ = some σ' ∨ moveConst i len σ = some σ' ∨ moveStore i len σ = some σ' ∨ moveStack i len σ = some σ' ∨ moveStack2 i len σ = some σ') :
    Goes p l e R st m args below meth cd Z CT N n0 A T g σ' H c s := by
  obtain ⟨locs, cells, slots, X, F, I, r⟩ := id P
  refine goesFits P ?_
  rcases hm with hm | hm | hm | hm | hm
  · exact moveLoad_sound X.here hx F hd hm
  · exact moveConst_sound X.here hx F hd hm
  · exact moveStore_sound X.here hx F hd hm
  · exact moveStack_sound X.here hx F hd hm
  · exact moveStack2_sound X.here hx F hd hm
theorem sArith (hx : p.tables.exec = Jvm.exec) {Γ : List (Term × Term)} (hΓ : ΓOk Γ A Z) (P : Pnt p l e R st m args below meth cd Z CT N n0 A σ H c s T g) (hd : decode cd.code g.pc = .ok (i, len)) (hm : mvArith Γ i len σ = some σ') :
    Goes p l e R st m args below meth cd Z CT N n0 A T g σ' H c s := by
  obtain ⟨locs, cells, slots, X, F, I, r⟩ := id P
  refine goesFits P ?_
  unfold mvArith at hm
  obtain ⟨σ₁, hm', rfl⟩ := Option.map_eq_some_iff.mp hm
  clear hm
  have hm := hm'
  have key : ∃ g', Sym.Fits A Z m σ₁ g' ∧ Leads p.tables e below T g T g' := by
    rcases orElse_some hm with hm | hm
    · exact moveBinI_sound X.here hx F hd hm
    rcases orElse_some hm with hm | hm
    · exact moveBinL_sound X.here hx F hd hm
    rcases orElse_some hm with hm | hm
    · exact moveShL_sound X.here hx F hd hm
    rcases orElse_some hm with hm | hm
    · exact moveUnII_sound X.here hx F hd hm
    rcases orElse_some hm with hm | hm
    · exact moveI2l_sound X.here hx F hd hm
    rcases orElse_some hm with hm | hm
    · exact moveL2i_sound X.here hx F hd hm
    rcases orElse_some hm with hm | hm
    · exact moveLneg_sound X.here hx F hd hm
    · exact moveLcmp_sound X.here hx F hd hm
  obtain ⟨g', F', L⟩ := key
  exact ⟨g', fitsTop hΓ F', L⟩
theorem sIinc (hx : p.tables.exec = Jvm.exec) {Γ : List (Term × Term)} (hΓ : ΓOk Γ A Z) (P : Pnt p l e R st m args below meth cd Z CT N n0 A σ H c s T g) (hd : decode cd.code g.pc = .ok (i, 3)) (hm : mvIinc Γ i σ = some σ') :
    Goes p l e R st m args below meth cd Z CT N n0 A T g σ' H c s := by
  obtain ⟨locs, cells, slots, X, F, I, r⟩ := id P
  refine goesFits P ?_
  unfold mvIinc at hm
  split at hm
  · rename_i n k
    split at hm
    · rename_i x hx'
      split at hm
      · rename_i hk
        obtain ⟨L, hL, rfl⟩ := Option.map_eq_some_iff.mp hm
        obtain ⟨v, hv, d⟩ := F.locals.get hx'
        obtain ⟨y, rfl⟩ := d.int hk
        have d2 : (⟨.add x.t (.int (Int32.ofInt k)), .int⟩ : SVal).Den A Z (.int (y + Int32.ofInt k)) := ⟨by show (x.t.closed && true) = true; rw [d.1]; rfl, by simp [Term.eval, d.2.1], rfl⟩
        obtain ⟨l', hl', dl⟩ := F.locals.store (den_nrm hΓ d2) hL
        exact ⟨{ g with pc := g.pc + 3, locals := l' }, ⟨F.method, by show g.pc + 3 = σ.pc + 3; rw [F.pc], dl, F.stack, F.locked, F.entered, F.mroom⟩, fun target hr => XS.iinc X.here hx F.method hd hv hl' hr⟩
      · cases hm
    · cases hm
  · cases hm
/-- what is assumed of comparisons -/
def CFOk (Γc : List CFact) (A : Array Value) (Z : State) : Prop := ∀ q ∈ Γc, ∀ x y : Int32, q.2.1.eval A Z none [] Z = some (.int x) → q.2.2.1.eval A Z none [] Z = some (.int y) → if_icmp.holds q.1 x y = q.2.2.2
theorem CFOk.ext {Γc : List CFact} {A A' : Array Value} {Z : State} (h : Ex A A') (k : ∀ q ∈ Γc, ∃ x y : Int32, q.2.1.eval A Z none [] Z = some (.int x) ∧ q.2.2.1.eval A Z none [] Z = some (.int y) ∧ if_icmp.holds q.1 x y = q.2.2.2) : CFOk Γc A' Z := fun q hq x y h1 h2 => by
  obtain ⟨x', y', e1, e2, e3⟩ := k q hq
  rw [eval_ext h _ _ e1] at h1
  rw [eval_ext h _ _ e2] at h2
  cases h1; cases h2
  exact e3
theorem lookC_ok {x y : Int32} : ∀ {Γc : List CFact} {k : ClassFile.Cond} {a b : Term} {v : Bool}, CFOk Γc A Z → lookC Γc k a b = some v → a.eval A Z none [] Z = some (.int x) → b.eval A Z none [] Z = some (.int y) → if_icmp.holds k x y = v
  | [], _, _, _, _, _, h, _, _ => by cases h
  | (k', a', b', v') :: r, k, a, b, v, hC, h, h1, h2 => by
    unfold lookC at h
    split at h
    · rename_i q
      obtain ⟨rfl, rfl, rfl⟩ := q
      cases h
      exact hC _ (List.mem_cons_self ..) x y h1 h2
    · exact lookC_ok (fun q hq => hC q (List.mem_cons_of_mem _ hq)) h h1 h2
theorem decI_ok {Γc : List CFact} {k : ClassFile.Cond} {a b : Term} {v : Bool} {x y : Int32} (hC : CFOk Γc A Z) (h : decI Γc k a b = some v) (h1 : a.eval A Z none [] Z = some (.int x)) (h2 : b.eval A Z none [] Z = some (.int y)) : if_icmp.holds k x y = v := by
  unfold decI at h
  split at h
  · cases h1; cases h2
    exact Option.some.inj h
  · exact lookC_ok hC h h1 h2
theorem nullT_ok (I : Inv Z CT N n0 A H T.heap) {t : Term} {b : Bool} {v : Value} (h : nullT N H.length t = some b) (he : t.eval A Z none [] Z = some v) : (b = true ∧ v = .null) ∨ (b = false ∧ ∃ a, v = .ref a) := by
  cases t <;> simp only [nullT, Option.some.injEq, reduceCtorEq] at h
  · rename_i i
    cases hb : (Nat.ble N i && Nat.blt i (N + H.length)) <;> rw [hb] at h <;> simp only [cond_true, cond_false, Option.some.injEq, reduceCtorEq] at h
    subst h
    simp only [Bool.and_eq_true] at hb
    have h1 := Nat.le_of_ble_eq_true hb.1
    have h2 : i < N + H.length := Nat.le_of_ble_eq_true hb.2
    obtain ⟨o, ho⟩ := nth_some (L := H) (n := i - N) (by omega)
    obtain ⟨a, ha, -⟩ := I.2.2.1 _ _ ho
    have e : N + (i - N) = i := by omega
    rw [e] at ha
    have he' : A[i]? = some v := he
    rw [ha] at he'
    cases he'
    exact Or.inr ⟨rfl, a, rfl⟩
  · subst h
    cases he
    exact Or.inl ⟨rfl, rfl⟩
theorem fitsAt {pc' : Nat} {r : List SVal} {vs : List Value} (F : Sym.Fits A Z m σ g) (d : DenStack A Z r vs) : Sym.Fits A Z m { σ with pc := pc', stack := r } { g with pc := pc', stack := vs } := ⟨F.method, rfl, F.locals, d, F.locked, F.entered, F.mroom⟩
theorem sFork (hx : p.tables.exec = Jvm.exec) {Γc : List CFact} (hC : CFOk Γc A Z) (P : Pnt p l e R st m args below meth cd Z CT N n0 A σ H c s T g) {a : Nat} (hd : decode cd.code g.pc = .ok (i, 3)) {o : Int} (ho : forkOff i = some o) (h0 : 0 ≤ (σ.pc : Int) + o) (ha : ((σ.pc : Int) + o).toNat = a)
    (hm : mvFork N Γc H.length i a σ = some σ') : Goes p l e R st m args below meth cd Z CT N n0 A T g σ' H c s := by
  obtain ⟨locs, cells, slots, X, F, I, r⟩ := id P
  refine goesFits P ?_
  unfold mvFork at hm
  split at hm
  · rename_i k o' y x r hst
    cases Option.some.inj ho
    split at hm
    · rename_i hk
      obtain ⟨v, hv, rfl⟩ := Option.map_eq_some_iff.mp hm
      have hs := F.stack
      rw [hst] at hs
      obtain ⟨vy, w, e1, dy, hs1⟩ := hs.cons_inv
      obtain ⟨vx, w', e2, dx, hs2⟩ := hs1.cons_inv
      subst e2
      obtain ⟨xi, rfl⟩ := dx.int hk.1
      obtain ⟨yi, rfl⟩ := dy.int hk.2
      have q := decI_ok hC hv dx.2.1 dy.2.1
      cases v
      · exact ⟨_, fitsAt (pc' := σ.pc + 3) F hs2, fun target hr => XS.icmpNo X.here hx F.method hd e1 q (by rw [F.pc]; exact hr)⟩
      · exact ⟨_, fitsAt (pc' := a) F hs2, fun target hr => XS.icmpYes X.here hx F.method F.pc hd e1 q h0 ha hr⟩
    · cases hm
  · rename_i k o' x r hst
    cases Option.some.inj ho
    split at hm
    · rename_i hk
      obtain ⟨v, hv, rfl⟩ := Option.map_eq_some_iff.mp hm
      have hs := F.stack
      rw [hst] at hs
      obtain ⟨vx, w', e1, dx, hs2⟩ := hs.cons_inv
      obtain ⟨xi, rfl⟩ := dx.int hk
      have q : if_icmp.holds k xi 0 = v := decI_ok hC hv dx.2.1 rfl
      have hh : ifCond.holds k xi = if_icmp.holds k xi 0 := by cases k <;> rfl
      rw [← hh] at q
      cases v
      · exact ⟨_, fitsAt (pc' := σ.pc + 3) F hs2, fun target hr => XS.ifNo X.here hx F.method hd e1 q (by rw [F.pc]; exact hr)⟩
      · exact ⟨_, fitsAt (pc' := a) F hs2, fun target hr => XS.ifYes X.here hx F.method F.pc hd e1 q h0 ha hr⟩
    · cases hm
  · rename_i o' x r hst
    cases Option.some.inj ho
    obtain ⟨v, hv, rfl⟩ := Option.map_eq_some_iff.mp hm
    have hs := F.stack
    rw [hst] at hs
    obtain ⟨vx, w', e1, dx, hs2⟩ := hs.cons_inv
    rcases nullT_ok I hv dx.2.1 with ⟨rfl, rfl⟩ | ⟨rfl, b, rfl⟩
    · exact ⟨_, fitsAt (pc' := a) F hs2, fun target hr => XS.ifnullYes X.here hx F.method F.pc hd e1 h0 ha hr⟩
    · exact ⟨_, fitsAt (pc' := σ.pc + 3) F hs2, fun target hr => XS.ifnullNo X.here hx F.method hd e1 (by rw [F.pc]; exact hr)⟩
  · rename_i o' x r hst
    cases Option.some.inj ho
    obtain ⟨v, hv, rfl⟩ := Option.map_eq_some_iff.mp hm
    have hs := F.stack
    rw [hst] at hs
    obtain ⟨vx, w', e1, dx, hs2⟩ := hs.cons_inv
    rcases nullT_ok I hv dx.2.1 with ⟨rfl, rfl⟩ | ⟨rfl, b, rfl⟩
    · exact ⟨_, fitsAt (pc' := σ.pc + 3) F hs2, fun target hr => XT.ifnonnullNo X.here hx F.method hd e1 (by rw [F.pc]; exact hr)⟩
    · exact ⟨_, fitsAt (pc' := a) F hs2, fun target hr => XT.ifnonnullYes X.here hx F.method F.pc hd e1 h0 ha hr⟩
  · cases hm
theorem sGoto (hx : p.tables.exec = Jvm.exec) (P : Pnt p l e R st m args below meth cd Z CT N n0 A σ H c s T g) {a : Nat} {o : Int} (hd : decode cd.code g.pc = .ok (.goto o, 3)) (h0 : 0 ≤ (σ.pc : Int) + o) (ha : ((σ.pc : Int) + o).toNat = a) :
    Goes p l e R st m args below meth cd Z CT N n0 A T g { σ with pc := a } H c s := by
  obtain ⟨locs, cells, slots, X, F, I, r⟩ := id P
  refine goesFits P ⟨{ g with pc := a }, ⟨F.method, rfl, F.locals, F.stack, F.locked, F.entered, F.mroom⟩, fun target hr => XS.goto X.here hx F.method F.pc hd h0 ha hr⟩
theorem isK_i {t : Term} {z : Int32} (h : t.eval A Z none [] Z = some (.int z)) : (isK .int t).before A Z = true := by
  show ((Cond.isInt t).value A Z none Z [] == some true) = true
  simp [Cond.value, h]
theorem isK_l {t : Term} {z : Int64} (h : t.eval A Z none [] Z = some (.long z)) : (isK .long t).before A Z = true := by
  show ((Cond.isLong t).value A Z none Z [] == some true) = true
  simp [Cond.value, h]
theorem need_div {a b : Term} {x y : Int32} (h1 : a.eval A Z none [] Z = some (.int x)) (h2 : b.eval A Z none [] Z = some (.int y)) (hy : y ≠ 0) : (isK .int (.div a b)).before A Z = true := isK_i (z := x / y) (by simp [Term.eval, h1, h2, hy])
theorem need_rem {a b : Term} {x y : Int32} (h1 : a.eval A Z none [] Z = some (.int x)) (h2 : b.eval A Z none [] Z = some (.int y)) (hy : y ≠ 0) : (isK .int (.rem a b)).before A Z = true := isK_i (z := x % y) (by simp [Term.eval, h1, h2, hy])
theorem need_ldiv {a b : Term} {x y : Int64} (h1 : a.eval A Z none [] Z = some (.long x)) (h2 : b.eval A Z none [] Z = some (.long y)) (hy : y ≠ 0) : (isK .long (.op2 .ldiv a b)).before A Z = true := isK_l (z := x / y) (by simp [Term.eval, h1, h2, hy, Binary.apply])
theorem need_lrem {a b : Term} {x y : Int64} (h1 : a.eval A Z none [] Z = some (.long x)) (h2 : b.eval A Z none [] Z = some (.long y)) (hy : y ≠ 0) : (isK .long (.op2 .lrem a b)).before A Z = true := isK_l (z := x - (x / y) * y) (by simp [Term.eval, h1, h2, hy, Binary.apply])
theorem divNeed {q : SFrame × List Jvm.Cond} {y : SVal} {r : List SVal} (F : Sym.Fits A Z m σ g) (hst : σ.stack = y :: r) (hq : moveDiv i 1 σ = some q) (hi : ∀ z : Int32, y.t.eval A Z none [] Z = some (.int z) → z ≠ 0) (hl : ∀ z : Int64, y.t.eval A Z none [] Z = some (.long z) → z ≠ 0) : ∀ n ∈ q.2, n.before A Z = true := by
  have hs := F.stack
  rw [hst] at hs
  obtain ⟨vy, w, e1, dy, hs1⟩ := hs.cons_inv
  obtain ⟨pc, L, S, W⟩ := σ
  dsimp only at hst
  subst hst
  cases r with
  | nil => cases i <;> cases hq
  | cons x r =>
    obtain ⟨vx, w', e2, dx, hs2⟩ := hs1.cons_inv
    cases i
    case idiv =>
      have hq' : (if x.k = .int ∧ y.k = .int then some _ else none) = some q := hq
      split at hq'
      · rename_i hk
        obtain ⟨xi, rfl⟩ := dx.int hk.1
        obtain ⟨yi, rfl⟩ := dy.int hk.2
        cases hq'
        intro n hn
        cases List.mem_singleton.mp hn
        exact need_div dx.2.1 dy.2.1 (hi yi dy.2.1)
      · cases hq'
    case irem =>
      have hq' : (if x.k = .int ∧ y.k = .int then some _ else none) = some q := hq
      split at hq'
      · rename_i hk
        obtain ⟨xi, rfl⟩ := dx.int hk.1
        obtain ⟨yi, rfl⟩ := dy.int hk.2
        cases hq'
        intro n hn
        cases List.mem_singleton.mp hn
        exact need_rem dx.2.1 dy.2.1 (hi yi dy.2.1)
      · cases hq'
    case ldiv =>
      have hq' : (if x.k = .long ∧ y.k = .long then some _ else none) = some q := hq
      split at hq'
      · rename_i hk
        obtain ⟨xi, rfl⟩ := dx.long hk.1
        obtain ⟨yi, rfl⟩ := dy.long hk.2
        cases hq'
        intro n hn
        cases List.mem_singleton.mp hn
        exact need_ldiv dx.2.1 dy.2.1 (hl yi dy.2.1)
      · cases hq'
    case lrem =>
      have hq' : (if x.k = .long ∧ y.k = .long then some _ else none) = some q := hq
      split at hq'
      · rename_i hk
        obtain ⟨xi, rfl⟩ := dx.long hk.1
        obtain ⟨yi, rfl⟩ := dy.long hk.2
        cases hq'
        intro n hn
        cases List.mem_singleton.mp hn
        exact need_lrem dx.2.1 dy.2.1 (hl yi dy.2.1)
      · cases hq'
    all_goals cases hq
theorem sDiv (hx : p.tables.exec = Jvm.exec) {Γ : List (Term × Term)} (hΓ : ΓOk Γ A Z) {Γc : List CFact} (hC : CFOk Γc A Z) (P : Pnt p l e R st m args below meth cd Z CT N n0 A σ H c s T g) (hd : decode cd.code g.pc = .ok (i, 1)) (hm : mvDiv Γ Γc i σ = some σ') :
    Goes p l e R st m args below meth cd Z CT N n0 A T g σ' H c s := by
  obtain ⟨locs, cells, slots, X, F, I, r⟩ := id P
  refine goesFits P ?_
  unfold mvDiv at hm
  split at hm
  · rename_i y r hst
    have go : ∀ q, moveDiv i 1 σ = some q → (∀ z : Int32, y.t.eval A Z none [] Z = some (.int z) → z ≠ 0) → (∀ z : Int64, y.t.eval A Z none [] Z = some (.long z) → z ≠ 0) → nrmTop Γ q.1 = σ' → ∃ g', Sym.Fits A Z m σ' g' ∧ Leads p.tables e below T g T g' := fun q hq hi hl e0 => by
      obtain ⟨q1, q2⟩ := q
      obtain ⟨g', F', L⟩ := moveDiv_sound (e := e) X.here hx F hd hq (divNeed F hst hq hi hl)
      exact ⟨g', e0 ▸ fitsTop hΓ F', L⟩
    split at hm
    · rename_i z hz
      split at hm
      · cases hm
      · rename_i nz
        obtain ⟨q, hq, e0⟩ := Option.map_eq_some_iff.mp hm
        exact go q hq (fun z' e1 => by rw [hz] at e1; cases e1; exact nz) (fun z' e1 => by rw [hz] at e1; cases e1) e0
    · rename_i z hz
      split at hm
      · cases hm
      · rename_i nz
        obtain ⟨q, hq, e0⟩ := Option.map_eq_some_iff.mp hm
        exact go q hq (fun z' e1 => by rw [hz] at e1; cases e1) (fun z' e1 => by rw [hz] at e1; cases e1; exact nz) e0
    · split at hm
      · rename_i hlook
        obtain ⟨q, hq, e0⟩ := Option.map_eq_some_iff.mp hm
        refine go q hq (fun z' e1 => ?_) (fun z' e1 => ?_) e0
        · have hs := F.stack
          rw [hst] at hs
          obtain ⟨vy, w, e2, dy, hs1⟩ := hs.cons_inv
          have hk : y.k = .int := by
            have := dy.2.2
            rw [dy.2.1] at e1
            cases e1
            cases hk : y.k <;> rw [hk] at this <;> first | rfl | (simp [VKind.ok] at this)
          rw [hk] at hlook
          have := lookC_ok hC hlook e1 rfl
          intro z0
          subst z0
          cases this
        · have hs := F.stack
          rw [hst] at hs
          obtain ⟨vy, w, e2, dy, hs1⟩ := hs.cons_inv
          have hk : y.k = .long := by
            have := dy.2.2
            rw [dy.2.1] at e1
            cases e1
            cases hk : y.k <;> rw [hk] at this <;> first | rfl | (simp [VKind.ok] at this)
          rw [hk] at hlook
          intro z0
          subst z0
          have e3 : (Term.op2 .lcmp y.t (.long 0)).eval A Z none [] Z = some (.int 0) := by simp [Term.eval, e1, Binary.apply]
          have := lookC_ok hC hlook e3 rfl
          cases this
      · cases hm
  · cases hm
theorem sLdc (hx : p.tables.exec = Jvm.exec) (hZ : Z.Warmed39 st.vm) (hown : st.vm.findClass own = some m.cls) (P : Pnt p l e R st m args below meth cd Z CT N n0 A σ H c s T g) {k : Term} (hd : decode cd.code g.pc = .ok (i, len))
    (hl : (∃ idx v, i = .ldc idx ∧ len = 2 ∧ k = .int v ∧ (Cond.constant own idx v).before a0 Z = true) ∨ (∃ idx v, i = .ldc_w idx ∧ len = 3 ∧ k = .int v ∧ (Cond.constant own idx v).before a0 Z = true) ∨ (∃ idx v, i = .ldc2_w idx ∧ len = 3 ∧ k = .long v ∧ (Cond.constantLong own idx v).before a0 Z = true))
    (hm : mvLdc i len k σ = some σ') : Goes p l e R st m args below meth cd Z CT N n0 A T g σ' H c s := by
  obtain ⟨locs, cells, slots, X, F, I, r⟩ := id P
  refine goesFits P ?_
  rcases hl with ⟨idx, v, rfl, rfl, rfl, w⟩ | ⟨idx, v, rfl, rfl, rfl, w⟩ | ⟨idx, v, rfl, rfl, rfl, w⟩
  · cases hm
    exact ⟨_, F.step (DenStack.cons ⟨rfl, rfl, rfl⟩ F.stack) 2, X.ldcInt hx hown (mv hZ w) F.method hd⟩
  · cases hm
    exact ⟨_, F.step (DenStack.cons ⟨rfl, rfl, rfl⟩ F.stack) 3, fun target hr => ldcWI X hx hown (mv hZ w) F.method hd hr⟩
  · cases hm
    exact ⟨_, F.step (DenStack.cons ⟨rfl, rfl, rfl⟩ F.stack) 3, X.ldc2Long hx hown (mv hZ w) F.method hd⟩
end Moves
end Jvm.OwnEv
namespace Jvm.OwnEv
open Sem ClassFile Op Lib Jvm.Stand Jvm.Free Jvm.LawKit Jvm.RoadKit Jvm.Sym
/-! ## 5. The moves that read or write the heap -/
section Moves
variable {p : Program} {l : Launch} {e : Env} {R : Room} {st : State} {m : MethodId} {args : Array Value} {below : List Frame} {meth : Method} {cd : Code} {Z : State} {a0 : Array Value} {CT : List CRow} {N n0 : Nat}
variable {A : Array Value} {σ σ' : SFrame} {H H' : AH} {c s c' s' : Nat} {T : State} {g : JFrame} {i : Instr} {len : Nat} {own : String}
theorem sGet (hx : p.tables.exec = Jvm.exec) (hZ : Z.Warmed39 st.vm) (hown : st.vm.findClass own = some m.cls) (P : Pnt p l e R st m args below meth cd Z CT N n0 A σ H c s T g) {idx a b : Nat} {C : String} {nn : Nat} {fs : List FRow} {f : FRow}
    (hd : decode cd.code g.pc = .ok (.getfield idx, 3)) (hC : nth CT a = some (C, nn, fs)) (hf : nth fs b = some f) (hl : FLink Z a0 own idx C f.1 f.2.1) (hm : mvGet N H a b σ = some σ') : Goes p l e R st m args below meth cd Z CT N n0 A T g σ' H c s := by
  obtain ⟨locs, cells, slots, X, F, I, N1, B1, B2⟩ := id P
  unfold mvGet at hm
  split at hm
  · rename_i x r hst
    split at hm
    · rename_i j hj
      split at hm
      · rename_i ci xs hO
        cases hb : Nat.beq ci a <;> rw [hb] at hm <;> simp only [cond_true, cond_false, reduceCtorEq] at hm
        have ec := Nat.eq_of_beq_eq_true hb
        subst ec
        obtain ⟨y, hy, rfl⟩ := Option.map_eq_some_iff.mp hm
        have hs := F.stack
        rw [hst] at hs
        obtain ⟨vx, w, e1, dx, hs1⟩ := hs.cons_inv
        obtain ⟨ad, rfl, -, -, C', nn', fs', q1, q2, q3, q4⟩ := plc_ref I hj hO dx.2.1
        cases hC.symm.trans q1
        obtain ⟨v, dv, FF⟩ := q4 b f y hf hy
        obtain ⟨T', X', eT, st'⟩ := getF X hx hZ hown (host := "") hl Via.refl rfl FF F.method e1 hd
        refine ⟨A, T', _, Ex.refl A, ⟨locs, cells, slots, X', F.step (DenStack.cons dv hs1) 3, by rw [eT]; exact I, N1, B1, B2⟩, st'⟩
      · cases hm
    · cases hm
  · cases hm
theorem kOk_fits {ty : FieldType} {k : VKind} {v : Value} (h : kOk ty k = true) (d : k.ok v = true) : narrow ty v = v ∧ fits ty v = true := by
  cases ty <;> cases k <;> simp only [kOk, reduceCtorEq] at h <;> cases v <;> simp only [VKind.ok, reduceCtorEq] at d <;> exact ⟨rfl, rfl⟩
theorem sPut (hx : p.tables.exec = Jvm.exec) (hZ : Z.Warmed39 st.vm) (hown : st.vm.findClass own = some m.cls) (hCT : CTOk Z a0 CT) (P : Pnt p l e R st m args below meth cd Z CT N n0 A σ H c s T g) {idx a b : Nat} {C : String} {nn : Nat} {fs : List FRow} {f : FRow}
    (hd : decode cd.code g.pc = .ok (.putfield idx, 3)) (hC : nth CT a = some (C, nn, fs)) (hf : nth fs b = some f) (hl : FLink Z a0 own idx C f.1 f.2.1) (hfin : f.2.2.2 = true → own = C ∧ meth.name = "<init>") (hm : mvPut N H a b f.2.2.1 σ = some (σ', H')) : Goes p l e R st m args below meth cd Z CT N n0 A T g σ' H' c s := by
  obtain ⟨locs, cells, slots, X, F, I, N1, B1, B2⟩ := id P
  unfold mvPut at hm
  split at hm
  · rename_i y x r hst
    split at hm
    · rename_i j hj
      split at hm
      · rename_i ci xs hO
        cases hb : (Nat.beq ci a && kOk f.2.2.1 y.k && Nat.blt b xs.length) <;> rw [hb] at hm <;> simp only [cond_true, cond_false, reduceCtorEq, Option.some.injEq, Prod.mk.injEq] at hm
        obtain ⟨rfl, rfl⟩ := hm
        simp only [Bool.and_eq_true] at hb
        obtain ⟨⟨hb1, hb2⟩, hb3⟩ := hb
        have hlt : b < xs.length := Nat.le_of_ble_eq_true hb3
        have ec := Nat.eq_of_beq_eq_true hb1
        subst ec
        have hs := F.stack
        rw [hst] at hs
        obtain ⟨vy, w, e1, dy, hs1⟩ := hs.cons_inv
        obtain ⟨vx, w', e2, dx, hs2⟩ := hs1.cons_inv
        subst e2
        obtain ⟨ad, rfl, hA, ge, C', nn', fs', q1, q2, q3, q4⟩ := plc_ref I hj hO dx.2.1
        cases hC.symm.trans q1
        have hck := hCT _ _ hC
        obtain ⟨x0, hx0⟩ := nth_some hlt
        obtain ⟨v0, -, FF⟩ := q4 b f x0 hf hx0
        obtain ⟨kn, kf⟩ := kOk_fits hb2 dy.2.2
        have hty := (hck.2.2.1 b f hf).2.1
        have hL : (Cond.lays C C f.1 f.2.1).before a0 Z = true ∨ ((Cond.laysFinal C C f.1 f.2.1).before a0 Z = true ∧ own = C ∧ meth.name = "<init>") := by
          have q := (hck.2.2.1 b f hf).1
          cases hb : f.2.2.2 <;> rw [hb] at q
          · exact Or.inl q
          · exact Or.inr ⟨q, hfin hb⟩
        obtain ⟨T', h', X', eT, W, st'⟩ := putF X hx hZ hown (host := "") hl Via.refl rfl FF q2 hL hck.1 hty kn kf F.method e1 hd
        have K := Keep.of_wr W
        refine ⟨A, T', _, Ex.refl A, ⟨_, cells, slots, X', F.step hs2 3, ?_, Fr.snoc X' N1 ge, B1, B2⟩, st'⟩
        rw [eT]
        refine I.upd hO hA K ⟨ge, C, nn, fs, hC, q2.keep K, by rw [List.length_set]; exact q3, fun k f' x' hf' hx' => ?_⟩
        by_cases eb : b = k
        · subst eb
          cases hf.symm.trans hf'
          rw [nth_set_self _ hlt] at hx'
          cases hx'
          exact ⟨vy, dy, FF.same W⟩
        · rw [nth_set_ne _ eb] at hx'
          obtain ⟨v, dv, F2⟩ := q4 k f' x' hf' hx'
          exact ⟨v, dv, F2.other W (Or.inr (slot_ne (hck.laid hf') (hck.laid hf) (hck.2.2.2 k b f' f (Ne.symm eb) hf' hf) (hck.2.2.1 k f' hf').2.1 hty))⟩
      · cases hm
    · cases hm
  · cases hm
theorem argEval {A : Array Value} {n : Nat} {a : Addr} (h : A[n]? = some (.ref a)) : (⟨.arg n, .ref⟩ : SVal).Den A Z (.ref a) := ⟨rfl, h, rfl⟩
theorem sNew (hx : p.tables.exec = Jvm.exec) (hZ : Z.Warmed39 st.vm) (hown : st.vm.findClass own = some m.cls) (hCT : CTOk Z a0 CT) (P : Pnt p l e R st m args below meth cd Z CT N n0 A σ H c s T g) {idx a : Nat} {C : String} {nn : Nat} {fs : List FRow}
    (hd : decode cd.code g.pc = .ok (.new idx, 3)) (hC : nth CT a = some (C, nn, fs)) (hl : (Cond.classLink own idx C).before a0 Z = true) (hm : mvNew N CT H a c s σ = some (σ', H', c', s')) : Goes p l e R st m args below meth cd Z CT N n0 A T g σ' H' c' s' := by
  obtain ⟨locs, cells, slots, X, F, I, N1, B1, B2⟩ := id P
  unfold mvNew at hm
  rw [hC] at hm
  dsimp only at hm
  cases hb : (Nat.ble 1 c && Nat.ble nn s) <;> rw [hb] at hm <;> simp only [cond_true, cond_false, reduceCtorEq, Option.some.injEq, Prod.mk.injEq] at hm
  obtain ⟨rfl, rfl, rfl, rfl⟩ := hm
  simp only [Bool.and_eq_true] at hb
  have h1 := Nat.le_of_ble_eq_true hb.1
  have h2 := Nat.le_of_ble_eq_true hb.2
  have hck := hCT _ _ hC
  obtain ⟨T', h', X', eT, E, EX, D, -, st'⟩ := newO X hx hZ hown hl (n := nn) hck.1 hck.2.1 rfl F.method hd (by omega) (by omega)
  have XA := Ex.push A (.ref T.heap.size)
  have here : (A.push (.ref T.heap.size))[N + H.length]? = some (.ref T.heap.size) := by rw [← I.1]; simp
  refine ⟨A.push (.ref T.heap.size), T', _, XA, ⟨locs, cells + 1, slots + nn, X', (fits_ext XA F).step (DenStack.cons (argEval here) (DenStack.ext XA F.stack)) 3, ?_, N1, by omega, by omega⟩, st'⟩
  rw [eT]
  refine I.push E ⟨I.2.1, C, nn, fs, hC, EX, by rw [List.length_map], fun k f x hf hx => ?_⟩
  rw [nth_map, hf] at hx
  cases hx
  have q := hck.2.2.1 k f hf
  exact ⟨_, dflt_den q.2.2, D (hck.laid hf) q.2.1⟩
theorem back_len {z : Int32} (h : ¬ z < 0) : Int32.ofNat z.toNatClampNeg = z ∧ z.toNatClampNeg < 2 ^ 31 := back32 h
theorem fits_dflt {ty : FieldType} (h : okTy ty = true) : fits ty (defaultValue ty) = true := by
  cases ty <;> first | (simp [okTy] at h; done) | rfl | decide
theorem arvFull {a : Addr} {k : ClassId} {ty : FieldType} {z : Int32} {h : Heap} (hk : okTy ty = true) (F : Arr Z h a (newA k ty z) ty) (hz : ¬ z < 0) : Arv Z h a k ty z (List.replicate z.toNatClampNeg (defaultValue ty)) .null := by
  refine ⟨_, F, rfl, sz_new _ _ _, hz, fun i hi => ?_, fun i hi => ?_⟩
  · rw [sz_new] at hi
    simp [newA, List.getD_eq_getElem?_getD, hi]
  · rw [sz_new] at hi
    have e : (List.replicate z.toNatClampNeg (defaultValue ty)).getD i .null = defaultValue ty := by simp [List.getD_eq_getElem?_getD, hi]
    rw [e]
    exact fits_dflt hk
theorem sNewA (hx : p.tables.exec = Jvm.exec) (hZ : Z.Warmed39 st.vm) (P : Pnt p l e R st m args below meth cd Z CT N n0 A σ H c s T g) {aty : ArrayType}
    (hd : decode cd.code g.pc = .ok (.newarray aty, 2)) (hl : (Cond.arrayClass (newarray.typeOf aty)).before a0 Z = true) (hm : mvNewA N H (.newarray aty) c s σ = some (σ', H', c', s')) : Goes p l e R st m args below meth cd Z CT N n0 A T g σ' H' c' s' := by
  obtain ⟨locs, cells, slots, X, F, I, N1, B1, B2⟩ := id P
  unfold mvNewA at hm
  split at hm
  · rename_i aty' x r hi hst
    cases hi
    split at hm
    · rename_i z hz
      split at hm
      · rename_i hq
        obtain ⟨q1, q2, q3, q4, q5⟩ := hq
        simp only [Option.some.injEq, Prod.mk.injEq] at hm
        obtain ⟨rfl, rfl, rfl, rfl⟩ := hm
        have hs := F.stack
        rw [hst] at hs
        obtain ⟨vx, w, e1, dx, hs1⟩ := hs.cons_inv
        have ev := dx.2.1
        rw [hz] at ev
        cases ev
        obtain ⟨T', h', cA, X', eT, E, AR, EX, st'⟩ := newPE X hx hZ hl rfl F.method hd e1 q1 (cap := z.toNatClampNeg) (Nat.le_refl _) (by omega) (by omega) (by omega) rfl
        have XA := Ex.push A (.ref T.heap.size)
        have here : (A.push (.ref T.heap.size))[N + H.length]? = some (.ref T.heap.size) := by rw [← I.1]; simp
        refine ⟨A.push (.ref T.heap.size), T', _, XA, ⟨locs, cells + 1, slots + z.toNatClampNeg, X', (fits_ext XA F).step (DenStack.cons (argEval here) (DenStack.ext XA hs1)) 2, ?_, N1, by omega, by omega⟩, st'⟩
        rw [eT]
        obtain ⟨b1, b2⟩ := back_len q1
        refine I.push E ⟨I.2.1, by rw [List.length_replicate]; exact b2, EX, cA, _, ?_, by rw [List.length_replicate, List.length_replicate], denStack_replicate (dflt_den q2) _⟩
        rw [List.length_replicate, b1]
        exact arvFull q2 AR q1
      · cases hm
    · cases hm
  · cases hm
theorem sLen (hx : p.tables.exec = Jvm.exec) (hZ : Z.Warmed39 st.vm) (P : Pnt p l e R st m args below meth cd Z CT N n0 A σ H c s T g)
    (hd : decode cd.code g.pc = .ok (.arraylength, 1)) (hm : mvLen N H σ = some σ') : Goes p l e R st m args below meth cd Z CT N n0 A T g σ' H c s := by
  obtain ⟨locs, cells, slots, X, F, I, N1, B1, B2⟩ := id P
  unfold mvLen at hm
  split at hm
  · rename_i x r hst
    split at hm
    · rename_i j hj
      split at hm
      · rename_i ty xs hO
        cases hm
        have hs := F.stack
        rw [hst] at hs
        obtain ⟨vx, w, e1, dx, hs1⟩ := hs.cons_inv
        obtain ⟨ad, rfl, hA, ge, q2, q3, k, vs, ⟨cl, AR, -, S, NN, Hs, G⟩, q5, q6⟩ := plc_ref I hj hO dx.2.1
        refine goesFits P ⟨_, F.step (DenStack.cons ⟨rfl, rfl, rfl⟩ hs1) 1, fun target hr => X.arraylength hx AR.1 (State.isArrayOf_alike hZ.alike AR.2.1) F.method e1 hd target ?_⟩
        rw [len_of S NN]
        exact hr
      · cases hm
    · cases hm
  · cases hm
theorem inb {z q : Int32} {n : Nat} (hn : n < 2 ^ 31) (hz : z = Int32.ofNat n) (h1 : ¬ q < 0) (h2 : q.toNatClampNeg < n) {cl : Cell} (S : cl.slots.size = z.toNatClampNeg) : ¬ (q < 0 ∨ cl.slots.size ≤ q.toNatClampNeg) := by
  have e : z.toNatClampNeg = n := by rw [hz, Int32.toNatClampNeg, Int32.toInt_ofNat_of_lt (by omega)]; rfl
  rw [S, e]
  rintro (h | h)
  · exact h1 h
  · omega
theorem sALd (hx : p.tables.exec = Jvm.exec) (hZ : Z.Warmed39 st.vm) (P : Pnt p l e R st m args below meth cd Z CT N n0 A σ H c s T g)
    (hd : decode cd.code g.pc = .ok (i, 1)) (hm : mvALd N H i σ = some σ') : Goes p l e R st m args below meth cd Z CT N n0 A T g σ' H c s := by
  obtain ⟨locs, cells, slots, X, F, I, N1, B1, B2⟩ := id P
  unfold mvALd at hm
  split at hm
  · rename_i z x r hst
    split at hm
    · rename_i j q hj hz
      split at hm
      · rename_i ty xs hO
        split at hm
        · rename_i hq
          obtain ⟨y, hy, rfl⟩ := Option.map_eq_some_iff.mp hm
          have hs := F.stack
          rw [hst] at hs
          obtain ⟨vz, w, e1, dz, hs1⟩ := hs.cons_inv
          obtain ⟨vx, w', e2, dx, hs2⟩ := hs1.cons_inv
          subst e2
          have ev := dz.2.1
          rw [hz] at ev
          cases ev
          obtain ⟨ad, rfl, hA, ge, q2, q3, k, vs, ⟨cl, AR, -, S, NN, Hs, G⟩, q5, q6⟩ := plc_ref I hj hO dx.2.1
          obtain ⟨v, hv, dv⟩ := denStack_nth q6 _ _ hy
          have hin := inb q2 rfl hq.2 (nth_lt hy) S
          have hat : cl.slots[q.toNatClampNeg]? = some v := Hs.at hin (by rw [List.getD_eq_getElem?_getD, hv]; rfl)
          have hAl := State.isArrayOf_alike hZ.alike AR.2.1
          refine goesFits P ⟨_, F.step (DenStack.cons dv hs2) 1, fun target hr => ?_⟩
          have ok := hq.1
          cases i <;> cases ty <;> simp only [ldOk, reduceCtorEq] at ok
          all_goals first
            | exact X.iaload hx AR.1 hAl AR.2.2 hin hat F.method e1 hd target hr
            | exact X.laload hx AR.1 hAl AR.2.2 hin hat F.method e1 hd target hr
            | exact X.baloadBytes hx AR.1 hAl AR.2.2 hin hat F.method e1 hd target hr
            | exact X.baloadBooleans hx AR.1 hAl AR.2.2 hin hat F.method e1 hd target hr
        · cases hm
      · cases hm
    · cases hm
  · cases hm
theorem repSet {h h' : Heap} {a : Addr} {k : ClassId} {ty : FieldType} {xs : List SVal} {vs : List Value} {cl : Cell} {q : Int32} {w : SVal} {v : Value} (hn : xs.length < 2 ^ 31) (ge : n0 ≤ a) (EX : Exa Z h a (adr ty)) (AR : Arr Z h a cl ty) (hk : cl.cls = k) (S : cl.slots.size = (Int32.ofNat xs.length).toNatClampNeg) (NN : ¬ Int32.ofNat xs.length < 0) (Hs : Has cl vs .null) (G : ∀ i, i < cl.slots.size → fits ty (vs.getD i .null) = true)
    (hl : vs.length = xs.length) (ds : DenStack A Z xs vs) (hq : q.toNatClampNeg < xs.length) (dw : w.Den A Z v) (hv : fits ty v = true) (W : Wr h h' a q.toNatClampNeg v) : RepO Z CT n0 A h' a (some (.inr (ty, xs.set q.toNatClampNeg w))) := by
  refine ⟨ge, by rw [List.length_set]; exact hn, EX.wr W, k, vs.set q.toNatClampNeg v, ?_, by rw [List.length_set, List.length_set]; exact hl, denStack_set _ ds dw⟩
  rw [List.length_set]
  exact Arv.set AR hk S NN Hs G hv W q.toNatClampNeg rfl (by rw [hl]; exact hq)
theorem sASt (hx : p.tables.exec = Jvm.exec) (hZ : Z.Warmed39 st.vm) {Γ : List (Term × Term)} (hΓ : ΓOk Γ A Z) (P : Pnt p l e R st m args below meth cd Z CT N n0 A σ H c s T g)
    (hd : decode cd.code g.pc = .ok (i, 1)) (hm : mvASt N Γ H i σ = some (σ', H')) : Goes p l e R st m args below meth cd Z CT N n0 A T g σ' H' c s := by
  obtain ⟨locs, cells, slots, X, F, I, N1, B1, B2⟩ := id P
  unfold mvASt at hm
  split at hm
  · rename_i y z x r hst
    split at hm
    · rename_i j q hj hz
      split at hm
      · rename_i ty xs hO
        split at hm
        · rename_i hq
          obtain ⟨w, hw, e0⟩ := Option.map_eq_some_iff.mp hm
          simp only [Prod.mk.injEq] at e0
          obtain ⟨rfl, rfl⟩ := e0
          have hs := F.stack
          rw [hst] at hs
          obtain ⟨vy, wy, e1, dy, hs1⟩ := hs.cons_inv
          obtain ⟨vz, wz, e2, dz, hs2⟩ := hs1.cons_inv
          obtain ⟨vx, wx, e3, dx, hs3⟩ := hs2.cons_inv
          subst e2
          subst e3
          have ev := dz.2.1
          rw [hz] at ev
          cases ev
          obtain ⟨ad, rfl, hA, ge, q2, q3, k, vs, ⟨cl, AR, hk, S, NN, Hs, G⟩, q5, q6⟩ := plc_ref I hj hO dx.2.1
          have hin := inb q2 rfl hq.1 hq.2 S
          unfold stV at hw
          split at hw
          · split at hw
            · rename_i hy
              cases hw
              obtain ⟨n, rfl⟩ := dy.int hy
              obtain ⟨T', h', X', eT, W, st'⟩ := stI X hx hZ rfl AR hin F.method e1 hd
              refine ⟨A, T', _, Ex.refl A, ⟨_, cells, slots, X', F.step hs3 1, ?_, Fr.snoc X' N1 ge, B1, B2⟩, st'⟩
              rw [eT]
              exact I.upd hO hA (Keep.of_wr W) (repSet q2 ge q3 AR hk S NN Hs G q5 q6 hq.2 dy rfl W)
            · cases hw
          · split at hw
            · rename_i hy
              cases hw
              obtain ⟨n, rfl⟩ := dy.long hy
              obtain ⟨T', h', X', eT, W, st'⟩ := stJ X hx hZ rfl AR hin F.method e1 hd
              refine ⟨A, T', _, Ex.refl A, ⟨_, cells, slots, X', F.step hs3 1, ?_, Fr.snoc X' N1 ge, B1, B2⟩, st'⟩
              rw [eT]
              exact I.upd hO hA (Keep.of_wr W) (repSet q2 ge q3 AR hk S NN Hs G q5 q6 hq.2 dy rfl W)
            · cases hw
          · split at hw
            · rename_i hy
              cases hw
              obtain ⟨n, rfl⟩ := dy.int hy
              obtain ⟨T', h', X', eT, W, st'⟩ := stB X hx hZ rfl AR hin F.method e1 hd
              refine ⟨A, T', _, Ex.refl A, ⟨_, cells, slots, X', F.step hs3 1, ?_, Fr.snoc X' N1 ge, B1, B2⟩, st'⟩
              rw [eT]
              have dw : (⟨.op1 .i2b y.t, .int⟩ : SVal).Den A Z (.int (nar .byte n)) := ⟨dy.1, by simp [Term.eval, dy.2.1, Unary.apply, nar], rfl⟩
              exact I.upd hO hA (Keep.of_wr W) (repSet q2 ge q3 AR hk S NN Hs G q5 q6 hq.2 (den_nrm hΓ dw) (fits_nar_byte n) W)
            · cases hw
          · split at hw
            · rename_i hy
              cases hw
              obtain ⟨n, rfl⟩ := dy.int hy
              obtain ⟨T', h', X', eT, W, st'⟩ := stZ X hx hZ rfl AR hin F.method e1 hd
              refine ⟨A, T', _, Ex.refl A, ⟨_, cells, slots, X', F.step hs3 1, ?_, Fr.snoc X' N1 ge, B1, B2⟩, st'⟩
              rw [eT]
              have dw : (⟨.op2 .iand y.t (.int 1), .int⟩ : SVal).Den A Z (.int (nar .boolean n)) := ⟨by show (y.t.closed && true) = true; rw [dy.1]; rfl, by simp [Term.eval, dy.2.1, Binary.apply, nar], rfl⟩
              exact I.upd hO hA (Keep.of_wr W) (repSet q2 ge q3 AR hk S NN Hs G q5 q6 hq.2 (den_nrm hΓ dw) (fits_nar_bool n) W)
            · cases hw
          · cases hw
        · cases hm
      · cases hm
    · cases hm
  · cases hm
theorem sInitO (hx : p.tables.exec = Jvm.exec) (hZ : Z.Warmed39 st.vm) (hown : st.vm.findClass own = some m.cls) (P : Pnt p l e R st m args below meth cd Z CT N n0 A σ H c s T g) {idx fr lo : Nat} (hfr : fr ≤ R.frames) (hlo : lo ≤ R.locals)
    (hd : decode cd.code g.pc = .ok (.invokespecial idx, 3)) (w1 : (Cond.methodLink own idx Lib.objectInit).before a0 Z = true) (w2 : (Cond.instanceMethod Lib.objectInit).before a0 Z = true) (w3 : (Cond.code Lib.objectInit ⟨#[0xb1]⟩ 1 none).before a0 Z = true)
    (hm : mvInitO N H fr lo cd.maxLocals σ = some σ') : Goes p l e R st m args below meth cd Z CT N n0 A T g σ' H c s := by
  obtain ⟨locs, cells, slots, X, F, I, N1, B1, B2⟩ := id P
  unfold mvInitO at hm
  split at hm
  · rename_i x r hst
    split at hm
    · rename_i j hj
      cases hb : (Nat.blt j H.length && Nat.ble 1 fr && Nat.ble (wt r + 12) lo && Nat.beq σ.locals.length cd.maxLocals) <;> rw [hb] at hm <;> simp only [cond_true, cond_false, reduceCtorEq, Option.some.injEq] at hm
      subst hm
      simp only [Bool.and_eq_true] at hb
      obtain ⟨⟨⟨b1, b2⟩, b3⟩, b4⟩ := hb
      have b2 := Nat.le_of_ble_eq_true b2
      have b3 := Nat.le_of_ble_eq_true b3
      have b4 := Nat.eq_of_beq_eq_true b4
      obtain ⟨o, ho⟩ := nth_some (L := H) (n := j) (Nat.le_of_ble_eq_true b1)
      have hs := F.stack
      rw [hst] at hs
      obtain ⟨vx, w, e1, dx, hs1⟩ := hs.cons_inv
      obtain ⟨ad, rfl, -, -⟩ := plc_ref I hj ho dx.2.1
      obtain ⟨T', X', eT, st'⟩ := initO X hx hZ hown w1 w2 w3 rfl F.method (by rw [F.locals.size, b4]) e1 hd (by omega) (W := wt r) (by rw [F.mroom, denStack_wt hs1]; omega) (by omega)
      exact ⟨A, T', _, Ex.refl A, ⟨locs, cells, slots, X', F.step hs1 3, by rw [eT]; exact I, N1, B1, B2⟩, st'⟩
    · cases hm
  · cases hm
theorem sClone (hx : p.tables.exec = Jvm.exec) (hZ : Z.Warmed39 st.vm) (hown : st.vm.findClass own = some m.cls) (P : Pnt p l e R st m args below meth cd Z CT N n0 A σ H c s T g) {idx fr lo : Nat} {ty : FieldType} (hfr : fr ≤ R.frames) (hlo : lo ≤ R.locals)
    (hd : decode cd.code g.pc = .ok (.invokevirtual idx, 3)) (w1 : (Cond.methodLink own idx ⟨adr ty, "clone", "()Ljava/lang/Object;"⟩).before a0 Z = true) (w2 : (Cond.sameMethod (adr ty) "java/lang/Object" "clone" "()Ljava/lang/Object;").before a0 Z = true) (w3 : (Cond.native cloneN).before a0 Z = true)
    (w4 : (Cond.instanceMethod cloneN).before a0 Z = true) (w5 : (Cond.selects (adr ty) ⟨adr ty, "clone", "()Ljava/lang/Object;"⟩ cloneN).before a0 Z = true) (w6 : (Cond.castable (adr ty) "java/lang/Cloneable").before a0 Z = true)
    (hm : mvClone N H fr lo cd.maxLocals c s ty σ = some (σ', H', c', s')) : Goes p l e R st m args below meth cd Z CT N n0 A T g σ' H' c' s' := by
  obtain ⟨locs, cells, slots, X, F, I, N1, B1, B2⟩ := id P
  unfold mvClone at hm
  split at hm
  · rename_i x r hst
    split at hm
    · rename_i j hj
      split at hm
      · rename_i ty' xs hO
        split at hm
        · rename_i hq
          obtain ⟨rfl, b1, b2, b3, b4, b5⟩ := hq
          simp only [Option.some.injEq, Prod.mk.injEq] at hm
          obtain ⟨rfl, rfl, rfl, rfl⟩ := hm
          have hs := F.stack
          rw [hst] at hs
          obtain ⟨vx, w, e1, dx, hs1⟩ := hs.cons_inv
          obtain ⟨ad, rfl, hA, ge, q2, q3, k, vs, AV, q5, q6⟩ := plc_ref I hj hO dx.2.1
          have ez : (Int32.ofNat xs.length).toNatClampNeg = xs.length := by rw [Int32.toNatClampNeg, Int32.toInt_ofNat_of_lt (by omega)]; rfl
          obtain ⟨T', h', X', eT, E, AV', EX', st'⟩ := cloneH X hx hZ hown w1 w2 w3 w4 w5 w6 rfl AV.arh q3 F.method (by rw [F.locals.size, b3]) e1 hd (by omega) (W := wt r) (cap := xs.length) (by rw [F.mroom, denStack_wt hs1]; omega) (by omega) (by rw [ez]; exact Nat.le_refl _) (by omega) (by omega)
          have XA := Ex.push A (.ref T.heap.size)
          have here : (A.push (.ref T.heap.size))[N + H.length]? = some (.ref T.heap.size) := by rw [← I.1]; simp
          refine ⟨A.push (.ref T.heap.size), T', _, XA, ⟨locs, cells + 1, slots + xs.length, X', (fits_ext XA F).step (DenStack.cons (argEval here) (DenStack.ext XA hs1)) 3, ?_, N1, by omega, by omega⟩, st'⟩
          rw [eT]
          exact I.push E ⟨I.2.1, q2, EX', k, vs, AV', q5, DenStack.ext XA q6⟩
        · cases hm
      · cases hm
    · cases hm
  · cases hm
theorem take_drop_range {vs : List Value} {d : Value} {a n : Nat} (h : a + n ≤ vs.length) : (vs.drop a).take n = (List.range n).map fun i => vs.getD (a + i) d := by
  apply List.ext_getElem?
  intro i
  by_cases hi : i < n
  · rw [List.getElem?_take_of_lt hi, List.getElem?_drop]
    simp [List.getD_eq_getElem?_getD, hi, List.getElem?_eq_getElem (show a + i < vs.length by omega)]
  · rw [List.getElem?_eq_none (by rw [List.length_take, List.length_drop]; omega), List.getElem?_eq_none (by simp; omega)]
theorem sCopy (hx : p.tables.exec = Jvm.exec) (hZ : Z.Warmed39 st.vm) (hown : st.vm.findClass own = some m.cls) (P : Pnt p l e R st m args below meth cd Z CT N n0 A σ H c s T g) {idx fr lo : Nat} (hfr : fr ≤ R.frames) (hlo : lo ≤ R.locals)
    (hd : decode cd.code g.pc = .ok (.invokestatic idx, 3)) (w1 : (Cond.methodLink own idx Jvm.Stand.acN).before a0 Z = true) (w2 : (Cond.native Jvm.Stand.acN).before a0 Z = true) (w3 : (Cond.static Jvm.Stand.acN).before a0 Z = true) (w4 : (Cond.initialized "java/lang/System").before a0 Z = true)
    (hm : mvCopy N H fr lo cd.maxLocals σ = some (σ', H')) : Goes p l e R st m args below meth cd Z CT N n0 A T g σ' H' c s := by
  obtain ⟨locs, cells, slots, X, F, I, N1, B1, B2⟩ := id P
  unfold mvCopy at hm
  split at hm
  · rename_i xn xd b xs a r hst
    split at hm
    · rename_i ja jb sp dp nn hja hjb hsp hdp hnn
      split at hm
      · rename_i ta va tb vb hOa hOb
        split at hm
        · rename_i hq
          obtain ⟨rfl, b0, b1, b2, b3, b4, b5, b6, b7, b8⟩ := hq
          simp only [Option.some.injEq, Prod.mk.injEq] at hm
          obtain ⟨rfl, rfl⟩ := hm
          have hs := F.stack
          rw [hst] at hs
          obtain ⟨v1, u1, e1, d1, hs1⟩ := hs.cons_inv
          obtain ⟨v2, u2, e2, d2, hs2⟩ := hs1.cons_inv
          obtain ⟨v3, u3, e3, d3, hs3⟩ := hs2.cons_inv
          obtain ⟨v4, u4, e4, d4, hs4⟩ := hs3.cons_inv
          obtain ⟨v5, u5, e5, d5, hs5⟩ := hs4.cons_inv
          subst e2 e3 e4 e5
          have f1 := d1.2.1
          have f2 := d2.2.1
          have f4 := d4.2.1
          rw [hnn] at f1
          rw [hdp] at f2
          rw [hsp] at f4
          cases f1; cases f2; cases f4
          obtain ⟨aa, rfl, hA, gea, p2, p3, ka, wa, AVa, p5, p6⟩ := plc_ref I hja hOa d5.2.1
          obtain ⟨ab, rfl, hB, geb, q2, q3, kb, wb, AVb, q5, q6⟩ := plc_ref I hjb hOb d3.2.1
          have ea : (Int32.ofNat va.length).toNatClampNeg = va.length := by rw [Int32.toNatClampNeg, Int32.toInt_ofNat_of_lt (by omega)]; rfl
          have eb : (Int32.ofNat vb.length).toNatClampNeg = vb.length := by rw [Int32.toNatClampNeg, Int32.toInt_ofNat_of_lt (by omega)]; rfl
          have hr : refKind ta = false := by cases ta <;> first | (simp [primTy] at b0; done) | rfl
          have nw : nativeFrameWords "java/lang/System" "arraycopy" 5 + 11 = 18 := by decide +kernel
          obtain ⟨T', h', L, X', eT, NL, K, AV', st'⟩ := cpA X hx hZ hown w1 w2 w3 w4 rfl AVa AVb (Or.inl ⟨rfl, hr⟩) b1 b2 b3 (by rw [ea]; exact b4) (by rw [eb]; exact b5) rfl (by rw [q5]; exact b5) N1 geb F.method (by rw [F.locals.size, b8]) e1 hd (by omega) (W := wt r) (by rw [F.mroom, denStack_wt hs5]; omega) (by rw [nw]; omega)
          refine ⟨A, T', _, Ex.refl A, ⟨L, cells, slots, X', F.step hs5 3, ?_, NL, B1, B2⟩, st'⟩
          rw [eT]
          have ll : (vb.take dp.toNatClampNeg ++ (va.drop sp.toNatClampNeg).take nn.toNatClampNeg ++ vb.drop (dp.toNatClampNeg + nn.toNatClampNeg)).length = vb.length := by
            simp only [List.length_append, List.length_take, List.length_drop]; omega
          rw [← take_drop_range (by rw [p5]; exact b4)] at AV'
          refine I.upd hOb hB K ⟨geb, by rw [ll]; exact q2, q3.keep K, kb, _, by rw [ll]; exact AV', ?_, denStack_append (denStack_append (denStack_take _ q6) (denStack_take _ (denStack_drop _ p6))) (denStack_drop _ q6)⟩
          simp only [List.length_append, List.length_take, List.length_drop, p5, q5]
        · cases hm
      · cases hm
    · cases hm
  · cases hm
theorem sCast (hx : p.tables.exec = Jvm.exec) (hZ : Z.Warmed39 st.vm) (hown : st.vm.findClass own = some m.cls) (P : Pnt p l e R st m args below meth cd Z CT N n0 A σ H c s T g) {idx : Nat} {ty : FieldType} {K : String}
    (hd : decode cd.code g.pc = .ok (.checkcast idx, 3)) (w1 : (Cond.classLink own idx K).before a0 Z = true) (w2 : (Cond.castable (adr ty) K).before a0 Z = true)
    (hm : mvCast N H ty σ = some σ') : Goes p l e R st m args below meth cd Z CT N n0 A T g σ' H c s := by
  obtain ⟨locs, cells, slots, X, F, I, N1, B1, B2⟩ := id P
  unfold mvCast at hm
  split at hm
  · rename_i x r hst
    split at hm
    · rename_i j hj
      split at hm
      · rename_i ty' xs hO
        split at hm
        · rename_i hq
          subst hq
          cases hm
          have hs := F.stack
          rw [hst] at hs
          obtain ⟨vx, w, e1, dx, hs1⟩ := hs.cons_inv
          obtain ⟨ad, rfl, -, -, -, q3, -⟩ := plc_ref I hj hO dx.2.1
          obtain ⟨T', X', eT, st'⟩ := castY X hx hZ hown w1 rfl (Ins.of_exa q3 w2) F.method e1 hd
          have F' : Sym.Fits A Z m { σ with pc := σ.pc + 3 } { g with pc := g.pc + 3 } := ⟨F.method, by show g.pc + 3 = σ.pc + 3; rw [F.pc], F.locals, F.stack, F.locked, F.entered, F.mroom⟩
          exact ⟨A, T', _, Ex.refl A, ⟨locs, cells, slots, X', F', by rw [eT]; exact I, N1, B1, B2⟩, st'⟩
        · cases hm
      · cases hm
    · cases hm
  · cases hm
end Moves
end Jvm.OwnEv
namespace Jvm.OwnEv
open Sem ClassFile Op Lib Jvm.Stand Jvm.Free Jvm.LawKit Jvm.RoadKit Jvm.Sym
/-! ## 6. Rows, methods, the whole evaluator -/
def noMH (y : MethodName) : Prop := y.cls ≠ "java/lang/invoke/MethodHandle" ∧ y.cls ≠ "java/lang/invoke/VarHandle"
/-- a method that may be called: its words -/
def Callable (Z : State) (a0 : Array Value) (M : MRow) : Prop :=
  (Cond.initialized M.1.cls).before a0 Z = true ∧ (Cond.code M.1 M.2.1 M.2.2.1 M.2.2.2.1).before a0 Z = true ∧ noMH M.1 ∧ ∃ ps r, parseMethodDescriptor M.1.desc = some ⟨ps, r⟩ ∧ ps.length = M.2.2.2.2.1
def LinkOk (Z : State) (a0 : Array Value) (CT : List CRow) (MT : List MRow) (own nm : String) (rt : Option FieldType) (r : Row) : Prop :=
  match r with
  | (pc, i, len, tag, a, b, k, ty) =>
    match tag with
    | 2 => ∃ idx C nn fs f, i = .getfield idx ∧ len = 3 ∧ nth CT a = some (C, nn, fs) ∧ nth fs b = some f ∧ FLink Z a0 own idx C f.1 f.2.1
    | 4 => len = 3 ∧ ∃ o, forkOff i = some o ∧ 0 ≤ (pc : Int) + o ∧ ((pc : Int) + o).toNat = a
    | 6 => len = 1
    | 7 => ∃ o, i = .goto o ∧ len = 3 ∧ 0 ≤ (pc : Int) + o ∧ ((pc : Int) + o).toNat = a
    | 9 => len = 3
    | 10 => ∃ idx C nn fs f, i = .putfield idx ∧ len = 3 ∧ nth CT a = some (C, nn, fs) ∧ nth fs b = some f ∧ f.2.2.1 = ty ∧ FLink Z a0 own idx C f.1 f.2.1 ∧ (f.2.2.2 = true → own = C ∧ nm = "<init>")
    | 11 => len = 1
    | 12 => i = .arraylength ∧ len = 1
    | 13 => (∃ idx v, i = .ldc idx ∧ len = 2 ∧ k = .int v ∧ (Cond.constant own idx v).before a0 Z = true) ∨ (∃ idx v, i = .ldc_w idx ∧ len = 3 ∧ k = .int v ∧ (Cond.constant own idx v).before a0 Z = true) ∨ (∃ idx v, i = .ldc2_w idx ∧ len = 3 ∧ k = .long v ∧ (Cond.constantLong own idx v).before a0 Z = true)
    | 14 => ∃ idx C nn fs, i = .new idx ∧ len = 3 ∧ nth CT a = some (C, nn, fs) ∧ (Cond.classLink own idx C).before a0 Z = true
    | 15 => ∃ aty, i = .newarray aty ∧ len = 2 ∧ (Cond.arrayClass (newarray.typeOf aty)).before a0 Z = true
    | 16 => ∃ idx, i = .invokespecial idx ∧ len = 3 ∧ (Cond.methodLink own idx Lib.objectInit).before a0 Z = true ∧ (Cond.instanceMethod Lib.objectInit).before a0 Z = true ∧ (Cond.code Lib.objectInit ⟨#[0xb1]⟩ 1 none).before a0 Z = true
    | 17 => len = 1
    | 18 => ∃ idx, i = .invokevirtual idx ∧ len = 3 ∧ (Cond.methodLink own idx ⟨adr ty, "clone", "()Ljava/lang/Object;"⟩).before a0 Z = true ∧ (Cond.sameMethod (adr ty) "java/lang/Object" "clone" "()Ljava/lang/Object;").before a0 Z = true ∧ (Cond.native cloneN).before a0 Z = true ∧ (Cond.instanceMethod cloneN).before a0 Z = true ∧ (Cond.selects (adr ty) ⟨adr ty, "clone", "()Ljava/lang/Object;"⟩ cloneN).before a0 Z = true ∧ (Cond.castable (adr ty) "java/lang/Cloneable").before a0 Z = true
    | 19 => ∃ idx, i = .invokestatic idx ∧ len = 3 ∧ (Cond.methodLink own idx Jvm.Stand.acN).before a0 Z = true ∧ (Cond.native Jvm.Stand.acN).before a0 Z = true ∧ (Cond.static Jvm.Stand.acN).before a0 Z = true ∧ (Cond.initialized "java/lang/System").before a0 Z = true
    | 20 => ∃ idx K, i = .checkcast idx ∧ len = 3 ∧ (Cond.classLink own idx K).before a0 Z = true ∧ (Cond.castable (adr ty) K).before a0 Z = true
    | 30 => i = .return_ ∧ len = 1 ∧ rt = none
    | 31 => i = .ireturn ∧ len = 1 ∧ rt = some .int
    | 32 => i = .ireturn ∧ len = 1 ∧ rt = some .boolean
    | 33 => i = .lreturn ∧ len = 1 ∧ rt = some .long
    | 34 => i = .areturn ∧ len = 1 ∧ ∃ t, rt = some t ∧ t.isReference = true
    | 40 => ∃ idx M, i = .invokestatic idx ∧ len = 3 ∧ nth MT a = some M ∧ Callable Z a0 M ∧ (Cond.methodLink own idx M.1).before a0 Z = true ∧ (Cond.static M.1).before a0 Z = true
    | 41 => ∃ idx M, i = .invokespecial idx ∧ len = 3 ∧ nth MT a = some M ∧ Callable Z a0 M ∧ (Cond.methodLink own idx M.1).before a0 Z = true ∧ (Cond.instanceMethod M.1).before a0 Z = true ∧ M.1.name = "<init>" ∧ M.2.2.2.1 = none
    | 42 => ∃ idx M C nn fs, i = .invokevirtual idx ∧ len = 3 ∧ nth MT a = some M ∧ Callable Z a0 M ∧ (Cond.methodLink own idx M.1).before a0 Z = true ∧ (Cond.instanceMethod M.1).before a0 Z = true ∧ nth CT b = some (C, nn, fs) ∧ (Cond.declares M.1).before a0 Z = true ∧ (Cond.selects C M.1 M.1).before a0 Z = true
    | 43 => ∃ idx M nn fs, i = .invokevirtual idx ∧ len = 3 ∧ nth MT a = some M ∧ Callable Z a0 M ∧ (Cond.methodLink own idx M.1).before a0 Z = true ∧ (Cond.instanceMethod M.1).before a0 Z = true ∧ nth CT b = some (M.1.cls, nn, fs) ∧ (Cond.privateMethod M.1).before a0 Z = true
    | _ => True
def RowOk (Z : State) (a0 : Array Value) (CT : List CRow) (MT : List MRow) (M : MRow) (r : Row) : Prop := decode M.2.1 r.1 = .ok (r.2.1, r.2.2.1) ∧ LinkOk Z a0 CT MT M.1.cls M.1.name M.2.2.2.1 r
def MOk (Z : State) (a0 : Array Value) (CT : List CRow) (MT : List MRow) (M : MRow) : Prop := plainFor M.1 = true ∧ ∀ r ∈ M.2.2.2.2.2, RowOk Z a0 CT MT M r
section Moves
variable {p : Program} {l : Launch} {e : Env} {R : Room} {st : State} {m : MethodId} {args : Array Value} {below : List Frame} {meth : Method} {cd : Code} {Z : State} {a0 : Array Value} {CT : List CRow} {MT : List MRow} {N n0 : Nat}
variable {A : Array Value} {σ σ' : SFrame} {H H' : AH} {c s c' s' : Nat} {T : State} {g : JFrame} {i : Instr} {len : Nat} {own : String}
theorem keepH_some {o : Option SFrame} (h : keepH H c s o = some (σ', H', c', s')) : o = some σ' ∧ H' = H ∧ c' = c ∧ s' = s := by
  obtain ⟨x, h1, h2⟩ := Option.map_eq_some_iff.mp h
  simp only [Prod.mk.injEq] at h2
  obtain ⟨rfl, rfl, rfl, rfl⟩ := h2
  exact ⟨h1, rfl, rfl, rfl⟩
theorem keepC_some {o : Option (SFrame × AH)} (h : keepC c s o = some (σ', H', c', s')) : o = some (σ', H') ∧ c' = c ∧ s' = s := by
  obtain ⟨x, h1, h2⟩ := Option.map_eq_some_iff.mp h
  obtain ⟨x1, x2⟩ := x
  simp only [Prod.mk.injEq] at h2
  obtain ⟨rfl, rfl, rfl, rfl⟩ := h2
  exact ⟨h1, rfl, rfl⟩
theorem mv1_sound {Γ : List (Term × Term)} {Γc : List CFact} {fr lo : Nat} {M : MRow} {r : Row} (hx : p.tables.exec = Jvm.exec) (hZ : Z.Warmed39 st.vm) (hown : st.vm.findClass M.1.cls = some m.cls) (hCT : CTOk Z a0 CT) (hΓ : ΓOk Γ A Z) (hC : CFOk Γc A Z) (hfr : fr ≤ R.frames) (hlo : lo ≤ R.locals)
    (hby : cd.code = M.2.1) (hml : cd.maxLocals = M.2.2.1) (hnm : meth.name = M.1.name) (hr : RowOk Z a0 CT MT M r) (hpc : r.1 = σ.pc)
    (P : Pnt p l e R st m args below meth cd Z CT N n0 A σ H c s T g) (hm : mv1 N CT Γ Γc fr lo M.2.2.1 r σ H c s = some (σ', H', c', s')) : Goes p l e R st m args below meth cd Z CT N n0 A T g σ' H' c' s' := by
  obtain ⟨pc, i, len, tag, a, b, k, ty⟩ := r
  obtain ⟨hd0, hl⟩ := hr
  dsimp only at hpc hd0
  have hd : decode cd.code g.pc = .ok (i, len) := by
    obtain ⟨_, _, _, _, F, _⟩ := id P
    rw [F.pc, ← hpc, hby]
    exact hd0
  rw [← hml] at hm
  unfold mv1 at hm
  dsimp only at hm
  split at hm
  · obtain ⟨q, rfl, rfl, rfl⟩ := keepH_some hm
    exact sPlain hx P hd (Or.inl q)
  · obtain ⟨q, rfl, rfl, rfl⟩ := keepH_some hm
    exact sPlain hx P hd (Or.inr (Or.inl q))
  · obtain ⟨q, rfl, rfl, rfl⟩ := keepH_some hm
    obtain ⟨idx, C, nn, fs, f, rfl, rfl, l1, l2, l3⟩ := hl
    exact sGet hx hZ hown P hd l1 l2 l3 q
  · obtain ⟨q, rfl, rfl, rfl⟩ := keepH_some hm
    exact sArith hx hΓ P hd q
  · obtain ⟨q, rfl, rfl, rfl⟩ := keepH_some hm
    obtain ⟨rfl, o, l1, l2, l3⟩ := hl
    exact sFork hx hC P hd l1 (by rw [← hpc]; exact l2) (by rw [← hpc]; exact l3) q
  · obtain ⟨q, rfl, rfl, rfl⟩ := keepH_some hm
    exact sPlain hx P hd (Or.inr (Or.inr (Or.inl q)))
  · obtain ⟨q, rfl, rfl, rfl⟩ := keepH_some hm
    have hl' : len = 1 := hl
    subst hl'
    exact sALd hx hZ P hd q
  · simp only [Option.some.injEq, Prod.mk.injEq] at hm
    obtain ⟨rfl, rfl, rfl, rfl⟩ := hm
    obtain ⟨o, rfl, rfl, l1, l2⟩ := hl
    exact sGoto hx P hd (by rw [← hpc]; exact l1) (by rw [← hpc]; exact l2)
  · obtain ⟨q, rfl, rfl, rfl⟩ := keepH_some hm
    exact sPlain hx P hd (Or.inr (Or.inr (Or.inr (orElse_some q))))
  · obtain ⟨q, rfl, rfl, rfl⟩ := keepH_some hm
    have hl' : len = 3 := hl
    subst hl'
    exact sIinc hx hΓ P hd q
  · obtain ⟨q, rfl, rfl⟩ := keepC_some hm
    obtain ⟨idx, C, nn, fs, f, rfl, rfl, l1, l2, rfl, l4, l5⟩ := hl
    exact sPut hx hZ hown hCT P hd l1 l2 l4 (fun u => by rw [hnm]; exact l5 u) q
  · obtain ⟨q, rfl, rfl⟩ := keepC_some hm
    have hl' : len = 1 := hl
    subst hl'
    exact sASt hx hZ hΓ P hd q
  · obtain ⟨q, rfl, rfl, rfl⟩ := keepH_some hm
    obtain ⟨rfl, rfl⟩ := hl
    exact sLen hx hZ P hd q
  · obtain ⟨q, rfl, rfl, rfl⟩ := keepH_some hm
    exact sLdc hx hZ hown P hd hl q
  · obtain ⟨idx, C, nn, fs, rfl, rfl, l1, l2⟩ := hl
    exact sNew hx hZ hown hCT P hd l1 l2 hm
  · obtain ⟨aty, rfl, rfl, l1⟩ := hl
    exact sNewA hx hZ P hd l1 hm
  · obtain ⟨q, rfl, rfl, rfl⟩ := keepH_some hm
    obtain ⟨idx, rfl, rfl, l1, l2, l3⟩ := hl
    exact sInitO hx hZ hown P hfr hlo hd l1 l2 l3 q
  · obtain ⟨q, rfl, rfl, rfl⟩ := keepH_some hm
    have hl' : len = 1 := hl
    subst hl'
    exact sDiv hx hΓ hC P hd q
  · obtain ⟨idx, rfl, rfl, l1, l2, l3, l4, l5, l6⟩ := hl
    exact sClone hx hZ hown P hfr hlo hd l1 l2 l3 l4 l5 l6 hm
  · obtain ⟨q, rfl, rfl⟩ := keepC_some hm
    obtain ⟨idx, rfl, rfl, l1, l2, l3, l4⟩ := hl
    exact sCopy hx hZ hown P hfr hlo hd l1 l2 l3 l4 q
  · obtain ⟨q, rfl, rfl, rfl⟩ := keepH_some hm
    obtain ⟨idx, K, rfl, rfl, l1, l2⟩ := hl
    exact sCast hx hZ hown P hd l1 l2 q
  · cases hm
/-- what comes back -/
def RetDen (A : Array Value) (Z : State) : Option SVal → Option Value → Prop
  | none, none => True
  | some x, some v => x.Den A Z v
  | _, _ => False
/-- how an evaluated body ends -/
def Ends (p : Program) (e : Env) (R : Room) (st : State) (below : List Frame) (Z : State) (CT : List CRow) (N n0 : Nat) (A : Array Value) (T : State) (g : JFrame) (v : Option SVal) (H : AH) (c s : Nat) : Prop :=
  ∃ (s₂ : State) (w : Option Value) (L : List Loc) (k j : Nat) (A' : Array Value), Steps p.tables e below (T.setTop g) s₂ ∧ s₂.status = .running ∧ Ended s₂ below (.returned w) ∧ FrameEnd st (.returned w) s₂ L k j ∧ Fr n0 L ∧ k + c ≤ R.cells ∧ j + s ≤ R.slots ∧ Ex A A' ∧ Inv Z CT N n0 A' H s₂.heap ∧ RetDen A' Z v w
theorem Goes.ends {v : Option SVal} (G : Goes p l e R st m args below meth cd Z CT N n0 A T g σ H c s) (k : ∀ A' T' g', Ex A A' → Pnt p l e R st m args below meth cd Z CT N n0 A' σ H c s T' g' → Ends p e R st below Z CT N n0 A' T' g' v H' c' s') : Ends p e R st below Z CT N n0 A T g v H' c' s' := by
  obtain ⟨A', T', g', X, P, L⟩ := G
  obtain ⟨s₂, w, Lc, k', j, A2, h1, h2, h3, h4, h5, h6, h7, h8, h9⟩ := k A' T' g' X P
  exact ⟨s₂, w, Lc, k', j, A2, L _ h1, h2, h3, h4, h5, h6, h7, X.trans h8, h9⟩
theorem topEq (F : Sym.Fits A Z m σ g) {vs : List Value} (h : g.stack = vs) : g = mkF m g.pc g.locals vs := by
  obtain ⟨method, pc, locals, stack, locked, entered, monitorRoom⟩ := g
  obtain ⟨f1, f2, f3, f4, f5, f6, f7⟩ := F
  dsimp only at f1 f5 f6 f7 h
  subst f1 f5 f6 f7 h
  rfl
theorem ret_sound {Γ : List (Term × Term)} {M : MRow} {r : Row} (hx : p.tables.exec = Jvm.exec) (hΓ : ΓOk Γ A Z) (hby : cd.code = M.2.1) (hrt : meth.sig.returnType = M.2.2.2.1) (hlk : meth.locks = false) (hr : RowOk Z a0 CT MT M r) (hpc : r.1 = σ.pc)
    (P : Pnt p l e R st m args below meth cd Z CT N n0 A σ H c s T g) {v : Option SVal} (hm : mvRet Γ r.2.2.2.1 σ = some v) : Ends p e R st below Z CT N n0 A T g v H c s := by
  obtain ⟨pc, i, len, tag, a, b, k, ty⟩ := r
  obtain ⟨hd0, hl⟩ := hr
  dsimp only at hpc hd0 hm
  obtain ⟨locs, cells, slots, X, F, I, N1, B1, B2⟩ := id P
  have hd : decode cd.code g.pc = .ok (i, len) := by
    rw [F.pc, ← hpc, hby]
    exact hd0
  have fin : ∀ (w : Option Value), (meth.sig.returnType = none → w = none) → RetDen A Z v w → (∀ fs, (∀ (f : JFrame) (acts : List Action), f.method = m → f.locked = none → f.entered = [] → (doReturn e (T.setTop f) acts w).1 = T.setFrames fs) → Steps p.tables e below (T.setTop g) (T.setFrames fs)) → Ends p e R st below Z CT N n0 A T g v H c s := fun w hw hd hst => by
    obtain ⟨fs, hr, hrun, hended, hW, hsame⟩ := X.leave (v := w) hw hlk
    exact ⟨_, w, locs, cells, slots, A, hst fs hr, hrun, hended, ⟨⟨w, rfl⟩, hW, hsame⟩, N1, B1, B2, Ex.refl A, I, hd⟩
  unfold mvRet at hm
  split at hm
  · cases hm
    obtain ⟨rfl, rfl, rfl'⟩ := hl
    rw [rfl'] at hrt
    refine fin none (fun _ => rfl) trivial fun fs hr => ?_
    have hm' : T.vm.method? m = some meth := X.method'
    have hg := F.method
    have hlo := F.locked
    have hen := F.entered
    subst hg
    jvm_step X.here [X.here.top, hx, hd, hm', hrt]
    first | (intro acts; rw [hr _ acts rfl hlo hen]) | rw [hr _ _ rfl hlo hen]
    exact Steps.refl _
  · obtain ⟨rfl, rfl, rfl'⟩ := hl
    rw [rfl'] at hrt
    split at hm
    · rename_i x r hst
      split at hm
      · rename_i hk
        cases hm
        have hs := F.stack
        rw [hst] at hs
        obtain ⟨vx, w, e1, dx, hs1⟩ := hs.cons_inv
        obtain ⟨z, rfl⟩ := dx.int hk
        refine fin (some (.int z)) (fun q => by rw [hrt] at q; cases q) dx fun fs hr => ?_
        rw [topEq F e1]
        exact retOut X hx hrt rfl (Or.inl ⟨rfl, Or.inl rfl, z, rfl⟩) hd hr
      · cases hm
    · cases hm
  · obtain ⟨rfl, rfl, rfl'⟩ := hl
    rw [rfl'] at hrt
    split at hm
    · rename_i x r hst
      split at hm
      · rename_i hk
        cases hm
        have hs := F.stack
        rw [hst] at hs
        obtain ⟨vx, w, e1, dx, hs1⟩ := hs.cons_inv
        obtain ⟨z, rfl⟩ := dx.int hk
        have dw : (⟨.op2 .iand x.t (.int 1), .int⟩ : SVal).Den A Z (.int (nar .boolean z)) := ⟨by show (x.t.closed && true) = true; rw [dx.1]; rfl, by simp [Term.eval, dx.2.1, Binary.apply, nar], rfl⟩
        refine fin (some (.int (nar .boolean z))) (fun q => by rw [hrt] at q; cases q) (den_nrm hΓ dw) fun fs hr => ?_
        rw [topEq F e1]
        exact retN X hx hrt (Or.inl rfl) hd hr
      · cases hm
    · cases hm
  · obtain ⟨rfl, rfl, rfl'⟩ := hl
    rw [rfl'] at hrt
    split at hm
    · rename_i x r hst
      split at hm
      · rename_i hk
        cases hm
        have hs := F.stack
        rw [hst] at hs
        obtain ⟨vx, w, e1, dx, hs1⟩ := hs.cons_inv
        obtain ⟨z, rfl⟩ := dx.long hk
        refine fin (some (.long z)) (fun q => by rw [hrt] at q; cases q) dx fun fs hr => ?_
        rw [topEq F e1]
        exact retOut X hx hrt rfl (Or.inr (Or.inl ⟨rfl, rfl, z, rfl⟩)) hd hr
      · cases hm
    · cases hm
  · obtain ⟨rfl, rfl, t, rfl', ht⟩ := hl
    rw [rfl'] at hrt
    split at hm
    · rename_i x r hst
      split at hm
      · rename_i hk
        cases hm
        have hs := F.stack
        rw [hst] at hs
        obtain ⟨vx, w, e1, dx, hs1⟩ := hs.cons_inv
        have hv := dx.isRef hk
        refine fin (some vx) (fun q => by rw [hrt] at q; cases q) dx fun fs hr => ?_
        rw [topEq F e1]
        have hnr : narrow t vx = vx := by cases t <;> cases vx <;> first | rfl | (simp [Value.isRef] at hv) 
        exact retOut X hx hrt hnr (Or.inr (Or.inr (Or.inr (Or.inr ⟨rfl, ht, hv⟩)))) hd hr
      · cases hm
    · cases hm
  · cases hm
end Moves
end Jvm.OwnEv
namespace Jvm.OwnEv
open Sem ClassFile Op Lib Jvm.Stand Jvm.Free Jvm.LawKit Jvm.RoadKit Jvm.Sym
/-! ## 7. Calls, and the theorem -/
section Entry
variable {A : Array Value} {Z : State}
def DenL (A : Array Value) (Z : State) : List SSlot → List Slot → Prop
  | [], [] => True
  | x :: xs, y :: ys => x.Den A Z y ∧ DenL A Z xs ys
  | _, _ => False
theorem denL_locals {ls : Array Slot} : ∀ {L : List SSlot} {M : List Slot}, DenL A Z L M → ls.toList = M → DenLocals A Z L ls := fun {L M} d h i => by
  have e : ls[i]? = M[i]? := by rw [← h]; simp
  rw [e]
  clear e h
  induction L generalizing M i with
  | nil => cases M with
    | nil => simp; trivial
    | cons y M => exact d.elim
  | cons x L ih => cases M with
    | nil => exact d.elim
    | cons y M => cases i with
      | zero => exact d.1
      | succ i => simpa using ih d.2 i
def fillV : List Value → List Slot
  | [] => []
  | v :: r => if v.category = 2 then .val v :: .second :: fillV r else .val v :: fillV r
theorem fill_den : ∀ {xs : List SVal} {vs : List Value}, DenStack A Z xs vs → DenL A Z (fillS xs) (fillV vs) ∧ (fillV vs).length = (fillS xs).length
  | [], [], _ => ⟨trivial, rfl⟩
  | x :: xs, v :: vs, d => by
    obtain ⟨h1, h2⟩ := fill_den d.2
    have q := d.1.category
    unfold fillS fillV
    cases hk : x.k
    · rw [if_neg (by rw [q, hk]; simp)]
      exact ⟨⟨d.1, h1⟩, by simp [h2]⟩
    · rw [if_pos (by rw [q, hk])]
      exact ⟨⟨d.1, trivial, h1⟩, by simp [h2]⟩
    · rw [if_neg (by rw [q, hk]; simp)]
      exact ⟨⟨d.1, h1⟩, by simp [h2]⟩
  | [], _ :: _, d => d.elim
  | _ :: _, [], d => d.elim
theorem denL_append : ∀ {L L' : List SSlot} {M M' : List Slot}, DenL A Z L M → DenL A Z L' M' → DenL A Z (L ++ L') (M ++ M')
  | [], _, [], _, _, e => e
  | _ :: _, _, _ :: _, _, d, e => ⟨d.1, denL_append d.2 e⟩
  | [], _, _ :: _, _, d, _ => d.elim
  | _ :: _, _, [], _, d, _ => d.elim
theorem denL_unset : ∀ n, DenL A Z (List.replicate n .unset) (List.replicate n .unset)
  | 0 => trivial
  | n + 1 => ⟨trivial, denL_unset n⟩
theorem fold_fill : ∀ (vs : List Value) (acc : Array Slot), (vs.foldl (fun (acc : Array Slot) (v : Value) => if v.category = 2 then (acc.push (.val v)).push .second else acc.push (.val v)) acc).toList = acc.toList ++ fillV vs
  | [], acc => by simp [fillV]
  | v :: vs, acc => by
    have e : fillV (v :: vs) = if v.category = 2 then .val v :: .second :: fillV vs else .val v :: fillV vs := rfl
    rw [List.foldl_cons, fold_fill vs, e]
    split <;> simp
theorem argsToLocals_list (vs : List Value) (ml : Nat) : (argsToLocals vs.toArray ml).toList = fillV vs ++ List.replicate (ml - (fillV vs).length) .unset := by
  have h : (vs.toArray.foldl (init := (#[] : Array Slot)) fun acc v => if v.category = 2 then (acc.push (.val v)).push .second else acc.push (.val v)).toList = fillV vs := by
    rw [List.foldl_toArray, fold_fill]; rfl
  have e : argsToLocals vs.toArray ml = (vs.toArray.foldl (init := (#[] : Array Slot)) fun acc v => if v.category = 2 then (acc.push (.val v)).push .second else acc.push (.val v)) ++ Array.replicate (ml - (vs.toArray.foldl (init := (#[] : Array Slot)) fun acc v => if v.category = 2 then (acc.push (.val v)).push .second else acc.push (.val v)).size) .unset := rfl
  rw [e, Array.toList_append, h, Array.toList_replicate, ← Array.length_toList, h]
theorem entry_fits {xs : List SVal} {vs : List Value} (d : DenStack A Z xs vs) (m : MethodId) (ml : Nat) : Sym.Fits A Z m ⟨0, entryS xs ml, [], []⟩ (entryFrame m vs.toArray ml) := by
  obtain ⟨h1, h2⟩ := fill_den d
  refine ⟨rfl, rfl, ?_, trivial, rfl, rfl, rfl⟩
  refine denL_locals (ls := argsToLocals vs.toArray ml) (M := fillV vs ++ List.replicate (ml - (fillV vs).length) Slot.unset) ?_ (argsToLocals_list vs ml)
  rw [h2]
  exact denL_append h1 (denL_unset _)
theorem takeR_spec : ∀ (n : Nat) (S acc as rest : List SVal), takeR n S acc = some (as, rest) → ∃ B : List SVal, B.length = n ∧ S = B ++ rest ∧ as = B.reverse ++ acc
  | 0, S, acc, as, rest, h => by cases h; exact ⟨[], rfl, rfl, rfl⟩
  | n + 1, x :: S, acc, as, rest, h => by
    obtain ⟨B, h1, h2, h3⟩ := takeR_spec n S (x :: acc) as rest h
    exact ⟨x :: B, by rw [List.length_cons, h1], by rw [h2]; rfl, by rw [h3, List.reverse_cons, List.append_assoc]; rfl⟩
  | _ + 1, [], _, _, _, h => by cases h
theorem denStack_split : ∀ {xs ys : List SVal} {vs : List Value}, DenStack A Z (xs ++ ys) vs → ∃ v1 v2, vs = v1 ++ v2 ∧ DenStack A Z xs v1 ∧ DenStack A Z ys v2
  | [], _, vs, d => ⟨[], vs, rfl, trivial, d⟩
  | _ :: xs, ys, v :: vs, d => by
    obtain ⟨v1, v2, h1, h2, h3⟩ := denStack_split (xs := xs) d.2
    exact ⟨v :: v1, v2, by rw [h1]; rfl, ⟨d.1, h2⟩, h3⟩
  | _ :: _, _, [], d => d.elim
theorem denStack_rev : ∀ {xs : List SVal} {vs : List Value}, DenStack A Z xs vs → DenStack A Z xs.reverse vs.reverse
  | [], [], _ => trivial
  | x :: xs, v :: vs, d => by
    rw [List.reverse_cons, List.reverse_cons]
    exact denStack_snoc (denStack_rev d.2) d.1
  | [], _ :: _, d => d.elim
  | _ :: _, [], d => d.elim
/-- the arguments of a call -/
theorem args_of {n : Nat} {S as rest : List SVal} {vs : List Value} (h : takeR n S [] = some (as, rest)) (d : DenStack A Z S vs) : ∃ va vr, vs = va.reverse ++ vr ∧ va.length = n ∧ as.length = n ∧ DenStack A Z as va ∧ DenStack A Z rest vr := by
  obtain ⟨B, h1, h2, h3⟩ := takeR_spec n S [] as rest h
  rw [List.append_nil] at h3
  subst h2 h3
  obtain ⟨v1, v2, e1, d1, d2⟩ := denStack_split d
  have hl := denStack_len d1
  exact ⟨v1.reverse, v2, by rw [List.reverse_reverse]; exact e1, by rw [List.length_reverse, hl, h1], by rw [List.length_reverse, h1], denStack_rev d1, d2⟩
end Entry
theorem findR_spec : ∀ {L : List Row} {pc : Nat} {r : Row} {rs : List Row}, findR L pc = some (r, rs) → r.1 = pc ∧ r ∈ L ∧ ∀ q ∈ rs, q ∈ L
  | x :: L, pc, r, rs, h => by
    unfold findR at h
    cases hb : Nat.beq x.1 pc <;> rw [hb] at h
    · obtain ⟨h1, h2, h3⟩ := findR_spec (L := L) h
      exact ⟨h1, List.mem_cons_of_mem _ h2, fun q hq => List.mem_cons_of_mem _ (h3 q hq)⟩
    · cases h
      exact ⟨Nat.eq_of_beq_eq_true hb, List.mem_cons_self .., fun q hq => List.mem_cons_of_mem _ hq⟩
  | [], _, _, _, h => by cases h
theorem fetch_spec {cur all : List Row} {pc : Nat} {r : Row} {rs : List Row} (hc : ∀ q ∈ cur, q ∈ all) (h : fetch cur all pc = some (r, rs)) : r.1 = pc ∧ r ∈ all ∧ ∀ q ∈ rs, q ∈ all := by
  unfold fetch at h
  split at h
  · rename_i x L
    cases hb : Nat.beq x.1 pc <;> rw [hb] at h
    · exact findR_spec h
    · cases h
      exact ⟨Nat.eq_of_beq_eq_true hb, hc _ (List.mem_cons_self ..), fun q hq => hc q (List.mem_cons_of_mem _ hq)⟩
  · exact findR_spec h
section Whole
variable {Z : State} {a0 : Array Value} {CT : List CRow} {MT : List MRow} {N n0 : Nat} {Γ : List (Term × Term)} {Γc : List CFact} {A0 : Array Value}
/-- what an evaluated body promises, wherever it is entered -/
def Body1 (l : Launch) (Z : State) (a0 : Array Value) (CT : List CRow) (MT : List MRow) (N n0 : Nat) (A0 : Array Value) (fr lo : Nat) (M : MRow) (cur : List Row) (σ : SFrame) (H : AH) (c s : Nat) (v : Option SVal) (H' : AH) (c' s' : Nat) : Prop :=
  ∀ (p : Program) (e : Env) (R : Room) (st : State) (m : MethodId) (args : Array Value) (below : List Frame) (meth : Method) (cd : Code) (A : Array Value) (T : State) (g : JFrame),
    p.tables.exec = Jvm.exec → Z.Warmed39 st.vm → st.vm.findClass M.1.cls = some m.cls → cd.code = M.2.1 → cd.maxLocals = M.2.2.1 → meth.sig.returnType = M.2.2.2.1 → meth.name = M.1.name → meth.locks = false → fr ≤ R.frames → lo ≤ R.locals → Ex A0 A →
    Pnt p l e R st m args below meth cd Z CT N n0 A σ H c s T g → Ends p e R st below Z CT N n0 A T g v H' c' s'
/-- the contract of a method, evaluated at such arguments and such a heap -/
theorem met1 {l : Launch} {fr lo : Nat} {M : MRow} {as : List SVal} {H H' : AH} {c s c' s' : Nat} {v : Option SVal} {ws : List Jvm.Cond} {h : Heap} {A : Array Value} {va : List Value}
    (hpl : plainFor M.1 = true) (hB : Body1 l Z a0 CT MT N n0 A0 fr lo M M.2.2.2.2.2 ⟨0, entryS as M.2.2.1, [], []⟩ H c s v H' c' s') (hX : Ex A0 A) (hI : Inv Z CT N n0 A H h) (hd : DenStack A Z as va) {rm : Room} (hf : fr ≤ rm.frames) (hl : lo ≤ rm.locals) (hc : c ≤ rm.cells) (hs : s ≤ rm.slots) :
    MetFree l M.1 (head1 (Cond.code M.1 M.2.1 M.2.2.1 M.2.2.2.1 :: ws) rm) (fun a U => a = va.toArray ∧ Z.Warmed39 U.vm ∧ U.heap = h) (fun _ _ _ _ _ => True)
      (fun _ U o U' => ∃ (w : Option Value) (L : List Loc) (k j : Nat) (A' : Array Value), o = .returned w ∧ FrameEnd U o U' L k j ∧ Fr n0 L ∧ k + c' ≤ rm.cells ∧ j + s' ≤ rm.slots ∧ Ex A A' ∧ Inv Z CT N n0 A' H' U'.heap ∧ RetDen A' Z v w) := by
  refine MetFree.of_bodySF hpl hisR ?_
  intro p e st m args below meth cd s₁ Bd hml hP hK
  obtain ⟨rfl, hZ, hh⟩ := hP
  have X0 : Stand p l e rm st m va.toArray below meth cd s₁ [] 0 0 := Stand.of_body Bd
  have e0 : s₁.heap = h := by rw [← hh, Bd.state]; rfl
  have P : Pnt p l e rm st m va.toArray below meth cd Z CT N n0 A ⟨0, entryS as M.2.2.1, [], []⟩ H c s s₁ (entryFrame m va.toArray M.2.2.1) :=
    ⟨[], 0, 0, X0, entry_fits hd m M.2.2.1, by rw [e0]; exact hI, Fr.nil n0, by omega, by omega⟩
  obtain ⟨s₂, w, L, k, j, A', h1, h2, h3, h4, h5, h6, h7, h8, h9, h10⟩ := hB p e rm st m va.toArray below meth cd A s₁ _ Bd.exec hZ (findClass_of_methodNamed Bd.named) Bd.bytes hml Bd.returns (name_of_methodNamed Bd.named Bd.method).1 Bd.notSynchronized hf hl hX P
  exact ⟨s₂, _, h1, h2, h3, w, L, k, j, A', rfl, h4, h5, h6, h7, h8, h9, h10⟩
/-- the same, as what a caller's premise asks -/
theorem back1 {l : Launch} {fr lo : Nat} {M : MRow} {as : List SVal} {H H' : AH} {c s c' s' : Nat} {v : Option SVal} {h : Heap} {A : Array Value} {va : List Value} {R : Room} {p : Program} {e : Env} {below : List Frame} {st : State} {args : Array Value} {W : Nat}
    (hpl : plainFor M.1 = true) (hB : Body1 l Z a0 CT MT N n0 A0 fr lo M M.2.2.2.2.2 ⟨0, entryS as M.2.2.1, [], []⟩ H c s v H' c' s') (hX : Ex A0 A) (hI : Inv Z CT N n0 A H h) (hd : DenStack A Z as va)
    (hZ : Z.Warmed39 st.vm) (hk : Callable Z a0 M) (hf : fr + 1 ≤ R.frames) (hl : W + (M.2.2.1 + 11) + lo ≤ R.locals) :
    Back l R p e below st args M.1 3 W (fun P a => a = va.toArray ∧ P.U.heap = h ∧ P.cells + c ≤ R.cells ∧ P.slots + s ≤ R.slots)
      (fun P _ w B => ∃ (L : List Loc) (k j : Nat) (A' : Array Value), Fr n0 L ∧ k + c' ≤ c ∧ j + s' ≤ s ∧ Ex A A' ∧ Inv Z CT N n0 A' H' B.U.heap ∧ RetDen A' Z v w ∧ B.locs = P.locs ++ L ∧ B.cells = P.cells + k ∧ B.slots = P.slots + j) := by
  have hM := met1 (ws := []) hpl hB hX hI hd (rm := ({ frames := fr, cells := c, slots := s, locals := lo } : Room)) (Nat.le_refl _) (Nat.le_refl _) (Nat.le_refl _) (Nat.le_refl _)
  exact Back.of_free (bytes := M.2.1) (maxL := M.2.2.1) (ret := M.2.2.2.1) (E := fun _ _ o t L k j => ∃ (w : Option Value) (A' : Array Value), o = .returned w ∧ Fr n0 L ∧ k + c' ≤ c ∧ j + s' ≤ s ∧ Ex A A' ∧ Inv Z CT N n0 A' H' t.heap ∧ RetDen A' Z v w) hM hf hl
    (fun m meth cd P a Y hp => have hU : Z.Warmed39 P.U.vm := wtrans hZ Y.warmed
      ⟨by show (Cond.and _ .tt).before a P.U = true; rw [Cond.before_and, mv hU hk.2.1]; rfl, mv hU hk.2.1, mv hU hk.1, hp.2.2.1, hp.2.2.2⟩)
    (fun m meth cd P a g mk Y hp => ⟨hp.1, wtrans hZ Y.warmed, hp.2.1⟩) (fun _ _ _ _ _ _ _ _ _ => trivial)
    (fun _ _ _ _ ⟨w, L, k, j, A', h1, h2, h3, h4, h5, h6⟩ => ⟨L, k, j, h2, w, A', h1, h3, h4, h5, h6⟩)
    (fun m meth cd P a g mk w t L k j Y hp _ _ ⟨w', A', e1, h3, h4, h5, h6, h7, h8⟩ => by cases e1; exact ⟨L, k, j, A', h3, h4, h5, h6, h7, h8, rfl, rfl, rfl⟩)
theorem pushV_den {A : Array Value} {v : Option SVal} {w : Option Value} {r : List SVal} {vr : List Value} (d : RetDen A Z v w) (ds : DenStack A Z r vr) : DenStack A Z (pushV v r) (w.toList ++ vr) := by
  cases v <;> cases w <;> first | exact d.elim | exact ds | exact ⟨d, ds⟩
theorem recv_ref {A : Array Value} {H : AH} {h : Heap} {tag b : Nat} {as : List SVal} {va : List Value} (ht : tag ≠ 40) (I : Inv Z CT N n0 A H h) (hr : recvOk N H tag b as = true) (d : DenStack A Z as va) : ∃ x r a r', as = x :: r ∧ va = .ref a :: r' ∧ ∃ C nn fs, nth CT b = some (C, nn, fs) ∧ Exa Z h a C := by
  unfold recvOk at hr
  have hb : Nat.beq tag 40 = false := by
    cases hb : Nat.beq tag 40
    · rfl
    · exact absurd (Nat.eq_of_beq_eq_true hb) ht
  rw [hb] at hr
  simp only [cond_false] at hr
  split at hr
  · rename_i x r
    split at hr
    · rename_i j hj
      split at hr
      · rename_i ci xs hO
        have ec := Nat.eq_of_beq_eq_true hr
        subst ec
        obtain ⟨v, w, e1, dx, ds⟩ := d.cons_inv
        obtain ⟨a, rfl, -, -, C, nn, fs, q1, q2, -⟩ := plc_ref I hj hO dx.2.1
        exact ⟨x, r, a, w, rfl, e1, C, nn, fs, q1, q2⟩
      · cases hr
    · cases hr
  · cases hr
theorem call_sound {l : Launch} {p : Program} {e : Env} {R : Room} {st : State} {m : MethodId} {args : Array Value} {below : List Frame} {meth : Method} {cd : Code} {A : Array Value} {σ : SFrame} {H H' : AH} {c s c' s' : Nat} {T : State} {g : JFrame} {fr lo : Nat} {M M' : MRow} {r : Row} {as rest : List SVal} {v : Option SVal}
    (hx : p.tables.exec = Jvm.exec) (hZ : Z.Warmed39 st.vm) (hown : st.vm.findClass M.1.cls = some m.cls) (hCT : CTOk Z a0 CT) (hMT : ∀ k M, nth MT k = some M → MOk Z a0 CT MT M) (hfr : fr ≤ R.frames) (hlo : lo ≤ R.locals) (hX : Ex A0 A)
    (hby : cd.code = M.2.1) (hml : cd.maxLocals = M.2.2.1) (hr : RowOk Z a0 CT MT M r) (hpc : r.1 = σ.pc) (hM' : nth MT r.2.2.2.2.1 = some M') (htag : 40 ≤ r.2.2.2.1) (htag' : r.2.2.2.1 ≤ 43)
    (htk : takeR (cond (Nat.beq r.2.2.2.1 40) M'.2.2.2.2.1 (M'.2.2.2.2.1 + 1)) σ.stack [] = some (as, rest)) (hrv : recvOk N H r.2.2.2.1 r.2.2.2.2.2.1 as = true) (h1 : 1 ≤ fr) (h2 : wt rest + (M'.2.2.1 + 11) ≤ lo) (h3 : σ.locals.length = M.2.2.1)
    (hB : Body1 l Z a0 CT MT N n0 A0 (fr - 1) (lo - (wt rest + (M'.2.2.1 + 11))) M' M'.2.2.2.2.2 ⟨0, entryS as M'.2.2.1, [], []⟩ H c s v H' c' s')
    (P : Pnt p l e R st m args below meth cd Z CT N n0 A σ H c s T g) : Goes p l e R st m args below meth cd Z CT N n0 A T g { σ with pc := σ.pc + 3, stack := pushV v rest } H' c' s' := by
  obtain ⟨pc, i, len, tag, a, b, k, ty⟩ := r
  obtain ⟨hd0, hl⟩ := hr
  dsimp only at hpc hd0 htag htag' htk hM' hrv
  obtain ⟨locs, cells, slots, X, F, I, N1, B1, B2⟩ := id P
  have hd : decode cd.code g.pc = .ok (i, len) := by
    rw [F.pc, ← hpc, hby]
    exact hd0
  obtain ⟨va, vr, e1, lv, la, dva, dvr⟩ := args_of htk F.stack
  have hsize : g.locals.size = cd.maxLocals := by rw [F.locals.size, h3, hml]
  have hW : 2 * g.monitorRoom + (vr.map fun v => v.category).sum ≤ wt rest := by rw [F.mroom, denStack_wt dvr]; omega
  have hpl := (hMT _ _ hM').1
  have hK : Callable Z a0 M' → Back l R p e below st args M'.1 3 (wt rest) _ _ := fun hk => back1 (R := R) (p := p) (e := e) (below := below) (st := st) (args := args) (W := wt rest) hpl hB hX I dva hZ hk (by omega) (by omega)
  have fin : ∀ (w : Option Value) (vm₁ : Vm) (B : Pt), st.WarmedH vm₁ → Stand p l e R st m args below meth cd B.U B.locs B.cells B.slots →
      (∃ (L : List Loc) (k j : Nat) (A' : Array Value), Fr n0 L ∧ k + c' ≤ c ∧ j + s' ≤ s ∧ Ex A A' ∧ Inv Z CT N n0 A' H' B.U.heap ∧ RetDen A' Z v w ∧ B.locs = locs ++ L ∧ B.cells = cells + k ∧ B.slots = slots + j) →
      Leads p.tables e below T g B.U { g with pc := g.pc + 3, stack := w.toList ++ vr } → Goes p l e R st m args below meth cd Z CT N n0 A T g { σ with pc := σ.pc + 3, stack := pushV v rest } H' c' s' := fun w vm₁ B hW₁ X' hq hst => by
    obtain ⟨L, k, j, A', q1, q2, q3, q4, q5, q6, q7, q8, q9⟩ := hq
    refine ⟨A', B.U, _, q4, ⟨B.locs, B.cells, B.slots, X', (fits_ext q4 F).step (pushV_den q6 (DenStack.ext q4 dvr)) 3, q5, by rw [q7]; exact N1.app q1, by rw [q8]; omega, by rw [q9]; omega⟩, hst⟩
  have cases4 : tag = 40 ∨ tag = 41 ∨ tag = 42 ∨ tag = 43 := by omega
  rcases cases4 with rfl | rfl | rfl | rfl
  · obtain ⟨idx, M2, rfl, rfl, l1, lk, l2, l3⟩ := hl
    cases hM'.symm.trans l1
    obtain ⟨ps, rr, pd, pl⟩ := lk.2.2.2
    obtain ⟨w, vm₁, B, hW₁, X', hq, hst⟩ := Jvm.LawKit.callS X hx (y := M'.1) hown (mvT hZ l2) (mvT hZ l3) (mvT hZ lk.1) (mvT hZ lk.2.1) lk.2.2.1 (hK lk) F.method hsize (argsL := va) (rest := vr) (lenOf pd (by rw [lv, pl]; rfl)) e1 hW hd (fun _ _ => ⟨rfl, rfl, B1, B2⟩)
    exact fin w vm₁ B hW₁ X' hq hst
  · obtain ⟨idx, M2, rfl, rfl, l1, lk, l2, l3, l4, l5⟩ := hl
    cases hM'.symm.trans l1
    obtain ⟨ps, rr, pd, pl⟩ := lk.2.2.2
    obtain ⟨x, r1, ad, r2, rfl, rfl, -⟩ := recv_ref (by omega) I hrv dva
    have hcode : (Cond.code M'.1 M'.2.1 M'.2.2.1 none).before args st = true := by rw [← l5]; exact mvT hZ lk.2.1
    obtain ⟨w, vm₁, B, hW₁, X', hq, hst⟩ := X.specialBack hx (y := M'.1) l4 hown (mvT hZ l2) (mvT hZ l3) hcode lk.2.2.1 (hK lk) F.method hsize (Steps.refl _) (a := ad) (argsL := r2) (rest := vr) (lenOf pd (by have q : r2.length + 1 = M'.2.2.2.2.1 + 1 := lv; omega)) (by rw [e1, List.reverse_cons, List.append_assoc]; rfl) hW hd (fun _ _ => ⟨rfl, rfl, B1, B2⟩)
    exact fin w vm₁ B hW₁ X' hq (fun target h => hst.trans h)
  · obtain ⟨idx, M2, C, nn, fs, rfl, rfl, l1, lk, l2, l3, l4, l5, l6⟩ := hl
    cases hM'.symm.trans l1
    obtain ⟨ps, rr, pd, pl⟩ := lk.2.2.2
    obtain ⟨x, r1, ad, r2, rfl, rfl, C', nn', fs', q1, EX⟩ := recv_ref (by omega) I hrv dva
    cases l4.symm.trans q1
    obtain ⟨cq, kq, qa, qb, qc⟩ := isOf hZ rfl EX
    obtain ⟨w, vm₁, B, hW₁, X', hq, hst⟩ := X.virtualBack hx (y := M'.1) (z := M'.1) hown (mvT hZ l2) (mvT hZ l5) (notFace_of_selects (args := #[]) (mvT hZ l6)) (mvT hZ l6) (mvT hZ l3) lk.2.2.1 (hK lk) qa qc F.method hsize (Steps.refl _) (argsL := r2) (rest := vr) (lenOf pd (by have q : r2.length + 1 = M'.2.2.2.2.1 + 1 := lv; omega)) (by rw [e1, List.reverse_cons, List.append_assoc]; rfl) hW hd (fun _ _ => ⟨rfl, rfl, B1, B2⟩)
    exact fin w vm₁ B hW₁ X' hq (fun target h => hst.trans h)
  · obtain ⟨idx, M2, nn, fs, rfl, rfl, l1, lk, l2, l3, l4, l5⟩ := hl
    cases hM'.symm.trans l1
    obtain ⟨ps, rr, pd, pl⟩ := lk.2.2.2
    obtain ⟨x, r1, ad, r2, rfl, rfl, C', nn', fs', q1, EX⟩ := recv_ref (by omega) I hrv dva
    cases l4.symm.trans q1
    obtain ⟨cl, hcl, hob⟩ := EX.cell
    have hpv := Cond.privateMethod_at (mvP hZ l5 (args := #[]))
    have hinst : (Cond.instanceMethod M'.1).before args st = true := mvT hZ l3
    obtain ⟨cI, kI, i1, i2, i3, i4, -⟩ := Cond.instantiable_spec (mvT (args := args) (s := st) hZ (hCT _ _ l4).1)
    have hni : kI.isInterface = false := by
      cases hq : kI.isInterface
      · rfl
      · rw [hq] at i4; cases i4
    obtain ⟨w, vm₁, B, hW₁, X', hq, hst⟩ := X.privateBack hx (y := M'.1) hown (mvT hZ l2) hinst (Jvm.Stand.selects_self_of_private i1 i2 hni hpv hinst lk.2.2.1) hpv (mvT hZ lk.2.1) lk.2.2.1 (hK lk) F.method hsize (Steps.refl _) (a := ad) hcl hob (argsL := r2) (rest := vr) (lenOf pd (by have q : r2.length + 1 = M'.2.2.2.2.1 + 1 := lv; omega)) (by rw [e1, List.reverse_cons, List.append_assoc]; rfl) hW hd (fun _ _ => ⟨rfl, rfl, B1, B2⟩)
    exact fin w vm₁ B hW₁ X' hq (fun target h => hst.trans h)
/-- THE EVALUATOR IS SOUND -/
theorem ev_sound (l : Launch) (hCT : CTOk Z a0 CT) (hMT : ∀ k M, nth MT k = some M → MOk Z a0 CT MT M)
    (hΓ : ∀ q ∈ Γ, q.2.closed = true ∧ ∃ v, q.1.eval A0 Z none [] Z = some v ∧ q.2.eval A0 Z none [] Z = some v)
    (hC : ∀ q ∈ Γc, ∃ x y : Int32, q.2.1.eval A0 Z none [] Z = some (.int x) ∧ q.2.2.1.eval A0 Z none [] Z = some (.int y) ∧ if_icmp.holds q.1 x y = q.2.2.2) :
    ∀ (n fr lo : Nat) (M : MRow) (cur : List Row) (σ : SFrame) (H : AH) (c s : Nat) (v : Option SVal) (H' : AH) (c' s' : Nat), ev N CT MT Γ Γc n fr lo M cur σ H c s = some (v, H', c', s') → MOk Z a0 CT MT M → (∀ q ∈ cur, q ∈ M.2.2.2.2.2) →
      Body1 l Z a0 CT MT N n0 A0 fr lo M cur σ H c s v H' c' s' := by
  intro n
  induction n with
  | zero => intro fr lo M cur σ H c s v H' c' s' h; cases h
  | succ n ih =>
    intro fr lo M cur σ H c s v H' c' s' h hM hcur p e R st m args below meth cd A T g hx hZ hown hby hml hrt hnm hlk hfr hlo hX P
    unfold ev at h
    split at h
    · cases h
    · rename_i r cur' hf
      obtain ⟨f1, f2, f3⟩ := fetch_spec hcur hf
      have hrow := hM.2 r f2
      have hΓA := ΓOk.ext hX hΓ
      have hCA := CFOk.ext hX hC
      cases hb : Nat.blt r.2.2.2.1 30 <;> rw [hb] at h <;> simp only [cond_true, cond_false] at h
      · cases hb2 : Nat.blt r.2.2.2.1 40 <;> rw [hb2] at h <;> simp only [cond_true, cond_false] at h
        · split at h
          · cases h
          · rename_i M' hM'
            split at h
            · cases h
            · rename_i as rest htk
              cases hb3 : (recvOk N H r.2.2.2.1 r.2.2.2.2.2.1 as && Nat.ble r.2.2.2.1 43 && Nat.ble 1 fr && Nat.ble (wt rest + (M'.2.2.1 + 11)) lo && Nat.beq σ.locals.length M.2.2.1) <;> rw [hb3] at h <;> simp only [cond_true, cond_false, reduceCtorEq] at h
              simp only [Bool.and_eq_true] at hb3
              obtain ⟨⟨⟨⟨b1, b0⟩, b2⟩, b3⟩, b4⟩ := hb3
              split at h
              · cases h
              · rename_i v1 H1 c1 s1 he
                have h40 : 40 ≤ r.2.2.2.1 := by
                  rcases Nat.lt_or_ge r.2.2.2.1 40 with q | q
                  · have := Nat.ble_eq_true_of_le q
                    rw [show Nat.blt r.2.2.2.1 40 = Nat.ble (r.2.2.2.1 + 1) 40 from rfl] at hb2
                    rw [this] at hb2
                    cases hb2
                  · exact q
                have h43 : r.2.2.2.1 ≤ 43 := Nat.le_of_ble_eq_true b0
                refine (call_sound hx hZ hown hCT hMT hfr hlo hX hby hml hrow f1 hM' h40 h43 htk b1 (Nat.le_of_ble_eq_true b2) (Nat.le_of_ble_eq_true b3) (Nat.eq_of_beq_eq_true b4) (ih _ _ M' _ _ _ _ _ _ _ _ _ he (hMT _ _ hM') (fun q hq => hq)) P).ends fun A' T' g' X' P' => ?_
                exact ih _ _ M _ _ _ _ _ _ _ _ _ h hM f3 p e R st m args below meth cd A' T' g' hx hZ hown hby hml hrt hnm hlk hfr hlo (hX.trans X') P'
        · obtain ⟨v1, hv, e0⟩ := Option.map_eq_some_iff.mp h
          simp only [Prod.mk.injEq] at e0
          obtain ⟨rfl, rfl, rfl, rfl⟩ := e0
          exact ret_sound hx hΓA hby hrt hlk hrow f1 P hv
      · split at h
        · rename_i σ1 H1 c1 s1 hm
          refine (mv1_sound hx hZ hown hCT hΓA hCA hfr hlo hby hml hnm hrow f1 P hm).ends fun A' T' g' X' P' => ?_
          exact ih _ _ M _ _ _ _ _ _ _ _ _ h hM f3 p e R st m args below meth cd A' T' g' hx hZ hown hby hml hrt hnm hlk hfr hlo (hX.trans X') P'
        · cases h
end Whole
end Jvm.OwnEv
namespace Jvm.OwnEv
open Sem ClassFile Op Lib Jvm.Stand Jvm.Free Jvm.LawKit Jvm.RoadKit Jvm.Sym
/-! ## 8. From lists to tables -/
theorem mOk_of {Z : State} {a0 : Array Value} {CT : List CRow} {MT : List MRow} {M : MRow} (hp : plainFor M.1 = true) (hd : M.2.2.2.2.2.all (fun r => decide (decode M.2.1 r.1 = .ok (r.2.1, r.2.2.1))) = true) (hl : ∀ r ∈ M.2.2.2.2.2, LinkOk Z a0 CT MT M.1.cls M.1.name M.2.2.2.1 r) : MOk Z a0 CT MT M :=
  ⟨hp, fun r hr => ⟨of_decide_eq_true (List.all_eq_true.mp hd r hr), hl r hr⟩⟩
theorem ctOk_of {Z : State} {a0 : Array Value} {CT : List CRow} (h : ∀ r ∈ CT, COk Z a0 r) : CTOk Z a0 CT := fun _ r hr => h r (nth_mem hr)
theorem mtOk_of {Z : State} {a0 : Array Value} {CT : List CRow} {MT : List MRow} (h : ∀ M ∈ MT, MOk Z a0 CT MT M) : ∀ k M, nth MT k = some M → MOk Z a0 CT MT M := fun _ M hM => h M (nth_mem hM)
theorem cOk_of {Z : State} {a0 : Array Value} {C : String} {n : Nat} {fs : List FRow} (h1 : (Cond.instantiable C n).before a0 Z = true) (h2 : (Cond.initialized C).before a0 Z = true)
    (h3 : ∀ f ∈ fs, (cond f.2.2.2 ((Cond.laysFinal C C f.1 f.2.1).before a0 Z) ((Cond.lays C C f.1 f.2.1).before a0 Z)) = true ∧ parseFieldDescriptor f.2.1 = some f.2.2.1 ∧ okTy f.2.2.1 = true) (h4 : (fs.map fun f => f.1).Nodup) : COk Z a0 (C, n, fs) := by
  refine ⟨h1, h2, fun i f hf => h3 f (nth_mem hf), fun i j f g ne hf hg e => ne ?_⟩
  have e1 : (fs.map fun f => f.1)[i]? = some f.1 := by rw [List.getElem?_map, ← nth_eq, hf]; rfl
  have e2 : (fs.map fun f => f.1)[j]? = some g.1 := by rw [List.getElem?_map, ← nth_eq, hg]; rfl
  obtain ⟨l1, e1'⟩ := List.getElem?_eq_some_iff.mp e1
  obtain ⟨l2, e2'⟩ := List.getElem?_eq_some_iff.mp e2
  exact (List.getElem_inj h4).mp (e1'.trans (e.trans e2'.symm))
/-! ### plain facts -/
theorem maskI (x m : Int32) : ∃ n : Nat, n ≤ m.toBitVec.toNat ∧ (x &&& m) = Int32.ofNat n := by
  refine ⟨(x &&& m).toBitVec.toNat, ?_, ?_⟩
  · simp only [Int32.toBitVec_and, BitVec.toNat_and]
    exact Nat.and_le_right
  · apply Int32.toBitVec_inj.mp
    show _ = BitVec.ofNat 32 _
    rw [BitVec.ofNat_toNat]; simp
theorem and3 (x : Int32) : x &&& 3 = 0 ∨ x &&& 3 = 1 ∨ x &&& 3 = 2 ∨ x &&& 3 = 3 := by
  obtain ⟨n, hn, e⟩ := maskI x 3
  have hn : n ≤ 3 := hn
  rw [e]
  have : n = 0 ∨ n = 1 ∨ n = 2 ∨ n = 3 := by omega
  rcases this with rfl | rfl | rfl | rfl
  · exact Or.inl rfl
  · exact Or.inr (Or.inl rfl)
  · exact Or.inr (Or.inr (Or.inl rfl))
  · exact Or.inr (Or.inr (Or.inr rfl))
theorem and1 (x : Int32) : x &&& 1 = 0 ∨ x &&& 1 = 1 := and_one x
/-- a fact on terms, given -/
def TFact (A : Array Value) (Z : State) (q : Term × Term) : Prop := q.2.closed = true ∧ ∃ v, q.1.eval A Z none [] Z = some v ∧ q.2.eval A Z none [] Z = some v
def BFact (A : Array Value) (Z : State) (q : CFact) : Prop := ∃ x y : Int32, q.2.1.eval A Z none [] Z = some (.int x) ∧ q.2.2.1.eval A Z none [] Z = some (.int y) ∧ if_icmp.holds q.1 x y = q.2.2.2
theorem all0 {α : Type} {P : α → Prop} : ∀ q ∈ ([] : List α), P q := fun _ h => nomatch h
theorem allC {α : Type} {P : α → Prop} {a : α} {L : List α} (h : P a) (t : ∀ q ∈ L, P q) : ∀ q ∈ a :: L, P q := List.forall_mem_cons.mpr ⟨h, t⟩
theorem tInt {A : Array Value} {Z : State} {t : Term} {x y : Int32} (h : t.eval A Z none [] Z = some (.int x)) (e : x = y) : TFact A Z (t, .int y) := ⟨rfl, .int x, h, by rw [e]; rfl⟩
theorem tTerm {A : Array Value} {Z : State} {t u : Term} {v w : Value} (h : t.eval A Z none [] Z = some v) (k : u.eval A Z none [] Z = some w) (hc : u.closed = true) (e : v = w) : TFact A Z (t, u) := ⟨hc, v, h, by rw [e]; exact k⟩
section Evals
variable {A : Array Value} {Z : State} {a b : Term}
theorem evLadd {x y : Int64} (h : a.eval A Z none [] Z = some (.long x)) (k : b.eval A Z none [] Z = some (.long y)) : (Term.op2 .ladd a b).eval A Z none [] Z = some (.long (x + y)) := by simp [Term.eval, h, k, Binary.apply]
theorem evLsub {x y : Int64} (h : a.eval A Z none [] Z = some (.long x)) (k : b.eval A Z none [] Z = some (.long y)) : (Term.op2 .lsub a b).eval A Z none [] Z = some (.long (x - y)) := by simp [Term.eval, h, k, Binary.apply]
theorem evLmul {x y : Int64} (h : a.eval A Z none [] Z = some (.long x)) (k : b.eval A Z none [] Z = some (.long y)) : (Term.op2 .lmul a b).eval A Z none [] Z = some (.long (x * y)) := by simp [Term.eval, h, k, Binary.apply]
theorem evLcmp {x y : Int64} (h : a.eval A Z none [] Z = some (.long x)) (k : b.eval A Z none [] Z = some (.long y)) : (Term.op2 .lcmp a b).eval A Z none [] Z = some (.int (lcmpV x y)) := by simp [Term.eval, h, k, Binary.apply, lcmpV]
theorem evL2i {x : Int64} (h : a.eval A Z none [] Z = some (.long x)) : (Term.op1 .l2i a).eval A Z none [] Z = some (.int x.toInt32) := by simp [Term.eval, h, Unary.apply]
theorem evI2l {x : Int32} (h : a.eval A Z none [] Z = some (.int x)) : (Term.op1 .i2l a).eval A Z none [] Z = some (.long x.toInt64) := by simp [Term.eval, h, Unary.apply]
theorem evIadd {x y : Int32} (h : a.eval A Z none [] Z = some (.int x)) (k : b.eval A Z none [] Z = some (.int y)) : (Term.add a b).eval A Z none [] Z = some (.int (x + y)) := by simp [Term.eval, h, k]
theorem evIsub {x y : Int32} (h : a.eval A Z none [] Z = some (.int x)) (k : b.eval A Z none [] Z = some (.int y)) : (Term.sub a b).eval A Z none [] Z = some (.int (x - y)) := by simp [Term.eval, h, k]
theorem evIand {x y : Int32} (h : a.eval A Z none [] Z = some (.int x)) (k : b.eval A Z none [] Z = some (.int y)) : (Term.op2 .iand a b).eval A Z none [] Z = some (.int (x &&& y)) := by simp [Term.eval, h, k, Binary.apply]
theorem evIrem {x y : Int32} (h : a.eval A Z none [] Z = some (.int x)) (k : b.eval A Z none [] Z = some (.int y)) (hy : y ≠ 0) : (Term.rem a b).eval A Z none [] Z = some (.int (x % y)) := by simp [Term.eval, h, k, hy]
theorem evLrem {x y : Int64} (h : a.eval A Z none [] Z = some (.long x)) (k : b.eval A Z none [] Z = some (.long y)) (hy : y ≠ 0) : (Term.op2 .lrem a b).eval A Z none [] Z = some (.long (x - (x / y) * y)) := by simp [Term.eval, h, k, hy, Binary.apply]
theorem lcmp_self (x : Int64) : lcmpV x x = 0 := (lc_eq x x).mpr rfl
theorem bCmp {c : ClassFile.Cond} {x y : Int32} {v : Bool} (h : a.eval A Z none [] Z = some (.int x)) (k : b.eval A Z none [] Z = some (.int y)) (e : if_icmp.holds c x y = v) : BFact A Z (c, a, b, v) := ⟨x, y, h, k, e⟩
theorem tCmp0 {x y : Int64} (h : a.eval A Z none [] Z = some (.long x)) (k : b.eval A Z none [] Z = some (.long y)) (e : x = y) : TFact A Z (.op2 .lcmp a b, .int 0) := tInt (evLcmp h k) (by rw [e]; exact lcmp_self y)
end Evals
/-- did it end in 1 -/
def isOne : Option Out → Bool
  | some (some x, _, _, _) => decide (x = ⟨.int 1, .int⟩)
  | _ => false
theorem isOne_spec {o : Option Out} (h : isOne o = true) : ∃ H c s, o = some (some ⟨.int 1, .int⟩, H, c, s) := by
  unfold isOne at h
  split at h
  · rename_i x H c s
    have q := of_decide_eq_true h
    subst q
    exact ⟨H, c, s, rfl⟩
  · cases h
end Jvm.OwnEv
namespace Jvm.OwnEv
open Sem ClassFile Op Lib Jvm.Stand Jvm.Free Jvm.LawKit Jvm.RoadKit Jvm.Sym
/-! ## 9. A walk in stages -/
abbrev Cut : Type := SFrame × AH × Nat × Nat
/-- runs a frame till it stands at 'stop' (behind its first step) -/
def evTo (N : Nat) (CT : List CRow) (MT : List MRow) (Γ : List (Term × Term)) (Γc : List CFact) (stop : Nat) : Nat → Nat → Nat → MRow → List Row → SFrame → AH → Nat → Nat → Option Cut
  | 0 => fun _ _ _ _ _ _ _ _ => none
  | n + 1 => fun fr lo M cur σ H c s =>
    match fetch cur M.2.2.2.2.2 σ.pc with
    | none => none
    | some (r, cur') =>
      cond (Nat.blt r.2.2.2.1 30)
        (match mv1 N CT Γ Γc fr lo M.2.2.1 r σ H c s with
          | some (σ', H', c', s') => cond (Nat.beq σ'.pc stop) (some (σ', H', c', s')) (evTo N CT MT Γ Γc stop n fr lo M cur' σ' H' c' s')
          | none => none)
        (cond (Nat.blt r.2.2.2.1 40) none
          (match nth MT r.2.2.2.2.1 with
            | none => none
            | some M' =>
              match takeR (cond (Nat.beq r.2.2.2.1 40) M'.2.2.2.2.1 (M'.2.2.2.2.1 + 1)) σ.stack [] with
              | none => none
              | some (as, rest) =>
                cond (recvOk N H r.2.2.2.1 r.2.2.2.2.2.1 as && Nat.ble r.2.2.2.1 43 && Nat.ble 1 fr && Nat.ble (wt rest + (M'.2.2.1 + 11)) lo && Nat.beq σ.locals.length M.2.2.1)
                  (match ev N CT MT Γ Γc n (fr - 1) (lo - (wt rest + (M'.2.2.1 + 11))) M' M'.2.2.2.2.2 ⟨0, entryS as M'.2.2.1, [], []⟩ H c s with
                    | none => none
                    | some (v, H', c', s') => cond (Nat.beq (σ.pc + 3) stop) (some ({ σ with pc := σ.pc + 3, stack := pushV v rest }, H', c', s')) (evTo N CT MT Γ Γc stop n fr lo M cur' { σ with pc := σ.pc + 3, stack := pushV v rest } H' c' s'))
                  none))
section Stages
variable {Z : State} {a0 : Array Value} {CT : List CRow} {MT : List MRow} {N n0 : Nat} {Γ : List (Term × Term)} {Γc : List CFact} {A0 : Array Value}
theorem evTo_sound (l : Launch) (hCT : CTOk Z a0 CT) (hMT : ∀ k M, nth MT k = some M → MOk Z a0 CT MT M) (hΓ : ∀ q ∈ Γ, TFact A0 Z q) (hC : ∀ q ∈ Γc, BFact A0 Z q) {stop : Nat} :
    ∀ (n fr lo : Nat) (M : MRow) (cur : List Row) (σ : SFrame) (H : AH) (c s : Nat) (σ2 : SFrame) (H2 : AH) (c2 s2 : Nat), evTo N CT MT Γ Γc stop n fr lo M cur σ H c s = some (σ2, H2, c2, s2) → MOk Z a0 CT MT M → (∀ q ∈ cur, q ∈ M.2.2.2.2.2) →
      ∀ (v : Option SVal) (H' : AH) (c' s' : Nat), (∀ cur2, (∀ q ∈ cur2, q ∈ M.2.2.2.2.2) → Body1 l Z a0 CT MT N n0 A0 fr lo M cur2 σ2 H2 c2 s2 v H' c' s') → Body1 l Z a0 CT MT N n0 A0 fr lo M cur σ H c s v H' c' s' := by
  intro n
  induction n with
  | zero => intro fr lo M cur σ H c s σ2 H2 c2 s2 h; cases h
  | succ n ih =>
    intro fr lo M cur σ H c s σ2 H2 c2 s2 h hM hcur v H' c' s' hB p e R st m args below meth cd A T g hx hZ hown hby hml hrt hnm hlk hfr hlo hX P
    unfold evTo at h
    split at h
    · cases h
    · rename_i r cur' hf
      obtain ⟨f1, f2, f3⟩ := fetch_spec hcur hf
      have hrow := hM.2 r f2
      have hΓA := ΓOk.ext hX hΓ
      have hCA := CFOk.ext hX hC
      cases hb : Nat.blt r.2.2.2.1 30 <;> rw [hb] at h <;> simp only [cond_true, cond_false] at h
      · cases hb2 : Nat.blt r.2.2.2.1 40 <;> rw [hb2] at h <;> simp only [cond_true, cond_false, reduceCtorEq] at h
        split at h
        · cases h
        · rename_i M' hM'
          split at h
          · cases h
          · rename_i as rest htk
            cases hb3 : (recvOk N H r.2.2.2.1 r.2.2.2.2.2.1 as && Nat.ble r.2.2.2.1 43 && Nat.ble 1 fr && Nat.ble (wt rest + (M'.2.2.1 + 11)) lo && Nat.beq σ.locals.length M.2.2.1) <;> rw [hb3] at h <;> simp only [cond_true, cond_false, reduceCtorEq] at h
            simp only [Bool.and_eq_true] at hb3
            obtain ⟨⟨⟨⟨b1, b0⟩, b2⟩, b3⟩, b4⟩ := hb3
            split at h
            · cases h
            · rename_i v1 H1 c1 s1 he
              have h40 : 40 ≤ r.2.2.2.1 := by
                rcases Nat.lt_or_ge r.2.2.2.1 40 with q | q
                · have := Nat.ble_eq_true_of_le q
                  rw [show Nat.blt r.2.2.2.1 40 = Nat.ble (r.2.2.2.1 + 1) 40 from rfl] at hb2
                  rw [this] at hb2
                  cases hb2
                · exact q
              refine (call_sound hx hZ hown hCT hMT hfr hlo hX hby hml hrow f1 hM' h40 (Nat.le_of_ble_eq_true b0) htk b1 (Nat.le_of_ble_eq_true b2) (Nat.le_of_ble_eq_true b3) (Nat.eq_of_beq_eq_true b4) (ev_sound l hCT hMT hΓ hC n _ _ M' _ _ _ _ _ _ _ _ _ he (hMT _ _ hM') (fun q hq => hq)) P).ends fun A' T' g' X' P' => ?_
              cases hs : Nat.beq (σ.pc + 3) stop <;> rw [hs] at h <;> simp only [cond_true, cond_false] at h
              · exact ih _ _ M _ _ _ _ _ _ _ _ _ h hM f3 v H' c' s' hB p e R st m args below meth cd A' T' g' hx hZ hown hby hml hrt hnm hlk hfr hlo (hX.trans X') P'
              · simp only [Option.some.injEq, Prod.mk.injEq] at h
                obtain ⟨rfl, rfl, rfl, rfl⟩ := h
                exact hB cur' f3 p e R st m args below meth cd A' T' g' hx hZ hown hby hml hrt hnm hlk hfr hlo (hX.trans X') P'
      · split at h
        · rename_i σ1 H1 c1 s1 hm
          refine (mv1_sound hx hZ hown hCT hΓA hCA hfr hlo hby hml hnm hrow f1 P hm).ends fun A' T' g' X' P' => ?_
          cases hs : Nat.beq σ1.pc stop <;> rw [hs] at h <;> simp only [cond_true, cond_false] at h
          · exact ih _ _ M _ _ _ _ _ _ _ _ _ h hM f3 v H' c' s' hB p e R st m args below meth cd A' T' g' hx hZ hown hby hml hrt hnm hlk hfr hlo (hX.trans X') P'
          · simp only [Option.some.injEq, Prod.mk.injEq] at h
            obtain ⟨rfl, rfl, rfl, rfl⟩ := h
            exact hB cur' f3 p e R st m args below meth cd A' T' g' hx hZ hown hby hml hrt hnm hlk hfr hlo (hX.trans X') P'
        · cases h
/-- at a cut the frame's local variables may be written otherwise -/
theorem Body1.alter {l : Launch} {fr lo : Nat} {M : MRow} {cur : List Row} {pc : Nat} {L L' : List SSlot} {S : List SVal} {W W' : List SWrite} {H : AH} {c s : Nat} {v : Option SVal} {H' : AH} {c' s' : Nat}
    (hL : ∀ (A : Array Value) (ls : Array Slot), Ex A0 A → DenLocals A Z L ls → DenLocals A Z L' ls) (h : Body1 l Z a0 CT MT N n0 A0 fr lo M cur ⟨pc, L', S, W'⟩ H c s v H' c' s') : Body1 l Z a0 CT MT N n0 A0 fr lo M cur ⟨pc, L, S, W⟩ H c s v H' c' s' := by
  intro p e R st m args below meth cd A T g hx hZ hown hby hml hrt hnm hlk hfr hlo hX P
  obtain ⟨locs, cells, slots, X, F, I, N1, B1, B2⟩ := P
  exact h p e R st m args below meth cd A T g hx hZ hown hby hml hrt hnm hlk hfr hlo hX ⟨locs, cells, slots, X, ⟨F.method, F.pc, hL A _ hX F.locals, F.stack, F.locked, F.entered, F.mroom⟩, I, N1, B1, B2⟩
/-- one local variable, written otherwise -/
theorem alterAt {A : Array Value} {L : List SSlot} {ls : Array Slot} {i : Nat} {x y : SVal} (hx : L[i]? = some (.val x)) (h : ∀ v, x.Den A Z v → y.Den A Z v) (d : DenLocals A Z L ls) : DenLocals A Z (L.set i (.val y)) ls := fun j => by
  have q := d j
  by_cases e : i = j
  · subst e
    have lt := (List.getElem?_eq_some_iff.mp hx).1
    rw [List.getElem?_set_self lt]
    rw [hx] at q
    cases hl : ls[i]? with
    | none => rw [hl] at q; exact q.elim
    | some z =>
      rw [hl] at q
      cases z with
      | val v => exact h v q
      | unset => exact q.elim
      | second => exact q.elim
  · rw [List.getElem?_set_ne e]
    exact q
end Stages
end Jvm.OwnEv
namespace Jvm.OwnEv
open Sem ClassFile Op Lib Jvm.Stand Jvm.Free Jvm.LawKit Jvm.RoadKit Jvm.Sym
/-! ## 10. A walk as a tree: ghosts that are 0 or 1 are told apart where the walk first asks -/
/-- at such a pc such a local variable holds such a ghost: which one -/
def spl (sp : List (Nat × Nat)) (σ : SFrame) : Option Nat :=
  match sp with
  | [] => none
  | (pc, l) :: r => cond (Nat.beq pc σ.pc) (match σ.locals[l]? with
      | some (.val ⟨.arg g, .int⟩) => cond (Nat.beq g l) (some l) none
      | _ => none) (spl r σ)
def setL (σ : SFrame) (l : Nat) (z : Int32) : SFrame := { σ with locals := σ.locals.set l (.val ⟨.int z, .int⟩) }
def evT (N : Nat) (CT : List CRow) (MT : List MRow) (Γ : List (Term × Term)) (Γc : List CFact) (sp : List (Nat × Nat)) : Nat → Nat → Nat → MRow → List Row → SFrame → AH → Nat → Nat → Bool
  | 0 => fun _ _ _ _ _ _ _ _ => false
  | n + 1 => fun fr lo M cur σ H c s =>
    match spl sp σ with
    | some l => evT N CT MT Γ Γc sp n fr lo M cur (setL σ l 0) H c s && evT N CT MT Γ Γc sp n fr lo M cur (setL σ l 1) H c s
    | none =>
    match fetch cur M.2.2.2.2.2 σ.pc with
    | none => false
    | some (r, cur') =>
      cond (Nat.blt r.2.2.2.1 30)
        (match mv1 N CT Γ Γc fr lo M.2.2.1 r σ H c s with
          | some (σ', H', c', s') => evT N CT MT Γ Γc sp n fr lo M cur' σ' H' c' s'
          | none => false)
        (cond (Nat.blt r.2.2.2.1 40)
          (match mvRet Γ r.2.2.2.1 σ with
            | some (some x) => decide (x = ⟨.int 1, .int⟩)
            | _ => false)
          (match nth MT r.2.2.2.2.1 with
            | none => false
            | some M' =>
              match takeR (cond (Nat.beq r.2.2.2.1 40) M'.2.2.2.2.1 (M'.2.2.2.2.1 + 1)) σ.stack [] with
              | none => false
              | some (as, rest) =>
                cond (recvOk N H r.2.2.2.1 r.2.2.2.2.2.1 as && Nat.ble r.2.2.2.1 43 && Nat.ble 1 fr && Nat.ble (wt rest + (M'.2.2.1 + 11)) lo && Nat.beq σ.locals.length M.2.2.1)
                  (match ev N CT MT Γ Γc n (fr - 1) (lo - (wt rest + (M'.2.2.1 + 11))) M' M'.2.2.2.2.2 ⟨0, entryS as M'.2.2.1, [], []⟩ H c s with
                    | none => false
                    | some (v, H', c', s') => evT N CT MT Γ Γc sp n fr lo M cur' { σ with pc := σ.pc + 3, stack := pushV v rest } H' c' s')
                  false))
section Tree
variable {Z : State} {a0 : Array Value} {CT : List CRow} {MT : List MRow} {N n0 : Nat} {Γ : List (Term × Term)} {Γc : List CFact} {A0 : Array Value}
theorem spl_spec : ∀ {sp : List (Nat × Nat)} {σ : SFrame} {l : Nat}, spl sp σ = some l → σ.locals[l]? = some (.val ⟨.arg l, .int⟩) ∧ ∃ pc, (pc, l) ∈ sp
  | (pc, l') :: r, σ, l, h => by
    unfold spl at h
    cases hb : Nat.beq pc σ.pc <;> rw [hb] at h
    · obtain ⟨h1, q, h2⟩ := spl_spec (sp := r) h
      exact ⟨h1, q, List.mem_cons_of_mem _ h2⟩
    · simp only [cond_true] at h
      split at h
      · rename_i g' hl
        cases hg : Nat.beq g' l' <;> rw [hg] at h
        · cases h
        · cases h
          have e := Nat.eq_of_beq_eq_true hg
          subst e
          exact ⟨hl, pc, List.mem_cons_self ..⟩
      · cases h
  | [], _, _, h => by cases h
/-- a ghost of value z, written as z -/
theorem Body1.ghost {l : Launch} {fr lo : Nat} {M : MRow} {cur : List Row} {σ : SFrame} {H : AH} {c s : Nat} {v : Option SVal} {H' : AH} {c' s' : Nat} {i g : Nat} {z : Int32} (hg : A0[g]? = some (.int z)) (hl : σ.locals[i]? = some (.val ⟨.arg g, .int⟩))
    (h : Body1 l Z a0 CT MT N n0 A0 fr lo M cur (setL σ i z) H c s v H' c' s') : Body1 l Z a0 CT MT N n0 A0 fr lo M cur σ H c s v H' c' s' := by
  obtain ⟨pc, L, S, W⟩ := σ
  refine Body1.alter (fun A' ls hE d => alterAt hl (fun v d => ?_) d) h
  have q : (Term.arg g).eval A' Z none [] Z = some (.int z) := hE _ _ hg
  exact ⟨rfl, q.symm.trans d.2.1, d.2.2⟩
theorem evT_sound (l : Launch) (hCT : CTOk Z a0 CT) (hMT : ∀ k M, nth MT k = some M → MOk Z a0 CT MT M) (hΓ : ∀ q ∈ Γ, TFact A0 Z q) (hC : ∀ q ∈ Γc, BFact A0 Z q) {sp : List (Nat × Nat)}
    (hgh : ∀ q ∈ sp, A0[q.2]? = some (.int 0) ∨ A0[q.2]? = some (.int 1)) :
    ∀ (n fr lo : Nat) (M : MRow) (cur : List Row) (σ : SFrame) (H : AH) (c s : Nat), evT N CT MT Γ Γc sp n fr lo M cur σ H c s = true → MOk Z a0 CT MT M → (∀ q ∈ cur, q ∈ M.2.2.2.2.2) →
      ∃ (H' : AH) (c' s' : Nat), Body1 l Z a0 CT MT N n0 A0 fr lo M cur σ H c s (some ⟨.int 1, .int⟩) H' c' s' := by
  intro n
  induction n with
  | zero => intro fr lo M cur σ H c s h; cases h
  | succ n ih =>
    intro fr lo M cur σ H c s h hM hcur
    unfold evT at h
    split at h
    · rename_i k hk
      obtain ⟨q1, pc, q2⟩ := spl_spec hk
      rw [Bool.and_eq_true] at h
      rcases hgh _ q2 with e | e
      · obtain ⟨H', c', s', B⟩ := ih _ _ M _ _ _ _ _ h.1 hM hcur
        exact ⟨H', c', s', Body1.ghost e q1 B⟩
      · obtain ⟨H', c', s', B⟩ := ih _ _ M _ _ _ _ _ h.2 hM hcur
        exact ⟨H', c', s', Body1.ghost e q1 B⟩
    · split at h
      · cases h
      · rename_i r cur' hf
        obtain ⟨f1, f2, f3⟩ := fetch_spec hcur hf
        have hrow := hM.2 r f2
        cases hb : Nat.blt r.2.2.2.1 30 <;> rw [hb] at h <;> simp only [cond_true, cond_false] at h
        · cases hb2 : Nat.blt r.2.2.2.1 40 <;> rw [hb2] at h <;> simp only [cond_true, cond_false] at h
          · split at h
            · cases h
            · rename_i M' hM'
              split at h
              · cases h
              · rename_i as rest htk
                cases hb3 : (recvOk N H r.2.2.2.1 r.2.2.2.2.2.1 as && Nat.ble r.2.2.2.1 43 && Nat.ble 1 fr && Nat.ble (wt rest + (M'.2.2.1 + 11)) lo && Nat.beq σ.locals.length M.2.2.1) <;> rw [hb3] at h <;> simp only [cond_true, cond_false, Bool.false_eq_true] at h
                simp only [Bool.and_eq_true] at hb3
                obtain ⟨⟨⟨⟨b1, b0⟩, b2⟩, b3⟩, b4⟩ := hb3
                split at h
                · cases h
                · rename_i v1 H1 c1 s1 he
                  have h40 : 40 ≤ r.2.2.2.1 := by
                    rcases Nat.lt_or_ge r.2.2.2.1 40 with q | q
                    · have := Nat.ble_eq_true_of_le q
                      rw [show Nat.blt r.2.2.2.1 40 = Nat.ble (r.2.2.2.1 + 1) 40 from rfl] at hb2
                      rw [this] at hb2
                      cases hb2
                    · exact q
                  obtain ⟨H', c', s', B⟩ := ih _ _ M _ _ _ _ _ h hM f3
                  refine ⟨H', c', s', fun p e R st m args below meth cd A T g hx hZ hown hby hml hrt hnm hlk hfr hlo hX P => ?_⟩
                  refine (call_sound hx hZ hown hCT hMT hfr hlo hX hby hml hrow f1 hM' h40 (Nat.le_of_ble_eq_true b0) htk b1 (Nat.le_of_ble_eq_true b2) (Nat.le_of_ble_eq_true b3) (Nat.eq_of_beq_eq_true b4) (ev_sound l hCT hMT hΓ hC n _ _ M' _ _ _ _ _ _ _ _ _ he (hMT _ _ hM') (fun q hq => hq)) P).ends fun A' T' g' X' P' => ?_
                  exact B p e R st m args below meth cd A' T' g' hx hZ hown hby hml hrt hnm hlk hfr hlo (hX.trans X') P'
          · split at h
            · rename_i x hx1
              have e1 := of_decide_eq_true h
              subst e1
              exact ⟨H, c, s, fun p e R st m args below meth cd A T g hx hZ hown hby hml hrt hnm hlk hfr hlo hX P => ret_sound hx (ΓOk.ext hX hΓ) hby hrt hlk hrow f1 P hx1⟩
            · cases h
        · split at h
          · rename_i σ1 H1 c1 s1 hm
            obtain ⟨H', c', s', B⟩ := ih _ _ M _ _ _ _ _ h hM f3
            refine ⟨H', c', s', fun p e R st m args below meth cd A T g hx hZ hown hby hml hrt hnm hlk hfr hlo hX P => ?_⟩
            refine (mv1_sound hx hZ hown hCT (ΓOk.ext hX hΓ) (CFOk.ext hX hC) hfr hlo hby hml hnm hrow f1 P hm).ends fun A' T' g' X' P' => ?_
            exact B p e R st m args below meth cd A' T' g' hx hZ hown hby hml hrt hnm hlk hfr hlo (hX.trans X') P'
          · cases h
end Tree
end Jvm.OwnEv
namespace Jvm.Pilot.@@N@@
open Jvm Jvm.ClassFile Sem Op Lib Jvm.Free Jvm.Stand Jvm.LawKit Jvm.RoadKit Bundle Jvm.Sym Jvm.OwnEv Jvm.Pilot.@@N@@.Jvm.D
/-! ## The world of this claim: classes, methods, their rows and facts (printed by a program out of the statement) -/
def own_CT : List Jvm.OwnEv.CRow := [("com/example/nequiv/nequiv/BlockKeys", 44, [("counterTable", "Lcom/example/nequiv/nequiv/PairTable;", (.object "com/example/nequiv/nequiv/PairTable"), true), ("firstSlicesOfKey", "[I", (.array .int), false), ("sliceCountsOfKey", "[I", (.array .int), false), ("sliceTable", "Lcom/example/nequiv/nequiv/PairTable;", (.object "com/example/nequiv/nequiv/PairTable"), true), ("keysInTable", "[Z", (.array .boolean), false), ("stepCounters", "[I", (.array .int), true), ("counterNodes", "[I", (.array .int), true), ("counterKeys", "[I", (.array .int), true), ("counterCounts", "[I", (.array .int), true), ("counterSlices", "[I", (.array .int), true), ("previousInSlice", "[I", (.array .int), true), ("nextInSlice", "[I", (.array .int), true), ("previousOfNode", "[I", (.array .int), true), ("nextOfNode", "[I", (.array .int), true), ("freeCounters", "[I", (.array .int), true), ("firstCounters", "[I", (.array .int), true), ("keyCounts", "[I", (.array .int), true), ("nodesInTable", "[Z", (.array .boolean), true), ("sliceBlocks", "[I", (.array .int), true), ("sliceKeys", "[I", (.array .int), true), ("firstInSlice", "[I", (.array .int), true), ("sliceSizes", "[I", (.array .int), true), ("sliceBottoms", "[I", (.array .int), true), ("previousOfBlock", "[I", (.array .int), true), ("nextOfBlock", "[I", (.array .int), true), ("freeSlices", "[I", (.array .int), true), ("previousOfKey", "[I", (.array .int), true), ("nextOfKey", "[I", (.array .int), true), ("firstSlices", "[I", (.array .int), true), ("blockKeyCounts", "[I", (.array .int), true), ("bottomKeyCounts", "[I", (.array .int), true), ("passSlices", "[I", (.array .int), true), ("firstBottoms", "[I", (.array .int), true), ("lastBottoms", "[I", (.array .int), true), ("bottomCounts", "[I", (.array .int), true), ("previousBottoms", "[I", (.array .int), true), ("nextBottoms", "[I", (.array .int), true), ("bottom", "[Z", (.array .boolean), true), ("bottomRounds", "[I", (.array .int), true), ("freeCounterCount", "I", .int, false), ("counterCount", "I", .int, false), ("freeSliceCount", "I", .int, false), ("sliceCount", "I", .int, false), ("round", "I", .int, false)]), ("com/example/nequiv/nequiv/PairTable", 3, [("bits", "I", .int, false), ("entries", "[J", (.array .long), false)])]
def own_r0 : List Jvm.OwnEv.Row := [(0, .iload_n 0, 1, 0, 0, 0, .null, .int),
  (1, .iconst 1, 1, 1, 0, 0, .null, .int),
  (2, .iand, 1, 3, 0, 0, .null, .int),
  (3, .istore_n 3, 1, 5, 0, 0, .null, .int),
  (4, .iload_n 0, 1, 0, 0, 0, .null, .int),
  (5, .iconst 1, 1, 1, 0, 0, .null, .int),
  (6, .iushr, 1, 3, 0, 0, .null, .int),
  (7, .iconst 1, 1, 1, 0, 0, .null, .int),
  (8, .iand, 1, 3, 0, 0, .null, .int),
  (9, .istore 4, 2, 5, 0, 0, .null, .int),
  (11, .iload_n 0, 1, 0, 0, 0, .null, .int),
  (12, .iconst 2, 1, 1, 0, 0, .null, .int),
  (13, .iushr, 1, 3, 0, 0, .null, .int),
  (14, .iconst 1, 1, 1, 0, 0, .null, .int),
  (15, .iand, 1, 3, 0, 0, .null, .int),
  (16, .istore 5, 2, 5, 0, 0, .null, .int),
  (18, .iload_n 0, 1, 0, 0, 0, .null, .int),
  (19, .iconst 3, 1, 1, 0, 0, .null, .int),
  (20, .iushr, 1, 3, 0, 0, .null, .int),
  (21, .iconst 1, 1, 1, 0, 0, .null, .int),
  (22, .iand, 1, 3, 0, 0, .null, .int),
  (23, .istore 6, 2, 5, 0, 0, .null, .int),
  (25, .iload_n 1, 1, 0, 0, 0, .null, .int),
  (26, .iconst 1, 1, 1, 0, 0, .null, .int),
  (27, .iand, 1, 3, 0, 0, .null, .int),
  (28, .ifCond .eq 7, 3, 4, 35, 0, .null, .int),
  (31, .iconst 1, 1, 1, 0, 0, .null, .int),
  (32, .goto 4, 3, 7, 36, 0, .null, .int),
  (35, .iconst 0, 1, 1, 0, 0, .null, .int),
  (36, .istore 7, 2, 5, 0, 0, .null, .int),
  (38, .iload_n 1, 1, 0, 0, 0, .null, .int),
  (39, .iconst 1, 1, 1, 0, 0, .null, .int),
  (40, .iushr, 1, 3, 0, 0, .null, .int),
  (41, .iconst 1, 1, 1, 0, 0, .null, .int),
  (42, .iand, 1, 3, 0, 0, .null, .int),
  (43, .istore 8, 2, 5, 0, 0, .null, .int),
  (45, .iload_n 1, 1, 0, 0, 0, .null, .int),
  (46, .iconst 4, 1, 1, 0, 0, .null, .int),
  (47, .iand, 1, 3, 0, 0, .null, .int),
  (48, .ifCond .eq 7, 3, 4, 55, 0, .null, .int),
  (51, .iconst 1, 1, 1, 0, 0, .null, .int),
  (52, .goto 4, 3, 7, 56, 0, .null, .int),
  (55, .iconst 0, 1, 1, 0, 0, .null, .int),
  (56, .istore 9, 2, 5, 0, 0, .null, .int),
  (58, .iload_n 2, 1, 0, 0, 0, .null, .int),
  (59, .iconst 1, 1, 1, 0, 0, .null, .int),
  (60, .iand, 1, 3, 0, 0, .null, .int),
  (61, .ifCond .eq 7, 3, 4, 68, 0, .null, .int),
  (64, .iconst 1, 1, 1, 0, 0, .null, .int),
  (65, .goto 4, 3, 7, 69, 0, .null, .int),
  (68, .iconst 0, 1, 1, 0, 0, .null, .int),
  (69, .istore 10, 2, 5, 0, 0, .null, .int),
  (71, .iload_n 2, 1, 0, 0, 0, .null, .int),
  (72, .iconst 2, 1, 1, 0, 0, .null, .int),
  (73, .iand, 1, 3, 0, 0, .null, .int),
  (74, .ifCond .eq 7, 3, 4, 81, 0, .null, .int),
  (77, .iconst 1, 1, 1, 0, 0, .null, .int),
  (78, .goto 4, 3, 7, 82, 0, .null, .int),
  (81, .iconst 0, 1, 1, 0, 0, .null, .int),
  (82, .istore 11, 2, 5, 0, 0, .null, .int),
  (84, .iload_n 2, 1, 0, 0, 0, .null, .int),
  (85, .iconst 4, 1, 1, 0, 0, .null, .int),
  (86, .iand, 1, 3, 0, 0, .null, .int),
  (87, .ifCond .eq 7, 3, 4, 94, 0, .null, .int),
  (90, .iconst 1, 1, 1, 0, 0, .null, .int),
  (91, .goto 4, 3, 7, 95, 0, .null, .int),
  (94, .iconst 0, 1, 1, 0, 0, .null, .int),
  (95, .istore 12, 2, 5, 0, 0, .null, .int),
  (97, .iload_n 2, 1, 0, 0, 0, .null, .int),
  (98, .bipush 8, 2, 1, 0, 0, .null, .int),
  (100, .iand, 1, 3, 0, 0, .null, .int),
  (101, .ifCond .eq 7, 3, 4, 108, 0, .null, .int),
  (104, .iconst 1, 1, 1, 0, 0, .null, .int),
  (105, .goto 4, 3, 7, 109, 0, .null, .int),
  (108, .iconst 0, 1, 1, 0, 0, .null, .int),
  (109, .istore 13, 2, 5, 0, 0, .null, .int),
  (111, .iload_n 2, 1, 0, 0, 0, .null, .int),
  (112, .bipush 16, 2, 1, 0, 0, .null, .int),
  (114, .iand, 1, 3, 0, 0, .null, .int),
  (115, .ifCond .eq 7, 3, 4, 122, 0, .null, .int),
  (118, .iconst 1, 1, 1, 0, 0, .null, .int),
  (119, .goto 4, 3, 7, 123, 0, .null, .int),
  (122, .iconst 0, 1, 1, 0, 0, .null, .int),
  (123, .istore 14, 2, 5, 0, 0, .null, .int),
  (125, .new 7, 3, 14, 0, 0, .null, .int),
  (128, .dup, 1, 8, 0, 0, .null, .int),
  (129, .iconst 4, 1, 1, 0, 0, .null, .int),
  (130, .iconst 4, 1, 1, 0, 0, .null, .int),
  (131, .invokespecial 9, 3, 41, 1, 0, .null, .int),
  (134, .astore 15, 2, 5, 0, 0, .null, .int),
  (136, .iload 10, 2, 0, 0, 0, .null, .int),
  (138, .ifCond .eq 15, 3, 4, 153, 0, .null, .int),
  (141, .iload 12, 2, 0, 0, 0, .null, .int),
  (143, .ifCond .eq 10, 3, 4, 153, 0, .null, .int),
  (146, .aload 15, 2, 0, 0, 0, .null, .int),
  (148, .iconst 0, 1, 1, 0, 0, .null, .int),
  (149, .iconst 0, 1, 1, 0, 0, .null, .int),
  (150, .invokevirtual 12, 3, 42, 20, 0, .null, .int),
  (153, .iload 11, 2, 0, 0, 0, .null, .int),
  (155, .ifCond .eq 15, 3, 4, 170, 0, .null, .int),
  (158, .iload 13, 2, 0, 0, 0, .null, .int),
  (160, .ifCond .eq 10, 3, 4, 170, 0, .null, .int),
  (163, .aload 15, 2, 0, 0, 0, .null, .int),
  (165, .iconst 1, 1, 1, 0, 0, .null, .int),
  (166, .iconst 0, 1, 1, 0, 0, .null, .int),
  (167, .invokevirtual 12, 3, 42, 20, 0, .null, .int),
  (170, .aload 15, 2, 0, 0, 0, .null, .int),
  (172, .iconst 0, 1, 1, 0, 0, .null, .int),
  (173, .iconst 0, 1, 1, 0, 0, .null, .int),
  (174, .iconst 0, 1, 1, 0, 0, .null, .int),
  (175, .iload_n 3, 1, 0, 0, 0, .null, .int),
  (176, .invokevirtual 15, 3, 42, 5, 0, .null, .int),
  (179, .aload 15, 2, 0, 0, 0, .null, .int),
  (181, .iconst 1, 1, 1, 0, 0, .null, .int),
  (182, .iconst 1, 1, 1, 0, 0, .null, .int),
  (183, .iconst 0, 1, 1, 0, 0, .null, .int),
  (184, .iload 4, 2, 0, 0, 0, .null, .int),
  (186, .invokevirtual 15, 3, 42, 5, 0, .null, .int),
  (189, .iload 7, 2, 0, 0, 0, .null, .int),
  (191, .ifCond .eq 14, 3, 4, 205, 0, .null, .int),
  (194, .aload 15, 2, 0, 0, 0, .null, .int),
  (196, .iconst 2, 1, 1, 0, 0, .null, .int),
  (197, .iload 8, 2, 0, 0, 0, .null, .int),
  (199, .iconst 0, 1, 1, 0, 0, .null, .int),
  (200, .iload 5, 2, 0, 0, 0, .null, .int),
  (202, .invokevirtual 15, 3, 42, 5, 0, .null, .int),
  (205, .iload 9, 2, 0, 0, 0, .null, .int),
  (207, .ifCond .eq 13, 3, 4, 220, 0, .null, .int),
  (210, .aload 15, 2, 0, 0, 0, .null, .int),
  (212, .iconst 3, 1, 1, 0, 0, .null, .int),
  (213, .iconst 2, 1, 1, 0, 0, .null, .int),
  (214, .iconst 1, 1, 1, 0, 0, .null, .int),
  (215, .iload 6, 2, 0, 0, 0, .null, .int),
  (217, .invokevirtual 15, 3, 42, 5, 0, .null, .int),
  (220, .iload 10, 2, 0, 0, 0, .null, .int),
  (222, .ifCond .eq 15, 3, 4, 237, 0, .null, .int),
  (225, .iload 12, 2, 0, 0, 0, .null, .int),
  (227, .ifCond .ne 10, 3, 4, 237, 0, .null, .int),
  (230, .aload 15, 2, 0, 0, 0, .null, .int),
  (232, .iconst 0, 1, 1, 0, 0, .null, .int),
  (233, .iconst 0, 1, 1, 0, 0, .null, .int),
  (234, .invokevirtual 12, 3, 42, 20, 0, .null, .int),
  (237, .iload 11, 2, 0, 0, 0, .null, .int),
  (239, .ifCond .eq 15, 3, 4, 254, 0, .null, .int),
  (242, .iload 13, 2, 0, 0, 0, .null, .int),
  (244, .ifCond .ne 10, 3, 4, 254, 0, .null, .int),
  (247, .aload 15, 2, 0, 0, 0, .null, .int),
  (249, .iconst 1, 1, 1, 0, 0, .null, .int),
  (250, .iconst 0, 1, 1, 0, 0, .null, .int),
  (251, .invokevirtual 12, 3, 42, 20, 0, .null, .int),
  (254, .iload 14, 2, 0, 0, 0, .null, .int),
  (256, .ifCond .eq 10, 3, 4, 266, 0, .null, .int),
  (259, .aload 15, 2, 0, 0, 0, .null, .int),
  (261, .iconst 3, 1, 1, 0, 0, .null, .int),
  (262, .iconst 1, 1, 1, 0, 0, .null, .int),
  (263, .invokevirtual 12, 3, 42, 20, 0, .null, .int),
  (266, .iconst 1, 1, 1, 0, 0, .null, .int),
  (267, .iload_n 3, 1, 0, 0, 0, .null, .int),
  (268, .ishl, 1, 3, 0, 0, .null, .int),
  (269, .iload 7, 2, 0, 0, 0, .null, .int),
  (271, .ifCond .eq 15, 3, 4, 286, 0, .null, .int),
  (274, .iload 8, 2, 0, 0, 0, .null, .int),
  (276, .ifCond .ne 10, 3, 4, 286, 0, .null, .int),
  (279, .iconst 1, 1, 1, 0, 0, .null, .int),
  (280, .iload 5, 2, 0, 0, 0, .null, .int),
  (282, .ishl, 1, 3, 0, 0, .null, .int),
  (283, .goto 4, 3, 7, 287, 0, .null, .int),
  (286, .iconst 0, 1, 1, 0, 0, .null, .int),
  (287, .ior, 1, 3, 0, 0, .null, .int),
  (288, .istore 16, 2, 5, 0, 0, .null, .int),
  (290, .iconst 1, 1, 1, 0, 0, .null, .int),
  (291, .iload 4, 2, 0, 0, 0, .null, .int),
  (293, .ishl, 1, 3, 0, 0, .null, .int),
  (294, .iload 7, 2, 0, 0, 0, .null, .int),
  (296, .ifCond .eq 16, 3, 4, 312, 0, .null, .int),
  (299, .iload 8, 2, 0, 0, 0, .null, .int),
  (301, .iconst 1, 1, 1, 0, 0, .null, .int),
  (302, .if_icmp .ne 10, 3, 4, 312, 0, .null, .int),
  (305, .iconst 1, 1, 1, 0, 0, .null, .int),
  (306, .iload 5, 2, 0, 0, 0, .null, .int),
  (308, .ishl, 1, 3, 0, 0, .null, .int),
  (309, .goto 4, 3, 7, 313, 0, .null, .int),
  (312, .iconst 0, 1, 1, 0, 0, .null, .int),
  (313, .ior, 1, 3, 0, 0, .null, .int),
  (314, .istore 17, 2, 5, 0, 0, .null, .int),
  (316, .iload 16, 2, 0, 0, 0, .null, .int),
  (318, .iload 17, 2, 0, 0, 0, .null, .int),
  (320, .ior, 1, 3, 0, 0, .null, .int),
  (321, .istore 18, 2, 5, 0, 0, .null, .int),
  (323, .iload 10, 2, 0, 0, 0, .null, .int),
  (325, .ifCond .eq 10, 3, 4, 335, 0, .null, .int),
  (328, .iload 16, 2, 0, 0, 0, .null, .int),
  (330, .iload 18, 2, 0, 0, 0, .null, .int),
  (332, .if_icmp .ne 19, 3, 4, 351, 0, .null, .int),
  (335, .iload 11, 2, 0, 0, 0, .null, .int),
  (337, .ifCond .eq 10, 3, 4, 347, 0, .null, .int),
  (340, .iload 17, 2, 0, 0, 0, .null, .int),
  (342, .iload 18, 2, 0, 0, 0, .null, .int),
  (344, .if_icmp .ne 7, 3, 4, 351, 0, .null, .int),
  (347, .iconst 1, 1, 1, 0, 0, .null, .int),
  (348, .goto 4, 3, 7, 352, 0, .null, .int),
  (351, .iconst 0, 1, 1, 0, 0, .null, .int),
  (352, .istore 19, 2, 5, 0, 0, .null, .int),
  (354, .iload 9, 2, 0, 0, 0, .null, .int),
  (356, .ifCond .eq 10, 3, 4, 366, 0, .null, .int),
  (359, .iconst 1, 1, 1, 0, 0, .null, .int),
  (360, .iload 6, 2, 0, 0, 0, .null, .int),
  (362, .ishl, 1, 3, 0, 0, .null, .int),
  (363, .goto 4, 3, 7, 367, 0, .null, .int),
  (366, .iconst 0, 1, 1, 0, 0, .null, .int),
  (367, .istore 20, 2, 5, 0, 0, .null, .int),
  (369, .iload 14, 2, 0, 0, 0, .null, .int),
  (371, .ifCond .eq 8, 3, 4, 379, 0, .null, .int),
  (374, .iload 20, 2, 0, 0, 0, .null, .int),
  (376, .ifCond .ne 7, 3, 4, 383, 0, .null, .int),
  (379, .iconst 1, 1, 1, 0, 0, .null, .int),
  (380, .goto 4, 3, 7, 384, 0, .null, .int),
  (383, .iconst 0, 1, 1, 0, 0, .null, .int),
  (384, .istore 21, 2, 5, 0, 0, .null, .int),
  (386, .aload 15, 2, 0, 0, 0, .null, .int),
  (388, .iconst 0, 1, 1, 0, 0, .null, .int),
  (389, .invokevirtual 19, 3, 42, 22, 0, .null, .int),
  (392, .iload 19, 2, 0, 0, 0, .null, .int),
  (394, .if_icmp .ne 18, 3, 4, 412, 0, .null, .int),
  (397, .aload 15, 2, 0, 0, 0, .null, .int),
  (399, .iconst 1, 1, 1, 0, 0, .null, .int),
  (400, .invokevirtual 19, 3, 42, 22, 0, .null, .int),
  (403, .iload 21, 2, 0, 0, 0, .null, .int),
  (405, .if_icmp .ne 7, 3, 4, 412, 0, .null, .int),
  (408, .iconst 1, 1, 1, 0, 0, .null, .int),
  (409, .goto 4, 3, 7, 413, 0, .null, .int),
  (412, .iconst 0, 1, 1, 0, 0, .null, .int),
  (413, .ireturn, 1, 32, 0, 0, .null, .int)]
def own_m0 : Jvm.OwnEv.MRow := (x, code, 22, (some .boolean), 3, own_r0)
def own_r1 : List Jvm.OwnEv.Row := [(0, .aload_n 0, 1, 0, 0, 0, .null, .int),
  (1, .invokespecial 1, 3, 16, 0, 0, .null, .int),
  (4, .aload_n 0, 1, 0, 0, 0, .null, .int),
  (5, .new 7, 3, 14, 1, 0, .null, .int),
  (8, .dup, 1, 8, 0, 0, .null, .int),
  (9, .invokespecial 9, 3, 41, 2, 1, .null, .int),
  (12, .putfield 10, 3, 10, 0, 0, .null, (.object "com/example/nequiv/nequiv/PairTable")),
  (15, .aload_n 0, 1, 0, 0, 0, .null, .int),
  (16, .iconst 0, 1, 1, 0, 0, .null, .int),
  (17, .newarray .int, 2, 15, 0, 0, .null, .int),
  (19, .putfield 16, 3, 10, 0, 1, .null, (.array .int)),
  (22, .aload_n 0, 1, 0, 0, 0, .null, .int),
  (23, .iconst 0, 1, 1, 0, 0, .null, .int),
  (24, .newarray .int, 2, 15, 0, 0, .null, .int),
  (26, .putfield 20, 3, 10, 0, 2, .null, (.array .int)),
  (29, .aload_n 0, 1, 0, 0, 0, .null, .int),
  (30, .new 7, 3, 14, 1, 0, .null, .int),
  (33, .dup, 1, 8, 0, 0, .null, .int),
  (34, .invokespecial 9, 3, 41, 2, 1, .null, .int),
  (37, .putfield 23, 3, 10, 0, 3, .null, (.object "com/example/nequiv/nequiv/PairTable")),
  (40, .aload_n 0, 1, 0, 0, 0, .null, .int),
  (41, .iconst 0, 1, 1, 0, 0, .null, .int),
  (42, .newarray .boolean, 2, 15, 0, 0, .null, .int),
  (44, .putfield 26, 3, 10, 0, 4, .null, (.array .boolean)),
  (47, .aload_n 0, 1, 0, 0, 0, .null, .int),
  (48, .iload_n 2, 1, 0, 0, 0, .null, .int),
  (49, .newarray .int, 2, 15, 0, 0, .null, .int),
  (51, .putfield 30, 3, 10, 0, 5, .null, (.array .int)),
  (54, .aload_n 0, 1, 0, 0, 0, .null, .int),
  (55, .getfield 30, 3, 2, 0, 5, .null, .int),
  (58, .iconst (-1), 1, 1, 0, 0, .null, .int),
  (59, .invokestatic 33, 3, 40, 4, 0, .null, .int),
  (62, .aload_n 0, 1, 0, 0, 0, .null, .int),
  (63, .iload_n 2, 1, 0, 0, 0, .null, .int),
  (64, .newarray .int, 2, 15, 0, 0, .null, .int),
  (66, .putfield 39, 3, 10, 0, 6, .null, (.array .int)),
  (69, .aload_n 0, 1, 0, 0, 0, .null, .int),
  (70, .iload_n 2, 1, 0, 0, 0, .null, .int),
  (71, .newarray .int, 2, 15, 0, 0, .null, .int),
  (73, .putfield 42, 3, 10, 0, 7, .null, (.array .int)),
  (76, .aload_n 0, 1, 0, 0, 0, .null, .int),
  (77, .iload_n 2, 1, 0, 0, 0, .null, .int),
  (78, .newarray .int, 2, 15, 0, 0, .null, .int),
  (80, .putfield 45, 3, 10, 0, 8, .null, (.array .int)),
  (83, .aload_n 0, 1, 0, 0, 0, .null, .int),
  (84, .iload_n 2, 1, 0, 0, 0, .null, .int),
  (85, .newarray .int, 2, 15, 0, 0, .null, .int),
  (87, .putfield 48, 3, 10, 0, 9, .null, (.array .int)),
  (90, .aload_n 0, 1, 0, 0, 0, .null, .int),
  (91, .iload_n 2, 1, 0, 0, 0, .null, .int),
  (92, .newarray .int, 2, 15, 0, 0, .null, .int),
  (94, .putfield 51, 3, 10, 0, 10, .null, (.array .int)),
  (97, .aload_n 0, 1, 0, 0, 0, .null, .int),
  (98, .iload_n 2, 1, 0, 0, 0, .null, .int),
  (99, .newarray .int, 2, 15, 0, 0, .null, .int),
  (101, .putfield 54, 3, 10, 0, 11, .null, (.array .int)),
  (104, .aload_n 0, 1, 0, 0, 0, .null, .int),
  (105, .iload_n 2, 1, 0, 0, 0, .null, .int),
  (106, .newarray .int, 2, 15, 0, 0, .null, .int),
  (108, .putfield 57, 3, 10, 0, 12, .null, (.array .int)),
  (111, .aload_n 0, 1, 0, 0, 0, .null, .int),
  (112, .iload_n 2, 1, 0, 0, 0, .null, .int),
  (113, .newarray .int, 2, 15, 0, 0, .null, .int),
  (115, .putfield 60, 3, 10, 0, 13, .null, (.array .int)),
  (118, .aload_n 0, 1, 0, 0, 0, .null, .int),
  (119, .iload_n 2, 1, 0, 0, 0, .null, .int),
  (120, .newarray .int, 2, 15, 0, 0, .null, .int),
  (122, .putfield 63, 3, 10, 0, 14, .null, (.array .int)),
  (125, .aload_n 0, 1, 0, 0, 0, .null, .int),
  (126, .iload_n 1, 1, 0, 0, 0, .null, .int),
  (127, .newarray .int, 2, 15, 0, 0, .null, .int),
  (129, .putfield 66, 3, 10, 0, 15, .null, (.array .int)),
  (132, .aload_n 0, 1, 0, 0, 0, .null, .int),
  (133, .getfield 66, 3, 2, 0, 15, .null, .int),
  (136, .iconst (-1), 1, 1, 0, 0, .null, .int),
  (137, .invokestatic 33, 3, 40, 4, 0, .null, .int),
  (140, .aload_n 0, 1, 0, 0, 0, .null, .int),
  (141, .iload_n 1, 1, 0, 0, 0, .null, .int),
  (142, .newarray .int, 2, 15, 0, 0, .null, .int),
  (144, .putfield 69, 3, 10, 0, 16, .null, (.array .int)),
  (147, .aload_n 0, 1, 0, 0, 0, .null, .int),
  (148, .iload_n 1, 1, 0, 0, 0, .null, .int),
  (149, .newarray .boolean, 2, 15, 0, 0, .null, .int),
  (151, .putfield 72, 3, 10, 0, 17, .null, (.array .boolean)),
  (154, .aload_n 0, 1, 0, 0, 0, .null, .int),
  (155, .iload_n 2, 1, 0, 0, 0, .null, .int),
  (156, .newarray .int, 2, 15, 0, 0, .null, .int),
  (158, .putfield 75, 3, 10, 0, 18, .null, (.array .int)),
  (161, .aload_n 0, 1, 0, 0, 0, .null, .int),
  (162, .iload_n 2, 1, 0, 0, 0, .null, .int),
  (163, .newarray .int, 2, 15, 0, 0, .null, .int),
  (165, .putfield 78, 3, 10, 0, 19, .null, (.array .int)),
  (168, .aload_n 0, 1, 0, 0, 0, .null, .int),
  (169, .iload_n 2, 1, 0, 0, 0, .null, .int),
  (170, .newarray .int, 2, 15, 0, 0, .null, .int),
  (172, .putfield 81, 3, 10, 0, 20, .null, (.array .int)),
  (175, .aload_n 0, 1, 0, 0, 0, .null, .int),
  (176, .iload_n 2, 1, 0, 0, 0, .null, .int),
  (177, .newarray .int, 2, 15, 0, 0, .null, .int),
  (179, .putfield 84, 3, 10, 0, 21, .null, (.array .int)),
  (182, .aload_n 0, 1, 0, 0, 0, .null, .int),
  (183, .iload_n 2, 1, 0, 0, 0, .null, .int),
  (184, .newarray .int, 2, 15, 0, 0, .null, .int),
  (186, .putfield 87, 3, 10, 0, 22, .null, (.array .int)),
  (189, .aload_n 0, 1, 0, 0, 0, .null, .int),
  (190, .iload_n 2, 1, 0, 0, 0, .null, .int),
  (191, .newarray .int, 2, 15, 0, 0, .null, .int),
  (193, .putfield 90, 3, 10, 0, 23, .null, (.array .int)),
  (196, .aload_n 0, 1, 0, 0, 0, .null, .int),
  (197, .iload_n 2, 1, 0, 0, 0, .null, .int),
  (198, .newarray .int, 2, 15, 0, 0, .null, .int),
  (200, .putfield 93, 3, 10, 0, 24, .null, (.array .int)),
  (203, .aload_n 0, 1, 0, 0, 0, .null, .int),
  (204, .iload_n 2, 1, 0, 0, 0, .null, .int),
  (205, .newarray .int, 2, 15, 0, 0, .null, .int),
  (207, .putfield 96, 3, 10, 0, 25, .null, (.array .int)),
  (210, .aload_n 0, 1, 0, 0, 0, .null, .int),
  (211, .iload_n 2, 1, 0, 0, 0, .null, .int),
  (212, .newarray .int, 2, 15, 0, 0, .null, .int),
  (214, .putfield 99, 3, 10, 0, 26, .null, (.array .int)),
  (217, .aload_n 0, 1, 0, 0, 0, .null, .int),
  (218, .iload_n 2, 1, 0, 0, 0, .null, .int),
  (219, .newarray .int, 2, 15, 0, 0, .null, .int),
  (221, .putfield 102, 3, 10, 0, 27, .null, (.array .int)),
  (224, .aload_n 0, 1, 0, 0, 0, .null, .int),
  (225, .iload_n 1, 1, 0, 0, 0, .null, .int),
  (226, .newarray .int, 2, 15, 0, 0, .null, .int),
  (228, .putfield 105, 3, 10, 0, 28, .null, (.array .int)),
  (231, .aload_n 0, 1, 0, 0, 0, .null, .int),
  (232, .getfield 105, 3, 2, 0, 28, .null, .int),
  (235, .iconst (-1), 1, 1, 0, 0, .null, .int),
  (236, .invokestatic 33, 3, 40, 4, 0, .null, .int),
  (239, .aload_n 0, 1, 0, 0, 0, .null, .int),
  (240, .iload_n 1, 1, 0, 0, 0, .null, .int),
  (241, .newarray .int, 2, 15, 0, 0, .null, .int),
  (243, .putfield 108, 3, 10, 0, 29, .null, (.array .int)),
  (246, .aload_n 0, 1, 0, 0, 0, .null, .int),
  (247, .iload_n 1, 1, 0, 0, 0, .null, .int),
  (248, .newarray .int, 2, 15, 0, 0, .null, .int),
  (250, .putfield 111, 3, 10, 0, 30, .null, (.array .int)),
  (253, .aload_n 0, 1, 0, 0, 0, .null, .int),
  (254, .iload_n 1, 1, 0, 0, 0, .null, .int),
  (255, .newarray .int, 2, 15, 0, 0, .null, .int),
  (257, .putfield 114, 3, 10, 0, 31, .null, (.array .int)),
  (260, .aload_n 0, 1, 0, 0, 0, .null, .int),
  (261, .getfield 114, 3, 2, 0, 31, .null, .int),
  (264, .iconst (-1), 1, 1, 0, 0, .null, .int),
  (265, .invokestatic 33, 3, 40, 4, 0, .null, .int),
  (268, .aload_n 0, 1, 0, 0, 0, .null, .int),
  (269, .iload_n 1, 1, 0, 0, 0, .null, .int),
  (270, .newarray .int, 2, 15, 0, 0, .null, .int),
  (272, .putfield 117, 3, 10, 0, 32, .null, (.array .int)),
  (275, .aload_n 0, 1, 0, 0, 0, .null, .int),
  (276, .iload_n 1, 1, 0, 0, 0, .null, .int),
  (277, .newarray .int, 2, 15, 0, 0, .null, .int),
  (279, .putfield 120, 3, 10, 0, 33, .null, (.array .int)),
  (282, .aload_n 0, 1, 0, 0, 0, .null, .int),
  (283, .getfield 117, 3, 2, 0, 32, .null, .int),
  (286, .iconst (-1), 1, 1, 0, 0, .null, .int),
  (287, .invokestatic 33, 3, 40, 4, 0, .null, .int),
  (290, .aload_n 0, 1, 0, 0, 0, .null, .int),
  (291, .getfield 120, 3, 2, 0, 33, .null, .int),
  (294, .iconst (-1), 1, 1, 0, 0, .null, .int),
  (295, .invokestatic 33, 3, 40, 4, 0, .null, .int),
  (298, .aload_n 0, 1, 0, 0, 0, .null, .int),
  (299, .iload_n 1, 1, 0, 0, 0, .null, .int),
  (300, .newarray .int, 2, 15, 0, 0, .null, .int),
  (302, .putfield 123, 3, 10, 0, 34, .null, (.array .int)),
  (305, .aload_n 0, 1, 0, 0, 0, .null, .int),
  (306, .iload_n 1, 1, 0, 0, 0, .null, .int),
  (307, .newarray .int, 2, 15, 0, 0, .null, .int),
  (309, .putfield 126, 3, 10, 0, 35, .null, (.array .int)),
  (312, .aload_n 0, 1, 0, 0, 0, .null, .int),
  (313, .iload_n 1, 1, 0, 0, 0, .null, .int),
  (314, .newarray .int, 2, 15, 0, 0, .null, .int),
  (316, .putfield 129, 3, 10, 0, 36, .null, (.array .int)),
  (319, .aload_n 0, 1, 0, 0, 0, .null, .int),
  (320, .iload_n 1, 1, 0, 0, 0, .null, .int),
  (321, .newarray .boolean, 2, 15, 0, 0, .null, .int),
  (323, .putfield 132, 3, 10, 0, 37, .null, (.array .boolean)),
  (326, .aload_n 0, 1, 0, 0, 0, .null, .int),
  (327, .iload_n 1, 1, 0, 0, 0, .null, .int),
  (328, .newarray .int, 2, 15, 0, 0, .null, .int),
  (330, .putfield 135, 3, 10, 0, 38, .null, (.array .int)),
  (333, .return_, 1, 30, 0, 0, .null, .int)]
def own_m1 : Jvm.OwnEv.MRow := ((⟨"com/example/nequiv/nequiv/BlockKeys", "<init>", "(II)V"⟩ : MethodName), prog_6_method_1_code, 3, none, 2, own_r1)
def own_r2 : List Jvm.OwnEv.Row := [(0, .aload_n 0, 1, 0, 0, 0, .null, .int),
  (1, .invokespecial 1, 3, 16, 0, 0, .null, .int),
  (4, .aload_n 0, 1, 0, 0, 0, .null, .int),
  (5, .iconst 4, 1, 1, 0, 0, .null, .int),
  (6, .putfield 7, 3, 10, 1, 0, .null, .int),
  (9, .aload_n 0, 1, 0, 0, 0, .null, .int),
  (10, .iconst 2, 1, 1, 0, 0, .null, .int),
  (11, .aload_n 0, 1, 0, 0, 0, .null, .int),
  (12, .getfield 7, 3, 2, 1, 0, .null, .int),
  (15, .ishl, 1, 3, 0, 0, .null, .int),
  (16, .newarray .long, 2, 15, 0, 0, .null, .int),
  (18, .putfield 13, 3, 10, 1, 1, .null, (.array .long)),
  (21, .aload_n 0, 1, 0, 0, 0, .null, .int),
  (22, .getfield 13, 3, 2, 1, 1, .null, .int),
  (25, .ldc2_w 17, 3, 13, 0, 0, (.long (-1)), .int),
  (28, .invokestatic 19, 3, 40, 3, 0, .null, .int),
  (31, .return_, 1, 30, 0, 0, .null, .int)]
def own_m2 : Jvm.OwnEv.MRow := ((⟨"com/example/nequiv/nequiv/PairTable", "<init>", "()V"⟩ : MethodName), prog_50_method_1_code, 1, none, 0, own_r2)
def own_r3 : List Jvm.OwnEv.Row := [(0, .iconst 0, 1, 1, 0, 0, .null, .int),
  (1, .istore_n 3, 1, 5, 0, 0, .null, .int),
  (2, .aload_n 0, 1, 0, 0, 0, .null, .int),
  (3, .arraylength, 1, 12, 0, 0, .null, .int),
  (4, .istore 4, 2, 5, 0, 0, .null, .int),
  (6, .iload_n 3, 1, 0, 0, 0, .null, .int),
  (7, .iload 4, 2, 0, 0, 0, .null, .int),
  (9, .if_icmp .ge 13, 3, 4, 22, 0, .null, .int),
  (12, .aload_n 0, 1, 0, 0, 0, .null, .int),
  (13, .iload_n 3, 1, 0, 0, 0, .null, .int),
  (14, .lload_n 1, 1, 0, 0, 0, .null, .int),
  (15, .lastore, 1, 11, 0, 0, .null, .int),
  (16, .iinc 3 1, 3, 9, 0, 0, .null, .int),
  (19, .goto (-13), 3, 7, 6, 0, .null, .int),
  (22, .return_, 1, 30, 0, 0, .null, .int)]
def own_m3 : Jvm.OwnEv.MRow := ((⟨"java/util/Arrays", "fill", "([JJ)V"⟩ : MethodName), jdk_65_method_101_code, 5, none, 2, own_r3)
def own_r4 : List Jvm.OwnEv.Row := [(0, .iconst 0, 1, 1, 0, 0, .null, .int),
  (1, .istore_n 2, 1, 5, 0, 0, .null, .int),
  (2, .aload_n 0, 1, 0, 0, 0, .null, .int),
  (3, .arraylength, 1, 12, 0, 0, .null, .int),
  (4, .istore_n 3, 1, 5, 0, 0, .null, .int),
  (5, .iload_n 2, 1, 0, 0, 0, .null, .int),
  (6, .iload_n 3, 1, 0, 0, 0, .null, .int),
  (7, .if_icmp .ge 13, 3, 4, 20, 0, .null, .int),
  (10, .aload_n 0, 1, 0, 0, 0, .null, .int),
  (11, .iload_n 2, 1, 0, 0, 0, .null, .int),
  (12, .iload_n 1, 1, 0, 0, 0, .null, .int),
  (13, .iastore, 1, 11, 0, 0, .null, .int),
  (14, .iinc 2 1, 3, 9, 0, 0, .null, .int),
  (17, .goto (-12), 3, 7, 5, 0, .null, .int),
  (20, .return_, 1, 30, 0, 0, .null, .int)]
def own_m4 : Jvm.OwnEv.MRow := ((⟨"java/util/Arrays", "fill", "([II)V"⟩ : MethodName), jdk_65_method_103_code, 4, none, 2, own_r4)
def own_r5 : List Jvm.OwnEv.Row := [(0, .aload_n 0, 1, 0, 0, 0, .null, .int),
  (1, .iload_n 2, 1, 0, 0, 0, .null, .int),
  (2, .iload 4, 2, 0, 0, 0, .null, .int),
  (4, .invokevirtual 142, 3, 43, 6, 0, .null, .int),
  (7, .istore 5, 2, 5, 0, 0, .null, .int),
  (9, .iload 5, 2, 0, 0, 0, .null, .int),
  (11, .iconst (-1), 1, 1, 0, 0, .null, .int),
  (12, .if_icmp .ne 25, 3, 4, 37, 0, .null, .int),
  (15, .aload_n 0, 1, 0, 0, 0, .null, .int),
  (16, .iload_n 2, 1, 0, 0, 0, .null, .int),
  (17, .iload 4, 2, 0, 0, 0, .null, .int),
  (19, .invokevirtual 146, 3, 43, 7, 0, .null, .int),
  (22, .istore 5, 2, 5, 0, 0, .null, .int),
  (24, .aload_n 0, 1, 0, 0, 0, .null, .int),
  (25, .iload 5, 2, 0, 0, 0, .null, .int),
  (27, .aload_n 0, 1, 0, 0, 0, .null, .int),
  (28, .iload_n 3, 1, 0, 0, 0, .null, .int),
  (29, .iload 4, 2, 0, 0, 0, .null, .int),
  (31, .invokevirtual 149, 3, 43, 8, 0, .null, .int),
  (34, .invokevirtual 152, 3, 43, 19, 0, .null, .int),
  (37, .aload_n 0, 1, 0, 0, 0, .null, .int),
  (38, .getfield 45, 3, 2, 0, 8, .null, .int),
  (41, .iload 5, 2, 0, 0, 0, .null, .int),
  (43, .dup2, 1, 8, 0, 0, .null, .int),
  (44, .iaload, 1, 6, 0, 0, .null, .int),
  (45, .iconst 1, 1, 1, 0, 0, .null, .int),
  (46, .iadd, 1, 3, 0, 0, .null, .int),
  (47, .iastore, 1, 11, 0, 0, .null, .int),
  (48, .aload_n 0, 1, 0, 0, 0, .null, .int),
  (49, .getfield 30, 3, 2, 0, 5, .null, .int),
  (52, .iload_n 1, 1, 0, 0, 0, .null, .int),
  (53, .iload 5, 2, 0, 0, 0, .null, .int),
  (55, .iastore, 1, 11, 0, 0, .null, .int),
  (56, .return_, 1, 30, 0, 0, .null, .int)]
def own_m5 : Jvm.OwnEv.MRow := ((⟨"com/example/nequiv/nequiv/BlockKeys", "count", "(IIII)V"⟩ : MethodName), prog_6_method_4_code, 6, none, 4, own_r5)
def own_r6 : List Jvm.OwnEv.Row := [(0, .aload_n 0, 1, 0, 0, 0, .null, .int),
  (1, .getfield 72, 3, 2, 0, 17, .null, .int),
  (4, .iload_n 1, 1, 0, 0, 0, .null, .int),
  (5, .baload, 1, 6, 0, 0, .null, .int),
  (6, .ifCond .eq 24, 3, 4, 30, 0, .null, .int),
  (9, .aload_n 0, 1, 0, 0, 0, .null, .int),
  (10, .getfield 10, 3, 2, 0, 0, .null, .int),
  (13, .iload_n 1, 1, 0, 0, 0, .null, .int),
  (14, .iload_n 2, 1, 0, 0, 0, .null, .int),
  (18, .istore_n 3, 1, 5, 0, 0, .null, .int),
  (19, .iload_n 3, 1, 0, 0, 0, .null, .int),
  (20, .iconst (-1), 1, 1, 0, 0, .null, .int),
  (21, .if_icmp .ne 7, 3, 4, 28, 0, .null, .int),
  (24, .iconst (-1), 1, 1, 0, 0, .null, .int),
  (25, .goto 4, 3, 7, 29, 0, .null, .int),
  (28, .iload_n 3, 1, 0, 0, 0, .null, .int),
  (29, .ireturn, 1, 31, 0, 0, .null, .int),
  (30, .aload_n 0, 1, 0, 0, 0, .null, .int),
  (31, .getfield 66, 3, 2, 0, 15, .null, .int),
  (34, .iload_n 1, 1, 0, 0, 0, .null, .int),
  (35, .iaload, 1, 6, 0, 0, .null, .int),
  (36, .istore_n 3, 1, 5, 0, 0, .null, .int),
  (37, .iload_n 3, 1, 0, 0, 0, .null, .int),
  (38, .iconst (-1), 1, 1, 0, 0, .null, .int),
  (39, .if_icmp .eq 25, 3, 4, 64, 0, .null, .int),
  (42, .aload_n 0, 1, 0, 0, 0, .null, .int),
  (43, .getfield 42, 3, 2, 0, 7, .null, .int),
  (46, .iload_n 3, 1, 0, 0, 0, .null, .int),
  (47, .iaload, 1, 6, 0, 0, .null, .int),
  (48, .iload_n 2, 1, 0, 0, 0, .null, .int),
  (49, .if_icmp .ne 5, 3, 4, 54, 0, .null, .int),
  (52, .iload_n 3, 1, 0, 0, 0, .null, .int),
  (53, .ireturn, 1, 31, 0, 0, .null, .int),
  (54, .aload_n 0, 1, 0, 0, 0, .null, .int),
  (55, .getfield 60, 3, 2, 0, 13, .null, .int),
  (58, .iload_n 3, 1, 0, 0, 0, .null, .int),
  (59, .iaload, 1, 6, 0, 0, .null, .int),
  (60, .istore_n 3, 1, 5, 0, 0, .null, .int),
  (61, .goto (-24), 3, 7, 37, 0, .null, .int),
  (64, .iconst (-1), 1, 1, 0, 0, .null, .int),
  (65, .ireturn, 1, 31, 0, 0, .null, .int)]
def own_m6 : Jvm.OwnEv.MRow := ((⟨"com/example/nequiv/nequiv/BlockKeys", "counter", "(II)I"⟩ : MethodName), prog_6_method_29_code, 4, (some .int), 2, own_r6)
def own_r7 : List Jvm.OwnEv.Row := [(0, .aload_n 0, 1, 0, 0, 0, .null, .int),
  (1, .getfield 163, 3, 2, 0, 39, .null, .int),
  (4, .ifCond .le 22, 3, 4, 26, 0, .null, .int),
  (7, .aload_n 0, 1, 0, 0, 0, .null, .int),
  (8, .getfield 63, 3, 2, 0, 14, .null, .int),
  (11, .aload_n 0, 1, 0, 0, 0, .null, .int),
  (12, .dup, 1, 8, 0, 0, .null, .int),
  (13, .getfield 163, 3, 2, 0, 39, .null, .int),
  (16, .iconst 1, 1, 1, 0, 0, .null, .int),
  (17, .isub, 1, 3, 0, 0, .null, .int),
  (18, .dup_x1, 1, 8, 0, 0, .null, .int),
  (19, .putfield 163, 3, 10, 0, 39, .null, .int),
  (22, .iaload, 1, 6, 0, 0, .null, .int),
  (23, .goto 14, 3, 7, 37, 0, .null, .int),
  (26, .aload_n 0, 1, 0, 0, 0, .null, .int),
  (27, .dup, 1, 8, 0, 0, .null, .int),
  (28, .getfield 175, 3, 2, 0, 40, .null, .int),
  (31, .dup_x1, 1, 8, 0, 0, .null, .int),
  (32, .iconst 1, 1, 1, 0, 0, .null, .int),
  (33, .iadd, 1, 3, 0, 0, .null, .int),
  (34, .putfield 175, 3, 10, 0, 40, .null, .int),
  (37, .istore_n 3, 1, 5, 0, 0, .null, .int),
  (38, .aload_n 0, 1, 0, 0, 0, .null, .int),
  (39, .getfield 39, 3, 2, 0, 6, .null, .int),
  (42, .iload_n 3, 1, 0, 0, 0, .null, .int),
  (43, .iload_n 1, 1, 0, 0, 0, .null, .int),
  (44, .iastore, 1, 11, 0, 0, .null, .int),
  (45, .aload_n 0, 1, 0, 0, 0, .null, .int),
  (46, .getfield 42, 3, 2, 0, 7, .null, .int),
  (49, .iload_n 3, 1, 0, 0, 0, .null, .int),
  (50, .iload_n 2, 1, 0, 0, 0, .null, .int),
  (51, .iastore, 1, 11, 0, 0, .null, .int),
  (52, .aload_n 0, 1, 0, 0, 0, .null, .int),
  (53, .getfield 45, 3, 2, 0, 8, .null, .int),
  (56, .iload_n 3, 1, 0, 0, 0, .null, .int),
  (57, .iconst 0, 1, 1, 0, 0, .null, .int),
  (58, .iastore, 1, 11, 0, 0, .null, .int),
  (59, .aload_n 0, 1, 0, 0, 0, .null, .int),
  (60, .getfield 57, 3, 2, 0, 12, .null, .int),
  (63, .iload_n 3, 1, 0, 0, 0, .null, .int),
  (64, .iconst (-1), 1, 1, 0, 0, .null, .int),
  (65, .iastore, 1, 11, 0, 0, .null, .int),
  (66, .aload_n 0, 1, 0, 0, 0, .null, .int),
  (67, .getfield 60, 3, 2, 0, 13, .null, .int),
  (70, .iload_n 3, 1, 0, 0, 0, .null, .int),
  (71, .aload_n 0, 1, 0, 0, 0, .null, .int),
  (72, .getfield 66, 3, 2, 0, 15, .null, .int),
  (75, .iload_n 1, 1, 0, 0, 0, .null, .int),
  (76, .iaload, 1, 6, 0, 0, .null, .int),
  (77, .iastore, 1, 11, 0, 0, .null, .int),
  (78, .aload_n 0, 1, 0, 0, 0, .null, .int),
  (79, .getfield 66, 3, 2, 0, 15, .null, .int),
  (82, .iload_n 1, 1, 0, 0, 0, .null, .int),
  (83, .iaload, 1, 6, 0, 0, .null, .int),
  (84, .iconst (-1), 1, 1, 0, 0, .null, .int),
  (85, .if_icmp .eq 15, 3, 4, 100, 0, .null, .int),
  (88, .aload_n 0, 1, 0, 0, 0, .null, .int),
  (89, .getfield 57, 3, 2, 0, 12, .null, .int),
  (92, .aload_n 0, 1, 0, 0, 0, .null, .int),
  (93, .getfield 66, 3, 2, 0, 15, .null, .int),
  (96, .iload_n 1, 1, 0, 0, 0, .null, .int),
  (97, .iaload, 1, 6, 0, 0, .null, .int),
  (98, .iload_n 3, 1, 0, 0, 0, .null, .int),
  (99, .iastore, 1, 11, 0, 0, .null, .int),
  (100, .aload_n 0, 1, 0, 0, 0, .null, .int),
  (101, .getfield 66, 3, 2, 0, 15, .null, .int),
  (104, .iload_n 1, 1, 0, 0, 0, .null, .int),
  (105, .iload_n 3, 1, 0, 0, 0, .null, .int),
  (106, .iastore, 1, 11, 0, 0, .null, .int),
  (107, .aload_n 0, 1, 0, 0, 0, .null, .int),
  (108, .getfield 69, 3, 2, 0, 16, .null, .int),
  (111, .iload_n 1, 1, 0, 0, 0, .null, .int),
  (112, .dup2, 1, 8, 0, 0, .null, .int),
  (113, .iaload, 1, 6, 0, 0, .null, .int),
  (114, .iconst 1, 1, 1, 0, 0, .null, .int),
  (115, .iadd, 1, 3, 0, 0, .null, .int),
  (116, .iastore, 1, 11, 0, 0, .null, .int),
  (117, .aload_n 0, 1, 0, 0, 0, .null, .int),
  (118, .getfield 72, 3, 2, 0, 17, .null, .int),
  (121, .iload_n 1, 1, 0, 0, 0, .null, .int),
  (122, .baload, 1, 6, 0, 0, .null, .int),
  (123, .ifCond .eq 16, 3, 4, 139, 0, .null, .int),
  (126, .aload_n 0, 1, 0, 0, 0, .null, .int),
  (127, .getfield 10, 3, 2, 0, 0, .null, .int),
  (130, .iload_n 1, 1, 0, 0, 0, .null, .int),
  (131, .iload_n 2, 1, 0, 0, 0, .null, .int),
  (132, .iload_n 3, 1, 0, 0, 0, .null, .int),
  (136, .goto 58, 3, 7, 194, 0, .null, .int),
  (139, .aload_n 0, 1, 0, 0, 0, .null, .int),
  (140, .getfield 69, 3, 2, 0, 16, .null, .int),
  (143, .iload_n 1, 1, 0, 0, 0, .null, .int),
  (144, .iaload, 1, 6, 0, 0, .null, .int),
  (145, .iconst 4, 1, 1, 0, 0, .null, .int),
  (146, .if_icmp .le 48, 3, 4, 194, 0, .null, .int),
  (149, .aload_n 0, 1, 0, 0, 0, .null, .int),
  (150, .getfield 72, 3, 2, 0, 17, .null, .int),
  (153, .iload_n 1, 1, 0, 0, 0, .null, .int),
  (154, .iconst 1, 1, 1, 0, 0, .null, .int),
  (155, .bastore, 1, 11, 0, 0, .null, .int),
  (156, .iload_n 3, 1, 0, 0, 0, .null, .int),
  (157, .istore 4, 2, 5, 0, 0, .null, .int),
  (159, .iload 4, 2, 0, 0, 0, .null, .int),
  (161, .iconst (-1), 1, 1, 0, 0, .null, .int),
  (162, .if_icmp .eq 32, 3, 4, 194, 0, .null, .int),
  (165, .aload_n 0, 1, 0, 0, 0, .null, .int),
  (166, .getfield 10, 3, 2, 0, 0, .null, .int),
  (169, .iload_n 1, 1, 0, 0, 0, .null, .int),
  (170, .aload_n 0, 1, 0, 0, 0, .null, .int),
  (171, .getfield 42, 3, 2, 0, 7, .null, .int),
  (174, .iload 4, 2, 0, 0, 0, .null, .int),
  (176, .iaload, 1, 6, 0, 0, .null, .int),
  (177, .iload 4, 2, 0, 0, 0, .null, .int),
  (182, .aload_n 0, 1, 0, 0, 0, .null, .int),
  (183, .getfield 60, 3, 2, 0, 13, .null, .int),
  (186, .iload 4, 2, 0, 0, 0, .null, .int),
  (188, .iaload, 1, 6, 0, 0, .null, .int),
  (189, .istore 4, 2, 5, 0, 0, .null, .int),
  (191, .goto (-32), 3, 7, 159, 0, .null, .int),
  (194, .iload_n 3, 1, 0, 0, 0, .null, .int),
  (195, .ireturn, 1, 31, 0, 0, .null, .int)]
def own_m7 : Jvm.OwnEv.MRow := ((⟨"com/example/nequiv/nequiv/BlockKeys", "newCounter", "(II)I"⟩ : MethodName), prog_6_method_30_code, 5, (some .int), 2, own_r7)
def own_r8 : List Jvm.OwnEv.Row := [(0, .aload_n 0, 1, 0, 0, 0, .null, .int),
  (1, .iload_n 1, 1, 0, 0, 0, .null, .int),
  (2, .iload_n 2, 1, 0, 0, 0, .null, .int),
  (3, .invokevirtual 182, 3, 42, 9, 0, .null, .int),
  (6, .istore_n 3, 1, 5, 0, 0, .null, .int),
  (7, .iload_n 3, 1, 0, 0, 0, .null, .int),
  (8, .iconst (-1), 1, 1, 0, 0, .null, .int),
  (9, .if_icmp .eq 5, 3, 4, 14, 0, .null, .int),
  (12, .iload_n 3, 1, 0, 0, 0, .null, .int),
  (13, .ireturn, 1, 31, 0, 0, .null, .int),
  (14, .aload_n 0, 1, 0, 0, 0, .null, .int),
  (15, .getfield 185, 3, 2, 0, 41, .null, .int),
  (18, .ifCond .le 22, 3, 4, 40, 0, .null, .int),
  (21, .aload_n 0, 1, 0, 0, 0, .null, .int),
  (22, .getfield 96, 3, 2, 0, 25, .null, .int),
  (25, .aload_n 0, 1, 0, 0, 0, .null, .int),
  (26, .dup, 1, 8, 0, 0, .null, .int),
  (27, .getfield 185, 3, 2, 0, 41, .null, .int),
  (30, .iconst 1, 1, 1, 0, 0, .null, .int),
  (31, .isub, 1, 3, 0, 0, .null, .int),
  (32, .dup_x1, 1, 8, 0, 0, .null, .int),
  (33, .putfield 185, 3, 10, 0, 41, .null, .int),
  (36, .iaload, 1, 6, 0, 0, .null, .int),
  (37, .goto 14, 3, 7, 51, 0, .null, .int),
  (40, .aload_n 0, 1, 0, 0, 0, .null, .int),
  (41, .dup, 1, 8, 0, 0, .null, .int),
  (42, .getfield 188, 3, 2, 0, 42, .null, .int),
  (45, .dup_x1, 1, 8, 0, 0, .null, .int),
  (46, .iconst 1, 1, 1, 0, 0, .null, .int),
  (47, .iadd, 1, 3, 0, 0, .null, .int),
  (48, .putfield 188, 3, 10, 0, 42, .null, .int),
  (51, .istore 4, 2, 5, 0, 0, .null, .int),
  (53, .aload_n 0, 1, 0, 0, 0, .null, .int),
  (54, .getfield 75, 3, 2, 0, 18, .null, .int),
  (57, .iload 4, 2, 0, 0, 0, .null, .int),
  (59, .iload_n 1, 1, 0, 0, 0, .null, .int),
  (60, .iastore, 1, 11, 0, 0, .null, .int),
  (61, .aload_n 0, 1, 0, 0, 0, .null, .int),
  (62, .getfield 78, 3, 2, 0, 19, .null, .int),
  (65, .iload 4, 2, 0, 0, 0, .null, .int),
  (67, .iload_n 2, 1, 0, 0, 0, .null, .int),
  (68, .iastore, 1, 11, 0, 0, .null, .int),
  (69, .aload_n 0, 1, 0, 0, 0, .null, .int),
  (70, .getfield 81, 3, 2, 0, 20, .null, .int),
  (73, .iload 4, 2, 0, 0, 0, .null, .int),
  (75, .iconst (-1), 1, 1, 0, 0, .null, .int),
  (76, .iastore, 1, 11, 0, 0, .null, .int),
  (77, .aload_n 0, 1, 0, 0, 0, .null, .int),
  (78, .getfield 84, 3, 2, 0, 21, .null, .int),
  (81, .iload 4, 2, 0, 0, 0, .null, .int),
  (83, .iconst 0, 1, 1, 0, 0, .null, .int),
  (84, .iastore, 1, 11, 0, 0, .null, .int),
  (85, .aload_n 0, 1, 0, 0, 0, .null, .int),
  (86, .getfield 87, 3, 2, 0, 22, .null, .int),
  (89, .iload 4, 2, 0, 0, 0, .null, .int),
  (91, .iconst 0, 1, 1, 0, 0, .null, .int),
  (92, .iastore, 1, 11, 0, 0, .null, .int),
  (93, .aload_n 0, 1, 0, 0, 0, .null, .int),
  (94, .getfield 90, 3, 2, 0, 23, .null, .int),
  (97, .iload 4, 2, 0, 0, 0, .null, .int),
  (99, .iconst (-1), 1, 1, 0, 0, .null, .int),
  (100, .iastore, 1, 11, 0, 0, .null, .int),
  (101, .aload_n 0, 1, 0, 0, 0, .null, .int),
  (102, .getfield 93, 3, 2, 0, 24, .null, .int),
  (105, .iload 4, 2, 0, 0, 0, .null, .int),
  (107, .aload_n 0, 1, 0, 0, 0, .null, .int),
  (108, .getfield 105, 3, 2, 0, 28, .null, .int),
  (111, .iload_n 1, 1, 0, 0, 0, .null, .int),
  (112, .iaload, 1, 6, 0, 0, .null, .int),
  (113, .iastore, 1, 11, 0, 0, .null, .int),
  (114, .aload_n 0, 1, 0, 0, 0, .null, .int),
  (115, .getfield 105, 3, 2, 0, 28, .null, .int),
  (118, .iload_n 1, 1, 0, 0, 0, .null, .int),
  (119, .iaload, 1, 6, 0, 0, .null, .int),
  (120, .iconst (-1), 1, 1, 0, 0, .null, .int),
  (121, .if_icmp .eq 16, 3, 4, 137, 0, .null, .int),
  (124, .aload_n 0, 1, 0, 0, 0, .null, .int),
  (125, .getfield 90, 3, 2, 0, 23, .null, .int),
  (128, .aload_n 0, 1, 0, 0, 0, .null, .int),
  (129, .getfield 105, 3, 2, 0, 28, .null, .int),
  (132, .iload_n 1, 1, 0, 0, 0, .null, .int),
  (133, .iaload, 1, 6, 0, 0, .null, .int),
  (134, .iload 4, 2, 0, 0, 0, .null, .int),
  (136, .iastore, 1, 11, 0, 0, .null, .int),
  (137, .aload_n 0, 1, 0, 0, 0, .null, .int),
  (138, .getfield 105, 3, 2, 0, 28, .null, .int),
  (141, .iload_n 1, 1, 0, 0, 0, .null, .int),
  (142, .iload 4, 2, 0, 0, 0, .null, .int),
  (144, .iastore, 1, 11, 0, 0, .null, .int),
  (145, .aload_n 0, 1, 0, 0, 0, .null, .int),
  (146, .getfield 108, 3, 2, 0, 29, .null, .int),
  (149, .iload_n 1, 1, 0, 0, 0, .null, .int),
  (150, .dup2, 1, 8, 0, 0, .null, .int),
  (151, .iaload, 1, 6, 0, 0, .null, .int),
  (152, .iconst 1, 1, 1, 0, 0, .null, .int),
  (153, .iadd, 1, 3, 0, 0, .null, .int),
  (154, .iastore, 1, 11, 0, 0, .null, .int),
  (155, .aload_n 0, 1, 0, 0, 0, .null, .int),
  (156, .iload_n 2, 1, 0, 0, 0, .null, .int),
  (157, .iconst 1, 1, 1, 0, 0, .null, .int),
  (158, .iadd, 1, 3, 0, 0, .null, .int),
  (159, .invokevirtual 191, 3, 43, 10, 0, .null, .int),
  (162, .aload_n 0, 1, 0, 0, 0, .null, .int),
  (163, .getfield 99, 3, 2, 0, 26, .null, .int),
  (166, .iload 4, 2, 0, 0, 0, .null, .int),
  (168, .iconst (-1), 1, 1, 0, 0, .null, .int),
  (169, .iastore, 1, 11, 0, 0, .null, .int),
  (170, .aload_n 0, 1, 0, 0, 0, .null, .int),
  (171, .getfield 102, 3, 2, 0, 27, .null, .int),
  (174, .iload 4, 2, 0, 0, 0, .null, .int),
  (176, .aload_n 0, 1, 0, 0, 0, .null, .int),
  (177, .getfield 16, 3, 2, 0, 1, .null, .int),
  (180, .iload_n 2, 1, 0, 0, 0, .null, .int),
  (181, .iaload, 1, 6, 0, 0, .null, .int),
  (182, .iastore, 1, 11, 0, 0, .null, .int),
  (183, .aload_n 0, 1, 0, 0, 0, .null, .int),
  (184, .getfield 16, 3, 2, 0, 1, .null, .int),
  (187, .iload_n 2, 1, 0, 0, 0, .null, .int),
  (188, .iaload, 1, 6, 0, 0, .null, .int),
  (189, .iconst (-1), 1, 1, 0, 0, .null, .int),
  (190, .if_icmp .eq 16, 3, 4, 206, 0, .null, .int),
  (193, .aload_n 0, 1, 0, 0, 0, .null, .int),
  (194, .getfield 99, 3, 2, 0, 26, .null, .int),
  (197, .aload_n 0, 1, 0, 0, 0, .null, .int),
  (198, .getfield 16, 3, 2, 0, 1, .null, .int),
  (201, .iload_n 2, 1, 0, 0, 0, .null, .int),
  (202, .iaload, 1, 6, 0, 0, .null, .int),
  (203, .iload 4, 2, 0, 0, 0, .null, .int),
  (205, .iastore, 1, 11, 0, 0, .null, .int),
  (206, .aload_n 0, 1, 0, 0, 0, .null, .int),
  (207, .getfield 16, 3, 2, 0, 1, .null, .int),
  (210, .iload_n 2, 1, 0, 0, 0, .null, .int),
  (211, .iload 4, 2, 0, 0, 0, .null, .int),
  (213, .iastore, 1, 11, 0, 0, .null, .int),
  (214, .aload_n 0, 1, 0, 0, 0, .null, .int),
  (215, .getfield 20, 3, 2, 0, 2, .null, .int),
  (218, .iload_n 2, 1, 0, 0, 0, .null, .int),
  (219, .dup2, 1, 8, 0, 0, .null, .int),
  (220, .iaload, 1, 6, 0, 0, .null, .int),
  (221, .iconst 1, 1, 1, 0, 0, .null, .int),
  (222, .iadd, 1, 3, 0, 0, .null, .int),
  (223, .iastore, 1, 11, 0, 0, .null, .int),
  (224, .aload_n 0, 1, 0, 0, 0, .null, .int),
  (225, .getfield 26, 3, 2, 0, 4, .null, .int),
  (228, .iload_n 2, 1, 0, 0, 0, .null, .int),
  (229, .baload, 1, 6, 0, 0, .null, .int),
  (230, .ifCond .eq 17, 3, 4, 247, 0, .null, .int),
  (233, .aload_n 0, 1, 0, 0, 0, .null, .int),
  (234, .getfield 23, 3, 2, 0, 3, .null, .int),
  (237, .iload_n 1, 1, 0, 0, 0, .null, .int),
  (238, .iload_n 2, 1, 0, 0, 0, .null, .int),
  (239, .iload 4, 2, 0, 0, 0, .null, .int),
  (244, .goto 59, 3, 7, 303, 0, .null, .int),
  (247, .aload_n 0, 1, 0, 0, 0, .null, .int),
  (248, .getfield 20, 3, 2, 0, 2, .null, .int),
  (251, .iload_n 2, 1, 0, 0, 0, .null, .int),
  (252, .iaload, 1, 6, 0, 0, .null, .int),
  (253, .iconst 4, 1, 1, 0, 0, .null, .int),
  (254, .if_icmp .le 49, 3, 4, 303, 0, .null, .int),
  (257, .aload_n 0, 1, 0, 0, 0, .null, .int),
  (258, .getfield 26, 3, 2, 0, 4, .null, .int),
  (261, .iload_n 2, 1, 0, 0, 0, .null, .int),
  (262, .iconst 1, 1, 1, 0, 0, .null, .int),
  (263, .bastore, 1, 11, 0, 0, .null, .int),
  (264, .iload 4, 2, 0, 0, 0, .null, .int),
  (266, .istore 5, 2, 5, 0, 0, .null, .int),
  (268, .iload 5, 2, 0, 0, 0, .null, .int),
  (270, .iconst (-1), 1, 1, 0, 0, .null, .int),
  (271, .if_icmp .eq 32, 3, 4, 303, 0, .null, .int),
  (274, .aload_n 0, 1, 0, 0, 0, .null, .int),
  (275, .getfield 23, 3, 2, 0, 3, .null, .int),
  (278, .aload_n 0, 1, 0, 0, 0, .null, .int),
  (279, .getfield 75, 3, 2, 0, 18, .null, .int),
  (282, .iload 5, 2, 0, 0, 0, .null, .int),
  (284, .iaload, 1, 6, 0, 0, .null, .int),
  (285, .iload_n 2, 1, 0, 0, 0, .null, .int),
  (286, .iload 5, 2, 0, 0, 0, .null, .int),
  (291, .aload_n 0, 1, 0, 0, 0, .null, .int),
  (292, .getfield 102, 3, 2, 0, 27, .null, .int),
  (295, .iload 5, 2, 0, 0, 0, .null, .int),
  (297, .iaload, 1, 6, 0, 0, .null, .int),
  (298, .istore 5, 2, 5, 0, 0, .null, .int),
  (300, .goto (-32), 3, 7, 268, 0, .null, .int),
  (303, .iload 4, 2, 0, 0, 0, .null, .int),
  (305, .ireturn, 1, 31, 0, 0, .null, .int)]
def own_m8 : Jvm.OwnEv.MRow := ((⟨"com/example/nequiv/nequiv/BlockKeys", "slice", "(II)I"⟩ : MethodName), prog_6_method_31_code, 6, (some .int), 2, own_r8)
def own_r9 : List Jvm.OwnEv.Row := [(0, .iload_n 2, 1, 0, 0, 0, .null, .int),
  (1, .aload_n 0, 1, 0, 0, 0, .null, .int),
  (2, .getfield 16, 3, 2, 0, 1, .null, .int),
  (5, .arraylength, 1, 12, 0, 0, .null, .int),
  (6, .if_icmp .lt 5, 3, 4, 11, 0, .null, .int),
  (9, .iconst (-1), 1, 1, 0, 0, .null, .int),
  (10, .ireturn, 1, 31, 0, 0, .null, .int),
  (11, .aload_n 0, 1, 0, 0, 0, .null, .int),
  (12, .getfield 26, 3, 2, 0, 4, .null, .int),
  (15, .iload_n 2, 1, 0, 0, 0, .null, .int),
  (16, .baload, 1, 6, 0, 0, .null, .int),
  (17, .ifCond .eq 24, 3, 4, 41, 0, .null, .int),
  (20, .aload_n 0, 1, 0, 0, 0, .null, .int),
  (21, .getfield 23, 3, 2, 0, 3, .null, .int),
  (24, .iload_n 1, 1, 0, 0, 0, .null, .int),
  (25, .iload_n 2, 1, 0, 0, 0, .null, .int),
  (29, .istore_n 3, 1, 5, 0, 0, .null, .int),
  (30, .iload_n 3, 1, 0, 0, 0, .null, .int),
  (31, .iconst (-1), 1, 1, 0, 0, .null, .int),
  (32, .if_icmp .ne 7, 3, 4, 39, 0, .null, .int),
  (35, .iconst (-1), 1, 1, 0, 0, .null, .int),
  (36, .goto 4, 3, 7, 40, 0, .null, .int),
  (39, .iload_n 3, 1, 0, 0, 0, .null, .int),
  (40, .ireturn, 1, 31, 0, 0, .null, .int),
  (41, .aload_n 0, 1, 0, 0, 0, .null, .int),
  (42, .getfield 16, 3, 2, 0, 1, .null, .int),
  (45, .iload_n 2, 1, 0, 0, 0, .null, .int),
  (46, .iaload, 1, 6, 0, 0, .null, .int),
  (47, .istore_n 3, 1, 5, 0, 0, .null, .int),
  (48, .iload_n 3, 1, 0, 0, 0, .null, .int),
  (49, .iconst (-1), 1, 1, 0, 0, .null, .int),
  (50, .if_icmp .eq 25, 3, 4, 75, 0, .null, .int),
  (53, .aload_n 0, 1, 0, 0, 0, .null, .int),
  (54, .getfield 75, 3, 2, 0, 18, .null, .int),
  (57, .iload_n 3, 1, 0, 0, 0, .null, .int),
  (58, .iaload, 1, 6, 0, 0, .null, .int),
  (59, .iload_n 1, 1, 0, 0, 0, .null, .int),
  (60, .if_icmp .ne 5, 3, 4, 65, 0, .null, .int),
  (63, .iload_n 3, 1, 0, 0, 0, .null, .int),
  (64, .ireturn, 1, 31, 0, 0, .null, .int),
  (65, .aload_n 0, 1, 0, 0, 0, .null, .int),
  (66, .getfield 102, 3, 2, 0, 27, .null, .int),
  (69, .iload_n 3, 1, 0, 0, 0, .null, .int),
  (70, .iaload, 1, 6, 0, 0, .null, .int),
  (71, .istore_n 3, 1, 5, 0, 0, .null, .int),
  (72, .goto (-24), 3, 7, 48, 0, .null, .int),
  (75, .iconst (-1), 1, 1, 0, 0, .null, .int),
  (76, .ireturn, 1, 31, 0, 0, .null, .int)]
def own_m9 : Jvm.OwnEv.MRow := ((⟨"com/example/nequiv/nequiv/BlockKeys", "sliceOf", "(II)I"⟩ : MethodName), prog_6_method_9_code, 4, (some .int), 2, own_r9)
def own_r10 : List Jvm.OwnEv.Row := [(0, .iload_n 1, 1, 0, 0, 0, .null, .int),
  (1, .aload_n 0, 1, 0, 0, 0, .null, .int),
  (2, .getfield 16, 3, 2, 0, 1, .null, .int),
  (5, .arraylength, 1, 12, 0, 0, .null, .int),
  (6, .if_icmp .le 61, 3, 4, 67, 0, .null, .int),
  (9, .aload_n 0, 1, 0, 0, 0, .null, .int),
  (10, .getfield 16, 3, 2, 0, 1, .null, .int),
  (13, .arraylength, 1, 12, 0, 0, .null, .int),
  (14, .istore_n 2, 1, 5, 0, 0, .null, .int),
  (15, .iload_n 2, 1, 0, 0, 0, .null, .int),
  (16, .iload_n 1, 1, 0, 0, 0, .null, .int),
  (17, .invokestatic 194, 3, 40, 11, 0, .null, .int),
  (20, .istore_n 3, 1, 5, 0, 0, .null, .int),
  (21, .aload_n 0, 1, 0, 0, 0, .null, .int),
  (22, .aload_n 0, 1, 0, 0, 0, .null, .int),
  (23, .getfield 16, 3, 2, 0, 1, .null, .int),
  (26, .iload_n 3, 1, 0, 0, 0, .null, .int),
  (27, .invokestatic 199, 3, 40, 14, 0, .null, .int),
  (30, .putfield 16, 3, 10, 0, 1, .null, (.array .int)),
  (33, .aload_n 0, 1, 0, 0, 0, .null, .int),
  (34, .getfield 16, 3, 2, 0, 1, .null, .int),
  (37, .iload_n 2, 1, 0, 0, 0, .null, .int),
  (38, .iload_n 3, 1, 0, 0, 0, .null, .int),
  (39, .iconst (-1), 1, 1, 0, 0, .null, .int),
  (40, .invokestatic 203, 3, 40, 16, 0, .null, .int),
  (43, .aload_n 0, 1, 0, 0, 0, .null, .int),
  (44, .aload_n 0, 1, 0, 0, 0, .null, .int),
  (45, .getfield 20, 3, 2, 0, 2, .null, .int),
  (48, .iload_n 3, 1, 0, 0, 0, .null, .int),
  (49, .invokestatic 199, 3, 40, 14, 0, .null, .int),
  (52, .putfield 20, 3, 10, 0, 2, .null, (.array .int)),
  (55, .aload_n 0, 1, 0, 0, 0, .null, .int),
  (56, .aload_n 0, 1, 0, 0, 0, .null, .int),
  (57, .getfield 26, 3, 2, 0, 4, .null, .int),
  (60, .iload_n 3, 1, 0, 0, 0, .null, .int),
  (61, .invokestatic 206, 3, 40, 18, 0, .null, .int),
  (64, .putfield 26, 3, 10, 0, 4, .null, (.array .boolean)),
  (67, .return_, 1, 30, 0, 0, .null, .int)]
def own_m10 : Jvm.OwnEv.MRow := ((⟨"com/example/nequiv/nequiv/BlockKeys", "growKeys", "(I)V"⟩ : MethodName), prog_6_method_32_code, 4, none, 1, own_r10)
def own_r11 : List Jvm.OwnEv.Row := [(0, .iload_n 1, 1, 0, 0, 0, .null, .int),
  (1, .ldc 11, 2, 13, 0, 0, (.int 2147483639), .int),
  (3, .if_icmp .le 13, 3, 4, 16, 0, .null, .int),
  (9, .dup, 1, 8, 0, 0, .null, .int),
  (16, .ldc2_w 19, 3, 13, 0, 0, (.long 2), .int),
  (19, .iload_n 0, 1, 0, 0, 0, .null, .int),
  (20, .i2l, 1, 3, 0, 0, .null, .int),
  (21, .lmul, 1, 3, 0, 0, .null, .int),
  (22, .iload_n 1, 1, 0, 0, 0, .null, .int),
  (23, .i2l, 1, 3, 0, 0, .null, .int),
  (24, .invokestatic 21, 3, 40, 12, 0, .null, .int),
  (27, .ldc2_w 27, 3, 13, 0, 0, (.long 2147483639), .int),
  (30, .invokestatic 29, 3, 40, 13, 0, .null, .int),
  (33, .l2i, 1, 3, 0, 0, .null, .int),
  (34, .ireturn, 1, 31, 0, 0, .null, .int)]
def own_m11 : Jvm.OwnEv.MRow := ((⟨"com/example/nequiv/nequiv/Capacity", "grown", "(II)I"⟩ : MethodName), prog_13_method_2_code, 2, (some .int), 2, own_r11)
def own_r12 : List Jvm.OwnEv.Row := [(0, .lload_n 0, 1, 0, 0, 0, .null, .int),
  (1, .lload_n 2, 1, 0, 0, 0, .null, .int),
  (2, .lcmp, 1, 3, 0, 0, .null, .int),
  (3, .ifCond .lt 7, 3, 4, 10, 0, .null, .int),
  (6, .lload_n 0, 1, 0, 0, 0, .null, .int),
  (7, .goto 4, 3, 7, 11, 0, .null, .int),
  (10, .lload_n 2, 1, 0, 0, 0, .null, .int),
  (11, .lreturn, 1, 33, 0, 0, .null, .int)]
def own_m12 : Jvm.OwnEv.MRow := ((⟨"java/lang/Math", "max", "(JJ)J"⟩ : MethodName), jdk_29_method_66_code, 4, (some .long), 2, own_r12)
def own_r13 : List Jvm.OwnEv.Row := [(0, .lload_n 0, 1, 0, 0, 0, .null, .int),
  (1, .lload_n 2, 1, 0, 0, 0, .null, .int),
  (2, .lcmp, 1, 3, 0, 0, .null, .int),
  (3, .ifCond .gt 7, 3, 4, 10, 0, .null, .int),
  (6, .lload_n 0, 1, 0, 0, 0, .null, .int),
  (7, .goto 4, 3, 7, 11, 0, .null, .int),
  (10, .lload_n 2, 1, 0, 0, 0, .null, .int),
  (11, .lreturn, 1, 33, 0, 0, .null, .int)]
def own_m13 : Jvm.OwnEv.MRow := ((⟨"java/lang/Math", "min", "(JJ)J"⟩ : MethodName), jdk_29_method_70_code, 4, (some .long), 2, own_r13)
def own_r14 : List Jvm.OwnEv.Row := [(0, .iload_n 1, 1, 0, 0, 0, .null, .int),
  (1, .aload_n 0, 1, 0, 0, 0, .null, .int),
  (2, .arraylength, 1, 12, 0, 0, .null, .int),
  (3, .if_icmp .ne 11, 3, 4, 14, 0, .null, .int),
  (6, .aload_n 0, 1, 0, 0, 0, .null, .int),
  (13, .areturn, 1, 34, 0, 0, .null, .int),
  (14, .iload_n 1, 1, 0, 0, 0, .null, .int),
  (15, .newarray .int, 2, 15, 0, 0, .null, .int),
  (17, .astore_n 2, 1, 5, 0, 0, .null, .int),
  (18, .aload_n 0, 1, 0, 0, 0, .null, .int),
  (19, .iconst 0, 1, 1, 0, 0, .null, .int),
  (20, .aload_n 2, 1, 0, 0, 0, .null, .int),
  (21, .iconst 0, 1, 1, 0, 0, .null, .int),
  (22, .aload_n 0, 1, 0, 0, 0, .null, .int),
  (23, .arraylength, 1, 12, 0, 0, .null, .int),
  (24, .iload_n 1, 1, 0, 0, 0, .null, .int),
  (25, .invokestatic 304, 3, 40, 15, 0, .null, .int),
  (28, .invokestatic 150, 3, 19, 0, 0, .null, .int),
  (31, .aload_n 2, 1, 0, 0, 0, .null, .int),
  (32, .areturn, 1, 34, 0, 0, .null, .int)]
def own_m14 : Jvm.OwnEv.MRow := ((⟨"java/util/Arrays", "copyOf", "([II)[I"⟩ : MethodName), jdk_65_method_123_code, 3, (some (.array .int)), 2, own_r14)
def own_r15 : List Jvm.OwnEv.Row := [(0, .iload_n 0, 1, 0, 0, 0, .null, .int),
  (1, .iload_n 1, 1, 0, 0, 0, .null, .int),
  (2, .if_icmp .gt 7, 3, 4, 9, 0, .null, .int),
  (5, .iload_n 0, 1, 0, 0, 0, .null, .int),
  (6, .goto 4, 3, 7, 10, 0, .null, .int),
  (9, .iload_n 1, 1, 0, 0, 0, .null, .int),
  (10, .ireturn, 1, 31, 0, 0, .null, .int)]
def own_m15 : Jvm.OwnEv.MRow := ((⟨"java/lang/Math", "min", "(II)I"⟩ : MethodName), jdk_29_method_69_code, 2, (some .int), 2, own_r15)
def own_r16 : List Jvm.OwnEv.Row := [(0, .aload_n 0, 1, 0, 0, 0, .null, .int),
  (1, .arraylength, 1, 12, 0, 0, .null, .int),
  (2, .iload_n 1, 1, 0, 0, 0, .null, .int),
  (3, .iload_n 2, 1, 0, 0, 0, .null, .int),
  (4, .invokestatic 13, 3, 40, 17, 0, .null, .int),
  (7, .iload_n 1, 1, 0, 0, 0, .null, .int),
  (8, .istore 4, 2, 5, 0, 0, .null, .int),
  (10, .iload 4, 2, 0, 0, 0, .null, .int),
  (12, .iload_n 2, 1, 0, 0, 0, .null, .int),
  (13, .if_icmp .ge 14, 3, 4, 27, 0, .null, .int),
  (16, .aload_n 0, 1, 0, 0, 0, .null, .int),
  (17, .iload 4, 2, 0, 0, 0, .null, .int),
  (19, .iload_n 3, 1, 0, 0, 0, .null, .int),
  (20, .iastore, 1, 11, 0, 0, .null, .int),
  (21, .iinc 4 1, 3, 9, 0, 0, .null, .int),
  (24, .goto (-14), 3, 7, 10, 0, .null, .int),
  (27, .return_, 1, 30, 0, 0, .null, .int)]
def own_m16 : Jvm.OwnEv.MRow := ((⟨"java/util/Arrays", "fill", "([IIII)V"⟩ : MethodName), jdk_65_method_104_code, 5, none, 4, own_r16)
def own_r17 : List Jvm.OwnEv.Row := [(0, .iload_n 1, 1, 0, 0, 0, .null, .int),
  (1, .iload_n 2, 1, 0, 0, 0, .null, .int),
  (2, .if_icmp .le 44, 3, 4, 46, 0, .null, .int),
  (8, .dup, 1, 8, 0, 0, .null, .int),
  (12, .dup, 1, 8, 0, 0, .null, .int),
  (21, .iload_n 1, 1, 0, 0, 0, .null, .int),
  (30, .iload_n 2, 1, 0, 0, 0, .null, .int),
  (46, .iload_n 1, 1, 0, 0, 0, .null, .int),
  (47, .ifCond .ge 12, 3, 4, 59, 0, .null, .int),
  (53, .dup, 1, 8, 0, 0, .null, .int),
  (54, .iload_n 1, 1, 0, 0, 0, .null, .int),
  (59, .iload_n 2, 1, 0, 0, 0, .null, .int),
  (60, .iload_n 0, 1, 0, 0, 0, .null, .int),
  (61, .if_icmp .le 12, 3, 4, 73, 0, .null, .int),
  (67, .dup, 1, 8, 0, 0, .null, .int),
  (68, .iload_n 2, 1, 0, 0, 0, .null, .int),
  (73, .return_, 1, 30, 0, 0, .null, .int)]
def own_m17 : Jvm.OwnEv.MRow := ((⟨"java/util/Arrays", "rangeCheck", "(III)V"⟩ : MethodName), jdk_65_method_30_code, 3, none, 3, own_r17)
def own_r18 : List Jvm.OwnEv.Row := [(0, .iload_n 1, 1, 0, 0, 0, .null, .int),
  (1, .aload_n 0, 1, 0, 0, 0, .null, .int),
  (2, .arraylength, 1, 12, 0, 0, .null, .int),
  (3, .if_icmp .ne 11, 3, 4, 14, 0, .null, .int),
  (6, .aload_n 0, 1, 0, 0, 0, .null, .int),
  (13, .areturn, 1, 34, 0, 0, .null, .int),
  (14, .iload_n 1, 1, 0, 0, 0, .null, .int),
  (15, .newarray .boolean, 2, 15, 0, 0, .null, .int),
  (17, .astore_n 2, 1, 5, 0, 0, .null, .int),
  (18, .aload_n 0, 1, 0, 0, 0, .null, .int),
  (19, .iconst 0, 1, 1, 0, 0, .null, .int),
  (20, .aload_n 2, 1, 0, 0, 0, .null, .int),
  (21, .iconst 0, 1, 1, 0, 0, .null, .int),
  (22, .aload_n 0, 1, 0, 0, 0, .null, .int),
  (23, .arraylength, 1, 12, 0, 0, .null, .int),
  (24, .iload_n 1, 1, 0, 0, 0, .null, .int),
  (25, .invokestatic 304, 3, 40, 15, 0, .null, .int),
  (28, .invokestatic 150, 3, 19, 0, 0, .null, .int),
  (31, .aload_n 2, 1, 0, 0, 0, .null, .int),
  (32, .areturn, 1, 34, 0, 0, .null, .int)]
def own_m18 : Jvm.OwnEv.MRow := ((⟨"java/util/Arrays", "copyOf", "([ZI)[Z"⟩ : MethodName), jdk_65_method_128_code, 3, (some (.array .boolean)), 2, own_r18)
def own_r19 : List Jvm.OwnEv.Row := [(0, .aload_n 0, 1, 0, 0, 0, .null, .int),
  (1, .getfield 48, 3, 2, 0, 9, .null, .int),
  (4, .iload_n 1, 1, 0, 0, 0, .null, .int),
  (5, .iload_n 2, 1, 0, 0, 0, .null, .int),
  (6, .iastore, 1, 11, 0, 0, .null, .int),
  (7, .aload_n 0, 1, 0, 0, 0, .null, .int),
  (8, .getfield 51, 3, 2, 0, 10, .null, .int),
  (11, .iload_n 1, 1, 0, 0, 0, .null, .int),
  (12, .iconst (-1), 1, 1, 0, 0, .null, .int),
  (13, .iastore, 1, 11, 0, 0, .null, .int),
  (14, .aload_n 0, 1, 0, 0, 0, .null, .int),
  (15, .getfield 54, 3, 2, 0, 11, .null, .int),
  (18, .iload_n 1, 1, 0, 0, 0, .null, .int),
  (19, .aload_n 0, 1, 0, 0, 0, .null, .int),
  (20, .getfield 81, 3, 2, 0, 20, .null, .int),
  (23, .iload_n 2, 1, 0, 0, 0, .null, .int),
  (24, .iaload, 1, 6, 0, 0, .null, .int),
  (25, .iastore, 1, 11, 0, 0, .null, .int),
  (26, .aload_n 0, 1, 0, 0, 0, .null, .int),
  (27, .getfield 81, 3, 2, 0, 20, .null, .int),
  (30, .iload_n 2, 1, 0, 0, 0, .null, .int),
  (31, .iaload, 1, 6, 0, 0, .null, .int),
  (32, .iconst (-1), 1, 1, 0, 0, .null, .int),
  (33, .if_icmp .eq 15, 3, 4, 48, 0, .null, .int),
  (36, .aload_n 0, 1, 0, 0, 0, .null, .int),
  (37, .getfield 51, 3, 2, 0, 10, .null, .int),
  (40, .aload_n 0, 1, 0, 0, 0, .null, .int),
  (41, .getfield 81, 3, 2, 0, 20, .null, .int),
  (44, .iload_n 2, 1, 0, 0, 0, .null, .int),
  (45, .iaload, 1, 6, 0, 0, .null, .int),
  (46, .iload_n 1, 1, 0, 0, 0, .null, .int),
  (47, .iastore, 1, 11, 0, 0, .null, .int),
  (48, .aload_n 0, 1, 0, 0, 0, .null, .int),
  (49, .getfield 81, 3, 2, 0, 20, .null, .int),
  (52, .iload_n 2, 1, 0, 0, 0, .null, .int),
  (53, .iload_n 1, 1, 0, 0, 0, .null, .int),
  (54, .iastore, 1, 11, 0, 0, .null, .int),
  (55, .aload_n 0, 1, 0, 0, 0, .null, .int),
  (56, .getfield 84, 3, 2, 0, 21, .null, .int),
  (59, .iload_n 2, 1, 0, 0, 0, .null, .int),
  (60, .dup2, 1, 8, 0, 0, .null, .int),
  (61, .iaload, 1, 6, 0, 0, .null, .int),
  (62, .iconst 1, 1, 1, 0, 0, .null, .int),
  (63, .iadd, 1, 3, 0, 0, .null, .int),
  (64, .iastore, 1, 11, 0, 0, .null, .int),
  (65, .aload_n 0, 1, 0, 0, 0, .null, .int),
  (66, .getfield 132, 3, 2, 0, 37, .null, .int),
  (69, .aload_n 0, 1, 0, 0, 0, .null, .int),
  (70, .getfield 39, 3, 2, 0, 6, .null, .int),
  (73, .iload_n 1, 1, 0, 0, 0, .null, .int),
  (74, .iaload, 1, 6, 0, 0, .null, .int),
  (75, .baload, 1, 6, 0, 0, .null, .int),
  (76, .ifCond .eq 28, 3, 4, 104, 0, .null, .int),
  (79, .aload_n 0, 1, 0, 0, 0, .null, .int),
  (80, .getfield 87, 3, 2, 0, 22, .null, .int),
  (83, .iload_n 2, 1, 0, 0, 0, .null, .int),
  (84, .dup2, 1, 8, 0, 0, .null, .int),
  (85, .iaload, 1, 6, 0, 0, .null, .int),
  (86, .iconst 1, 1, 1, 0, 0, .null, .int),
  (87, .iadd, 1, 3, 0, 0, .null, .int),
  (88, .iastore, 1, 11, 0, 0, .null, .int),
  (89, .aload_n 0, 1, 0, 0, 0, .null, .int),
  (90, .getfield 111, 3, 2, 0, 30, .null, .int),
  (93, .aload_n 0, 1, 0, 0, 0, .null, .int),
  (94, .getfield 75, 3, 2, 0, 18, .null, .int),
  (97, .iload_n 2, 1, 0, 0, 0, .null, .int),
  (98, .iaload, 1, 6, 0, 0, .null, .int),
  (99, .dup2, 1, 8, 0, 0, .null, .int),
  (100, .iaload, 1, 6, 0, 0, .null, .int),
  (101, .iconst 1, 1, 1, 0, 0, .null, .int),
  (102, .iadd, 1, 3, 0, 0, .null, .int),
  (103, .iastore, 1, 11, 0, 0, .null, .int),
  (104, .return_, 1, 30, 0, 0, .null, .int)]
def own_m19 : Jvm.OwnEv.MRow := ((⟨"com/example/nequiv/nequiv/BlockKeys", "link", "(II)V"⟩ : MethodName), prog_6_method_33_code, 3, none, 2, own_r19)
def own_r20 : List Jvm.OwnEv.Row := [(0, .aload_n 0, 1, 0, 0, 0, .null, .int),
  (1, .getfield 132, 3, 2, 0, 37, .null, .int),
  (4, .iload_n 1, 1, 0, 0, 0, .null, .int),
  (5, .iconst 1, 1, 1, 0, 0, .null, .int),
  (6, .bastore, 1, 11, 0, 0, .null, .int),
  (7, .aload_n 0, 1, 0, 0, 0, .null, .int),
  (8, .getfield 135, 3, 2, 0, 38, .null, .int),
  (11, .iload_n 1, 1, 0, 0, 0, .null, .int),
  (12, .aload_n 0, 1, 0, 0, 0, .null, .int),
  (13, .getfield 138, 3, 2, 0, 43, .null, .int),
  (16, .iastore, 1, 11, 0, 0, .null, .int),
  (17, .aload_n 0, 1, 0, 0, 0, .null, .int),
  (18, .iload_n 1, 1, 0, 0, 0, .null, .int),
  (19, .iload_n 2, 1, 0, 0, 0, .null, .int),
  (20, .invokevirtual 169, 3, 43, 21, 0, .null, .int),
  (23, .aload_n 0, 1, 0, 0, 0, .null, .int),
  (24, .getfield 66, 3, 2, 0, 15, .null, .int),
  (27, .iload_n 1, 1, 0, 0, 0, .null, .int),
  (28, .iaload, 1, 6, 0, 0, .null, .int),
  (29, .istore_n 3, 1, 5, 0, 0, .null, .int),
  (30, .iload_n 3, 1, 0, 0, 0, .null, .int),
  (31, .iconst (-1), 1, 1, 0, 0, .null, .int),
  (32, .if_icmp .eq 28, 3, 4, 60, 0, .null, .int),
  (35, .aload_n 0, 1, 0, 0, 0, .null, .int),
  (36, .getfield 87, 3, 2, 0, 22, .null, .int),
  (39, .aload_n 0, 1, 0, 0, 0, .null, .int),
  (40, .getfield 48, 3, 2, 0, 9, .null, .int),
  (43, .iload_n 3, 1, 0, 0, 0, .null, .int),
  (44, .iaload, 1, 6, 0, 0, .null, .int),
  (45, .dup2, 1, 8, 0, 0, .null, .int),
  (46, .iaload, 1, 6, 0, 0, .null, .int),
  (47, .iconst 1, 1, 1, 0, 0, .null, .int),
  (48, .iadd, 1, 3, 0, 0, .null, .int),
  (49, .iastore, 1, 11, 0, 0, .null, .int),
  (50, .aload_n 0, 1, 0, 0, 0, .null, .int),
  (51, .getfield 60, 3, 2, 0, 13, .null, .int),
  (54, .iload_n 3, 1, 0, 0, 0, .null, .int),
  (55, .iaload, 1, 6, 0, 0, .null, .int),
  (56, .istore_n 3, 1, 5, 0, 0, .null, .int),
  (57, .goto (-27), 3, 7, 30, 0, .null, .int),
  (60, .aload_n 0, 1, 0, 0, 0, .null, .int),
  (61, .getfield 111, 3, 2, 0, 30, .null, .int),
  (64, .iload_n 2, 1, 0, 0, 0, .null, .int),
  (65, .dup2, 1, 8, 0, 0, .null, .int),
  (66, .iaload, 1, 6, 0, 0, .null, .int),
  (67, .aload_n 0, 1, 0, 0, 0, .null, .int),
  (68, .getfield 69, 3, 2, 0, 16, .null, .int),
  (71, .iload_n 1, 1, 0, 0, 0, .null, .int),
  (72, .iaload, 1, 6, 0, 0, .null, .int),
  (73, .iadd, 1, 3, 0, 0, .null, .int),
  (74, .iastore, 1, 11, 0, 0, .null, .int),
  (75, .return_, 1, 30, 0, 0, .null, .int)]
def own_m20 : Jvm.OwnEv.MRow := ((⟨"com/example/nequiv/nequiv/BlockKeys", "makeBottom", "(II)V"⟩ : MethodName), prog_6_method_24_code, 4, none, 2, own_r20)
def own_r21 : List Jvm.OwnEv.Row := [(0, .aload_n 0, 1, 0, 0, 0, .null, .int),
  (1, .getfield 135, 3, 2, 0, 38, .null, .int),
  (4, .iload_n 1, 1, 0, 0, 0, .null, .int),
  (5, .iaload, 1, 6, 0, 0, .null, .int),
  (6, .aload_n 0, 1, 0, 0, 0, .null, .int),
  (7, .getfield 138, 3, 2, 0, 43, .null, .int),
  (10, .if_icmp .eq 13, 3, 4, 23, 0, .null, .int),
  (13, .aload_n 0, 1, 0, 0, 0, .null, .int),
  (14, .getfield 117, 3, 2, 0, 32, .null, .int),
  (17, .iload_n 2, 1, 0, 0, 0, .null, .int),
  (18, .iaload, 1, 6, 0, 0, .null, .int),
  (19, .iconst (-1), 1, 1, 0, 0, .null, .int),
  (20, .if_icmp .ne 64, 3, 4, 84, 0, .null, .int),
  (23, .aload_n 0, 1, 0, 0, 0, .null, .int),
  (24, .getfield 126, 3, 2, 0, 35, .null, .int),
  (27, .iload_n 1, 1, 0, 0, 0, .null, .int),
  (28, .iconst (-1), 1, 1, 0, 0, .null, .int),
  (29, .iastore, 1, 11, 0, 0, .null, .int),
  (30, .aload_n 0, 1, 0, 0, 0, .null, .int),
  (31, .getfield 129, 3, 2, 0, 36, .null, .int),
  (34, .iload_n 1, 1, 0, 0, 0, .null, .int),
  (35, .aload_n 0, 1, 0, 0, 0, .null, .int),
  (36, .getfield 117, 3, 2, 0, 32, .null, .int),
  (39, .iload_n 2, 1, 0, 0, 0, .null, .int),
  (40, .iaload, 1, 6, 0, 0, .null, .int),
  (41, .iastore, 1, 11, 0, 0, .null, .int),
  (42, .aload_n 0, 1, 0, 0, 0, .null, .int),
  (43, .getfield 117, 3, 2, 0, 32, .null, .int),
  (46, .iload_n 2, 1, 0, 0, 0, .null, .int),
  (47, .iaload, 1, 6, 0, 0, .null, .int),
  (48, .iconst (-1), 1, 1, 0, 0, .null, .int),
  (49, .if_icmp .ne 13, 3, 4, 62, 0, .null, .int),
  (52, .aload_n 0, 1, 0, 0, 0, .null, .int),
  (53, .getfield 120, 3, 2, 0, 33, .null, .int),
  (56, .iload_n 2, 1, 0, 0, 0, .null, .int),
  (57, .iload_n 1, 1, 0, 0, 0, .null, .int),
  (58, .iastore, 1, 11, 0, 0, .null, .int),
  (59, .goto 15, 3, 7, 74, 0, .null, .int),
  (62, .aload_n 0, 1, 0, 0, 0, .null, .int),
  (63, .getfield 126, 3, 2, 0, 35, .null, .int),
  (66, .aload_n 0, 1, 0, 0, 0, .null, .int),
  (67, .getfield 117, 3, 2, 0, 32, .null, .int),
  (70, .iload_n 2, 1, 0, 0, 0, .null, .int),
  (71, .iaload, 1, 6, 0, 0, .null, .int),
  (72, .iload_n 1, 1, 0, 0, 0, .null, .int),
  (73, .iastore, 1, 11, 0, 0, .null, .int),
  (74, .aload_n 0, 1, 0, 0, 0, .null, .int),
  (75, .getfield 117, 3, 2, 0, 32, .null, .int),
  (78, .iload_n 2, 1, 0, 0, 0, .null, .int),
  (79, .iload_n 1, 1, 0, 0, 0, .null, .int),
  (80, .iastore, 1, 11, 0, 0, .null, .int),
  (81, .goto 41, 3, 7, 122, 0, .null, .int),
  (84, .aload_n 0, 1, 0, 0, 0, .null, .int),
  (85, .getfield 129, 3, 2, 0, 36, .null, .int),
  (88, .iload_n 1, 1, 0, 0, 0, .null, .int),
  (89, .iconst (-1), 1, 1, 0, 0, .null, .int),
  (90, .iastore, 1, 11, 0, 0, .null, .int),
  (91, .aload_n 0, 1, 0, 0, 0, .null, .int),
  (92, .getfield 126, 3, 2, 0, 35, .null, .int),
  (95, .iload_n 1, 1, 0, 0, 0, .null, .int),
  (96, .aload_n 0, 1, 0, 0, 0, .null, .int),
  (97, .getfield 120, 3, 2, 0, 33, .null, .int),
  (100, .iload_n 2, 1, 0, 0, 0, .null, .int),
  (101, .iaload, 1, 6, 0, 0, .null, .int),
  (102, .iastore, 1, 11, 0, 0, .null, .int),
  (103, .aload_n 0, 1, 0, 0, 0, .null, .int),
  (104, .getfield 129, 3, 2, 0, 36, .null, .int),
  (107, .aload_n 0, 1, 0, 0, 0, .null, .int),
  (108, .getfield 120, 3, 2, 0, 33, .null, .int),
  (111, .iload_n 2, 1, 0, 0, 0, .null, .int),
  (112, .iaload, 1, 6, 0, 0, .null, .int),
  (113, .iload_n 1, 1, 0, 0, 0, .null, .int),
  (114, .iastore, 1, 11, 0, 0, .null, .int),
  (115, .aload_n 0, 1, 0, 0, 0, .null, .int),
  (116, .getfield 120, 3, 2, 0, 33, .null, .int),
  (119, .iload_n 2, 1, 0, 0, 0, .null, .int),
  (120, .iload_n 1, 1, 0, 0, 0, .null, .int),
  (121, .iastore, 1, 11, 0, 0, .null, .int),
  (122, .aload_n 0, 1, 0, 0, 0, .null, .int),
  (123, .getfield 123, 3, 2, 0, 34, .null, .int),
  (126, .iload_n 2, 1, 0, 0, 0, .null, .int),
  (127, .dup2, 1, 8, 0, 0, .null, .int),
  (128, .iaload, 1, 6, 0, 0, .null, .int),
  (129, .iconst 1, 1, 1, 0, 0, .null, .int),
  (130, .iadd, 1, 3, 0, 0, .null, .int),
  (131, .iastore, 1, 11, 0, 0, .null, .int),
  (132, .return_, 1, 30, 0, 0, .null, .int)]
def own_m21 : Jvm.OwnEv.MRow := ((⟨"com/example/nequiv/nequiv/BlockKeys", "addBottom", "(II)V"⟩ : MethodName), prog_6_method_27_code, 3, none, 2, own_r21)
def own_r22 : List Jvm.OwnEv.Row := [(0, .aload_n 0, 1, 0, 0, 0, .null, .int),
  (1, .getfield 123, 3, 2, 0, 34, .null, .int),
  (4, .iload_n 1, 1, 0, 0, 0, .null, .int),
  (5, .iaload, 1, 6, 0, 0, .null, .int),
  (6, .i2l, 1, 3, 0, 0, .null, .int),
  (7, .aload_n 0, 1, 0, 0, 0, .null, .int),
  (8, .getfield 108, 3, 2, 0, 29, .null, .int),
  (11, .iload_n 1, 1, 0, 0, 0, .null, .int),
  (12, .iaload, 1, 6, 0, 0, .null, .int),
  (13, .i2l, 1, 3, 0, 0, .null, .int),
  (14, .lmul, 1, 3, 0, 0, .null, .int),
  (15, .aload_n 0, 1, 0, 0, 0, .null, .int),
  (16, .getfield 111, 3, 2, 0, 30, .null, .int),
  (19, .iload_n 1, 1, 0, 0, 0, .null, .int),
  (20, .iaload, 1, 6, 0, 0, .null, .int),
  (21, .i2l, 1, 3, 0, 0, .null, .int),
  (22, .lcmp, 1, 3, 0, 0, .null, .int),
  (23, .ifCond .ne 7, 3, 4, 30, 0, .null, .int),
  (26, .iconst 1, 1, 1, 0, 0, .null, .int),
  (27, .goto 4, 3, 7, 31, 0, .null, .int),
  (30, .iconst 0, 1, 1, 0, 0, .null, .int),
  (31, .ireturn, 1, 32, 0, 0, .null, .int)]
def own_m22 : Jvm.OwnEv.MRow := ((⟨"com/example/nequiv/nequiv/BlockKeys", "stable", "(I)Z"⟩ : MethodName), prog_6_method_15_code, 2, (some .boolean), 1, own_r22)
def own_MT : List Jvm.OwnEv.MRow := [own_m0, own_m1, own_m2, own_m3, own_m4, own_m5, own_m6, own_m7, own_m8, own_m9, own_m10, own_m11, own_m12, own_m13, own_m14, own_m15, own_m16, own_m17, own_m18, own_m19, own_m20, own_m21, own_m22]
theorem own_d0 : own_r0.all (fun r => decide (decode code r.1 = .ok (r.2.1, r.2.2.1))) = true := by decide +kernel
theorem own_pn0 : plainFor own_m0.1 = true := by decide +kernel
theorem own_d1 : own_r1.all (fun r => decide (decode prog_6_method_1_code r.1 = .ok (r.2.1, r.2.2.1))) = true := by decide +kernel
theorem own_pd1 : parseMethodDescriptor "(II)V" = some ⟨[.int, .int], none⟩ := by decide +kernel
theorem own_pn1 : plainFor own_m1.1 = true := by decide +kernel
theorem own_d2 : own_r2.all (fun r => decide (decode prog_50_method_1_code r.1 = .ok (r.2.1, r.2.2.1))) = true := by decide +kernel
theorem own_pd2 : parseMethodDescriptor "()V" = some ⟨[], none⟩ := by decide +kernel
theorem own_pn2 : plainFor own_m2.1 = true := by decide +kernel
theorem own_d3 : own_r3.all (fun r => decide (decode jdk_65_method_101_code r.1 = .ok (r.2.1, r.2.2.1))) = true := by decide +kernel
theorem own_pd3 : parseMethodDescriptor "([JJ)V" = some ⟨[(.array .long), .long], none⟩ := by decide +kernel
theorem own_pn3 : plainFor own_m3.1 = true := by decide +kernel
theorem own_d4 : own_r4.all (fun r => decide (decode jdk_65_method_103_code r.1 = .ok (r.2.1, r.2.2.1))) = true := by decide +kernel
theorem own_pd4 : parseMethodDescriptor "([II)V" = some ⟨[(.array .int), .int], none⟩ := by decide +kernel
theorem own_pn4 : plainFor own_m4.1 = true := by decide +kernel
theorem own_d5 : own_r5.all (fun r => decide (decode prog_6_method_4_code r.1 = .ok (r.2.1, r.2.2.1))) = true := by decide +kernel
theorem own_pd5 : parseMethodDescriptor "(IIII)V" = some ⟨[.int, .int, .int, .int], none⟩ := by decide +kernel
theorem own_pn5 : plainFor own_m5.1 = true := by decide +kernel
theorem own_d6 : own_r6.all (fun r => decide (decode prog_6_method_29_code r.1 = .ok (r.2.1, r.2.2.1))) = true := by decide +kernel
theorem own_pd6 : parseMethodDescriptor "(II)I" = some ⟨[.int, .int], (some .int)⟩ := by decide +kernel
theorem own_pn6 : plainFor own_m6.1 = true := by decide +kernel
theorem own_d7 : own_r7.all (fun r => decide (decode prog_6_method_30_code r.1 = .ok (r.2.1, r.2.2.1))) = true := by decide +kernel
theorem own_pd7 : parseMethodDescriptor "(II)I" = some ⟨[.int, .int], (some .int)⟩ := by decide +kernel
theorem own_pn7 : plainFor own_m7.1 = true := by decide +kernel
theorem own_d8 : own_r8.all (fun r => decide (decode prog_6_method_31_code r.1 = .ok (r.2.1, r.2.2.1))) = true := by decide +kernel
theorem own_pd8 : parseMethodDescriptor "(II)I" = some ⟨[.int, .int], (some .int)⟩ := by decide +kernel
theorem own_pn8 : plainFor own_m8.1 = true := by decide +kernel
theorem own_d9 : own_r9.all (fun r => decide (decode prog_6_method_9_code r.1 = .ok (r.2.1, r.2.2.1))) = true := by decide +kernel
theorem own_pd9 : parseMethodDescriptor "(II)I" = some ⟨[.int, .int], (some .int)⟩ := by decide +kernel
theorem own_pn9 : plainFor own_m9.1 = true := by decide +kernel
theorem own_d10 : own_r10.all (fun r => decide (decode prog_6_method_32_code r.1 = .ok (r.2.1, r.2.2.1))) = true := by decide +kernel
theorem own_pd10 : parseMethodDescriptor "(I)V" = some ⟨[.int], none⟩ := by decide +kernel
theorem own_pn10 : plainFor own_m10.1 = true := by decide +kernel
theorem own_d11 : own_r11.all (fun r => decide (decode prog_13_method_2_code r.1 = .ok (r.2.1, r.2.2.1))) = true := by decide +kernel
theorem own_pd11 : parseMethodDescriptor "(II)I" = some ⟨[.int, .int], (some .int)⟩ := by decide +kernel
theorem own_pn11 : plainFor own_m11.1 = true := by decide +kernel
theorem own_d12 : own_r12.all (fun r => decide (decode jdk_29_method_66_code r.1 = .ok (r.2.1, r.2.2.1))) = true := by decide +kernel
theorem own_pd12 : parseMethodDescriptor "(JJ)J" = some ⟨[.long, .long], (some .long)⟩ := by decide +kernel
theorem own_pn12 : plainFor own_m12.1 = true := by decide +kernel
theorem own_d13 : own_r13.all (fun r => decide (decode jdk_29_method_70_code r.1 = .ok (r.2.1, r.2.2.1))) = true := by decide +kernel
theorem own_pd13 : parseMethodDescriptor "(JJ)J" = some ⟨[.long, .long], (some .long)⟩ := by decide +kernel
theorem own_pn13 : plainFor own_m13.1 = true := by decide +kernel
theorem own_d14 : own_r14.all (fun r => decide (decode jdk_65_method_123_code r.1 = .ok (r.2.1, r.2.2.1))) = true := by decide +kernel
theorem own_pd14 : parseMethodDescriptor "([II)[I" = some ⟨[(.array .int), .int], (some (.array .int))⟩ := by decide +kernel
theorem own_pn14 : plainFor own_m14.1 = true := by decide +kernel
theorem own_d15 : own_r15.all (fun r => decide (decode jdk_29_method_69_code r.1 = .ok (r.2.1, r.2.2.1))) = true := by decide +kernel
theorem own_pd15 : parseMethodDescriptor "(II)I" = some ⟨[.int, .int], (some .int)⟩ := by decide +kernel
theorem own_pn15 : plainFor own_m15.1 = true := by decide +kernel
theorem own_d16 : own_r16.all (fun r => decide (decode jdk_65_method_104_code r.1 = .ok (r.2.1, r.2.2.1))) = true := by decide +kernel
theorem own_pd16 : parseMethodDescriptor "([IIII)V" = some ⟨[(.array .int), .int, .int, .int], none⟩ := by decide +kernel
theorem own_pn16 : plainFor own_m16.1 = true := by decide +kernel
theorem own_d17 : own_r17.all (fun r => decide (decode jdk_65_method_30_code r.1 = .ok (r.2.1, r.2.2.1))) = true := by decide +kernel
theorem own_pd17 : parseMethodDescriptor "(III)V" = some ⟨[.int, .int, .int], none⟩ := by decide +kernel
theorem own_pn17 : plainFor own_m17.1 = true := by decide +kernel
theorem own_d18 : own_r18.all (fun r => decide (decode jdk_65_method_128_code r.1 = .ok (r.2.1, r.2.2.1))) = true := by decide +kernel
theorem own_pd18 : parseMethodDescriptor "([ZI)[Z" = some ⟨[(.array .boolean), .int], (some (.array .boolean))⟩ := by decide +kernel
theorem own_pn18 : plainFor own_m18.1 = true := by decide +kernel
theorem own_d19 : own_r19.all (fun r => decide (decode prog_6_method_33_code r.1 = .ok (r.2.1, r.2.2.1))) = true := by decide +kernel
theorem own_pd19 : parseMethodDescriptor "(II)V" = some ⟨[.int, .int], none⟩ := by decide +kernel
theorem own_pn19 : plainFor own_m19.1 = true := by decide +kernel
theorem own_d20 : own_r20.all (fun r => decide (decode prog_6_method_24_code r.1 = .ok (r.2.1, r.2.2.1))) = true := by decide +kernel
theorem own_pd20 : parseMethodDescriptor "(II)V" = some ⟨[.int, .int], none⟩ := by decide +kernel
theorem own_pn20 : plainFor own_m20.1 = true := by decide +kernel
theorem own_d21 : own_r21.all (fun r => decide (decode prog_6_method_27_code r.1 = .ok (r.2.1, r.2.2.1))) = true := by decide +kernel
theorem own_pd21 : parseMethodDescriptor "(II)V" = some ⟨[.int, .int], none⟩ := by decide +kernel
theorem own_pn21 : plainFor own_m21.1 = true := by decide +kernel
theorem own_d22 : own_r22.all (fun r => decide (decode prog_6_method_15_code r.1 = .ok (r.2.1, r.2.2.1))) = true := by decide +kernel
theorem own_pd22 : parseMethodDescriptor "(I)Z" = some ⟨[.int], (some .boolean)⟩ := by decide +kernel
theorem own_pn22 : plainFor own_m22.1 = true := by decide +kernel
section Words
variable (Z : State) (a0 : Array Value) (hw : ∀ d ∈ tables_1, d.before a0 Z = true)
theorem own_c1 (Z : State) (a0 : Array Value) (hw : ∀ d ∈ tables_1, d.before a0 Z = true) : Callable Z a0 own_m1 := by
  have w := fun (k : Nat) (d : Jvm.Cond) (h : tables_1[k]? = some d) => hw d (List.mem_of_getElem? h)
  exact ⟨w 2 _ rfl, w 5 _ rfl, ⟨by decide, by decide⟩, _, _, own_pd1, rfl⟩
theorem own_c2 (Z : State) (a0 : Array Value) (hw : ∀ d ∈ tables_1, d.before a0 Z = true) : Callable Z a0 own_m2 := by
  have w := fun (k : Nat) (d : Jvm.Cond) (h : tables_1[k]? = some d) => hw d (List.mem_of_getElem? h)
  exact ⟨w 11 _ rfl, w 14 _ rfl, ⟨by decide, by decide⟩, _, _, own_pd2, rfl⟩
theorem own_c3 (Z : State) (a0 : Array Value) (hw : ∀ d ∈ tables_1, d.before a0 Z = true) : Callable Z a0 own_m3 := by
  have w := fun (k : Nat) (d : Jvm.Cond) (h : tables_1[k]? = some d) => hw d (List.mem_of_getElem? h)
  exact ⟨w 24 _ rfl, w 25 _ rfl, ⟨by decide, by decide⟩, _, _, own_pd3, rfl⟩
theorem own_c4 (Z : State) (a0 : Array Value) (hw : ∀ d ∈ tables_1, d.before a0 Z = true) : Callable Z a0 own_m4 := by
  have w := fun (k : Nat) (d : Jvm.Cond) (h : tables_1[k]? = some d) => hw d (List.mem_of_getElem? h)
  exact ⟨w 24 _ rfl, w 42 _ rfl, ⟨by decide, by decide⟩, _, _, own_pd4, rfl⟩
theorem own_c5 (Z : State) (a0 : Array Value) (hw : ∀ d ∈ tables_1, d.before a0 Z = true) : Callable Z a0 own_m5 := by
  have w := fun (k : Nat) (d : Jvm.Cond) (h : tables_1[k]? = some d) => hw d (List.mem_of_getElem? h)
  exact ⟨w 2 _ rfl, w 113 _ rfl, ⟨by decide, by decide⟩, _, _, own_pd5, rfl⟩
theorem own_c6 (Z : State) (a0 : Array Value) (hw : ∀ d ∈ tables_1, d.before a0 Z = true) : Callable Z a0 own_m6 := by
  have w := fun (k : Nat) (d : Jvm.Cond) (h : tables_1[k]? = some d) => hw d (List.mem_of_getElem? h)
  exact ⟨w 2 _ rfl, w 117 _ rfl, ⟨by decide, by decide⟩, _, _, own_pd6, rfl⟩
theorem own_c7 (Z : State) (a0 : Array Value) (hw : ∀ d ∈ tables_1, d.before a0 Z = true) : Callable Z a0 own_m7 := by
  have w := fun (k : Nat) (d : Jvm.Cond) (h : tables_1[k]? = some d) => hw d (List.mem_of_getElem? h)
  exact ⟨w 2 _ rfl, w 121 _ rfl, ⟨by decide, by decide⟩, _, _, own_pd7, rfl⟩
theorem own_c8 (Z : State) (a0 : Array Value) (hw : ∀ d ∈ tables_1, d.before a0 Z = true) : Callable Z a0 own_m8 := by
  have w := fun (k : Nat) (d : Jvm.Cond) (h : tables_1[k]? = some d) => hw d (List.mem_of_getElem? h)
  exact ⟨w 2 _ rfl, w 129 _ rfl, ⟨by decide, by decide⟩, _, _, own_pd8, rfl⟩
theorem own_c9 (Z : State) (a0 : Array Value) (hw : ∀ d ∈ tables_1, d.before a0 Z = true) : Callable Z a0 own_m9 := by
  have w := fun (k : Nat) (d : Jvm.Cond) (h : tables_1[k]? = some d) => hw d (List.mem_of_getElem? h)
  exact ⟨w 2 _ rfl, w 134 _ rfl, ⟨by decide, by decide⟩, _, _, own_pd9, rfl⟩
theorem own_c10 (Z : State) (a0 : Array Value) (hw : ∀ d ∈ tables_1, d.before a0 Z = true) : Callable Z a0 own_m10 := by
  have w := fun (k : Nat) (d : Jvm.Cond) (h : tables_1[k]? = some d) => hw d (List.mem_of_getElem? h)
  exact ⟨w 2 _ rfl, w 142 _ rfl, ⟨by decide, by decide⟩, _, _, own_pd10, rfl⟩
theorem own_c11 (Z : State) (a0 : Array Value) (hw : ∀ d ∈ tables_1, d.before a0 Z = true) : Callable Z a0 own_m11 := by
  have w := fun (k : Nat) (d : Jvm.Cond) (h : tables_1[k]? = some d) => hw d (List.mem_of_getElem? h)
  exact ⟨w 145 _ rfl, w 146 _ rfl, ⟨by decide, by decide⟩, _, _, own_pd11, rfl⟩
theorem own_c12 (Z : State) (a0 : Array Value) (hw : ∀ d ∈ tables_1, d.before a0 Z = true) : Callable Z a0 own_m12 := by
  have w := fun (k : Nat) (d : Jvm.Cond) (h : tables_1[k]? = some d) => hw d (List.mem_of_getElem? h)
  exact ⟨w 151 _ rfl, w 152 _ rfl, ⟨by decide, by decide⟩, _, _, own_pd12, rfl⟩
theorem own_c13 (Z : State) (a0 : Array Value) (hw : ∀ d ∈ tables_1, d.before a0 Z = true) : Callable Z a0 own_m13 := by
  have w := fun (k : Nat) (d : Jvm.Cond) (h : tables_1[k]? = some d) => hw d (List.mem_of_getElem? h)
  exact ⟨w 151 _ rfl, w 156 _ rfl, ⟨by decide, by decide⟩, _, _, own_pd13, rfl⟩
theorem own_c14 (Z : State) (a0 : Array Value) (hw : ∀ d ∈ tables_1, d.before a0 Z = true) : Callable Z a0 own_m14 := by
  have w := fun (k : Nat) (d : Jvm.Cond) (h : tables_1[k]? = some d) => hw d (List.mem_of_getElem? h)
  exact ⟨w 24 _ rfl, w 159 _ rfl, ⟨by decide, by decide⟩, _, _, own_pd14, rfl⟩
theorem own_c15 (Z : State) (a0 : Array Value) (hw : ∀ d ∈ tables_1, d.before a0 Z = true) : Callable Z a0 own_m15 := by
  have w := fun (k : Nat) (d : Jvm.Cond) (h : tables_1[k]? = some d) => hw d (List.mem_of_getElem? h)
  exact ⟨w 151 _ rfl, w 162 _ rfl, ⟨by decide, by decide⟩, _, _, own_pd15, rfl⟩
theorem own_c16 (Z : State) (a0 : Array Value) (hw : ∀ d ∈ tables_1, d.before a0 Z = true) : Callable Z a0 own_m16 := by
  have w := fun (k : Nat) (d : Jvm.Cond) (h : tables_1[k]? = some d) => hw d (List.mem_of_getElem? h)
  exact ⟨w 24 _ rfl, w 169 _ rfl, ⟨by decide, by decide⟩, _, _, own_pd16, rfl⟩
theorem own_c17 (Z : State) (a0 : Array Value) (hw : ∀ d ∈ tables_1, d.before a0 Z = true) : Callable Z a0 own_m17 := by
  have w := fun (k : Nat) (d : Jvm.Cond) (h : tables_1[k]? = some d) => hw d (List.mem_of_getElem? h)
  exact ⟨w 24 _ rfl, w 172 _ rfl, ⟨by decide, by decide⟩, _, _, own_pd17, rfl⟩
theorem own_c18 (Z : State) (a0 : Array Value) (hw : ∀ d ∈ tables_1, d.before a0 Z = true) : Callable Z a0 own_m18 := by
  have w := fun (k : Nat) (d : Jvm.Cond) (h : tables_1[k]? = some d) => hw d (List.mem_of_getElem? h)
  exact ⟨w 24 _ rfl, w 175 _ rfl, ⟨by decide, by decide⟩, _, _, own_pd18, rfl⟩
theorem own_c19 (Z : State) (a0 : Array Value) (hw : ∀ d ∈ tables_1, d.before a0 Z = true) : Callable Z a0 own_m19 := by
  have w := fun (k : Nat) (d : Jvm.Cond) (h : tables_1[k]? = some d) => hw d (List.mem_of_getElem? h)
  exact ⟨w 2 _ rfl, w 179 _ rfl, ⟨by decide, by decide⟩, _, _, own_pd19, rfl⟩
theorem own_c20 (Z : State) (a0 : Array Value) (hw : ∀ d ∈ tables_1, d.before a0 Z = true) : Callable Z a0 own_m20 := by
  have w := fun (k : Nat) (d : Jvm.Cond) (h : tables_1[k]? = some d) => hw d (List.mem_of_getElem? h)
  exact ⟨w 2 _ rfl, w 184 _ rfl, ⟨by decide, by decide⟩, _, _, own_pd20, rfl⟩
theorem own_c21 (Z : State) (a0 : Array Value) (hw : ∀ d ∈ tables_1, d.before a0 Z = true) : Callable Z a0 own_m21 := by
  have w := fun (k : Nat) (d : Jvm.Cond) (h : tables_1[k]? = some d) => hw d (List.mem_of_getElem? h)
  exact ⟨w 2 _ rfl, w 190 _ rfl, ⟨by decide, by decide⟩, _, _, own_pd21, rfl⟩
theorem own_c22 (Z : State) (a0 : Array Value) (hw : ∀ d ∈ tables_1, d.before a0 Z = true) : Callable Z a0 own_m22 := by
  have w := fun (k : Nat) (d : Jvm.Cond) (h : tables_1[k]? = some d) => hw d (List.mem_of_getElem? h)
  exact ⟨w 2 _ rfl, w 195 _ rfl, ⟨by decide, by decide⟩, _, _, own_pd22, rfl⟩
set_option maxRecDepth 65536 in
theorem own_ok0 (Z : State) (a0 : Array Value) (hw : ∀ d ∈ tables_1, d.before a0 Z = true) : MOk Z a0 own_CT own_MT own_m0 := by
  have w := fun (k : Nat) (d : Jvm.Cond) (h : tables_1[k]? = some d) => hw d (List.mem_of_getElem? h)
  refine mOk_of own_pn0 own_d0 ?_
  refine List.forall_mem_cons.mpr ⟨trivial, ?_⟩
  refine List.forall_mem_cons.mpr ⟨trivial, ?_⟩
  refine List.forall_mem_cons.mpr ⟨trivial, ?_⟩
  refine List.forall_mem_cons.mpr ⟨trivial, ?_⟩
  refine List.forall_mem_cons.mpr ⟨trivial, ?_⟩
  refine List.forall_mem_cons.mpr ⟨trivial, ?_⟩
  refine List.forall_mem_cons.mpr ⟨trivial, ?_⟩
  refine List.forall_mem_cons.mpr ⟨trivial, ?_⟩
  refine List.forall_mem_cons.mpr ⟨trivial, ?_⟩
  refine List.forall_mem_cons.mpr ⟨trivial, ?_⟩
  refine List.forall_mem_cons.mpr ⟨trivial, ?_⟩
  refine List.forall_mem_cons.mpr ⟨trivial, ?_⟩
  refine List.forall_mem_cons.mpr ⟨trivial, ?_⟩
  refine List.forall_mem_cons.mpr ⟨trivial, ?_⟩
  refine List.forall_mem_cons.mpr ⟨trivial, ?_⟩
  refine List.forall_mem_cons.mpr ⟨trivial, ?_⟩
  refine List.forall_mem_cons.mpr ⟨trivial, ?_⟩
  refine List.forall_mem_cons.mpr ⟨trivial, ?_⟩
  refine List.forall_mem_cons.mpr ⟨trivial, ?_⟩
  refine List.forall_mem_cons.mpr ⟨trivial, ?_⟩
  refine List.forall_mem_cons.mpr ⟨trivial, ?_⟩
  refine List.forall_mem_cons.mpr ⟨trivial, ?_⟩
  refine List.forall_mem_cons.mpr ⟨trivial, ?_⟩
  refine List.forall_mem_cons.mpr ⟨trivial, ?_⟩
  refine List.forall_mem_cons.mpr ⟨trivial, ?_⟩
  refine List.forall_mem_cons.mpr ⟨(⟨rfl, _, rfl, by decide, by decide⟩ : LinkOk Z a0 own_CT own_MT own_m0.1.cls own_m0.1.name own_m0.2.2.2.1 (28, .ifCond .eq 7, 3, 4, 35, 0, .null, .int)), ?_⟩
  refine List.forall_mem_cons.mpr ⟨trivial, ?_⟩
  refine List.forall_mem_cons.mpr ⟨(⟨_, rfl, rfl, by decide, by decide⟩ : LinkOk Z a0 own_CT own_MT own_m0.1.cls own_m0.1.name own_m0.2.2.2.1 (32, .goto 4, 3, 7, 36, 0, .null, .int)), ?_⟩
  refine List.forall_mem_cons.mpr ⟨trivial, ?_⟩
  refine List.forall_mem_cons.mpr ⟨trivial, ?_⟩
  refine List.forall_mem_cons.mpr ⟨trivial, ?_⟩
  refine List.forall_mem_cons.mpr ⟨trivial, ?_⟩
  refine List.forall_mem_cons.mpr ⟨trivial, ?_⟩
  refine List.forall_mem_cons.mpr ⟨trivial, ?_⟩
  refine List.forall_mem_cons.mpr ⟨trivial, ?_⟩
  refine List.forall_mem_cons.mpr ⟨trivial, ?_⟩
  refine List.forall_mem_cons.mpr ⟨trivial, ?_⟩
  refine List.forall_mem_cons.mpr ⟨trivial, ?_⟩
  refine List.forall_mem_cons.mpr ⟨trivial, ?_⟩
  refine List.forall_mem_cons.mpr ⟨(⟨rfl, _, rfl, by decide, by decide⟩ : LinkOk Z a0 own_CT own_MT own_m0.1.cls own_m0.1.name own_m0.2.2.2.1 (48, .ifCond .eq 7, 3, 4, 55, 0, .null, .int)), ?_⟩
  refine List.forall_mem_cons.mpr ⟨trivial, ?_⟩
  refine List.forall_mem_cons.mpr ⟨(⟨_, rfl, rfl, by decide, by decide⟩ : LinkOk Z a0 own_CT own_MT own_m0.1.cls own_m0.1.name own_m0.2.2.2.1 (52, .goto 4, 3, 7, 56, 0, .null, .int)), ?_⟩
  refine List.forall_mem_cons.mpr ⟨trivial, ?_⟩
  refine List.forall_mem_cons.mpr ⟨trivial, ?_⟩
  refine List.forall_mem_cons.mpr ⟨trivial, ?_⟩
  refine List.forall_mem_cons.mpr ⟨trivial, ?_⟩
  refine List.forall_mem_cons.mpr ⟨trivial, ?_⟩
  refine List.forall_mem_cons.mpr ⟨(⟨rfl, _, rfl, by decide, by decide⟩ : LinkOk Z a0 own_CT own_MT own_m0.1.cls own_m0.1.name own_m0.2.2.2.1 (61, .ifCond .eq 7, 3, 4, 68, 0, .null, .int)), ?_⟩
  refine List.forall_mem_cons.mpr ⟨trivial, ?_⟩
  refine List.forall_mem_cons.mpr ⟨(⟨_, rfl, rfl, by decide, by decide⟩ : LinkOk Z a0 own_CT own_MT own_m0.1.cls own_m0.1.name own_m0.2.2.2.1 (65, .goto 4, 3, 7, 69, 0, .null, .int)), ?_⟩
  refine List.forall_mem_cons.mpr ⟨trivial, ?_⟩
  refine List.forall_mem_cons.mpr ⟨trivial, ?_⟩
  refine List.forall_mem_cons.mpr ⟨trivial, ?_⟩
  refine List.forall_mem_cons.mpr ⟨trivial, ?_⟩
  refine List.forall_mem_cons.mpr ⟨trivial, ?_⟩
  refine List.forall_mem_cons.mpr ⟨(⟨rfl, _, rfl, by decide, by decide⟩ : LinkOk Z a0 own_CT own_MT own_m0.1.cls own_m0.1.name own_m0.2.2.2.1 (74, .ifCond .eq 7, 3, 4, 81, 0, .null, .int)), ?_⟩
  refine List.forall_mem_cons.mpr ⟨trivial, ?_⟩
  refine List.forall_mem_cons.mpr ⟨(⟨_, rfl, rfl, by decide, by decide⟩ : LinkOk Z a0 own_CT own_MT own_m0.1.cls own_m0.1.name own_m0.2.2.2.1 (78, .goto 4, 3, 7, 82, 0, .null, .int)), ?_⟩
  refine List.forall_mem_cons.mpr ⟨trivial, ?_⟩
  refine List.forall_mem_cons.mpr ⟨trivial, ?_⟩
  refine List.forall_mem_cons.mpr ⟨trivial, ?_⟩
  refine List.forall_mem_cons.mpr ⟨trivial, ?_⟩
  refine List.forall_mem_cons.mpr ⟨trivial, ?_⟩
  refine List.forall_mem_cons.mpr ⟨(⟨rfl, _, rfl, by decide, by decide⟩ : LinkOk Z a0 own_CT own_MT own_m0.1.cls own_m0.1.name own_m0.2.2.2.1 (87, .ifCond .eq 7, 3, 4, 94, 0, .null, .int)), ?_⟩
  refine List.forall_mem_cons.mpr ⟨trivial, ?_⟩
  refine List.forall_mem_cons.mpr ⟨(⟨_, rfl, rfl, by decide, by decide⟩ : LinkOk Z a0 own_CT own_MT own_m0.1.cls own_m0.1.name own_m0.2.2.2.1 (91, .goto 4, 3, 7, 95, 0, .null, .int)), ?_⟩
  refine List.forall_mem_cons.mpr ⟨trivial, ?_⟩
  refine List.forall_mem_cons.mpr ⟨trivial, ?_⟩
  refine List.forall_mem_cons.mpr ⟨trivial, ?_⟩
  refine List.forall_mem_cons.mpr ⟨trivial, ?_⟩
  refine List.forall_mem_cons.mpr ⟨trivial, ?_⟩
  refine List.forall_mem_cons.mpr ⟨(⟨rfl, _, rfl, by decide, by decide⟩ : LinkOk Z a0 own_CT own_MT own_m0.1.cls own_m0.1.name own_m0.2.2.2.1 (101, .ifCond .eq 7, 3, 4, 108, 0, .null, .int)), ?_⟩
  refine List.forall_mem_cons.mpr ⟨trivial, ?_⟩
  refine List.forall_mem_cons.mpr ⟨(⟨_, rfl, rfl, by decide, by decide⟩ : LinkOk Z a0 own_CT own_MT own_m0.1.cls own_m0.1.name own_m0.2.2.2.1 (105, .goto 4, 3, 7, 109, 0, .null, .int)), ?_⟩
  refine List.forall_mem_cons.mpr ⟨trivial, ?_⟩
  refine List.forall_mem_cons.mpr ⟨trivial, ?_⟩
  refine List.forall_mem_cons.mpr ⟨trivial, ?_⟩
  refine List.forall_mem_cons.mpr ⟨trivial, ?_⟩
  refine List.forall_mem_cons.mpr ⟨trivial, ?_⟩
  refine List.forall_mem_cons.mpr ⟨(⟨rfl, _, rfl, by decide, by decide⟩ : LinkOk Z a0 own_CT own_MT own_m0.1.cls own_m0.1.name own_m0.2.2.2.1 (115, .ifCond .eq 7, 3, 4, 122, 0, .null, .int)), ?_⟩
  refine List.forall_mem_cons.mpr ⟨trivial, ?_⟩
  refine List.forall_mem_cons.mpr ⟨(⟨_, rfl, rfl, by decide, by decide⟩ : LinkOk Z a0 own_CT own_MT own_m0.1.cls own_m0.1.name own_m0.2.2.2.1 (119, .goto 4, 3, 7, 123, 0, .null, .int)), ?_⟩
  refine List.forall_mem_cons.mpr ⟨trivial, ?_⟩
  refine List.forall_mem_cons.mpr ⟨trivial, ?_⟩
  refine List.forall_mem_cons.mpr ⟨(⟨_, _, _, _, rfl, rfl, rfl, w 0 _ rfl⟩ : LinkOk Z a0 own_CT own_MT own_m0.1.cls own_m0.1.name own_m0.2.2.2.1 (125, .new 7, 3, 14, 0, 0, .null, .int)), ?_⟩
  refine List.forall_mem_cons.mpr ⟨trivial, ?_⟩
  refine List.forall_mem_cons.mpr ⟨trivial, ?_⟩
  refine List.forall_mem_cons.mpr ⟨trivial, ?_⟩
  refine List.forall_mem_cons.mpr ⟨(⟨_, _, rfl, rfl, rfl, own_c1 Z a0 hw, w 3 _ rfl, w 4 _ rfl, rfl, rfl⟩ : LinkOk Z a0 own_CT own_MT own_m0.1.cls own_m0.1.name own_m0.2.2.2.1 (131, .invokespecial 9, 3, 41, 1, 0, .null, .int)), ?_⟩
  refine List.forall_mem_cons.mpr ⟨trivial, ?_⟩
  refine List.forall_mem_cons.mpr ⟨trivial, ?_⟩
  refine List.forall_mem_cons.mpr ⟨(⟨rfl, _, rfl, by decide, by decide⟩ : LinkOk Z a0 own_CT own_MT own_m0.1.cls own_m0.1.name own_m0.2.2.2.1 (138, .ifCond .eq 15, 3, 4, 153, 0, .null, .int)), ?_⟩
  refine List.forall_mem_cons.mpr ⟨trivial, ?_⟩
  refine List.forall_mem_cons.mpr ⟨(⟨rfl, _, rfl, by decide, by decide⟩ : LinkOk Z a0 own_CT own_MT own_m0.1.cls own_m0.1.name own_m0.2.2.2.1 (143, .ifCond .eq 10, 3, 4, 153, 0, .null, .int)), ?_⟩
  refine List.forall_mem_cons.mpr ⟨trivial, ?_⟩
  refine List.forall_mem_cons.mpr ⟨trivial, ?_⟩
  refine List.forall_mem_cons.mpr ⟨trivial, ?_⟩
  refine List.forall_mem_cons.mpr ⟨(⟨_, _, _, _, _, rfl, rfl, rfl, own_c20 Z a0 hw, w 180 _ rfl, w 182 _ rfl, rfl, w 181 _ rfl, w 183 _ rfl⟩ : LinkOk Z a0 own_CT own_MT own_m0.1.cls own_m0.1.name own_m0.2.2.2.1 (150, .invokevirtual 12, 3, 42, 20, 0, .null, .int)), ?_⟩
  refine List.forall_mem_cons.mpr ⟨trivial, ?_⟩
  refine List.forall_mem_cons.mpr ⟨(⟨rfl, _, rfl, by decide, by decide⟩ : LinkOk Z a0 own_CT own_MT own_m0.1.cls own_m0.1.name own_m0.2.2.2.1 (155, .ifCond .eq 15, 3, 4, 170, 0, .null, .int)), ?_⟩
  refine List.forall_mem_cons.mpr ⟨trivial, ?_⟩
  refine List.forall_mem_cons.mpr ⟨(⟨rfl, _, rfl, by decide, by decide⟩ : LinkOk Z a0 own_CT own_MT own_m0.1.cls own_m0.1.name own_m0.2.2.2.1 (160, .ifCond .eq 10, 3, 4, 170, 0, .null, .int)), ?_⟩
  refine List.forall_mem_cons.mpr ⟨trivial, ?_⟩
  refine List.forall_mem_cons.mpr ⟨trivial, ?_⟩
  refine List.forall_mem_cons.mpr ⟨trivial, ?_⟩
  refine List.forall_mem_cons.mpr ⟨(⟨_, _, _, _, _, rfl, rfl, rfl, own_c20 Z a0 hw, w 180 _ rfl, w 182 _ rfl, rfl, w 181 _ rfl, w 183 _ rfl⟩ : LinkOk Z a0 own_CT own_MT own_m0.1.cls own_m0.1.name own_m0.2.2.2.1 (167, .invokevirtual 12, 3, 42, 20, 0, .null, .int)), ?_⟩
  refine List.forall_mem_cons.mpr ⟨trivial, ?_⟩
  refine List.forall_mem_cons.mpr ⟨trivial, ?_⟩
  refine List.forall_mem_cons.mpr ⟨trivial, ?_⟩
  refine List.forall_mem_cons.mpr ⟨trivial, ?_⟩
  refine List.forall_mem_cons.mpr ⟨trivial, ?_⟩
  refine List.forall_mem_cons.mpr ⟨(⟨_, _, _, _, _, rfl, rfl, rfl, own_c5 Z a0 hw, w 109 _ rfl, w 111 _ rfl, rfl, w 110 _ rfl, w 112 _ rfl⟩ : LinkOk Z a0 own_CT own_MT own_m0.1.cls own_m0.1.name own_m0.2.2.2.1 (176, .invokevirtual 15, 3, 42, 5, 0, .null, .int)), ?_⟩
  refine List.forall_mem_cons.mpr ⟨trivial, ?_⟩
  refine List.forall_mem_cons.mpr ⟨trivial, ?_⟩
  refine List.forall_mem_cons.mpr ⟨trivial, ?_⟩
  refine List.forall_mem_cons.mpr ⟨trivial, ?_⟩
  refine List.forall_mem_cons.mpr ⟨trivial, ?_⟩
  refine List.forall_mem_cons.mpr ⟨(⟨_, _, _, _, _, rfl, rfl, rfl, own_c5 Z a0 hw, w 109 _ rfl, w 111 _ rfl, rfl, w 110 _ rfl, w 112 _ rfl⟩ : LinkOk Z a0 own_CT own_MT own_m0.1.cls own_m0.1.name own_m0.2.2.2.1 (186, .invokevirtual 15, 3, 42, 5, 0, .null, .int)), ?_⟩
  refine List.forall_mem_cons.mpr ⟨trivial, ?_⟩
  refine List.forall_mem_cons.mpr ⟨(⟨rfl, _, rfl, by decide, by decide⟩ : LinkOk Z a0 own_CT own_MT own_m0.1.cls own_m0.1.name own_m0.2.2.2.1 (191, .ifCond .eq 14, 3, 4, 205, 0, .null, .int)), ?_⟩
  refine List.forall_mem_cons.mpr ⟨trivial, ?_⟩
  refine List.forall_mem_cons.mpr ⟨trivial, ?_⟩
  refine List.forall_mem_cons.mpr ⟨trivial, ?_⟩
  refine List.forall_mem_cons.mpr ⟨trivial, ?_⟩
  refine List.forall_mem_cons.mpr ⟨trivial, ?_⟩
  refine List.forall_mem_cons.mpr ⟨(⟨_, _, _, _, _, rfl, rfl, rfl, own_c5 Z a0 hw, w 109 _ rfl, w 111 _ rfl, rfl, w 110 _ rfl, w 112 _ rfl⟩ : LinkOk Z a0 own_CT own_MT own_m0.1.cls own_m0.1.name own_m0.2.2.2.1 (202, .invokevirtual 15, 3, 42, 5, 0, .null, .int)), ?_⟩
  refine List.forall_mem_cons.mpr ⟨trivial, ?_⟩
  refine List.forall_mem_cons.mpr ⟨(⟨rfl, _, rfl, by decide, by decide⟩ : LinkOk Z a0 own_CT own_MT own_m0.1.cls own_m0.1.name own_m0.2.2.2.1 (207, .ifCond .eq 13, 3, 4, 220, 0, .null, .int)), ?_⟩
  refine List.forall_mem_cons.mpr ⟨trivial, ?_⟩
  refine List.forall_mem_cons.mpr ⟨trivial, ?_⟩
  refine List.forall_mem_cons.mpr ⟨trivial, ?_⟩
  refine List.forall_mem_cons.mpr ⟨trivial, ?_⟩
  refine List.forall_mem_cons.mpr ⟨trivial, ?_⟩
  refine List.forall_mem_cons.mpr ⟨(⟨_, _, _, _, _, rfl, rfl, rfl, own_c5 Z a0 hw, w 109 _ rfl, w 111 _ rfl, rfl, w 110 _ rfl, w 112 _ rfl⟩ : LinkOk Z a0 own_CT own_MT own_m0.1.cls own_m0.1.name own_m0.2.2.2.1 (217, .invokevirtual 15, 3, 42, 5, 0, .null, .int)), ?_⟩
  refine List.forall_mem_cons.mpr ⟨trivial, ?_⟩
  refine List.forall_mem_cons.mpr ⟨(⟨rfl, _, rfl, by decide, by decide⟩ : LinkOk Z a0 own_CT own_MT own_m0.1.cls own_m0.1.name own_m0.2.2.2.1 (222, .ifCond .eq 15, 3, 4, 237, 0, .null, .int)), ?_⟩
  refine List.forall_mem_cons.mpr ⟨trivial, ?_⟩
  refine List.forall_mem_cons.mpr ⟨(⟨rfl, _, rfl, by decide, by decide⟩ : LinkOk Z a0 own_CT own_MT own_m0.1.cls own_m0.1.name own_m0.2.2.2.1 (227, .ifCond .ne 10, 3, 4, 237, 0, .null, .int)), ?_⟩
  refine List.forall_mem_cons.mpr ⟨trivial, ?_⟩
  refine List.forall_mem_cons.mpr ⟨trivial, ?_⟩
  refine List.forall_mem_cons.mpr ⟨trivial, ?_⟩
  refine List.forall_mem_cons.mpr ⟨(⟨_, _, _, _, _, rfl, rfl, rfl, own_c20 Z a0 hw, w 180 _ rfl, w 182 _ rfl, rfl, w 181 _ rfl, w 183 _ rfl⟩ : LinkOk Z a0 own_CT own_MT own_m0.1.cls own_m0.1.name own_m0.2.2.2.1 (234, .invokevirtual 12, 3, 42, 20, 0, .null, .int)), ?_⟩
  refine List.forall_mem_cons.mpr ⟨trivial, ?_⟩
  refine List.forall_mem_cons.mpr ⟨(⟨rfl, _, rfl, by decide, by decide⟩ : LinkOk Z a0 own_CT own_MT own_m0.1.cls own_m0.1.name own_m0.2.2.2.1 (239, .ifCond .eq 15, 3, 4, 254, 0, .null, .int)), ?_⟩
  refine List.forall_mem_cons.mpr ⟨trivial, ?_⟩
  refine List.forall_mem_cons.mpr ⟨(⟨rfl, _, rfl, by decide, by decide⟩ : LinkOk Z a0 own_CT own_MT own_m0.1.cls own_m0.1.name own_m0.2.2.2.1 (244, .ifCond .ne 10, 3, 4, 254, 0, .null, .int)), ?_⟩
  refine List.forall_mem_cons.mpr ⟨trivial, ?_⟩
  refine List.forall_mem_cons.mpr ⟨trivial, ?_⟩
  refine List.forall_mem_cons.mpr ⟨trivial, ?_⟩
  refine List.forall_mem_cons.mpr ⟨(⟨_, _, _, _, _, rfl, rfl, rfl, own_c20 Z a0 hw, w 180 _ rfl, w 182 _ rfl, rfl, w 181 _ rfl, w 183 _ rfl⟩ : LinkOk Z a0 own_CT own_MT own_m0.1.cls own_m0.1.name own_m0.2.2.2.1 (251, .invokevirtual 12, 3, 42, 20, 0, .null, .int)), ?_⟩
  refine List.forall_mem_cons.mpr ⟨trivial, ?_⟩
  refine List.forall_mem_cons.mpr ⟨(⟨rfl, _, rfl, by decide, by decide⟩ : LinkOk Z a0 own_CT own_MT own_m0.1.cls own_m0.1.name own_m0.2.2.2.1 (256, .ifCond .eq 10, 3, 4, 266, 0, .null, .int)), ?_⟩
  refine List.forall_mem_cons.mpr ⟨trivial, ?_⟩
  refine List.forall_mem_cons.mpr ⟨trivial, ?_⟩
  refine List.forall_mem_cons.mpr ⟨trivial, ?_⟩
  refine List.forall_mem_cons.mpr ⟨(⟨_, _, _, _, _, rfl, rfl, rfl, own_c20 Z a0 hw, w 180 _ rfl, w 182 _ rfl, rfl, w 181 _ rfl, w 183 _ rfl⟩ : LinkOk Z a0 own_CT own_MT own_m0.1.cls own_m0.1.name own_m0.2.2.2.1 (263, .invokevirtual 12, 3, 42, 20, 0, .null, .int)), ?_⟩
  refine List.forall_mem_cons.mpr ⟨trivial, ?_⟩
  refine List.forall_mem_cons.mpr ⟨trivial, ?_⟩
  refine List.forall_mem_cons.mpr ⟨trivial, ?_⟩
  refine List.forall_mem_cons.mpr ⟨trivial, ?_⟩
  refine List.forall_mem_cons.mpr ⟨(⟨rfl, _, rfl, by decide, by decide⟩ : LinkOk Z a0 own_CT own_MT own_m0.1.cls own_m0.1.name own_m0.2.2.2.1 (271, .ifCond .eq 15, 3, 4, 286, 0, .null, .int)), ?_⟩
  refine List.forall_mem_cons.mpr ⟨trivial, ?_⟩
  refine List.forall_mem_cons.mpr ⟨(⟨rfl, _, rfl, by decide, by decide⟩ : LinkOk Z a0 own_CT own_MT own_m0.1.cls own_m0.1.name own_m0.2.2.2.1 (276, .ifCond .ne 10, 3, 4, 286, 0, .null, .int)), ?_⟩
  refine List.forall_mem_cons.mpr ⟨trivial, ?_⟩
  refine List.forall_mem_cons.mpr ⟨trivial, ?_⟩
  refine List.forall_mem_cons.mpr ⟨trivial, ?_⟩
  refine List.forall_mem_cons.mpr ⟨(⟨_, rfl, rfl, by decide, by decide⟩ : LinkOk Z a0 own_CT own_MT own_m0.1.cls own_m0.1.name own_m0.2.2.2.1 (283, .goto 4, 3, 7, 287, 0, .null, .int)), ?_⟩
  refine List.forall_mem_cons.mpr ⟨trivial, ?_⟩
  refine List.forall_mem_cons.mpr ⟨trivial, ?_⟩
  refine List.forall_mem_cons.mpr ⟨trivial, ?_⟩
  refine List.forall_mem_cons.mpr ⟨trivial, ?_⟩
  refine List.forall_mem_cons.mpr ⟨trivial, ?_⟩
  refine List.forall_mem_cons.mpr ⟨trivial, ?_⟩
  refine List.forall_mem_cons.mpr ⟨trivial, ?_⟩
  refine List.forall_mem_cons.mpr ⟨(⟨rfl, _, rfl, by decide, by decide⟩ : LinkOk Z a0 own_CT own_MT own_m0.1.cls own_m0.1.name own_m0.2.2.2.1 (296, .ifCond .eq 16, 3, 4, 312, 0, .null, .int)), ?_⟩
  refine List.forall_mem_cons.mpr ⟨trivial, ?_⟩
  refine List.forall_mem_cons.mpr ⟨trivial, ?_⟩
  refine List.forall_mem_cons.mpr ⟨(⟨rfl, _, rfl, by decide, by decide⟩ : LinkOk Z a0 own_CT own_MT own_m0.1.cls own_m0.1.name own_m0.2.2.2.1 (302, .if_icmp .ne 10, 3, 4, 312, 0, .null, .int)), ?_⟩
  refine List.forall_mem_cons.mpr ⟨trivial, ?_⟩
  refine List.forall_mem_cons.mpr ⟨trivial, ?_⟩
  refine List.forall_mem_cons.mpr ⟨trivial, ?_⟩
  refine List.forall_mem_cons.mpr ⟨(⟨_, rfl, rfl, by decide, by decide⟩ : LinkOk Z a0 own_CT own_MT own_m0.1.cls own_m0.1.name own_m0.2.2.2.1 (309, .goto 4, 3, 7, 313, 0, .null, .int)), ?_⟩
  refine List.forall_mem_cons.mpr ⟨trivial, ?_⟩
  refine List.forall_mem_cons.mpr ⟨trivial, ?_⟩
  refine List.forall_mem_cons.mpr ⟨trivial, ?_⟩
  refine List.forall_mem_cons.mpr ⟨trivial, ?_⟩
  refine List.forall_mem_cons.mpr ⟨trivial, ?_⟩
  refine List.forall_mem_cons.mpr ⟨trivial, ?_⟩
  refine List.forall_mem_cons.mpr ⟨trivial, ?_⟩
  refine List.forall_mem_cons.mpr ⟨trivial, ?_⟩
  refine List.forall_mem_cons.mpr ⟨(⟨rfl, _, rfl, by decide, by decide⟩ : LinkOk Z a0 own_CT own_MT own_m0.1.cls own_m0.1.name own_m0.2.2.2.1 (325, .ifCond .eq 10, 3, 4, 335, 0, .null, .int)), ?_⟩
  refine List.forall_mem_cons.mpr ⟨trivial, ?_⟩
  refine List.forall_mem_cons.mpr ⟨trivial, ?_⟩
  refine List.forall_mem_cons.mpr ⟨(⟨rfl, _, rfl, by decide, by decide⟩ : LinkOk Z a0 own_CT own_MT own_m0.1.cls own_m0.1.name own_m0.2.2.2.1 (332, .if_icmp .ne 19, 3, 4, 351, 0, .null, .int)), ?_⟩
  refine List.forall_mem_cons.mpr ⟨trivial, ?_⟩
  refine List.forall_mem_cons.mpr ⟨(⟨rfl, _, rfl, by decide, by decide⟩ : LinkOk Z a0 own_CT own_MT own_m0.1.cls own_m0.1.name own_m0.2.2.2.1 (337, .ifCond .eq 10, 3, 4, 347, 0, .null, .int)), ?_⟩
  refine List.forall_mem_cons.mpr ⟨trivial, ?_⟩
  refine List.forall_mem_cons.mpr ⟨trivial, ?_⟩
  refine List.forall_mem_cons.mpr ⟨(⟨rfl, _, rfl, by decide, by decide⟩ : LinkOk Z a0 own_CT own_MT own_m0.1.cls own_m0.1.name own_m0.2.2.2.1 (344, .if_icmp .ne 7, 3, 4, 351, 0, .null, .int)), ?_⟩
  refine List.forall_mem_cons.mpr ⟨trivial, ?_⟩
  refine List.forall_mem_cons.mpr ⟨(⟨_, rfl, rfl, by decide, by decide⟩ : LinkOk Z a0 own_CT own_MT own_m0.1.cls own_m0.1.name own_m0.2.2.2.1 (348, .goto 4, 3, 7, 352, 0, .null, .int)), ?_⟩
  refine List.forall_mem_cons.mpr ⟨trivial, ?_⟩
  refine List.forall_mem_cons.mpr ⟨trivial, ?_⟩
  refine List.forall_mem_cons.mpr ⟨trivial, ?_⟩
  refine List.forall_mem_cons.mpr ⟨(⟨rfl, _, rfl, by decide, by decide⟩ : LinkOk Z a0 own_CT own_MT own_m0.1.cls own_m0.1.name own_m0.2.2.2.1 (356, .ifCond .eq 10, 3, 4, 366, 0, .null, .int)), ?_⟩
  refine List.forall_mem_cons.mpr ⟨trivial, ?_⟩
  refine List.forall_mem_cons.mpr ⟨trivial, ?_⟩
  refine List.forall_mem_cons.mpr ⟨trivial, ?_⟩
  refine List.forall_mem_cons.mpr ⟨(⟨_, rfl, rfl, by decide, by decide⟩ : LinkOk Z a0 own_CT own_MT own_m0.1.cls own_m0.1.name own_m0.2.2.2.1 (363, .goto 4, 3, 7, 367, 0, .null, .int)), ?_⟩
  refine List.forall_mem_cons.mpr ⟨trivial, ?_⟩
  refine List.forall_mem_cons.mpr ⟨trivial, ?_⟩
  refine List.forall_mem_cons.mpr ⟨trivial, ?_⟩
  refine List.forall_mem_cons.mpr ⟨(⟨rfl, _, rfl, by decide, by decide⟩ : LinkOk Z a0 own_CT own_MT own_m0.1.cls own_m0.1.name own_m0.2.2.2.1 (371, .ifCond .eq 8, 3, 4, 379, 0, .null, .int)), ?_⟩
  refine List.forall_mem_cons.mpr ⟨trivial, ?_⟩
  refine List.forall_mem_cons.mpr ⟨(⟨rfl, _, rfl, by decide, by decide⟩ : LinkOk Z a0 own_CT own_MT own_m0.1.cls own_m0.1.name own_m0.2.2.2.1 (376, .ifCond .ne 7, 3, 4, 383, 0, .null, .int)), ?_⟩
  refine List.forall_mem_cons.mpr ⟨trivial, ?_⟩
  refine List.forall_mem_cons.mpr ⟨(⟨_, rfl, rfl, by decide, by decide⟩ : LinkOk Z a0 own_CT own_MT own_m0.1.cls own_m0.1.name own_m0.2.2.2.1 (380, .goto 4, 3, 7, 384, 0, .null, .int)), ?_⟩
  refine List.forall_mem_cons.mpr ⟨trivial, ?_⟩
  refine List.forall_mem_cons.mpr ⟨trivial, ?_⟩
  refine List.forall_mem_cons.mpr ⟨trivial, ?_⟩
  refine List.forall_mem_cons.mpr ⟨trivial, ?_⟩
  refine List.forall_mem_cons.mpr ⟨(⟨_, _, _, _, _, rfl, rfl, rfl, own_c22 Z a0 hw, w 191 _ rfl, w 193 _ rfl, rfl, w 192 _ rfl, w 194 _ rfl⟩ : LinkOk Z a0 own_CT own_MT own_m0.1.cls own_m0.1.name own_m0.2.2.2.1 (389, .invokevirtual 19, 3, 42, 22, 0, .null, .int)), ?_⟩
  refine List.forall_mem_cons.mpr ⟨trivial, ?_⟩
  refine List.forall_mem_cons.mpr ⟨(⟨rfl, _, rfl, by decide, by decide⟩ : LinkOk Z a0 own_CT own_MT own_m0.1.cls own_m0.1.name own_m0.2.2.2.1 (394, .if_icmp .ne 18, 3, 4, 412, 0, .null, .int)), ?_⟩
  refine List.forall_mem_cons.mpr ⟨trivial, ?_⟩
  refine List.forall_mem_cons.mpr ⟨trivial, ?_⟩
  refine List.forall_mem_cons.mpr ⟨(⟨_, _, _, _, _, rfl, rfl, rfl, own_c22 Z a0 hw, w 191 _ rfl, w 193 _ rfl, rfl, w 192 _ rfl, w 194 _ rfl⟩ : LinkOk Z a0 own_CT own_MT own_m0.1.cls own_m0.1.name own_m0.2.2.2.1 (400, .invokevirtual 19, 3, 42, 22, 0, .null, .int)), ?_⟩
  refine List.forall_mem_cons.mpr ⟨trivial, ?_⟩
  refine List.forall_mem_cons.mpr ⟨(⟨rfl, _, rfl, by decide, by decide⟩ : LinkOk Z a0 own_CT own_MT own_m0.1.cls own_m0.1.name own_m0.2.2.2.1 (405, .if_icmp .ne 7, 3, 4, 412, 0, .null, .int)), ?_⟩
  refine List.forall_mem_cons.mpr ⟨trivial, ?_⟩
  refine List.forall_mem_cons.mpr ⟨(⟨_, rfl, rfl, by decide, by decide⟩ : LinkOk Z a0 own_CT own_MT own_m0.1.cls own_m0.1.name own_m0.2.2.2.1 (409, .goto 4, 3, 7, 413, 0, .null, .int)), ?_⟩
  refine List.forall_mem_cons.mpr ⟨trivial, ?_⟩
  refine List.forall_mem_cons.mpr ⟨(⟨rfl, rfl, rfl⟩ : LinkOk Z a0 own_CT own_MT own_m0.1.cls own_m0.1.name own_m0.2.2.2.1 (413, .ireturn, 1, 32, 0, 0, .null, .int)), ?_⟩
  exact fun _ h => nomatch h
set_option maxRecDepth 65536 in
theorem own_ok1 (Z : State) (a0 : Array Value) (hw : ∀ d ∈ tables_1, d.before a0 Z = true) : MOk Z a0 own_CT own_MT own_m1 := by
  have w := fun (k : Nat) (d : Jvm.Cond) (h : tables_1[k]? = some d) => hw d (List.mem_of_getElem? h)
  refine mOk_of own_pn1 own_d1 ?_
  refine List.forall_mem_cons.mpr ⟨trivial, ?_⟩
  refine List.forall_mem_cons.mpr ⟨(⟨_, rfl, rfl, w 6 _ rfl, w 7 _ rfl, w 8 _ rfl⟩ : LinkOk Z a0 own_CT own_MT own_m1.1.cls own_m1.1.name own_m1.2.2.2.1 (1, .invokespecial 1, 3, 16, 0, 0, .null, .int)), ?_⟩
  refine List.forall_mem_cons.mpr ⟨trivial, ?_⟩
  refine List.forall_mem_cons.mpr ⟨(⟨_, _, _, _, rfl, rfl, rfl, w 9 _ rfl⟩ : LinkOk Z a0 own_CT own_MT own_m1.1.cls own_m1.1.name own_m1.2.2.2.1 (5, .new 7, 3, 14, 1, 0, .null, .int)), ?_⟩
  refine List.forall_mem_cons.mpr ⟨trivial, ?_⟩
  refine List.forall_mem_cons.mpr ⟨(⟨_, _, rfl, rfl, rfl, own_c2 Z a0 hw, w 12 _ rfl, w 13 _ rfl, rfl, rfl⟩ : LinkOk Z a0 own_CT own_MT own_m1.1.cls own_m1.1.name own_m1.2.2.2.1 (9, .invokespecial 9, 3, 41, 2, 1, .null, .int)), ?_⟩
  refine List.forall_mem_cons.mpr ⟨(⟨_, _, _, _, _, rfl, rfl, rfl, rfl, rfl, Or.inl (w 26 _ rfl), fun _ => ⟨rfl, rfl⟩⟩ : LinkOk Z a0 own_CT own_MT own_m1.1.cls own_m1.1.name own_m1.2.2.2.1 (12, .putfield 10, 3, 10, 0, 0, .null, (.object "com/example/nequiv/nequiv/PairTable"))), ?_⟩
  refine List.forall_mem_cons.mpr ⟨trivial, ?_⟩
  refine List.forall_mem_cons.mpr ⟨trivial, ?_⟩
  refine List.forall_mem_cons.mpr ⟨(⟨_, rfl, rfl, w 28 _ rfl⟩ : LinkOk Z a0 own_CT own_MT own_m1.1.cls own_m1.1.name own_m1.2.2.2.1 (17, .newarray .int, 2, 15, 0, 0, .null, .int)), ?_⟩
  refine List.forall_mem_cons.mpr ⟨(⟨_, _, _, _, _, rfl, rfl, rfl, rfl, rfl, Or.inl (w 29 _ rfl), fun h => nomatch h⟩ : LinkOk Z a0 own_CT own_MT own_m1.1.cls own_m1.1.name own_m1.2.2.2.1 (19, .putfield 16, 3, 10, 0, 1, .null, (.array .int))), ?_⟩
  refine List.forall_mem_cons.mpr ⟨trivial, ?_⟩
  refine List.forall_mem_cons.mpr ⟨trivial, ?_⟩
  refine List.forall_mem_cons.mpr ⟨(⟨_, rfl, rfl, w 28 _ rfl⟩ : LinkOk Z a0 own_CT own_MT own_m1.1.cls own_m1.1.name own_m1.2.2.2.1 (24, .newarray .int, 2, 15, 0, 0, .null, .int)), ?_⟩
  refine List.forall_mem_cons.mpr ⟨(⟨_, _, _, _, _, rfl, rfl, rfl, rfl, rfl, Or.inl (w 31 _ rfl), fun h => nomatch h⟩ : LinkOk Z a0 own_CT own_MT own_m1.1.cls own_m1.1.name own_m1.2.2.2.1 (26, .putfield 20, 3, 10, 0, 2, .null, (.array .int))), ?_⟩
  refine List.forall_mem_cons.mpr ⟨trivial, ?_⟩
  refine List.forall_mem_cons.mpr ⟨(⟨_, _, _, _, rfl, rfl, rfl, w 9 _ rfl⟩ : LinkOk Z a0 own_CT own_MT own_m1.1.cls own_m1.1.name own_m1.2.2.2.1 (30, .new 7, 3, 14, 1, 0, .null, .int)), ?_⟩
  refine List.forall_mem_cons.mpr ⟨trivial, ?_⟩
  refine List.forall_mem_cons.mpr ⟨(⟨_, _, rfl, rfl, rfl, own_c2 Z a0 hw, w 12 _ rfl, w 13 _ rfl, rfl, rfl⟩ : LinkOk Z a0 own_CT own_MT own_m1.1.cls own_m1.1.name own_m1.2.2.2.1 (34, .invokespecial 9, 3, 41, 2, 1, .null, .int)), ?_⟩
  refine List.forall_mem_cons.mpr ⟨(⟨_, _, _, _, _, rfl, rfl, rfl, rfl, rfl, Or.inl (w 33 _ rfl), fun _ => ⟨rfl, rfl⟩⟩ : LinkOk Z a0 own_CT own_MT own_m1.1.cls own_m1.1.name own_m1.2.2.2.1 (37, .putfield 23, 3, 10, 0, 3, .null, (.object "com/example/nequiv/nequiv/PairTable"))), ?_⟩
  refine List.forall_mem_cons.mpr ⟨trivial, ?_⟩
  refine List.forall_mem_cons.mpr ⟨trivial, ?_⟩
  refine List.forall_mem_cons.mpr ⟨(⟨_, rfl, rfl, w 35 _ rfl⟩ : LinkOk Z a0 own_CT own_MT own_m1.1.cls own_m1.1.name own_m1.2.2.2.1 (42, .newarray .boolean, 2, 15, 0, 0, .null, .int)), ?_⟩
  refine List.forall_mem_cons.mpr ⟨(⟨_, _, _, _, _, rfl, rfl, rfl, rfl, rfl, Or.inl (w 36 _ rfl), fun h => nomatch h⟩ : LinkOk Z a0 own_CT own_MT own_m1.1.cls own_m1.1.name own_m1.2.2.2.1 (44, .putfield 26, 3, 10, 0, 4, .null, (.array .boolean))), ?_⟩
  refine List.forall_mem_cons.mpr ⟨trivial, ?_⟩
  refine List.forall_mem_cons.mpr ⟨trivial, ?_⟩
  refine List.forall_mem_cons.mpr ⟨(⟨_, rfl, rfl, w 28 _ rfl⟩ : LinkOk Z a0 own_CT own_MT own_m1.1.cls own_m1.1.name own_m1.2.2.2.1 (49, .newarray .int, 2, 15, 0, 0, .null, .int)), ?_⟩
  refine List.forall_mem_cons.mpr ⟨(⟨_, _, _, _, _, rfl, rfl, rfl, rfl, rfl, Or.inl (w 38 _ rfl), fun _ => ⟨rfl, rfl⟩⟩ : LinkOk Z a0 own_CT own_MT own_m1.1.cls own_m1.1.name own_m1.2.2.2.1 (51, .putfield 30, 3, 10, 0, 5, .null, (.array .int))), ?_⟩
  refine List.forall_mem_cons.mpr ⟨trivial, ?_⟩
  refine List.forall_mem_cons.mpr ⟨(⟨_, _, _, _, _, rfl, rfl, rfl, rfl, Or.inl (w 38 _ rfl)⟩ : LinkOk Z a0 own_CT own_MT own_m1.1.cls own_m1.1.name own_m1.2.2.2.1 (55, .getfield 30, 3, 2, 0, 5, .null, .int)), ?_⟩
  refine List.forall_mem_cons.mpr ⟨trivial, ?_⟩
  refine List.forall_mem_cons.mpr ⟨(⟨_, _, rfl, rfl, rfl, own_c4 Z a0 hw, w 40 _ rfl, w 41 _ rfl⟩ : LinkOk Z a0 own_CT own_MT own_m1.1.cls own_m1.1.name own_m1.2.2.2.1 (59, .invokestatic 33, 3, 40, 4, 0, .null, .int)), ?_⟩
  refine List.forall_mem_cons.mpr ⟨trivial, ?_⟩
  refine List.forall_mem_cons.mpr ⟨trivial, ?_⟩
  refine List.forall_mem_cons.mpr ⟨(⟨_, rfl, rfl, w 28 _ rfl⟩ : LinkOk Z a0 own_CT own_MT own_m1.1.cls own_m1.1.name own_m1.2.2.2.1 (64, .newarray .int, 2, 15, 0, 0, .null, .int)), ?_⟩
  refine List.forall_mem_cons.mpr ⟨(⟨_, _, _, _, _, rfl, rfl, rfl, rfl, rfl, Or.inl (w 43 _ rfl), fun _ => ⟨rfl, rfl⟩⟩ : LinkOk Z a0 own_CT own_MT own_m1.1.cls own_m1.1.name own_m1.2.2.2.1 (66, .putfield 39, 3, 10, 0, 6, .null, (.array .int))), ?_⟩
  refine List.forall_mem_cons.mpr ⟨trivial, ?_⟩
  refine List.forall_mem_cons.mpr ⟨trivial, ?_⟩
  refine List.forall_mem_cons.mpr ⟨(⟨_, rfl, rfl, w 28 _ rfl⟩ : LinkOk Z a0 own_CT own_MT own_m1.1.cls own_m1.1.name own_m1.2.2.2.1 (71, .newarray .int, 2, 15, 0, 0, .null, .int)), ?_⟩
  refine List.forall_mem_cons.mpr ⟨(⟨_, _, _, _, _, rfl, rfl, rfl, rfl, rfl, Or.inl (w 45 _ rfl), fun _ => ⟨rfl, rfl⟩⟩ : LinkOk Z a0 own_CT own_MT own_m1.1.cls own_m1.1.name own_m1.2.2.2.1 (73, .putfield 42, 3, 10, 0, 7, .null, (.array .int))), ?_⟩
  refine List.forall_mem_cons.mpr ⟨trivial, ?_⟩
  refine List.forall_mem_cons.mpr ⟨trivial, ?_⟩
  refine List.forall_mem_cons.mpr ⟨(⟨_, rfl, rfl, w 28 _ rfl⟩ : LinkOk Z a0 own_CT own_MT own_m1.1.cls own_m1.1.name own_m1.2.2.2.1 (78, .newarray .int, 2, 15, 0, 0, .null, .int)), ?_⟩
  refine List.forall_mem_cons.mpr ⟨(⟨_, _, _, _, _, rfl, rfl, rfl, rfl, rfl, Or.inl (w 47 _ rfl), fun _ => ⟨rfl, rfl⟩⟩ : LinkOk Z a0 own_CT own_MT own_m1.1.cls own_m1.1.name own_m1.2.2.2.1 (80, .putfield 45, 3, 10, 0, 8, .null, (.array .int))), ?_⟩
  refine List.forall_mem_cons.mpr ⟨trivial, ?_⟩
  refine List.forall_mem_cons.mpr ⟨trivial, ?_⟩
  refine List.forall_mem_cons.mpr ⟨(⟨_, rfl, rfl, w 28 _ rfl⟩ : LinkOk Z a0 own_CT own_MT own_m1.1.cls own_m1.1.name own_m1.2.2.2.1 (85, .newarray .int, 2, 15, 0, 0, .null, .int)), ?_⟩
  refine List.forall_mem_cons.mpr ⟨(⟨_, _, _, _, _, rfl, rfl, rfl, rfl, rfl, Or.inl (w 49 _ rfl), fun _ => ⟨rfl, rfl⟩⟩ : LinkOk Z a0 own_CT own_MT own_m1.1.cls own_m1.1.name own_m1.2.2.2.1 (87, .putfield 48, 3, 10, 0, 9, .null, (.array .int))), ?_⟩
  refine List.forall_mem_cons.mpr ⟨trivial, ?_⟩
  refine List.forall_mem_cons.mpr ⟨trivial, ?_⟩
  refine List.forall_mem_cons.mpr ⟨(⟨_, rfl, rfl, w 28 _ rfl⟩ : LinkOk Z a0 own_CT own_MT own_m1.1.cls own_m1.1.name own_m1.2.2.2.1 (92, .newarray .int, 2, 15, 0, 0, .null, .int)), ?_⟩
  refine List.forall_mem_cons.mpr ⟨(⟨_, _, _, _, _, rfl, rfl, rfl, rfl, rfl, Or.inl (w 51 _ rfl), fun _ => ⟨rfl, rfl⟩⟩ : LinkOk Z a0 own_CT own_MT own_m1.1.cls own_m1.1.name own_m1.2.2.2.1 (94, .putfield 51, 3, 10, 0, 10, .null, (.array .int))), ?_⟩
  refine List.forall_mem_cons.mpr ⟨trivial, ?_⟩
  refine List.forall_mem_cons.mpr ⟨trivial, ?_⟩
  refine List.forall_mem_cons.mpr ⟨(⟨_, rfl, rfl, w 28 _ rfl⟩ : LinkOk Z a0 own_CT own_MT own_m1.1.cls own_m1.1.name own_m1.2.2.2.1 (99, .newarray .int, 2, 15, 0, 0, .null, .int)), ?_⟩
  refine List.forall_mem_cons.mpr ⟨(⟨_, _, _, _, _, rfl, rfl, rfl, rfl, rfl, Or.inl (w 53 _ rfl), fun _ => ⟨rfl, rfl⟩⟩ : LinkOk Z a0 own_CT own_MT own_m1.1.cls own_m1.1.name own_m1.2.2.2.1 (101, .putfield 54, 3, 10, 0, 11, .null, (.array .int))), ?_⟩
  refine List.forall_mem_cons.mpr ⟨trivial, ?_⟩
  refine List.forall_mem_cons.mpr ⟨trivial, ?_⟩
  refine List.forall_mem_cons.mpr ⟨(⟨_, rfl, rfl, w 28 _ rfl⟩ : LinkOk Z a0 own_CT own_MT own_m1.1.cls own_m1.1.name own_m1.2.2.2.1 (106, .newarray .int, 2, 15, 0, 0, .null, .int)), ?_⟩
  refine List.forall_mem_cons.mpr ⟨(⟨_, _, _, _, _, rfl, rfl, rfl, rfl, rfl, Or.inl (w 55 _ rfl), fun _ => ⟨rfl, rfl⟩⟩ : LinkOk Z a0 own_CT own_MT own_m1.1.cls own_m1.1.name own_m1.2.2.2.1 (108, .putfield 57, 3, 10, 0, 12, .null, (.array .int))), ?_⟩
  refine List.forall_mem_cons.mpr ⟨trivial, ?_⟩
  refine List.forall_mem_cons.mpr ⟨trivial, ?_⟩
  refine List.forall_mem_cons.mpr ⟨(⟨_, rfl, rfl, w 28 _ rfl⟩ : LinkOk Z a0 own_CT own_MT own_m1.1.cls own_m1.1.name own_m1.2.2.2.1 (113, .newarray .int, 2, 15, 0, 0, .null, .int)), ?_⟩
  refine List.forall_mem_cons.mpr ⟨(⟨_, _, _, _, _, rfl, rfl, rfl, rfl, rfl, Or.inl (w 57 _ rfl), fun _ => ⟨rfl, rfl⟩⟩ : LinkOk Z a0 own_CT own_MT own_m1.1.cls own_m1.1.name own_m1.2.2.2.1 (115, .putfield 60, 3, 10, 0, 13, .null, (.array .int))), ?_⟩
  refine List.forall_mem_cons.mpr ⟨trivial, ?_⟩
  refine List.forall_mem_cons.mpr ⟨trivial, ?_⟩
  refine List.forall_mem_cons.mpr ⟨(⟨_, rfl, rfl, w 28 _ rfl⟩ : LinkOk Z a0 own_CT own_MT own_m1.1.cls own_m1.1.name own_m1.2.2.2.1 (120, .newarray .int, 2, 15, 0, 0, .null, .int)), ?_⟩
  refine List.forall_mem_cons.mpr ⟨(⟨_, _, _, _, _, rfl, rfl, rfl, rfl, rfl, Or.inl (w 59 _ rfl), fun _ => ⟨rfl, rfl⟩⟩ : LinkOk Z a0 own_CT own_MT own_m1.1.cls own_m1.1.name own_m1.2.2.2.1 (122, .putfield 63, 3, 10, 0, 14, .null, (.array .int))), ?_⟩
  refine List.forall_mem_cons.mpr ⟨trivial, ?_⟩
  refine List.forall_mem_cons.mpr ⟨trivial, ?_⟩
  refine List.forall_mem_cons.mpr ⟨(⟨_, rfl, rfl, w 28 _ rfl⟩ : LinkOk Z a0 own_CT own_MT own_m1.1.cls own_m1.1.name own_m1.2.2.2.1 (127, .newarray .int, 2, 15, 0, 0, .null, .int)), ?_⟩
  refine List.forall_mem_cons.mpr ⟨(⟨_, _, _, _, _, rfl, rfl, rfl, rfl, rfl, Or.inl (w 61 _ rfl), fun _ => ⟨rfl, rfl⟩⟩ : LinkOk Z a0 own_CT own_MT own_m1.1.cls own_m1.1.name own_m1.2.2.2.1 (129, .putfield 66, 3, 10, 0, 15, .null, (.array .int))), ?_⟩
  refine List.forall_mem_cons.mpr ⟨trivial, ?_⟩
  refine List.forall_mem_cons.mpr ⟨(⟨_, _, _, _, _, rfl, rfl, rfl, rfl, Or.inl (w 61 _ rfl)⟩ : LinkOk Z a0 own_CT own_MT own_m1.1.cls own_m1.1.name own_m1.2.2.2.1 (133, .getfield 66, 3, 2, 0, 15, .null, .int)), ?_⟩
  refine List.forall_mem_cons.mpr ⟨trivial, ?_⟩
  refine List.forall_mem_cons.mpr ⟨(⟨_, _, rfl, rfl, rfl, own_c4 Z a0 hw, w 40 _ rfl, w 41 _ rfl⟩ : LinkOk Z a0 own_CT own_MT own_m1.1.cls own_m1.1.name own_m1.2.2.2.1 (137, .invokestatic 33, 3, 40, 4, 0, .null, .int)), ?_⟩
  refine List.forall_mem_cons.mpr ⟨trivial, ?_⟩
  refine List.forall_mem_cons.mpr ⟨trivial, ?_⟩
  refine List.forall_mem_cons.mpr ⟨(⟨_, rfl, rfl, w 28 _ rfl⟩ : LinkOk Z a0 own_CT own_MT own_m1.1.cls own_m1.1.name own_m1.2.2.2.1 (142, .newarray .int, 2, 15, 0, 0, .null, .int)), ?_⟩
  refine List.forall_mem_cons.mpr ⟨(⟨_, _, _, _, _, rfl, rfl, rfl, rfl, rfl, Or.inl (w 63 _ rfl), fun _ => ⟨rfl, rfl⟩⟩ : LinkOk Z a0 own_CT own_MT own_m1.1.cls own_m1.1.name own_m1.2.2.2.1 (144, .putfield 69, 3, 10, 0, 16, .null, (.array .int))), ?_⟩
  refine List.forall_mem_cons.mpr ⟨trivial, ?_⟩
  refine List.forall_mem_cons.mpr ⟨trivial, ?_⟩
  refine List.forall_mem_cons.mpr ⟨(⟨_, rfl, rfl, w 35 _ rfl⟩ : LinkOk Z a0 own_CT own_MT own_m1.1.cls own_m1.1.name own_m1.2.2.2.1 (149, .newarray .boolean, 2, 15, 0, 0, .null, .int)), ?_⟩
  refine List.forall_mem_cons.mpr ⟨(⟨_, _, _, _, _, rfl, rfl, rfl, rfl, rfl, Or.inl (w 65 _ rfl), fun _ => ⟨rfl, rfl⟩⟩ : LinkOk Z a0 own_CT own_MT own_m1.1.cls own_m1.1.name own_m1.2.2.2.1 (151, .putfield 72, 3, 10, 0, 17, .null, (.array .boolean))), ?_⟩
  refine List.forall_mem_cons.mpr ⟨trivial, ?_⟩
  refine List.forall_mem_cons.mpr ⟨trivial, ?_⟩
  refine List.forall_mem_cons.mpr ⟨(⟨_, rfl, rfl, w 28 _ rfl⟩ : LinkOk Z a0 own_CT own_MT own_m1.1.cls own_m1.1.name own_m1.2.2.2.1 (156, .newarray .int, 2, 15, 0, 0, .null, .int)), ?_⟩
  refine List.forall_mem_cons.mpr ⟨(⟨_, _, _, _, _, rfl, rfl, rfl, rfl, rfl, Or.inl (w 67 _ rfl), fun _ => ⟨rfl, rfl⟩⟩ : LinkOk Z a0 own_CT own_MT own_m1.1.cls own_m1.1.name own_m1.2.2.2.1 (158, .putfield 75, 3, 10, 0, 18, .null, (.array .int))), ?_⟩
  refine List.forall_mem_cons.mpr ⟨trivial, ?_⟩
  refine List.forall_mem_cons.mpr ⟨trivial, ?_⟩
  refine List.forall_mem_cons.mpr ⟨(⟨_, rfl, rfl, w 28 _ rfl⟩ : LinkOk Z a0 own_CT own_MT own_m1.1.cls own_m1.1.name own_m1.2.2.2.1 (163, .newarray .int, 2, 15, 0, 0, .null, .int)), ?_⟩
  refine List.forall_mem_cons.mpr ⟨(⟨_, _, _, _, _, rfl, rfl, rfl, rfl, rfl, Or.inl (w 69 _ rfl), fun _ => ⟨rfl, rfl⟩⟩ : LinkOk Z a0 own_CT own_MT own_m1.1.cls own_m1.1.name own_m1.2.2.2.1 (165, .putfield 78, 3, 10, 0, 19, .null, (.array .int))), ?_⟩
  refine List.forall_mem_cons.mpr ⟨trivial, ?_⟩
  refine List.forall_mem_cons.mpr ⟨trivial, ?_⟩
  refine List.forall_mem_cons.mpr ⟨(⟨_, rfl, rfl, w 28 _ rfl⟩ : LinkOk Z a0 own_CT own_MT own_m1.1.cls own_m1.1.name own_m1.2.2.2.1 (170, .newarray .int, 2, 15, 0, 0, .null, .int)), ?_⟩
  refine List.forall_mem_cons.mpr ⟨(⟨_, _, _, _, _, rfl, rfl, rfl, rfl, rfl, Or.inl (w 71 _ rfl), fun _ => ⟨rfl, rfl⟩⟩ : LinkOk Z a0 own_CT own_MT own_m1.1.cls own_m1.1.name own_m1.2.2.2.1 (172, .putfield 81, 3, 10, 0, 20, .null, (.array .int))), ?_⟩
  refine List.forall_mem_cons.mpr ⟨trivial, ?_⟩
  refine List.forall_mem_cons.mpr ⟨trivial, ?_⟩
  refine List.forall_mem_cons.mpr ⟨(⟨_, rfl, rfl, w 28 _ rfl⟩ : LinkOk Z a0 own_CT own_MT own_m1.1.cls own_m1.1.name own_m1.2.2.2.1 (177, .newarray .int, 2, 15, 0, 0, .null, .int)), ?_⟩
  refine List.forall_mem_cons.mpr ⟨(⟨_, _, _, _, _, rfl, rfl, rfl, rfl, rfl, Or.inl (w 73 _ rfl), fun _ => ⟨rfl, rfl⟩⟩ : LinkOk Z a0 own_CT own_MT own_m1.1.cls own_m1.1.name own_m1.2.2.2.1 (179, .putfield 84, 3, 10, 0, 21, .null, (.array .int))), ?_⟩
  refine List.forall_mem_cons.mpr ⟨trivial, ?_⟩
  refine List.forall_mem_cons.mpr ⟨trivial, ?_⟩
  refine List.forall_mem_cons.mpr ⟨(⟨_, rfl, rfl, w 28 _ rfl⟩ : LinkOk Z a0 own_CT own_MT own_m1.1.cls own_m1.1.name own_m1.2.2.2.1 (184, .newarray .int, 2, 15, 0, 0, .null, .int)), ?_⟩
  refine List.forall_mem_cons.mpr ⟨(⟨_, _, _, _, _, rfl, rfl, rfl, rfl, rfl, Or.inl (w 75 _ rfl), fun _ => ⟨rfl, rfl⟩⟩ : LinkOk Z a0 own_CT own_MT own_m1.1.cls own_m1.1.name own_m1.2.2.2.1 (186, .putfield 87, 3, 10, 0, 22, .null, (.array .int))), ?_⟩
  refine List.forall_mem_cons.mpr ⟨trivial, ?_⟩
  refine List.forall_mem_cons.mpr ⟨trivial, ?_⟩
  refine List.forall_mem_cons.mpr ⟨(⟨_, rfl, rfl, w 28 _ rfl⟩ : LinkOk Z a0 own_CT own_MT own_m1.1.cls own_m1.1.name own_m1.2.2.2.1 (191, .newarray .int, 2, 15, 0, 0, .null, .int)), ?_⟩
  refine List.forall_mem_cons.mpr ⟨(⟨_, _, _, _, _, rfl, rfl, rfl, rfl, rfl, Or.inl (w 77 _ rfl), fun _ => ⟨rfl, rfl⟩⟩ : LinkOk Z a0 own_CT own_MT own_m1.1.cls own_m1.1.name own_m1.2.2.2.1 (193, .putfield 90, 3, 10, 0, 23, .null, (.array .int))), ?_⟩
  refine List.forall_mem_cons.mpr ⟨trivial, ?_⟩
  refine List.forall_mem_cons.mpr ⟨trivial, ?_⟩
  refine List.forall_mem_cons.mpr ⟨(⟨_, rfl, rfl, w 28 _ rfl⟩ : LinkOk Z a0 own_CT own_MT own_m1.1.cls own_m1.1.name own_m1.2.2.2.1 (198, .newarray .int, 2, 15, 0, 0, .null, .int)), ?_⟩
  refine List.forall_mem_cons.mpr ⟨(⟨_, _, _, _, _, rfl, rfl, rfl, rfl, rfl, Or.inl (w 79 _ rfl), fun _ => ⟨rfl, rfl⟩⟩ : LinkOk Z a0 own_CT own_MT own_m1.1.cls own_m1.1.name own_m1.2.2.2.1 (200, .putfield 93, 3, 10, 0, 24, .null, (.array .int))), ?_⟩
  refine List.forall_mem_cons.mpr ⟨trivial, ?_⟩
  refine List.forall_mem_cons.mpr ⟨trivial, ?_⟩
  refine List.forall_mem_cons.mpr ⟨(⟨_, rfl, rfl, w 28 _ rfl⟩ : LinkOk Z a0 own_CT own_MT own_m1.1.cls own_m1.1.name own_m1.2.2.2.1 (205, .newarray .int, 2, 15, 0, 0, .null, .int)), ?_⟩
  refine List.forall_mem_cons.mpr ⟨(⟨_, _, _, _, _, rfl, rfl, rfl, rfl, rfl, Or.inl (w 81 _ rfl), fun _ => ⟨rfl, rfl⟩⟩ : LinkOk Z a0 own_CT own_MT own_m1.1.cls own_m1.1.name own_m1.2.2.2.1 (207, .putfield 96, 3, 10, 0, 25, .null, (.array .int))), ?_⟩
  refine List.forall_mem_cons.mpr ⟨trivial, ?_⟩
  refine List.forall_mem_cons.mpr ⟨trivial, ?_⟩
  refine List.forall_mem_cons.mpr ⟨(⟨_, rfl, rfl, w 28 _ rfl⟩ : LinkOk Z a0 own_CT own_MT own_m1.1.cls own_m1.1.name own_m1.2.2.2.1 (212, .newarray .int, 2, 15, 0, 0, .null, .int)), ?_⟩
  refine List.forall_mem_cons.mpr ⟨(⟨_, _, _, _, _, rfl, rfl, rfl, rfl, rfl, Or.inl (w 83 _ rfl), fun _ => ⟨rfl, rfl⟩⟩ : LinkOk Z a0 own_CT own_MT own_m1.1.cls own_m1.1.name own_m1.2.2.2.1 (214, .putfield 99, 3, 10, 0, 26, .null, (.array .int))), ?_⟩
  refine List.forall_mem_cons.mpr ⟨trivial, ?_⟩
  refine List.forall_mem_cons.mpr ⟨trivial, ?_⟩
  refine List.forall_mem_cons.mpr ⟨(⟨_, rfl, rfl, w 28 _ rfl⟩ : LinkOk Z a0 own_CT own_MT own_m1.1.cls own_m1.1.name own_m1.2.2.2.1 (219, .newarray .int, 2, 15, 0, 0, .null, .int)), ?_⟩
  refine List.forall_mem_cons.mpr ⟨(⟨_, _, _, _, _, rfl, rfl, rfl, rfl, rfl, Or.inl (w 85 _ rfl), fun _ => ⟨rfl, rfl⟩⟩ : LinkOk Z a0 own_CT own_MT own_m1.1.cls own_m1.1.name own_m1.2.2.2.1 (221, .putfield 102, 3, 10, 0, 27, .null, (.array .int))), ?_⟩
  refine List.forall_mem_cons.mpr ⟨trivial, ?_⟩
  refine List.forall_mem_cons.mpr ⟨trivial, ?_⟩
  refine List.forall_mem_cons.mpr ⟨(⟨_, rfl, rfl, w 28 _ rfl⟩ : LinkOk Z a0 own_CT own_MT own_m1.1.cls own_m1.1.name own_m1.2.2.2.1 (226, .newarray .int, 2, 15, 0, 0, .null, .int)), ?_⟩
  refine List.forall_mem_cons.mpr ⟨(⟨_, _, _, _, _, rfl, rfl, rfl, rfl, rfl, Or.inl (w 87 _ rfl), fun _ => ⟨rfl, rfl⟩⟩ : LinkOk Z a0 own_CT own_MT own_m1.1.cls own_m1.1.name own_m1.2.2.2.1 (228, .putfield 105, 3, 10, 0, 28, .null, (.array .int))), ?_⟩
  refine List.forall_mem_cons.mpr ⟨trivial, ?_⟩
  refine List.forall_mem_cons.mpr ⟨(⟨_, _, _, _, _, rfl, rfl, rfl, rfl, Or.inl (w 87 _ rfl)⟩ : LinkOk Z a0 own_CT own_MT own_m1.1.cls own_m1.1.name own_m1.2.2.2.1 (232, .getfield 105, 3, 2, 0, 28, .null, .int)), ?_⟩
  refine List.forall_mem_cons.mpr ⟨trivial, ?_⟩
  refine List.forall_mem_cons.mpr ⟨(⟨_, _, rfl, rfl, rfl, own_c4 Z a0 hw, w 40 _ rfl, w 41 _ rfl⟩ : LinkOk Z a0 own_CT own_MT own_m1.1.cls own_m1.1.name own_m1.2.2.2.1 (236, .invokestatic 33, 3, 40, 4, 0, .null, .int)), ?_⟩
  refine List.forall_mem_cons.mpr ⟨trivial, ?_⟩
  refine List.forall_mem_cons.mpr ⟨trivial, ?_⟩
  refine List.forall_mem_cons.mpr ⟨(⟨_, rfl, rfl, w 28 _ rfl⟩ : LinkOk Z a0 own_CT own_MT own_m1.1.cls own_m1.1.name own_m1.2.2.2.1 (241, .newarray .int, 2, 15, 0, 0, .null, .int)), ?_⟩
  refine List.forall_mem_cons.mpr ⟨(⟨_, _, _, _, _, rfl, rfl, rfl, rfl, rfl, Or.inl (w 89 _ rfl), fun _ => ⟨rfl, rfl⟩⟩ : LinkOk Z a0 own_CT own_MT own_m1.1.cls own_m1.1.name own_m1.2.2.2.1 (243, .putfield 108, 3, 10, 0, 29, .null, (.array .int))), ?_⟩
  refine List.forall_mem_cons.mpr ⟨trivial, ?_⟩
  refine List.forall_mem_cons.mpr ⟨trivial, ?_⟩
  refine List.forall_mem_cons.mpr ⟨(⟨_, rfl, rfl, w 28 _ rfl⟩ : LinkOk Z a0 own_CT own_MT own_m1.1.cls own_m1.1.name own_m1.2.2.2.1 (248, .newarray .int, 2, 15, 0, 0, .null, .int)), ?_⟩
  refine List.forall_mem_cons.mpr ⟨(⟨_, _, _, _, _, rfl, rfl, rfl, rfl, rfl, Or.inl (w 91 _ rfl), fun _ => ⟨rfl, rfl⟩⟩ : LinkOk Z a0 own_CT own_MT own_m1.1.cls own_m1.1.name own_m1.2.2.2.1 (250, .putfield 111, 3, 10, 0, 30, .null, (.array .int))), ?_⟩
  refine List.forall_mem_cons.mpr ⟨trivial, ?_⟩
  refine List.forall_mem_cons.mpr ⟨trivial, ?_⟩
  refine List.forall_mem_cons.mpr ⟨(⟨_, rfl, rfl, w 28 _ rfl⟩ : LinkOk Z a0 own_CT own_MT own_m1.1.cls own_m1.1.name own_m1.2.2.2.1 (255, .newarray .int, 2, 15, 0, 0, .null, .int)), ?_⟩
  refine List.forall_mem_cons.mpr ⟨(⟨_, _, _, _, _, rfl, rfl, rfl, rfl, rfl, Or.inl (w 93 _ rfl), fun _ => ⟨rfl, rfl⟩⟩ : LinkOk Z a0 own_CT own_MT own_m1.1.cls own_m1.1.name own_m1.2.2.2.1 (257, .putfield 114, 3, 10, 0, 31, .null, (.array .int))), ?_⟩
  refine List.forall_mem_cons.mpr ⟨trivial, ?_⟩
  refine List.forall_mem_cons.mpr ⟨(⟨_, _, _, _, _, rfl, rfl, rfl, rfl, Or.inl (w 93 _ rfl)⟩ : LinkOk Z a0 own_CT own_MT own_m1.1.cls own_m1.1.name own_m1.2.2.2.1 (261, .getfield 114, 3, 2, 0, 31, .null, .int)), ?_⟩
  refine List.forall_mem_cons.mpr ⟨trivial, ?_⟩
  refine List.forall_mem_cons.mpr ⟨(⟨_, _, rfl, rfl, rfl, own_c4 Z a0 hw, w 40 _ rfl, w 41 _ rfl⟩ : LinkOk Z a0 own_CT own_MT own_m1.1.cls own_m1.1.name own_m1.2.2.2.1 (265, .invokestatic 33, 3, 40, 4, 0, .null, .int)), ?_⟩
  refine List.forall_mem_cons.mpr ⟨trivial, ?_⟩
  refine List.forall_mem_cons.mpr ⟨trivial, ?_⟩
  refine List.forall_mem_cons.mpr ⟨(⟨_, rfl, rfl, w 28 _ rfl⟩ : LinkOk Z a0 own_CT own_MT own_m1.1.cls own_m1.1.name own_m1.2.2.2.1 (270, .newarray .int, 2, 15, 0, 0, .null, .int)), ?_⟩
  refine List.forall_mem_cons.mpr ⟨(⟨_, _, _, _, _, rfl, rfl, rfl, rfl, rfl, Or.inl (w 95 _ rfl), fun _ => ⟨rfl, rfl⟩⟩ : LinkOk Z a0 own_CT own_MT own_m1.1.cls own_m1.1.name own_m1.2.2.2.1 (272, .putfield 117, 3, 10, 0, 32, .null, (.array .int))), ?_⟩
  refine List.forall_mem_cons.mpr ⟨trivial, ?_⟩
  refine List.forall_mem_cons.mpr ⟨trivial, ?_⟩
  refine List.forall_mem_cons.mpr ⟨(⟨_, rfl, rfl, w 28 _ rfl⟩ : LinkOk Z a0 own_CT own_MT own_m1.1.cls own_m1.1.name own_m1.2.2.2.1 (277, .newarray .int, 2, 15, 0, 0, .null, .int)), ?_⟩
  refine List.forall_mem_cons.mpr ⟨(⟨_, _, _, _, _, rfl, rfl, rfl, rfl, rfl, Or.inl (w 97 _ rfl), fun _ => ⟨rfl, rfl⟩⟩ : LinkOk Z a0 own_CT own_MT own_m1.1.cls own_m1.1.name own_m1.2.2.2.1 (279, .putfield 120, 3, 10, 0, 33, .null, (.array .int))), ?_⟩
  refine List.forall_mem_cons.mpr ⟨trivial, ?_⟩
  refine List.forall_mem_cons.mpr ⟨(⟨_, _, _, _, _, rfl, rfl, rfl, rfl, Or.inl (w 95 _ rfl)⟩ : LinkOk Z a0 own_CT own_MT own_m1.1.cls own_m1.1.name own_m1.2.2.2.1 (283, .getfield 117, 3, 2, 0, 32, .null, .int)), ?_⟩
  refine List.forall_mem_cons.mpr ⟨trivial, ?_⟩
  refine List.forall_mem_cons.mpr ⟨(⟨_, _, rfl, rfl, rfl, own_c4 Z a0 hw, w 40 _ rfl, w 41 _ rfl⟩ : LinkOk Z a0 own_CT own_MT own_m1.1.cls own_m1.1.name own_m1.2.2.2.1 (287, .invokestatic 33, 3, 40, 4, 0, .null, .int)), ?_⟩
  refine List.forall_mem_cons.mpr ⟨trivial, ?_⟩
  refine List.forall_mem_cons.mpr ⟨(⟨_, _, _, _, _, rfl, rfl, rfl, rfl, Or.inl (w 97 _ rfl)⟩ : LinkOk Z a0 own_CT own_MT own_m1.1.cls own_m1.1.name own_m1.2.2.2.1 (291, .getfield 120, 3, 2, 0, 33, .null, .int)), ?_⟩
  refine List.forall_mem_cons.mpr ⟨trivial, ?_⟩
  refine List.forall_mem_cons.mpr ⟨(⟨_, _, rfl, rfl, rfl, own_c4 Z a0 hw, w 40 _ rfl, w 41 _ rfl⟩ : LinkOk Z a0 own_CT own_MT own_m1.1.cls own_m1.1.name own_m1.2.2.2.1 (295, .invokestatic 33, 3, 40, 4, 0, .null, .int)), ?_⟩
  refine List.forall_mem_cons.mpr ⟨trivial, ?_⟩
  refine List.forall_mem_cons.mpr ⟨trivial, ?_⟩
  refine List.forall_mem_cons.mpr ⟨(⟨_, rfl, rfl, w 28 _ rfl⟩ : LinkOk Z a0 own_CT own_MT own_m1.1.cls own_m1.1.name own_m1.2.2.2.1 (300, .newarray .int, 2, 15, 0, 0, .null, .int)), ?_⟩
  refine List.forall_mem_cons.mpr ⟨(⟨_, _, _, _, _, rfl, rfl, rfl, rfl, rfl, Or.inl (w 99 _ rfl), fun _ => ⟨rfl, rfl⟩⟩ : LinkOk Z a0 own_CT own_MT own_m1.1.cls own_m1.1.name own_m1.2.2.2.1 (302, .putfield 123, 3, 10, 0, 34, .null, (.array .int))), ?_⟩
  refine List.forall_mem_cons.mpr ⟨trivial, ?_⟩
  refine List.forall_mem_cons.mpr ⟨trivial, ?_⟩
  refine List.forall_mem_cons.mpr ⟨(⟨_, rfl, rfl, w 28 _ rfl⟩ : LinkOk Z a0 own_CT own_MT own_m1.1.cls own_m1.1.name own_m1.2.2.2.1 (307, .newarray .int, 2, 15, 0, 0, .null, .int)), ?_⟩
  refine List.forall_mem_cons.mpr ⟨(⟨_, _, _, _, _, rfl, rfl, rfl, rfl, rfl, Or.inl (w 101 _ rfl), fun _ => ⟨rfl, rfl⟩⟩ : LinkOk Z a0 own_CT own_MT own_m1.1.cls own_m1.1.name own_m1.2.2.2.1 (309, .putfield 126, 3, 10, 0, 35, .null, (.array .int))), ?_⟩
  refine List.forall_mem_cons.mpr ⟨trivial, ?_⟩
  refine List.forall_mem_cons.mpr ⟨trivial, ?_⟩
  refine List.forall_mem_cons.mpr ⟨(⟨_, rfl, rfl, w 28 _ rfl⟩ : LinkOk Z a0 own_CT own_MT own_m1.1.cls own_m1.1.name own_m1.2.2.2.1 (314, .newarray .int, 2, 15, 0, 0, .null, .int)), ?_⟩
  refine List.forall_mem_cons.mpr ⟨(⟨_, _, _, _, _, rfl, rfl, rfl, rfl, rfl, Or.inl (w 103 _ rfl), fun _ => ⟨rfl, rfl⟩⟩ : LinkOk Z a0 own_CT own_MT own_m1.1.cls own_m1.1.name own_m1.2.2.2.1 (316, .putfield 129, 3, 10, 0, 36, .null, (.array .int))), ?_⟩
  refine List.forall_mem_cons.mpr ⟨trivial, ?_⟩
  refine List.forall_mem_cons.mpr ⟨trivial, ?_⟩
  refine List.forall_mem_cons.mpr ⟨(⟨_, rfl, rfl, w 35 _ rfl⟩ : LinkOk Z a0 own_CT own_MT own_m1.1.cls own_m1.1.name own_m1.2.2.2.1 (321, .newarray .boolean, 2, 15, 0, 0, .null, .int)), ?_⟩
  refine List.forall_mem_cons.mpr ⟨(⟨_, _, _, _, _, rfl, rfl, rfl, rfl, rfl, Or.inl (w 105 _ rfl), fun _ => ⟨rfl, rfl⟩⟩ : LinkOk Z a0 own_CT own_MT own_m1.1.cls own_m1.1.name own_m1.2.2.2.1 (323, .putfield 132, 3, 10, 0, 37, .null, (.array .boolean))), ?_⟩
  refine List.forall_mem_cons.mpr ⟨trivial, ?_⟩
  refine List.forall_mem_cons.mpr ⟨trivial, ?_⟩
  refine List.forall_mem_cons.mpr ⟨(⟨_, rfl, rfl, w 28 _ rfl⟩ : LinkOk Z a0 own_CT own_MT own_m1.1.cls own_m1.1.name own_m1.2.2.2.1 (328, .newarray .int, 2, 15, 0, 0, .null, .int)), ?_⟩
  refine List.forall_mem_cons.mpr ⟨(⟨_, _, _, _, _, rfl, rfl, rfl, rfl, rfl, Or.inl (w 107 _ rfl), fun _ => ⟨rfl, rfl⟩⟩ : LinkOk Z a0 own_CT own_MT own_m1.1.cls own_m1.1.name own_m1.2.2.2.1 (330, .putfield 135, 3, 10, 0, 38, .null, (.array .int))), ?_⟩
  refine List.forall_mem_cons.mpr ⟨(⟨rfl, rfl, rfl⟩ : LinkOk Z a0 own_CT own_MT own_m1.1.cls own_m1.1.name own_m1.2.2.2.1 (333, .return_, 1, 30, 0, 0, .null, .int)), ?_⟩
  exact fun _ h => nomatch h
set_option maxRecDepth 65536 in
theorem own_ok2 (Z : State) (a0 : Array Value) (hw : ∀ d ∈ tables_1, d.before a0 Z = true) : MOk Z a0 own_CT own_MT own_m2 := by
  have w := fun (k : Nat) (d : Jvm.Cond) (h : tables_1[k]? = some d) => hw d (List.mem_of_getElem? h)
  refine mOk_of own_pn2 own_d2 ?_
  refine List.forall_mem_cons.mpr ⟨trivial, ?_⟩
  refine List.forall_mem_cons.mpr ⟨(⟨_, rfl, rfl, w 15 _ rfl, w 7 _ rfl, w 8 _ rfl⟩ : LinkOk Z a0 own_CT own_MT own_m2.1.cls own_m2.1.name own_m2.2.2.2.1 (1, .invokespecial 1, 3, 16, 0, 0, .null, .int)), ?_⟩
  refine List.forall_mem_cons.mpr ⟨trivial, ?_⟩
  refine List.forall_mem_cons.mpr ⟨trivial, ?_⟩
  refine List.forall_mem_cons.mpr ⟨(⟨_, _, _, _, _, rfl, rfl, rfl, rfl, rfl, Or.inl (w 16 _ rfl), fun h => nomatch h⟩ : LinkOk Z a0 own_CT own_MT own_m2.1.cls own_m2.1.name own_m2.2.2.2.1 (6, .putfield 7, 3, 10, 1, 0, .null, .int)), ?_⟩
  refine List.forall_mem_cons.mpr ⟨trivial, ?_⟩
  refine List.forall_mem_cons.mpr ⟨trivial, ?_⟩
  refine List.forall_mem_cons.mpr ⟨trivial, ?_⟩
  refine List.forall_mem_cons.mpr ⟨(⟨_, _, _, _, _, rfl, rfl, rfl, rfl, Or.inl (w 16 _ rfl)⟩ : LinkOk Z a0 own_CT own_MT own_m2.1.cls own_m2.1.name own_m2.2.2.2.1 (12, .getfield 7, 3, 2, 1, 0, .null, .int)), ?_⟩
  refine List.forall_mem_cons.mpr ⟨trivial, ?_⟩
  refine List.forall_mem_cons.mpr ⟨(⟨_, rfl, rfl, w 18 _ rfl⟩ : LinkOk Z a0 own_CT own_MT own_m2.1.cls own_m2.1.name own_m2.2.2.2.1 (16, .newarray .long, 2, 15, 0, 0, .null, .int)), ?_⟩
  refine List.forall_mem_cons.mpr ⟨(⟨_, _, _, _, _, rfl, rfl, rfl, rfl, rfl, Or.inl (w 19 _ rfl), fun h => nomatch h⟩ : LinkOk Z a0 own_CT own_MT own_m2.1.cls own_m2.1.name own_m2.2.2.2.1 (18, .putfield 13, 3, 10, 1, 1, .null, (.array .long))), ?_⟩
  refine List.forall_mem_cons.mpr ⟨trivial, ?_⟩
  refine List.forall_mem_cons.mpr ⟨(⟨_, _, _, _, _, rfl, rfl, rfl, rfl, Or.inl (w 19 _ rfl)⟩ : LinkOk Z a0 own_CT own_MT own_m2.1.cls own_m2.1.name own_m2.2.2.2.1 (22, .getfield 13, 3, 2, 1, 1, .null, .int)), ?_⟩
  refine List.forall_mem_cons.mpr ⟨(Or.inr (Or.inr ⟨_, _, rfl, rfl, rfl, w 21 _ rfl⟩) : LinkOk Z a0 own_CT own_MT own_m2.1.cls own_m2.1.name own_m2.2.2.2.1 (25, .ldc2_w 17, 3, 13, 0, 0, (.long (-1)), .int)), ?_⟩
  refine List.forall_mem_cons.mpr ⟨(⟨_, _, rfl, rfl, rfl, own_c3 Z a0 hw, w 22 _ rfl, w 23 _ rfl⟩ : LinkOk Z a0 own_CT own_MT own_m2.1.cls own_m2.1.name own_m2.2.2.2.1 (28, .invokestatic 19, 3, 40, 3, 0, .null, .int)), ?_⟩
  refine List.forall_mem_cons.mpr ⟨(⟨rfl, rfl, rfl⟩ : LinkOk Z a0 own_CT own_MT own_m2.1.cls own_m2.1.name own_m2.2.2.2.1 (31, .return_, 1, 30, 0, 0, .null, .int)), ?_⟩
  exact fun _ h => nomatch h
set_option maxRecDepth 65536 in
theorem own_ok3 (Z : State) (a0 : Array Value) (hw : ∀ d ∈ tables_1, d.before a0 Z = true) : MOk Z a0 own_CT own_MT own_m3 := by
  have w := fun (k : Nat) (d : Jvm.Cond) (h : tables_1[k]? = some d) => hw d (List.mem_of_getElem? h)
  refine mOk_of own_pn3 own_d3 ?_
  refine List.forall_mem_cons.mpr ⟨trivial, ?_⟩
  refine List.forall_mem_cons.mpr ⟨trivial, ?_⟩
  refine List.forall_mem_cons.mpr ⟨trivial, ?_⟩
  refine List.forall_mem_cons.mpr ⟨(⟨rfl, rfl⟩ : LinkOk Z a0 own_CT own_MT own_m3.1.cls own_m3.1.name own_m3.2.2.2.1 (3, .arraylength, 1, 12, 0, 0, .null, .int)), ?_⟩
  refine List.forall_mem_cons.mpr ⟨trivial, ?_⟩
  refine List.forall_mem_cons.mpr ⟨trivial, ?_⟩
  refine List.forall_mem_cons.mpr ⟨trivial, ?_⟩
  refine List.forall_mem_cons.mpr ⟨(⟨rfl, _, rfl, by decide, by decide⟩ : LinkOk Z a0 own_CT own_MT own_m3.1.cls own_m3.1.name own_m3.2.2.2.1 (9, .if_icmp .ge 13, 3, 4, 22, 0, .null, .int)), ?_⟩
  refine List.forall_mem_cons.mpr ⟨trivial, ?_⟩
  refine List.forall_mem_cons.mpr ⟨trivial, ?_⟩
  refine List.forall_mem_cons.mpr ⟨trivial, ?_⟩
  refine List.forall_mem_cons.mpr ⟨(rfl : LinkOk Z a0 own_CT own_MT own_m3.1.cls own_m3.1.name own_m3.2.2.2.1 (15, .lastore, 1, 11, 0, 0, .null, .int)), ?_⟩
  refine List.forall_mem_cons.mpr ⟨(rfl : LinkOk Z a0 own_CT own_MT own_m3.1.cls own_m3.1.name own_m3.2.2.2.1 (16, .iinc 3 1, 3, 9, 0, 0, .null, .int)), ?_⟩
  refine List.forall_mem_cons.mpr ⟨(⟨_, rfl, rfl, by decide, by decide⟩ : LinkOk Z a0 own_CT own_MT own_m3.1.cls own_m3.1.name own_m3.2.2.2.1 (19, .goto (-13), 3, 7, 6, 0, .null, .int)), ?_⟩
  refine List.forall_mem_cons.mpr ⟨(⟨rfl, rfl, rfl⟩ : LinkOk Z a0 own_CT own_MT own_m3.1.cls own_m3.1.name own_m3.2.2.2.1 (22, .return_, 1, 30, 0, 0, .null, .int)), ?_⟩
  exact fun _ h => nomatch h
set_option maxRecDepth 65536 in
theorem own_ok4 (Z : State) (a0 : Array Value) (hw : ∀ d ∈ tables_1, d.before a0 Z = true) : MOk Z a0 own_CT own_MT own_m4 := by
  have w := fun (k : Nat) (d : Jvm.Cond) (h : tables_1[k]? = some d) => hw d (List.mem_of_getElem? h)
  refine mOk_of own_pn4 own_d4 ?_
  refine List.forall_mem_cons.mpr ⟨trivial, ?_⟩
  refine List.forall_mem_cons.mpr ⟨trivial, ?_⟩
  refine List.forall_mem_cons.mpr ⟨trivial, ?_⟩
  refine List.forall_mem_cons.mpr ⟨(⟨rfl, rfl⟩ : LinkOk Z a0 own_CT own_MT own_m4.1.cls own_m4.1.name own_m4.2.2.2.1 (3, .arraylength, 1, 12, 0, 0, .null, .int)), ?_⟩
  refine List.forall_mem_cons.mpr ⟨trivial, ?_⟩
  refine List.forall_mem_cons.mpr ⟨trivial, ?_⟩
  refine List.forall_mem_cons.mpr ⟨trivial, ?_⟩
  refine List.forall_mem_cons.mpr ⟨(⟨rfl, _, rfl, by decide, by decide⟩ : LinkOk Z a0 own_CT own_MT own_m4.1.cls own_m4.1.name own_m4.2.2.2.1 (7, .if_icmp .ge 13, 3, 4, 20, 0, .null, .int)), ?_⟩
  refine List.forall_mem_cons.mpr ⟨trivial, ?_⟩
  refine List.forall_mem_cons.mpr ⟨trivial, ?_⟩
  refine List.forall_mem_cons.mpr ⟨trivial, ?_⟩
  refine List.forall_mem_cons.mpr ⟨(rfl : LinkOk Z a0 own_CT own_MT own_m4.1.cls own_m4.1.name own_m4.2.2.2.1 (13, .iastore, 1, 11, 0, 0, .null, .int)), ?_⟩
  refine List.forall_mem_cons.mpr ⟨(rfl : LinkOk Z a0 own_CT own_MT own_m4.1.cls own_m4.1.name own_m4.2.2.2.1 (14, .iinc 2 1, 3, 9, 0, 0, .null, .int)), ?_⟩
  refine List.forall_mem_cons.mpr ⟨(⟨_, rfl, rfl, by decide, by decide⟩ : LinkOk Z a0 own_CT own_MT own_m4.1.cls own_m4.1.name own_m4.2.2.2.1 (17, .goto (-12), 3, 7, 5, 0, .null, .int)), ?_⟩
  refine List.forall_mem_cons.mpr ⟨(⟨rfl, rfl, rfl⟩ : LinkOk Z a0 own_CT own_MT own_m4.1.cls own_m4.1.name own_m4.2.2.2.1 (20, .return_, 1, 30, 0, 0, .null, .int)), ?_⟩
  exact fun _ h => nomatch h
set_option maxRecDepth 65536 in
theorem own_ok5 (Z : State) (a0 : Array Value) (hw : ∀ d ∈ tables_1, d.before a0 Z = true) : MOk Z a0 own_CT own_MT own_m5 := by
  have w := fun (k : Nat) (d : Jvm.Cond) (h : tables_1[k]? = some d) => hw d (List.mem_of_getElem? h)
  refine mOk_of own_pn5 own_d5 ?_
  refine List.forall_mem_cons.mpr ⟨trivial, ?_⟩
  refine List.forall_mem_cons.mpr ⟨trivial, ?_⟩
  refine List.forall_mem_cons.mpr ⟨trivial, ?_⟩
  refine List.forall_mem_cons.mpr ⟨(⟨_, _, _, _, rfl, rfl, rfl, own_c6 Z a0 hw, w 114 _ rfl, w 115 _ rfl, rfl, w 116 _ rfl⟩ : LinkOk Z a0 own_CT own_MT own_m5.1.cls own_m5.1.name own_m5.2.2.2.1 (4, .invokevirtual 142, 3, 43, 6, 0, .null, .int)), ?_⟩
  refine List.forall_mem_cons.mpr ⟨trivial, ?_⟩
  refine List.forall_mem_cons.mpr ⟨trivial, ?_⟩
  refine List.forall_mem_cons.mpr ⟨trivial, ?_⟩
  refine List.forall_mem_cons.mpr ⟨(⟨rfl, _, rfl, by decide, by decide⟩ : LinkOk Z a0 own_CT own_MT own_m5.1.cls own_m5.1.name own_m5.2.2.2.1 (12, .if_icmp .ne 25, 3, 4, 37, 0, .null, .int)), ?_⟩
  refine List.forall_mem_cons.mpr ⟨trivial, ?_⟩
  refine List.forall_mem_cons.mpr ⟨trivial, ?_⟩
  refine List.forall_mem_cons.mpr ⟨trivial, ?_⟩
  refine List.forall_mem_cons.mpr ⟨(⟨_, _, _, _, rfl, rfl, rfl, own_c7 Z a0 hw, w 118 _ rfl, w 119 _ rfl, rfl, w 120 _ rfl⟩ : LinkOk Z a0 own_CT own_MT own_m5.1.cls own_m5.1.name own_m5.2.2.2.1 (19, .invokevirtual 146, 3, 43, 7, 0, .null, .int)), ?_⟩
  refine List.forall_mem_cons.mpr ⟨trivial, ?_⟩
  refine List.forall_mem_cons.mpr ⟨trivial, ?_⟩
  refine List.forall_mem_cons.mpr ⟨trivial, ?_⟩
  refine List.forall_mem_cons.mpr ⟨trivial, ?_⟩
  refine List.forall_mem_cons.mpr ⟨trivial, ?_⟩
  refine List.forall_mem_cons.mpr ⟨trivial, ?_⟩
  refine List.forall_mem_cons.mpr ⟨(⟨_, _, _, _, rfl, rfl, rfl, own_c8 Z a0 hw, w 126 _ rfl, w 127 _ rfl, rfl, w 128 _ rfl⟩ : LinkOk Z a0 own_CT own_MT own_m5.1.cls own_m5.1.name own_m5.2.2.2.1 (31, .invokevirtual 149, 3, 43, 8, 0, .null, .int)), ?_⟩
  refine List.forall_mem_cons.mpr ⟨(⟨_, _, _, _, rfl, rfl, rfl, own_c19 Z a0 hw, w 176 _ rfl, w 177 _ rfl, rfl, w 178 _ rfl⟩ : LinkOk Z a0 own_CT own_MT own_m5.1.cls own_m5.1.name own_m5.2.2.2.1 (34, .invokevirtual 152, 3, 43, 19, 0, .null, .int)), ?_⟩
  refine List.forall_mem_cons.mpr ⟨trivial, ?_⟩
  refine List.forall_mem_cons.mpr ⟨(⟨_, _, _, _, _, rfl, rfl, rfl, rfl, Or.inl (w 47 _ rfl)⟩ : LinkOk Z a0 own_CT own_MT own_m5.1.cls own_m5.1.name own_m5.2.2.2.1 (38, .getfield 45, 3, 2, 0, 8, .null, .int)), ?_⟩
  refine List.forall_mem_cons.mpr ⟨trivial, ?_⟩
  refine List.forall_mem_cons.mpr ⟨trivial, ?_⟩
  refine List.forall_mem_cons.mpr ⟨(rfl : LinkOk Z a0 own_CT own_MT own_m5.1.cls own_m5.1.name own_m5.2.2.2.1 (44, .iaload, 1, 6, 0, 0, .null, .int)), ?_⟩
  refine List.forall_mem_cons.mpr ⟨trivial, ?_⟩
  refine List.forall_mem_cons.mpr ⟨trivial, ?_⟩
  refine List.forall_mem_cons.mpr ⟨(rfl : LinkOk Z a0 own_CT own_MT own_m5.1.cls own_m5.1.name own_m5.2.2.2.1 (47, .iastore, 1, 11, 0, 0, .null, .int)), ?_⟩
  refine List.forall_mem_cons.mpr ⟨trivial, ?_⟩
  refine List.forall_mem_cons.mpr ⟨(⟨_, _, _, _, _, rfl, rfl, rfl, rfl, Or.inl (w 38 _ rfl)⟩ : LinkOk Z a0 own_CT own_MT own_m5.1.cls own_m5.1.name own_m5.2.2.2.1 (49, .getfield 30, 3, 2, 0, 5, .null, .int)), ?_⟩
  refine List.forall_mem_cons.mpr ⟨trivial, ?_⟩
  refine List.forall_mem_cons.mpr ⟨trivial, ?_⟩
  refine List.forall_mem_cons.mpr ⟨(rfl : LinkOk Z a0 own_CT own_MT own_m5.1.cls own_m5.1.name own_m5.2.2.2.1 (55, .iastore, 1, 11, 0, 0, .null, .int)), ?_⟩
  refine List.forall_mem_cons.mpr ⟨(⟨rfl, rfl, rfl⟩ : LinkOk Z a0 own_CT own_MT own_m5.1.cls own_m5.1.name own_m5.2.2.2.1 (56, .return_, 1, 30, 0, 0, .null, .int)), ?_⟩
  exact fun _ h => nomatch h
set_option maxRecDepth 65536 in
theorem own_ok6 (Z : State) (a0 : Array Value) (hw : ∀ d ∈ tables_1, d.before a0 Z = true) : MOk Z a0 own_CT own_MT own_m6 := by
  have w := fun (k : Nat) (d : Jvm.Cond) (h : tables_1[k]? = some d) => hw d (List.mem_of_getElem? h)
  refine mOk_of own_pn6 own_d6 ?_
  refine List.forall_mem_cons.mpr ⟨trivial, ?_⟩
  refine List.forall_mem_cons.mpr ⟨(⟨_, _, _, _, _, rfl, rfl, rfl, rfl, Or.inl (w 65 _ rfl)⟩ : LinkOk Z a0 own_CT own_MT own_m6.1.cls own_m6.1.name own_m6.2.2.2.1 (1, .getfield 72, 3, 2, 0, 17, .null, .int)), ?_⟩
  refine List.forall_mem_cons.mpr ⟨trivial, ?_⟩
  refine List.forall_mem_cons.mpr ⟨(rfl : LinkOk Z a0 own_CT own_MT own_m6.1.cls own_m6.1.name own_m6.2.2.2.1 (5, .baload, 1, 6, 0, 0, .null, .int)), ?_⟩
  refine List.forall_mem_cons.mpr ⟨(⟨rfl, _, rfl, by decide, by decide⟩ : LinkOk Z a0 own_CT own_MT own_m6.1.cls own_m6.1.name own_m6.2.2.2.1 (6, .ifCond .eq 24, 3, 4, 30, 0, .null, .int)), ?_⟩
  refine List.forall_mem_cons.mpr ⟨trivial, ?_⟩
  refine List.forall_mem_cons.mpr ⟨(⟨_, _, _, _, _, rfl, rfl, rfl, rfl, Or.inl (w 26 _ rfl)⟩ : LinkOk Z a0 own_CT own_MT own_m6.1.cls own_m6.1.name own_m6.2.2.2.1 (10, .getfield 10, 3, 2, 0, 0, .null, .int)), ?_⟩
  refine List.forall_mem_cons.mpr ⟨trivial, ?_⟩
  refine List.forall_mem_cons.mpr ⟨trivial, ?_⟩
  refine List.forall_mem_cons.mpr ⟨trivial, ?_⟩
  refine List.forall_mem_cons.mpr ⟨trivial, ?_⟩
  refine List.forall_mem_cons.mpr ⟨trivial, ?_⟩
  refine List.forall_mem_cons.mpr ⟨(⟨rfl, _, rfl, by decide, by decide⟩ : LinkOk Z a0 own_CT own_MT own_m6.1.cls own_m6.1.name own_m6.2.2.2.1 (21, .if_icmp .ne 7, 3, 4, 28, 0, .null, .int)), ?_⟩
  refine List.forall_mem_cons.mpr ⟨trivial, ?_⟩
  refine List.forall_mem_cons.mpr ⟨(⟨_, rfl, rfl, by decide, by decide⟩ : LinkOk Z a0 own_CT own_MT own_m6.1.cls own_m6.1.name own_m6.2.2.2.1 (25, .goto 4, 3, 7, 29, 0, .null, .int)), ?_⟩
  refine List.forall_mem_cons.mpr ⟨trivial, ?_⟩
  refine List.forall_mem_cons.mpr ⟨(⟨rfl, rfl, rfl⟩ : LinkOk Z a0 own_CT own_MT own_m6.1.cls own_m6.1.name own_m6.2.2.2.1 (29, .ireturn, 1, 31, 0, 0, .null, .int)), ?_⟩
  refine List.forall_mem_cons.mpr ⟨trivial, ?_⟩
  refine List.forall_mem_cons.mpr ⟨(⟨_, _, _, _, _, rfl, rfl, rfl, rfl, Or.inl (w 61 _ rfl)⟩ : LinkOk Z a0 own_CT own_MT own_m6.1.cls own_m6.1.name own_m6.2.2.2.1 (31, .getfield 66, 3, 2, 0, 15, .null, .int)), ?_⟩
  refine List.forall_mem_cons.mpr ⟨trivial, ?_⟩
  refine List.forall_mem_cons.mpr ⟨(rfl : LinkOk Z a0 own_CT own_MT own_m6.1.cls own_m6.1.name own_m6.2.2.2.1 (35, .iaload, 1, 6, 0, 0, .null, .int)), ?_⟩
  refine List.forall_mem_cons.mpr ⟨trivial, ?_⟩
  refine List.forall_mem_cons.mpr ⟨trivial, ?_⟩
  refine List.forall_mem_cons.mpr ⟨trivial, ?_⟩
  refine List.forall_mem_cons.mpr ⟨(⟨rfl, _, rfl, by decide, by decide⟩ : LinkOk Z a0 own_CT own_MT own_m6.1.cls own_m6.1.name own_m6.2.2.2.1 (39, .if_icmp .eq 25, 3, 4, 64, 0, .null, .int)), ?_⟩
  refine List.forall_mem_cons.mpr ⟨trivial, ?_⟩
  refine List.forall_mem_cons.mpr ⟨(⟨_, _, _, _, _, rfl, rfl, rfl, rfl, Or.inl (w 45 _ rfl)⟩ : LinkOk Z a0 own_CT own_MT own_m6.1.cls own_m6.1.name own_m6.2.2.2.1 (43, .getfield 42, 3, 2, 0, 7, .null, .int)), ?_⟩
  refine List.forall_mem_cons.mpr ⟨trivial, ?_⟩
  refine List.forall_mem_cons.mpr ⟨(rfl : LinkOk Z a0 own_CT own_MT own_m6.1.cls own_m6.1.name own_m6.2.2.2.1 (47, .iaload, 1, 6, 0, 0, .null, .int)), ?_⟩
  refine List.forall_mem_cons.mpr ⟨trivial, ?_⟩
  refine List.forall_mem_cons.mpr ⟨(⟨rfl, _, rfl, by decide, by decide⟩ : LinkOk Z a0 own_CT own_MT own_m6.1.cls own_m6.1.name own_m6.2.2.2.1 (49, .if_icmp .ne 5, 3, 4, 54, 0, .null, .int)), ?_⟩
  refine List.forall_mem_cons.mpr ⟨trivial, ?_⟩
  refine List.forall_mem_cons.mpr ⟨(⟨rfl, rfl, rfl⟩ : LinkOk Z a0 own_CT own_MT own_m6.1.cls own_m6.1.name own_m6.2.2.2.1 (53, .ireturn, 1, 31, 0, 0, .null, .int)), ?_⟩
  refine List.forall_mem_cons.mpr ⟨trivial, ?_⟩
  refine List.forall_mem_cons.mpr ⟨(⟨_, _, _, _, _, rfl, rfl, rfl, rfl, Or.inl (w 57 _ rfl)⟩ : LinkOk Z a0 own_CT own_MT own_m6.1.cls own_m6.1.name own_m6.2.2.2.1 (55, .getfield 60, 3, 2, 0, 13, .null, .int)), ?_⟩
  refine List.forall_mem_cons.mpr ⟨trivial, ?_⟩
  refine List.forall_mem_cons.mpr ⟨(rfl : LinkOk Z a0 own_CT own_MT own_m6.1.cls own_m6.1.name own_m6.2.2.2.1 (59, .iaload, 1, 6, 0, 0, .null, .int)), ?_⟩
  refine List.forall_mem_cons.mpr ⟨trivial, ?_⟩
  refine List.forall_mem_cons.mpr ⟨(⟨_, rfl, rfl, by decide, by decide⟩ : LinkOk Z a0 own_CT own_MT own_m6.1.cls own_m6.1.name own_m6.2.2.2.1 (61, .goto (-24), 3, 7, 37, 0, .null, .int)), ?_⟩
  refine List.forall_mem_cons.mpr ⟨trivial, ?_⟩
  refine List.forall_mem_cons.mpr ⟨(⟨rfl, rfl, rfl⟩ : LinkOk Z a0 own_CT own_MT own_m6.1.cls own_m6.1.name own_m6.2.2.2.1 (65, .ireturn, 1, 31, 0, 0, .null, .int)), ?_⟩
  exact fun _ h => nomatch h
set_option maxRecDepth 65536 in
theorem own_ok7 (Z : State) (a0 : Array Value) (hw : ∀ d ∈ tables_1, d.before a0 Z = true) : MOk Z a0 own_CT own_MT own_m7 := by
  have w := fun (k : Nat) (d : Jvm.Cond) (h : tables_1[k]? = some d) => hw d (List.mem_of_getElem? h)
  refine mOk_of own_pn7 own_d7 ?_
  refine List.forall_mem_cons.mpr ⟨trivial, ?_⟩
  refine List.forall_mem_cons.mpr ⟨(⟨_, _, _, _, _, rfl, rfl, rfl, rfl, Or.inl (w 122 _ rfl)⟩ : LinkOk Z a0 own_CT own_MT own_m7.1.cls own_m7.1.name own_m7.2.2.2.1 (1, .getfield 163, 3, 2, 0, 39, .null, .int)), ?_⟩
  refine List.forall_mem_cons.mpr ⟨(⟨rfl, _, rfl, by decide, by decide⟩ : LinkOk Z a0 own_CT own_MT own_m7.1.cls own_m7.1.name own_m7.2.2.2.1 (4, .ifCond .le 22, 3, 4, 26, 0, .null, .int)), ?_⟩
  refine List.forall_mem_cons.mpr ⟨trivial, ?_⟩
  refine List.forall_mem_cons.mpr ⟨(⟨_, _, _, _, _, rfl, rfl, rfl, rfl, Or.inl (w 59 _ rfl)⟩ : LinkOk Z a0 own_CT own_MT own_m7.1.cls own_m7.1.name own_m7.2.2.2.1 (8, .getfield 63, 3, 2, 0, 14, .null, .int)), ?_⟩
  refine List.forall_mem_cons.mpr ⟨trivial, ?_⟩
  refine List.forall_mem_cons.mpr ⟨trivial, ?_⟩
  refine List.forall_mem_cons.mpr ⟨(⟨_, _, _, _, _, rfl, rfl, rfl, rfl, Or.inl (w 122 _ rfl)⟩ : LinkOk Z a0 own_CT own_MT own_m7.1.cls own_m7.1.name own_m7.2.2.2.1 (13, .getfield 163, 3, 2, 0, 39, .null, .int)), ?_⟩
  refine List.forall_mem_cons.mpr ⟨trivial, ?_⟩
  refine List.forall_mem_cons.mpr ⟨trivial, ?_⟩
  refine List.forall_mem_cons.mpr ⟨trivial, ?_⟩
  refine List.forall_mem_cons.mpr ⟨(⟨_, _, _, _, _, rfl, rfl, rfl, rfl, rfl, Or.inl (w 122 _ rfl), fun h => nomatch h⟩ : LinkOk Z a0 own_CT own_MT own_m7.1.cls own_m7.1.name own_m7.2.2.2.1 (19, .putfield 163, 3, 10, 0, 39, .null, .int)), ?_⟩
  refine List.forall_mem_cons.mpr ⟨(rfl : LinkOk Z a0 own_CT own_MT own_m7.1.cls own_m7.1.name own_m7.2.2.2.1 (22, .iaload, 1, 6, 0, 0, .null, .int)), ?_⟩
  refine List.forall_mem_cons.mpr ⟨(⟨_, rfl, rfl, by decide, by decide⟩ : LinkOk Z a0 own_CT own_MT own_m7.1.cls own_m7.1.name own_m7.2.2.2.1 (23, .goto 14, 3, 7, 37, 0, .null, .int)), ?_⟩
  refine List.forall_mem_cons.mpr ⟨trivial, ?_⟩
  refine List.forall_mem_cons.mpr ⟨trivial, ?_⟩
  refine List.forall_mem_cons.mpr ⟨(⟨_, _, _, _, _, rfl, rfl, rfl, rfl, Or.inl (w 124 _ rfl)⟩ : LinkOk Z a0 own_CT own_MT own_m7.1.cls own_m7.1.name own_m7.2.2.2.1 (28, .getfield 175, 3, 2, 0, 40, .null, .int)), ?_⟩
  refine List.forall_mem_cons.mpr ⟨trivial, ?_⟩
  refine List.forall_mem_cons.mpr ⟨trivial, ?_⟩
  refine List.forall_mem_cons.mpr ⟨trivial, ?_⟩
  refine List.forall_mem_cons.mpr ⟨(⟨_, _, _, _, _, rfl, rfl, rfl, rfl, rfl, Or.inl (w 124 _ rfl), fun h => nomatch h⟩ : LinkOk Z a0 own_CT own_MT own_m7.1.cls own_m7.1.name own_m7.2.2.2.1 (34, .putfield 175, 3, 10, 0, 40, .null, .int)), ?_⟩
  refine List.forall_mem_cons.mpr ⟨trivial, ?_⟩
  refine List.forall_mem_cons.mpr ⟨trivial, ?_⟩
  refine List.forall_mem_cons.mpr ⟨(⟨_, _, _, _, _, rfl, rfl, rfl, rfl, Or.inl (w 43 _ rfl)⟩ : LinkOk Z a0 own_CT own_MT own_m7.1.cls own_m7.1.name own_m7.2.2.2.1 (39, .getfield 39, 3, 2, 0, 6, .null, .int)), ?_⟩
  refine List.forall_mem_cons.mpr ⟨trivial, ?_⟩
  refine List.forall_mem_cons.mpr ⟨trivial, ?_⟩
  refine List.forall_mem_cons.mpr ⟨(rfl : LinkOk Z a0 own_CT own_MT own_m7.1.cls own_m7.1.name own_m7.2.2.2.1 (44, .iastore, 1, 11, 0, 0, .null, .int)), ?_⟩
  refine List.forall_mem_cons.mpr ⟨trivial, ?_⟩
  refine List.forall_mem_cons.mpr ⟨(⟨_, _, _, _, _, rfl, rfl, rfl, rfl, Or.inl (w 45 _ rfl)⟩ : LinkOk Z a0 own_CT own_MT own_m7.1.cls own_m7.1.name own_m7.2.2.2.1 (46, .getfield 42, 3, 2, 0, 7, .null, .int)), ?_⟩
  refine List.forall_mem_cons.mpr ⟨trivial, ?_⟩
  refine List.forall_mem_cons.mpr ⟨trivial, ?_⟩
  refine List.forall_mem_cons.mpr ⟨(rfl : LinkOk Z a0 own_CT own_MT own_m7.1.cls own_m7.1.name own_m7.2.2.2.1 (51, .iastore, 1, 11, 0, 0, .null, .int)), ?_⟩
  refine List.forall_mem_cons.mpr ⟨trivial, ?_⟩
  refine List.forall_mem_cons.mpr ⟨(⟨_, _, _, _, _, rfl, rfl, rfl, rfl, Or.inl (w 47 _ rfl)⟩ : LinkOk Z a0 own_CT own_MT own_m7.1.cls own_m7.1.name own_m7.2.2.2.1 (53, .getfield 45, 3, 2, 0, 8, .null, .int)), ?_⟩
  refine List.forall_mem_cons.mpr ⟨trivial, ?_⟩
  refine List.forall_mem_cons.mpr ⟨trivial, ?_⟩
  refine List.forall_mem_cons.mpr ⟨(rfl : LinkOk Z a0 own_CT own_MT own_m7.1.cls own_m7.1.name own_m7.2.2.2.1 (58, .iastore, 1, 11, 0, 0, .null, .int)), ?_⟩
  refine List.forall_mem_cons.mpr ⟨trivial, ?_⟩
  refine List.forall_mem_cons.mpr ⟨(⟨_, _, _, _, _, rfl, rfl, rfl, rfl, Or.inl (w 55 _ rfl)⟩ : LinkOk Z a0 own_CT own_MT own_m7.1.cls own_m7.1.name own_m7.2.2.2.1 (60, .getfield 57, 3, 2, 0, 12, .null, .int)), ?_⟩
  refine List.forall_mem_cons.mpr ⟨trivial, ?_⟩
  refine List.forall_mem_cons.mpr ⟨trivial, ?_⟩
  refine List.forall_mem_cons.mpr ⟨(rfl : LinkOk Z a0 own_CT own_MT own_m7.1.cls own_m7.1.name own_m7.2.2.2.1 (65, .iastore, 1, 11, 0, 0, .null, .int)), ?_⟩
  refine List.forall_mem_cons.mpr ⟨trivial, ?_⟩
  refine List.forall_mem_cons.mpr ⟨(⟨_, _, _, _, _, rfl, rfl, rfl, rfl, Or.inl (w 57 _ rfl)⟩ : LinkOk Z a0 own_CT own_MT own_m7.1.cls own_m7.1.name own_m7.2.2.2.1 (67, .getfield 60, 3, 2, 0, 13, .null, .int)), ?_⟩
  refine List.forall_mem_cons.mpr ⟨trivial, ?_⟩
  refine List.forall_mem_cons.mpr ⟨trivial, ?_⟩
  refine List.forall_mem_cons.mpr ⟨(⟨_, _, _, _, _, rfl, rfl, rfl, rfl, Or.inl (w 61 _ rfl)⟩ : LinkOk Z a0 own_CT own_MT own_m7.1.cls own_m7.1.name own_m7.2.2.2.1 (72, .getfield 66, 3, 2, 0, 15, .null, .int)), ?_⟩
  refine List.forall_mem_cons.mpr ⟨trivial, ?_⟩
  refine List.forall_mem_cons.mpr ⟨(rfl : LinkOk Z a0 own_CT own_MT own_m7.1.cls own_m7.1.name own_m7.2.2.2.1 (76, .iaload, 1, 6, 0, 0, .null, .int)), ?_⟩
  refine List.forall_mem_cons.mpr ⟨(rfl : LinkOk Z a0 own_CT own_MT own_m7.1.cls own_m7.1.name own_m7.2.2.2.1 (77, .iastore, 1, 11, 0, 0, .null, .int)), ?_⟩
  refine List.forall_mem_cons.mpr ⟨trivial, ?_⟩
  refine List.forall_mem_cons.mpr ⟨(⟨_, _, _, _, _, rfl, rfl, rfl, rfl, Or.inl (w 61 _ rfl)⟩ : LinkOk Z a0 own_CT own_MT own_m7.1.cls own_m7.1.name own_m7.2.2.2.1 (79, .getfield 66, 3, 2, 0, 15, .null, .int)), ?_⟩
  refine List.forall_mem_cons.mpr ⟨trivial, ?_⟩
  refine List.forall_mem_cons.mpr ⟨(rfl : LinkOk Z a0 own_CT own_MT own_m7.1.cls own_m7.1.name own_m7.2.2.2.1 (83, .iaload, 1, 6, 0, 0, .null, .int)), ?_⟩
  refine List.forall_mem_cons.mpr ⟨trivial, ?_⟩
  refine List.forall_mem_cons.mpr ⟨(⟨rfl, _, rfl, by decide, by decide⟩ : LinkOk Z a0 own_CT own_MT own_m7.1.cls own_m7.1.name own_m7.2.2.2.1 (85, .if_icmp .eq 15, 3, 4, 100, 0, .null, .int)), ?_⟩
  refine List.forall_mem_cons.mpr ⟨trivial, ?_⟩
  refine List.forall_mem_cons.mpr ⟨(⟨_, _, _, _, _, rfl, rfl, rfl, rfl, Or.inl (w 55 _ rfl)⟩ : LinkOk Z a0 own_CT own_MT own_m7.1.cls own_m7.1.name own_m7.2.2.2.1 (89, .getfield 57, 3, 2, 0, 12, .null, .int)), ?_⟩
  refine List.forall_mem_cons.mpr ⟨trivial, ?_⟩
  refine List.forall_mem_cons.mpr ⟨(⟨_, _, _, _, _, rfl, rfl, rfl, rfl, Or.inl (w 61 _ rfl)⟩ : LinkOk Z a0 own_CT own_MT own_m7.1.cls own_m7.1.name own_m7.2.2.2.1 (93, .getfield 66, 3, 2, 0, 15, .null, .int)), ?_⟩
  refine List.forall_mem_cons.mpr ⟨trivial, ?_⟩
  refine List.forall_mem_cons.mpr ⟨(rfl : LinkOk Z a0 own_CT own_MT own_m7.1.cls own_m7.1.name own_m7.2.2.2.1 (97, .iaload, 1, 6, 0, 0, .null, .int)), ?_⟩
  refine List.forall_mem_cons.mpr ⟨trivial, ?_⟩
  refine List.forall_mem_cons.mpr ⟨(rfl : LinkOk Z a0 own_CT own_MT own_m7.1.cls own_m7.1.name own_m7.2.2.2.1 (99, .iastore, 1, 11, 0, 0, .null, .int)), ?_⟩
  refine List.forall_mem_cons.mpr ⟨trivial, ?_⟩
  refine List.forall_mem_cons.mpr ⟨(⟨_, _, _, _, _, rfl, rfl, rfl, rfl, Or.inl (w 61 _ rfl)⟩ : LinkOk Z a0 own_CT own_MT own_m7.1.cls own_m7.1.name own_m7.2.2.2.1 (101, .getfield 66, 3, 2, 0, 15, .null, .int)), ?_⟩
  refine List.forall_mem_cons.mpr ⟨trivial, ?_⟩
  refine List.forall_mem_cons.mpr ⟨trivial, ?_⟩
  refine List.forall_mem_cons.mpr ⟨(rfl : LinkOk Z a0 own_CT own_MT own_m7.1.cls own_m7.1.name own_m7.2.2.2.1 (106, .iastore, 1, 11, 0, 0, .null, .int)), ?_⟩
  refine List.forall_mem_cons.mpr ⟨trivial, ?_⟩
  refine List.forall_mem_cons.mpr ⟨(⟨_, _, _, _, _, rfl, rfl, rfl, rfl, Or.inl (w 63 _ rfl)⟩ : LinkOk Z a0 own_CT own_MT own_m7.1.cls own_m7.1.name own_m7.2.2.2.1 (108, .getfield 69, 3, 2, 0, 16, .null, .int)), ?_⟩
  refine List.forall_mem_cons.mpr ⟨trivial, ?_⟩
  refine List.forall_mem_cons.mpr ⟨trivial, ?_⟩
  refine List.forall_mem_cons.mpr ⟨(rfl : LinkOk Z a0 own_CT own_MT own_m7.1.cls own_m7.1.name own_m7.2.2.2.1 (113, .iaload, 1, 6, 0, 0, .null, .int)), ?_⟩
  refine List.forall_mem_cons.mpr ⟨trivial, ?_⟩
  refine List.forall_mem_cons.mpr ⟨trivial, ?_⟩
  refine List.forall_mem_cons.mpr ⟨(rfl : LinkOk Z a0 own_CT own_MT own_m7.1.cls own_m7.1.name own_m7.2.2.2.1 (116, .iastore, 1, 11, 0, 0, .null, .int)), ?_⟩
  refine List.forall_mem_cons.mpr ⟨trivial, ?_⟩
  refine List.forall_mem_cons.mpr ⟨(⟨_, _, _, _, _, rfl, rfl, rfl, rfl, Or.inl (w 65 _ rfl)⟩ : LinkOk Z a0 own_CT own_MT own_m7.1.cls own_m7.1.name own_m7.2.2.2.1 (118, .getfield 72, 3, 2, 0, 17, .null, .int)), ?_⟩
  refine List.forall_mem_cons.mpr ⟨trivial, ?_⟩
  refine List.forall_mem_cons.mpr ⟨(rfl : LinkOk Z a0 own_CT own_MT own_m7.1.cls own_m7.1.name own_m7.2.2.2.1 (122, .baload, 1, 6, 0, 0, .null, .int)), ?_⟩
  refine List.forall_mem_cons.mpr ⟨(⟨rfl, _, rfl, by decide, by decide⟩ : LinkOk Z a0 own_CT own_MT own_m7.1.cls own_m7.1.name own_m7.2.2.2.1 (123, .ifCond .eq 16, 3, 4, 139, 0, .null, .int)), ?_⟩
  refine List.forall_mem_cons.mpr ⟨trivial, ?_⟩
  refine List.forall_mem_cons.mpr ⟨(⟨_, _, _, _, _, rfl, rfl, rfl, rfl, Or.inl (w 26 _ rfl)⟩ : LinkOk Z a0 own_CT own_MT own_m7.1.cls own_m7.1.name own_m7.2.2.2.1 (127, .getfield 10, 3, 2, 0, 0, .null, .int)), ?_⟩
  refine List.forall_mem_cons.mpr ⟨trivial, ?_⟩
  refine List.forall_mem_cons.mpr ⟨trivial, ?_⟩
  refine List.forall_mem_cons.mpr ⟨trivial, ?_⟩
  refine List.forall_mem_cons.mpr ⟨(⟨_, rfl, rfl, by decide, by decide⟩ : LinkOk Z a0 own_CT own_MT own_m7.1.cls own_m7.1.name own_m7.2.2.2.1 (136, .goto 58, 3, 7, 194, 0, .null, .int)), ?_⟩
  refine List.forall_mem_cons.mpr ⟨trivial, ?_⟩
  refine List.forall_mem_cons.mpr ⟨(⟨_, _, _, _, _, rfl, rfl, rfl, rfl, Or.inl (w 63 _ rfl)⟩ : LinkOk Z a0 own_CT own_MT own_m7.1.cls own_m7.1.name own_m7.2.2.2.1 (140, .getfield 69, 3, 2, 0, 16, .null, .int)), ?_⟩
  refine List.forall_mem_cons.mpr ⟨trivial, ?_⟩
  refine List.forall_mem_cons.mpr ⟨(rfl : LinkOk Z a0 own_CT own_MT own_m7.1.cls own_m7.1.name own_m7.2.2.2.1 (144, .iaload, 1, 6, 0, 0, .null, .int)), ?_⟩
  refine List.forall_mem_cons.mpr ⟨trivial, ?_⟩
  refine List.forall_mem_cons.mpr ⟨(⟨rfl, _, rfl, by decide, by decide⟩ : LinkOk Z a0 own_CT own_MT own_m7.1.cls own_m7.1.name own_m7.2.2.2.1 (146, .if_icmp .le 48, 3, 4, 194, 0, .null, .int)), ?_⟩
  refine List.forall_mem_cons.mpr ⟨trivial, ?_⟩
  refine List.forall_mem_cons.mpr ⟨(⟨_, _, _, _, _, rfl, rfl, rfl, rfl, Or.inl (w 65 _ rfl)⟩ : LinkOk Z a0 own_CT own_MT own_m7.1.cls own_m7.1.name own_m7.2.2.2.1 (150, .getfield 72, 3, 2, 0, 17, .null, .int)), ?_⟩
  refine List.forall_mem_cons.mpr ⟨trivial, ?_⟩
  refine List.forall_mem_cons.mpr ⟨trivial, ?_⟩
  refine List.forall_mem_cons.mpr ⟨(rfl : LinkOk Z a0 own_CT own_MT own_m7.1.cls own_m7.1.name own_m7.2.2.2.1 (155, .bastore, 1, 11, 0, 0, .null, .int)), ?_⟩
  refine List.forall_mem_cons.mpr ⟨trivial, ?_⟩
  refine List.forall_mem_cons.mpr ⟨trivial, ?_⟩
  refine List.forall_mem_cons.mpr ⟨trivial, ?_⟩
  refine List.forall_mem_cons.mpr ⟨trivial, ?_⟩
  refine List.forall_mem_cons.mpr ⟨(⟨rfl, _, rfl, by decide, by decide⟩ : LinkOk Z a0 own_CT own_MT own_m7.1.cls own_m7.1.name own_m7.2.2.2.1 (162, .if_icmp .eq 32, 3, 4, 194, 0, .null, .int)), ?_⟩
  refine List.forall_mem_cons.mpr ⟨trivial, ?_⟩
  refine List.forall_mem_cons.mpr ⟨(⟨_, _, _, _, _, rfl, rfl, rfl, rfl, Or.inl (w 26 _ rfl)⟩ : LinkOk Z a0 own_CT own_MT own_m7.1.cls own_m7.1.name own_m7.2.2.2.1 (166, .getfield 10, 3, 2, 0, 0, .null, .int)), ?_⟩
  refine List.forall_mem_cons.mpr ⟨trivial, ?_⟩
  refine List.forall_mem_cons.mpr ⟨trivial, ?_⟩
  refine List.forall_mem_cons.mpr ⟨(⟨_, _, _, _, _, rfl, rfl, rfl, rfl, Or.inl (w 45 _ rfl)⟩ : LinkOk Z a0 own_CT own_MT own_m7.1.cls own_m7.1.name own_m7.2.2.2.1 (171, .getfield 42, 3, 2, 0, 7, .null, .int)), ?_⟩
  refine List.forall_mem_cons.mpr ⟨trivial, ?_⟩
  refine List.forall_mem_cons.mpr ⟨(rfl : LinkOk Z a0 own_CT own_MT own_m7.1.cls own_m7.1.name own_m7.2.2.2.1 (176, .iaload, 1, 6, 0, 0, .null, .int)), ?_⟩
  refine List.forall_mem_cons.mpr ⟨trivial, ?_⟩
  refine List.forall_mem_cons.mpr ⟨trivial, ?_⟩
  refine List.forall_mem_cons.mpr ⟨(⟨_, _, _, _, _, rfl, rfl, rfl, rfl, Or.inl (w 57 _ rfl)⟩ : LinkOk Z a0 own_CT own_MT own_m7.1.cls own_m7.1.name own_m7.2.2.2.1 (183, .getfield 60, 3, 2, 0, 13, .null, .int)), ?_⟩
  refine List.forall_mem_cons.mpr ⟨trivial, ?_⟩
  refine List.forall_mem_cons.mpr ⟨(rfl : LinkOk Z a0 own_CT own_MT own_m7.1.cls own_m7.1.name own_m7.2.2.2.1 (188, .iaload, 1, 6, 0, 0, .null, .int)), ?_⟩
  refine List.forall_mem_cons.mpr ⟨trivial, ?_⟩
  refine List.forall_mem_cons.mpr ⟨(⟨_, rfl, rfl, by decide, by decide⟩ : LinkOk Z a0 own_CT own_MT own_m7.1.cls own_m7.1.name own_m7.2.2.2.1 (191, .goto (-32), 3, 7, 159, 0, .null, .int)), ?_⟩
  refine List.forall_mem_cons.mpr ⟨trivial, ?_⟩
  refine List.forall_mem_cons.mpr ⟨(⟨rfl, rfl, rfl⟩ : LinkOk Z a0 own_CT own_MT own_m7.1.cls own_m7.1.name own_m7.2.2.2.1 (195, .ireturn, 1, 31, 0, 0, .null, .int)), ?_⟩
  exact fun _ h => nomatch h
set_option maxRecDepth 65536 in
theorem own_ok8 (Z : State) (a0 : Array Value) (hw : ∀ d ∈ tables_1, d.before a0 Z = true) : MOk Z a0 own_CT own_MT own_m8 := by
  have w := fun (k : Nat) (d : Jvm.Cond) (h : tables_1[k]? = some d) => hw d (List.mem_of_getElem? h)
  refine mOk_of own_pn8 own_d8 ?_
  refine List.forall_mem_cons.mpr ⟨trivial, ?_⟩
  refine List.forall_mem_cons.mpr ⟨trivial, ?_⟩
  refine List.forall_mem_cons.mpr ⟨trivial, ?_⟩
  refine List.forall_mem_cons.mpr ⟨(⟨_, _, _, _, _, rfl, rfl, rfl, own_c9 Z a0 hw, w 130 _ rfl, w 132 _ rfl, rfl, w 131 _ rfl, w 133 _ rfl⟩ : LinkOk Z a0 own_CT own_MT own_m8.1.cls own_m8.1.name own_m8.2.2.2.1 (3, .invokevirtual 182, 3, 42, 9, 0, .null, .int)), ?_⟩
  refine List.forall_mem_cons.mpr ⟨trivial, ?_⟩
  refine List.forall_mem_cons.mpr ⟨trivial, ?_⟩
  refine List.forall_mem_cons.mpr ⟨trivial, ?_⟩
  refine List.forall_mem_cons.mpr ⟨(⟨rfl, _, rfl, by decide, by decide⟩ : LinkOk Z a0 own_CT own_MT own_m8.1.cls own_m8.1.name own_m8.2.2.2.1 (9, .if_icmp .eq 5, 3, 4, 14, 0, .null, .int)), ?_⟩
  refine List.forall_mem_cons.mpr ⟨trivial, ?_⟩
  refine List.forall_mem_cons.mpr ⟨(⟨rfl, rfl, rfl⟩ : LinkOk Z a0 own_CT own_MT own_m8.1.cls own_m8.1.name own_m8.2.2.2.1 (13, .ireturn, 1, 31, 0, 0, .null, .int)), ?_⟩
  refine List.forall_mem_cons.mpr ⟨trivial, ?_⟩
  refine List.forall_mem_cons.mpr ⟨(⟨_, _, _, _, _, rfl, rfl, rfl, rfl, Or.inl (w 135 _ rfl)⟩ : LinkOk Z a0 own_CT own_MT own_m8.1.cls own_m8.1.name own_m8.2.2.2.1 (15, .getfield 185, 3, 2, 0, 41, .null, .int)), ?_⟩
  refine List.forall_mem_cons.mpr ⟨(⟨rfl, _, rfl, by decide, by decide⟩ : LinkOk Z a0 own_CT own_MT own_m8.1.cls own_m8.1.name own_m8.2.2.2.1 (18, .ifCond .le 22, 3, 4, 40, 0, .null, .int)), ?_⟩
  refine List.forall_mem_cons.mpr ⟨trivial, ?_⟩
  refine List.forall_mem_cons.mpr ⟨(⟨_, _, _, _, _, rfl, rfl, rfl, rfl, Or.inl (w 81 _ rfl)⟩ : LinkOk Z a0 own_CT own_MT own_m8.1.cls own_m8.1.name own_m8.2.2.2.1 (22, .getfield 96, 3, 2, 0, 25, .null, .int)), ?_⟩
  refine List.forall_mem_cons.mpr ⟨trivial, ?_⟩
  refine List.forall_mem_cons.mpr ⟨trivial, ?_⟩
  refine List.forall_mem_cons.mpr ⟨(⟨_, _, _, _, _, rfl, rfl, rfl, rfl, Or.inl (w 135 _ rfl)⟩ : LinkOk Z a0 own_CT own_MT own_m8.1.cls own_m8.1.name own_m8.2.2.2.1 (27, .getfield 185, 3, 2, 0, 41, .null, .int)), ?_⟩
  refine List.forall_mem_cons.mpr ⟨trivial, ?_⟩
  refine List.forall_mem_cons.mpr ⟨trivial, ?_⟩
  refine List.forall_mem_cons.mpr ⟨trivial, ?_⟩
  refine List.forall_mem_cons.mpr ⟨(⟨_, _, _, _, _, rfl, rfl, rfl, rfl, rfl, Or.inl (w 135 _ rfl), fun h => nomatch h⟩ : LinkOk Z a0 own_CT own_MT own_m8.1.cls own_m8.1.name own_m8.2.2.2.1 (33, .putfield 185, 3, 10, 0, 41, .null, .int)), ?_⟩
  refine List.forall_mem_cons.mpr ⟨(rfl : LinkOk Z a0 own_CT own_MT own_m8.1.cls own_m8.1.name own_m8.2.2.2.1 (36, .iaload, 1, 6, 0, 0, .null, .int)), ?_⟩
  refine List.forall_mem_cons.mpr ⟨(⟨_, rfl, rfl, by decide, by decide⟩ : LinkOk Z a0 own_CT own_MT own_m8.1.cls own_m8.1.name own_m8.2.2.2.1 (37, .goto 14, 3, 7, 51, 0, .null, .int)), ?_⟩
  refine List.forall_mem_cons.mpr ⟨trivial, ?_⟩
  refine List.forall_mem_cons.mpr ⟨trivial, ?_⟩
  refine List.forall_mem_cons.mpr ⟨(⟨_, _, _, _, _, rfl, rfl, rfl, rfl, Or.inl (w 137 _ rfl)⟩ : LinkOk Z a0 own_CT own_MT own_m8.1.cls own_m8.1.name own_m8.2.2.2.1 (42, .getfield 188, 3, 2, 0, 42, .null, .int)), ?_⟩
  refine List.forall_mem_cons.mpr ⟨trivial, ?_⟩
  refine List.forall_mem_cons.mpr ⟨trivial, ?_⟩
  refine List.forall_mem_cons.mpr ⟨trivial, ?_⟩
  refine List.forall_mem_cons.mpr ⟨(⟨_, _, _, _, _, rfl, rfl, rfl, rfl, rfl, Or.inl (w 137 _ rfl), fun h => nomatch h⟩ : LinkOk Z a0 own_CT own_MT own_m8.1.cls own_m8.1.name own_m8.2.2.2.1 (48, .putfield 188, 3, 10, 0, 42, .null, .int)), ?_⟩
  refine List.forall_mem_cons.mpr ⟨trivial, ?_⟩
  refine List.forall_mem_cons.mpr ⟨trivial, ?_⟩
  refine List.forall_mem_cons.mpr ⟨(⟨_, _, _, _, _, rfl, rfl, rfl, rfl, Or.inl (w 67 _ rfl)⟩ : LinkOk Z a0 own_CT own_MT own_m8.1.cls own_m8.1.name own_m8.2.2.2.1 (54, .getfield 75, 3, 2, 0, 18, .null, .int)), ?_⟩
  refine List.forall_mem_cons.mpr ⟨trivial, ?_⟩
  refine List.forall_mem_cons.mpr ⟨trivial, ?_⟩
  refine List.forall_mem_cons.mpr ⟨(rfl : LinkOk Z a0 own_CT own_MT own_m8.1.cls own_m8.1.name own_m8.2.2.2.1 (60, .iastore, 1, 11, 0, 0, .null, .int)), ?_⟩
  refine List.forall_mem_cons.mpr ⟨trivial, ?_⟩
  refine List.forall_mem_cons.mpr ⟨(⟨_, _, _, _, _, rfl, rfl, rfl, rfl, Or.inl (w 69 _ rfl)⟩ : LinkOk Z a0 own_CT own_MT own_m8.1.cls own_m8.1.name own_m8.2.2.2.1 (62, .getfield 78, 3, 2, 0, 19, .null, .int)), ?_⟩
  refine List.forall_mem_cons.mpr ⟨trivial, ?_⟩
  refine List.forall_mem_cons.mpr ⟨trivial, ?_⟩
  refine List.forall_mem_cons.mpr ⟨(rfl : LinkOk Z a0 own_CT own_MT own_m8.1.cls own_m8.1.name own_m8.2.2.2.1 (68, .iastore, 1, 11, 0, 0, .null, .int)), ?_⟩
  refine List.forall_mem_cons.mpr ⟨trivial, ?_⟩
  refine List.forall_mem_cons.mpr ⟨(⟨_, _, _, _, _, rfl, rfl, rfl, rfl, Or.inl (w 71 _ rfl)⟩ : LinkOk Z a0 own_CT own_MT own_m8.1.cls own_m8.1.name own_m8.2.2.2.1 (70, .getfield 81, 3, 2, 0, 20, .null, .int)), ?_⟩
  refine List.forall_mem_cons.mpr ⟨trivial, ?_⟩
  refine List.forall_mem_cons.mpr ⟨trivial, ?_⟩
  refine List.forall_mem_cons.mpr ⟨(rfl : LinkOk Z a0 own_CT own_MT own_m8.1.cls own_m8.1.name own_m8.2.2.2.1 (76, .iastore, 1, 11, 0, 0, .null, .int)), ?_⟩
  refine List.forall_mem_cons.mpr ⟨trivial, ?_⟩
  refine List.forall_mem_cons.mpr ⟨(⟨_, _, _, _, _, rfl, rfl, rfl, rfl, Or.inl (w 73 _ rfl)⟩ : LinkOk Z a0 own_CT own_MT own_m8.1.cls own_m8.1.name own_m8.2.2.2.1 (78, .getfield 84, 3, 2, 0, 21, .null, .int)), ?_⟩
  refine List.forall_mem_cons.mpr ⟨trivial, ?_⟩
  refine List.forall_mem_cons.mpr ⟨trivial, ?_⟩
  refine List.forall_mem_cons.mpr ⟨(rfl : LinkOk Z a0 own_CT own_MT own_m8.1.cls own_m8.1.name own_m8.2.2.2.1 (84, .iastore, 1, 11, 0, 0, .null, .int)), ?_⟩
  refine List.forall_mem_cons.mpr ⟨trivial, ?_⟩
  refine List.forall_mem_cons.mpr ⟨(⟨_, _, _, _, _, rfl, rfl, rfl, rfl, Or.inl (w 75 _ rfl)⟩ : LinkOk Z a0 own_CT own_MT own_m8.1.cls own_m8.1.name own_m8.2.2.2.1 (86, .getfield 87, 3, 2, 0, 22, .null, .int)), ?_⟩
  refine List.forall_mem_cons.mpr ⟨trivial, ?_⟩
  refine List.forall_mem_cons.mpr ⟨trivial, ?_⟩
  refine List.forall_mem_cons.mpr ⟨(rfl : LinkOk Z a0 own_CT own_MT own_m8.1.cls own_m8.1.name own_m8.2.2.2.1 (92, .iastore, 1, 11, 0, 0, .null, .int)), ?_⟩
  refine List.forall_mem_cons.mpr ⟨trivial, ?_⟩
  refine List.forall_mem_cons.mpr ⟨(⟨_, _, _, _, _, rfl, rfl, rfl, rfl, Or.inl (w 77 _ rfl)⟩ : LinkOk Z a0 own_CT own_MT own_m8.1.cls own_m8.1.name own_m8.2.2.2.1 (94, .getfield 90, 3, 2, 0, 23, .null, .int)), ?_⟩
  refine List.forall_mem_cons.mpr ⟨trivial, ?_⟩
  refine List.forall_mem_cons.mpr ⟨trivial, ?_⟩
  refine List.forall_mem_cons.mpr ⟨(rfl : LinkOk Z a0 own_CT own_MT own_m8.1.cls own_m8.1.name own_m8.2.2.2.1 (100, .iastore, 1, 11, 0, 0, .null, .int)), ?_⟩
  refine List.forall_mem_cons.mpr ⟨trivial, ?_⟩
  refine List.forall_mem_cons.mpr ⟨(⟨_, _, _, _, _, rfl, rfl, rfl, rfl, Or.inl (w 79 _ rfl)⟩ : LinkOk Z a0 own_CT own_MT own_m8.1.cls own_m8.1.name own_m8.2.2.2.1 (102, .getfield 93, 3, 2, 0, 24, .null, .int)), ?_⟩
  refine List.forall_mem_cons.mpr ⟨trivial, ?_⟩
  refine List.forall_mem_cons.mpr ⟨trivial, ?_⟩
  refine List.forall_mem_cons.mpr ⟨(⟨_, _, _, _, _, rfl, rfl, rfl, rfl, Or.inl (w 87 _ rfl)⟩ : LinkOk Z a0 own_CT own_MT own_m8.1.cls own_m8.1.name own_m8.2.2.2.1 (108, .getfield 105, 3, 2, 0, 28, .null, .int)), ?_⟩
  refine List.forall_mem_cons.mpr ⟨trivial, ?_⟩
  refine List.forall_mem_cons.mpr ⟨(rfl : LinkOk Z a0 own_CT own_MT own_m8.1.cls own_m8.1.name own_m8.2.2.2.1 (112, .iaload, 1, 6, 0, 0, .null, .int)), ?_⟩
  refine List.forall_mem_cons.mpr ⟨(rfl : LinkOk Z a0 own_CT own_MT own_m8.1.cls own_m8.1.name own_m8.2.2.2.1 (113, .iastore, 1, 11, 0, 0, .null, .int)), ?_⟩
  refine List.forall_mem_cons.mpr ⟨trivial, ?_⟩
  refine List.forall_mem_cons.mpr ⟨(⟨_, _, _, _, _, rfl, rfl, rfl, rfl, Or.inl (w 87 _ rfl)⟩ : LinkOk Z a0 own_CT own_MT own_m8.1.cls own_m8.1.name own_m8.2.2.2.1 (115, .getfield 105, 3, 2, 0, 28, .null, .int)), ?_⟩
  refine List.forall_mem_cons.mpr ⟨trivial, ?_⟩
  refine List.forall_mem_cons.mpr ⟨(rfl : LinkOk Z a0 own_CT own_MT own_m8.1.cls own_m8.1.name own_m8.2.2.2.1 (119, .iaload, 1, 6, 0, 0, .null, .int)), ?_⟩
  refine List.forall_mem_cons.mpr ⟨trivial, ?_⟩
  refine List.forall_mem_cons.mpr ⟨(⟨rfl, _, rfl, by decide, by decide⟩ : LinkOk Z a0 own_CT own_MT own_m8.1.cls own_m8.1.name own_m8.2.2.2.1 (121, .if_icmp .eq 16, 3, 4, 137, 0, .null, .int)), ?_⟩
  refine List.forall_mem_cons.mpr ⟨trivial, ?_⟩
  refine List.forall_mem_cons.mpr ⟨(⟨_, _, _, _, _, rfl, rfl, rfl, rfl, Or.inl (w 77 _ rfl)⟩ : LinkOk Z a0 own_CT own_MT own_m8.1.cls own_m8.1.name own_m8.2.2.2.1 (125, .getfield 90, 3, 2, 0, 23, .null, .int)), ?_⟩
  refine List.forall_mem_cons.mpr ⟨trivial, ?_⟩
  refine List.forall_mem_cons.mpr ⟨(⟨_, _, _, _, _, rfl, rfl, rfl, rfl, Or.inl (w 87 _ rfl)⟩ : LinkOk Z a0 own_CT own_MT own_m8.1.cls own_m8.1.name own_m8.2.2.2.1 (129, .getfield 105, 3, 2, 0, 28, .null, .int)), ?_⟩
  refine List.forall_mem_cons.mpr ⟨trivial, ?_⟩
  refine List.forall_mem_cons.mpr ⟨(rfl : LinkOk Z a0 own_CT own_MT own_m8.1.cls own_m8.1.name own_m8.2.2.2.1 (133, .iaload, 1, 6, 0, 0, .null, .int)), ?_⟩
  refine List.forall_mem_cons.mpr ⟨trivial, ?_⟩
  refine List.forall_mem_cons.mpr ⟨(rfl : LinkOk Z a0 own_CT own_MT own_m8.1.cls own_m8.1.name own_m8.2.2.2.1 (136, .iastore, 1, 11, 0, 0, .null, .int)), ?_⟩
  refine List.forall_mem_cons.mpr ⟨trivial, ?_⟩
  refine List.forall_mem_cons.mpr ⟨(⟨_, _, _, _, _, rfl, rfl, rfl, rfl, Or.inl (w 87 _ rfl)⟩ : LinkOk Z a0 own_CT own_MT own_m8.1.cls own_m8.1.name own_m8.2.2.2.1 (138, .getfield 105, 3, 2, 0, 28, .null, .int)), ?_⟩
  refine List.forall_mem_cons.mpr ⟨trivial, ?_⟩
  refine List.forall_mem_cons.mpr ⟨trivial, ?_⟩
  refine List.forall_mem_cons.mpr ⟨(rfl : LinkOk Z a0 own_CT own_MT own_m8.1.cls own_m8.1.name own_m8.2.2.2.1 (144, .iastore, 1, 11, 0, 0, .null, .int)), ?_⟩
  refine List.forall_mem_cons.mpr ⟨trivial, ?_⟩
  refine List.forall_mem_cons.mpr ⟨(⟨_, _, _, _, _, rfl, rfl, rfl, rfl, Or.inl (w 89 _ rfl)⟩ : LinkOk Z a0 own_CT own_MT own_m8.1.cls own_m8.1.name own_m8.2.2.2.1 (146, .getfield 108, 3, 2, 0, 29, .null, .int)), ?_⟩
  refine List.forall_mem_cons.mpr ⟨trivial, ?_⟩
  refine List.forall_mem_cons.mpr ⟨trivial, ?_⟩
  refine List.forall_mem_cons.mpr ⟨(rfl : LinkOk Z a0 own_CT own_MT own_m8.1.cls own_m8.1.name own_m8.2.2.2.1 (151, .iaload, 1, 6, 0, 0, .null, .int)), ?_⟩
  refine List.forall_mem_cons.mpr ⟨trivial, ?_⟩
  refine List.forall_mem_cons.mpr ⟨trivial, ?_⟩
  refine List.forall_mem_cons.mpr ⟨(rfl : LinkOk Z a0 own_CT own_MT own_m8.1.cls own_m8.1.name own_m8.2.2.2.1 (154, .iastore, 1, 11, 0, 0, .null, .int)), ?_⟩
  refine List.forall_mem_cons.mpr ⟨trivial, ?_⟩
  refine List.forall_mem_cons.mpr ⟨trivial, ?_⟩
  refine List.forall_mem_cons.mpr ⟨trivial, ?_⟩
  refine List.forall_mem_cons.mpr ⟨trivial, ?_⟩
  refine List.forall_mem_cons.mpr ⟨(⟨_, _, _, _, rfl, rfl, rfl, own_c10 Z a0 hw, w 139 _ rfl, w 140 _ rfl, rfl, w 141 _ rfl⟩ : LinkOk Z a0 own_CT own_MT own_m8.1.cls own_m8.1.name own_m8.2.2.2.1 (159, .invokevirtual 191, 3, 43, 10, 0, .null, .int)), ?_⟩
  refine List.forall_mem_cons.mpr ⟨trivial, ?_⟩
  refine List.forall_mem_cons.mpr ⟨(⟨_, _, _, _, _, rfl, rfl, rfl, rfl, Or.inl (w 83 _ rfl)⟩ : LinkOk Z a0 own_CT own_MT own_m8.1.cls own_m8.1.name own_m8.2.2.2.1 (163, .getfield 99, 3, 2, 0, 26, .null, .int)), ?_⟩
  refine List.forall_mem_cons.mpr ⟨trivial, ?_⟩
  refine List.forall_mem_cons.mpr ⟨trivial, ?_⟩
  refine List.forall_mem_cons.mpr ⟨(rfl : LinkOk Z a0 own_CT own_MT own_m8.1.cls own_m8.1.name own_m8.2.2.2.1 (169, .iastore, 1, 11, 0, 0, .null, .int)), ?_⟩
  refine List.forall_mem_cons.mpr ⟨trivial, ?_⟩
  refine List.forall_mem_cons.mpr ⟨(⟨_, _, _, _, _, rfl, rfl, rfl, rfl, Or.inl (w 85 _ rfl)⟩ : LinkOk Z a0 own_CT own_MT own_m8.1.cls own_m8.1.name own_m8.2.2.2.1 (171, .getfield 102, 3, 2, 0, 27, .null, .int)), ?_⟩
  refine List.forall_mem_cons.mpr ⟨trivial, ?_⟩
  refine List.forall_mem_cons.mpr ⟨trivial, ?_⟩
  refine List.forall_mem_cons.mpr ⟨(⟨_, _, _, _, _, rfl, rfl, rfl, rfl, Or.inl (w 29 _ rfl)⟩ : LinkOk Z a0 own_CT own_MT own_m8.1.cls own_m8.1.name own_m8.2.2.2.1 (177, .getfield 16, 3, 2, 0, 1, .null, .int)), ?_⟩
  refine List.forall_mem_cons.mpr ⟨trivial, ?_⟩
  refine List.forall_mem_cons.mpr ⟨(rfl : LinkOk Z a0 own_CT own_MT own_m8.1.cls own_m8.1.name own_m8.2.2.2.1 (181, .iaload, 1, 6, 0, 0, .null, .int)), ?_⟩
  refine List.forall_mem_cons.mpr ⟨(rfl : LinkOk Z a0 own_CT own_MT own_m8.1.cls own_m8.1.name own_m8.2.2.2.1 (182, .iastore, 1, 11, 0, 0, .null, .int)), ?_⟩
  refine List.forall_mem_cons.mpr ⟨trivial, ?_⟩
  refine List.forall_mem_cons.mpr ⟨(⟨_, _, _, _, _, rfl, rfl, rfl, rfl, Or.inl (w 29 _ rfl)⟩ : LinkOk Z a0 own_CT own_MT own_m8.1.cls own_m8.1.name own_m8.2.2.2.1 (184, .getfield 16, 3, 2, 0, 1, .null, .int)), ?_⟩
  refine List.forall_mem_cons.mpr ⟨trivial, ?_⟩
  refine List.forall_mem_cons.mpr ⟨(rfl : LinkOk Z a0 own_CT own_MT own_m8.1.cls own_m8.1.name own_m8.2.2.2.1 (188, .iaload, 1, 6, 0, 0, .null, .int)), ?_⟩
  refine List.forall_mem_cons.mpr ⟨trivial, ?_⟩
  refine List.forall_mem_cons.mpr ⟨(⟨rfl, _, rfl, by decide, by decide⟩ : LinkOk Z a0 own_CT own_MT own_m8.1.cls own_m8.1.name own_m8.2.2.2.1 (190, .if_icmp .eq 16, 3, 4, 206, 0, .null, .int)), ?_⟩
  refine List.forall_mem_cons.mpr ⟨trivial, ?_⟩
  refine List.forall_mem_cons.mpr ⟨(⟨_, _, _, _, _, rfl, rfl, rfl, rfl, Or.inl (w 83 _ rfl)⟩ : LinkOk Z a0 own_CT own_MT own_m8.1.cls own_m8.1.name own_m8.2.2.2.1 (194, .getfield 99, 3, 2, 0, 26, .null, .int)), ?_⟩
  refine List.forall_mem_cons.mpr ⟨trivial, ?_⟩
  refine List.forall_mem_cons.mpr ⟨(⟨_, _, _, _, _, rfl, rfl, rfl, rfl, Or.inl (w 29 _ rfl)⟩ : LinkOk Z a0 own_CT own_MT own_m8.1.cls own_m8.1.name own_m8.2.2.2.1 (198, .getfield 16, 3, 2, 0, 1, .null, .int)), ?_⟩
  refine List.forall_mem_cons.mpr ⟨trivial, ?_⟩
  refine List.forall_mem_cons.mpr ⟨(rfl : LinkOk Z a0 own_CT own_MT own_m8.1.cls own_m8.1.name own_m8.2.2.2.1 (202, .iaload, 1, 6, 0, 0, .null, .int)), ?_⟩
  refine List.forall_mem_cons.mpr ⟨trivial, ?_⟩
  refine List.forall_mem_cons.mpr ⟨(rfl : LinkOk Z a0 own_CT own_MT own_m8.1.cls own_m8.1.name own_m8.2.2.2.1 (205, .iastore, 1, 11, 0, 0, .null, .int)), ?_⟩
  refine List.forall_mem_cons.mpr ⟨trivial, ?_⟩
  refine List.forall_mem_cons.mpr ⟨(⟨_, _, _, _, _, rfl, rfl, rfl, rfl, Or.inl (w 29 _ rfl)⟩ : LinkOk Z a0 own_CT own_MT own_m8.1.cls own_m8.1.name own_m8.2.2.2.1 (207, .getfield 16, 3, 2, 0, 1, .null, .int)), ?_⟩
  refine List.forall_mem_cons.mpr ⟨trivial, ?_⟩
  refine List.forall_mem_cons.mpr ⟨trivial, ?_⟩
  refine List.forall_mem_cons.mpr ⟨(rfl : LinkOk Z a0 own_CT own_MT own_m8.1.cls own_m8.1.name own_m8.2.2.2.1 (213, .iastore, 1, 11, 0, 0, .null, .int)), ?_⟩
  refine List.forall_mem_cons.mpr ⟨trivial, ?_⟩
  refine List.forall_mem_cons.mpr ⟨(⟨_, _, _, _, _, rfl, rfl, rfl, rfl, Or.inl (w 31 _ rfl)⟩ : LinkOk Z a0 own_CT own_MT own_m8.1.cls own_m8.1.name own_m8.2.2.2.1 (215, .getfield 20, 3, 2, 0, 2, .null, .int)), ?_⟩
  refine List.forall_mem_cons.mpr ⟨trivial, ?_⟩
  refine List.forall_mem_cons.mpr ⟨trivial, ?_⟩
  refine List.forall_mem_cons.mpr ⟨(rfl : LinkOk Z a0 own_CT own_MT own_m8.1.cls own_m8.1.name own_m8.2.2.2.1 (220, .iaload, 1, 6, 0, 0, .null, .int)), ?_⟩
  refine List.forall_mem_cons.mpr ⟨trivial, ?_⟩
  refine List.forall_mem_cons.mpr ⟨trivial, ?_⟩
  refine List.forall_mem_cons.mpr ⟨(rfl : LinkOk Z a0 own_CT own_MT own_m8.1.cls own_m8.1.name own_m8.2.2.2.1 (223, .iastore, 1, 11, 0, 0, .null, .int)), ?_⟩
  refine List.forall_mem_cons.mpr ⟨trivial, ?_⟩
  refine List.forall_mem_cons.mpr ⟨(⟨_, _, _, _, _, rfl, rfl, rfl, rfl, Or.inl (w 36 _ rfl)⟩ : LinkOk Z a0 own_CT own_MT own_m8.1.cls own_m8.1.name own_m8.2.2.2.1 (225, .getfield 26, 3, 2, 0, 4, .null, .int)), ?_⟩
  refine List.forall_mem_cons.mpr ⟨trivial, ?_⟩
  refine List.forall_mem_cons.mpr ⟨(rfl : LinkOk Z a0 own_CT own_MT own_m8.1.cls own_m8.1.name own_m8.2.2.2.1 (229, .baload, 1, 6, 0, 0, .null, .int)), ?_⟩
  refine List.forall_mem_cons.mpr ⟨(⟨rfl, _, rfl, by decide, by decide⟩ : LinkOk Z a0 own_CT own_MT own_m8.1.cls own_m8.1.name own_m8.2.2.2.1 (230, .ifCond .eq 17, 3, 4, 247, 0, .null, .int)), ?_⟩
  refine List.forall_mem_cons.mpr ⟨trivial, ?_⟩
  refine List.forall_mem_cons.mpr ⟨(⟨_, _, _, _, _, rfl, rfl, rfl, rfl, Or.inl (w 33 _ rfl)⟩ : LinkOk Z a0 own_CT own_MT own_m8.1.cls own_m8.1.name own_m8.2.2.2.1 (234, .getfield 23, 3, 2, 0, 3, .null, .int)), ?_⟩
  refine List.forall_mem_cons.mpr ⟨trivial, ?_⟩
  refine List.forall_mem_cons.mpr ⟨trivial, ?_⟩
  refine List.forall_mem_cons.mpr ⟨trivial, ?_⟩
  refine List.forall_mem_cons.mpr ⟨(⟨_, rfl, rfl, by decide, by decide⟩ : LinkOk Z a0 own_CT own_MT own_m8.1.cls own_m8.1.name own_m8.2.2.2.1 (244, .goto 59, 3, 7, 303, 0, .null, .int)), ?_⟩
  refine List.forall_mem_cons.mpr ⟨trivial, ?_⟩
  refine List.forall_mem_cons.mpr ⟨(⟨_, _, _, _, _, rfl, rfl, rfl, rfl, Or.inl (w 31 _ rfl)⟩ : LinkOk Z a0 own_CT own_MT own_m8.1.cls own_m8.1.name own_m8.2.2.2.1 (248, .getfield 20, 3, 2, 0, 2, .null, .int)), ?_⟩
  refine List.forall_mem_cons.mpr ⟨trivial, ?_⟩
  refine List.forall_mem_cons.mpr ⟨(rfl : LinkOk Z a0 own_CT own_MT own_m8.1.cls own_m8.1.name own_m8.2.2.2.1 (252, .iaload, 1, 6, 0, 0, .null, .int)), ?_⟩
  refine List.forall_mem_cons.mpr ⟨trivial, ?_⟩
  refine List.forall_mem_cons.mpr ⟨(⟨rfl, _, rfl, by decide, by decide⟩ : LinkOk Z a0 own_CT own_MT own_m8.1.cls own_m8.1.name own_m8.2.2.2.1 (254, .if_icmp .le 49, 3, 4, 303, 0, .null, .int)), ?_⟩
  refine List.forall_mem_cons.mpr ⟨trivial, ?_⟩
  refine List.forall_mem_cons.mpr ⟨(⟨_, _, _, _, _, rfl, rfl, rfl, rfl, Or.inl (w 36 _ rfl)⟩ : LinkOk Z a0 own_CT own_MT own_m8.1.cls own_m8.1.name own_m8.2.2.2.1 (258, .getfield 26, 3, 2, 0, 4, .null, .int)), ?_⟩
  refine List.forall_mem_cons.mpr ⟨trivial, ?_⟩
  refine List.forall_mem_cons.mpr ⟨trivial, ?_⟩
  refine List.forall_mem_cons.mpr ⟨(rfl : LinkOk Z a0 own_CT own_MT own_m8.1.cls own_m8.1.name own_m8.2.2.2.1 (263, .bastore, 1, 11, 0, 0, .null, .int)), ?_⟩
  refine List.forall_mem_cons.mpr ⟨trivial, ?_⟩
  refine List.forall_mem_cons.mpr ⟨trivial, ?_⟩
  refine List.forall_mem_cons.mpr ⟨trivial, ?_⟩
  refine List.forall_mem_cons.mpr ⟨trivial, ?_⟩
  refine List.forall_mem_cons.mpr ⟨(⟨rfl, _, rfl, by decide, by decide⟩ : LinkOk Z a0 own_CT own_MT own_m8.1.cls own_m8.1.name own_m8.2.2.2.1 (271, .if_icmp .eq 32, 3, 4, 303, 0, .null, .int)), ?_⟩
  refine List.forall_mem_cons.mpr ⟨trivial, ?_⟩
  refine List.forall_mem_cons.mpr ⟨(⟨_, _, _, _, _, rfl, rfl, rfl, rfl, Or.inl (w 33 _ rfl)⟩ : LinkOk Z a0 own_CT own_MT own_m8.1.cls own_m8.1.name own_m8.2.2.2.1 (275, .getfield 23, 3, 2, 0, 3, .null, .int)), ?_⟩
  refine List.forall_mem_cons.mpr ⟨trivial, ?_⟩
  refine List.forall_mem_cons.mpr ⟨(⟨_, _, _, _, _, rfl, rfl, rfl, rfl, Or.inl (w 67 _ rfl)⟩ : LinkOk Z a0 own_CT own_MT own_m8.1.cls own_m8.1.name own_m8.2.2.2.1 (279, .getfield 75, 3, 2, 0, 18, .null, .int)), ?_⟩
  refine List.forall_mem_cons.mpr ⟨trivial, ?_⟩
  refine List.forall_mem_cons.mpr ⟨(rfl : LinkOk Z a0 own_CT own_MT own_m8.1.cls own_m8.1.name own_m8.2.2.2.1 (284, .iaload, 1, 6, 0, 0, .null, .int)), ?_⟩
  refine List.forall_mem_cons.mpr ⟨trivial, ?_⟩
  refine List.forall_mem_cons.mpr ⟨trivial, ?_⟩
  refine List.forall_mem_cons.mpr ⟨trivial, ?_⟩
  refine List.forall_mem_cons.mpr ⟨(⟨_, _, _, _, _, rfl, rfl, rfl, rfl, Or.inl (w 85 _ rfl)⟩ : LinkOk Z a0 own_CT own_MT own_m8.1.cls own_m8.1.name own_m8.2.2.2.1 (292, .getfield 102, 3, 2, 0, 27, .null, .int)), ?_⟩
  refine List.forall_mem_cons.mpr ⟨trivial, ?_⟩
  refine List.forall_mem_cons.mpr ⟨(rfl : LinkOk Z a0 own_CT own_MT own_m8.1.cls own_m8.1.name own_m8.2.2.2.1 (297, .iaload, 1, 6, 0, 0, .null, .int)), ?_⟩
  refine List.forall_mem_cons.mpr ⟨trivial, ?_⟩
  refine List.forall_mem_cons.mpr ⟨(⟨_, rfl, rfl, by decide, by decide⟩ : LinkOk Z a0 own_CT own_MT own_m8.1.cls own_m8.1.name own_m8.2.2.2.1 (300, .goto (-32), 3, 7, 268, 0, .null, .int)), ?_⟩
  refine List.forall_mem_cons.mpr ⟨trivial, ?_⟩
  refine List.forall_mem_cons.mpr ⟨(⟨rfl, rfl, rfl⟩ : LinkOk Z a0 own_CT own_MT own_m8.1.cls own_m8.1.name own_m8.2.2.2.1 (305, .ireturn, 1, 31, 0, 0, .null, .int)), ?_⟩
  exact fun _ h => nomatch h
set_option maxRecDepth 65536 in
theorem own_ok9 (Z : State) (a0 : Array Value) (hw : ∀ d ∈ tables_1, d.before a0 Z = true) : MOk Z a0 own_CT own_MT own_m9 := by
  have w := fun (k : Nat) (d : Jvm.Cond) (h : tables_1[k]? = some d) => hw d (List.mem_of_getElem? h)
  refine mOk_of own_pn9 own_d9 ?_
  refine List.forall_mem_cons.mpr ⟨trivial, ?_⟩
  refine List.forall_mem_cons.mpr ⟨trivial, ?_⟩
  refine List.forall_mem_cons.mpr ⟨(⟨_, _, _, _, _, rfl, rfl, rfl, rfl, Or.inl (w 29 _ rfl)⟩ : LinkOk Z a0 own_CT own_MT own_m9.1.cls own_m9.1.name own_m9.2.2.2.1 (2, .getfield 16, 3, 2, 0, 1, .null, .int)), ?_⟩
  refine List.forall_mem_cons.mpr ⟨(⟨rfl, rfl⟩ : LinkOk Z a0 own_CT own_MT own_m9.1.cls own_m9.1.name own_m9.2.2.2.1 (5, .arraylength, 1, 12, 0, 0, .null, .int)), ?_⟩
  refine List.forall_mem_cons.mpr ⟨(⟨rfl, _, rfl, by decide, by decide⟩ : LinkOk Z a0 own_CT own_MT own_m9.1.cls own_m9.1.name own_m9.2.2.2.1 (6, .if_icmp .lt 5, 3, 4, 11, 0, .null, .int)), ?_⟩
  refine List.forall_mem_cons.mpr ⟨trivial, ?_⟩
  refine List.forall_mem_cons.mpr ⟨(⟨rfl, rfl, rfl⟩ : LinkOk Z a0 own_CT own_MT own_m9.1.cls own_m9.1.name own_m9.2.2.2.1 (10, .ireturn, 1, 31, 0, 0, .null, .int)), ?_⟩
  refine List.forall_mem_cons.mpr ⟨trivial, ?_⟩
  refine List.forall_mem_cons.mpr ⟨(⟨_, _, _, _, _, rfl, rfl, rfl, rfl, Or.inl (w 36 _ rfl)⟩ : LinkOk Z a0 own_CT own_MT own_m9.1.cls own_m9.1.name own_m9.2.2.2.1 (12, .getfield 26, 3, 2, 0, 4, .null, .int)), ?_⟩
  refine List.forall_mem_cons.mpr ⟨trivial, ?_⟩
  refine List.forall_mem_cons.mpr ⟨(rfl : LinkOk Z a0 own_CT own_MT own_m9.1.cls own_m9.1.name own_m9.2.2.2.1 (16, .baload, 1, 6, 0, 0, .null, .int)), ?_⟩
  refine List.forall_mem_cons.mpr ⟨(⟨rfl, _, rfl, by decide, by decide⟩ : LinkOk Z a0 own_CT own_MT own_m9.1.cls own_m9.1.name own_m9.2.2.2.1 (17, .ifCond .eq 24, 3, 4, 41, 0, .null, .int)), ?_⟩
  refine List.forall_mem_cons.mpr ⟨trivial, ?_⟩
  refine List.forall_mem_cons.mpr ⟨(⟨_, _, _, _, _, rfl, rfl, rfl, rfl, Or.inl (w 33 _ rfl)⟩ : LinkOk Z a0 own_CT own_MT own_m9.1.cls own_m9.1.name own_m9.2.2.2.1 (21, .getfield 23, 3, 2, 0, 3, .null, .int)), ?_⟩
  refine List.forall_mem_cons.mpr ⟨trivial, ?_⟩
  refine List.forall_mem_cons.mpr ⟨trivial, ?_⟩
  refine List.forall_mem_cons.mpr ⟨trivial, ?_⟩
  refine List.forall_mem_cons.mpr ⟨trivial, ?_⟩
  refine List.forall_mem_cons.mpr ⟨trivial, ?_⟩
  refine List.forall_mem_cons.mpr ⟨(⟨rfl, _, rfl, by decide, by decide⟩ : LinkOk Z a0 own_CT own_MT own_m9.1.cls own_m9.1.name own_m9.2.2.2.1 (32, .if_icmp .ne 7, 3, 4, 39, 0, .null, .int)), ?_⟩
  refine List.forall_mem_cons.mpr ⟨trivial, ?_⟩
  refine List.forall_mem_cons.mpr ⟨(⟨_, rfl, rfl, by decide, by decide⟩ : LinkOk Z a0 own_CT own_MT own_m9.1.cls own_m9.1.name own_m9.2.2.2.1 (36, .goto 4, 3, 7, 40, 0, .null, .int)), ?_⟩
  refine List.forall_mem_cons.mpr ⟨trivial, ?_⟩
  refine List.forall_mem_cons.mpr ⟨(⟨rfl, rfl, rfl⟩ : LinkOk Z a0 own_CT own_MT own_m9.1.cls own_m9.1.name own_m9.2.2.2.1 (40, .ireturn, 1, 31, 0, 0, .null, .int)), ?_⟩
  refine List.forall_mem_cons.mpr ⟨trivial, ?_⟩
  refine List.forall_mem_cons.mpr ⟨(⟨_, _, _, _, _, rfl, rfl, rfl, rfl, Or.inl (w 29 _ rfl)⟩ : LinkOk Z a0 own_CT own_MT own_m9.1.cls own_m9.1.name own_m9.2.2.2.1 (42, .getfield 16, 3, 2, 0, 1, .null, .int)), ?_⟩
  refine List.forall_mem_cons.mpr ⟨trivial, ?_⟩
  refine List.forall_mem_cons.mpr ⟨(rfl : LinkOk Z a0 own_CT own_MT own_m9.1.cls own_m9.1.name own_m9.2.2.2.1 (46, .iaload, 1, 6, 0, 0, .null, .int)), ?_⟩
  refine List.forall_mem_cons.mpr ⟨trivial, ?_⟩
  refine List.forall_mem_cons.mpr ⟨trivial, ?_⟩
  refine List.forall_mem_cons.mpr ⟨trivial, ?_⟩
  refine List.forall_mem_cons.mpr ⟨(⟨rfl, _, rfl, by decide, by decide⟩ : LinkOk Z a0 own_CT own_MT own_m9.1.cls own_m9.1.name own_m9.2.2.2.1 (50, .if_icmp .eq 25, 3, 4, 75, 0, .null, .int)), ?_⟩
  refine List.forall_mem_cons.mpr ⟨trivial, ?_⟩
  refine List.forall_mem_cons.mpr ⟨(⟨_, _, _, _, _, rfl, rfl, rfl, rfl, Or.inl (w 67 _ rfl)⟩ : LinkOk Z a0 own_CT own_MT own_m9.1.cls own_m9.1.name own_m9.2.2.2.1 (54, .getfield 75, 3, 2, 0, 18, .null, .int)), ?_⟩
  refine List.forall_mem_cons.mpr ⟨trivial, ?_⟩
  refine List.forall_mem_cons.mpr ⟨(rfl : LinkOk Z a0 own_CT own_MT own_m9.1.cls own_m9.1.name own_m9.2.2.2.1 (58, .iaload, 1, 6, 0, 0, .null, .int)), ?_⟩
  refine List.forall_mem_cons.mpr ⟨trivial, ?_⟩
  refine List.forall_mem_cons.mpr ⟨(⟨rfl, _, rfl, by decide, by decide⟩ : LinkOk Z a0 own_CT own_MT own_m9.1.cls own_m9.1.name own_m9.2.2.2.1 (60, .if_icmp .ne 5, 3, 4, 65, 0, .null, .int)), ?_⟩
  refine List.forall_mem_cons.mpr ⟨trivial, ?_⟩
  refine List.forall_mem_cons.mpr ⟨(⟨rfl, rfl, rfl⟩ : LinkOk Z a0 own_CT own_MT own_m9.1.cls own_m9.1.name own_m9.2.2.2.1 (64, .ireturn, 1, 31, 0, 0, .null, .int)), ?_⟩
  refine List.forall_mem_cons.mpr ⟨trivial, ?_⟩
  refine List.forall_mem_cons.mpr ⟨(⟨_, _, _, _, _, rfl, rfl, rfl, rfl, Or.inl (w 85 _ rfl)⟩ : LinkOk Z a0 own_CT own_MT own_m9.1.cls own_m9.1.name own_m9.2.2.2.1 (66, .getfield 102, 3, 2, 0, 27, .null, .int)), ?_⟩
  refine List.forall_mem_cons.mpr ⟨trivial, ?_⟩
  refine List.forall_mem_cons.mpr ⟨(rfl : LinkOk Z a0 own_CT own_MT own_m9.1.cls own_m9.1.name own_m9.2.2.2.1 (70, .iaload, 1, 6, 0, 0, .null, .int)), ?_⟩
  refine List.forall_mem_cons.mpr ⟨trivial, ?_⟩
  refine List.forall_mem_cons.mpr ⟨(⟨_, rfl, rfl, by decide, by decide⟩ : LinkOk Z a0 own_CT own_MT own_m9.1.cls own_m9.1.name own_m9.2.2.2.1 (72, .goto (-24), 3, 7, 48, 0, .null, .int)), ?_⟩
  refine List.forall_mem_cons.mpr ⟨trivial, ?_⟩
  refine List.forall_mem_cons.mpr ⟨(⟨rfl, rfl, rfl⟩ : LinkOk Z a0 own_CT own_MT own_m9.1.cls own_m9.1.name own_m9.2.2.2.1 (76, .ireturn, 1, 31, 0, 0, .null, .int)), ?_⟩
  exact fun _ h => nomatch h
set_option maxRecDepth 65536 in
theorem own_ok10 (Z : State) (a0 : Array Value) (hw : ∀ d ∈ tables_1, d.before a0 Z = true) : MOk Z a0 own_CT own_MT own_m10 := by
  have w := fun (k : Nat) (d : Jvm.Cond) (h : tables_1[k]? = some d) => hw d (List.mem_of_getElem? h)
  refine mOk_of own_pn10 own_d10 ?_
  refine List.forall_mem_cons.mpr ⟨trivial, ?_⟩
  refine List.forall_mem_cons.mpr ⟨trivial, ?_⟩
  refine List.forall_mem_cons.mpr ⟨(⟨_, _, _, _, _, rfl, rfl, rfl, rfl, Or.inl (w 29 _ rfl)⟩ : LinkOk Z a0 own_CT own_MT own_m10.1.cls own_m10.1.name own_m10.2.2.2.1 (2, .getfield 16, 3, 2, 0, 1, .null, .int)), ?_⟩
  refine List.forall_mem_cons.mpr ⟨(⟨rfl, rfl⟩ : LinkOk Z a0 own_CT own_MT own_m10.1.cls own_m10.1.name own_m10.2.2.2.1 (5, .arraylength, 1, 12, 0, 0, .null, .int)), ?_⟩
  refine List.forall_mem_cons.mpr ⟨(⟨rfl, _, rfl, by decide, by decide⟩ : LinkOk Z a0 own_CT own_MT own_m10.1.cls own_m10.1.name own_m10.2.2.2.1 (6, .if_icmp .le 61, 3, 4, 67, 0, .null, .int)), ?_⟩
  refine List.forall_mem_cons.mpr ⟨trivial, ?_⟩
  refine List.forall_mem_cons.mpr ⟨(⟨_, _, _, _, _, rfl, rfl, rfl, rfl, Or.inl (w 29 _ rfl)⟩ : LinkOk Z a0 own_CT own_MT own_m10.1.cls own_m10.1.name own_m10.2.2.2.1 (10, .getfield 16, 3, 2, 0, 1, .null, .int)), ?_⟩
  refine List.forall_mem_cons.mpr ⟨(⟨rfl, rfl⟩ : LinkOk Z a0 own_CT own_MT own_m10.1.cls own_m10.1.name own_m10.2.2.2.1 (13, .arraylength, 1, 12, 0, 0, .null, .int)), ?_⟩
  refine List.forall_mem_cons.mpr ⟨trivial, ?_⟩
  refine List.forall_mem_cons.mpr ⟨trivial, ?_⟩
  refine List.forall_mem_cons.mpr ⟨trivial, ?_⟩
  refine List.forall_mem_cons.mpr ⟨(⟨_, _, rfl, rfl, rfl, own_c11 Z a0 hw, w 143 _ rfl, w 144 _ rfl⟩ : LinkOk Z a0 own_CT own_MT own_m10.1.cls own_m10.1.name own_m10.2.2.2.1 (17, .invokestatic 194, 3, 40, 11, 0, .null, .int)), ?_⟩
  refine List.forall_mem_cons.mpr ⟨trivial, ?_⟩
  refine List.forall_mem_cons.mpr ⟨trivial, ?_⟩
  refine List.forall_mem_cons.mpr ⟨trivial, ?_⟩
  refine List.forall_mem_cons.mpr ⟨(⟨_, _, _, _, _, rfl, rfl, rfl, rfl, Or.inl (w 29 _ rfl)⟩ : LinkOk Z a0 own_CT own_MT own_m10.1.cls own_m10.1.name own_m10.2.2.2.1 (23, .getfield 16, 3, 2, 0, 1, .null, .int)), ?_⟩
  refine List.forall_mem_cons.mpr ⟨trivial, ?_⟩
  refine List.forall_mem_cons.mpr ⟨(⟨_, _, rfl, rfl, rfl, own_c14 Z a0 hw, w 157 _ rfl, w 158 _ rfl⟩ : LinkOk Z a0 own_CT own_MT own_m10.1.cls own_m10.1.name own_m10.2.2.2.1 (27, .invokestatic 199, 3, 40, 14, 0, .null, .int)), ?_⟩
  refine List.forall_mem_cons.mpr ⟨(⟨_, _, _, _, _, rfl, rfl, rfl, rfl, rfl, Or.inl (w 29 _ rfl), fun h => nomatch h⟩ : LinkOk Z a0 own_CT own_MT own_m10.1.cls own_m10.1.name own_m10.2.2.2.1 (30, .putfield 16, 3, 10, 0, 1, .null, (.array .int))), ?_⟩
  refine List.forall_mem_cons.mpr ⟨trivial, ?_⟩
  refine List.forall_mem_cons.mpr ⟨(⟨_, _, _, _, _, rfl, rfl, rfl, rfl, Or.inl (w 29 _ rfl)⟩ : LinkOk Z a0 own_CT own_MT own_m10.1.cls own_m10.1.name own_m10.2.2.2.1 (34, .getfield 16, 3, 2, 0, 1, .null, .int)), ?_⟩
  refine List.forall_mem_cons.mpr ⟨trivial, ?_⟩
  refine List.forall_mem_cons.mpr ⟨trivial, ?_⟩
  refine List.forall_mem_cons.mpr ⟨trivial, ?_⟩
  refine List.forall_mem_cons.mpr ⟨(⟨_, _, rfl, rfl, rfl, own_c16 Z a0 hw, w 167 _ rfl, w 168 _ rfl⟩ : LinkOk Z a0 own_CT own_MT own_m10.1.cls own_m10.1.name own_m10.2.2.2.1 (40, .invokestatic 203, 3, 40, 16, 0, .null, .int)), ?_⟩
  refine List.forall_mem_cons.mpr ⟨trivial, ?_⟩
  refine List.forall_mem_cons.mpr ⟨trivial, ?_⟩
  refine List.forall_mem_cons.mpr ⟨(⟨_, _, _, _, _, rfl, rfl, rfl, rfl, Or.inl (w 31 _ rfl)⟩ : LinkOk Z a0 own_CT own_MT own_m10.1.cls own_m10.1.name own_m10.2.2.2.1 (45, .getfield 20, 3, 2, 0, 2, .null, .int)), ?_⟩
  refine List.forall_mem_cons.mpr ⟨trivial, ?_⟩
  refine List.forall_mem_cons.mpr ⟨(⟨_, _, rfl, rfl, rfl, own_c14 Z a0 hw, w 157 _ rfl, w 158 _ rfl⟩ : LinkOk Z a0 own_CT own_MT own_m10.1.cls own_m10.1.name own_m10.2.2.2.1 (49, .invokestatic 199, 3, 40, 14, 0, .null, .int)), ?_⟩
  refine List.forall_mem_cons.mpr ⟨(⟨_, _, _, _, _, rfl, rfl, rfl, rfl, rfl, Or.inl (w 31 _ rfl), fun h => nomatch h⟩ : LinkOk Z a0 own_CT own_MT own_m10.1.cls own_m10.1.name own_m10.2.2.2.1 (52, .putfield 20, 3, 10, 0, 2, .null, (.array .int))), ?_⟩
  refine List.forall_mem_cons.mpr ⟨trivial, ?_⟩
  refine List.forall_mem_cons.mpr ⟨trivial, ?_⟩
  refine List.forall_mem_cons.mpr ⟨(⟨_, _, _, _, _, rfl, rfl, rfl, rfl, Or.inl (w 36 _ rfl)⟩ : LinkOk Z a0 own_CT own_MT own_m10.1.cls own_m10.1.name own_m10.2.2.2.1 (57, .getfield 26, 3, 2, 0, 4, .null, .int)), ?_⟩
  refine List.forall_mem_cons.mpr ⟨trivial, ?_⟩
  refine List.forall_mem_cons.mpr ⟨(⟨_, _, rfl, rfl, rfl, own_c18 Z a0 hw, w 173 _ rfl, w 174 _ rfl⟩ : LinkOk Z a0 own_CT own_MT own_m10.1.cls own_m10.1.name own_m10.2.2.2.1 (61, .invokestatic 206, 3, 40, 18, 0, .null, .int)), ?_⟩
  refine List.forall_mem_cons.mpr ⟨(⟨_, _, _, _, _, rfl, rfl, rfl, rfl, rfl, Or.inl (w 36 _ rfl), fun h => nomatch h⟩ : LinkOk Z a0 own_CT own_MT own_m10.1.cls own_m10.1.name own_m10.2.2.2.1 (64, .putfield 26, 3, 10, 0, 4, .null, (.array .boolean))), ?_⟩
  refine List.forall_mem_cons.mpr ⟨(⟨rfl, rfl, rfl⟩ : LinkOk Z a0 own_CT own_MT own_m10.1.cls own_m10.1.name own_m10.2.2.2.1 (67, .return_, 1, 30, 0, 0, .null, .int)), ?_⟩
  exact fun _ h => nomatch h
set_option maxRecDepth 65536 in
theorem own_ok11 (Z : State) (a0 : Array Value) (hw : ∀ d ∈ tables_1, d.before a0 Z = true) : MOk Z a0 own_CT own_MT own_m11 := by
  have w := fun (k : Nat) (d : Jvm.Cond) (h : tables_1[k]? = some d) => hw d (List.mem_of_getElem? h)
  refine mOk_of own_pn11 own_d11 ?_
  refine List.forall_mem_cons.mpr ⟨trivial, ?_⟩
  refine List.forall_mem_cons.mpr ⟨(Or.inl ⟨_, _, rfl, rfl, rfl, w 147 _ rfl⟩ : LinkOk Z a0 own_CT own_MT own_m11.1.cls own_m11.1.name own_m11.2.2.2.1 (1, .ldc 11, 2, 13, 0, 0, (.int 2147483639), .int)), ?_⟩
  refine List.forall_mem_cons.mpr ⟨(⟨rfl, _, rfl, by decide, by decide⟩ : LinkOk Z a0 own_CT own_MT own_m11.1.cls own_m11.1.name own_m11.2.2.2.1 (3, .if_icmp .le 13, 3, 4, 16, 0, .null, .int)), ?_⟩
  refine List.forall_mem_cons.mpr ⟨trivial, ?_⟩
  refine List.forall_mem_cons.mpr ⟨(Or.inr (Or.inr ⟨_, _, rfl, rfl, rfl, w 148 _ rfl⟩) : LinkOk Z a0 own_CT own_MT own_m11.1.cls own_m11.1.name own_m11.2.2.2.1 (16, .ldc2_w 19, 3, 13, 0, 0, (.long 2), .int)), ?_⟩
  refine List.forall_mem_cons.mpr ⟨trivial, ?_⟩
  refine List.forall_mem_cons.mpr ⟨trivial, ?_⟩
  refine List.forall_mem_cons.mpr ⟨trivial, ?_⟩
  refine List.forall_mem_cons.mpr ⟨trivial, ?_⟩
  refine List.forall_mem_cons.mpr ⟨trivial, ?_⟩
  refine List.forall_mem_cons.mpr ⟨(⟨_, _, rfl, rfl, rfl, own_c12 Z a0 hw, w 149 _ rfl, w 150 _ rfl⟩ : LinkOk Z a0 own_CT own_MT own_m11.1.cls own_m11.1.name own_m11.2.2.2.1 (24, .invokestatic 21, 3, 40, 12, 0, .null, .int)), ?_⟩
  refine List.forall_mem_cons.mpr ⟨(Or.inr (Or.inr ⟨_, _, rfl, rfl, rfl, w 153 _ rfl⟩) : LinkOk Z a0 own_CT own_MT own_m11.1.cls own_m11.1.name own_m11.2.2.2.1 (27, .ldc2_w 27, 3, 13, 0, 0, (.long 2147483639), .int)), ?_⟩
  refine List.forall_mem_cons.mpr ⟨(⟨_, _, rfl, rfl, rfl, own_c13 Z a0 hw, w 154 _ rfl, w 155 _ rfl⟩ : LinkOk Z a0 own_CT own_MT own_m11.1.cls own_m11.1.name own_m11.2.2.2.1 (30, .invokestatic 29, 3, 40, 13, 0, .null, .int)), ?_⟩
  refine List.forall_mem_cons.mpr ⟨trivial, ?_⟩
  refine List.forall_mem_cons.mpr ⟨(⟨rfl, rfl, rfl⟩ : LinkOk Z a0 own_CT own_MT own_m11.1.cls own_m11.1.name own_m11.2.2.2.1 (34, .ireturn, 1, 31, 0, 0, .null, .int)), ?_⟩
  exact fun _ h => nomatch h
set_option maxRecDepth 65536 in
theorem own_ok12 (Z : State) (a0 : Array Value) (hw : ∀ d ∈ tables_1, d.before a0 Z = true) : MOk Z a0 own_CT own_MT own_m12 := by
  have w := fun (k : Nat) (d : Jvm.Cond) (h : tables_1[k]? = some d) => hw d (List.mem_of_getElem? h)
  refine mOk_of own_pn12 own_d12 ?_
  refine List.forall_mem_cons.mpr ⟨trivial, ?_⟩
  refine List.forall_mem_cons.mpr ⟨trivial, ?_⟩
  refine List.forall_mem_cons.mpr ⟨trivial, ?_⟩
  refine List.forall_mem_cons.mpr ⟨(⟨rfl, _, rfl, by decide, by decide⟩ : LinkOk Z a0 own_CT own_MT own_m12.1.cls own_m12.1.name own_m12.2.2.2.1 (3, .ifCond .lt 7, 3, 4, 10, 0, .null, .int)), ?_⟩
  refine List.forall_mem_cons.mpr ⟨trivial, ?_⟩
  refine List.forall_mem_cons.mpr ⟨(⟨_, rfl, rfl, by decide, by decide⟩ : LinkOk Z a0 own_CT own_MT own_m12.1.cls own_m12.1.name own_m12.2.2.2.1 (7, .goto 4, 3, 7, 11, 0, .null, .int)), ?_⟩
  refine List.forall_mem_cons.mpr ⟨trivial, ?_⟩
  refine List.forall_mem_cons.mpr ⟨(⟨rfl, rfl, rfl⟩ : LinkOk Z a0 own_CT own_MT own_m12.1.cls own_m12.1.name own_m12.2.2.2.1 (11, .lreturn, 1, 33, 0, 0, .null, .int)), ?_⟩
  exact fun _ h => nomatch h
set_option maxRecDepth 65536 in
theorem own_ok13 (Z : State) (a0 : Array Value) (hw : ∀ d ∈ tables_1, d.before a0 Z = true) : MOk Z a0 own_CT own_MT own_m13 := by
  have w := fun (k : Nat) (d : Jvm.Cond) (h : tables_1[k]? = some d) => hw d (List.mem_of_getElem? h)
  refine mOk_of own_pn13 own_d13 ?_
  refine List.forall_mem_cons.mpr ⟨trivial, ?_⟩
  refine List.forall_mem_cons.mpr ⟨trivial, ?_⟩
  refine List.forall_mem_cons.mpr ⟨trivial, ?_⟩
  refine List.forall_mem_cons.mpr ⟨(⟨rfl, _, rfl, by decide, by decide⟩ : LinkOk Z a0 own_CT own_MT own_m13.1.cls own_m13.1.name own_m13.2.2.2.1 (3, .ifCond .gt 7, 3, 4, 10, 0, .null, .int)), ?_⟩
  refine List.forall_mem_cons.mpr ⟨trivial, ?_⟩
  refine List.forall_mem_cons.mpr ⟨(⟨_, rfl, rfl, by decide, by decide⟩ : LinkOk Z a0 own_CT own_MT own_m13.1.cls own_m13.1.name own_m13.2.2.2.1 (7, .goto 4, 3, 7, 11, 0, .null, .int)), ?_⟩
  refine List.forall_mem_cons.mpr ⟨trivial, ?_⟩
  refine List.forall_mem_cons.mpr ⟨(⟨rfl, rfl, rfl⟩ : LinkOk Z a0 own_CT own_MT own_m13.1.cls own_m13.1.name own_m13.2.2.2.1 (11, .lreturn, 1, 33, 0, 0, .null, .int)), ?_⟩
  exact fun _ h => nomatch h
set_option maxRecDepth 65536 in
theorem own_ok14 (Z : State) (a0 : Array Value) (hw : ∀ d ∈ tables_1, d.before a0 Z = true) : MOk Z a0 own_CT own_MT own_m14 := by
  have w := fun (k : Nat) (d : Jvm.Cond) (h : tables_1[k]? = some d) => hw d (List.mem_of_getElem? h)
  refine mOk_of own_pn14 own_d14 ?_
  refine List.forall_mem_cons.mpr ⟨trivial, ?_⟩
  refine List.forall_mem_cons.mpr ⟨trivial, ?_⟩
  refine List.forall_mem_cons.mpr ⟨(⟨rfl, rfl⟩ : LinkOk Z a0 own_CT own_MT own_m14.1.cls own_m14.1.name own_m14.2.2.2.1 (2, .arraylength, 1, 12, 0, 0, .null, .int)), ?_⟩
  refine List.forall_mem_cons.mpr ⟨(⟨rfl, _, rfl, by decide, by decide⟩ : LinkOk Z a0 own_CT own_MT own_m14.1.cls own_m14.1.name own_m14.2.2.2.1 (3, .if_icmp .ne 11, 3, 4, 14, 0, .null, .int)), ?_⟩
  refine List.forall_mem_cons.mpr ⟨trivial, ?_⟩
  refine List.forall_mem_cons.mpr ⟨(⟨rfl, rfl, _, rfl, rfl⟩ : LinkOk Z a0 own_CT own_MT own_m14.1.cls own_m14.1.name own_m14.2.2.2.1 (13, .areturn, 1, 34, 0, 0, .null, .int)), ?_⟩
  refine List.forall_mem_cons.mpr ⟨trivial, ?_⟩
  refine List.forall_mem_cons.mpr ⟨(⟨_, rfl, rfl, w 28 _ rfl⟩ : LinkOk Z a0 own_CT own_MT own_m14.1.cls own_m14.1.name own_m14.2.2.2.1 (15, .newarray .int, 2, 15, 0, 0, .null, .int)), ?_⟩
  refine List.forall_mem_cons.mpr ⟨trivial, ?_⟩
  refine List.forall_mem_cons.mpr ⟨trivial, ?_⟩
  refine List.forall_mem_cons.mpr ⟨trivial, ?_⟩
  refine List.forall_mem_cons.mpr ⟨trivial, ?_⟩
  refine List.forall_mem_cons.mpr ⟨trivial, ?_⟩
  refine List.forall_mem_cons.mpr ⟨trivial, ?_⟩
  refine List.forall_mem_cons.mpr ⟨(⟨rfl, rfl⟩ : LinkOk Z a0 own_CT own_MT own_m14.1.cls own_m14.1.name own_m14.2.2.2.1 (23, .arraylength, 1, 12, 0, 0, .null, .int)), ?_⟩
  refine List.forall_mem_cons.mpr ⟨trivial, ?_⟩
  refine List.forall_mem_cons.mpr ⟨(⟨_, _, rfl, rfl, rfl, own_c15 Z a0 hw, w 160 _ rfl, w 161 _ rfl⟩ : LinkOk Z a0 own_CT own_MT own_m14.1.cls own_m14.1.name own_m14.2.2.2.1 (25, .invokestatic 304, 3, 40, 15, 0, .null, .int)), ?_⟩
  refine List.forall_mem_cons.mpr ⟨(⟨_, rfl, rfl, w 163 _ rfl, w 166 _ rfl, w 164 _ rfl, w 165 _ rfl⟩ : LinkOk Z a0 own_CT own_MT own_m14.1.cls own_m14.1.name own_m14.2.2.2.1 (28, .invokestatic 150, 3, 19, 0, 0, .null, .int)), ?_⟩
  refine List.forall_mem_cons.mpr ⟨trivial, ?_⟩
  refine List.forall_mem_cons.mpr ⟨(⟨rfl, rfl, _, rfl, rfl⟩ : LinkOk Z a0 own_CT own_MT own_m14.1.cls own_m14.1.name own_m14.2.2.2.1 (32, .areturn, 1, 34, 0, 0, .null, .int)), ?_⟩
  exact fun _ h => nomatch h
set_option maxRecDepth 65536 in
theorem own_ok15 (Z : State) (a0 : Array Value) (hw : ∀ d ∈ tables_1, d.before a0 Z = true) : MOk Z a0 own_CT own_MT own_m15 := by
  have w := fun (k : Nat) (d : Jvm.Cond) (h : tables_1[k]? = some d) => hw d (List.mem_of_getElem? h)
  refine mOk_of own_pn15 own_d15 ?_
  refine List.forall_mem_cons.mpr ⟨trivial, ?_⟩
  refine List.forall_mem_cons.mpr ⟨trivial, ?_⟩
  refine List.forall_mem_cons.mpr ⟨(⟨rfl, _, rfl, by decide, by decide⟩ : LinkOk Z a0 own_CT own_MT own_m15.1.cls own_m15.1.name own_m15.2.2.2.1 (2, .if_icmp .gt 7, 3, 4, 9, 0, .null, .int)), ?_⟩
  refine List.forall_mem_cons.mpr ⟨trivial, ?_⟩
  refine List.forall_mem_cons.mpr ⟨(⟨_, rfl, rfl, by decide, by decide⟩ : LinkOk Z a0 own_CT own_MT own_m15.1.cls own_m15.1.name own_m15.2.2.2.1 (6, .goto 4, 3, 7, 10, 0, .null, .int)), ?_⟩
  refine List.forall_mem_cons.mpr ⟨trivial, ?_⟩
  refine List.forall_mem_cons.mpr ⟨(⟨rfl, rfl, rfl⟩ : LinkOk Z a0 own_CT own_MT own_m15.1.cls own_m15.1.name own_m15.2.2.2.1 (10, .ireturn, 1, 31, 0, 0, .null, .int)), ?_⟩
  exact fun _ h => nomatch h
set_option maxRecDepth 65536 in
theorem own_ok16 (Z : State) (a0 : Array Value) (hw : ∀ d ∈ tables_1, d.before a0 Z = true) : MOk Z a0 own_CT own_MT own_m16 := by
  have w := fun (k : Nat) (d : Jvm.Cond) (h : tables_1[k]? = some d) => hw d (List.mem_of_getElem? h)
  refine mOk_of own_pn16 own_d16 ?_
  refine List.forall_mem_cons.mpr ⟨trivial, ?_⟩
  refine List.forall_mem_cons.mpr ⟨(⟨rfl, rfl⟩ : LinkOk Z a0 own_CT own_MT own_m16.1.cls own_m16.1.name own_m16.2.2.2.1 (1, .arraylength, 1, 12, 0, 0, .null, .int)), ?_⟩
  refine List.forall_mem_cons.mpr ⟨trivial, ?_⟩
  refine List.forall_mem_cons.mpr ⟨trivial, ?_⟩
  refine List.forall_mem_cons.mpr ⟨(⟨_, _, rfl, rfl, rfl, own_c17 Z a0 hw, w 170 _ rfl, w 171 _ rfl⟩ : LinkOk Z a0 own_CT own_MT own_m16.1.cls own_m16.1.name own_m16.2.2.2.1 (4, .invokestatic 13, 3, 40, 17, 0, .null, .int)), ?_⟩
  refine List.forall_mem_cons.mpr ⟨trivial, ?_⟩
  refine List.forall_mem_cons.mpr ⟨trivial, ?_⟩
  refine List.forall_mem_cons.mpr ⟨trivial, ?_⟩
  refine List.forall_mem_cons.mpr ⟨trivial, ?_⟩
  refine List.forall_mem_cons.mpr ⟨(⟨rfl, _, rfl, by decide, by decide⟩ : LinkOk Z a0 own_CT own_MT own_m16.1.cls own_m16.1.name own_m16.2.2.2.1 (13, .if_icmp .ge 14, 3, 4, 27, 0, .null, .int)), ?_⟩
  refine List.forall_mem_cons.mpr ⟨trivial, ?_⟩
  refine List.forall_mem_cons.mpr ⟨trivial, ?_⟩
  refine List.forall_mem_cons.mpr ⟨trivial, ?_⟩
  refine List.forall_mem_cons.mpr ⟨(rfl : LinkOk Z a0 own_CT own_MT own_m16.1.cls own_m16.1.name own_m16.2.2.2.1 (20, .iastore, 1, 11, 0, 0, .null, .int)), ?_⟩
  refine List.forall_mem_cons.mpr ⟨(rfl : LinkOk Z a0 own_CT own_MT own_m16.1.cls own_m16.1.name own_m16.2.2.2.1 (21, .iinc 4 1, 3, 9, 0, 0, .null, .int)), ?_⟩
  refine List.forall_mem_cons.mpr ⟨(⟨_, rfl, rfl, by decide, by decide⟩ : LinkOk Z a0 own_CT own_MT own_m16.1.cls own_m16.1.name own_m16.2.2.2.1 (24, .goto (-14), 3, 7, 10, 0, .null, .int)), ?_⟩
  refine List.forall_mem_cons.mpr ⟨(⟨rfl, rfl, rfl⟩ : LinkOk Z a0 own_CT own_MT own_m16.1.cls own_m16.1.name own_m16.2.2.2.1 (27, .return_, 1, 30, 0, 0, .null, .int)), ?_⟩
  exact fun _ h => nomatch h
set_option maxRecDepth 65536 in
theorem own_ok17 (Z : State) (a0 : Array Value) (hw : ∀ d ∈ tables_1, d.before a0 Z = true) : MOk Z a0 own_CT own_MT own_m17 := by
  have w := fun (k : Nat) (d : Jvm.Cond) (h : tables_1[k]? = some d) => hw d (List.mem_of_getElem? h)
  refine mOk_of own_pn17 own_d17 ?_
  refine List.forall_mem_cons.mpr ⟨trivial, ?_⟩
  refine List.forall_mem_cons.mpr ⟨trivial, ?_⟩
  refine List.forall_mem_cons.mpr ⟨(⟨rfl, _, rfl, by decide, by decide⟩ : LinkOk Z a0 own_CT own_MT own_m17.1.cls own_m17.1.name own_m17.2.2.2.1 (2, .if_icmp .le 44, 3, 4, 46, 0, .null, .int)), ?_⟩
  refine List.forall_mem_cons.mpr ⟨trivial, ?_⟩
  refine List.forall_mem_cons.mpr ⟨trivial, ?_⟩
  refine List.forall_mem_cons.mpr ⟨trivial, ?_⟩
  refine List.forall_mem_cons.mpr ⟨trivial, ?_⟩
  refine List.forall_mem_cons.mpr ⟨trivial, ?_⟩
  refine List.forall_mem_cons.mpr ⟨(⟨rfl, _, rfl, by decide, by decide⟩ : LinkOk Z a0 own_CT own_MT own_m17.1.cls own_m17.1.name own_m17.2.2.2.1 (47, .ifCond .ge 12, 3, 4, 59, 0, .null, .int)), ?_⟩
  refine List.forall_mem_cons.mpr ⟨trivial, ?_⟩
  refine List.forall_mem_cons.mpr ⟨trivial, ?_⟩
  refine List.forall_mem_cons.mpr ⟨trivial, ?_⟩
  refine List.forall_mem_cons.mpr ⟨trivial, ?_⟩
  refine List.forall_mem_cons.mpr ⟨(⟨rfl, _, rfl, by decide, by decide⟩ : LinkOk Z a0 own_CT own_MT own_m17.1.cls own_m17.1.name own_m17.2.2.2.1 (61, .if_icmp .le 12, 3, 4, 73, 0, .null, .int)), ?_⟩
  refine List.forall_mem_cons.mpr ⟨trivial, ?_⟩
  refine List.forall_mem_cons.mpr ⟨trivial, ?_⟩
  refine List.forall_mem_cons.mpr ⟨(⟨rfl, rfl, rfl⟩ : LinkOk Z a0 own_CT own_MT own_m17.1.cls own_m17.1.name own_m17.2.2.2.1 (73, .return_, 1, 30, 0, 0, .null, .int)), ?_⟩
  exact fun _ h => nomatch h
set_option maxRecDepth 65536 in
theorem own_ok18 (Z : State) (a0 : Array Value) (hw : ∀ d ∈ tables_1, d.before a0 Z = true) : MOk Z a0 own_CT own_MT own_m18 := by
  have w := fun (k : Nat) (d : Jvm.Cond) (h : tables_1[k]? = some d) => hw d (List.mem_of_getElem? h)
  refine mOk_of own_pn18 own_d18 ?_
  refine List.forall_mem_cons.mpr ⟨trivial, ?_⟩
  refine List.forall_mem_cons.mpr ⟨trivial, ?_⟩
  refine List.forall_mem_cons.mpr ⟨(⟨rfl, rfl⟩ : LinkOk Z a0 own_CT own_MT own_m18.1.cls own_m18.1.name own_m18.2.2.2.1 (2, .arraylength, 1, 12, 0, 0, .null, .int)), ?_⟩
  refine List.forall_mem_cons.mpr ⟨(⟨rfl, _, rfl, by decide, by decide⟩ : LinkOk Z a0 own_CT own_MT own_m18.1.cls own_m18.1.name own_m18.2.2.2.1 (3, .if_icmp .ne 11, 3, 4, 14, 0, .null, .int)), ?_⟩
  refine List.forall_mem_cons.mpr ⟨trivial, ?_⟩
  refine List.forall_mem_cons.mpr ⟨(⟨rfl, rfl, _, rfl, rfl⟩ : LinkOk Z a0 own_CT own_MT own_m18.1.cls own_m18.1.name own_m18.2.2.2.1 (13, .areturn, 1, 34, 0, 0, .null, .int)), ?_⟩
  refine List.forall_mem_cons.mpr ⟨trivial, ?_⟩
  refine List.forall_mem_cons.mpr ⟨(⟨_, rfl, rfl, w 35 _ rfl⟩ : LinkOk Z a0 own_CT own_MT own_m18.1.cls own_m18.1.name own_m18.2.2.2.1 (15, .newarray .boolean, 2, 15, 0, 0, .null, .int)), ?_⟩
  refine List.forall_mem_cons.mpr ⟨trivial, ?_⟩
  refine List.forall_mem_cons.mpr ⟨trivial, ?_⟩
  refine List.forall_mem_cons.mpr ⟨trivial, ?_⟩
  refine List.forall_mem_cons.mpr ⟨trivial, ?_⟩
  refine List.forall_mem_cons.mpr ⟨trivial, ?_⟩
  refine List.forall_mem_cons.mpr ⟨trivial, ?_⟩
  refine List.forall_mem_cons.mpr ⟨(⟨rfl, rfl⟩ : LinkOk Z a0 own_CT own_MT own_m18.1.cls own_m18.1.name own_m18.2.2.2.1 (23, .arraylength, 1, 12, 0, 0, .null, .int)), ?_⟩
  refine List.forall_mem_cons.mpr ⟨trivial, ?_⟩
  refine List.forall_mem_cons.mpr ⟨(⟨_, _, rfl, rfl, rfl, own_c15 Z a0 hw, w 160 _ rfl, w 161 _ rfl⟩ : LinkOk Z a0 own_CT own_MT own_m18.1.cls own_m18.1.name own_m18.2.2.2.1 (25, .invokestatic 304, 3, 40, 15, 0, .null, .int)), ?_⟩
  refine List.forall_mem_cons.mpr ⟨(⟨_, rfl, rfl, w 163 _ rfl, w 166 _ rfl, w 164 _ rfl, w 165 _ rfl⟩ : LinkOk Z a0 own_CT own_MT own_m18.1.cls own_m18.1.name own_m18.2.2.2.1 (28, .invokestatic 150, 3, 19, 0, 0, .null, .int)), ?_⟩
  refine List.forall_mem_cons.mpr ⟨trivial, ?_⟩
  refine List.forall_mem_cons.mpr ⟨(⟨rfl, rfl, _, rfl, rfl⟩ : LinkOk Z a0 own_CT own_MT own_m18.1.cls own_m18.1.name own_m18.2.2.2.1 (32, .areturn, 1, 34, 0, 0, .null, .int)), ?_⟩
  exact fun _ h => nomatch h
set_option maxRecDepth 65536 in
theorem own_ok19 (Z : State) (a0 : Array Value) (hw : ∀ d ∈ tables_1, d.before a0 Z = true) : MOk Z a0 own_CT own_MT own_m19 := by
  have w := fun (k : Nat) (d : Jvm.Cond) (h : tables_1[k]? = some d) => hw d (List.mem_of_getElem? h)
  refine mOk_of own_pn19 own_d19 ?_
  refine List.forall_mem_cons.mpr ⟨trivial, ?_⟩
  refine List.forall_mem_cons.mpr ⟨(⟨_, _, _, _, _, rfl, rfl, rfl, rfl, Or.inl (w 49 _ rfl)⟩ : LinkOk Z a0 own_CT own_MT own_m19.1.cls own_m19.1.name own_m19.2.2.2.1 (1, .getfield 48, 3, 2, 0, 9, .null, .int)), ?_⟩
  refine List.forall_mem_cons.mpr ⟨trivial, ?_⟩
  refine List.forall_mem_cons.mpr ⟨trivial, ?_⟩
  refine List.forall_mem_cons.mpr ⟨(rfl : LinkOk Z a0 own_CT own_MT own_m19.1.cls own_m19.1.name own_m19.2.2.2.1 (6, .iastore, 1, 11, 0, 0, .null, .int)), ?_⟩
  refine List.forall_mem_cons.mpr ⟨trivial, ?_⟩
  refine List.forall_mem_cons.mpr ⟨(⟨_, _, _, _, _, rfl, rfl, rfl, rfl, Or.inl (w 51 _ rfl)⟩ : LinkOk Z a0 own_CT own_MT own_m19.1.cls own_m19.1.name own_m19.2.2.2.1 (8, .getfield 51, 3, 2, 0, 10, .null, .int)), ?_⟩
  refine List.forall_mem_cons.mpr ⟨trivial, ?_⟩
  refine List.forall_mem_cons.mpr ⟨trivial, ?_⟩
  refine List.forall_mem_cons.mpr ⟨(rfl : LinkOk Z a0 own_CT own_MT own_m19.1.cls own_m19.1.name own_m19.2.2.2.1 (13, .iastore, 1, 11, 0, 0, .null, .int)), ?_⟩
  refine List.forall_mem_cons.mpr ⟨trivial, ?_⟩
  refine List.forall_mem_cons.mpr ⟨(⟨_, _, _, _, _, rfl, rfl, rfl, rfl, Or.inl (w 53 _ rfl)⟩ : LinkOk Z a0 own_CT own_MT own_m19.1.cls own_m19.1.name own_m19.2.2.2.1 (15, .getfield 54, 3, 2, 0, 11, .null, .int)), ?_⟩
  refine List.forall_mem_cons.mpr ⟨trivial, ?_⟩
  refine List.forall_mem_cons.mpr ⟨trivial, ?_⟩
  refine List.forall_mem_cons.mpr ⟨(⟨_, _, _, _, _, rfl, rfl, rfl, rfl, Or.inl (w 71 _ rfl)⟩ : LinkOk Z a0 own_CT own_MT own_m19.1.cls own_m19.1.name own_m19.2.2.2.1 (20, .getfield 81, 3, 2, 0, 20, .null, .int)), ?_⟩
  refine List.forall_mem_cons.mpr ⟨trivial, ?_⟩
  refine List.forall_mem_cons.mpr ⟨(rfl : LinkOk Z a0 own_CT own_MT own_m19.1.cls own_m19.1.name own_m19.2.2.2.1 (24, .iaload, 1, 6, 0, 0, .null, .int)), ?_⟩
  refine List.forall_mem_cons.mpr ⟨(rfl : LinkOk Z a0 own_CT own_MT own_m19.1.cls own_m19.1.name own_m19.2.2.2.1 (25, .iastore, 1, 11, 0, 0, .null, .int)), ?_⟩
  refine List.forall_mem_cons.mpr ⟨trivial, ?_⟩
  refine List.forall_mem_cons.mpr ⟨(⟨_, _, _, _, _, rfl, rfl, rfl, rfl, Or.inl (w 71 _ rfl)⟩ : LinkOk Z a0 own_CT own_MT own_m19.1.cls own_m19.1.name own_m19.2.2.2.1 (27, .getfield 81, 3, 2, 0, 20, .null, .int)), ?_⟩
  refine List.forall_mem_cons.mpr ⟨trivial, ?_⟩
  refine List.forall_mem_cons.mpr ⟨(rfl : LinkOk Z a0 own_CT own_MT own_m19.1.cls own_m19.1.name own_m19.2.2.2.1 (31, .iaload, 1, 6, 0, 0, .null, .int)), ?_⟩
  refine List.forall_mem_cons.mpr ⟨trivial, ?_⟩
  refine List.forall_mem_cons.mpr ⟨(⟨rfl, _, rfl, by decide, by decide⟩ : LinkOk Z a0 own_CT own_MT own_m19.1.cls own_m19.1.name own_m19.2.2.2.1 (33, .if_icmp .eq 15, 3, 4, 48, 0, .null, .int)), ?_⟩
  refine List.forall_mem_cons.mpr ⟨trivial, ?_⟩
  refine List.forall_mem_cons.mpr ⟨(⟨_, _, _, _, _, rfl, rfl, rfl, rfl, Or.inl (w 51 _ rfl)⟩ : LinkOk Z a0 own_CT own_MT own_m19.1.cls own_m19.1.name own_m19.2.2.2.1 (37, .getfield 51, 3, 2, 0, 10, .null, .int)), ?_⟩
  refine List.forall_mem_cons.mpr ⟨trivial, ?_⟩
  refine List.forall_mem_cons.mpr ⟨(⟨_, _, _, _, _, rfl, rfl, rfl, rfl, Or.inl (w 71 _ rfl)⟩ : LinkOk Z a0 own_CT own_MT own_m19.1.cls own_m19.1.name own_m19.2.2.2.1 (41, .getfield 81, 3, 2, 0, 20, .null, .int)), ?_⟩
  refine List.forall_mem_cons.mpr ⟨trivial, ?_⟩
  refine List.forall_mem_cons.mpr ⟨(rfl : LinkOk Z a0 own_CT own_MT own_m19.1.cls own_m19.1.name own_m19.2.2.2.1 (45, .iaload, 1, 6, 0, 0, .null, .int)), ?_⟩
  refine List.forall_mem_cons.mpr ⟨trivial, ?_⟩
  refine List.forall_mem_cons.mpr ⟨(rfl : LinkOk Z a0 own_CT own_MT own_m19.1.cls own_m19.1.name own_m19.2.2.2.1 (47, .iastore, 1, 11, 0, 0, .null, .int)), ?_⟩
  refine List.forall_mem_cons.mpr ⟨trivial, ?_⟩
  refine List.forall_mem_cons.mpr ⟨(⟨_, _, _, _, _, rfl, rfl, rfl, rfl, Or.inl (w 71 _ rfl)⟩ : LinkOk Z a0 own_CT own_MT own_m19.1.cls own_m19.1.name own_m19.2.2.2.1 (49, .getfield 81, 3, 2, 0, 20, .null, .int)), ?_⟩
  refine List.forall_mem_cons.mpr ⟨trivial, ?_⟩
  refine List.forall_mem_cons.mpr ⟨trivial, ?_⟩
  refine List.forall_mem_cons.mpr ⟨(rfl : LinkOk Z a0 own_CT own_MT own_m19.1.cls own_m19.1.name own_m19.2.2.2.1 (54, .iastore, 1, 11, 0, 0, .null, .int)), ?_⟩
  refine List.forall_mem_cons.mpr ⟨trivial, ?_⟩
  refine List.forall_mem_cons.mpr ⟨(⟨_, _, _, _, _, rfl, rfl, rfl, rfl, Or.inl (w 73 _ rfl)⟩ : LinkOk Z a0 own_CT own_MT own_m19.1.cls own_m19.1.name own_m19.2.2.2.1 (56, .getfield 84, 3, 2, 0, 21, .null, .int)), ?_⟩
  refine List.forall_mem_cons.mpr ⟨trivial, ?_⟩
  refine List.forall_mem_cons.mpr ⟨trivial, ?_⟩
  refine List.forall_mem_cons.mpr ⟨(rfl : LinkOk Z a0 own_CT own_MT own_m19.1.cls own_m19.1.name own_m19.2.2.2.1 (61, .iaload, 1, 6, 0, 0, .null, .int)), ?_⟩
  refine List.forall_mem_cons.mpr ⟨trivial, ?_⟩
  refine List.forall_mem_cons.mpr ⟨trivial, ?_⟩
  refine List.forall_mem_cons.mpr ⟨(rfl : LinkOk Z a0 own_CT own_MT own_m19.1.cls own_m19.1.name own_m19.2.2.2.1 (64, .iastore, 1, 11, 0, 0, .null, .int)), ?_⟩
  refine List.forall_mem_cons.mpr ⟨trivial, ?_⟩
  refine List.forall_mem_cons.mpr ⟨(⟨_, _, _, _, _, rfl, rfl, rfl, rfl, Or.inl (w 105 _ rfl)⟩ : LinkOk Z a0 own_CT own_MT own_m19.1.cls own_m19.1.name own_m19.2.2.2.1 (66, .getfield 132, 3, 2, 0, 37, .null, .int)), ?_⟩
  refine List.forall_mem_cons.mpr ⟨trivial, ?_⟩
  refine List.forall_mem_cons.mpr ⟨(⟨_, _, _, _, _, rfl, rfl, rfl, rfl, Or.inl (w 43 _ rfl)⟩ : LinkOk Z a0 own_CT own_MT own_m19.1.cls own_m19.1.name own_m19.2.2.2.1 (70, .getfield 39, 3, 2, 0, 6, .null, .int)), ?_⟩
  refine List.forall_mem_cons.mpr ⟨trivial, ?_⟩
  refine List.forall_mem_cons.mpr ⟨(rfl : LinkOk Z a0 own_CT own_MT own_m19.1.cls own_m19.1.name own_m19.2.2.2.1 (74, .iaload, 1, 6, 0, 0, .null, .int)), ?_⟩
  refine List.forall_mem_cons.mpr ⟨(rfl : LinkOk Z a0 own_CT own_MT own_m19.1.cls own_m19.1.name own_m19.2.2.2.1 (75, .baload, 1, 6, 0, 0, .null, .int)), ?_⟩
  refine List.forall_mem_cons.mpr ⟨(⟨rfl, _, rfl, by decide, by decide⟩ : LinkOk Z a0 own_CT own_MT own_m19.1.cls own_m19.1.name own_m19.2.2.2.1 (76, .ifCond .eq 28, 3, 4, 104, 0, .null, .int)), ?_⟩
  refine List.forall_mem_cons.mpr ⟨trivial, ?_⟩
  refine List.forall_mem_cons.mpr ⟨(⟨_, _, _, _, _, rfl, rfl, rfl, rfl, Or.inl (w 75 _ rfl)⟩ : LinkOk Z a0 own_CT own_MT own_m19.1.cls own_m19.1.name own_m19.2.2.2.1 (80, .getfield 87, 3, 2, 0, 22, .null, .int)), ?_⟩
  refine List.forall_mem_cons.mpr ⟨trivial, ?_⟩
  refine List.forall_mem_cons.mpr ⟨trivial, ?_⟩
  refine List.forall_mem_cons.mpr ⟨(rfl : LinkOk Z a0 own_CT own_MT own_m19.1.cls own_m19.1.name own_m19.2.2.2.1 (85, .iaload, 1, 6, 0, 0, .null, .int)), ?_⟩
  refine List.forall_mem_cons.mpr ⟨trivial, ?_⟩
  refine List.forall_mem_cons.mpr ⟨trivial, ?_⟩
  refine List.forall_mem_cons.mpr ⟨(rfl : LinkOk Z a0 own_CT own_MT own_m19.1.cls own_m19.1.name own_m19.2.2.2.1 (88, .iastore, 1, 11, 0, 0, .null, .int)), ?_⟩
  refine List.forall_mem_cons.mpr ⟨trivial, ?_⟩
  refine List.forall_mem_cons.mpr ⟨(⟨_, _, _, _, _, rfl, rfl, rfl, rfl, Or.inl (w 91 _ rfl)⟩ : LinkOk Z a0 own_CT own_MT own_m19.1.cls own_m19.1.name own_m19.2.2.2.1 (90, .getfield 111, 3, 2, 0, 30, .null, .int)), ?_⟩
  refine List.forall_mem_cons.mpr ⟨trivial, ?_⟩
  refine List.forall_mem_cons.mpr ⟨(⟨_, _, _, _, _, rfl, rfl, rfl, rfl, Or.inl (w 67 _ rfl)⟩ : LinkOk Z a0 own_CT own_MT own_m19.1.cls own_m19.1.name own_m19.2.2.2.1 (94, .getfield 75, 3, 2, 0, 18, .null, .int)), ?_⟩
  refine List.forall_mem_cons.mpr ⟨trivial, ?_⟩
  refine List.forall_mem_cons.mpr ⟨(rfl : LinkOk Z a0 own_CT own_MT own_m19.1.cls own_m19.1.name own_m19.2.2.2.1 (98, .iaload, 1, 6, 0, 0, .null, .int)), ?_⟩
  refine List.forall_mem_cons.mpr ⟨trivial, ?_⟩
  refine List.forall_mem_cons.mpr ⟨(rfl : LinkOk Z a0 own_CT own_MT own_m19.1.cls own_m19.1.name own_m19.2.2.2.1 (100, .iaload, 1, 6, 0, 0, .null, .int)), ?_⟩
  refine List.forall_mem_cons.mpr ⟨trivial, ?_⟩
  refine List.forall_mem_cons.mpr ⟨trivial, ?_⟩
  refine List.forall_mem_cons.mpr ⟨(rfl : LinkOk Z a0 own_CT own_MT own_m19.1.cls own_m19.1.name own_m19.2.2.2.1 (103, .iastore, 1, 11, 0, 0, .null, .int)), ?_⟩
  refine List.forall_mem_cons.mpr ⟨(⟨rfl, rfl, rfl⟩ : LinkOk Z a0 own_CT own_MT own_m19.1.cls own_m19.1.name own_m19.2.2.2.1 (104, .return_, 1, 30, 0, 0, .null, .int)), ?_⟩
  exact fun _ h => nomatch h
set_option maxRecDepth 65536 in
theorem own_ok20 (Z : State) (a0 : Array Value) (hw : ∀ d ∈ tables_1, d.before a0 Z = true) : MOk Z a0 own_CT own_MT own_m20 := by
  have w := fun (k : Nat) (d : Jvm.Cond) (h : tables_1[k]? = some d) => hw d (List.mem_of_getElem? h)
  refine mOk_of own_pn20 own_d20 ?_
  refine List.forall_mem_cons.mpr ⟨trivial, ?_⟩
  refine List.forall_mem_cons.mpr ⟨(⟨_, _, _, _, _, rfl, rfl, rfl, rfl, Or.inl (w 105 _ rfl)⟩ : LinkOk Z a0 own_CT own_MT own_m20.1.cls own_m20.1.name own_m20.2.2.2.1 (1, .getfield 132, 3, 2, 0, 37, .null, .int)), ?_⟩
  refine List.forall_mem_cons.mpr ⟨trivial, ?_⟩
  refine List.forall_mem_cons.mpr ⟨trivial, ?_⟩
  refine List.forall_mem_cons.mpr ⟨(rfl : LinkOk Z a0 own_CT own_MT own_m20.1.cls own_m20.1.name own_m20.2.2.2.1 (6, .bastore, 1, 11, 0, 0, .null, .int)), ?_⟩
  refine List.forall_mem_cons.mpr ⟨trivial, ?_⟩
  refine List.forall_mem_cons.mpr ⟨(⟨_, _, _, _, _, rfl, rfl, rfl, rfl, Or.inl (w 107 _ rfl)⟩ : LinkOk Z a0 own_CT own_MT own_m20.1.cls own_m20.1.name own_m20.2.2.2.1 (8, .getfield 135, 3, 2, 0, 38, .null, .int)), ?_⟩
  refine List.forall_mem_cons.mpr ⟨trivial, ?_⟩
  refine List.forall_mem_cons.mpr ⟨trivial, ?_⟩
  refine List.forall_mem_cons.mpr ⟨(⟨_, _, _, _, _, rfl, rfl, rfl, rfl, Or.inl (w 185 _ rfl)⟩ : LinkOk Z a0 own_CT own_MT own_m20.1.cls own_m20.1.name own_m20.2.2.2.1 (13, .getfield 138, 3, 2, 0, 43, .null, .int)), ?_⟩
  refine List.forall_mem_cons.mpr ⟨(rfl : LinkOk Z a0 own_CT own_MT own_m20.1.cls own_m20.1.name own_m20.2.2.2.1 (16, .iastore, 1, 11, 0, 0, .null, .int)), ?_⟩
  refine List.forall_mem_cons.mpr ⟨trivial, ?_⟩
  refine List.forall_mem_cons.mpr ⟨trivial, ?_⟩
  refine List.forall_mem_cons.mpr ⟨trivial, ?_⟩
  refine List.forall_mem_cons.mpr ⟨(⟨_, _, _, _, rfl, rfl, rfl, own_c21 Z a0 hw, w 187 _ rfl, w 188 _ rfl, rfl, w 189 _ rfl⟩ : LinkOk Z a0 own_CT own_MT own_m20.1.cls own_m20.1.name own_m20.2.2.2.1 (20, .invokevirtual 169, 3, 43, 21, 0, .null, .int)), ?_⟩
  refine List.forall_mem_cons.mpr ⟨trivial, ?_⟩
  refine List.forall_mem_cons.mpr ⟨(⟨_, _, _, _, _, rfl, rfl, rfl, rfl, Or.inl (w 61 _ rfl)⟩ : LinkOk Z a0 own_CT own_MT own_m20.1.cls own_m20.1.name own_m20.2.2.2.1 (24, .getfield 66, 3, 2, 0, 15, .null, .int)), ?_⟩
  refine List.forall_mem_cons.mpr ⟨trivial, ?_⟩
  refine List.forall_mem_cons.mpr ⟨(rfl : LinkOk Z a0 own_CT own_MT own_m20.1.cls own_m20.1.name own_m20.2.2.2.1 (28, .iaload, 1, 6, 0, 0, .null, .int)), ?_⟩
  refine List.forall_mem_cons.mpr ⟨trivial, ?_⟩
  refine List.forall_mem_cons.mpr ⟨trivial, ?_⟩
  refine List.forall_mem_cons.mpr ⟨trivial, ?_⟩
  refine List.forall_mem_cons.mpr ⟨(⟨rfl, _, rfl, by decide, by decide⟩ : LinkOk Z a0 own_CT own_MT own_m20.1.cls own_m20.1.name own_m20.2.2.2.1 (32, .if_icmp .eq 28, 3, 4, 60, 0, .null, .int)), ?_⟩
  refine List.forall_mem_cons.mpr ⟨trivial, ?_⟩
  refine List.forall_mem_cons.mpr ⟨(⟨_, _, _, _, _, rfl, rfl, rfl, rfl, Or.inl (w 75 _ rfl)⟩ : LinkOk Z a0 own_CT own_MT own_m20.1.cls own_m20.1.name own_m20.2.2.2.1 (36, .getfield 87, 3, 2, 0, 22, .null, .int)), ?_⟩
  refine List.forall_mem_cons.mpr ⟨trivial, ?_⟩
  refine List.forall_mem_cons.mpr ⟨(⟨_, _, _, _, _, rfl, rfl, rfl, rfl, Or.inl (w 49 _ rfl)⟩ : LinkOk Z a0 own_CT own_MT own_m20.1.cls own_m20.1.name own_m20.2.2.2.1 (40, .getfield 48, 3, 2, 0, 9, .null, .int)), ?_⟩
  refine List.forall_mem_cons.mpr ⟨trivial, ?_⟩
  refine List.forall_mem_cons.mpr ⟨(rfl : LinkOk Z a0 own_CT own_MT own_m20.1.cls own_m20.1.name own_m20.2.2.2.1 (44, .iaload, 1, 6, 0, 0, .null, .int)), ?_⟩
  refine List.forall_mem_cons.mpr ⟨trivial, ?_⟩
  refine List.forall_mem_cons.mpr ⟨(rfl : LinkOk Z a0 own_CT own_MT own_m20.1.cls own_m20.1.name own_m20.2.2.2.1 (46, .iaload, 1, 6, 0, 0, .null, .int)), ?_⟩
  refine List.forall_mem_cons.mpr ⟨trivial, ?_⟩
  refine List.forall_mem_cons.mpr ⟨trivial, ?_⟩
  refine List.forall_mem_cons.mpr ⟨(rfl : LinkOk Z a0 own_CT own_MT own_m20.1.cls own_m20.1.name own_m20.2.2.2.1 (49, .iastore, 1, 11, 0, 0, .null, .int)), ?_⟩
  refine List.forall_mem_cons.mpr ⟨trivial, ?_⟩
  refine List.forall_mem_cons.mpr ⟨(⟨_, _, _, _, _, rfl, rfl, rfl, rfl, Or.inl (w 57 _ rfl)⟩ : LinkOk Z a0 own_CT own_MT own_m20.1.cls own_m20.1.name own_m20.2.2.2.1 (51, .getfield 60, 3, 2, 0, 13, .null, .int)), ?_⟩
  refine List.forall_mem_cons.mpr ⟨trivial, ?_⟩
  refine List.forall_mem_cons.mpr ⟨(rfl : LinkOk Z a0 own_CT own_MT own_m20.1.cls own_m20.1.name own_m20.2.2.2.1 (55, .iaload, 1, 6, 0, 0, .null, .int)), ?_⟩
  refine List.forall_mem_cons.mpr ⟨trivial, ?_⟩
  refine List.forall_mem_cons.mpr ⟨(⟨_, rfl, rfl, by decide, by decide⟩ : LinkOk Z a0 own_CT own_MT own_m20.1.cls own_m20.1.name own_m20.2.2.2.1 (57, .goto (-27), 3, 7, 30, 0, .null, .int)), ?_⟩
  refine List.forall_mem_cons.mpr ⟨trivial, ?_⟩
  refine List.forall_mem_cons.mpr ⟨(⟨_, _, _, _, _, rfl, rfl, rfl, rfl, Or.inl (w 91 _ rfl)⟩ : LinkOk Z a0 own_CT own_MT own_m20.1.cls own_m20.1.name own_m20.2.2.2.1 (61, .getfield 111, 3, 2, 0, 30, .null, .int)), ?_⟩
  refine List.forall_mem_cons.mpr ⟨trivial, ?_⟩
  refine List.forall_mem_cons.mpr ⟨trivial, ?_⟩
  refine List.forall_mem_cons.mpr ⟨(rfl : LinkOk Z a0 own_CT own_MT own_m20.1.cls own_m20.1.name own_m20.2.2.2.1 (66, .iaload, 1, 6, 0, 0, .null, .int)), ?_⟩
  refine List.forall_mem_cons.mpr ⟨trivial, ?_⟩
  refine List.forall_mem_cons.mpr ⟨(⟨_, _, _, _, _, rfl, rfl, rfl, rfl, Or.inl (w 63 _ rfl)⟩ : LinkOk Z a0 own_CT own_MT own_m20.1.cls own_m20.1.name own_m20.2.2.2.1 (68, .getfield 69, 3, 2, 0, 16, .null, .int)), ?_⟩
  refine List.forall_mem_cons.mpr ⟨trivial, ?_⟩
  refine List.forall_mem_cons.mpr ⟨(rfl : LinkOk Z a0 own_CT own_MT own_m20.1.cls own_m20.1.name own_m20.2.2.2.1 (72, .iaload, 1, 6, 0, 0, .null, .int)), ?_⟩
  refine List.forall_mem_cons.mpr ⟨trivial, ?_⟩
  refine List.forall_mem_cons.mpr ⟨(rfl : LinkOk Z a0 own_CT own_MT own_m20.1.cls own_m20.1.name own_m20.2.2.2.1 (74, .iastore, 1, 11, 0, 0, .null, .int)), ?_⟩
  refine List.forall_mem_cons.mpr ⟨(⟨rfl, rfl, rfl⟩ : LinkOk Z a0 own_CT own_MT own_m20.1.cls own_m20.1.name own_m20.2.2.2.1 (75, .return_, 1, 30, 0, 0, .null, .int)), ?_⟩
  exact fun _ h => nomatch h
set_option maxRecDepth 65536 in
theorem own_ok21 (Z : State) (a0 : Array Value) (hw : ∀ d ∈ tables_1, d.before a0 Z = true) : MOk Z a0 own_CT own_MT own_m21 := by
  have w := fun (k : Nat) (d : Jvm.Cond) (h : tables_1[k]? = some d) => hw d (List.mem_of_getElem? h)
  refine mOk_of own_pn21 own_d21 ?_
  refine List.forall_mem_cons.mpr ⟨trivial, ?_⟩
  refine List.forall_mem_cons.mpr ⟨(⟨_, _, _, _, _, rfl, rfl, rfl, rfl, Or.inl (w 107 _ rfl)⟩ : LinkOk Z a0 own_CT own_MT own_m21.1.cls own_m21.1.name own_m21.2.2.2.1 (1, .getfield 135, 3, 2, 0, 38, .null, .int)), ?_⟩
  refine List.forall_mem_cons.mpr ⟨trivial, ?_⟩
  refine List.forall_mem_cons.mpr ⟨(rfl : LinkOk Z a0 own_CT own_MT own_m21.1.cls own_m21.1.name own_m21.2.2.2.1 (5, .iaload, 1, 6, 0, 0, .null, .int)), ?_⟩
  refine List.forall_mem_cons.mpr ⟨trivial, ?_⟩
  refine List.forall_mem_cons.mpr ⟨(⟨_, _, _, _, _, rfl, rfl, rfl, rfl, Or.inl (w 185 _ rfl)⟩ : LinkOk Z a0 own_CT own_MT own_m21.1.cls own_m21.1.name own_m21.2.2.2.1 (7, .getfield 138, 3, 2, 0, 43, .null, .int)), ?_⟩
  refine List.forall_mem_cons.mpr ⟨(⟨rfl, _, rfl, by decide, by decide⟩ : LinkOk Z a0 own_CT own_MT own_m21.1.cls own_m21.1.name own_m21.2.2.2.1 (10, .if_icmp .eq 13, 3, 4, 23, 0, .null, .int)), ?_⟩
  refine List.forall_mem_cons.mpr ⟨trivial, ?_⟩
  refine List.forall_mem_cons.mpr ⟨(⟨_, _, _, _, _, rfl, rfl, rfl, rfl, Or.inl (w 95 _ rfl)⟩ : LinkOk Z a0 own_CT own_MT own_m21.1.cls own_m21.1.name own_m21.2.2.2.1 (14, .getfield 117, 3, 2, 0, 32, .null, .int)), ?_⟩
  refine List.forall_mem_cons.mpr ⟨trivial, ?_⟩
  refine List.forall_mem_cons.mpr ⟨(rfl : LinkOk Z a0 own_CT own_MT own_m21.1.cls own_m21.1.name own_m21.2.2.2.1 (18, .iaload, 1, 6, 0, 0, .null, .int)), ?_⟩
  refine List.forall_mem_cons.mpr ⟨trivial, ?_⟩
  refine List.forall_mem_cons.mpr ⟨(⟨rfl, _, rfl, by decide, by decide⟩ : LinkOk Z a0 own_CT own_MT own_m21.1.cls own_m21.1.name own_m21.2.2.2.1 (20, .if_icmp .ne 64, 3, 4, 84, 0, .null, .int)), ?_⟩
  refine List.forall_mem_cons.mpr ⟨trivial, ?_⟩
  refine List.forall_mem_cons.mpr ⟨(⟨_, _, _, _, _, rfl, rfl, rfl, rfl, Or.inl (w 101 _ rfl)⟩ : LinkOk Z a0 own_CT own_MT own_m21.1.cls own_m21.1.name own_m21.2.2.2.1 (24, .getfield 126, 3, 2, 0, 35, .null, .int)), ?_⟩
  refine List.forall_mem_cons.mpr ⟨trivial, ?_⟩
  refine List.forall_mem_cons.mpr ⟨trivial, ?_⟩
  refine List.forall_mem_cons.mpr ⟨(rfl : LinkOk Z a0 own_CT own_MT own_m21.1.cls own_m21.1.name own_m21.2.2.2.1 (29, .iastore, 1, 11, 0, 0, .null, .int)), ?_⟩
  refine List.forall_mem_cons.mpr ⟨trivial, ?_⟩
  refine List.forall_mem_cons.mpr ⟨(⟨_, _, _, _, _, rfl, rfl, rfl, rfl, Or.inl (w 103 _ rfl)⟩ : LinkOk Z a0 own_CT own_MT own_m21.1.cls own_m21.1.name own_m21.2.2.2.1 (31, .getfield 129, 3, 2, 0, 36, .null, .int)), ?_⟩
  refine List.forall_mem_cons.mpr ⟨trivial, ?_⟩
  refine List.forall_mem_cons.mpr ⟨trivial, ?_⟩
  refine List.forall_mem_cons.mpr ⟨(⟨_, _, _, _, _, rfl, rfl, rfl, rfl, Or.inl (w 95 _ rfl)⟩ : LinkOk Z a0 own_CT own_MT own_m21.1.cls own_m21.1.name own_m21.2.2.2.1 (36, .getfield 117, 3, 2, 0, 32, .null, .int)), ?_⟩
  refine List.forall_mem_cons.mpr ⟨trivial, ?_⟩
  refine List.forall_mem_cons.mpr ⟨(rfl : LinkOk Z a0 own_CT own_MT own_m21.1.cls own_m21.1.name own_m21.2.2.2.1 (40, .iaload, 1, 6, 0, 0, .null, .int)), ?_⟩
  refine List.forall_mem_cons.mpr ⟨(rfl : LinkOk Z a0 own_CT own_MT own_m21.1.cls own_m21.1.name own_m21.2.2.2.1 (41, .iastore, 1, 11, 0, 0, .null, .int)), ?_⟩
  refine List.forall_mem_cons.mpr ⟨trivial, ?_⟩
  refine List.forall_mem_cons.mpr ⟨(⟨_, _, _, _, _, rfl, rfl, rfl, rfl, Or.inl (w 95 _ rfl)⟩ : LinkOk Z a0 own_CT own_MT own_m21.1.cls own_m21.1.name own_m21.2.2.2.1 (43, .getfield 117, 3, 2, 0, 32, .null, .int)), ?_⟩
  refine List.forall_mem_cons.mpr ⟨trivial, ?_⟩
  refine List.forall_mem_cons.mpr ⟨(rfl : LinkOk Z a0 own_CT own_MT own_m21.1.cls own_m21.1.name own_m21.2.2.2.1 (47, .iaload, 1, 6, 0, 0, .null, .int)), ?_⟩
  refine List.forall_mem_cons.mpr ⟨trivial, ?_⟩
  refine List.forall_mem_cons.mpr ⟨(⟨rfl, _, rfl, by decide, by decide⟩ : LinkOk Z a0 own_CT own_MT own_m21.1.cls own_m21.1.name own_m21.2.2.2.1 (49, .if_icmp .ne 13, 3, 4, 62, 0, .null, .int)), ?_⟩
  refine List.forall_mem_cons.mpr ⟨trivial, ?_⟩
  refine List.forall_mem_cons.mpr ⟨(⟨_, _, _, _, _, rfl, rfl, rfl, rfl, Or.inl (w 97 _ rfl)⟩ : LinkOk Z a0 own_CT own_MT own_m21.1.cls own_m21.1.name own_m21.2.2.2.1 (53, .getfield 120, 3, 2, 0, 33, .null, .int)), ?_⟩
  refine List.forall_mem_cons.mpr ⟨trivial, ?_⟩
  refine List.forall_mem_cons.mpr ⟨trivial, ?_⟩
  refine List.forall_mem_cons.mpr ⟨(rfl : LinkOk Z a0 own_CT own_MT own_m21.1.cls own_m21.1.name own_m21.2.2.2.1 (58, .iastore, 1, 11, 0, 0, .null, .int)), ?_⟩
  refine List.forall_mem_cons.mpr ⟨(⟨_, rfl, rfl, by decide, by decide⟩ : LinkOk Z a0 own_CT own_MT own_m21.1.cls own_m21.1.name own_m21.2.2.2.1 (59, .goto 15, 3, 7, 74, 0, .null, .int)), ?_⟩
  refine List.forall_mem_cons.mpr ⟨trivial, ?_⟩
  refine List.forall_mem_cons.mpr ⟨(⟨_, _, _, _, _, rfl, rfl, rfl, rfl, Or.inl (w 101 _ rfl)⟩ : LinkOk Z a0 own_CT own_MT own_m21.1.cls own_m21.1.name own_m21.2.2.2.1 (63, .getfield 126, 3, 2, 0, 35, .null, .int)), ?_⟩
  refine List.forall_mem_cons.mpr ⟨trivial, ?_⟩
  refine List.forall_mem_cons.mpr ⟨(⟨_, _, _, _, _, rfl, rfl, rfl, rfl, Or.inl (w 95 _ rfl)⟩ : LinkOk Z a0 own_CT own_MT own_m21.1.cls own_m21.1.name own_m21.2.2.2.1 (67, .getfield 117, 3, 2, 0, 32, .null, .int)), ?_⟩
  refine List.forall_mem_cons.mpr ⟨trivial, ?_⟩
  refine List.forall_mem_cons.mpr ⟨(rfl : LinkOk Z a0 own_CT own_MT own_m21.1.cls own_m21.1.name own_m21.2.2.2.1 (71, .iaload, 1, 6, 0, 0, .null, .int)), ?_⟩
  refine List.forall_mem_cons.mpr ⟨trivial, ?_⟩
  refine List.forall_mem_cons.mpr ⟨(rfl : LinkOk Z a0 own_CT own_MT own_m21.1.cls own_m21.1.name own_m21.2.2.2.1 (73, .iastore, 1, 11, 0, 0, .null, .int)), ?_⟩
  refine List.forall_mem_cons.mpr ⟨trivial, ?_⟩
  refine List.forall_mem_cons.mpr ⟨(⟨_, _, _, _, _, rfl, rfl, rfl, rfl, Or.inl (w 95 _ rfl)⟩ : LinkOk Z a0 own_CT own_MT own_m21.1.cls own_m21.1.name own_m21.2.2.2.1 (75, .getfield 117, 3, 2, 0, 32, .null, .int)), ?_⟩
  refine List.forall_mem_cons.mpr ⟨trivial, ?_⟩
  refine List.forall_mem_cons.mpr ⟨trivial, ?_⟩
  refine List.forall_mem_cons.mpr ⟨(rfl : LinkOk Z a0 own_CT own_MT own_m21.1.cls own_m21.1.name own_m21.2.2.2.1 (80, .iastore, 1, 11, 0, 0, .null, .int)), ?_⟩
  refine List.forall_mem_cons.mpr ⟨(⟨_, rfl, rfl, by decide, by decide⟩ : LinkOk Z a0 own_CT own_MT own_m21.1.cls own_m21.1.name own_m21.2.2.2.1 (81, .goto 41, 3, 7, 122, 0, .null, .int)), ?_⟩
  refine List.forall_mem_cons.mpr ⟨trivial, ?_⟩
  refine List.forall_mem_cons.mpr ⟨(⟨_, _, _, _, _, rfl, rfl, rfl, rfl, Or.inl (w 103 _ rfl)⟩ : LinkOk Z a0 own_CT own_MT own_m21.1.cls own_m21.1.name own_m21.2.2.2.1 (85, .getfield 129, 3, 2, 0, 36, .null, .int)), ?_⟩
  refine List.forall_mem_cons.mpr ⟨trivial, ?_⟩
  refine List.forall_mem_cons.mpr ⟨trivial, ?_⟩
  refine List.forall_mem_cons.mpr ⟨(rfl : LinkOk Z a0 own_CT own_MT own_m21.1.cls own_m21.1.name own_m21.2.2.2.1 (90, .iastore, 1, 11, 0, 0, .null, .int)), ?_⟩
  refine List.forall_mem_cons.mpr ⟨trivial, ?_⟩
  refine List.forall_mem_cons.mpr ⟨(⟨_, _, _, _, _, rfl, rfl, rfl, rfl, Or.inl (w 101 _ rfl)⟩ : LinkOk Z a0 own_CT own_MT own_m21.1.cls own_m21.1.name own_m21.2.2.2.1 (92, .getfield 126, 3, 2, 0, 35, .null, .int)), ?_⟩
  refine List.forall_mem_cons.mpr ⟨trivial, ?_⟩
  refine List.forall_mem_cons.mpr ⟨trivial, ?_⟩
  refine List.forall_mem_cons.mpr ⟨(⟨_, _, _, _, _, rfl, rfl, rfl, rfl, Or.inl (w 97 _ rfl)⟩ : LinkOk Z a0 own_CT own_MT own_m21.1.cls own_m21.1.name own_m21.2.2.2.1 (97, .getfield 120, 3, 2, 0, 33, .null, .int)), ?_⟩
  refine List.forall_mem_cons.mpr ⟨trivial, ?_⟩
  refine List.forall_mem_cons.mpr ⟨(rfl : LinkOk Z a0 own_CT own_MT own_m21.1.cls own_m21.1.name own_m21.2.2.2.1 (101, .iaload, 1, 6, 0, 0, .null, .int)), ?_⟩
  refine List.forall_mem_cons.mpr ⟨(rfl : LinkOk Z a0 own_CT own_MT own_m21.1.cls own_m21.1.name own_m21.2.2.2.1 (102, .iastore, 1, 11, 0, 0, .null, .int)), ?_⟩
  refine List.forall_mem_cons.mpr ⟨trivial, ?_⟩
  refine List.forall_mem_cons.mpr ⟨(⟨_, _, _, _, _, rfl, rfl, rfl, rfl, Or.inl (w 103 _ rfl)⟩ : LinkOk Z a0 own_CT own_MT own_m21.1.cls own_m21.1.name own_m21.2.2.2.1 (104, .getfield 129, 3, 2, 0, 36, .null, .int)), ?_⟩
  refine List.forall_mem_cons.mpr ⟨trivial, ?_⟩
  refine List.forall_mem_cons.mpr ⟨(⟨_, _, _, _, _, rfl, rfl, rfl, rfl, Or.inl (w 97 _ rfl)⟩ : LinkOk Z a0 own_CT own_MT own_m21.1.cls own_m21.1.name own_m21.2.2.2.1 (108, .getfield 120, 3, 2, 0, 33, .null, .int)), ?_⟩
  refine List.forall_mem_cons.mpr ⟨trivial, ?_⟩
  refine List.forall_mem_cons.mpr ⟨(rfl : LinkOk Z a0 own_CT own_MT own_m21.1.cls own_m21.1.name own_m21.2.2.2.1 (112, .iaload, 1, 6, 0, 0, .null, .int)), ?_⟩
  refine List.forall_mem_cons.mpr ⟨trivial, ?_⟩
  refine List.forall_mem_cons.mpr ⟨(rfl : LinkOk Z a0 own_CT own_MT own_m21.1.cls own_m21.1.name own_m21.2.2.2.1 (114, .iastore, 1, 11, 0, 0, .null, .int)), ?_⟩
  refine List.forall_mem_cons.mpr ⟨trivial, ?_⟩
  refine List.forall_mem_cons.mpr ⟨(⟨_, _, _, _, _, rfl, rfl, rfl, rfl, Or.inl (w 97 _ rfl)⟩ : LinkOk Z a0 own_CT own_MT own_m21.1.cls own_m21.1.name own_m21.2.2.2.1 (116, .getfield 120, 3, 2, 0, 33, .null, .int)), ?_⟩
  refine List.forall_mem_cons.mpr ⟨trivial, ?_⟩
  refine List.forall_mem_cons.mpr ⟨trivial, ?_⟩
  refine List.forall_mem_cons.mpr ⟨(rfl : LinkOk Z a0 own_CT own_MT own_m21.1.cls own_m21.1.name own_m21.2.2.2.1 (121, .iastore, 1, 11, 0, 0, .null, .int)), ?_⟩
  refine List.forall_mem_cons.mpr ⟨trivial, ?_⟩
  refine List.forall_mem_cons.mpr ⟨(⟨_, _, _, _, _, rfl, rfl, rfl, rfl, Or.inl (w 99 _ rfl)⟩ : LinkOk Z a0 own_CT own_MT own_m21.1.cls own_m21.1.name own_m21.2.2.2.1 (123, .getfield 123, 3, 2, 0, 34, .null, .int)), ?_⟩
  refine List.forall_mem_cons.mpr ⟨trivial, ?_⟩
  refine List.forall_mem_cons.mpr ⟨trivial, ?_⟩
  refine List.forall_mem_cons.mpr ⟨(rfl : LinkOk Z a0 own_CT own_MT own_m21.1.cls own_m21.1.name own_m21.2.2.2.1 (128, .iaload, 1, 6, 0, 0, .null, .int)), ?_⟩
  refine List.forall_mem_cons.mpr ⟨trivial, ?_⟩
  refine List.forall_mem_cons.mpr ⟨trivial, ?_⟩
  refine List.forall_mem_cons.mpr ⟨(rfl : LinkOk Z a0 own_CT own_MT own_m21.1.cls own_m21.1.name own_m21.2.2.2.1 (131, .iastore, 1, 11, 0, 0, .null, .int)), ?_⟩
  refine List.forall_mem_cons.mpr ⟨(⟨rfl, rfl, rfl⟩ : LinkOk Z a0 own_CT own_MT own_m21.1.cls own_m21.1.name own_m21.2.2.2.1 (132, .return_, 1, 30, 0, 0, .null, .int)), ?_⟩
  exact fun _ h => nomatch h
set_option maxRecDepth 65536 in
theorem own_ok22 (Z : State) (a0 : Array Value) (hw : ∀ d ∈ tables_1, d.before a0 Z = true) : MOk Z a0 own_CT own_MT own_m22 := by
  have w := fun (k : Nat) (d : Jvm.Cond) (h : tables_1[k]? = some d) => hw d (List.mem_of_getElem? h)
  refine mOk_of own_pn22 own_d22 ?_
  refine List.forall_mem_cons.mpr ⟨trivial, ?_⟩
  refine List.forall_mem_cons.mpr ⟨(⟨_, _, _, _, _, rfl, rfl, rfl, rfl, Or.inl (w 99 _ rfl)⟩ : LinkOk Z a0 own_CT own_MT own_m22.1.cls own_m22.1.name own_m22.2.2.2.1 (1, .getfield 123, 3, 2, 0, 34, .null, .int)), ?_⟩
  refine List.forall_mem_cons.mpr ⟨trivial, ?_⟩
  refine List.forall_mem_cons.mpr ⟨(rfl : LinkOk Z a0 own_CT own_MT own_m22.1.cls own_m22.1.name own_m22.2.2.2.1 (5, .iaload, 1, 6, 0, 0, .null, .int)), ?_⟩
  refine List.forall_mem_cons.mpr ⟨trivial, ?_⟩
  refine List.forall_mem_cons.mpr ⟨trivial, ?_⟩
  refine List.forall_mem_cons.mpr ⟨(⟨_, _, _, _, _, rfl, rfl, rfl, rfl, Or.inl (w 89 _ rfl)⟩ : LinkOk Z a0 own_CT own_MT own_m22.1.cls own_m22.1.name own_m22.2.2.2.1 (8, .getfield 108, 3, 2, 0, 29, .null, .int)), ?_⟩
  refine List.forall_mem_cons.mpr ⟨trivial, ?_⟩
  refine List.forall_mem_cons.mpr ⟨(rfl : LinkOk Z a0 own_CT own_MT own_m22.1.cls own_m22.1.name own_m22.2.2.2.1 (12, .iaload, 1, 6, 0, 0, .null, .int)), ?_⟩
  refine List.forall_mem_cons.mpr ⟨trivial, ?_⟩
  refine List.forall_mem_cons.mpr ⟨trivial, ?_⟩
  refine List.forall_mem_cons.mpr ⟨trivial, ?_⟩
  refine List.forall_mem_cons.mpr ⟨(⟨_, _, _, _, _, rfl, rfl, rfl, rfl, Or.inl (w 91 _ rfl)⟩ : LinkOk Z a0 own_CT own_MT own_m22.1.cls own_m22.1.name own_m22.2.2.2.1 (16, .getfield 111, 3, 2, 0, 30, .null, .int)), ?_⟩
  refine List.forall_mem_cons.mpr ⟨trivial, ?_⟩
  refine List.forall_mem_cons.mpr ⟨(rfl : LinkOk Z a0 own_CT own_MT own_m22.1.cls own_m22.1.name own_m22.2.2.2.1 (20, .iaload, 1, 6, 0, 0, .null, .int)), ?_⟩
  refine List.forall_mem_cons.mpr ⟨trivial, ?_⟩
  refine List.forall_mem_cons.mpr ⟨trivial, ?_⟩
  refine List.forall_mem_cons.mpr ⟨(⟨rfl, _, rfl, by decide, by decide⟩ : LinkOk Z a0 own_CT own_MT own_m22.1.cls own_m22.1.name own_m22.2.2.2.1 (23, .ifCond .ne 7, 3, 4, 30, 0, .null, .int)), ?_⟩
  refine List.forall_mem_cons.mpr ⟨trivial, ?_⟩
  refine List.forall_mem_cons.mpr ⟨(⟨_, rfl, rfl, by decide, by decide⟩ : LinkOk Z a0 own_CT own_MT own_m22.1.cls own_m22.1.name own_m22.2.2.2.1 (27, .goto 4, 3, 7, 31, 0, .null, .int)), ?_⟩
  refine List.forall_mem_cons.mpr ⟨trivial, ?_⟩
  refine List.forall_mem_cons.mpr ⟨(⟨rfl, rfl, rfl⟩ : LinkOk Z a0 own_CT own_MT own_m22.1.cls own_m22.1.name own_m22.2.2.2.1 (31, .ireturn, 1, 32, 0, 0, .null, .int)), ?_⟩
  exact fun _ h => nomatch h
end Words
theorem own_ct (Z : State) (a0 : Array Value) (hw : ∀ d ∈ tables_1, d.before a0 Z = true) : CTOk Z a0 own_CT := by
  have w := fun (k : Nat) (d : Jvm.Cond) (h : tables_1[k]? = some d) => hw d (List.mem_of_getElem? h)
  refine ctOk_of ?_
  refine List.forall_mem_cons.mpr ⟨cOk_of (w 1 _ rfl) (w 2 _ rfl) ?_ (by decide +kernel), ?_⟩
  · refine List.forall_mem_cons.mpr ⟨⟨w 27 _ rfl, by decide +kernel, rfl⟩, ?_⟩
    refine List.forall_mem_cons.mpr ⟨⟨w 30 _ rfl, by decide +kernel, rfl⟩, ?_⟩
    refine List.forall_mem_cons.mpr ⟨⟨w 32 _ rfl, by decide +kernel, rfl⟩, ?_⟩
    refine List.forall_mem_cons.mpr ⟨⟨w 34 _ rfl, by decide +kernel, rfl⟩, ?_⟩
    refine List.forall_mem_cons.mpr ⟨⟨w 37 _ rfl, by decide +kernel, rfl⟩, ?_⟩
    refine List.forall_mem_cons.mpr ⟨⟨w 39 _ rfl, by decide +kernel, rfl⟩, ?_⟩
    refine List.forall_mem_cons.mpr ⟨⟨w 44 _ rfl, by decide +kernel, rfl⟩, ?_⟩
    refine List.forall_mem_cons.mpr ⟨⟨w 46 _ rfl, by decide +kernel, rfl⟩, ?_⟩
    refine List.forall_mem_cons.mpr ⟨⟨w 48 _ rfl, by decide +kernel, rfl⟩, ?_⟩
    refine List.forall_mem_cons.mpr ⟨⟨w 50 _ rfl, by decide +kernel, rfl⟩, ?_⟩
    refine List.forall_mem_cons.mpr ⟨⟨w 52 _ rfl, by decide +kernel, rfl⟩, ?_⟩
    refine List.forall_mem_cons.mpr ⟨⟨w 54 _ rfl, by decide +kernel, rfl⟩, ?_⟩
    refine List.forall_mem_cons.mpr ⟨⟨w 56 _ rfl, by decide +kernel, rfl⟩, ?_⟩
    refine List.forall_mem_cons.mpr ⟨⟨w 58 _ rfl, by decide +kernel, rfl⟩, ?_⟩
    refine List.forall_mem_cons.mpr ⟨⟨w 60 _ rfl, by decide +kernel, rfl⟩, ?_⟩
    refine List.forall_mem_cons.mpr ⟨⟨w 62 _ rfl, by decide +kernel, rfl⟩, ?_⟩
    refine List.forall_mem_cons.mpr ⟨⟨w 64 _ rfl, by decide +kernel, rfl⟩, ?_⟩
    refine List.forall_mem_cons.mpr ⟨⟨w 66 _ rfl, by decide +kernel, rfl⟩, ?_⟩
    refine List.forall_mem_cons.mpr ⟨⟨w 68 _ rfl, by decide +kernel, rfl⟩, ?_⟩
    refine List.forall_mem_cons.mpr ⟨⟨w 70 _ rfl, by decide +kernel, rfl⟩, ?_⟩
    refine List.forall_mem_cons.mpr ⟨⟨w 72 _ rfl, by decide +kernel, rfl⟩, ?_⟩
    refine List.forall_mem_cons.mpr ⟨⟨w 74 _ rfl, by decide +kernel, rfl⟩, ?_⟩
    refine List.forall_mem_cons.mpr ⟨⟨w 76 _ rfl, by decide +kernel, rfl⟩, ?_⟩
    refine List.forall_mem_cons.mpr ⟨⟨w 78 _ rfl, by decide +kernel, rfl⟩, ?_⟩
    refine List.forall_mem_cons.mpr ⟨⟨w 80 _ rfl, by decide +kernel, rfl⟩, ?_⟩
    refine List.forall_mem_cons.mpr ⟨⟨w 82 _ rfl, by decide +kernel, rfl⟩, ?_⟩
    refine List.forall_mem_cons.mpr ⟨⟨w 84 _ rfl, by decide +kernel, rfl⟩, ?_⟩
    refine List.forall_mem_cons.mpr ⟨⟨w 86 _ rfl, by decide +kernel, rfl⟩, ?_⟩
    refine List.forall_mem_cons.mpr ⟨⟨w 88 _ rfl, by decide +kernel, rfl⟩, ?_⟩
    refine List.forall_mem_cons.mpr ⟨⟨w 90 _ rfl, by decide +kernel, rfl⟩, ?_⟩
    refine List.forall_mem_cons.mpr ⟨⟨w 92 _ rfl, by decide +kernel, rfl⟩, ?_⟩
    refine List.forall_mem_cons.mpr ⟨⟨w 94 _ rfl, by decide +kernel, rfl⟩, ?_⟩
    refine List.forall_mem_cons.mpr ⟨⟨w 96 _ rfl, by decide +kernel, rfl⟩, ?_⟩
    refine List.forall_mem_cons.mpr ⟨⟨w 98 _ rfl, by decide +kernel, rfl⟩, ?_⟩
    refine List.forall_mem_cons.mpr ⟨⟨w 100 _ rfl, by decide +kernel, rfl⟩, ?_⟩
    refine List.forall_mem_cons.mpr ⟨⟨w 102 _ rfl, by decide +kernel, rfl⟩, ?_⟩
    refine List.forall_mem_cons.mpr ⟨⟨w 104 _ rfl, by decide +kernel, rfl⟩, ?_⟩
    refine List.forall_mem_cons.mpr ⟨⟨w 106 _ rfl, by decide +kernel, rfl⟩, ?_⟩
    refine List.forall_mem_cons.mpr ⟨⟨w 108 _ rfl, by decide +kernel, rfl⟩, ?_⟩
    refine List.forall_mem_cons.mpr ⟨⟨w 123 _ rfl, by decide +kernel, rfl⟩, ?_⟩
    refine List.forall_mem_cons.mpr ⟨⟨w 125 _ rfl, by decide +kernel, rfl⟩, ?_⟩
    refine List.forall_mem_cons.mpr ⟨⟨w 136 _ rfl, by decide +kernel, rfl⟩, ?_⟩
    refine List.forall_mem_cons.mpr ⟨⟨w 138 _ rfl, by decide +kernel, rfl⟩, ?_⟩
    refine List.forall_mem_cons.mpr ⟨⟨w 186 _ rfl, by decide +kernel, rfl⟩, ?_⟩
    exact fun _ h => nomatch h
  refine List.forall_mem_cons.mpr ⟨cOk_of (w 10 _ rfl) (w 11 _ rfl) ?_ (by decide +kernel), ?_⟩
  · refine List.forall_mem_cons.mpr ⟨⟨w 17 _ rfl, by decide +kernel, rfl⟩, ?_⟩
    refine List.forall_mem_cons.mpr ⟨⟨w 20 _ rfl, by decide +kernel, rfl⟩, ?_⟩
    exact fun _ h => nomatch h
  exact fun _ h => nomatch h
theorem own_mt (Z : State) (a0 : Array Value) (hw : ∀ d ∈ tables_1, d.before a0 Z = true) : ∀ k M, nth own_MT k = some M → MOk Z a0 own_CT own_MT M := by
  refine mtOk_of ?_
  refine List.forall_mem_cons.mpr ⟨own_ok0 Z a0 hw, ?_⟩
  refine List.forall_mem_cons.mpr ⟨own_ok1 Z a0 hw, ?_⟩
  refine List.forall_mem_cons.mpr ⟨own_ok2 Z a0 hw, ?_⟩
  refine List.forall_mem_cons.mpr ⟨own_ok3 Z a0 hw, ?_⟩
  refine List.forall_mem_cons.mpr ⟨own_ok4 Z a0 hw, ?_⟩
  refine List.forall_mem_cons.mpr ⟨own_ok5 Z a0 hw, ?_⟩
  refine List.forall_mem_cons.mpr ⟨own_ok6 Z a0 hw, ?_⟩
  refine List.forall_mem_cons.mpr ⟨own_ok7 Z a0 hw, ?_⟩
  refine List.forall_mem_cons.mpr ⟨own_ok8 Z a0 hw, ?_⟩
  refine List.forall_mem_cons.mpr ⟨own_ok9 Z a0 hw, ?_⟩
  refine List.forall_mem_cons.mpr ⟨own_ok10 Z a0 hw, ?_⟩
  refine List.forall_mem_cons.mpr ⟨own_ok11 Z a0 hw, ?_⟩
  refine List.forall_mem_cons.mpr ⟨own_ok12 Z a0 hw, ?_⟩
  refine List.forall_mem_cons.mpr ⟨own_ok13 Z a0 hw, ?_⟩
  refine List.forall_mem_cons.mpr ⟨own_ok14 Z a0 hw, ?_⟩
  refine List.forall_mem_cons.mpr ⟨own_ok15 Z a0 hw, ?_⟩
  refine List.forall_mem_cons.mpr ⟨own_ok16 Z a0 hw, ?_⟩
  refine List.forall_mem_cons.mpr ⟨own_ok17 Z a0 hw, ?_⟩
  refine List.forall_mem_cons.mpr ⟨own_ok18 Z a0 hw, ?_⟩
  refine List.forall_mem_cons.mpr ⟨own_ok19 Z a0 hw, ?_⟩
  refine List.forall_mem_cons.mpr ⟨own_ok20 Z a0 hw, ?_⟩
  refine List.forall_mem_cons.mpr ⟨own_ok21 Z a0 hw, ?_⟩
  refine List.forall_mem_cons.mpr ⟨own_ok22 Z a0 hw, ?_⟩
  exact fun _ h => nomatch h
def own_as : List SVal := [⟨.arg 0, .int⟩, ⟨.arg 1, .int⟩, ⟨.arg 2, .int⟩]
abbrev own_A (x0 : Int32) (x1 : Int32) (x2 : Int32) : Array Value := #[.int x0, .int x1, .int x2]
/-- the law, evaluated whole under assumed facts -/
def own_run (Γ : List (Term × Term)) (Γc : List CFact) (n : Nat) : Option Jvm.OwnEv.Out := ev 3 own_CT own_MT Γ Γc n 8 192 own_m0 own_r0 ⟨0, entryS own_as 22, [], []⟩ [] 104 640
/-- at these arguments the law returns 1: its body ends so, under an environment that holds the arguments first -/
def own_Good (Z : State) (x0 : Int32) (x1 : Int32) (x2 : Int32) : Prop := ∀ (l : Launch) (a0 : Array Value) (_ : ∀ d ∈ tables_1, d.before a0 Z = true) (n0 : Nat), ∃ (N : Nat) (A : Array Value), A.size = N ∧ DenStack A Z own_as [.int x0, .int x1, .int x2] ∧ ∃ (H : AH) (c s : Nat), Body1 l Z a0 own_CT own_MT N n0 A 8 192 own_m0 own_r0 ⟨0, entryS own_as 22, [], []⟩ [] 104 640 (some ⟨.int 1, .int⟩) H c s
theorem own_met (l : Launch) (Z : State) (a0 : Array Value) (hw : ∀ d ∈ tables_1, d.before a0 Z = true) (ws : List Jvm.Cond) (x0 : Int32) (x1 : Int32) (x2 : Int32) (h0 : Heap) (n0 : Nat) (Z0 : n0 ≤ h0.size) (G : own_Good Z x0 x1 x2) :
    MetFree l x (head1 (Jvm.Cond.code x code maxLocals ret :: ws) room_1) (fun a U => a = own_A x0 x1 x2 ∧ Z.Warmed39 U.vm ∧ U.heap = h0) (fun _ _ _ _ _ => True) (fun _ U o U' => ∃ v L, o = .returned v ∧ (v = some (.int 1) ∧ Fr n0 L) ∧ FrameEnd U o U' L 104 640) := by
  obtain ⟨N, A, hA, D, H, c, s, B⟩ := G l a0 hw n0
  have I : Inv Z own_CT N n0 A [] h0 := ⟨hA, Z0, fun _ _ h => (nomatch h), fun _ _ _ _ _ _ _ h => (nomatch h)⟩
  have M := met1 (ws := ws) (M := own_m0) own_pn0 B (Ex.refl _) I D (rm := room_1) (Nat.le_refl _) (Nat.le_refl _) (Nat.le_refl _) (Nat.le_refl _)
  refine MetFree.mono M (fun _ _ q => q) (fun _ _ _ _ _ q => q) fun a U o U' hP hQ => ?_
  obtain ⟨w, L, k, j, A', rfl, f1, f2, f3, f4, -, -, f5⟩ := hQ
  refine ⟨w, L, rfl, ⟨?_, f2⟩, f1.1, f1.2.1, f1.2.2.mono (Nat.le_trans (Nat.le_add_right _ _) f3) (Nat.le_trans (Nat.le_add_right _ _) f4)⟩
  cases w with
  | none => exact f5.elim
  | some v => exact congrArg some (Option.some.inj f5.2.1).symm
/-! ## The law's own part (--body): ghosts of twelve bits, the prelude's stages, the tree -/
def own_sp : List (Nat × Nat) := [(136, 10), (141, 12), (153, 11), (158, 13), (175, 3), (184, 4), (189, 7), (197, 8), (200, 5), (205, 9), (215, 6), (254, 14)]
/-- the frame's variables once the first n of the ghosts have been reckoned -/
def own_L (f : Nat → Term) (n : Nat) : List SSlot := [.val ⟨.arg 0, .int⟩, .val ⟨.arg 1, .int⟩, .val ⟨.arg 2, .int⟩] ++ (List.range n).map (fun i => .val ⟨f (i + 3), .int⟩) ++ List.replicate (19 - n) .unset
def own_pick (z : Int32) (c : Nat) (i : Nat) : Term := cond (Nat.beq i c) (.int z) (.arg i)
/-- from the start till the constructor: (start, stop, the ghosts before, behind) -/
def own_bit (k i : Nat) : Term := .op2 .iand (cond (Nat.beq i 0) (.arg k) (.op2 .iushr (.arg k) (.int (Int32.ofNat i)))) (.int 1)
def own_msk (k m : Nat) : Term := .op2 .iand (.arg k) (.int (Int32.ofNat m))
def own_cut (pc : Nat) (L : List SSlot) : Option Cut → Bool
  | some (σ, H, c, s) => decide (σ = ⟨pc, L, [], []⟩) && H.isEmpty && Nat.beq c 104 && Nat.beq s 640
  | none => false
theorem own_cut_spec {pc : Nat} {L : List SSlot} {o : Option Cut} (h : own_cut pc L o = true) : o = some (⟨pc, L, [], []⟩, [], 104, 640) := by
  unfold own_cut at h
  split at h
  · rename_i σ H c s
    simp only [Bool.and_eq_true] at h
    obtain ⟨⟨⟨h1, h2⟩, h3⟩, h4⟩ := h
    rw [of_decide_eq_true h1, List.isEmpty_iff.mp h2, Nat.eq_of_beq_eq_true h3, Nat.eq_of_beq_eq_true h4]
  · cases h
def own_to (Γ : List (Term × Term)) (a b n : Nat) : Option Cut := evTo 15 own_CT own_MT Γ [] b 100 8 192 own_m0 [] ⟨a, own_L .arg n, [], []⟩ [] 104 640
def own_Γ0 : List (Term × Term) := [(own_bit 0 0, .arg 3), (own_bit 0 1, .arg 4), (own_bit 0 2, .arg 5), (own_bit 0 3, .arg 6)]
set_option maxRecDepth 65536 in
theorem own_p0 : own_cut 25 (own_L .arg 4) (own_to own_Γ0 0 25 0) = true := by decide +kernel
set_option maxRecDepth 65536 in
theorem own_p2 : own_cut 45 (own_L .arg 6) (own_to [(own_bit 1 1, .arg 8)] 38 45 5) = true := by decide +kernel
/-- the boolean that is stored as variable n + 3: (argument, mask, start, stop, n) -/
def own_bo : List (Nat × Nat × Nat × Nat × Nat) := [(1, 1, 25, 38, 4), (1, 4, 45, 58, 6), (2, 1, 58, 71, 7), (2, 2, 71, 84, 8), (2, 4, 84, 97, 9), (2, 8, 97, 111, 10), (2, 16, 111, 125, 11)]
def own_boT (q : Nat × Nat × Nat × Nat × Nat) (z : Nat) : Bool := own_cut q.2.2.2.1 (own_L (own_pick (Int32.ofNat z) (q.2.2.2.2 + 3)) (q.2.2.2.2 + 1)) (own_to [(own_msk q.1 q.2.1, .int (Int32.ofNat (z * q.2.1)))] q.2.2.1 q.2.2.2.1 q.2.2.2.2)
set_option maxRecDepth 65536 in
theorem own_p1 : (own_bo.all fun q => own_boT q 0 && own_boT q 1) = true := by decide +kernel
/-- the tree, its first five bits told apart -/
def own_f5 (x10 x12 x11 x13 x3 : Nat) (i : Nat) : Term :=
  cond (Nat.beq i 10) (.int (Int32.ofNat x10)) (cond (Nat.beq i 12) (cond (Nat.beq x10 0) (.arg 12) (.int (Int32.ofNat x12))) (cond (Nat.beq i 11) (.int (Int32.ofNat x11)) (cond (Nat.beq i 13) (cond (Nat.beq x11 0) (.arg 13) (.int (Int32.ofNat x13))) (cond (Nat.beq i 3) (.int (Int32.ofNat x3)) (.arg i)))))
def own_tr (x10 x12 x11 x13 x3 : Nat) : Bool := evT 15 own_CT own_MT [] [] own_sp 3000 8 192 own_m0 [] ⟨125, own_L (own_f5 x10 x12 x11 x13 x3) 12, [], []⟩ [] 104 640
set_option maxRecDepth 65536 in
theorem own_tr00000 : own_tr 0 0 0 0 0 = true := by decide +kernel
set_option maxRecDepth 65536 in
theorem own_tr00001 : own_tr 0 0 0 0 1 = true := by decide +kernel
set_option maxRecDepth 65536 in
theorem own_tr00100 : own_tr 0 0 1 0 0 = true := by decide +kernel
set_option maxRecDepth 65536 in
theorem own_tr00101 : own_tr 0 0 1 0 1 = true := by decide +kernel
set_option maxRecDepth 65536 in
theorem own_tr00110 : own_tr 0 0 1 1 0 = true := by decide +kernel
set_option maxRecDepth 65536 in
theorem own_tr00111 : own_tr 0 0 1 1 1 = true := by decide +kernel
set_option maxRecDepth 65536 in
theorem own_tr10000 : own_tr 1 0 0 0 0 = true := by decide +kernel
set_option maxRecDepth 65536 in
theorem own_tr10001 : own_tr 1 0 0 0 1 = true := by decide +kernel
set_option maxRecDepth 65536 in
theorem own_tr10100 : own_tr 1 0 1 0 0 = true := by decide +kernel
set_option maxRecDepth 65536 in
theorem own_tr10101 : own_tr 1 0 1 0 1 = true := by decide +kernel
set_option maxRecDepth 65536 in
theorem own_tr10110 : own_tr 1 0 1 1 0 = true := by decide +kernel
set_option maxRecDepth 65536 in
theorem own_tr10111 : own_tr 1 0 1 1 1 = true := by decide +kernel
set_option maxRecDepth 65536 in
theorem own_tr11000 : own_tr 1 1 0 0 0 = true := by decide +kernel
set_option maxRecDepth 65536 in
theorem own_tr11001 : own_tr 1 1 0 0 1 = true := by decide +kernel
set_option maxRecDepth 65536 in
theorem own_tr11100 : own_tr 1 1 1 0 0 = true := by decide +kernel
set_option maxRecDepth 65536 in
theorem own_tr11101 : own_tr 1 1 1 0 1 = true := by decide +kernel
set_option maxRecDepth 65536 in
theorem own_tr11110 : own_tr 1 1 1 1 0 = true := by decide +kernel
set_option maxRecDepth 65536 in
theorem own_tr11111 : own_tr 1 1 1 1 1 = true := by decide +kernel
/-! ### plain facts -/
theorem own_one (x : Int32) (j : Nat) (hj : j < 5) : x &&& Int32.ofNat (2 ^ j) = 0 ∨ x &&& Int32.ofNat (2 ^ j) = Int32.ofNat (2 ^ j) := by
  have e : ∀ j : Fin 5, (Int32.ofNat (2 ^ j.val)).toBitVec = BitVec.twoPow 32 j.val := by decide
  have ej := e ⟨j, hj⟩
  have q : (x &&& Int32.ofNat (2 ^ j)).toBitVec = if x.toBitVec.getLsbD j then BitVec.twoPow 32 j else 0#32 := by
    rw [Int32.toBitVec_and, ej, BitVec.and_twoPow]
  by_cases h : x.toBitVec.getLsbD j = true
  · rw [if_pos h] at q
    exact Or.inr (Int32.toBitVec_inj.mp (q.trans ej.symm))
  · rw [if_neg h] at q
    exact Or.inl (Int32.toBitVec_inj.mp q)
theorem own_bitE (Z : State) (k i : Nat) (x : Int32) : ∃ z : Nat, z < 2 ∧ ∀ A : Array Value, (Term.arg k).eval A Z none [] Z = some (.int x) → (own_bit k i).eval A Z none [] Z = some (.int (Int32.ofNat z)) := by
  have key : ∃ w : Int32, ∀ A : Array Value, (Term.arg k).eval A Z none [] Z = some (.int x) → (cond (Nat.beq i 0) (Term.arg k) (.op2 .iushr (.arg k) (.int (Int32.ofNat i)))).eval A Z none [] Z = some (.int w) := by
    cases Nat.beq i 0
    · exact ⟨_, fun A h => by
        simp only [Term.eval] at h
        simp only [cond_false, Term.eval]
        rw [h]; rfl⟩
    · exact ⟨x, fun A h => h⟩
  obtain ⟨w, hw⟩ := key
  rcases and1 w with e | e
  · exact ⟨0, by omega, fun A h => by rw [own_bit, evIand (hw A h) (y := 1) rfl, e]; rfl⟩
  · exact ⟨1, by omega, fun A h => by rw [own_bit, evIand (hw A h) (y := 1) rfl, e]; rfl⟩
theorem own_mskE (Z : State) (k j : Nat) (hj : j < 5) (x : Int32) : ∃ z : Nat, z < 2 ∧ ∀ A : Array Value, (Term.arg k).eval A Z none [] Z = some (.int x) → (own_msk k (2 ^ j)).eval A Z none [] Z = some (.int (Int32.ofNat (z * 2 ^ j))) := by
  rcases own_one x j hj with e | e
  · exact ⟨0, by omega, fun A h => by rw [own_msk, evIand h (y := Int32.ofNat (2 ^ j)) rfl, e, Nat.zero_mul]; rfl⟩
  · exact ⟨1, by omega, fun A h => by rw [own_msk, evIand h (y := Int32.ofNat (2 ^ j)) rfl, e, Nat.one_mul]⟩
def own_Ends (l : Launch) (Z : State) (a0 : Array Value) (n0 : Nat) (A : Array Value) (σ : SFrame) : Prop := ∃ (H : AH) (c s : Nat), Body1 l Z a0 own_CT own_MT 15 n0 A 8 192 own_m0 own_r0 σ [] 104 640 (some ⟨.int 1, .int⟩) H c s
section Stage
variable {l : Launch} {Z : State} {a0 : Array Value} {n0 : Nat} {A : Array Value}
theorem own_stage {Γ : List (Term × Term)} {a b n : Nat} {L : List SSlot} (hw : ∀ d ∈ tables_1, d.before a0 Z = true) (h1 : ∀ q ∈ Γ, TFact A Z q) (h3 : own_cut b L (own_to Γ a b n) = true) (h : own_Ends l Z a0 n0 A ⟨b, L, [], []⟩) : own_Ends l Z a0 n0 A ⟨a, own_L .arg n, [], []⟩ := by
  obtain ⟨H, c, s, B⟩ := h
  exact ⟨H, c, s, evTo_sound (n0 := n0) l (own_ct Z a0 hw) (own_mt Z a0 hw) h1 Jvm.OwnEv.all0 100 _ _ own_m0 [] _ [] _ _ _ _ _ _ (own_cut_spec h3) (own_ok0 Z a0 hw) Jvm.OwnEv.all0 _ _ _ _ (fun _ _ => B)⟩
theorem own_up {pc i : Nat} {L : List SSlot} {z : Int32} (hg : A[i]? = some (.int z)) (hl : L[i]? = some (.val ⟨.int z, .int⟩)) (k : own_Ends l Z a0 n0 A ⟨pc, L.set i (.val ⟨.arg i, .int⟩), [], []⟩) : own_Ends l Z a0 n0 A ⟨pc, L, [], []⟩ := by
  obtain ⟨H, c, s, B⟩ := k
  refine ⟨H, c, s, Body1.alter (fun A' ls hE d => alterAt hl (fun v d => ?_) d) B⟩
  have q : (Term.arg i).eval A' Z none [] Z = some (.int z) := hE _ _ hg
  exact ⟨rfl, q.trans d.2.1, d.2.2⟩
theorem own_down {pc i : Nat} {L : List SSlot} {z : Int32} (hg : A[i]? = some (.int z)) (hl : L[i]? = some (.val ⟨.arg i, .int⟩)) (k : own_Ends l Z a0 n0 A ⟨pc, L.set i (.val ⟨.int z, .int⟩), [], []⟩) : own_Ends l Z a0 n0 A ⟨pc, L, [], []⟩ := by
  obtain ⟨H, c, s, B⟩ := k
  exact ⟨H, c, s, Body1.ghost hg hl B⟩
theorem own_boS {q : Nat × Nat × Nat × Nat × Nat} {z : Nat} (hz : z < 2) (hq : q ∈ own_bo) (hw : ∀ d ∈ tables_1, d.before a0 Z = true) (hg : A[q.2.2.2.2 + 3]? = some (.int (Int32.ofNat z))) (ht : (own_msk q.1 q.2.1).eval A Z none [] Z = some (.int (Int32.ofNat (z * q.2.1))))
    (hl : (own_L (own_pick (Int32.ofNat z) (q.2.2.2.2 + 3)) (q.2.2.2.2 + 1))[q.2.2.2.2 + 3]? = some (.val ⟨.int (Int32.ofNat z), .int⟩)) (hs : (own_L (own_pick (Int32.ofNat z) (q.2.2.2.2 + 3)) (q.2.2.2.2 + 1)).set (q.2.2.2.2 + 3) (.val ⟨.arg (q.2.2.2.2 + 3), .int⟩) = own_L .arg (q.2.2.2.2 + 1))
    (h : own_Ends l Z a0 n0 A ⟨q.2.2.2.1, own_L .arg (q.2.2.2.2 + 1), [], []⟩) : own_Ends l Z a0 n0 A ⟨q.2.2.1, own_L .arg q.2.2.2.2, [], []⟩ := by
  have t := Bool.and_eq_true_iff.mp (List.all_eq_true.mp own_p1 q hq)
  have tz : own_boT q z = true := by
    have : z = 0 ∨ z = 1 := by omega
    rcases this with rfl | rfl
    · exact t.1
    · exact t.2
  exact own_stage hw (allC (tInt ht rfl) Jvm.OwnEv.all0) tz (own_up hg hl (by rw [hs]; exact h))
end Stage
set_option maxHeartbeats 4000000 in
theorem own_good (Z : State) (x0 : Int32) (x1 : Int32) (x2 : Int32) : own_Good Z x0 x1 x2 := by
  intro l a0 hw n0
  obtain ⟨z3, l3, h3⟩ := own_bitE Z 0 0 x0
  obtain ⟨z4, l4, h4⟩ := own_bitE Z 0 1 x0
  obtain ⟨z5, l5, h5⟩ := own_bitE Z 0 2 x0
  obtain ⟨z6, l6, h6⟩ := own_bitE Z 0 3 x0
  obtain ⟨z7, l7, h7⟩ := own_mskE Z 1 0 (by omega) x1
  obtain ⟨z8, l8, h8⟩ := own_bitE Z 1 1 x1
  obtain ⟨z9, l9, h9⟩ := own_mskE Z 1 2 (by omega) x1
  obtain ⟨z10, l10, h10⟩ := own_mskE Z 2 0 (by omega) x2
  obtain ⟨z11, l11, h11⟩ := own_mskE Z 2 1 (by omega) x2
  obtain ⟨z12, l12, h12⟩ := own_mskE Z 2 2 (by omega) x2
  obtain ⟨z13, l13, h13⟩ := own_mskE Z 2 3 (by omega) x2
  obtain ⟨z14, l14, h14⟩ := own_mskE Z 2 4 (by omega) x2
  refine ⟨15, #[.int x0, .int x1, .int x2, .int (Int32.ofNat z3), .int (Int32.ofNat z4), .int (Int32.ofNat z5), .int (Int32.ofNat z6), .int (Int32.ofNat z7), .int (Int32.ofNat z8), .int (Int32.ofNat z9), .int (Int32.ofNat z10), .int (Int32.ofNat z11), .int (Int32.ofNat z12), .int (Int32.ofNat z13), .int (Int32.ofNat z14)], rfl, ⟨⟨rfl, rfl, rfl⟩, ⟨rfl, rfl, rfl⟩, ⟨rfl, rfl, rfl⟩, trivial⟩, ?_⟩
  have a100 : (#[.int x0, .int x1, .int x2, .int (Int32.ofNat z3), .int (Int32.ofNat z4), .int (Int32.ofNat z5), .int (Int32.ofNat z6), .int (Int32.ofNat z7), .int (Int32.ofNat z8), .int (Int32.ofNat z9), .int (Int32.ofNat z10), .int (Int32.ofNat z11), .int (Int32.ofNat z12), .int (Int32.ofNat z13), .int (Int32.ofNat z14)] : Array Value)[0]? = some (.int x0) := rfl
  have a101 : (#[.int x0, .int x1, .int x2, .int (Int32.ofNat z3), .int (Int32.ofNat z4), .int (Int32.ofNat z5), .int (Int32.ofNat z6), .int (Int32.ofNat z7), .int (Int32.ofNat z8), .int (Int32.ofNat z9), .int (Int32.ofNat z10), .int (Int32.ofNat z11), .int (Int32.ofNat z12), .int (Int32.ofNat z13), .int (Int32.ofNat z14)] : Array Value)[1]? = some (.int x1) := rfl
  have a102 : (#[.int x0, .int x1, .int x2, .int (Int32.ofNat z3), .int (Int32.ofNat z4), .int (Int32.ofNat z5), .int (Int32.ofNat z6), .int (Int32.ofNat z7), .int (Int32.ofNat z8), .int (Int32.ofNat z9), .int (Int32.ofNat z10), .int (Int32.ofNat z11), .int (Int32.ofNat z12), .int (Int32.ofNat z13), .int (Int32.ofNat z14)] : Array Value)[2]? = some (.int x2) := rfl
  have a103 : (#[.int x0, .int x1, .int x2, .int (Int32.ofNat z3), .int (Int32.ofNat z4), .int (Int32.ofNat z5), .int (Int32.ofNat z6), .int (Int32.ofNat z7), .int (Int32.ofNat z8), .int (Int32.ofNat z9), .int (Int32.ofNat z10), .int (Int32.ofNat z11), .int (Int32.ofNat z12), .int (Int32.ofNat z13), .int (Int32.ofNat z14)] : Array Value)[3]? = some (.int (Int32.ofNat z3)) := rfl
  have a104 : (#[.int x0, .int x1, .int x2, .int (Int32.ofNat z3), .int (Int32.ofNat z4), .int (Int32.ofNat z5), .int (Int32.ofNat z6), .int (Int32.ofNat z7), .int (Int32.ofNat z8), .int (Int32.ofNat z9), .int (Int32.ofNat z10), .int (Int32.ofNat z11), .int (Int32.ofNat z12), .int (Int32.ofNat z13), .int (Int32.ofNat z14)] : Array Value)[4]? = some (.int (Int32.ofNat z4)) := rfl
  have a105 : (#[.int x0, .int x1, .int x2, .int (Int32.ofNat z3), .int (Int32.ofNat z4), .int (Int32.ofNat z5), .int (Int32.ofNat z6), .int (Int32.ofNat z7), .int (Int32.ofNat z8), .int (Int32.ofNat z9), .int (Int32.ofNat z10), .int (Int32.ofNat z11), .int (Int32.ofNat z12), .int (Int32.ofNat z13), .int (Int32.ofNat z14)] : Array Value)[5]? = some (.int (Int32.ofNat z5)) := rfl
  have a106 : (#[.int x0, .int x1, .int x2, .int (Int32.ofNat z3), .int (Int32.ofNat z4), .int (Int32.ofNat z5), .int (Int32.ofNat z6), .int (Int32.ofNat z7), .int (Int32.ofNat z8), .int (Int32.ofNat z9), .int (Int32.ofNat z10), .int (Int32.ofNat z11), .int (Int32.ofNat z12), .int (Int32.ofNat z13), .int (Int32.ofNat z14)] : Array Value)[6]? = some (.int (Int32.ofNat z6)) := rfl
  have a107 : (#[.int x0, .int x1, .int x2, .int (Int32.ofNat z3), .int (Int32.ofNat z4), .int (Int32.ofNat z5), .int (Int32.ofNat z6), .int (Int32.ofNat z7), .int (Int32.ofNat z8), .int (Int32.ofNat z9), .int (Int32.ofNat z10), .int (Int32.ofNat z11), .int (Int32.ofNat z12), .int (Int32.ofNat z13), .int (Int32.ofNat z14)] : Array Value)[7]? = some (.int (Int32.ofNat z7)) := rfl
  have a108 : (#[.int x0, .int x1, .int x2, .int (Int32.ofNat z3), .int (Int32.ofNat z4), .int (Int32.ofNat z5), .int (Int32.ofNat z6), .int (Int32.ofNat z7), .int (Int32.ofNat z8), .int (Int32.ofNat z9), .int (Int32.ofNat z10), .int (Int32.ofNat z11), .int (Int32.ofNat z12), .int (Int32.ofNat z13), .int (Int32.ofNat z14)] : Array Value)[8]? = some (.int (Int32.ofNat z8)) := rfl
  have a109 : (#[.int x0, .int x1, .int x2, .int (Int32.ofNat z3), .int (Int32.ofNat z4), .int (Int32.ofNat z5), .int (Int32.ofNat z6), .int (Int32.ofNat z7), .int (Int32.ofNat z8), .int (Int32.ofNat z9), .int (Int32.ofNat z10), .int (Int32.ofNat z11), .int (Int32.ofNat z12), .int (Int32.ofNat z13), .int (Int32.ofNat z14)] : Array Value)[9]? = some (.int (Int32.ofNat z9)) := rfl
  have a110 : (#[.int x0, .int x1, .int x2, .int (Int32.ofNat z3), .int (Int32.ofNat z4), .int (Int32.ofNat z5), .int (Int32.ofNat z6), .int (Int32.ofNat z7), .int (Int32.ofNat z8), .int (Int32.ofNat z9), .int (Int32.ofNat z10), .int (Int32.ofNat z11), .int (Int32.ofNat z12), .int (Int32.ofNat z13), .int (Int32.ofNat z14)] : Array Value)[10]? = some (.int (Int32.ofNat z10)) := rfl
  have a111 : (#[.int x0, .int x1, .int x2, .int (Int32.ofNat z3), .int (Int32.ofNat z4), .int (Int32.ofNat z5), .int (Int32.ofNat z6), .int (Int32.ofNat z7), .int (Int32.ofNat z8), .int (Int32.ofNat z9), .int (Int32.ofNat z10), .int (Int32.ofNat z11), .int (Int32.ofNat z12), .int (Int32.ofNat z13), .int (Int32.ofNat z14)] : Array Value)[11]? = some (.int (Int32.ofNat z11)) := rfl
  have a112 : (#[.int x0, .int x1, .int x2, .int (Int32.ofNat z3), .int (Int32.ofNat z4), .int (Int32.ofNat z5), .int (Int32.ofNat z6), .int (Int32.ofNat z7), .int (Int32.ofNat z8), .int (Int32.ofNat z9), .int (Int32.ofNat z10), .int (Int32.ofNat z11), .int (Int32.ofNat z12), .int (Int32.ofNat z13), .int (Int32.ofNat z14)] : Array Value)[12]? = some (.int (Int32.ofNat z12)) := rfl
  have a113 : (#[.int x0, .int x1, .int x2, .int (Int32.ofNat z3), .int (Int32.ofNat z4), .int (Int32.ofNat z5), .int (Int32.ofNat z6), .int (Int32.ofNat z7), .int (Int32.ofNat z8), .int (Int32.ofNat z9), .int (Int32.ofNat z10), .int (Int32.ofNat z11), .int (Int32.ofNat z12), .int (Int32.ofNat z13), .int (Int32.ofNat z14)] : Array Value)[13]? = some (.int (Int32.ofNat z13)) := rfl
  have a114 : (#[.int x0, .int x1, .int x2, .int (Int32.ofNat z3), .int (Int32.ofNat z4), .int (Int32.ofNat z5), .int (Int32.ofNat z6), .int (Int32.ofNat z7), .int (Int32.ofNat z8), .int (Int32.ofNat z9), .int (Int32.ofNat z10), .int (Int32.ofNat z11), .int (Int32.ofNat z12), .int (Int32.ofNat z13), .int (Int32.ofNat z14)] : Array Value)[14]? = some (.int (Int32.ofNat z14)) := rfl
  generalize (#[.int x0, .int x1, .int x2, .int (Int32.ofNat z3), .int (Int32.ofNat z4), .int (Int32.ofNat z5), .int (Int32.ofNat z6), .int (Int32.ofNat z7), .int (Int32.ofNat z8), .int (Int32.ofNat z9), .int (Int32.ofNat z10), .int (Int32.ofNat z11), .int (Int32.ofNat z12), .int (Int32.ofNat z13), .int (Int32.ofNat z14)] : Array Value) = A at a100 a101 a102 a103 a104 a105 a106 a107 a108 a109 a110 a111 a112 a113 a114 ⊢
  show own_Ends l Z a0 n0 A ⟨0, own_L .arg 0, [], []⟩
  refine own_stage hw (allC (tTerm (u := .arg 3) (h3 A a100) a103 rfl rfl) (allC (tTerm (u := .arg 4) (h4 A a100) a104 rfl rfl) (allC (tTerm (u := .arg 5) (h5 A a100) a105 rfl rfl) (allC (tTerm (u := .arg 6) (h6 A a100) a106 rfl rfl) Jvm.OwnEv.all0)))) own_p0 ?_
  refine own_boS (q := (1, 1, 25, 38, 4)) (z := z7) l7 (by simp [own_bo]) hw a107 (h7 A a101) rfl rfl ?_
  refine own_stage hw (allC (tTerm (u := .arg 8) (h8 A a101) a108 rfl rfl) Jvm.OwnEv.all0) own_p2 ?_
  refine own_boS (q := (1, 4, 45, 58, 6)) (z := z9) l9 (by simp [own_bo]) hw a109 (h9 A a101) rfl rfl ?_
  refine own_boS (q := (2, 1, 58, 71, 7)) (z := z10) l10 (by simp [own_bo]) hw a110 (h10 A a102) rfl rfl ?_
  refine own_boS (q := (2, 2, 71, 84, 8)) (z := z11) l11 (by simp [own_bo]) hw a111 (h11 A a102) rfl rfl ?_
  refine own_boS (q := (2, 4, 84, 97, 9)) (z := z12) l12 (by simp [own_bo]) hw a112 (h12 A a102) rfl rfl ?_
  refine own_boS (q := (2, 8, 97, 111, 10)) (z := z13) l13 (by simp [own_bo]) hw a113 (h13 A a102) rfl rfl ?_
  refine own_boS (q := (2, 16, 111, 125, 11)) (z := z14) l14 (by simp [own_bo]) hw a114 (h14 A a102) rfl rfl ?_
  show own_Ends l Z a0 n0 A ⟨125, own_L .arg 12, [], []⟩
  have two : ∀ (g z : Nat), z < 2 → A[g]? = some (.int (Int32.ofNat z)) → A[g]? = some (.int 0) ∨ A[g]? = some (.int 1) := fun g z hz h => by
    have : z = 0 ∨ z = 1 := by omega
    rcases this with rfl | rfl
    · exact Or.inl h
    · exact Or.inr h
  have gh : ∀ q ∈ own_sp, A[q.2]? = some (.int 0) ∨ A[q.2]? = some (.int 1) :=
    allC (two 10 z10 l10 a110) (allC (two 12 z12 l12 a112) (allC (two 11 z11 l11 a111) (allC (two 13 z13 l13 a113) (allC (two 3 z3 l3 a103) (allC (two 4 z4 l4 a104) (allC (two 7 z7 l7 a107) (allC (two 8 z8 l8 a108) (allC (two 5 z5 l5 a105) (allC (two 9 z9 l9 a109) (allC (two 6 z6 l6 a106) (allC (two 14 z14 l14 a114) (Jvm.OwnEv.all0))))))))))))
  have fin : ∀ x10 x12 x11 x13 x3, own_tr x10 x12 x11 x13 x3 = true → own_Ends l Z a0 n0 A ⟨125, own_L (own_f5 x10 x12 x11 x13 x3) 12, [], []⟩ := fun x10 x12 x11 x13 x3 h =>
    evT_sound (n0 := n0) l (own_ct Z a0 hw) (own_mt Z a0 hw) (Γ := []) (Γc := []) Jvm.OwnEv.all0 Jvm.OwnEv.all0 gh 3000 _ _ own_m0 [] _ [] _ _ h (own_ok0 Z a0 hw) Jvm.OwnEv.all0
  have b3 : z3 = 0 ∨ z3 = 1 := by omega
  have b10 : z10 = 0 ∨ z10 = 1 := by omega
  have b11 : z11 = 0 ∨ z11 = 1 := by omega
  have b12 : z12 = 0 ∨ z12 = 1 := by omega
  have b13 : z13 = 0 ∨ z13 = 1 := by omega
  refine own_down a110 rfl (own_down a111 rfl (own_down a103 rfl ?_))
  clear h3 h10 h11 gh two
  rcases b10 with rfl | rfl <;> rcases b11 with rfl | rfl <;> rcases b3 with rfl | rfl
  · exact fin 0 0 0 0 0 own_tr00000
  · exact fin 0 0 0 0 1 own_tr00001
  · refine own_down a113 rfl ?_
    rcases b13 with rfl | rfl
    · exact fin 0 0 1 0 0 own_tr00100
    · exact fin 0 0 1 1 0 own_tr00110
  · refine own_down a113 rfl ?_
    rcases b13 with rfl | rfl
    · exact fin 0 0 1 0 1 own_tr00101
    · exact fin 0 0 1 1 1 own_tr00111
  · refine own_down a112 rfl ?_
    rcases b12 with rfl | rfl
    · exact fin 1 0 0 0 0 own_tr10000
    · exact fin 1 1 0 0 0 own_tr11000
  · refine own_down a112 rfl ?_
    rcases b12 with rfl | rfl
    · exact fin 1 0 0 0 1 own_tr10001
    · exact fin 1 1 0 0 1 own_tr11001
  · refine own_down a112 rfl (own_down a113 rfl ?_)
    rcases b12 with rfl | rfl <;> rcases b13 with rfl | rfl
    · exact fin 1 0 1 0 0 own_tr10100
    · exact fin 1 0 1 1 0 own_tr10110
    · exact fin 1 1 1 0 0 own_tr11100
    · exact fin 1 1 1 1 0 own_tr11110
  · refine own_down a112 rfl (own_down a113 rfl ?_)
    rcases b12 with rfl | rfl <;> rcases b13 with rfl | rfl
    · exact fin 1 0 1 0 1 own_tr10101
    · exact fin 1 0 1 1 1 own_tr10111
    · exact fin 1 1 1 0 1 own_tr11101
    · exact fin 1 1 1 1 1 own_tr11111
set_option maxRecDepth 65536 in
set_option maxHeartbeats 40000000 in
theorem comes_1 {Post : Tables → Env → Array Value → State → Outcome → State → Prop} (hpost : ∀ tb e args s v u, (limb_1_1.after args s (.returned v) u = true ∧ limb_1_2.after args s (.returned v) u = true ∧ True) → FrameEnd s (.returned v) u (Jvm.fieldLocs frame_1_writes args s ++ Jvm.arrayLocs frame_1_arrays args s ++ Jvm.staticLocs frame_1_statics s) 104 640 → Post tb e args s (.returned v) u) :
    ArmFor flags0 classFile x code maxLocals ret World_1 tables_1 room_1 Calls_1 rest_1 Pre_1 Post := by
  intro l hfl _ _ p e ha hc hk s m args below hf hA hF happ hP
  obtain ⟨hcalls, hrest, hpre⟩ := hP
  obtain ⟨-, -, -, hnamed, -, -, -, hat⟩ := (Spec.applies_iff hf).mp happ
  obtain ⟨hg, hn⟩ := and_e (Cond.before_iff.mp (show (Jvm.Cond.and given_1 narrow_1).before args s = true from hpre))
  obtain ⟨g0, hg⟩ := and_e hg
  obtain ⟨g1, hg⟩ := and_e hg
  obtain ⟨g2, hg⟩ := and_e hg
  obtain ⟨w0, w1, w2, rfl⟩ : ∃ w0 w1 w2 : Value, args = #[w0, w1, w2] := by
    have hs : args.size = 3 := by simpa [Cond.value, given_1] using g0
    obtain ⟨L⟩ := args
    match L, hs with
    | [w0, w1, w2], _ => exact ⟨w0, w1, w2, rfl⟩
  have hw := fun d (hd : d ∈ tables_1) => atoms_spec (ws := Jvm.Cond.code x code maxLocals ret :: tables_1) hat d (List.mem_cons_of_mem _ hd)
  obtain ⟨i0, e0⟩ := is_v g1
  obtain rfl : w0 = (.int i0) := Option.some.inj e0
  obtain ⟨i1, e1⟩ := is_v g2
  obtain rfl : w1 = (.int i1) := Option.some.inj e1
  obtain ⟨i2, e2⟩ := is_v hg
  obtain rfl : w2 = (.int i2) := Option.some.inj e2
  obtain ⟨n, o, h1, h2, h3, _, L, rfl, ⟨rfl, N⟩, hq⟩ := own_met l s _ hw tables_1 i0 i1 i2 s.heap s.heap.size (Nat.le_refl _) (own_good s i0 i1 i2) p e ha hc hk s m _ below hf ((Spec.applies_iff_loose hf).mp happ).1 ⟨rfl, State.Warmed39.refl s, rfl⟩ trivial
  refine ⟨n, _, h1, h2, h3, hpost _ _ _ _ _ _ ⟨Cond.after_iff.mpr rfl, Cond.after_iff.mpr (eq_i res_at (Term.int_eval (1)) rfl), trivial⟩ ⟨hq.1, hq.2.1, (hq.2.2.sift fun y hy => Or.inr (N y hy)).mono (by decide) (by decide)⟩⟩
theorem main_1_1 : Claimed_1_1 := comes_1 fun _ _ _ _ _ _ h hF => ⟨h.1, hF⟩
theorem main_1_2 : Claimed_1_2 := comes_1 fun _ _ _ _ _ _ h hF => ⟨h.2.1, hF⟩
end Jvm.Pilot.@@N@@
namespace Jvm.Pilot.@@N@@
open Jvm Jvm.ClassFile Sem Op Lib Jvm.Free Jvm.Stand Jvm.Pilot.@@N@@.Jvm.D
/-! MADE BY PROGRAM (witnessworld.py) out of the Statement's table words and the real class files: 18 classes; the members and pool entries that the words name. The judged class is class 1, her method 1. -/
namespace start1
open Jvm.ClassFile
def u (s : String) : CpInfo := .utf8 (stringToUtf16 s)
/-- a pool by its gaps: so many unusable entries, then the entry; so many at the end -/
def gap : Nat → List CpInfo → List CpInfo
  | 0, r => r
  | n + 1, r => .unusable :: gap n r
def poolList (es : List (Nat × CpInfo)) (last : Nat) : List CpInfo := es.foldr (fun e r => gap e.1 (e.2 :: r)) (gap last [])
def pool (es : List (Nat × CpInfo)) (last : Nat) : Array CpInfo := ⟨poolList es last⟩
def fileOf (pool : Array CpInfo) (this : Nat) (attrs : Array Attribute := #[]) (ms : Array MethodInfo := #[]) (fl : Nat := 33) (sup : Nat := 0) (ifs : Array Nat := #[]) (fds : Array FieldInfo := #[]) : ClassFile where
  minorVersion := 0
  majorVersion := 65
  constantPool := pool
  accessFlags := fl
  thisClass := this
  superClass := sup
  interfaces := ifs
  fields := fds
  methods := ms
  attributes := attrs
def plain (name : String) (sup : Option ClassId) : Class where
  name := name
  kind := .ordinary
  loader := none
  accessFlags := 33
  super := sup
  interfaces := #[]
  cf := none
  fields := #[]
  methods := #[]
  instanceTypes := #[]
  staticTypes := #[]
  resolved := #[]
  callSites := []
  init := .initialized
  statics := none
  mirror := none

def pool0 : Array CpInfo := pool [(5, u "<init>"), (0, u "()V"), (1, .class_ 10), (1, u "java/lang/Object")] 113

def k0c0 : Code := { maxStack := 0, maxLocals := 1, code := object_method_1_code, exceptionTable := #[], attributes := #[] }
def k0m0 : Method := { name := "<init>", desc := "()V", sig := { parameters := [], returnType := none }, accessFlags := 1, code := some k0c0 }
/-- java/lang/Object -/
def k0 : Class := { plain "java/lang/Object" none with
  accessFlags := 33
  interfaces := #[]
  cf := some (fileOf pool0 8 #[] #[{ accessFlags := 1, nameIndex := 5, descriptorIndex := 6, attributes := #[] }] 33 0 #[] #[])
  fields := #[]
  methods := #[k0m0]
  instanceTypes := #[]
  staticTypes := #[]
  resolved := Array.replicate 124 none
  statics := none }

def pool1 : Array CpInfo := pool [(2, .class_ 4), (1, u "java/lang/Object"), (0, u "<init>"), (0, u "()V"), (0, .class_ 8), (0, u "com/example/nequiv/nequiv/BlockKeys"), (0, .methodref 7 10), (0, .nameAndType 5 11), (0, u "(II)V"), (0, .methodref 7 13), (0, .nameAndType 14 11), (0, u "makeBottom"), (0, .methodref 7 16), (0, .nameAndType 17 18), (0, u "count"), (0, u "(IIII)V"), (0, .methodref 7 20), (0, .nameAndType 21 22), (0, u "stable"), (0, u "(I)Z"), (0, .class_ 24), (0, u "com/example/nequiv/nequiv/BlockKeysStablePinLaw"), (2, u "law"), (0, u "(III)Z")] 3

def k1m0 : Method := { name := "<init>", desc := "()V", sig := { parameters := [], returnType := none }, accessFlags := 1, code := none }
def k1c1 : Code := { maxStack := 5, maxLocals := 22, code := code, exceptionTable := #[], attributes := #[] }
def k1m1 : Method := { name := "law", desc := "(III)Z", sig := { parameters := [.int, .int, .int], returnType := some .boolean }, accessFlags := 9, code := some k1c1 }
/-- com/example/nequiv/nequiv/BlockKeysStablePinLaw -/
def k1 : Class := { plain "com/example/nequiv/nequiv/BlockKeysStablePinLaw" (some 0) with
  accessFlags := 49
  interfaces := #[]
  cf := some (fileOf pool1 23 #[] #[{ accessFlags := 1, nameIndex := 5, descriptorIndex := 6, attributes := #[] }, { accessFlags := 9, nameIndex := 27, descriptorIndex := 28, attributes := #[] }] 49 2 #[] #[])
  fields := #[]
  methods := #[k1m0, k1m1]
  instanceTypes := #[]
  staticTypes := #[]
  resolved := Array.replicate 32 none
  statics := none }

def pool2 : Array CpInfo := pool [(1, .methodref 2 3), (0, .class_ 4), (0, .nameAndType 5 6), (0, u "java/lang/Object"), (0, u "<init>"), (0, u "()V"), (0, .class_ 8), (0, u "com/example/nequiv/nequiv/PairTable"), (0, .methodref 7 3), (0, .fieldref 11 12), (0, .class_ 13), (0, .nameAndType 14 15), (0, u "com/example/nequiv/nequiv/BlockKeys"), (0, u "counterTable"), (0, u "Lcom/example/nequiv/nequiv/PairTable;"), (0, .fieldref 11 17), (0, .nameAndType 18 19), (0, u "firstSlicesOfKey"), (0, u "[I"), (0, .fieldref 11 21), (0, .nameAndType 22 19), (0, u "sliceCountsOfKey"), (0, .fieldref 11 24), (0, .nameAndType 25 15), (0, u "sliceTable"), (0, .fieldref 11 27), (0, .nameAndType 28 29), (0, u "keysInTable"), (0, u "[Z"), (0, .fieldref 11 31), (0, .nameAndType 32 19), (0, u "stepCounters"), (0, .methodref 34 35), (0, .class_ 36), (0, .nameAndType 37 38), (0, u "java/util/Arrays"), (0, u "fill"), (0, u "([II)V"), (0, .fieldref 11 40), (0, .nameAndType 41 19), (0, u "counterNodes"), (0, .fieldref 11 43), (0, .nameAndType 44 19), (0, u "counterKeys"), (0, .fieldref 11 46), (0, .nameAndType 47 19), (0, u "counterCounts"), (0, .fieldref 11 49), (0, .nameAndType 50 19), (0, u "counterSlices"), (0, .fieldref 11 52), (0, .nameAndType 53 19), (0, u "previousInSlice"), (0, .fieldref 11 55), (0, .nameAndType 56 19), (0, u "nextInSlice"), (0, .fieldref 11 58), (0, .nameAndType 59 19), (0, u "previousOfNode"), (0, .fieldref 11 61), (0, .nameAndType 62 19), (0, u "nextOfNode"), (0, .fieldref 11 64), (0, .nameAndType 65 19), (0, u "freeCounters"), (0, .fieldref 11 67), (0, .nameAndType 68 19), (0, u "firstCounters"), (0, .fieldref 11 70), (0, .nameAndType 71 19), (0, u "keyCounts"), (0, .fieldref 11 73), (0, .nameAndType 74 29), (0, u "nodesInTable"), (0, .fieldref 11 76), (0, .nameAndType 77 19), (0, u "sliceBlocks"), (0, .fieldref 11 79), (0, .nameAndType 80 19), (0, u "sliceKeys"), (0, .fieldref 11 82), (0, .nameAndType 83 19), (0, u "firstInSlice"), (0, .fieldref 11 85), (0, .nameAndType 86 19), (0, u "sliceSizes"), (0, .fieldref 11 88), (0, .nameAndType 89 19), (0, u "sliceBottoms"), (0, .fieldref 11 91), (0, .nameAndType 92 19), (0, u "previousOfBlock"), (0, .fieldref 11 94), (0, .nameAndType 95 19), (0, u "nextOfBlock"), (0, .fieldref 11 97), (0, .nameAndType 98 19), (0, u "freeSlices"), (0, .fieldref 11 100), (0, .nameAndType 101 19), (0, u "previousOfKey"), (0, .fieldref 11 103), (0, .nameAndType 104 19), (0, u "nextOfKey"), (0, .fieldref 11 106), (0, .nameAndType 107 19), (0, u "firstSlices"), (0, .fieldref 11 109), (0, .nameAndType 110 19), (0, u "blockKeyCounts"), (0, .fieldref 11 112), (0, .nameAndType 113 19), (0, u "bottomKeyCounts"), (0, .fieldref 11 115), (0, .nameAndType 116 19), (0, u "passSlices"), (0, .fieldref 11 118), (0, .nameAndType 119 19), (0, u "firstBottoms"), (0, .fieldref 11 121), (0, .nameAndType 122 19), (0, u "lastBottoms"), (0, .fieldref 11 124), (0, .nameAndType 125 19), (0, u "bottomCounts"), (0, .fieldref 11 127), (0, .nameAndType 128 19), (0, u "previousBottoms"), (0, .fieldref 11 130), (0, .nameAndType 131 19), (0, u "nextBottoms"), (0, .fieldref 11 133), (0, .nameAndType 134 29), (0, u "bottom"), (0, .fieldref 11 136), (0, .nameAndType 137 19), (0, u "bottomRounds"), (0, .fieldref 11 139), (0, .nameAndType 140 141), (0, u "round"), (0, u "I"), (0, .methodref 11 143), (0, .nameAndType 144 145), (0, u "counter"), (0, u "(II)I"), (0, .methodref 11 147), (0, .nameAndType 148 145), (0, u "newCounter"), (0, .methodref 11 150), (0, .nameAndType 151 145), (0, u "slice"), (0, .methodref 11 153), (0, .nameAndType 154 155), (0, u "link"), (0, u "(II)V"), (3, u "(I)V"), (3, .fieldref 11 164), (0, .nameAndType 165 141), (0, u "freeCounterCount"), (3, .methodref 11 170), (0, .nameAndType 171 155), (0, u "addBottom"), (3, .fieldref 11 176), (0, .nameAndType 177 141), (0, u "counterCount"), (4, .methodref 11 183), (0, .nameAndType 184 145), (0, u "sliceOf"), (0, .fieldref 11 186), (0, .nameAndType 187 141), (0, u "freeSliceCount"), (0, .fieldref 11 189), (0, .nameAndType 190 141), (0, u "sliceCount"), (0, .methodref 11 192), (0, .nameAndType 193 159), (0, u "growKeys"), (0, .methodref 195 196), (0, .class_ 197), (0, .nameAndType 198 145), (0, u "com/example/nequiv/nequiv/Capacity"), (0, u "grown"), (0, .methodref 34 200), (0, .nameAndType 201 202), (0, u "copyOf"), (0, u "([II)[I"), (0, .methodref 34 204), (0, .nameAndType 37 205), (0, u "([IIII)V"), (0, .methodref 34 207), (0, .nameAndType 201 208), (0, u "([ZI)[Z"), (0, u "NONE"), (2, u "FEW"), (5, u "(I)Z"), (1, u "count"), (0, u "(IIII)V"), (9, u "stable"), (7, u "makeBottom")] 4

def k2c0 : Code := { maxStack := 3, maxLocals := 3, code := prog_6_method_1_code, exceptionTable := #[], attributes := #[] }
def k2m0 : Method := { name := "<init>", desc := "(II)V", sig := { parameters := [.int, .int], returnType := none }, accessFlags := 0, code := some k2c0 }
def k2c1 : Code := { maxStack := 5, maxLocals := 6, code := prog_6_method_4_code, exceptionTable := #[], attributes := #[] }
def k2m1 : Method := { name := "count", desc := "(IIII)V", sig := { parameters := [.int, .int, .int, .int], returnType := none }, accessFlags := 0, code := some k2c1 }
def k2c2 : Code := { maxStack := 3, maxLocals := 4, code := prog_6_method_9_code, exceptionTable := #[], attributes := #[] }
def k2m2 : Method := { name := "sliceOf", desc := "(II)I", sig := { parameters := [.int, .int], returnType := some .int }, accessFlags := 0, code := some k2c2 }
def k2c3 : Code := { maxStack := 4, maxLocals := 2, code := prog_6_method_15_code, exceptionTable := #[], attributes := #[] }
def k2m3 : Method := { name := "stable", desc := "(I)Z", sig := { parameters := [.int], returnType := some .boolean }, accessFlags := 0, code := some k2c3 }
def k2c4 : Code := { maxStack := 5, maxLocals := 4, code := prog_6_method_24_code, exceptionTable := #[], attributes := #[] }
def k2m4 : Method := { name := "makeBottom", desc := "(II)V", sig := { parameters := [.int, .int], returnType := none }, accessFlags := 0, code := some k2c4 }
def k2c5 : Code := { maxStack := 4, maxLocals := 3, code := prog_6_method_27_code, exceptionTable := #[], attributes := #[] }
def k2m5 : Method := { name := "addBottom", desc := "(II)V", sig := { parameters := [.int, .int], returnType := none }, accessFlags := 2, code := some k2c5 }
def k2c6 : Code := { maxStack := 3, maxLocals := 4, code := prog_6_method_29_code, exceptionTable := #[], attributes := #[] }
def k2m6 : Method := { name := "counter", desc := "(II)I", sig := { parameters := [.int, .int], returnType := some .int }, accessFlags := 2, code := some k2c6 }
def k2c7 : Code := { maxStack := 4, maxLocals := 5, code := prog_6_method_30_code, exceptionTable := #[], attributes := #[] }
def k2m7 : Method := { name := "newCounter", desc := "(II)I", sig := { parameters := [.int, .int], returnType := some .int }, accessFlags := 2, code := some k2c7 }
def k2c8 : Code := { maxStack := 4, maxLocals := 6, code := prog_6_method_31_code, exceptionTable := #[], attributes := #[] }
def k2m8 : Method := { name := "slice", desc := "(II)I", sig := { parameters := [.int, .int], returnType := some .int }, accessFlags := 2, code := some k2c8 }
def k2c9 : Code := { maxStack := 4, maxLocals := 4, code := prog_6_method_32_code, exceptionTable := #[], attributes := #[] }
def k2m9 : Method := { name := "growKeys", desc := "(I)V", sig := { parameters := [.int], returnType := none }, accessFlags := 2, code := some k2c9 }
def k2c10 : Code := { maxStack := 4, maxLocals := 3, code := prog_6_method_33_code, exceptionTable := #[], attributes := #[] }
def k2m10 : Method := { name := "link", desc := "(II)V", sig := { parameters := [.int, .int], returnType := none }, accessFlags := 2, code := some k2c10 }
/-- com/example/nequiv/nequiv/BlockKeys -/
def k2 : Class := { plain "com/example/nequiv/nequiv/BlockKeys" (some 0) with
  accessFlags := 32
  interfaces := #[]
  cf := some (fileOf pool2 11 #[] #[{ accessFlags := 0, nameIndex := 5, descriptorIndex := 155, attributes := #[] }, { accessFlags := 0, nameIndex := 220, descriptorIndex := 221, attributes := #[] }, { accessFlags := 0, nameIndex := 184, descriptorIndex := 145, attributes := #[] }, { accessFlags := 0, nameIndex := 231, descriptorIndex := 218, attributes := #[] }, { accessFlags := 0, nameIndex := 239, descriptorIndex := 155, attributes := #[] }, { accessFlags := 2, nameIndex := 171, descriptorIndex := 155, attributes := #[] }, { accessFlags := 2, nameIndex := 144, descriptorIndex := 145, attributes := #[] }, { accessFlags := 2, nameIndex := 148, descriptorIndex := 145, attributes := #[] }, { accessFlags := 2, nameIndex := 151, descriptorIndex := 145, attributes := #[] }, { accessFlags := 2, nameIndex := 193, descriptorIndex := 159, attributes := #[] }, { accessFlags := 2, nameIndex := 154, descriptorIndex := 155, attributes := #[] }] 32 2 #[] #[{ accessFlags := 24, nameIndex := 209, descriptorIndex := 141, attributes := #[] }, { accessFlags := 26, nameIndex := 212, descriptorIndex := 141, attributes := #[] }, { accessFlags := 18, nameIndex := 32, descriptorIndex := 19, attributes := #[] }, { accessFlags := 18, nameIndex := 41, descriptorIndex := 19, attributes := #[] }, { accessFlags := 18, nameIndex := 44, descriptorIndex := 19, attributes := #[] }, { accessFlags := 18, nameIndex := 47, descriptorIndex := 19, attributes := #[] }, { accessFlags := 18, nameIndex := 50, descriptorIndex := 19, attributes := #[] }, { accessFlags := 18, nameIndex := 53, descriptorIndex := 19, attributes := #[] }, { accessFlags := 18, nameIndex := 56, descriptorIndex := 19, attributes := #[] }, { accessFlags := 18, nameIndex := 59, descriptorIndex := 19, attributes := #[] }, { accessFlags := 18, nameIndex := 62, descriptorIndex := 19, attributes := #[] }, { accessFlags := 18, nameIndex := 65, descriptorIndex := 19, attributes := #[] }, { accessFlags := 2, nameIndex := 165, descriptorIndex := 141, attributes := #[] }, { accessFlags := 2, nameIndex := 177, descriptorIndex := 141, attributes := #[] }, { accessFlags := 18, nameIndex := 68, descriptorIndex := 19, attributes := #[] }, { accessFlags := 18, nameIndex := 71, descriptorIndex := 19, attributes := #[] }, { accessFlags := 18, nameIndex := 14, descriptorIndex := 15, attributes := #[] }, { accessFlags := 18, nameIndex := 74, descriptorIndex := 29, attributes := #[] }, { accessFlags := 18, nameIndex := 77, descriptorIndex := 19, attributes := #[] }, { accessFlags := 18, nameIndex := 80, descriptorIndex := 19, attributes := #[] }, { accessFlags := 18, nameIndex := 83, descriptorIndex := 19, attributes := #[] }, { accessFlags := 18, nameIndex := 86, descriptorIndex := 19, attributes := #[] }, { accessFlags := 18, nameIndex := 89, descriptorIndex := 19, attributes := #[] }, { accessFlags := 18, nameIndex := 92, descriptorIndex := 19, attributes := #[] }, { accessFlags := 18, nameIndex := 95, descriptorIndex := 19, attributes := #[] }, { accessFlags := 18, nameIndex := 98, descriptorIndex := 19, attributes := #[] }, { accessFlags := 2, nameIndex := 187, descriptorIndex := 141, attributes := #[] }, { accessFlags := 2, nameIndex := 190, descriptorIndex := 141, attributes := #[] }, { accessFlags := 2, nameIndex := 18, descriptorIndex := 19, attributes := #[] }, { accessFlags := 2, nameIndex := 22, descriptorIndex := 19, attributes := #[] }, { accessFlags := 18, nameIndex := 101, descriptorIndex := 19, attributes := #[] }, { accessFlags := 18, nameIndex := 104, descriptorIndex := 19, attributes := #[] }, { accessFlags := 18, nameIndex := 25, descriptorIndex := 15, attributes := #[] }, { accessFlags := 2, nameIndex := 28, descriptorIndex := 29, attributes := #[] }, { accessFlags := 18, nameIndex := 107, descriptorIndex := 19, attributes := #[] }, { accessFlags := 18, nameIndex := 110, descriptorIndex := 19, attributes := #[] }, { accessFlags := 18, nameIndex := 113, descriptorIndex := 19, attributes := #[] }, { accessFlags := 18, nameIndex := 116, descriptorIndex := 19, attributes := #[] }, { accessFlags := 18, nameIndex := 119, descriptorIndex := 19, attributes := #[] }, { accessFlags := 18, nameIndex := 122, descriptorIndex := 19, attributes := #[] }, { accessFlags := 18, nameIndex := 125, descriptorIndex := 19, attributes := #[] }, { accessFlags := 18, nameIndex := 128, descriptorIndex := 19, attributes := #[] }, { accessFlags := 18, nameIndex := 131, descriptorIndex := 19, attributes := #[] }, { accessFlags := 18, nameIndex := 134, descriptorIndex := 29, attributes := #[] }, { accessFlags := 18, nameIndex := 137, descriptorIndex := 19, attributes := #[] }, { accessFlags := 2, nameIndex := 140, descriptorIndex := 141, attributes := #[] }])
  fields := #[{ name := "NONE", type := .int, accessFlags := 24, slot := 0, constantValue := 0 }, { name := "FEW", type := .int, accessFlags := 26, slot := 1, constantValue := 0 }, { name := "stepCounters", type := (.array .int), accessFlags := 18, slot := 0, constantValue := 0 }, { name := "counterNodes", type := (.array .int), accessFlags := 18, slot := 1, constantValue := 0 }, { name := "counterKeys", type := (.array .int), accessFlags := 18, slot := 2, constantValue := 0 }, { name := "counterCounts", type := (.array .int), accessFlags := 18, slot := 3, constantValue := 0 }, { name := "counterSlices", type := (.array .int), accessFlags := 18, slot := 4, constantValue := 0 }, { name := "previousInSlice", type := (.array .int), accessFlags := 18, slot := 5, constantValue := 0 }, { name := "nextInSlice", type := (.array .int), accessFlags := 18, slot := 6, constantValue := 0 }, { name := "previousOfNode", type := (.array .int), accessFlags := 18, slot := 7, constantValue := 0 }, { name := "nextOfNode", type := (.array .int), accessFlags := 18, slot := 8, constantValue := 0 }, { name := "freeCounters", type := (.array .int), accessFlags := 18, slot := 9, constantValue := 0 }, { name := "freeCounterCount", type := .int, accessFlags := 2, slot := 10, constantValue := 0 }, { name := "counterCount", type := .int, accessFlags := 2, slot := 11, constantValue := 0 }, { name := "firstCounters", type := (.array .int), accessFlags := 18, slot := 12, constantValue := 0 }, { name := "keyCounts", type := (.array .int), accessFlags := 18, slot := 13, constantValue := 0 }, { name := "counterTable", type := (.object "com/example/nequiv/nequiv/PairTable"), accessFlags := 18, slot := 14, constantValue := 0 }, { name := "nodesInTable", type := (.array .boolean), accessFlags := 18, slot := 15, constantValue := 0 }, { name := "sliceBlocks", type := (.array .int), accessFlags := 18, slot := 16, constantValue := 0 }, { name := "sliceKeys", type := (.array .int), accessFlags := 18, slot := 17, constantValue := 0 }, { name := "firstInSlice", type := (.array .int), accessFlags := 18, slot := 18, constantValue := 0 }, { name := "sliceSizes", type := (.array .int), accessFlags := 18, slot := 19, constantValue := 0 }, { name := "sliceBottoms", type := (.array .int), accessFlags := 18, slot := 20, constantValue := 0 }, { name := "previousOfBlock", type := (.array .int), accessFlags := 18, slot := 21, constantValue := 0 }, { name := "nextOfBlock", type := (.array .int), accessFlags := 18, slot := 22, constantValue := 0 }, { name := "freeSlices", type := (.array .int), accessFlags := 18, slot := 23, constantValue := 0 }, { name := "freeSliceCount", type := .int, accessFlags := 2, slot := 24, constantValue := 0 }, { name := "sliceCount", type := .int, accessFlags := 2, slot := 25, constantValue := 0 }, { name := "firstSlicesOfKey", type := (.array .int), accessFlags := 2, slot := 26, constantValue := 0 }, { name := "sliceCountsOfKey", type := (.array .int), accessFlags := 2, slot := 27, constantValue := 0 }, { name := "previousOfKey", type := (.array .int), accessFlags := 18, slot := 28, constantValue := 0 }, { name := "nextOfKey", type := (.array .int), accessFlags := 18, slot := 29, constantValue := 0 }, { name := "sliceTable", type := (.object "com/example/nequiv/nequiv/PairTable"), accessFlags := 18, slot := 30, constantValue := 0 }, { name := "keysInTable", type := (.array .boolean), accessFlags := 2, slot := 31, constantValue := 0 }, { name := "firstSlices", type := (.array .int), accessFlags := 18, slot := 32, constantValue := 0 }, { name := "blockKeyCounts", type := (.array .int), accessFlags := 18, slot := 33, constantValue := 0 }, { name := "bottomKeyCounts", type := (.array .int), accessFlags := 18, slot := 34, constantValue := 0 }, { name := "passSlices", type := (.array .int), accessFlags := 18, slot := 35, constantValue := 0 }, { name := "firstBottoms", type := (.array .int), accessFlags := 18, slot := 36, constantValue := 0 }, { name := "lastBottoms", type := (.array .int), accessFlags := 18, slot := 37, constantValue := 0 }, { name := "bottomCounts", type := (.array .int), accessFlags := 18, slot := 38, constantValue := 0 }, { name := "previousBottoms", type := (.array .int), accessFlags := 18, slot := 39, constantValue := 0 }, { name := "nextBottoms", type := (.array .int), accessFlags := 18, slot := 40, constantValue := 0 }, { name := "bottom", type := (.array .boolean), accessFlags := 18, slot := 41, constantValue := 0 }, { name := "bottomRounds", type := (.array .int), accessFlags := 18, slot := 42, constantValue := 0 }, { name := "round", type := .int, accessFlags := 2, slot := 43, constantValue := 0 }]
  methods := #[k2m0, k2m1, k2m2, k2m3, k2m4, k2m5, k2m6, k2m7, k2m8, k2m9, k2m10]
  instanceTypes := #[(.array .int), (.array .int), (.array .int), (.array .int), (.array .int), (.array .int), (.array .int), (.array .int), (.array .int), (.array .int), .int, .int, (.array .int), (.array .int), (.object "com/example/nequiv/nequiv/PairTable"), (.array .boolean), (.array .int), (.array .int), (.array .int), (.array .int), (.array .int), (.array .int), (.array .int), (.array .int), .int, .int, (.array .int), (.array .int), (.array .int), (.array .int), (.object "com/example/nequiv/nequiv/PairTable"), (.array .boolean), (.array .int), (.array .int), (.array .int), (.array .int), (.array .int), (.array .int), (.array .int), (.array .int), (.array .int), (.array .boolean), (.array .int), .int]
  staticTypes := #[.int, .int]
  resolved := Array.replicate 244 none
  statics := none }

def pool3 : Array CpInfo := pool [(1, .methodref 2 3), (0, .class_ 4), (0, .nameAndType 5 6), (0, u "java/lang/Object"), (0, u "<init>"), (0, u "()V"), (0, .fieldref 8 9), (0, .class_ 10), (0, .nameAndType 11 12), (0, u "com/example/nequiv/nequiv/PairTable"), (0, u "bits"), (0, u "I"), (0, .fieldref 8 14), (0, .nameAndType 15 16), (0, u "entries"), (0, u "[J"), (0, .long 18446744073709551615), (1, .methodref 20 21), (0, .class_ 22), (0, .nameAndType 23 24), (0, u "java/util/Arrays"), (0, u "fill"), (0, u "([JJ)V"), (10, u "size"), (18, u "ABSENT"), (2, u "EMPTY"), (0, u "J")] 12

def k3c0 : Code := { maxStack := 3, maxLocals := 1, code := prog_50_method_1_code, exceptionTable := #[], attributes := #[] }
def k3m0 : Method := { name := "<init>", desc := "()V", sig := { parameters := [], returnType := none }, accessFlags := 0, code := some k3c0 }
/-- com/example/nequiv/nequiv/PairTable -/
def k3 : Class := { plain "com/example/nequiv/nequiv/PairTable" (some 0) with
  accessFlags := 32
  interfaces := #[]
  cf := some (fileOf pool3 8 #[] #[{ accessFlags := 0, nameIndex := 5, descriptorIndex := 6, attributes := #[] }] 32 2 #[] #[{ accessFlags := 24, nameIndex := 54, descriptorIndex := 12, attributes := #[] }, { accessFlags := 26, nameIndex := 57, descriptorIndex := 58, attributes := #[] }, { accessFlags := 2, nameIndex := 15, descriptorIndex := 16, attributes := #[] }, { accessFlags := 2, nameIndex := 35, descriptorIndex := 12, attributes := #[] }, { accessFlags := 2, nameIndex := 11, descriptorIndex := 12, attributes := #[] }])
  fields := #[{ name := "ABSENT", type := .int, accessFlags := 24, slot := 0, constantValue := 0 }, { name := "EMPTY", type := .long, accessFlags := 26, slot := 1, constantValue := 0 }, { name := "entries", type := (.array .long), accessFlags := 2, slot := 0, constantValue := 0 }, { name := "size", type := .int, accessFlags := 2, slot := 1, constantValue := 0 }, { name := "bits", type := .int, accessFlags := 2, slot := 2, constantValue := 0 }]
  methods := #[k3m0]
  instanceTypes := #[(.array .long), .int, .int]
  staticTypes := #[.int, .long]
  resolved := Array.replicate 71 none
  statics := none }

def pool4 : Array CpInfo := pool [(2, .class_ 4), (1, u "java/lang/Object"), (0, u "<init>"), (0, u "()V"), (5, u "([IIII)V"), (0, .methodref 14 15), (0, .class_ 16), (0, .nameAndType 17 18), (0, u "java/util/Arrays"), (0, u "rangeCheck"), (0, u "(III)V"), (55, .class_ 76), (1, u "java/util/Arrays$NaturalOrder"), (36, .class_ 115), (1, u "java/util/Arrays$LegacyMergeSort"), (1, u "Z"), (32, .methodref 151 152), (0, .class_ 153), (0, .nameAndType 154 155), (0, u "java/lang/System"), (0, u "arraycopy"), (0, u "(Ljava/lang/Object;ILjava/lang/Object;II)V"), (146, u "copyOf"), (1, .methodref 305 306), (0, .class_ 307), (0, .nameAndType 308 309), (0, u "java/lang/Math"), (0, u "min"), (0, u "(II)I"), (65, .class_ 376), (0, u "java/util/Arrays$ArrayList"), (68, u "$assertionsDisabled"), (269, u "MIN_ARRAY_SORT_GRAN"), (0, u "I"), (2, u "INSERTIONSORT_THRESHOLD"), (120, u "fill"), (0, u "([JJ)V"), (3, u "([II)V"), (25, u "([II)[I"), (4, u "([ZI)[Z"), (98, .class_ 976), (0, u "java/util/Arrays$ArrayItr")] 52

def k4m0 : Method := { name := "<init>", desc := "()V", sig := { parameters := [], returnType := none }, accessFlags := 2, code := none }
def k4c1 : Code := { maxStack := 4, maxLocals := 3, code := jdk_65_method_30_code, exceptionTable := #[], attributes := #[] }
def k4m1 : Method := { name := "rangeCheck", desc := "(III)V", sig := { parameters := [.int, .int, .int], returnType := none }, accessFlags := 8, code := some k4c1 }
def k4c2 : Code := { maxStack := 4, maxLocals := 5, code := jdk_65_method_101_code, exceptionTable := #[], attributes := #[] }
def k4m2 : Method := { name := "fill", desc := "([JJ)V", sig := { parameters := [(.array .long), .long], returnType := none }, accessFlags := 9, code := some k4c2 }
def k4c3 : Code := { maxStack := 3, maxLocals := 4, code := jdk_65_method_103_code, exceptionTable := #[], attributes := #[] }
def k4m3 : Method := { name := "fill", desc := "([II)V", sig := { parameters := [(.array .int), .int], returnType := none }, accessFlags := 9, code := some k4c3 }
def k4c4 : Code := { maxStack := 3, maxLocals := 5, code := jdk_65_method_104_code, exceptionTable := #[], attributes := #[] }
def k4m4 : Method := { name := "fill", desc := "([IIII)V", sig := { parameters := [(.array .int), .int, .int, .int], returnType := none }, accessFlags := 9, code := some k4c4 }
def k4c5 : Code := { maxStack := 6, maxLocals := 3, code := jdk_65_method_123_code, exceptionTable := #[], attributes := #[] }
def k4m5 : Method := { name := "copyOf", desc := "([II)[I", sig := { parameters := [(.array .int), .int], returnType := some (.array .int) }, accessFlags := 9, code := some k4c5 }
def k4c6 : Code := { maxStack := 6, maxLocals := 3, code := jdk_65_method_128_code, exceptionTable := #[], attributes := #[] }
def k4m6 : Method := { name := "copyOf", desc := "([ZI)[Z", sig := { parameters := [(.array .boolean), .int], returnType := some (.array .boolean) }, accessFlags := 9, code := some k4c6 }
/-- java/util/Arrays -/
def k4 : Class := { plain "java/util/Arrays" (some 0) with
  accessFlags := 49
  interfaces := #[]
  cf := some (fileOf pool4 14 #[.nestMembers #[975, 375, 113, 74]] #[{ accessFlags := 2, nameIndex := 5, descriptorIndex := 6, attributes := #[] }, { accessFlags := 8, nameIndex := 17, descriptorIndex := 18, attributes := #[] }, { accessFlags := 9, nameIndex := 840, descriptorIndex := 841, attributes := #[] }, { accessFlags := 9, nameIndex := 840, descriptorIndex := 845, attributes := #[] }, { accessFlags := 9, nameIndex := 840, descriptorIndex := 12, attributes := #[] }, { accessFlags := 9, nameIndex := 302, descriptorIndex := 871, attributes := #[] }, { accessFlags := 9, nameIndex := 302, descriptorIndex := 876, attributes := #[] }] 49 2 #[] #[{ accessFlags := 26, nameIndex := 715, descriptorIndex := 716, attributes := #[] }, { accessFlags := 26, nameIndex := 719, descriptorIndex := 716, attributes := #[] }, { accessFlags := 4120, nameIndex := 445, descriptorIndex := 117, attributes := #[] }])
  fields := #[{ name := "MIN_ARRAY_SORT_GRAN", type := .int, accessFlags := 26, slot := 0, constantValue := 0 }, { name := "INSERTIONSORT_THRESHOLD", type := .int, accessFlags := 26, slot := 1, constantValue := 0 }, { name := "$assertionsDisabled", type := .boolean, accessFlags := 4120, slot := 2, constantValue := 0 }]
  methods := #[k4m0, k4m1, k4m2, k4m3, k4m4, k4m5, k4m6]
  instanceTypes := #[]
  staticTypes := #[.int, .int, .boolean]
  resolved := Array.replicate 1029 none
  statics := none }

def pool5 : Array CpInfo := pool [(4, .class_ 6), (1, u "java/lang/Object"), (0, u "<init>"), (0, u "()V"), (0, .class_ 10), (0, u "com/example/nequiv/nequiv/Capacity"), (0, .integer 2147483639), (7, .long 2), (1, .methodref 22 23), (0, .class_ 24), (0, .nameAndType 25 26), (0, u "java/lang/Math"), (0, u "max"), (0, u "(JJ)J"), (0, .long 2147483639), (1, .methodref 22 30), (0, .nameAndType 31 26), (0, u "min"), (7, u "MAX_LENGTH"), (0, u "I"), (3, u "grown"), (0, u "(II)I")] 5

def k5m0 : Method := { name := "<init>", desc := "()V", sig := { parameters := [], returnType := none }, accessFlags := 2, code := none }
def k5c1 : Code := { maxStack := 4, maxLocals := 2, code := prog_13_method_2_code, exceptionTable := #[], attributes := #[] }
def k5m1 : Method := { name := "grown", desc := "(II)I", sig := { parameters := [.int, .int], returnType := some .int }, accessFlags := 8, code := some k5c1 }
/-- com/example/nequiv/nequiv/Capacity -/
def k5 : Class := { plain "com/example/nequiv/nequiv/Capacity" (some 0) with
  accessFlags := 32
  interfaces := #[]
  cf := some (fileOf pool5 9 #[] #[{ accessFlags := 2, nameIndex := 7, descriptorIndex := 8, attributes := #[] }, { accessFlags := 8, nameIndex := 44, descriptorIndex := 45, attributes := #[] }] 32 4 #[] #[{ accessFlags := 24, nameIndex := 39, descriptorIndex := 40, attributes := #[] }])
  fields := #[{ name := "MAX_LENGTH", type := .int, accessFlags := 24, slot := 0, constantValue := 0 }]
  methods := #[k5m0, k5m1]
  instanceTypes := #[]
  staticTypes := #[.int]
  resolved := Array.replicate 51 none
  statics := none }

def pool6 : Array CpInfo := pool [(1, .class_ 2), (0, u "java/lang/Math"), (1, .class_ 6), (1, u "java/lang/Object"), (0, u "<init>"), (0, u "()V"), (89, .class_ 100), (1, u "java/lang/Math$RandomNumberGeneratorHolder"), (20, u "(JJ)J"), (50, u "negativeZeroFloatBits"), (0, u "J"), (2, u "negativeZeroDoubleBits"), (21, u "max"), (2, u "min"), (43, u "$assertionsDisabled"), (0, u "Z"), (88, u "(II)I"), (2, u "twoToTheDoubleScaleDown"), (0, u "D"), (4, u "twoToTheDoubleScaleUp"), (9, u "E"), (3, u "PI"), (2, u "TAU"), (2, u "DEGREES_TO_RADIANS"), (0, u "RADIANS_TO_DEGREES")] 94

def k6m0 : Method := { name := "<init>", desc := "()V", sig := { parameters := [], returnType := none }, accessFlags := 2, code := none }
def k6c1 : Code := { maxStack := 4, maxLocals := 4, code := jdk_29_method_66_code, exceptionTable := #[], attributes := #[] }
def k6m1 : Method := { name := "max", desc := "(JJ)J", sig := { parameters := [.long, .long], returnType := some .long }, accessFlags := 9, code := some k6c1 }
def k6c2 : Code := { maxStack := 2, maxLocals := 2, code := jdk_29_method_69_code, exceptionTable := #[], attributes := #[] }
def k6m2 : Method := { name := "min", desc := "(II)I", sig := { parameters := [.int, .int], returnType := some .int }, accessFlags := 9, code := some k6c2 }
def k6c3 : Code := { maxStack := 4, maxLocals := 4, code := jdk_29_method_70_code, exceptionTable := #[], attributes := #[] }
def k6m3 : Method := { name := "min", desc := "(JJ)J", sig := { parameters := [.long, .long], returnType := some .long }, accessFlags := 9, code := some k6c3 }
/-- java/lang/Math -/
def k6 : Class := { plain "java/lang/Math" (some 0) with
  accessFlags := 49
  interfaces := #[]
  cf := some (fileOf pool6 1 #[.nestMembers #[98]] #[{ accessFlags := 2, nameIndex := 7, descriptorIndex := 8, attributes := #[] }, { accessFlags := 9, nameIndex := 198, descriptorIndex := 121, attributes := #[] }, { accessFlags := 9, nameIndex := 201, descriptorIndex := 335, attributes := #[] }, { accessFlags := 9, nameIndex := 201, descriptorIndex := 121, attributes := #[] }] 49 4 #[] #[{ accessFlags := 25, nameIndex := 354, descriptorIndex := 339, attributes := #[] }, { accessFlags := 25, nameIndex := 358, descriptorIndex := 339, attributes := #[] }, { accessFlags := 25, nameIndex := 361, descriptorIndex := 339, attributes := #[] }, { accessFlags := 26, nameIndex := 364, descriptorIndex := 339, attributes := #[] }, { accessFlags := 26, nameIndex := 365, descriptorIndex := 339, attributes := #[] }, { accessFlags := 26, nameIndex := 172, descriptorIndex := 173, attributes := #[] }, { accessFlags := 26, nameIndex := 176, descriptorIndex := 173, attributes := #[] }, { accessFlags := 8, nameIndex := 344, descriptorIndex := 339, attributes := #[] }, { accessFlags := 8, nameIndex := 338, descriptorIndex := 339, attributes := #[] }, { accessFlags := 4120, nameIndex := 245, descriptorIndex := 246, attributes := #[] }])
  fields := #[{ name := "E", type := .double, accessFlags := 25, slot := 0, constantValue := 0 }, { name := "PI", type := .double, accessFlags := 25, slot := 1, constantValue := 0 }, { name := "TAU", type := .double, accessFlags := 25, slot := 2, constantValue := 0 }, { name := "DEGREES_TO_RADIANS", type := .double, accessFlags := 26, slot := 3, constantValue := 0 }, { name := "RADIANS_TO_DEGREES", type := .double, accessFlags := 26, slot := 4, constantValue := 0 }, { name := "negativeZeroFloatBits", type := .long, accessFlags := 26, slot := 5, constantValue := 0 }, { name := "negativeZeroDoubleBits", type := .long, accessFlags := 26, slot := 6, constantValue := 0 }, { name := "twoToTheDoubleScaleUp", type := .double, accessFlags := 8, slot := 7, constantValue := 0 }, { name := "twoToTheDoubleScaleDown", type := .double, accessFlags := 8, slot := 8, constantValue := 0 }, { name := "$assertionsDisabled", type := .boolean, accessFlags := 4120, slot := 9, constantValue := 0 }]
  methods := #[k6m0, k6m1, k6m2, k6m3]
  instanceTypes := #[]
  staticTypes := #[.double, .double, .double, .double, .double, .long, .long, .double, .double, .boolean]
  resolved := Array.replicate 460 none
  statics := none }

def pool7 : Array CpInfo := pool [(2, .class_ 4), (1, u "java/lang/Object"), (0, u "<init>"), (0, u "()V"), (1, .class_ 10), (1, u "java/lang/System"), (0, u "allowSecurityManager"), (0, u "I"), (16, u "cons"), (0, u "Ljava/io/Console;"), (77, .class_ 110), (1, u "java/lang/System$CallersHolder"), (43, u "initialErrStream"), (0, u "Ljava/io/PrintStream;"), (19, u "security"), (0, u "Ljava/lang/SecurityManager;"), (31, .class_ 209), (0, u "java/lang/System$1"), (7, u "props"), (0, u "Ljava/util/Properties;"), (2, u "lineSeparator"), (0, u "Ljava/lang/String;"), (96, .class_ 321), (1, u "java/lang/System$LoggerFinder"), (5, .class_ 328), (0, u "java/lang/System$Logger"), (67, u "err"), (2, u "out"), (91, u "notSupportedJnuEncoding"), (15, u "in"), (17, u "initialIn"), (0, u "Ljava/io/InputStream;"), (35, u "bootLayer"), (0, u "Ljava/lang/ModuleLayer;"), (99, .class_ 664), (0, u "java/lang/System$2"), (9, u "NEVER"), (2, u "MAYBE"), (49, u "arraycopy"), (0, u "(Ljava/lang/Object;ILjava/lang/Object;II)V"), (72, .class_ 802), (0, u "java/lang/System$Logger$Level")] 31

def k7m0 : Method := { name := "<init>", desc := "()V", sig := { parameters := [], returnType := none }, accessFlags := 2, code := none }
def k7m1 : Method := { name := "arraycopy", desc := "(Ljava/lang/Object;ILjava/lang/Object;II)V", sig := { parameters := [(.object "java/lang/Object"), .int, (.object "java/lang/Object"), .int, .int], returnType := none }, accessFlags := 265, code := none }
/-- java/lang/System -/
def k7 : Class := { plain "java/lang/System" (some 0) with
  accessFlags := 49
  interfaces := #[]
  cf := some (fileOf pool7 8 #[.nestMembers #[319, 327, 801, 108, 663, 208]] #[{ accessFlags := 2, nameIndex := 5, descriptorIndex := 6, attributes := #[] }, { accessFlags := 265, nameIndex := 727, descriptorIndex := 728, attributes := #[] }] 49 2 #[] #[{ accessFlags := 25, nameIndex := 507, descriptorIndex := 526, attributes := #[] }, { accessFlags := 25, nameIndex := 399, descriptorIndex := 155, attributes := #[] }, { accessFlags := 25, nameIndex := 396, descriptorIndex := 155, attributes := #[] }, { accessFlags := 10, nameIndex := 525, descriptorIndex := 526, attributes := #[] }, { accessFlags := 26, nameIndex := 674, descriptorIndex := 12, attributes := #[] }, { accessFlags := 26, nameIndex := 677, descriptorIndex := 12, attributes := #[] }, { accessFlags := 10, nameIndex := 11, descriptorIndex := 12, attributes := #[] }, { accessFlags := 74, nameIndex := 175, descriptorIndex := 176, attributes := #[] }, { accessFlags := 10, nameIndex := 491, descriptorIndex := 222, attributes := #[] }, { accessFlags := 74, nameIndex := 29, descriptorIndex := 30, attributes := #[] }, { accessFlags := 74, nameIndex := 154, descriptorIndex := 155, attributes := #[] }, { accessFlags := 10, nameIndex := 217, descriptorIndex := 218, attributes := #[] }, { accessFlags := 10, nameIndex := 221, descriptorIndex := 222, attributes := #[] }, { accessFlags := 8, nameIndex := 562, descriptorIndex := 563, attributes := #[] }])
  fields := #[{ name := "in", type := (.object "java/io/InputStream"), accessFlags := 25, slot := 0, constantValue := 0 }, { name := "out", type := (.object "java/io/PrintStream"), accessFlags := 25, slot := 1, constantValue := 0 }, { name := "err", type := (.object "java/io/PrintStream"), accessFlags := 25, slot := 2, constantValue := 0 }, { name := "initialIn", type := (.object "java/io/InputStream"), accessFlags := 10, slot := 3, constantValue := 0 }, { name := "NEVER", type := .int, accessFlags := 26, slot := 4, constantValue := 0 }, { name := "MAYBE", type := .int, accessFlags := 26, slot := 5, constantValue := 0 }, { name := "allowSecurityManager", type := .int, accessFlags := 10, slot := 6, constantValue := 0 }, { name := "security", type := (.object "java/lang/SecurityManager"), accessFlags := 74, slot := 7, constantValue := 0 }, { name := "notSupportedJnuEncoding", type := (.object "java/lang/String"), accessFlags := 10, slot := 8, constantValue := 0 }, { name := "cons", type := (.object "java/io/Console"), accessFlags := 74, slot := 9, constantValue := 0 }, { name := "initialErrStream", type := (.object "java/io/PrintStream"), accessFlags := 74, slot := 10, constantValue := 0 }, { name := "props", type := (.object "java/util/Properties"), accessFlags := 10, slot := 11, constantValue := 0 }, { name := "lineSeparator", type := (.object "java/lang/String"), accessFlags := 10, slot := 12, constantValue := 0 }, { name := "bootLayer", type := (.object "java/lang/ModuleLayer"), accessFlags := 8, slot := 13, constantValue := 0 }]
  methods := #[k7m0, k7m1]
  instanceTypes := #[]
  staticTypes := #[(.object "java/io/InputStream"), (.object "java/io/PrintStream"), (.object "java/io/PrintStream"), (.object "java/io/InputStream"), .int, .int, .int, (.object "java/lang/SecurityManager"), (.object "java/lang/String"), (.object "java/io/Console"), (.object "java/io/PrintStream"), (.object "java/util/Properties"), (.object "java/lang/String"), (.object "java/lang/ModuleLayer")]
  resolved := Array.replicate 834 none
  statics := none }

def pool8 : Array CpInfo := pool [(1, u "java/lang/Cloneable"), (0, .class_ 1), (0, u "java/lang/Object"), (0, .class_ 3)] 3

/-- java/lang/Cloneable -/
def k8 : Class := { plain "java/lang/Cloneable" (some 0) with
  accessFlags := 1537
  interfaces := #[]
  cf := some (fileOf pool8 2 #[] #[] 1537 4 #[] #[])
  fields := #[]
  methods := #[]
  instanceTypes := #[]
  staticTypes := #[]
  resolved := Array.replicate 8 none
  statics := none }

def pool9 : Array CpInfo := pool [(1, u "java/io/Serializable"), (0, .class_ 1), (0, u "java/lang/Object"), (0, .class_ 3)] 3

/-- java/io/Serializable -/
def k9 : Class := { plain "java/io/Serializable" (some 0) with
  accessFlags := 1537
  interfaces := #[]
  cf := some (fileOf pool9 2 #[] #[] 1537 4 #[] #[])
  fields := #[]
  methods := #[]
  instanceTypes := #[]
  staticTypes := #[]
  resolved := Array.replicate 8 none
  statics := none }

/-- the primitive boolean -/
def k10 : Class := { plain "boolean" none with kind := .primitive 'Z', accessFlags := 0x411 }
/-- [Z -/
def k11 : Class := { plain "[Z" (some 0) with kind := .array 10 .boolean, interfaces := #[8, 9], accessFlags := 1041 }

/-- the primitive byte -/
def k12 : Class := { plain "byte" none with kind := .primitive 'B', accessFlags := 0x411 }
/-- [B -/
def k13 : Class := { plain "[B" (some 0) with kind := .array 12 .byte, interfaces := #[8, 9], accessFlags := 1041 }

/-- the primitive int -/
def k14 : Class := { plain "int" none with kind := .primitive 'I', accessFlags := 0x411 }
/-- [I -/
def k15 : Class := { plain "[I" (some 0) with kind := .array 14 .int, interfaces := #[8, 9], accessFlags := 1041 }

/-- the primitive long -/
def k16 : Class := { plain "long" none with kind := .primitive 'J', accessFlags := 0x411 }
/-- [J -/
def k17 : Class := { plain "[J" (some 0) with kind := .array 16 .long, interfaces := #[8, 9], accessFlags := 1041 }

def heap : Heap := #[]
def classes : Array Class := #[k0, k1, k2, k3, k4, k5, k6, k7, k8, k9, k10, k11, k12, k13, k14, k15, k16, k17]
def interned : List (Array UInt16 × Addr) := []
def slotsUsed : Nat := 0
def theMethod : MethodId := ⟨1, 1⟩
def args0 : Array Value := #[.int 5, .int 3, .int 6]
def aboutOver (below : List Frame) : State where
  vm := { classes := classes, interned := interned.toArray }
  heap := heap
  slotsUsed := slotsUsed
  threads := #[{ frames := .invoking theMethod args0 :: below }]
def below0 : List Frame := [.native { method := ⟨0, 0⟩, args := #[] }]
def about1 : State := aboutOver below0
def p0 : Program := .bare "" "" ""
def e0 : Env := launch0.env 0 0 0
theorem w_frames : about1.frames = Frame.invoking theMethod args0 :: below0 := rfl
set_option maxRecDepth 65536 in
theorem w_args : argsFit about1.vm theMethod args0 = true := by decide +kernel
set_option maxRecDepth 65536 in
theorem w_heap : heapFits about1 = true := by decide +kernel
set_option maxRecDepth 65536 in
theorem w_runnable : about1.curStatus? = some .runnable := by decide +kernel
set_option maxRecDepth 65536 in
theorem w_alone : about1.alone = true := by decide +kernel
set_option maxRecDepth 65536 in
theorem w_named : about1.methodNamed? x = some theMethod := by decide +kernel
set_option maxRecDepth 65536 in
theorem w_hears : about1.hears theMethod below0 = true := by decide +kernel
set_option maxRecDepth 65536 in
theorem w_ripe : about1.ripe theMethod args0 below0 = true := by decide +kernel
theorem w_running : about1.status = .running := rfl
set_option maxRecDepth 65536 in
theorem w_room : about1.hasRoom e0.platform room_1 = true :=
  launch0.hasRoom_least _ room_1 (by decide +kernel) (by decide +kernel) (by decide +kernel) (by decide +kernel) (by decide +kernel) (by decide +kernel)
theorem allAtoms_all (ts : List Jvm.Cond) (a : Array Jvm.Value) (st : Jvm.State) : (allAtoms ts).before a st = ts.all (fun c => c.before a st) := by
  induction ts with
  | nil => rfl
  | cons c t ih =>
    show (Jvm.Cond.and c (allAtoms t)).before a st = _
    rw [Jvm.Cond.before_and, ih, List.all_cons]
def words1 : List Jvm.Cond := Jvm.Cond.code x code maxLocals ret :: tables_1
/-- a 'code' word, met by the world's own term for the bytes: nothing is compared byte by byte -/
theorem code_word {y : MethodName} {bytes : ByteArray} {mx : Nat} {rt : Option FieldType} {a : Array Value} {s : State} {m : MethodId} {meth : Method} {c : Code} (h1 : s.methodNamed? y = some m) (h2 : s.vm.method? m = some meth) (h3 : meth.code = some c) (h4 : c.code = bytes)
    (h5 : (c.maxLocals == mx && c.exceptionTable.isEmpty && decide (c.maxStack ≤ mostOperands) && decide (meth.sig.returnType = rt) && !meth.locks && decide (parseMethodDescriptor y.desc = some meth.sig)) = true) : (Jvm.Cond.code y bytes mx rt).before a s = true := by
  simp only [Bool.and_eq_true, beq_iff_eq, Bool.not_eq_true', decide_eq_true_eq] at h5
  obtain ⟨⟨⟨⟨⟨g1, g2⟩, g3⟩, g4⟩, g5⟩, g6⟩ := h5
  simp [Cond.before, Cond.holds, Cond.value, h1, h2, h3, h4, g1, g2, g3, g4, g5, g6]
def isCode : Jvm.Cond → Bool
  | .code _ _ _ _ => true
  | _ => false
theorem all_split {L : List Jvm.Cond} {P : Jvm.Cond → Bool} (h1 : L.all (fun c => isCode c || P c) = true) (h2 : ∀ c ∈ L.filter isCode, P c = true) : L.all P = true := by
  refine List.all_eq_true.mpr fun c hc => ?_
  have h := List.all_eq_true.mp h1 c hc
  rcases Bool.eq_false_or_eq_true (isCode c) with hi | hi
  · exact h2 c (List.mem_filter.mpr ⟨hc, hi⟩)
  · simpa [hi] using h
set_option maxRecDepth 65536 in
theorem w_c0 : (Jvm.Cond.code x code maxLocals ret).before args0 about1 = true := code_word (m := ⟨1, 1⟩) (meth := k1m1) (c := k1c1) (by decide +kernel) rfl rfl rfl (by decide +kernel)
set_option maxRecDepth 65536 in
theorem w_c1 : (Jvm.Cond.code ({ cls := "com/example/nequiv/nequiv/BlockKeys", name := "<init>", desc := "(II)V" } : Jvm.MethodName) prog_6_method_1_code (3 : Nat) (Option.none : Option Jvm.ClassFile.FieldType)).before args0 about1 = true := code_word (m := ⟨2, 0⟩) (meth := k2m0) (c := k2c0) (by decide +kernel) rfl rfl rfl (by decide +kernel)
set_option maxRecDepth 65536 in
theorem w_c2 : (Jvm.Cond.code ({ cls := "java/lang/Object", name := "<init>", desc := "()V" } : Jvm.MethodName) object_method_1_code (1 : Nat) (Option.none : Option Jvm.ClassFile.FieldType)).before args0 about1 = true := code_word (m := ⟨0, 0⟩) (meth := k0m0) (c := k0c0) (by decide +kernel) rfl rfl rfl (by decide +kernel)
set_option maxRecDepth 65536 in
theorem w_c3 : (Jvm.Cond.code ({ cls := "com/example/nequiv/nequiv/PairTable", name := "<init>", desc := "()V" } : Jvm.MethodName) prog_50_method_1_code (1 : Nat) (Option.none : Option Jvm.ClassFile.FieldType)).before args0 about1 = true := code_word (m := ⟨3, 0⟩) (meth := k3m0) (c := k3c0) (by decide +kernel) rfl rfl rfl (by decide +kernel)
set_option maxRecDepth 65536 in
theorem w_c4 : (Jvm.Cond.code ({ cls := "java/util/Arrays", name := "fill", desc := "([JJ)V" } : Jvm.MethodName) jdk_65_method_101_code (5 : Nat) (Option.none : Option Jvm.ClassFile.FieldType)).before args0 about1 = true := code_word (m := ⟨4, 2⟩) (meth := k4m2) (c := k4c2) (by decide +kernel) rfl rfl rfl (by decide +kernel)
set_option maxRecDepth 65536 in
theorem w_c5 : (Jvm.Cond.code ({ cls := "java/util/Arrays", name := "fill", desc := "([II)V" } : Jvm.MethodName) jdk_65_method_103_code (4 : Nat) (Option.none : Option Jvm.ClassFile.FieldType)).before args0 about1 = true := code_word (m := ⟨4, 3⟩) (meth := k4m3) (c := k4c3) (by decide +kernel) rfl rfl rfl (by decide +kernel)
set_option maxRecDepth 65536 in
theorem w_c6 : (Jvm.Cond.code ({ cls := "com/example/nequiv/nequiv/BlockKeys", name := "count", desc := "(IIII)V" } : Jvm.MethodName) prog_6_method_4_code (6 : Nat) (Option.none : Option Jvm.ClassFile.FieldType)).before args0 about1 = true := code_word (m := ⟨2, 1⟩) (meth := k2m1) (c := k2c1) (by decide +kernel) rfl rfl rfl (by decide +kernel)
set_option maxRecDepth 65536 in
theorem w_c7 : (Jvm.Cond.code ({ cls := "com/example/nequiv/nequiv/BlockKeys", name := "counter", desc := "(II)I" } : Jvm.MethodName) prog_6_method_29_code (4 : Nat) (Option.some Jvm.ClassFile.FieldType.int)).before args0 about1 = true := code_word (m := ⟨2, 6⟩) (meth := k2m6) (c := k2c6) (by decide +kernel) rfl rfl rfl (by decide +kernel)
set_option maxRecDepth 65536 in
theorem w_c8 : (Jvm.Cond.code ({ cls := "com/example/nequiv/nequiv/BlockKeys", name := "newCounter", desc := "(II)I" } : Jvm.MethodName) prog_6_method_30_code (5 : Nat) (Option.some Jvm.ClassFile.FieldType.int)).before args0 about1 = true := code_word (m := ⟨2, 7⟩) (meth := k2m7) (c := k2c7) (by decide +kernel) rfl rfl rfl (by decide +kernel)
set_option maxRecDepth 65536 in
theorem w_c9 : (Jvm.Cond.code ({ cls := "com/example/nequiv/nequiv/BlockKeys", name := "slice", desc := "(II)I" } : Jvm.MethodName) prog_6_method_31_code (6 : Nat) (Option.some Jvm.ClassFile.FieldType.int)).before args0 about1 = true := code_word (m := ⟨2, 8⟩) (meth := k2m8) (c := k2c8) (by decide +kernel) rfl rfl rfl (by decide +kernel)
set_option maxRecDepth 65536 in
theorem w_c10 : (Jvm.Cond.code ({ cls := "com/example/nequiv/nequiv/BlockKeys", name := "sliceOf", desc := "(II)I" } : Jvm.MethodName) prog_6_method_9_code (4 : Nat) (Option.some Jvm.ClassFile.FieldType.int)).before args0 about1 = true := code_word (m := ⟨2, 2⟩) (meth := k2m2) (c := k2c2) (by decide +kernel) rfl rfl rfl (by decide +kernel)
set_option maxRecDepth 65536 in
theorem w_c11 : (Jvm.Cond.code ({ cls := "com/example/nequiv/nequiv/BlockKeys", name := "growKeys", desc := "(I)V" } : Jvm.MethodName) prog_6_method_32_code (4 : Nat) (Option.none : Option Jvm.ClassFile.FieldType)).before args0 about1 = true := code_word (m := ⟨2, 9⟩) (meth := k2m9) (c := k2c9) (by decide +kernel) rfl rfl rfl (by decide +kernel)
set_option maxRecDepth 65536 in
theorem w_c12 : (Jvm.Cond.code ({ cls := "com/example/nequiv/nequiv/Capacity", name := "grown", desc := "(II)I" } : Jvm.MethodName) prog_13_method_2_code (2 : Nat) (Option.some Jvm.ClassFile.FieldType.int)).before args0 about1 = true := code_word (m := ⟨5, 1⟩) (meth := k5m1) (c := k5c1) (by decide +kernel) rfl rfl rfl (by decide +kernel)
set_option maxRecDepth 65536 in
theorem w_c13 : (Jvm.Cond.code ({ cls := "java/lang/Math", name := "max", desc := "(JJ)J" } : Jvm.MethodName) jdk_29_method_66_code (4 : Nat) (Option.some Jvm.ClassFile.FieldType.long)).before args0 about1 = true := code_word (m := ⟨6, 1⟩) (meth := k6m1) (c := k6c1) (by decide +kernel) rfl rfl rfl (by decide +kernel)
set_option maxRecDepth 65536 in
theorem w_c14 : (Jvm.Cond.code ({ cls := "java/lang/Math", name := "min", desc := "(JJ)J" } : Jvm.MethodName) jdk_29_method_70_code (4 : Nat) (Option.some Jvm.ClassFile.FieldType.long)).before args0 about1 = true := code_word (m := ⟨6, 3⟩) (meth := k6m3) (c := k6c3) (by decide +kernel) rfl rfl rfl (by decide +kernel)
set_option maxRecDepth 65536 in
theorem w_c15 : (Jvm.Cond.code ({ cls := "java/util/Arrays", name := "copyOf", desc := "([II)[I" } : Jvm.MethodName) jdk_65_method_123_code (3 : Nat) (Option.some (Jvm.ClassFile.FieldType.array Jvm.ClassFile.FieldType.int))).before args0 about1 = true := code_word (m := ⟨4, 5⟩) (meth := k4m5) (c := k4c5) (by decide +kernel) rfl rfl rfl (by decide +kernel)
set_option maxRecDepth 65536 in
theorem w_c16 : (Jvm.Cond.code ({ cls := "java/lang/Math", name := "min", desc := "(II)I" } : Jvm.MethodName) jdk_29_method_69_code (2 : Nat) (Option.some Jvm.ClassFile.FieldType.int)).before args0 about1 = true := code_word (m := ⟨6, 2⟩) (meth := k6m2) (c := k6c2) (by decide +kernel) rfl rfl rfl (by decide +kernel)
set_option maxRecDepth 65536 in
theorem w_c17 : (Jvm.Cond.code ({ cls := "java/util/Arrays", name := "fill", desc := "([IIII)V" } : Jvm.MethodName) jdk_65_method_104_code (5 : Nat) (Option.none : Option Jvm.ClassFile.FieldType)).before args0 about1 = true := code_word (m := ⟨4, 4⟩) (meth := k4m4) (c := k4c4) (by decide +kernel) rfl rfl rfl (by decide +kernel)
set_option maxRecDepth 65536 in
theorem w_c18 : (Jvm.Cond.code ({ cls := "java/util/Arrays", name := "rangeCheck", desc := "(III)V" } : Jvm.MethodName) jdk_65_method_30_code (3 : Nat) (Option.none : Option Jvm.ClassFile.FieldType)).before args0 about1 = true := code_word (m := ⟨4, 1⟩) (meth := k4m1) (c := k4c1) (by decide +kernel) rfl rfl rfl (by decide +kernel)
set_option maxRecDepth 65536 in
theorem w_c19 : (Jvm.Cond.code ({ cls := "java/util/Arrays", name := "copyOf", desc := "([ZI)[Z" } : Jvm.MethodName) jdk_65_method_128_code (3 : Nat) (Option.some (Jvm.ClassFile.FieldType.array Jvm.ClassFile.FieldType.boolean))).before args0 about1 = true := code_word (m := ⟨4, 6⟩) (meth := k4m6) (c := k4c6) (by decide +kernel) rfl rfl rfl (by decide +kernel)
set_option maxRecDepth 65536 in
theorem w_c20 : (Jvm.Cond.code ({ cls := "com/example/nequiv/nequiv/BlockKeys", name := "link", desc := "(II)V" } : Jvm.MethodName) prog_6_method_33_code (3 : Nat) (Option.none : Option Jvm.ClassFile.FieldType)).before args0 about1 = true := code_word (m := ⟨2, 10⟩) (meth := k2m10) (c := k2c10) (by decide +kernel) rfl rfl rfl (by decide +kernel)
set_option maxRecDepth 65536 in
theorem w_c21 : (Jvm.Cond.code ({ cls := "com/example/nequiv/nequiv/BlockKeys", name := "makeBottom", desc := "(II)V" } : Jvm.MethodName) prog_6_method_24_code (4 : Nat) (Option.none : Option Jvm.ClassFile.FieldType)).before args0 about1 = true := code_word (m := ⟨2, 4⟩) (meth := k2m4) (c := k2c4) (by decide +kernel) rfl rfl rfl (by decide +kernel)
set_option maxRecDepth 65536 in
theorem w_c22 : (Jvm.Cond.code ({ cls := "com/example/nequiv/nequiv/BlockKeys", name := "addBottom", desc := "(II)V" } : Jvm.MethodName) prog_6_method_27_code (3 : Nat) (Option.none : Option Jvm.ClassFile.FieldType)).before args0 about1 = true := code_word (m := ⟨2, 5⟩) (meth := k2m5) (c := k2c5) (by decide +kernel) rfl rfl rfl (by decide +kernel)
set_option maxRecDepth 65536 in
theorem w_c23 : (Jvm.Cond.code ({ cls := "com/example/nequiv/nequiv/BlockKeys", name := "stable", desc := "(I)Z" } : Jvm.MethodName) prog_6_method_15_code (2 : Nat) (Option.some Jvm.ClassFile.FieldType.boolean)).before args0 about1 = true := code_word (m := ⟨2, 3⟩) (meth := k2m3) (c := k2c3) (by decide +kernel) rfl rfl rfl (by decide +kernel)
def codes1 : List Jvm.Cond := [Jvm.Cond.code x code maxLocals ret, Jvm.Cond.code ({ cls := "com/example/nequiv/nequiv/BlockKeys", name := "<init>", desc := "(II)V" } : Jvm.MethodName) prog_6_method_1_code (3 : Nat) (Option.none : Option Jvm.ClassFile.FieldType), Jvm.Cond.code ({ cls := "java/lang/Object", name := "<init>", desc := "()V" } : Jvm.MethodName) object_method_1_code (1 : Nat) (Option.none : Option Jvm.ClassFile.FieldType), Jvm.Cond.code ({ cls := "com/example/nequiv/nequiv/PairTable", name := "<init>", desc := "()V" } : Jvm.MethodName) prog_50_method_1_code (1 : Nat) (Option.none : Option Jvm.ClassFile.FieldType), Jvm.Cond.code ({ cls := "java/util/Arrays", name := "fill", desc := "([JJ)V" } : Jvm.MethodName) jdk_65_method_101_code (5 : Nat) (Option.none : Option Jvm.ClassFile.FieldType), Jvm.Cond.code ({ cls := "java/util/Arrays", name := "fill", desc := "([II)V" } : Jvm.MethodName) jdk_65_method_103_code (4 : Nat) (Option.none : Option Jvm.ClassFile.FieldType), Jvm.Cond.code ({ cls := "com/example/nequiv/nequiv/BlockKeys", name := "count", desc := "(IIII)V" } : Jvm.MethodName) prog_6_method_4_code (6 : Nat) (Option.none : Option Jvm.ClassFile.FieldType), Jvm.Cond.code ({ cls := "com/example/nequiv/nequiv/BlockKeys", name := "counter", desc := "(II)I" } : Jvm.MethodName) prog_6_method_29_code (4 : Nat) (Option.some Jvm.ClassFile.FieldType.int), Jvm.Cond.code ({ cls := "com/example/nequiv/nequiv/BlockKeys", name := "newCounter", desc := "(II)I" } : Jvm.MethodName) prog_6_method_30_code (5 : Nat) (Option.some Jvm.ClassFile.FieldType.int), Jvm.Cond.code ({ cls := "com/example/nequiv/nequiv/BlockKeys", name := "slice", desc := "(II)I" } : Jvm.MethodName) prog_6_method_31_code (6 : Nat) (Option.some Jvm.ClassFile.FieldType.int), Jvm.Cond.code ({ cls := "com/example/nequiv/nequiv/BlockKeys", name := "sliceOf", desc := "(II)I" } : Jvm.MethodName) prog_6_method_9_code (4 : Nat) (Option.some Jvm.ClassFile.FieldType.int), Jvm.Cond.code ({ cls := "com/example/nequiv/nequiv/BlockKeys", name := "growKeys", desc := "(I)V" } : Jvm.MethodName) prog_6_method_32_code (4 : Nat) (Option.none : Option Jvm.ClassFile.FieldType), Jvm.Cond.code ({ cls := "com/example/nequiv/nequiv/Capacity", name := "grown", desc := "(II)I" } : Jvm.MethodName) prog_13_method_2_code (2 : Nat) (Option.some Jvm.ClassFile.FieldType.int), Jvm.Cond.code ({ cls := "java/lang/Math", name := "max", desc := "(JJ)J" } : Jvm.MethodName) jdk_29_method_66_code (4 : Nat) (Option.some Jvm.ClassFile.FieldType.long), Jvm.Cond.code ({ cls := "java/lang/Math", name := "min", desc := "(JJ)J" } : Jvm.MethodName) jdk_29_method_70_code (4 : Nat) (Option.some Jvm.ClassFile.FieldType.long), Jvm.Cond.code ({ cls := "java/util/Arrays", name := "copyOf", desc := "([II)[I" } : Jvm.MethodName) jdk_65_method_123_code (3 : Nat) (Option.some (Jvm.ClassFile.FieldType.array Jvm.ClassFile.FieldType.int)), Jvm.Cond.code ({ cls := "java/lang/Math", name := "min", desc := "(II)I" } : Jvm.MethodName) jdk_29_method_69_code (2 : Nat) (Option.some Jvm.ClassFile.FieldType.int), Jvm.Cond.code ({ cls := "java/util/Arrays", name := "fill", desc := "([IIII)V" } : Jvm.MethodName) jdk_65_method_104_code (5 : Nat) (Option.none : Option Jvm.ClassFile.FieldType), Jvm.Cond.code ({ cls := "java/util/Arrays", name := "rangeCheck", desc := "(III)V" } : Jvm.MethodName) jdk_65_method_30_code (3 : Nat) (Option.none : Option Jvm.ClassFile.FieldType), Jvm.Cond.code ({ cls := "java/util/Arrays", name := "copyOf", desc := "([ZI)[Z" } : Jvm.MethodName) jdk_65_method_128_code (3 : Nat) (Option.some (Jvm.ClassFile.FieldType.array Jvm.ClassFile.FieldType.boolean)), Jvm.Cond.code ({ cls := "com/example/nequiv/nequiv/BlockKeys", name := "link", desc := "(II)V" } : Jvm.MethodName) prog_6_method_33_code (3 : Nat) (Option.none : Option Jvm.ClassFile.FieldType), Jvm.Cond.code ({ cls := "com/example/nequiv/nequiv/BlockKeys", name := "makeBottom", desc := "(II)V" } : Jvm.MethodName) prog_6_method_24_code (4 : Nat) (Option.none : Option Jvm.ClassFile.FieldType), Jvm.Cond.code ({ cls := "com/example/nequiv/nequiv/BlockKeys", name := "addBottom", desc := "(II)V" } : Jvm.MethodName) prog_6_method_27_code (3 : Nat) (Option.none : Option Jvm.ClassFile.FieldType), Jvm.Cond.code ({ cls := "com/example/nequiv/nequiv/BlockKeys", name := "stable", desc := "(I)Z" } : Jvm.MethodName) prog_6_method_15_code (2 : Nat) (Option.some Jvm.ClassFile.FieldType.boolean)]
set_option maxRecDepth 65536 in
theorem codes_eq : words1.filter isCode = codes1 := rfl
theorem w_codes : ∀ c ∈ words1.filter isCode, c.before args0 about1 = true := by
  rw [codes_eq]
  intro c hc
  simp only [codes1, List.mem_cons, List.not_mem_nil, or_false] at hc
  rcases hc with rfl | rfl | rfl | rfl | rfl | rfl | rfl | rfl | rfl | rfl | rfl | rfl | rfl | rfl | rfl | rfl | rfl | rfl | rfl | rfl | rfl | rfl | rfl | rfl
  · exact w_c0
  · exact w_c1
  · exact w_c2
  · exact w_c3
  · exact w_c4
  · exact w_c5
  · exact w_c6
  · exact w_c7
  · exact w_c8
  · exact w_c9
  · exact w_c10
  · exact w_c11
  · exact w_c12
  · exact w_c13
  · exact w_c14
  · exact w_c15
  · exact w_c16
  · exact w_c17
  · exact w_c18
  · exact w_c19
  · exact w_c20
  · exact w_c21
  · exact w_c22
  · exact w_c23
set_option maxRecDepth 65536 in
theorem w_t1 : (words1.take 24).all (fun c => isCode c || c.before args0 about1) = true := by decide +kernel
set_option maxRecDepth 65536 in
theorem w_t2 : ((words1.drop 24).take 24).all (fun c => isCode c || c.before args0 about1) = true := by decide +kernel
set_option maxRecDepth 65536 in
theorem w_t3 : (((words1.drop 24).drop 24).take 24).all (fun c => isCode c || c.before args0 about1) = true := by decide +kernel
set_option maxRecDepth 65536 in
theorem w_t4 : ((((words1.drop 24).drop 24).drop 24).take 24).all (fun c => isCode c || c.before args0 about1) = true := by decide +kernel
set_option maxRecDepth 65536 in
theorem w_t5 : (((((words1.drop 24).drop 24).drop 24).drop 24).take 24).all (fun c => isCode c || c.before args0 about1) = true := by decide +kernel
set_option maxRecDepth 65536 in
theorem w_t6 : ((((((words1.drop 24).drop 24).drop 24).drop 24).drop 24).take 24).all (fun c => isCode c || c.before args0 about1) = true := by decide +kernel
set_option maxRecDepth 65536 in
theorem w_t7 : (((((((words1.drop 24).drop 24).drop 24).drop 24).drop 24).drop 24).take 24).all (fun c => isCode c || c.before args0 about1) = true := by decide +kernel
set_option maxRecDepth 65536 in
theorem w_t8 : ((((((((words1.drop 24).drop 24).drop 24).drop 24).drop 24).drop 24).drop 24).take 24).all (fun c => isCode c || c.before args0 about1) = true := by decide +kernel
set_option maxRecDepth 65536 in
theorem w_t9 : ((((((((words1.drop 24).drop 24).drop 24).drop 24).drop 24).drop 24).drop 24).drop 24).all (fun c => isCode c || c.before args0 about1) = true := by decide +kernel
theorem w_tables : (allAtoms (Jvm.Cond.code x code maxLocals ret :: tables_1)).before args0 about1 = true := by
  rw [allAtoms_all]
  show words1.all (fun c => c.before args0 about1) = true
  refine all_split ?_ w_codes
  rw [← List.take_append_drop 24 words1, List.all_append, w_t1, ← List.take_append_drop 24 (words1.drop 24), List.all_append, w_t2, ← List.take_append_drop 24 ((words1.drop 24).drop 24), List.all_append, w_t3, ← List.take_append_drop 24 (((words1.drop 24).drop 24).drop 24), List.all_append, w_t4, ← List.take_append_drop 24 ((((words1.drop 24).drop 24).drop 24).drop 24), List.all_append, w_t5, ← List.take_append_drop 24 (((((words1.drop 24).drop 24).drop 24).drop 24).drop 24), List.all_append, w_t6, ← List.take_append_drop 24 ((((((words1.drop 24).drop 24).drop 24).drop 24).drop 24).drop 24), List.all_append, w_t7, ← List.take_append_drop 24 (((((((words1.drop 24).drop 24).drop 24).drop 24).drop 24).drop 24).drop 24), List.all_append, w_t8, w_t9]
  rfl
set_option maxRecDepth 65536 in
theorem w_case : (Jvm.Cond.and given_1 narrow_1).before args0 about1 = true := by decide +kernel
theorem w_applies : (headSpec (Jvm.Cond.code x code maxLocals ret :: tables_1) room_1).applies x e0.platform about1 = true :=
  (Spec.applies_iff w_frames).mpr ⟨w_running, w_runnable, w_alone, w_named, w_hears, w_ripe, w_room, w_tables⟩
theorem atStart : AtStart classFile x code maxLocals ret World_1 tables_1 room_1 Calls_1 rest_1 Pre_1 launch0 p0 e0 about1 theMethod args0 below0 :=
  ⟨lists_1, trivial, launch0.admits_env _ _ _, launch0.least_env, fairChoices_fair.cas, fairChoices_fair.clock, w_frames, w_args, w_heap, w_applies, trivial, trivial, w_case⟩
end start1
theorem witness_1 : WitnessClaimed_1 := ⟨start1.p0, start1.e0, start1.about1, start1.theMethod, start1.args0, start1.below0, start1.atStart⟩
end Jvm.Pilot.@@N@@
