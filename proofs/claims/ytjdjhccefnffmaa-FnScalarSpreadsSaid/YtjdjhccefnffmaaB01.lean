import Derived.Tactics
import Derived.StillTail
import Derived.WalkKit
import Derived.Laws.Externs
import Derived.Below
import Derived.WalkLawsBesides
set_option linter.unusedVariables false
set_option linter.unusedSimpArgs false
namespace Go.Proofs.Ytjdjhccefnffmaa.LX
open Go

/-- A value that is known: a number, a symbol, a place, a pair. -/
inductive SV where
  | k (kd : IntKind) (n : Nat)
  | s (kd : IntKind) (e : Nat)
  | p (r off : Nat)
  | t (x y : SV)

/-- What a symbol is. -/
inductive FnS where
  | mulhi (x y : SV)
  | mullo (x y : SV)
  | addlo (x y c : SV)
  | addc (x y c : SV)
  | sublo (x y c : SV)
  | subb (x y c : SV)
  | bin (op : BinOp) (kd : IntKind) (x y : SV)
  | neg (kd : IntKind) (x : SV)
  | conv (kd : IntKind) (x : SV)
  | cmov (c x y : SV)

def num (ρ : Nat → Nat) : SV → Nat
  | .k _ n => n
  | .s _ e => ρ e
  | _ => 0

def two64 : Nat := 18446744073709551616

def binv (op : BinOp) (kd : IntKind) (x y : Nat) : Nat :=
  match op with
  | .add => (x + y) % 2 ^ kd.bits
  | .mul => (x * y) % 2 ^ kd.bits
  | .and => x &&& y
  | .or => x ||| y
  | .xor => x ^^^ y
  | .shl => (x * 2 ^ y) % 2 ^ kd.bits
  | .shr => x / 2 ^ y
  | _ => 0

def FnS.ev (ρ : Nat → Nat) : FnS → Nat
  | .mulhi x y => num ρ x * num ρ y / two64
  | .mullo x y => num ρ x * num ρ y % two64
  | .addlo x y c => (num ρ x + num ρ y + num ρ c) % two64
  | .addc x y c => (num ρ x + num ρ y + num ρ c) / two64
  | .sublo x y c => (num ρ x + two64 - num ρ y - num ρ c) % two64
  | .subb x y c => if num ρ x < num ρ y + num ρ c then 1 else 0
  | .bin op kd x y => binv op kd (num ρ x) (num ρ y)
  | .neg kd x => 2 ^ kd.bits - 1 - num ρ x
  | .conv kd x => num ρ x % 2 ^ kd.bits
  | .cmov c x y => if num ρ c = 0 then num ρ x else num ρ y

def den (B : Nat → Nat × Nat) (ρ : Nat → Nat) : SV → Value
  | .k kd n => .int kd (n : Int)
  | .s kd e => .int kd (ρ e : Int)
  | .p r off => .pointer (some ⟨(B r).1, (B r).2 + off, none⟩)
  | .t x y => .tuple #[den B ρ x, den B ρ y]

/-- In range. -/
def ok (ρ : Nat → Nat) : SV → Prop
  | .k kd n => n < 2 ^ kd.bits
  | .s kd e => ρ e < 2 ^ kd.bits
  | .p _ _ => True
  | .t x y => ok ρ x ∧ ok ρ y

structure Env where
  arr : List (TypeId × Nat)
  ints : List (TypeId × IntKind)
  mul : FuncId
  add : FuncId
  sub : FuncId
  cmov : FuncId

def lkN {α : Type} : List (Nat × α) → Nat → Option α
  | [], _ => none
  | (k, v) :: l, t => bif Nat.beq k t then some v else lkN l t

def lkM {α : Type} : List ((Nat × Nat) × α) → Nat → Nat → Option α
  | [], _, _ => none
  | (k, v) :: l, r, o => bif Nat.beq k.1 r && Nat.beq k.2 o then some v else lkM l r o

structure St where
  tm : List (Nat × SV)
  nx : Nat
  defs : List (Nat × FnS)
  mem : List ((Nat × Nat) × SV)
  nl : Nat
  bits : List Nat

/-- External regions, the length of the first one (which may be written), slots. -/
structure Cfg where
  ne : Nat
  len : Nat
  nt : Nat

def opd (st : St) : Operand → Option SV
  | .tmp t => lkN st.tm t
  | .const (.int kd (.ofNat n)) => bif Nat.blt n (2 ^ kd.bits) then some (.k kd n) else none
  | _ => none

def mem1 : List Nat → Nat → Bool
  | [], _ => false
  | a :: l, n => Nat.beq a n || mem1 l n

/-- Is it 0 or 1? -/
def bit (st : St) : SV → Bool
  | .k _ n => Nat.ble n 1
  | .s _ e => mem1 st.bits e
  | _ => false

def isU64 : SV → Bool
  | .k .u64 _ | .s .u64 _ => true
  | _ => false
def isU8 : SV → Bool
  | .k .u8 _ | .s .u8 _ => true
  | _ => false

/-- What an operation yields that leaves the world alone: its value, the new symbols, and which of these are 0 or 1. -/
structure Got where
  v : SV
  fs : List FnS
  bs : List Nat

def plain (v : SV) : Option Got := some ⟨v, [], []⟩

def kindOf (l : List (TypeId × IntKind)) (t : TypeId) : Option IntKind := lkN l t

def unsigned : IntKind → Bool
  | .u64 | .u8 => true
  | _ => false

/-- Both of this kind? -/
def isK (kd : IntKind) : SV → Bool
  | .k k' _ | .s k' _ => match kd, k' with
    | .u64, .u64 => true
    | .u8, .u8 => true
    | _, _ => false
  | _ => false

def kOf : SV → Option IntKind
  | .k .u64 _ | .s .u64 _ => some .u64
  | .k .u8 _ | .s .u8 _ => some .u8
  | _ => none

def convGot (st : St) (kb : IntKind) (v : SV) : Option Got :=
  match kOf v with
  | some .u64 => match kb with
    | .u64 => plain v
    | .u8 => some ⟨.s .u8 st.nx, [.conv .u8 v], []⟩
    | _ => none
  | some .u8 => match kb with
    | .u8 => plain v
    | .u64 => match v with
      | .s _ e => plain (.s .u64 e)
      | _ => none
    | _ => none
  | _ => none

def shiftGot (st : St) (op : BinOp) (kd : IntKind) (a : SV) : SV → Option Got
  | .k .u64 n => bif Nat.blt n kd.bits then some ⟨.s kd st.nx, [.bin op kd a (.k .u64 n)], []⟩ else none
  | _ => none

def stillOp (E : Env) (st : St) (o : Oper) : Option Got :=
  match o.op with
  | .move x | .assign x => match opd st x with | some v => plain v | none => none
  | .nilCheck x => match opd st x with | some (.p r off) => plain (.p r off) | _ => none
  | .indexAddr t x i => match opd st x, opd st i, lkN E.arr t with
    | some (.p r off), some (.k .i64 n), some len => bif Nat.blt n len then plain (.p r (off + n)) else none
    | _, _, _ => none
  | .load t x => match opd st x, lkN E.ints t with
    | some (.p r off), some _ => match lkM st.mem r off with | some v => plain v | none => none
    | _, _ => none
  | .extract x i => match opd st x with
    | some (.t a b) => match i with | 0 => plain a | 1 => plain b | _ => none
    | _ => none
  | .convert a b x => match opd st x, lkN E.ints a, lkN E.ints b with
    | some v, some _, some kb => convGot st kb v
    | _, _, _ => none
  | .binOp op _ x y _ => match opd st x, opd st y with
    | some a, some b => match kOf a with
      | some kd => match op with
        | .add | .mul | .and | .or | .xor => bif isK kd b then some ⟨.s kd st.nx, [.bin op kd a b], []⟩ else none
        | .shl | .shr => shiftGot st op kd a b
        | _ => none
      | none => none
    | _, _ => none
  | .unOp .xor _ x => match opd st x with
    | some a => match kOf a with
      | some kd => some ⟨.s kd st.nx, [.neg kd a], []⟩
      | none => none
    | none => none
  | .call c => match c.callee with
    | .value (.func f) => match c.args.toList with
      | [x, y] => match opd st x, opd st y with
        | some a, some b => bif Nat.beq f E.mul && isU64 a && isU64 b then some ⟨.t (.s .u64 st.nx) (.s .u64 (st.nx + 1)), [.mulhi a b, .mullo a b], []⟩ else none
        | _, _ => none
      | [x, y, z] => match opd st x, opd st y, opd st z with
        | some a, some b, some d => bif isU64 a && isU64 b && isU64 d && bit st d then
            bif Nat.beq f E.add then some ⟨.t (.s .u64 st.nx) (.s .u64 (st.nx + 1)), [.addlo a b d, .addc a b d], [st.nx + 1]⟩
            else bif Nat.beq f E.sub then some ⟨.t (.s .u64 st.nx) (.s .u64 (st.nx + 1)), [.sublo a b d, .subb a b d], [st.nx + 1]⟩ else none
          else none
        | _, _, _ => none
      | _ => none
    | _ => none
  | _ => none

def zipFrom (n : Nat) : List FnS → List (Nat × FnS)
  | [] => []
  | f :: l => (n, f) :: zipFrom (n + 1) l

def St.put (c : Cfg) (st : St) (dst : Option Tmp) (g : Got) : Option St :=
  match dst with
  | some d => bif Nat.blt d c.nt then
      some { st with tm := (d, g.v) :: st.tm, nx := st.nx + g.fs.length, defs := zipFrom st.nx g.fs ++ st.defs, bits := g.bs ++ st.bits } else none
  | none => none

def far (ne : Nat) (e : (Nat × Nat) × SV) : Bool := Nat.beq e.1.1 0 || Nat.ble ne e.1.1

/-- A store, a new variable, a conditional move into a variable. -/
def tailOp (E : Env) (c : Cfg) (st : St) (o : Oper) : Option St :=
  match o.op with
  | .store t x y => match o.dst, opd st x, opd st y, lkN E.ints t with
    | none, some (.p r off), some v, some kd =>
      bif isK kd v && (lkM st.mem r off).isSome then
        bif Nat.ble c.ne r then some { st with mem := ((r, off), v) :: st.mem }
        else bif Nat.beq r 0 && Nat.blt off c.len then some { st with mem := ((r, off), v) :: st.mem.filter (far c.ne) } else none
      else none
    | _, _, _, _ => none
  | .alloc t => match o.dst, lkN E.ints t with
    | some d, some kd => bif Nat.blt d c.nt && unsigned kd then
        some { st with tm := (d, .p (c.ne + st.nl) 0) :: st.tm, mem := ((c.ne + st.nl, 0), .k kd 0) :: st.mem, nl := st.nl + 1 } else none
    | _, _ => none
  | .call k => match k.callee, o.dst with
    | .value (.func f), some d => match k.args.toList with
      | [x, z, a, b] => match opd st x, opd st z, opd st a, opd st b with
        | some (.p r off), some cz, some va, some vb =>
          bif Nat.beq f E.cmov && Nat.ble c.ne r && (lkM st.mem r off).isSome && isU64 cz && bit st cz && isU64 va && isU64 vb && Nat.blt d c.nt then
            some { st with mem := ((r, off), .s .u64 st.nx) :: st.mem, nx := st.nx + 1, defs := (st.nx, .cmov cz va vb) :: st.defs, tm := st.tm.filter fun e => !Nat.beq e.1 d } else none
        | _, _, _, _ => none
      | _ => none
    | _, _ => none
  | _ => none

def noGuard (o : Oper) : Bool := match o.guard with | none => true | some _ => false

def stepOp (E : Env) (c : Cfg) (st : St) (o : Oper) : Option St :=
  bif noGuard o then
    match stillOp E st o with
    | some g => st.put c o.dst g
    | none => tailOp E c st o
  else none

def execL (E : Env) (c : Cfg) : List Oper → St → Option St
  | [], st => some st
  | o :: l, st => match stepOp E c st o with | some st' => execL E c l st' | none => none

/-- How many operations leave the world alone, from the first one on. -/
def heads (E : Env) (c : Cfg) : List Oper → St → Nat
  | [], _ => 0
  | o :: l, st => bif noGuard o then match stillOp E st o with
      | some g => match st.put c o.dst g with | some st' => heads E c l st' + 1 | none => 0
      | none => 0
    else 0

def drawOk (E : Env) (c : Cfg) (ops : List Oper) (st : St) : Bool :=
  bif Nat.beq (heads E c ops st) ops.length then Region.lexB .any ops.toArray else Region.lexTailB .any ops.toArray (heads E c ops st)

inductive Out where
  | on
  | ret

def exec (E : Env) (c : Cfg) : Code → St → Option (Out × St)
  | .skip, st => some (.on, st)
  | .ret, st => some (.ret, st)
  | .region _ ops d, st => bif d && !drawOk E c ops.toList st then none else match execL E c ops.toList st with | some st' => some (.on, st') | none => none
  | .seq x y, st => match exec E c x st with
    | some (.on, st') => exec E c y st'
    | r => r
  | _, _ => none
end Go.Proofs.Ytjdjhccefnffmaa.LX
namespace Go.Proofs.Ytjdjhccefnffmaa.LX
open Go

/-- Nothing that was there has turned, but (it may be) the cells of S. -/
structure Kp (S : Nat → Nat → Prop) (w w' : World) : Prop where
  os : w'.os = w.os
  tape : w'.tape = w.tape
  output : w'.output = w.output
  size : w.heap.size ≤ w'.heap.size
  block : ∀ k, k < w.heap.size → (∀ o, ¬ S k o) → w'.heap[k]? = w.heap[k]?
  cell : ∀ k o, k < w.heap.size → ¬ S k o → w'.cell? ⟨k, o, none⟩ = w.cell? ⟨k, o, none⟩
  frozen : ∀ k o, k < w.heap.size → w'.frozen? ⟨k, o, none⟩ = w.frozen? ⟨k, o, none⟩
  shape : ∀ k, k < w.heap.size → w'.shape? k = w.shape? k

theorem Kp.refl (S : Nat → Nat → Prop) (w : World) : Kp S w w :=
  ⟨rfl, rfl, rfl, Nat.le_refl _, fun _ _ _ => rfl, fun _ _ _ _ => rfl, fun _ _ _ => rfl, fun _ _ => rfl⟩

theorem Kp.trans {S T U : Nat → Nat → Prop} {a b c : World} (h : Kp S a b) (k : Kp T b c) (hS : ∀ x o, x < a.heap.size → S x o → U x o) (hT : ∀ x o, x < a.heap.size → T x o → U x o) : Kp U a c :=
  ⟨k.os.trans h.os, k.tape.trans h.tape, k.output.trans h.output, Nat.le_trans h.size k.size,
    fun x hx hU => (k.block x (Nat.lt_of_lt_of_le hx h.size) fun o ho => hU o (hT x o hx ho)).trans (h.block x hx fun o ho => hU o (hS x o hx ho)),
    fun x o hx hU => (k.cell x o (Nat.lt_of_lt_of_le hx h.size) fun ho => hU (hT x o hx ho)).trans (h.cell x o hx fun ho => hU (hS x o hx ho)),
    fun x o hx => (k.frozen x o (Nat.lt_of_lt_of_le hx h.size)).trans (h.frozen x o hx),
    fun x hx => (k.shape x (Nat.lt_of_lt_of_le hx h.size)).trans (h.shape x hx)⟩

theorem Kp.drew {S : Nat → Nat → Prop} {a b : World} (h : Kp S a b) : Kp S a b.drew :=
  ⟨h.os, h.tape, h.output, h.size, h.block, h.cell, h.frozen, h.shape⟩

theorem Kp.alloc {S : Nat → Nat → Prop} {a b : World} (h : Kp S a b) (o : Obj) : Kp S a (b.alloc o) := by
  have e : ∀ k, k < a.heap.size → (b.alloc o).heap[k]? = b.heap[k]? := fun k hk => Go.RowKit.Below.heap_alloc b o k (Nat.lt_of_lt_of_le hk h.size)
  refine ⟨h.os, h.tape, h.output, by simp; exact Nat.le_succ_of_le h.size, fun k hk hS => (e k hk).trans (h.block k hk hS), fun k q hk hS => ?_, fun k q hk => ?_, fun k hk => ?_⟩
  · rw [← h.cell k q hk hS]; simp only [World.cell?, e k hk]
  · rw [← h.frozen k q hk]; simp only [World.frozen?, e k hk]
  · rw [← h.shape k hk]; simp only [World.shape?, e k hk]

theorem shape_setCell (w : World) (a : Addr) (v : Value) (k : Nat) : (w.setCell a v).shape? k = w.shape? k := by
  simp only [World.shape?, World.setCell, Array.getElem?_modify]
  by_cases h : a.block = k
  · rw [if_pos h]
    cases hb : w.heap[k]? with
    | none => rfl
    | some o => cases o <;> simp only [Option.map_some]; split <;> simp
  · rw [if_neg h]

theorem Kp.setCell {S : Nat → Nat → Prop} {a b : World} (h : Kp S a b) {k o : Nat} (v : Value) (hS : k < a.heap.size → S k o) : Kp S a (b.setCell ⟨k, o, none⟩ v) := by
  refine ⟨h.os, h.tape, h.output, by simpa using h.size, fun x hx hU => ?_, fun x q hx hU => ?_, fun x q hx => ?_, fun x hx => ?_⟩
  · have hne : x ≠ k := fun e => hU o (e ▸ hS (e ▸ hx))
    rw [Go.RowKit.Below.heap_setCell b ⟨k, o, none⟩ v x hne]; exact h.block x hx hU
  · have hne : (⟨k, o, none⟩ : Addr) ≠ ⟨x, q, none⟩ := fun e => by
      simp only [Addr.mk.injEq] at e
      obtain ⟨rfl, rfl, -⟩ := e
      exact hU (hS hx)
    rw [World.cell?_setCell_other _ _ _ _ hne]; exact h.cell x q hx hU
  · rw [World.frozen?_setCell]; exact h.frozen x q hx
  · rw [shape_setCell]; exact h.shape x hx

def Cel (w : World) (b o : Nat) (v : Value) : Prop := w.cell? ⟨b, o, none⟩ = some v ∧ w.frozen? ⟨b, o, none⟩ = false

theorem Cel.lt {w : World} {b o : Nat} {v : Value} (h : Cel w b o v) : b < w.heap.size := World.block_lt_of_cell? _ ⟨b, o, none⟩ h.1

theorem Cel.kp {S : Nat → Nat → Prop} {w w' : World} {b o : Nat} {v : Value} (h : Cel w b o v) (hk : Kp S w w') (hS : ¬ S b o) : Cel w' b o v :=
  ⟨(hk.cell b o h.lt hS).trans h.1, (hk.frozen b o h.lt).trans h.2⟩

theorem Cel.set_other {w : World} {b o : Nat} {v : Value} (h : Cel w b o v) {b' o' : Nat} (hne : b' ≠ b ∨ o' ≠ o) (u : Value) : Cel (w.setCell ⟨b', o', none⟩ u) b o v := by
  refine ⟨?_, by rw [World.frozen?_setCell]; exact h.2⟩
  rw [World.cell?_setCell_other _ _ _ _ (fun e => ?_)]
  · exact h.1
  · simp only [Addr.mk.injEq] at e; rcases hne with h | h <;> simp_all

theorem Cel.set_same {w : World} {b o : Nat} {v : Value} (h : Cel w b o v) (u : Value) : Cel (w.setCell ⟨b, o, none⟩ u) b o u :=
  ⟨World.cell?_setCell_same _ _ _ h.1, by rw [World.frozen?_setCell]; exact h.2⟩

theorem Cel.alloc {w : World} {b o : Nat} {v : Value} (h : Cel w b o v) (x : Obj) : Cel (w.alloc x) b o v :=
  ⟨(World.cell?_alloc_lt _ _ ⟨b, o, none⟩ h.lt).trans h.1, (World.frozen?_alloc_old _ _ ⟨b, o, none⟩ (Nat.ne_of_lt h.lt)).trans h.2⟩

theorem Cel.new (w : World) (c : Array Value) (t : TypeId) (i : Nat) (v : Value) (h : c[i]? = some v) : Cel (w.alloc (.cells c t)) w.heap.size i v :=
  ⟨by rw [World.cell?_alloc_new]; exact h, by simp⟩

/-- Where a region lies: those that came in by 'ext', the others one block each from h on. -/
def base (ext : Nat → Nat × Nat) (ne h : Nat) (r : Nat) : Nat × Nat := if r < ne then ext r else (h + (r - ne), 0)

/-- What the environment's numbers mean in the program. -/
structure Env.Holds (E : Env) (P : Program) : Prop where
  wide : P.follows .mixedOrders = true
  arr : ∀ t n, lkN E.arr t = some n → ∃ e, P.underlying t = some (.array n e) ∧ (P.info? e).map (·.size) = some 1
  ints : ∀ t k, lkN E.ints t = some k → P.underlying t = some (.int k) ∧ (P.info? t).map (fun i => (i.size, i.zero)) = some (1, some (.int k 0))
  mul : (∀ x y w, (callFunc E.mul #[.int .u64 x, .int .u64 y]).run P w = .ok (.enter E.mul #[.int .u64 x, .int .u64 y]) w) ∧
    ∀ (x y : Nat) (w : World), x < two64 → y < two64 → Calls P E.mul #[.int .u64 (x : Int), .int .u64 (y : Int)] w fun e w' =>
      e = .returned (.tuple #[.int .u64 ((x * y / two64 : Nat) : Int), .int .u64 ((x * y % two64 : Nat) : Int)]) ∧ w' = w
  add : ∀ (x y c : Nat) (w : World), c ≤ 1 → (callFunc E.add #[.int .u64 (x : Int), .int .u64 (y : Int), .int .u64 (c : Int)]).run P w =
      .ok (.value (.tuple #[.int .u64 (((x + y + c) % two64 : Nat) : Int), .int .u64 (((x + y + c) / two64 : Nat) : Int)])) w
  sub : ∀ (x y c : Nat) (w : World), c ≤ 1 → (callFunc E.sub #[.int .u64 (x : Int), .int .u64 (y : Int), .int .u64 (c : Int)]).run P w =
      .ok (.value (.tuple #[.int .u64 (((x + two64 - y - c) % two64 : Nat) : Int), .int .u64 ((if x < y + c then 1 else 0 : Nat) : Int)])) w
  cmov : (∀ v c x y w, (callFunc E.cmov #[.pointer v, .int .u64 c, .int .u64 x, .int .u64 y]).run P w = .ok (.enter E.cmov #[.pointer v, .int .u64 c, .int .u64 x, .int .u64 y]) w) ∧
    ∀ (b o c x y : Nat) (v : Value) (w : World), Cel w b o v → c ≤ 1 → x < two64 → y < two64 → Calls P E.cmov #[.pointer (some ⟨b, o, none⟩), .int .u64 (c : Int), .int .u64 (x : Int), .int .u64 (y : Int)] w fun e w' =>
      e = .returned (.tuple #[]) ∧ w' = w.setCell ⟨b, o, none⟩ (.int .u64 ((if c = 0 then x else y : Nat) : Int))

theorem Env.Holds.arr' {E : Env} {P : Program} (h : E.Holds P) (t n : Nat) (hl : lkN E.arr t = some n) : ∃ e i, P.underlying t = some (.array n e) ∧ P.info? e = some i ∧ i.size = 1 := by
  obtain ⟨e, h1, h2⟩ := h.arr t n hl
  obtain ⟨i, h3, h4⟩ := Option.map_eq_some_iff.1 h2
  exact ⟨e, i, h1, h3, h4⟩

theorem Env.Holds.ints' {E : Env} {P : Program} (h : E.Holds P) (t : Nat) (k : IntKind) (hl : lkN E.ints t = some k) : P.underlying t = some (.int k) ∧ ∃ i, P.info? t = some i ∧ i.size = 1 ∧ i.zero = some (.int k 0) := by
  obtain ⟨h1, h2⟩ := h.ints t k hl
  obtain ⟨i, h3, h4⟩ := Option.map_eq_some_iff.1 h2
  simp only [Prod.mk.injEq] at h4
  exact ⟨h1, i, h3, h4.1, h4.2⟩

structure Rel (c : Cfg) (w0 : World) (ρ : Nat → Nat) (ext : Nat → Nat × Nat) (st : St) (a : Act) (w : World) : Prop where
  size : a.tmps.size = c.nt
  defers : a.defers = []
  tm : ∀ t v, lkN st.tm t = some v → a.tmps.getD t undef = den (base ext c.ne w0.heap.size) ρ v ∧ ok ρ v
  heap : w.heap.size = w0.heap.size + st.nl
  mem : ∀ r o v, lkM st.mem r o = some v → Cel w (base ext c.ne w0.heap.size r).1 ((base ext c.ne w0.heap.size r).2 + o) (den (base ext c.ne w0.heap.size) ρ v) ∧ ok ρ v ∧ r < c.ne + st.nl
  bits : ∀ e, mem1 st.bits e = true → ρ e ≤ 1
  kp : Kp (fun k o => k = (ext 0).1 ∧ (ext 0).2 ≤ o ∧ o < (ext 0).2 + c.len) w0 w
  old : ∀ r, r < c.ne → (ext r).1 < w0.heap.size

/-- The symbols are what their definitions say. -/
def Fits (ρ : Nat → Nat) (defs : List (Nat × FnS)) : Prop := ∀ e f, (e, f) ∈ defs → ρ e = f.ev ρ

theorem pow_u64 : 2 ^ IntKind.u64.bits = two64 := rfl
theorem pow_u8 : 2 ^ IntKind.u8.bits = 256 := rfl

theorem wrap_u64 (n : Int) : IntKind.u64.wrap n = n % 18446744073709551616 := IntKind.wrap_u64 n
theorem wrap_u8 (n : Int) : IntKind.u8.wrap n = n % 256 := by simp [IntKind.wrap, IntKind.bits, IntKind.signed]

theorem kOf_some {v : SV} {kd : IntKind} (h : kOf v = some kd) (B : Nat → Nat × Nat) (ρ : Nat → Nat) : den B ρ v = .int kd (num ρ v : Int) ∧ (ok ρ v → num ρ v < 2 ^ kd.bits) ∧ (kd = .u64 ∨ kd = .u8) := by
  unfold kOf at h
  split at h <;> first | (cases h; exact ⟨rfl, fun h => h, .inl rfl⟩) | (cases h; exact ⟨rfl, fun h => h, .inr rfl⟩) | cases h

theorem isK_some {v : SV} {kd : IntKind} (h : isK kd v = true) (B : Nat → Nat × Nat) (ρ : Nat → Nat) : den B ρ v = .int kd (num ρ v : Int) ∧ (ok ρ v → num ρ v < 2 ^ kd.bits) := by
  unfold isK at h
  split at h
  · split at h <;> first | exact ⟨rfl, fun h => h⟩ | cases h
  · split at h <;> first | exact ⟨rfl, fun h => h⟩ | cases h
  · cases h

theorem isU64_some {v : SV} (h : isU64 v = true) (B : Nat → Nat × Nat) (ρ : Nat → Nat) : den B ρ v = .int .u64 (num ρ v : Int) ∧ (ok ρ v → num ρ v < two64) := by
  unfold isU64 at h
  split at h <;> first | exact ⟨rfl, fun h => h⟩ | cases h

theorem bit_some {st : St} {ρ : Nat → Nat} {v : SV} (hb : ∀ e, mem1 st.bits e = true → ρ e ≤ 1) (h : bit st v = true) : num ρ v ≤ 1 := by
  unfold bit at h
  split at h
  · exact Nat.le_of_ble_eq_true h
  · exact hb _ h
  · cases h

theorem binv_lt {op : BinOp} {kd : IntKind} {x y : Nat} (hx : x < 2 ^ kd.bits) (hy : y < 2 ^ kd.bits ∨ op = .shl ∨ op = .shr) : binv op kd x y < 2 ^ kd.bits := by
  have hp : 0 < 2 ^ kd.bits := Nat.pow_pos (by omega)
  cases op <;> simp only [binv] <;> first | exact Nat.mod_lt _ hp | exact hp | exact Nat.lt_of_le_of_lt (Nat.div_le_self _ _) hx | (rcases hy with h | h | h; (first | exact Nat.and_lt_two_pow _ h | exact Nat.or_lt_two_pow hx h | exact Nat.xor_lt_two_pow hx h); cases h; cases h)

section
variable {P : Program} {w : World}

theorem wrapN (kd : IntKind) (hk : kd = .u64 ∨ kd = .u8) (n : Nat) (h : n < 2 ^ kd.bits) : kd.wrap (n : Int) = n := by
  rcases hk with rfl | rfl
  · rw [wrap_u64]; rw [pow_u64] at h; unfold two64 at h; omega
  · rw [wrap_u8]; rw [pow_u8] at h; omega

theorem run_bin (op : BinOp) (t : TypeId) (kd : IntKind) (hk : kd = .u64 ∨ kd = .u8) (x y : Nat) (hx : x < 2 ^ kd.bits) (hy : y < 2 ^ kd.bits) (ho : op = .add ∨ op = .mul ∨ op = .and ∨ op = .or ∨ op = .xor) :
    (binOp op t (.int kd x) (.int kd y)).run P w = .ok (.int kd (binv op kd x y : Nat)) w := by
  rcases ho with rfl | rfl | rfl | rfl | rfl
  · simp only [binOp, Op.intArith, binv]
    rcases hk with rfl | rfl
    · simp [wrap_u64, IntKind.bits]
    · simp [wrap_u8, IntKind.bits]
  · simp only [binOp, Op.intArith, binv]
    rcases hk with rfl | rfl
    · simp [wrap_u64, IntKind.bits]
    · simp [wrap_u8, IntKind.bits]
  · simp [binOp, Op.intBits, binv, Nat.mod_eq_of_lt hx, Nat.mod_eq_of_lt hy]; exact wrapN kd hk _ (Nat.and_lt_two_pow _ hy)
  · simp [binOp, Op.intBits, binv, Nat.mod_eq_of_lt hx, Nat.mod_eq_of_lt hy]; exact wrapN kd hk _ (Nat.or_lt_two_pow hx hy)
  · simp [binOp, Op.intBits, binv, Nat.mod_eq_of_lt hx, Nat.mod_eq_of_lt hy]; exact wrapN kd hk _ (Nat.xor_lt_two_pow hx hy)

theorem run_shift (op : BinOp) (t : TypeId) (kd : IntKind) (hk : kd = .u64 ∨ kd = .u8) (x y : Nat) (hx : x < 2 ^ kd.bits) (hy : y < kd.bits) (ho : op = .shl ∨ op = .shr) :
    (binOp op t (.int kd x) (.int .u64 y)).run P w = .ok (.int kd (binv op kd x y : Nat)) w := by
  have hm : min ((y : Int).toNat) kd.bits = y := by simp; omega
  have h0 : ¬ ((y : Int) < 0) := by omega
  rcases ho with rfl | rfl
  · simp only [binOp, Op.shift, binv, if_neg h0, hm, Sem.run_pure]
    congr 2
    rcases hk with rfl | rfl
    · rw [wrap_u64]; simp [IntKind.bits]
    · rw [wrap_u8]; simp [IntKind.bits]
  · simp only [binOp, Op.shift, binv, if_neg h0, hm, Sem.run_pure]
    congr 2
    rw [Int.fdiv_eq_ediv_of_nonneg _ (Int.pow_nonneg (by omega))]
    simp
end
end Go.Proofs.Ytjdjhccefnffmaa.LX
namespace Go.Proofs.Ytjdjhccefnffmaa.LX
open Go
variable {P : Program} {E : Env} {c : Cfg} {w0 w : World} {ρ : Nat → Nat} {ext : Nat → Nat × Nat} {st : St} {a : Act} {o : Oper}

def SO (P : Program) (o : Oper) (a : Act) (w : World) (V : Value) : Prop :=
  (execOp a.eval o).run P w = .ok (.value V) w ∨
  ∃ f args, (execOp a.eval o).run P w = .ok (.enter f args) w ∧ Calls P f args w fun e w' => e = .returned V ∧ w' = w

theorem opd_some (hR : Rel c w0 ρ ext st a w) {x : Operand} {v : SV} (h : opd st x = some v) : a.eval x = den (base ext c.ne w0.heap.size) ρ v ∧ ok ρ v := by
  cases x with
  | tmp t => exact hR.tm t v h
  | const u =>
    cases u <;> try cases h
    rename_i kd n
    cases n with
    | negSucc n => cases h
    | ofNat n =>
      simp only [opd] at h
      cases hb : Nat.blt n (2 ^ kd.bits) with
      | false => rw [hb] at h; cases h
      | true => rw [hb] at h; cases h; exact ⟨rfl, (by simpa using hb : n < 2 ^ kd.bits)⟩
  | global g => cases h
  | func f => cases h

theorem exec_move {x : Operand} (ho : o.op = .move x ∨ o.op = .assign x) : (execOp a.eval o).run P w = .ok (.value (a.eval x)) w := by
  rcases ho with ho | ho <;> simp [execOp, ho]

theorem run_sizeOf {t : TypeId} {i : TypeInfo} (h : P.info? t = some i) : (Go.sizeOf t).run P w = .ok i.size w := by
  simp [Go.sizeOf, typeInfo, h]

theorem run_indexAt {t : TypeId} {n : Nat} {e : TypeId} {i : TypeInfo} (h : P.underlying t = some (.array n e)) (hi : P.info? e = some i) (hs : i.size = 1) (b o k : Nat) (hk : k < n) :
    (Instr.indexAt t (.pointer (some ⟨b, o, none⟩)) (.int .i64 (k : Int))).run P w = .ok (.pointer (some ⟨b, o + k, none⟩)) w := by
  have hk' : (0 : Int) ≤ (k : Int) ∧ (k : Int) < (n : Int) := by omega
  simp [Instr.indexAt, asIntOf, run_underlying h, Instr.sureAddr, hk', run_sizeOf hi, hs, Go.Addr.add_lit]
  intro h; omega

theorem run_loadAt {t : TypeId} {kd : IntKind} (h : P.underlying t = some (.int kd)) {b o : Nat} {v : Value} (hc : w.cell? ⟨b, o, none⟩ = some v) :
    (Instr.loadAt t (.pointer (some ⟨b, o, none⟩))).run P w = .ok v w := by
  simp [Instr.loadAt, Instr.sureAddr, loadVar, isAgg, run_underlying h, hc]

theorem zip_mem (n : Nat) (f : FnS) (l : List FnS) : (n, f) ∈ zipFrom n (f :: l) := by simp [zipFrom]
theorem zip_mem2 (n : Nat) (f g : FnS) (l : List FnS) : (n + 1, g) ∈ zipFrom n (f :: g :: l) := by simp [zipFrom]

theorem exec_call {f : FuncId} {k : Call} (ho : o.op = .call k) (hc : k.callee = .value (.func f)) : (execOp a.eval o).run P w = (callFunc f (k.args.map a.eval)).run P w := by
  simp [execOp, ho, resolve, hc, Act.eval, Deferred.ofValue, invoke]

theorem blt_lt {m n : Nat} (h : Nat.blt m n = true) : m < n := by simpa using h
theorem beq_eq {m n : Nat} (h : Nat.beq m n = true) : m = n := by simpa using h
theorem ble_le {m n : Nat} (h : Nat.ble m n = true) : m ≤ n := by simpa using h

theorem carry_le {x y c : Nat} (hx : x < two64) (hy : y < two64) (hc : c ≤ 1) : (x + y + c) / two64 ≤ 1 := by
  unfold two64 at *; omega

/-- An operation that leaves the world alone yields what was told of it. -/
theorem still_sound (hE : E.Holds P) (hR : Rel c w0 ρ ext st a w) {g : Got} (h : stillOp E st o = some g) (hf : Fits ρ (zipFrom st.nx g.fs)) :
    SO P o a w (den (base ext c.ne w0.heap.size) ρ g.v) ∧ ok ρ g.v ∧ ∀ e, mem1 g.bs e = true → ρ e ≤ 1 := by
  have nobit : ∀ e, mem1 [] e = true → ρ e ≤ 1 := fun e h => by cases h
  unfold stillOp at h
  split at h
  -- move
  · rename_i x ho
    split at h
    · rename_i v hv
      cases h
      obtain ⟨h1, h2⟩ := opd_some hR hv
      exact ⟨.inl (by rw [exec_move (.inl ho), h1]), h2, nobit⟩
    · cases h
  · rename_i x ho
    split at h
    · rename_i v hv
      cases h
      obtain ⟨h1, h2⟩ := opd_some hR hv
      exact ⟨.inl (by rw [exec_move (.inr ho), h1]), h2, nobit⟩
    · cases h
  -- nilCheck
  · rename_i x ho
    split at h
    · rename_i r off hv
      cases h
      obtain ⟨h1, h2⟩ := opd_some hR hv
      exact ⟨.inl (by simp [execOp, ho, h1, den]), trivial, nobit⟩
    · cases h
  -- indexAddr
  · rename_i t x i ho
    split at h
    · rename_i r off n len hx hi hl
      cases hb : Nat.blt n len with
      | false => rw [hb] at h; cases h
      | true =>
        rw [hb] at h; cases h
        obtain ⟨h1, h2⟩ := opd_some hR hx
        obtain ⟨h3, h4⟩ := opd_some hR hi
        obtain ⟨e, inf, hu, hinf, hs⟩ := hE.arr' t len hl
        refine ⟨.inl ?_, trivial, nobit⟩
        simp only [execOp, ho, h1, h3, den]
        have := run_indexAt (w := w) hu hinf hs (base ext c.ne w0.heap.size r).1 ((base ext c.ne w0.heap.size r).2 + off) n (blt_lt hb)
        simp [this, Nat.add_assoc]
    · cases h
  -- load
  · rename_i t x ho
    split at h
    · rename_i r off kd hx hk
      split at h
      · rename_i v hv
        cases h
        obtain ⟨h1, h2⟩ := opd_some hR hx
        obtain ⟨hc, hok, -⟩ := hR.mem r off v hv
        refine ⟨.inl ?_, hok, nobit⟩
        simp only [execOp, ho, h1, den]
        simp [run_loadAt (hE.ints' t kd hk).1 hc.1]
      · cases h
    · cases h
  -- extract
  · rename_i x i ho
    split at h
    · rename_i u v hx
      obtain ⟨h1, h2⟩ := opd_some hR hx
      split at h
      · cases h
        exact ⟨.inl (by simp [execOp, ho, h1, den, Instr.extract]), h2.1, nobit⟩
      · cases h
        exact ⟨.inl (by simp [execOp, ho, h1, den, Instr.extract]), h2.2, nobit⟩
      · cases h
    · cases h
  -- convert
  · rename_i ta tb x ho
    split at h
    · rename_i v ka kb hx ha hb
      obtain ⟨h1, h2⟩ := opd_some hR hx
      have hu := (hE.ints' ta ka ha).1
      have hv := (hE.ints' tb kb hb).1
      have hrun : ∀ kd n, a.eval x = .int kd n → (execOp a.eval o).run P w = .ok (.value (.int kb (kb.wrap n))) w := fun kd n he => by
        simp only [execOp, ho, he]
        simp [convert, run_underlying hu, run_underlying hv, Conv.intToInt]
      unfold convGot at h
      split at h
      · rename_i hk
        obtain ⟨d1, d2, -⟩ := kOf_some hk (base ext c.ne w0.heap.size) ρ
        split at h
        · cases h
          refine ⟨.inl ?_, h2, nobit⟩
          rw [hrun .u64 (num ρ v) (h1.trans d1), d1, wrapN .u64 (.inl rfl) _ (d2 h2)]
        · cases h
          have hfe := hf st.nx _ (zip_mem _ _ _)
          have hlt : ρ st.nx < 2 ^ IntKind.u8.bits := by rw [hfe]; exact Nat.mod_lt _ (by decide)
          refine ⟨.inl ?_, hlt, nobit⟩
          rw [hrun .u64 _ (h1.trans d1), wrap_u8]
          show _ = Result.ok (Next.value (.int .u8 (ρ st.nx : Int))) w
          rw [hfe]; simp [FnS.ev, IntKind.bits]
        · cases h
      · rename_i hk
        obtain ⟨d1, d2, -⟩ := kOf_some hk (base ext c.ne w0.heap.size) ρ
        split at h
        · cases h
          refine ⟨.inl ?_, h2, nobit⟩
          rw [hrun .u8 (num ρ v) (h1.trans d1), d1, wrapN .u8 (.inr rfl) _ (d2 h2)]
        · split at h
          · rename_i kk e
            cases h
            have hlt := d2 h2
            rw [pow_u8] at hlt
            have hlt' : num ρ (.s kk e) < 2 ^ IntKind.u64.bits := by rw [pow_u64]; unfold two64; omega
            refine ⟨.inl ?_, hlt', nobit⟩
            rw [hrun .u8 _ (h1.trans d1), wrapN .u64 (.inl rfl) _ hlt']; rfl
          · cases h
        · cases h
      · cases h
    · cases h
  -- binOp
  · rename_i op t x y ty ho
    split at h
    · rename_i u v hx hy
      obtain ⟨h1, h2⟩ := opd_some hR hx
      obtain ⟨h3, h4⟩ := opd_some hR hy
      split at h
      · rename_i kd hk
        obtain ⟨d1, d2, hkd⟩ := kOf_some hk (base ext c.ne w0.heap.size) ρ
        have main : (op = .add ∨ op = .mul ∨ op = .and ∨ op = .or ∨ op = .xor) → (bif isK kd v then some (⟨.s kd st.nx, [.bin op kd u v], []⟩ : Got) else none) = some g →
            SO P o a w (den (base ext c.ne w0.heap.size) ρ g.v) ∧ ok ρ g.v ∧ ∀ e, mem1 g.bs e = true → ρ e ≤ 1 := fun hop h => by
          cases hi : isK kd v with
          | false => rw [hi] at h; cases h
          | true =>
            rw [hi] at h; cases h
            obtain ⟨e1, e2⟩ := isK_some hi (base ext c.ne w0.heap.size) ρ
            have hfe := hf st.nx _ (zip_mem _ _ _)
            have hg : eqGuard op t x y (a.eval x) (a.eval y) = pure () := by rw [h1, d1]; rcases hop with rfl | rfl | rfl | rfl | rfl <;> rfl
            refine ⟨.inl ?_, ?_, nobit⟩
            · simp only [execOp, ho, hg]
              simp only [h1, h3, d1, e1]
              simp [run_bin op t kd hkd (num ρ u) (num ρ v) (d2 h2) (e2 h4) hop]
              show _ = Value.int kd (ρ st.nx : Int)
              rw [hfe]; rfl
            · show ρ st.nx < _
              rw [hfe]; exact binv_lt (d2 h2) (.inl (e2 h4))
        have main2 : (op = .shl ∨ op = .shr) → shiftGot st op kd u v = some g →
            SO P o a w (den (base ext c.ne w0.heap.size) ρ g.v) ∧ ok ρ g.v ∧ ∀ e, mem1 g.bs e = true → ρ e ≤ 1 := fun hop h' => by
          unfold shiftGot at h'
          split at h'
          · rename_i n
            cases hb : Nat.blt n kd.bits with
            | false => rw [hb] at h'; cases h'
            | true =>
              rw [hb] at h'; cases h'
              have hfe := hf st.nx _ (zip_mem _ _ _)
              have hg : eqGuard op t x y (a.eval x) (a.eval y) = pure () := by rw [h1, d1]; rcases hop with rfl | rfl <;> rfl
              refine ⟨.inl ?_, ?_, nobit⟩
              · simp only [execOp, ho, hg]
                simp only [h1, h3, d1, den]
                simp [run_shift op t kd hkd (num ρ u) n (d2 h2) (blt_lt hb) hop]
                rw [hfe]; rfl
              · show ρ st.nx < _
                rw [hfe]; exact binv_lt (d2 h2) (by rcases hop with rfl | rfl; exact .inr (.inl rfl); exact .inr (.inr rfl))
          · cases h'
        split at h
        · exact main (.inl rfl) h
        · exact main (.inr (.inl rfl)) h
        · exact main (.inr (.inr (.inl rfl))) h
        · exact main (.inr (.inr (.inr (.inl rfl)))) h
        · exact main (.inr (.inr (.inr (.inr rfl)))) h
        · exact main2 (.inl rfl) h
        · exact main2 (.inr rfl) h
        · cases h
      · cases h
    · cases h
  -- unOp
  · rename_i t x ho
    split at h
    · rename_i u hx
      obtain ⟨h1, h2⟩ := opd_some hR hx
      split at h
      · rename_i kd hk
        cases h
        obtain ⟨d1, d2, hkd⟩ := kOf_some hk (base ext c.ne w0.heap.size) ρ
        have hfe := hf st.nx _ (zip_mem _ _ _)
        have hlt := d2 h2
        have hpos : 0 < 2 ^ kd.bits := Nat.pow_pos (by omega)
        have hneg : 2 ^ kd.bits - 1 - num ρ u < 2 ^ kd.bits := by omega
        refine ⟨.inl ?_, ?_, nobit⟩
        · simp only [execOp, ho, h1, d1]
          have hsg : kd.signed = false := by rcases hkd with rfl | rfl <;> rfl
          have hmx : kd.max = ((2 ^ kd.bits - 1 : Nat) : Int) := by rcases hkd with rfl | rfl <;> rfl
          have hx : (2 ^ kd.bits - 1) ^^^ num ρ u = 2 ^ kd.bits - 1 - num ρ u := by
            apply Nat.eq_of_testBit_eq
            intro i
            rw [Nat.testBit_xor, Nat.testBit_two_pow_sub_one, Nat.sub_sub, Nat.add_comm 1, Nat.testBit_two_pow_sub_succ hlt]
            by_cases hi : i < kd.bits
            · simp [hi]
            · simp [hi]
              exact Nat.testBit_lt_two_pow (Nat.lt_of_lt_of_le hlt (Nat.pow_le_pow_right (by omega) (by omega)))
          simp [Op.unary, hsg, hmx, Op.intBits, Nat.mod_eq_of_lt hlt, Nat.mod_eq_of_lt (show 2 ^ kd.bits - 1 < 2 ^ kd.bits by omega)]
          rw [hx]
          show _ = Value.int kd (ρ st.nx : Int)
          rw [hfe]
          congr 1
          exact wrapN kd hkd _ hneg
        · show ρ st.nx < _
          rw [hfe]; exact hneg
      · cases h
    · cases h
  -- call
  · rename_i k ho
    split at h
    · rename_i f hcal
      split at h
      · rename_i x y hargs
        split at h
        · rename_i u v hx hy
          cases hb : Nat.beq f E.mul && isU64 u && isU64 v with
          | false => rw [hb] at h; cases h
          | true =>
            rw [hb] at h; cases h
            simp only [Bool.and_eq_true] at hb
            obtain ⟨⟨hb1, hb2⟩, hb3⟩ := hb
            have hfm := beq_eq hb1
            subst hfm
            obtain ⟨h1, h2⟩ := opd_some hR hx
            obtain ⟨h3, h4⟩ := opd_some hR hy
            obtain ⟨d1, d2⟩ := isU64_some hb2 (base ext c.ne w0.heap.size) ρ
            obtain ⟨e1, e2⟩ := isU64_some hb3 (base ext c.ne w0.heap.size) ρ
            have hea : k.args.map a.eval = #[.int .u64 (num ρ u : Int), .int .u64 (num ρ v : Int)] := by
              have : k.args = #[x, y] := by rw [← hargs]
              rw [this]; simp [h1, h3, d1, e1]
            have f1 := hf st.nx _ (zip_mem _ _ _)
            have f2 := hf (st.nx + 1) _ (zip_mem2 _ _ _ _)
            have hden : den (base ext c.ne w0.heap.size) ρ (.t (.s .u64 st.nx) (.s .u64 (st.nx + 1))) = .tuple #[.int .u64 ((num ρ u * num ρ v / two64 : Nat) : Int), .int .u64 ((num ρ u * num ρ v % two64 : Nat) : Int)] := by
              show Value.tuple #[.int .u64 (ρ st.nx : Int), .int .u64 (ρ (st.nx + 1) : Int)] = _
              rw [f1, f2]; rfl
            refine ⟨.inr ⟨E.mul, #[.int .u64 (num ρ u : Int), .int .u64 (num ρ v : Int)], ?_, ?_⟩, ?_, nobit⟩
            · rw [exec_call ho hcal, hea]; exact hE.mul.1 _ _ w
            · rw [hden]; exact hE.mul.2 _ _ w (d2 h2) (e2 h4)
            · refine ⟨?_, ?_⟩
              · show ρ st.nx < _
                rw [f1, pow_u64]
                exact Nat.div_lt_of_lt_mul (Nat.mul_lt_mul'' (d2 h2) (e2 h4))
              · show ρ (st.nx + 1) < _
                rw [f2, pow_u64]; exact Nat.mod_lt _ (by decide)
        · cases h
      · rename_i x y z hargs
        split at h
        · rename_i u v d hx hy hz
          cases hb : isU64 u && isU64 v && isU64 d && bit st d with
          | false => rw [hb] at h; cases h
          | true =>
            rw [hb] at h
            simp only [Bool.and_eq_true] at hb
            obtain ⟨⟨⟨hb1, hb2⟩, hb3⟩, hb4⟩ := hb
            obtain ⟨h1, h2⟩ := opd_some hR hx
            obtain ⟨h3, h4⟩ := opd_some hR hy
            obtain ⟨h5, h6⟩ := opd_some hR hz
            obtain ⟨d1, d2⟩ := isU64_some hb1 (base ext c.ne w0.heap.size) ρ
            obtain ⟨e1, e2⟩ := isU64_some hb2 (base ext c.ne w0.heap.size) ρ
            obtain ⟨g1, g2⟩ := isU64_some hb3 (base ext c.ne w0.heap.size) ρ
            have hbit := bit_some hR.bits hb4
            have hea : k.args.map a.eval = #[.int .u64 (num ρ u : Int), .int .u64 (num ρ v : Int), .int .u64 (num ρ d : Int)] := by
              have : k.args = #[x, y, z] := by rw [← hargs]
              rw [this]; simp [h1, h3, h5, d1, e1, g1]
            cases hfa : Nat.beq f E.add with
            | true =>
              simp only [hfa, cond_true] at h
              cases h
              have hfm := beq_eq hfa
              subst hfm
              have f1 := hf st.nx _ (zip_mem _ _ _)
              have f2 := hf (st.nx + 1) _ (zip_mem2 _ _ _ _)
              have hc1 : ρ (st.nx + 1) ≤ 1 := by rw [f2]; exact carry_le (d2 h2) (e2 h4) hbit
              refine ⟨.inl ?_, ⟨?_, ?_⟩, ?_⟩
              · rw [exec_call ho hcal, hea, hE.add _ _ _ w hbit]
                show _ = Result.ok (Next.value (.tuple #[.int .u64 (ρ st.nx : Int), .int .u64 (ρ (st.nx + 1) : Int)])) w
                rw [f1, f2]; rfl
              · show ρ st.nx < _
                rw [f1, pow_u64]; exact Nat.mod_lt _ (by decide)
              · show ρ (st.nx + 1) < _
                rw [pow_u64]; unfold two64; omega
              · intro e he
                have : e = st.nx + 1 := by
                  simp only [mem1, Bool.or_false] at he; exact (beq_eq he).symm
                subst this; exact hc1
            | false =>
              simp only [hfa, cond_false] at h
              cases hfs : Nat.beq f E.sub with
              | false => simp only [hfs, cond_true, cond_false] at h; cases h
              | true =>
                simp only [hfs, cond_true] at h
                cases h
                have hfm := beq_eq hfs
                subst hfm
                have f1 := hf st.nx _ (zip_mem _ _ _)
                have f2 := hf (st.nx + 1) _ (zip_mem2 _ _ _ _)
                have hc1 : ρ (st.nx + 1) ≤ 1 := by rw [f2]; simp only [FnS.ev]; split <;> omega
                refine ⟨.inl ?_, ⟨?_, ?_⟩, ?_⟩
                · rw [exec_call ho hcal, hea, hE.sub _ _ _ w hbit]
                  show _ = Result.ok (Next.value (.tuple #[.int .u64 (ρ st.nx : Int), .int .u64 (ρ (st.nx + 1) : Int)])) w
                  rw [f1, f2]; rfl
                · show ρ st.nx < _
                  rw [f1, pow_u64]; exact Nat.mod_lt _ (by decide)
                · show ρ (st.nx + 1) < _
                  rw [pow_u64]; unfold two64; omega
                · intro e he
                  have : e = st.nx + 1 := by
                    simp only [mem1, Bool.or_false] at he; exact (beq_eq he).symm
                  subst this; exact hc1
        · cases h
      · cases h
    · cases h
  · cases h
end Go.Proofs.Ytjdjhccefnffmaa.LX
