import Derived.StillTail
import Derived.Deep.Draws
import Derived.Laws.BitsAllLaws
import Derived.Laws.Externs
import Derived.Below
/-
  Numbers in words; a run of straight-line code.
-/
/-
  Straight-line code on words is run once, by a function: what it computes comes out as a plain statement on numbers.
-/
namespace Go.Proofs.Ytdaheccfeihpgaa.Nm
open Go Go.RowKit

/-- A value that the run knows: 0 a word, 1 a word that is 0 or 1, 2 a byte, 3 an address (which array, which place), 4 two words, 5 a word and one that is 0 or 1. -/
structure SV where
  k : Nat
  a : Nat
  b : Nat

def SV.den (T : Nat → Addr) : SV → Value
  | ⟨0, a, _⟩ => .int .u64 (a : Int)
  | ⟨1, a, _⟩ => .int .u64 (a : Int)
  | ⟨2, a, _⟩ => .int .u8 (a : Int)
  | ⟨3, a, b⟩ => .pointer (some ((T a).add b))
  | ⟨_, a, b⟩ => .tuple #[.int .u64 (a : Int), .int .u64 (b : Int)]

def SV.ok : SV → Prop
  | ⟨0, a, _⟩ => a < 18446744073709551616
  | ⟨1, a, _⟩ => a ≤ 1
  | ⟨2, a, _⟩ => a < 256
  | ⟨3, _, _⟩ => True
  | ⟨4, a, b⟩ => a < 18446744073709551616 ∧ b < 18446744073709551616
  | ⟨_, a, b⟩ => a < 18446744073709551616 ∧ b ≤ 1

def lk : List (Nat × SV) → Nat → Option SV
  | [], _ => none
  | (i, s) :: r, j => bif Nat.beq i j then some s else lk r j

def lkm : List (Nat × Nat × SV) → Nat → Nat → Option SV
  | [], _, _ => none
  | (i, k, s) :: r, j, m => bif Nat.beq i j && Nat.beq k m then some s else lkm r j m

def lkn : List (Nat × Nat) → Nat → Option Nat
  | [], _ => none
  | (i, s) :: r, j => bif Nat.beq i j then some s else lkn r j

def has : List Nat → Nat → Bool
  | [], _ => false
  | i :: r, j => Nat.beq i j || has r j

/-- What the run is told of the program. -/
structure Tab where
  n : Nat
  arr : List (Nat × Nat)
  one : List Nat
  k8 : List Nat
  k64 : List Nat
  fAdd : Nat
  fSub : Nat
  fMul : Nat
  fCm : Nat
  outs : List (Nat × Nat)

structure TabOk (P : Program) (S : Tab) : Prop where
  wide : P.follows .mixedOrders = true
  arr : ∀ t n, lkn S.arr t = some n → P.underlying t = some (.array n (P.elem t)) ∧ ∀ w, (sizeOf (P.elem t)).run P w = .ok 1 w
  one : ∀ t, has S.one t = true → ∀ w, (isAgg t).run P w = .ok false w ∧ (sizeOf t).run P w = .ok 1 w
  k8 : ∀ t, has S.k8 t = true → P.underlying t = some (.int .u8)
  k64 : ∀ t, has S.k64 t = true → P.underlying t = some (.int .u64) ∧ ∀ w, (zeroValue t).run P w = .ok (.int .u64 0) w
  add : ∀ (x y c : Nat) (w : World), x < 18446744073709551616 → y < 18446744073709551616 → c ≤ 1 → (callFunc S.fAdd #[.int .u64 x, .int .u64 y, .int .u64 c]).run P w =
    .ok (.value (.tuple #[.int .u64 (((x + y + c) % 18446744073709551616 : Nat) : Int), .int .u64 (((x + y + c) / 18446744073709551616 : Nat) : Int)])) w
  sub : ∀ (x y c : Nat) (w : World), x < 18446744073709551616 → y < 18446744073709551616 → c ≤ 1 → (callFunc S.fSub #[.int .u64 x, .int .u64 y, .int .u64 c]).run P w =
    .ok (.value (.tuple #[.int .u64 (((x + 18446744073709551616 - y - c) % 18446744073709551616 : Nat) : Int), .int .u64 ((if x < y + c then 1 else 0 : Nat) : Int)])) w
  mulIn : ∀ args w, (callFunc S.fMul args).run P w = .ok (.enter S.fMul args) w
  mul : ∀ (x y : Nat) (w : World), x < 18446744073709551616 → y < 18446744073709551616 → Calls P S.fMul #[.int .u64 x, .int .u64 y] w fun e w' =>
    e = .returned (.tuple #[.int .u64 ((x * y / 18446744073709551616 : Nat) : Int), .int .u64 ((x * y % 18446744073709551616 : Nat) : Int)]) ∧ w' = w
  cmIn : ∀ args w, (callFunc S.fCm args).run P w = .ok (.enter S.fCm args) w
  cm : ∀ (p : Addr) (c x y : Nat) (w : World), (w.cell? p).isSome = true → w.frozen? p = false → x < 18446744073709551616 → y < 18446744073709551616 → c ≤ 1 →
    Calls P S.fCm #[.pointer (some p), .int .u64 c, .int .u64 x, .int .u64 y] w fun e w' => e = .returned (.tuple #[]) ∧ w' = w.setCell p (.int .u64 ((if c = 0 then x else y : Nat) : Int))

def ev (env : List (Nat × SV)) : Operand → Option SV
  | .tmp t => lk env t
  | .const (.int .u64 (.ofNat n)) => bif Nat.blt n 18446744073709551616 then some ⟨bif Nat.ble n 1 then 1 else 0, n, 0⟩ else none
  | .const (.int .u8 (.ofNat n)) => bif Nat.blt n 256 then some ⟨2, n, 0⟩ else none
  | _ => none

def w64 : SV → Option Nat
  | ⟨0, a, _⟩ => some a
  | ⟨1, a, _⟩ => some a
  | _ => none

def wbit : SV → Option Nat
  | ⟨1, a, _⟩ => some a
  | _ => none

def w8 : SV → Option Nat
  | ⟨2, a, _⟩ => some a
  | _ => none

def wptr : SV → Option (Nat × Nat)
  | ⟨3, a, b⟩ => some (a, b)
  | _ => none

def obind {α : Type} (o : Option α) (K : α → Prop) : Prop :=
  match o with
  | some x => K x
  | none => False

def onb (b : Bool) (K : Prop) : Prop := bif b then K else False

def exBin (op : BinOp) (s r : SV) (K : SV → Prop) : Prop :=
  match op with
  | .and => match w8 s with
    | some x => obind (w8 r) fun y => ∀ z, z < 256 → z = x &&& y → K ⟨2, z, 0⟩
    | none => obind (w64 s) fun x => obind (w64 r) fun y => ∀ z, z < 18446744073709551616 → z = x &&& y → K ⟨0, z, 0⟩
  | .add => obind (w64 s) fun x => obind (w64 r) fun y => ∀ z, z < 18446744073709551616 → z = (x + y) % 18446744073709551616 → K ⟨0, z, 0⟩
  | .shl => obind (w64 s) fun x => obind (w64 r) fun y => onb (Nat.ble y 64) (∀ z, z < 18446744073709551616 → z = x * 2 ^ y % 18446744073709551616 → K ⟨0, z, 0⟩)
  | .shr => obind (w64 s) fun x => obind (w64 r) fun y => onb (Nat.ble y 64) (∀ z, z < 18446744073709551616 → z = x / 2 ^ y → K ⟨0, z, 0⟩)
  | _ => False

def exConv (S : Tab) (src dst : Nat) (s : SV) (K : SV → Prop) : Prop :=
  match w8 s with
  | some x => onb (has S.k8 src && has S.k64 dst) (K ⟨0, x, 0⟩)
  | none => obind (w64 s) fun x => onb (has S.k64 src && has S.k8 dst) (∀ z, z < 256 → z = x % 256 → K ⟨2, z, 0⟩)

def exCall (S : Tab) (env : List (Nat × SV)) (f : Nat) (args : List Operand) (K : SV → Prop) : Prop :=
  match args with
  | [x, y] => onb (Nat.beq f S.fMul) (obind (ev env x) fun s => obind (ev env y) fun r => obind (w64 s) fun x => obind (w64 r) fun y =>
      ∀ hi lo, hi < 18446744073709551616 → lo < 18446744073709551616 → hi * 18446744073709551616 + lo = x * y → K ⟨4, hi, lo⟩)
  | [x, y, c] => obind (ev env x) fun s => obind (ev env y) fun r => obind (ev env c) fun t => obind (w64 s) fun x => obind (w64 r) fun y => obind (wbit t) fun c =>
      bif Nat.beq f S.fAdd then ∀ z d, z < 18446744073709551616 → d ≤ 1 → z + 18446744073709551616 * d = x + y + c → K ⟨5, z, d⟩
      else bif Nat.beq f S.fSub then ∀ z d, z < 18446744073709551616 → d ≤ 1 → z + y + c = x + 18446744073709551616 * d → K ⟨5, z, d⟩ else False
  | _ => False

def exq (S : Tab) (env : List (Nat × SV)) (mem : List (Nat × Nat × SV)) (op : Op) (K : SV → Prop) : Prop :=
  match op with
  | .move x => obind (ev env x) K
  | .assign x => obind (ev env x) K
  | .nilCheck x => obind (ev env x) fun s => obind (wptr s) fun q => K ⟨3, q.1, q.2⟩
  | .indexAddr t x (.const (.int .i64 (.ofNat i))) => obind (ev env x) fun s => obind (wptr s) fun q => obind (lkn S.arr t) fun n => onb (Nat.blt i n) (K ⟨3, q.1, q.2 + i⟩)
  | .load t x => obind (ev env x) fun s => obind (wptr s) fun q => onb (has S.one t) (obind (lkm mem q.1 q.2) K)
  | .extract x i => obind (ev env x) fun s => match s with
    | ⟨4, a, b⟩ => match i with
      | 0 => K ⟨0, a, 0⟩
      | 1 => K ⟨0, b, 0⟩
      | _ => False
    | ⟨5, a, b⟩ => match i with
      | 0 => K ⟨0, a, 0⟩
      | 1 => K ⟨1, b, 0⟩
      | _ => False
    | _ => False
  | .binOp op _ x y _ => obind (ev env x) fun s => obind (ev env y) fun r => exBin op s r K
  | .convert src dst x => obind (ev env x) fun s => exConv S src dst s K
  | .call ⟨.value (.func f), args, _⟩ => exCall S env f args.toList K
  | _ => False

def exOps (S : Tab) : List Oper → List (Nat × SV) → List (Nat × Nat × SV) → (List (Nat × SV) → Prop) → Prop
  | [], env, _, K => K env
  | o :: r, env, mem, K => match o.guard, o.dst with
    | none, some d => onb (Nat.blt d S.n) (exq S env mem o.op fun s => exOps S r ((d, s) :: env) mem K)
    | _, _ => False

structure St where
  env : List (Nat × SV)
  mem : List (Nat × Nat × SV)
  out : List (Nat × Nat × SV)
  nal : Nat

def own : List (Nat × Nat × SV) → List (Nat × Nat × SV)
  | [] => []
  | (i, k, s) :: r => bif Nat.ble 100 i then (i, k, s) :: own r else own r

def isTail : Op → Bool
  | .store _ _ _ => true
  | .alloc _ => true
  | .call ⟨_, args, _⟩ => match args.toList with
    | [_, _, _, _] => true
    | _ => false
  | _ => false

def small : SV → Bool
  | ⟨0, _, _⟩ => true
  | ⟨1, _, _⟩ => true
  | ⟨2, _, _⟩ => true
  | _ => false

def exTail (S : Tab) (o : Oper) (s : St) (K : St → Prop) : Prop :=
  match o.guard with
  | some _ => False
  | none => match o.op, o.dst with
    | .store t p x, none => obind (ev s.env p) fun q => obind (wptr q) fun q => obind (lkn S.outs q.1) fun n => onb (Nat.blt q.2 n && has S.one t && Nat.blt q.1 100)
        (obind (ev s.env x) fun v => onb (small v) (K ⟨s.env, own s.mem, s.out ++ [(q.1, q.2, v)], s.nal⟩))
    | .alloc t, some d => onb (Nat.blt d S.n && has S.k64 t) (K ⟨(d, ⟨3, 100 + s.nal, 0⟩) :: s.env, (100 + s.nal, 0, ⟨0, 0, 0⟩) :: s.mem, s.out, s.nal + 1⟩)
    | .call ⟨.value (.func f), args, _⟩, some d => match args.toList, lk s.env d with
      | [p, c, x, y], none => onb (Nat.beq f S.fCm) (obind (ev s.env p) fun q => obind (wptr q) fun q => onb (Nat.beq q.2 0 && Nat.ble 100 q.1 && Nat.blt q.1 (100 + s.nal))
          (obind (ev s.env c) fun c => obind (wbit c) fun c => obind (ev s.env x) fun x => obind (w64 x) fun x => obind (ev s.env y) fun y => obind (w64 y) fun y =>
            ∀ z, z < 18446744073709551616 → z = (if c = 0 then x else y) → K ⟨s.env, (q.1, 0, ⟨0, z, 0⟩) :: s.mem, s.out, s.nal⟩))
      | _, _ => False
    | _, _ => False

def lastIsTail (ops : List Oper) : Option Oper :=
  match ops.getLast? with
  | some o => bif isTail o.op then some o else none
  | none => none

def exRegion (S : Tab) (ops : List Oper) (draw : Bool) (s : St) (K : St → Prop) : Prop :=
  match lastIsTail ops with
  | some o => onb (!draw || Region.lexTailB .any ops.toArray ops.dropLast.length) (exOps S ops.dropLast s.env s.mem fun env => exTail S o ⟨env, s.mem, s.out, s.nal⟩ K)
  | none => onb (!draw || Region.lexB .any ops.toArray) (exOps S ops s.env s.mem fun env => K ⟨env, s.mem, s.out, s.nal⟩)

def exC (S : Tab) : Code → St → (St → Prop) → Prop
  | .skip, s, K => K s
  | .region _ ops draw, s, K => exRegion S ops.toList draw s K
  | .seq a b, s, K => exC S a s fun s' => exC S b s' K
  | _, _, _ => False

/-! ### Soundness -/

theorem add_of_add (a : Addr) (i j : Nat) : (a.add i).add j = a.add (i + j) := by
  unfold Addr.add
  by_cases hi : i = 0 <;> by_cases hj : j = 0 <;> simp [hi, hj, Nat.add_assoc]

structure Fr (T : Nat → Addr) (n : Nat) (a : Act) (env : List (Nat × SV)) : Prop where
  size : a.tmps.size = n
  defers : a.defers = []
  get : ∀ i s, lk env i = some s → s.ok ∧ a.tmps.getD i undef = s.den T

def MemOk (T : Nat → Addr) (w : World) (mem : List (Nat × Nat × SV)) : Prop :=
  ∀ i k s, lkm mem i k = some s → s.ok ∧ w.cell? ((T i).add k) = some (s.den T)

theorem obind_some {α : Type} {o : Option α} {K : α → Prop} (h : obind o K) : ∃ x, o = some x ∧ K x := by
  cases o with
  | none => exact h.elim
  | some x => exact ⟨x, rfl, h⟩

theorem onb_true {b : Bool} {K : Prop} (h : onb b K) : b = true ∧ K := by
  cases b with
  | false => exact h.elim
  | true => exact ⟨rfl, h⟩

theorem w64_some {s : SV} {x : Nat} {T : Nat → Addr} (h : w64 s = some x) (ho : s.ok) : x < 18446744073709551616 ∧ s.den T = .int .u64 (x : Int) := by
  obtain ⟨k, a, b⟩ := s
  unfold w64 at h
  split at h
  · rename_i e
    simp only [SV.mk.injEq] at e
    obtain ⟨rfl, rfl, rfl⟩ := e
    simp only [Option.some.injEq] at h
    subst h
    exact ⟨ho, rfl⟩
  · rename_i e
    simp only [SV.mk.injEq] at e
    obtain ⟨rfl, rfl, rfl⟩ := e
    simp only [Option.some.injEq] at h
    subst h
    have ho' : a ≤ 1 := ho
    exact ⟨by omega, rfl⟩
  · cases h

theorem wbit_some {s : SV} {x : Nat} {T : Nat → Addr} (h : wbit s = some x) (ho : s.ok) : x ≤ 1 ∧ s.den T = .int .u64 (x : Int) := by
  obtain ⟨k, a, b⟩ := s
  unfold wbit at h
  split at h
  · rename_i e
    simp only [SV.mk.injEq] at e
    obtain ⟨rfl, rfl, rfl⟩ := e
    simp only [Option.some.injEq] at h
    subst h
    exact ⟨ho, rfl⟩
  · cases h

theorem w8_some {s : SV} {x : Nat} {T : Nat → Addr} (h : w8 s = some x) (ho : s.ok) : x < 256 ∧ s.den T = .int .u8 (x : Int) := by
  obtain ⟨k, a, b⟩ := s
  unfold w8 at h
  split at h
  · rename_i e
    simp only [SV.mk.injEq] at e
    obtain ⟨rfl, rfl, rfl⟩ := e
    simp only [Option.some.injEq] at h
    subst h
    exact ⟨ho, rfl⟩
  · cases h

theorem wptr_some {s : SV} {q : Nat × Nat} {T : Nat → Addr} (h : wptr s = some q) : s = ⟨3, q.1, q.2⟩ ∧ s.den T = .pointer (some ((T q.1).add q.2)) := by
  obtain ⟨k, a, b⟩ := s
  unfold wptr at h
  split at h
  · rename_i e
    simp only [SV.mk.injEq] at e
    obtain ⟨rfl, rfl, rfl⟩ := e
    simp only [Option.some.injEq] at h
    subst h
    exact ⟨rfl, rfl⟩
  · cases h

section
variable {P : Program} {S : Tab} {T : Nat → Addr} {a : Act} {w : World} {env : List (Nat × SV)} {mem : List (Nat × Nat × SV)}

theorem ev_some {n : Nat} (hf : Fr T n a env) {x : Operand} {s : SV} (h : ev env x = some s) : s.ok ∧ a.eval x = s.den T := by
  unfold ev at h
  split at h
  · exact hf.get _ _ h
  · rename_i n
    cases hb : Nat.blt n 18446744073709551616 with
    | false => rw [hb] at h; cases h
    | true =>
      rw [hb] at h
      have hn : n < 18446744073709551616 := by simpa [Nat.blt_eq] using hb
      simp only [cond_true, Option.some.injEq] at h
      subst h
      cases hc : Nat.ble n 1 with
      | false => exact ⟨hn, rfl⟩
      | true => exact ⟨(by simpa using hc : n ≤ 1), rfl⟩
  · rename_i n
    cases hb : Nat.blt n 256 with
    | false => rw [hb] at h; cases h
    | true =>
      rw [hb] at h
      have hn : n < 256 := by simpa [Nat.blt_eq] using hb
      simp only [cond_true, Option.some.injEq] at h
      subst h
      exact ⟨hn, rfl⟩
  · cases h

/-- What an operation that leaves the world alone yields. -/
def Yields (P : Program) (o : Op) (a : Act) (w : World) (v : Value) : Prop :=
  ∀ (d : Option Tmp) (ty : TypeId) (pos : String) (after : Array Edge) (g : Option (Nat × Bool)),
  (execOp a.eval ⟨d, o, ty, pos, after, g⟩).run P w = .ok (.value v) w ∨
  ∃ f args, (execOp a.eval ⟨d, o, ty, pos, after, g⟩).run P w = .ok (.enter f args) w ∧ Calls P f args w fun e w' => e = .returned v ∧ w' = w

theorem eval_func (a : Act) (f : FuncId) : a.eval (.func f) = .func (.func f) #[] #[] := rfl

theorem exBin_sound {op : BinOp} {s r : SV} {K : SV → Prop} (hs : s.ok) (hr : r.ok) (h : exBin op s r K) (t : TypeId) (x y : Operand) :
    ∃ v : SV, v.ok ∧ K v ∧ (do eqGuard op t x y (s.den T) (r.den T); binOp op t (s.den T) (r.den T) : Sem Value).run P w = .ok (v.den T) w := by
  unfold exBin at h
  split at h
  · split at h
    · rename_i x8 h8
      obtain ⟨y8, h9, h⟩ := obind_some h
      obtain ⟨b1, e1⟩ := w8_some (T := T) h8 hs
      obtain ⟨b2, e2⟩ := w8_some (T := T) h9 hr
      have hz : x8 &&& y8 < 256 := Nat.and_lt_two_pow (n := 8) _ b2
      refine ⟨⟨2, x8 &&& y8, 0⟩, hz, h _ hz rfl, ?_⟩
      rw [e1, e2]
      simp only [go_sem, Sem.run_bind, Sem.run_pure, Result.andThen_ok, u8_and_nat _ _ b1 b2]
      rfl
    · obtain ⟨x6, h8, h⟩ := obind_some h
      obtain ⟨y6, h9, h⟩ := obind_some h
      obtain ⟨b1, e1⟩ := w64_some (T := T) h8 hs
      obtain ⟨b2, e2⟩ := w64_some (T := T) h9 hr
      have hz : x6 &&& y6 < 18446744073709551616 := Nat.and_lt_two_pow (n := 64) _ b2
      refine ⟨⟨0, x6 &&& y6, 0⟩, hz, h _ hz rfl, ?_⟩
      rw [e1, e2]
      simp only [go_sem, Sem.run_bind, Sem.run_pure, Result.andThen_ok, u64_and_nat _ _ b1 b2]
      rfl
  · obtain ⟨x6, h8, h⟩ := obind_some h
    obtain ⟨y6, h9, h⟩ := obind_some h
    obtain ⟨b1, e1⟩ := w64_some (T := T) h8 hs
    obtain ⟨b2, e2⟩ := w64_some (T := T) h9 hr
    have hz : (x6 + y6) % 18446744073709551616 < 18446744073709551616 := Nat.mod_lt _ (by omega)
    refine ⟨⟨0, (x6 + y6) % 18446744073709551616, 0⟩, hz, h _ hz rfl, ?_⟩
    rw [e1, e2]
    simp only [go_sem, Sem.run_bind, Sem.run_pure, Result.andThen_ok, IntKind.wrap_u64]
    rfl
  · obtain ⟨x6, h8, h⟩ := obind_some h
    obtain ⟨y6, h9, h⟩ := obind_some h
    obtain ⟨hy, h⟩ := onb_true h
    obtain ⟨b1, e1⟩ := w64_some (T := T) h8 hs
    obtain ⟨b2, e2⟩ := w64_some (T := T) h9 hr
    have hy' : y6 ≤ 64 := by simpa using hy
    have hz : x6 * 2 ^ y6 % 18446744073709551616 < 18446744073709551616 := Nat.mod_lt _ (by omega)
    refine ⟨⟨0, x6 * 2 ^ y6 % 18446744073709551616, 0⟩, hz, h _ hz rfl, ?_⟩
    rw [e1, e2]
    simp only [go_sem, Sem.run_bind, Sem.run_pure, Result.andThen_ok, shift_shl_u64 .u64 (x6 : Int) (y6 : Int) (by omega) (by omega), IntKind.wrap_u64, Int.toNat_natCast]
    rfl
  · obtain ⟨x6, h8, h⟩ := obind_some h
    obtain ⟨y6, h9, h⟩ := obind_some h
    obtain ⟨hy, h⟩ := onb_true h
    obtain ⟨b1, e1⟩ := w64_some (T := T) h8 hs
    obtain ⟨b2, e2⟩ := w64_some (T := T) h9 hr
    have hy' : y6 ≤ 64 := by simpa using hy
    have hz : x6 / 2 ^ y6 < 18446744073709551616 := Nat.lt_of_le_of_lt (Nat.div_le_self _ _) b1
    refine ⟨⟨0, x6 / 2 ^ y6, 0⟩, hz, h _ hz rfl, ?_⟩
    rw [e1, e2]
    simp only [go_sem, Sem.run_bind, Sem.run_pure, Result.andThen_ok, shift_shr_u64 .u64 (x6 : Int) (y6 : Int) (by omega) (by omega), Int.toNat_natCast]
    rfl
  · exact h.elim

theorem exConv_sound (hS : TabOk P S) {src dst : Nat} {s : SV} {K : SV → Prop} (hs : s.ok) (h : exConv S src dst s K) :
    ∃ v : SV, v.ok ∧ K v ∧ (convert src dst (s.den T)).run P w = .ok (v.den T) w := by
  unfold exConv at h
  split at h
  · rename_i x h8
    obtain ⟨hb, h⟩ := onb_true h
    simp only [Bool.and_eq_true] at hb
    obtain ⟨b1, e1⟩ := w8_some (T := T) h8 hs
    refine ⟨⟨0, x, 0⟩, (by omega : x < 18446744073709551616), h, ?_⟩
    rw [e1]
    simp only [convert, Sem.run_bind, run_underlying (hS.k8 _ hb.1), run_underlying (hS.k64 _ hb.2).1, Result.andThen_ok, Conv.intToInt, IntKind.wrap_u64, Sem.run_pure, SV.den]
    congr 2
    omega
  · obtain ⟨x, h8, h⟩ := obind_some h
    obtain ⟨hb, h⟩ := onb_true h
    simp only [Bool.and_eq_true] at hb
    obtain ⟨b1, e1⟩ := w64_some (T := T) h8 hs
    have hz : x % 256 < 256 := Nat.mod_lt _ (by omega)
    refine ⟨⟨2, x % 256, 0⟩, hz, h _ hz rfl, ?_⟩
    rw [e1]
    simp only [convert, Sem.run_bind, run_underlying (hS.k64 _ hb.1).1, run_underlying (hS.k8 _ hb.2), Result.andThen_ok, Conv.intToInt, IntKind.wrap_u8', Sem.run_pure, SV.den]
    rfl

theorem exCall_sound (hS : TabOk P S) (hf : Fr T S.n a env) {f : Nat} {args : Array Operand} {tys : Array TypeId} {K : SV → Prop} (h : exCall S env f args.toList K) :
    ∃ v : SV, v.ok ∧ K v ∧ Yields P (.call ⟨.value (.func f), args, tys⟩) a w (v.den T) := by
  obtain ⟨l⟩ := args
  simp only at h
  unfold exCall at h
  split at h
  · rename_i x y
    obtain ⟨hb, h⟩ := onb_true h
    obtain ⟨s, hs, h⟩ := obind_some h
    obtain ⟨r, hr, h⟩ := obind_some h
    obtain ⟨xv, hx, h⟩ := obind_some h
    obtain ⟨yv, hy, h⟩ := obind_some h
    obtain ⟨so, se⟩ := ev_some hf hs
    obtain ⟨ro, re⟩ := ev_some hf hr
    obtain ⟨b1, e1⟩ := w64_some (T := T) hx so
    obtain ⟨b2, e2⟩ := w64_some (T := T) hy ro
    have hhi : xv * yv / 18446744073709551616 < 18446744073709551616 := by
      apply Nat.div_lt_of_lt_mul
      exact Nat.mul_lt_mul'' b1 b2
    have hlo : xv * yv % 18446744073709551616 < 18446744073709551616 := Nat.mod_lt _ (by omega)
    refine ⟨⟨4, xv * yv / 18446744073709551616, xv * yv % 18446744073709551616⟩, ⟨hhi, hlo⟩, h _ _ hhi hlo (Nat.div_add_mod' _ _), fun d ty pos after g => .inr ⟨S.fMul, #[.int .u64 xv, .int .u64 yv], ?_, hS.mul xv yv w b1 b2⟩⟩
    have hfm : f = S.fMul := by simpa using hb
    simp only [execOp, resolve, Deferred.ofValue, invoke, eval_func, hfm, Sem.run_bind, Sem.run_pure, Result.andThen_ok, List.map_toArray, List.map_cons, List.map_nil, se, re, e1, e2, List.append_toArray, List.nil_append, List.append_nil, hS.mulIn]
  · rename_i x y c
    obtain ⟨s, hs, h⟩ := obind_some h
    obtain ⟨r, hr, h⟩ := obind_some h
    obtain ⟨t, ht, h⟩ := obind_some h
    obtain ⟨xv, hx, h⟩ := obind_some h
    obtain ⟨yv, hy, h⟩ := obind_some h
    obtain ⟨cv, hc, h⟩ := obind_some h
    obtain ⟨so, se⟩ := ev_some hf hs
    obtain ⟨ro, re⟩ := ev_some hf hr
    obtain ⟨to, te⟩ := ev_some hf ht
    obtain ⟨b1, e1⟩ := w64_some (T := T) hx so
    obtain ⟨b2, e2⟩ := w64_some (T := T) hy ro
    obtain ⟨b3, e3⟩ := wbit_some (T := T) hc to
    cases hb : Nat.beq f S.fAdd with
    | true =>
      rw [hb] at h
      simp only [cond_true] at h
      have hfm : f = S.fAdd := by simpa using hb
      refine ⟨⟨5, (xv + yv + cv) % 18446744073709551616, (xv + yv + cv) / 18446744073709551616⟩, ⟨Nat.mod_lt _ (by omega), by omega⟩, h _ _ (Nat.mod_lt _ (by omega)) (by omega) (by omega), fun d ty pos after g => .inl ?_⟩
      simp only [execOp, resolve, Deferred.ofValue, invoke, eval_func, hfm, Sem.run_bind, Sem.run_pure, Result.andThen_ok, List.map_toArray, List.map_cons, List.map_nil, se, re, te, e1, e2, e3, List.append_toArray, List.nil_append, List.append_nil, hS.add xv yv cv w b1 b2 b3]
      rfl
    | false =>
      rw [hb] at h
      simp only [cond_false] at h
      cases hb' : Nat.beq f S.fSub with
      | false => rw [hb'] at h; exact h.elim
      | true =>
        rw [hb'] at h
        simp only [cond_true] at h
        have hfm : f = S.fSub := by simpa using hb'
        refine ⟨⟨5, (xv + 18446744073709551616 - yv - cv) % 18446744073709551616, if xv < yv + cv then 1 else 0⟩, ⟨Nat.mod_lt _ (by omega), by split <;> omega⟩, h _ _ (Nat.mod_lt _ (by omega)) (by split <;> omega) (by split <;> omega), fun d ty pos after g => .inl ?_⟩
        simp only [execOp, resolve, Deferred.ofValue, invoke, eval_func, hfm, Sem.run_bind, Sem.run_pure, Result.andThen_ok, List.map_toArray, List.map_cons, List.map_nil, se, re, te, e1, e2, e3, List.append_toArray, List.nil_append, List.append_nil, hS.sub xv yv cv w b1 b2 b3]
        rfl
  · exact h.elim

theorem exq_sound (hS : TabOk P S) (hf : Fr T S.n a env) (hm : MemOk T w mem) {op : Op} {K : SV → Prop} (h : exq S env mem op K) :
    ∃ v : SV, v.ok ∧ K v ∧ Yields P op a w (v.den T) := by
  unfold exq at h
  split at h
  · obtain ⟨s, hs, h⟩ := obind_some h
    obtain ⟨so, se⟩ := ev_some hf hs
    exact ⟨s, so, h, fun d ty pos after g => .inl (by simp only [execOp, se]; rfl)⟩
  · obtain ⟨s, hs, h⟩ := obind_some h
    obtain ⟨so, se⟩ := ev_some hf hs
    exact ⟨s, so, h, fun d ty pos after g => .inl (by simp only [execOp, se]; rfl)⟩
  · obtain ⟨s, hs, h⟩ := obind_some h
    obtain ⟨q, hq, h⟩ := obind_some h
    obtain ⟨so, se⟩ := ev_some hf hs
    obtain ⟨_, qe⟩ := wptr_some (T := T) hq
    exact ⟨⟨3, q.1, q.2⟩, trivial, h, fun d ty pos after g => .inl (by simp only [execOp, se, qe]; rfl)⟩
  · rename_i t x i
    obtain ⟨s, hs, h⟩ := obind_some h
    obtain ⟨q, hq, h⟩ := obind_some h
    obtain ⟨n, hn, h⟩ := obind_some h
    obtain ⟨hb, h⟩ := onb_true h
    obtain ⟨so, se⟩ := ev_some hf hs
    obtain ⟨_, qe⟩ := wptr_some (T := T) hq
    obtain ⟨hu, h1⟩ := hS.arr t n hn
    have hi : i < n := by simpa [Nat.blt_eq] using hb
    refine ⟨⟨3, q.1, q.2 + i⟩, trivial, h, fun d ty pos after g => .inl ?_⟩
    have hal : P.arrayLen t = n := by simp [Program.arrayLen, hu]
    have he : a.eval (.const (.int .i64 (.ofNat i))) = .int .i64 (i : Int) := rfl
    simp only [execOp, se, qe, he, Sem.run_bind]
    rw [run_indexAt_array w t _ .i64 (i : Int) (by rw [hal]; exact hu), if_pos (by rw [hal]; omega), h1]
    simp only [Result.andThen_ok, Int.toNat_natCast, Nat.mul_one, Sem.run_pure, SV.den, add_of_add]
  · rename_i t x
    obtain ⟨s, hs, h⟩ := obind_some h
    obtain ⟨q, hq, h⟩ := obind_some h
    obtain ⟨hb, h⟩ := onb_true h
    obtain ⟨v, hv, h⟩ := obind_some h
    obtain ⟨so, se⟩ := ev_some hf hs
    obtain ⟨_, qe⟩ := wptr_some (T := T) hq
    obtain ⟨vo, vc⟩ := hm _ _ _ hv
    refine ⟨v, vo, h, fun d ty pos after g => .inl ?_⟩
    simp only [execOp, se, qe, Instr.loadAt, Instr.sureAddr, loadVar, Sem.run_bind, Sem.run_pure, Result.andThen_ok, (hS.one t hb w).1, Sem.run_ite, Bool.false_eq_true, if_false, run_load, vc]
  · rename_i x i
    obtain ⟨s, hs, h⟩ := obind_some h
    obtain ⟨so, se⟩ := ev_some hf hs
    split at h
    · rename_i a1 b1
      have so : a1 < 18446744073709551616 ∧ b1 < 18446744073709551616 := so
      split at h
      · exact ⟨⟨0, a1, 0⟩, so.1, h, fun d ty pos after g => .inl (by simp only [execOp, se, SV.den, Instr.extract]; rfl)⟩
      · exact ⟨⟨0, b1, 0⟩, so.2, h, fun d ty pos after g => .inl (by simp only [execOp, se, SV.den, Instr.extract]; rfl)⟩
      · exact h.elim
    · rename_i a1 b1
      have so : a1 < 18446744073709551616 ∧ b1 ≤ 1 := so
      split at h
      · exact ⟨⟨0, a1, 0⟩, so.1, h, fun d ty pos after g => .inl (by simp only [execOp, se, SV.den, Instr.extract]; rfl)⟩
      · exact ⟨⟨1, b1, 0⟩, so.2, h, fun d ty pos after g => .inl (by simp only [execOp, se, SV.den, Instr.extract]; rfl)⟩
      · exact h.elim
    · exact h.elim
  · rename_i op t x y t'
    obtain ⟨s, hs, h⟩ := obind_some h
    obtain ⟨r, hr, h⟩ := obind_some h
    obtain ⟨so, se⟩ := ev_some hf hs
    obtain ⟨ro, re⟩ := ev_some hf hr
    obtain ⟨v, vo, hK, hrun⟩ := exBin_sound (P := P) (T := T) (w := w) so ro h t x y
    refine ⟨v, vo, hK, fun d ty pos after g => .inl ?_⟩
    simp only [execOp, se, re]
    simp only [Sem.run_bind] at hrun ⊢
    rw [hrun]
    rfl
  · rename_i src dst x
    obtain ⟨s, hs, h⟩ := obind_some h
    obtain ⟨so, se⟩ := ev_some hf hs
    obtain ⟨v, vo, hK, hrun⟩ := exConv_sound (P := P) (T := T) (w := w) hS so h
    refine ⟨v, vo, hK, fun d ty pos after g => .inl ?_⟩
    simp only [execOp, se, Sem.run_bind, hrun]
    rfl
  · exact exCall_sound hS hf h
  · exact h.elim


theorem Fr.put (hf : Fr T S.n a env) {d : Nat} (hd : d < S.n) {v : SV} (hv : v.ok) : Fr T S.n (a.put (some d) (v.den T)) ((d, v) :: env) := by
  refine ⟨by simp [Act.put, hf.size], hf.defers, fun i s h => ?_⟩
  simp only [lk] at h
  cases hb : Nat.beq d i with
  | true =>
    rw [hb] at h
    simp only [cond_true, Option.some.injEq] at h
    have : d = i := by simpa using hb
    subst this h
    exact ⟨hv, by simp [Act.put, hf.size, hd]⟩
  | false =>
    rw [hb] at h
    simp only [cond_false] at h
    have hne : d ≠ i := Nat.ne_of_beq_eq_false hb
    obtain ⟨h1, h2⟩ := hf.get i s h
    exact ⟨h1, by rw [← h2]; simp [Act.put, hne]⟩

theorem wanted_none {o : Oper} (h : o.guard = none) (ops : Array Oper) (a : Act) : Region.wanted o (yielded ops a.tmps) = true := by simp [Region.wanted, h]

theorem yields_still {o : Oper} {v : Value} {Q : Act → Prop} (h : Yields P o.op a w v) (hQ : Q (a.put o.dst v)) : o.still P a w Q := by
  unfold Oper.still
  obtain ⟨d, op, ty, pos, after, g⟩ := o
  rcases h d ty pos after g with h | ⟨f, args, h, hc⟩
  · rw [h]; exact ⟨rfl, hQ⟩
  · rw [h]; exact ⟨rfl, v, hc, hQ⟩

theorem exOps_still (hS : TabOk P S) {ops : Array Oper} {Q : Act → Prop} (hm : MemOk T w mem) : ∀ (l : List Oper) (env : List (Nat × SV)) (a : Act) (K : List (Nat × SV) → Prop),
    Fr T S.n a env → exOps S l env mem K → (∀ env' a', Fr T S.n a' env' → K env' → Q a') → wpStill P ops w Q l a
  | [], env, a, K, hf, h, hK => hK _ _ hf h
  | o :: r, env, a, K, hf, h, hK => by
    simp only [exOps] at h
    split at h
    · rename_i d hg hd
      obtain ⟨hb, h⟩ := onb_true h
      have hdn : d < S.n := by simpa [Nat.blt_eq] using hb
      obtain ⟨v, vo, hv, hy⟩ := exq_sound hS hf hm h
      unfold wpStill
      rw [if_pos (wanted_none hg ops a)]
      refine yields_still hy ?_
      rw [hd]
      exact exOps_still hS hm r _ _ K (hf.put hdn vo) hv hK
    · exact h.elim

theorem yields_wp {o : Oper} {v : Value} {K : Act → World → Prop} {Q : Exit → Act → World → Prop} (h : Yields P o.op a w v) (hQ : K (a.put o.dst v) w) : o.wp P a w K Q := by
  unfold Oper.wp
  obtain ⟨d, op, ty, pos, after, g⟩ := o
  rcases h d ty pos after g with h | ⟨f, args, h, hc⟩
  · rw [h]; exact hQ
  · rw [h]
    exact hc.mono fun e w' ⟨he, hw⟩ => by subst he hw; exact hQ

theorem exOps_list (hS : TabOk P S) {ops : Array Oper} {rest : List Oper} {Q : Exit → Act → World → Prop} (hm : MemOk T w mem) : ∀ (l : List Oper) (env : List (Nat × SV)) (a : Act) (K : List (Nat × SV) → Prop),
    Fr T S.n a env → exOps S l env mem K → (∀ env' a', Fr T S.n a' env' → K env' → wpList P ops Q rest a' w) → wpList P ops Q (l ++ rest) a w
  | [], env, a, K, hf, h, hK => hK _ _ hf h
  | o :: r, env, a, K, hf, h, hK => by
    simp only [exOps] at h
    split at h
    · rename_i d hg hd
      obtain ⟨hb, h⟩ := onb_true h
      have hdn : d < S.n := by simpa [Nat.blt_eq] using hb
      obtain ⟨v, vo, hv, hy⟩ := exq_sound hS hf hm h
      rw [List.cons_append]
      refine wpList_plain hg fun K' hK' => yields_wp hy (hK' _ _ ?_)
      rw [hd]
      exact exOps_list hS hm r _ _ K (hf.put hdn vo) hv hK
    · exact h.elim

/-- The world with words stored. -/
def app (T : Nat → Addr) (w : World) : List (Nat × Nat × SV) → World
  | [] => w
  | (i, k, v) :: r => app T (w.setCell ((T i).add k) (v.den T)) r

theorem app_snoc (l : List (Nat × Nat × SV)) (i k : Nat) (v : SV) : ∀ w, app T w (l ++ [(i, k, v)]) = (app T w l).setCell ((T i).add k) (v.den T) := by
  induction l with
  | nil => intro w; rfl
  | cons x r ih => intro w; obtain ⟨i', k', v'⟩ := x; simp only [List.cons_append, app, ih]

theorem setCell_some (w : World) (p q : Addr) (v : Value) (h : (w.cell? q).isSome = true) : ((w.setCell p v).cell? q).isSome = true := by
  by_cases e : p = q
  · subst e
    obtain ⟨x, hx⟩ := Option.isSome_iff_exists.1 h
    rw [World.cell?_setCell_same w p v hx]; rfl
  · rw [World.cell?_setCell_other w p q v e]; exact h

theorem app_some (l : List (Nat × Nat × SV)) : ∀ (w : World) (q : Addr), (w.cell? q).isSome = true → ((app T w l).cell? q).isSome = true := by
  induction l with
  | nil => intro w q h; exact h
  | cons x r ih => intro w q h; obtain ⟨i', k', v'⟩ := x; exact ih _ _ (setCell_some _ _ _ _ h)

theorem app_frozen (l : List (Nat × Nat × SV)) : ∀ (w : World) (q : Addr), (app T w l).frozen? q = w.frozen? q := by
  induction l with
  | nil => intro w q; rfl
  | cons x r ih => intro w q; obtain ⟨i', k', v'⟩ := x; rw [app, ih, World.frozen?_setCell]


/-- What the run says of the world: N blocks stood at the start; tags from 100 on are the blocks of the run's own. -/
structure WR (S : Tab) (T : Nat → Addr) (w0 w : World) (s : St) : Prop where
  below : Below w0.heap.size (app T w0 s.out) w
  size : w.heap.size = w0.heap.size + s.nal
  mem : MemOk T w s.mem
  news : ∀ k, k < s.nal → (w.cell? ⟨w0.heap.size + k, 0, none⟩).isSome = true ∧ w.frozen? ⟨w0.heap.size + k, 0, none⟩ = false

/-- What the tags stand for. -/
structure TagOk (S : Tab) (T : Nat → Addr) (w0 : World) : Prop where
  new : ∀ k, T (100 + k) = ⟨w0.heap.size + k, 0, none⟩
  old : ∀ i, i < 100 → (T i).block < w0.heap.size
  out : ∀ i n, lkn S.outs i = some n → ∀ k, k < n → ((T i).add k).block < w0.heap.size ∧ (w0.cell? ((T i).add k)).isSome = true ∧ w0.frozen? ((T i).add k) = false

theorem block_of_add (a : Addr) (n : Nat) : (a.add n).block = a.block := by unfold Addr.add; split <;> rfl

theorem below_set {B : Nat} {x y : World} (h : Below B x y) (p : Addr) (v : Value) : Below B (x.setCell p v) (y.setCell p v) := by
  refine ⟨h.os, h.tape, h.output, by simpa using h.size, fun k hk => ?_⟩
  simp only [World.setCell, Array.getElem?_modify, h.block k hk]

theorem WR.drew {S : Tab} {T : Nat → Addr} {w0 w : World} {s : St} (h : WR S T w0 w s) : WR S T w0 w.drew s :=
  ⟨h.below.drew, h.size, h.mem, h.news⟩

theorem lkm_own {i k : Nat} {s : SV} : ∀ {mem : List (Nat × Nat × SV)}, lkm (own mem) i k = some s → lkm mem i k = some s ∧ 100 ≤ i ∨ False
  | [], h => by cases h
  | (i', k', s') :: r, h => by
    left
    simp only [own] at h
    cases hb : Nat.ble 100 i' with
    | true =>
      rw [hb] at h
      simp only [cond_true, lkm] at h ⊢
      cases hc : Nat.beq i' i && Nat.beq k' k with
      | true =>
        rw [hc] at h
        refine ⟨h, ?_⟩
        simp only [Bool.and_eq_true] at hc
        have e1 : i' = i := Nat.eq_of_beq_eq_true hc.1
        have e2 : 100 ≤ i' := Nat.le_of_ble_eq_true hb
        omega
      | false =>
        rw [hc] at h
        simp only [cond_false] at h ⊢
        exact (lkm_own h).resolve_right id
    | false =>
      rw [hb] at h
      simp only [cond_false] at h
      obtain ⟨h1, h2⟩ := (lkm_own h).resolve_right id
      simp only [lkm]
      cases hc : Nat.beq i' i && Nat.beq k' k with
      | true =>
        simp only [Bool.and_eq_true] at hc
        have e1 : i' = i := Nat.eq_of_beq_eq_true hc.1
        subst e1
        have : Nat.ble 100 i' = true := Nat.ble_eq_true_of_le h2
        rw [this] at hb; cases hb
      | false => exact ⟨h1, h2⟩

theorem small_one {T : Nat → Addr} {v : SV} (h : small v = true) : (v.den T).oneCell' = true ∧ (v.den T).cells = #[v.den T] := by
  unfold small at h
  split at h <;> first | exact ⟨rfl, rfl⟩ | cases h

theorem exTail_sound {P : Program} {S : Tab} {T : Nat → Addr} {w0 w : World} {a : Act} {o : Oper} {s : St} {K : St → Prop} {N : Act → World → Prop} {Q : Exit → Act → World → Prop}
    (hS : TabOk P S) (hT : TagOk S T w0) (hf : Fr T S.n a s.env) (hw : WR S T w0 w s) (h : exTail S o s K) (hN : ∀ s' a' w', Fr T S.n a' s'.env → WR S T w0 w' s' → K s' → N a' w') :
    o.guard = none ∧ o.wp P a w N Q := by
  unfold exTail at h
  obtain ⟨d, op, ty, pos, after, g⟩ := o
  simp only at h
  split at h
  · exact h.elim
  refine ⟨rfl, ?_⟩
  split at h
  · rename_i t p x
    obtain ⟨q, hq, h⟩ := obind_some h
    obtain ⟨q', hq', h⟩ := obind_some h
    obtain ⟨n, hn, h⟩ := obind_some h
    obtain ⟨hb, h⟩ := onb_true h
    obtain ⟨v, hv, h⟩ := obind_some h
    obtain ⟨hsm, h⟩ := onb_true h
    simp only [Bool.and_eq_true, Nat.blt_eq] at hb
    obtain ⟨⟨hb1, hb2⟩, hb3⟩ := hb
    obtain ⟨qo, qe⟩ := ev_some hf hq
    obtain ⟨_, qe'⟩ := wptr_some (T := T) hq'
    obtain ⟨vo, ve⟩ := ev_some hf hv
    obtain ⟨ho1, ho2⟩ := small_one (T := T) hsm
    obtain ⟨c1, c2, c3⟩ := hT.out _ _ hn _ hb1
    have hcell : (w.cell? ((T q'.1).add q'.2)).isSome = true := by
      rw [hw.below.cell c1]
      exact app_some _ _ _ c2
    have hfz : w.frozen? ((T q'.1).add q'.2) = false := by
      rw [hw.below.frozen c1, app_frozen]
      exact c3
    obtain ⟨u, hu⟩ := Option.isSome_iff_exists.1 hcell
    have hrun : (execOp a.eval ⟨none, .store t p x, ty, pos, after, none⟩).run P w = .ok .skip (w.setCell ((T q'.1).add q'.2) (v.den T)) := by
      simp only [execOp, qe, qe', ve, Instr.storeAt, Instr.sureAddr, storeVar, Sem.run_bind, Sem.run_pure, Result.andThen_ok, (hS.one t hb2 w).2, ho2, storeCells]
      simp [Addr.add_zero', run_store _ _ _ _ _ ho1, hu, hfz]
    unfold Oper.wp
    rw [hrun]
    refine hN ⟨s.env, own s.mem, s.out ++ [(q'.1, q'.2, v)], s.nal⟩ _ _ hf ⟨?_, ?_, ?_, ?_⟩ h
    · simp only [app_snoc]
      exact below_set hw.below _ _
    · simpa using hw.size
    · intro i k s' hm
      obtain ⟨hm1, hm2⟩ := (lkm_own hm).resolve_right id
      obtain ⟨m1, m2⟩ := hw.mem _ _ _ hm1
      refine ⟨m1, ?_⟩
      rw [World.cell?_setCell_other _ _ _ _ ?_]
      · exact m2
      · intro e
        have e1 := congrArg Addr.block e
        rw [block_of_add _ k, show i = 100 + (i - 100) from by omega, hT.new] at e1
        simp only at e1
        omega
    · intro k hk
      obtain ⟨n1, n2⟩ := hw.news k hk
      exact ⟨setCell_some _ _ _ _ n1, by rw [World.frozen?_setCell]; exact n2⟩
  · rename_i t d'
    obtain ⟨hb, h⟩ := onb_true h
    simp only [Bool.and_eq_true, Nat.blt_eq] at hb
    have hz := (hS.k64 t hb.2).2 w
    have hrun : (execOp a.eval ⟨some d', .alloc t, ty, pos, after, none⟩).run P w = .ok (.value (.pointer (some ⟨w.heap.size, 0, none⟩))) (w.alloc (.cells #[.int .u64 0] t)) := by
      simp only [execOp, Instr.alloc, newVar, newRow, Value.cells, Sem.run_bind, Sem.run_pure, Result.andThen_ok, hz, run_newObj]
      rfl
    unfold Oper.wp
    rw [hrun]
    have hp : Value.pointer (some ⟨w.heap.size, 0, none⟩) = SV.den T ⟨3, 100 + s.nal, 0⟩ := by
      show _ = Value.pointer (some ((T (100 + s.nal)).add 0))
      rw [hT.new, hw.size]; rfl
    refine hN ⟨(d', ⟨3, 100 + s.nal, 0⟩) :: s.env, (100 + s.nal, 0, ⟨0, 0, 0⟩) :: s.mem, s.out, s.nal + 1⟩ _ _ ?_ ⟨?_, ?_, ?_, ?_⟩ h
    · rw [hp]
      exact hf.put hb.1 trivial
    · exact hw.below.alloc (by rw [hw.size]; omega) _
    · simp only [World.size_alloc, hw.size]; omega
    · intro i k s' hm
      simp only [lkm] at hm
      cases hc : Nat.beq (100 + s.nal) i && Nat.beq 0 k with
      | true =>
        rw [hc] at hm
        simp only [cond_true, Option.some.injEq] at hm
        subst hm
        simp only [Bool.and_eq_true] at hc
        have e1 := Nat.eq_of_beq_eq_true hc.1
        have e2 := Nat.eq_of_beq_eq_true hc.2
        subst e1 e2
        refine ⟨(by omega : (0 : Nat) < 18446744073709551616), ?_⟩
        rw [hT.new, ← hw.size]
        show (w.alloc _).cell? ⟨w.heap.size, 0, none⟩ = _
        rw [World.cell?_alloc_new]; rfl
      | false =>
        rw [hc] at hm
        simp only [cond_false] at hm
        obtain ⟨m1, m2⟩ := hw.mem _ _ _ hm
        refine ⟨m1, ?_⟩
        rw [World.cell?_alloc_lt]
        · exact m2
        · apply Classical.byContradiction
          intro hge
          unfold World.cell? at m2
          rw [Array.getElem?_eq_none (by omega)] at m2
          cases m2
    · intro k hk
      have hk : k < s.nal + 1 := hk
      by_cases e : k = s.nal
      · subst e
        rw [← hw.size]
        rw [World.cell?_alloc_new, World.frozen?_alloc_new]
        exact ⟨rfl, rfl⟩
      · obtain ⟨n1, n2⟩ := hw.news k (by omega)
        rw [World.cell?_alloc_lt _ _ _ (by simp only [hw.size]; omega), World.frozen?_alloc_old _ _ _ (by simp only [hw.size]; omega)]
        exact ⟨n1, n2⟩
  · rename_i f args tys d'
    obtain ⟨l⟩ := args
    simp only at h
    split at h
    · rename_i p c x y hl
      obtain ⟨hb, h⟩ := onb_true h
      obtain ⟨q, hq, h⟩ := obind_some h
      obtain ⟨q', hq', h⟩ := obind_some h
      obtain ⟨hb', h⟩ := onb_true h
      obtain ⟨c1, hc1, h⟩ := obind_some h
      obtain ⟨c2, hc2, h⟩ := obind_some h
      obtain ⟨x1, hx1, h⟩ := obind_some h
      obtain ⟨x2, hx2, h⟩ := obind_some h
      obtain ⟨y1, hy1, h⟩ := obind_some h
      obtain ⟨y2, hy2, h⟩ := obind_some h
      have hfm : f = S.fCm := Nat.eq_of_beq_eq_true hb
      simp only [Bool.and_eq_true, Nat.blt_eq] at hb'
      obtain ⟨⟨hb1, hb2⟩, hb3⟩ := hb'
      have hb1 := Nat.eq_of_beq_eq_true hb1
      have hb2 := Nat.le_of_ble_eq_true hb2
      obtain ⟨qo, qe⟩ := ev_some hf hq
      obtain ⟨_, qe'⟩ := wptr_some (T := T) hq'
      obtain ⟨co, ce⟩ := ev_some hf hc1
      obtain ⟨cb, ce'⟩ := wbit_some (T := T) hc2 co
      obtain ⟨xo, xe⟩ := ev_some hf hx1
      obtain ⟨xb, xe'⟩ := w64_some (T := T) hx2 xo
      obtain ⟨yo, ye⟩ := ev_some hf hy1
      obtain ⟨yb, ye'⟩ := w64_some (T := T) hy2 yo
      have hk : q'.1 = 100 + (q'.1 - 100) := by omega
      have hp : (T q'.1).add q'.2 = ⟨w0.heap.size + (q'.1 - 100), 0, none⟩ := by
        rw [hb1, hk, hT.new]
        simp [Addr.add]
      obtain ⟨n1, n2⟩ := hw.news (q'.1 - 100) (by omega)
      rw [← hp] at n1 n2
      have hrun : (execOp a.eval ⟨some d', .call ⟨.value (.func f), ⟨[p, c, x, y]⟩, tys⟩, ty, pos, after, none⟩).run P w =
          .ok (.enter S.fCm #[.pointer (some ((T q'.1).add q'.2)), .int .u64 c2, .int .u64 x2, .int .u64 y2]) w := by
        simp only [execOp, resolve, Deferred.ofValue, invoke, eval_func, hfm, Sem.run_bind, Sem.run_pure, Result.andThen_ok, List.map_toArray, List.map_cons, List.map_nil, qe, qe', ce, ce', xe, xe', ye, ye', List.append_toArray, List.nil_append, List.append_nil, hS.cmIn]
      unfold Oper.wp
      rw [hrun]
      have hz : (if c2 = 0 then x2 else y2) < 18446744073709551616 := by split <;> assumption
      refine (hS.cm _ _ _ _ _ n1 n2 xb yb cb).mono fun e w' ⟨he, hw'⟩ => ?_
      subst he hw'
      refine hN ⟨s.env, (q'.1, 0, ⟨0, if c2 = 0 then x2 else y2, 0⟩) :: s.mem, s.out, s.nal⟩ _ _ ?_ ⟨?_, ?_, ?_, ?_⟩ (h _ hz rfl)
      · refine ⟨by simp [Act.put, hf.size], hf.defers, fun i s' hi => ?_⟩
        obtain ⟨g1, g2⟩ := hf.get i s' hi
        refine ⟨g1, ?_⟩
        rw [← g2]
        have hne : d' ≠ i := by
          rintro rfl
          rw [hl] at hi
          cases hi
        simp [Act.put, hne]
      · refine hw.below.setCell ?_ _
        rw [hp]; simp
      · simpa using hw.size
      · intro i k s' hm
        simp only [lkm] at hm
        cases hc : Nat.beq q'.1 i && Nat.beq 0 k with
        | true =>
          rw [hc] at hm
          simp only [cond_true, Option.some.injEq] at hm
          subst hm
          simp only [Bool.and_eq_true] at hc
          have e1 := Nat.eq_of_beq_eq_true hc.1
          have e2 := Nat.eq_of_beq_eq_true hc.2
          subst e1 e2
          refine ⟨hz, ?_⟩
          have e3 : (T q'.1).add 0 = (T q'.1).add q'.2 := by rw [hb1]
          rw [e3, World.cell?_setCell_same' _ _ _ n1]; rfl
        | false =>
          rw [hc] at hm
          simp only [cond_false] at hm
          obtain ⟨m1, m2⟩ := hw.mem _ _ _ hm
          refine ⟨m1, ?_⟩
          rw [World.cell?_setCell_other]
          · exact m2
          · intro e
            rw [hp] at e
            by_cases hi : i < 100
            · have e1 := congrArg Addr.block e
              rw [block_of_add] at e1
              have := hT.old i hi
              simp only at e1
              omega
            · rw [show i = 100 + (i - 100) from by omega, hT.new] at e
              have e1 := congrArg Addr.block e
              rw [block_of_add] at e1
              simp only at e1
              have hiq : q'.1 = i := by omega
              have hk0 : k ≠ 0 := by
                rintro rfl
                rw [hiq] at hc
                simp at hc
              have e2 := congrArg Addr.off e
              simp [Addr.add, hk0] at e2
              omega
      · intro k hk
        obtain ⟨n1, n2⟩ := hw.news k hk
        exact ⟨setCell_some _ _ _ _ n1, by rw [World.frozen?_setCell]; exact n2⟩
    · exact h.elim
  · exact h.elim


theorem lastIsTail_some {ops : List Oper} {o : Oper} (h : lastIsTail ops = some o) : ops = ops.dropLast ++ [o] := by
  unfold lastIsTail at h
  split at h
  · rename_i o' ho
    cases hb : isTail o'.op with
    | false => rw [hb] at h; cases h
    | true =>
      rw [hb] at h
      simp only [cond_true, Option.some.injEq] at h
      subst h
      obtain ⟨l, rfl⟩ := List.getLast?_eq_some_iff.1 ho
      simp
  · cases h

theorem exRegion_sound {P : Program} {S : Tab} {T : Nat → Addr} {w0 w : World} {a : Act} {s : St} {K : St → Prop} {Q : Exit → Act → World → Prop} {ops : List Oper} {id : Nat} {draw : Bool}
    (hS : TabOk P S) (hT : TagOk S T w0) (hf : Fr T S.n a s.env) (hw : WR S T w0 w s) (h : exRegion S ops draw s K) (hN : ∀ s' a' w', Fr T S.n a' s'.env → WR S T w0 w' s' → K s' → Q .normal a' w') :
    (Code.region id ops.toArray draw).wp P Q a w := by
  unfold exRegion at h
  split at h
  · rename_i o ho
    have hops := lastIsTail_some ho
    obtain ⟨hb, h2⟩ := onb_true h
    clear h
    cases draw with
    | false =>
      refine wp_region_lit ?_
      rw [hops]
      refine exOps_list hS hw.mem _ _ _ _ hf h2 fun env' a' hf' hk => ?_
      have := exTail_sound (N := wpList P (ops.dropLast ++ [o]).toArray Q []) (Q := Q) (w := w) hS hT (s := ⟨env', s.mem, s.out, s.nal⟩) hf' ⟨hw.below, hw.size, hw.mem, hw.news⟩ hk (fun s' a' w' h1 h2 h3 => wpList_nil (hN s' a' w' h1 h2 h3))
      refine wpList_plain this.1 fun K' hK' => ?_
      exact (exTail_sound (N := K') (Q := Q) (w := w) hS hT (s := ⟨env', s.mem, s.out, s.nal⟩) hf' ⟨hw.below, hw.size, hw.mem, hw.news⟩ hk (fun s' a' w' h1 h2 h3 => hK' _ _ (wpList_nil (hN s' a' w' h1 h2 h3)))).2
    | true =>
      simp only [Bool.not_true, Bool.false_or] at hb
      have hw' : WR S T w0 { w with drawn := w.drawn + 1 } s := hw.drew
      have hlen : ops.length = ops.dropLast.length + 1 := by
        conv => lhs; rw [hops]
        simp
      refine wp_region_still_tail ops.dropLast.length hS.wide hb ?_
      have e1 : ops.take ops.dropLast.length = ops.dropLast := by
        conv => lhs; arg 2; rw [hops]
        simp
      have e2 : ops.drop ops.dropLast.length = [o] := by
        conv => lhs; arg 2; rw [hops]
        simp
      rw [e1, e2]
      refine exOps_still hS hw'.mem _ _ _ _ hf h2 fun env' a' hf' hk => ?_
      have := exTail_sound (N := fun _ _ => True) (Q := Q) (w := { w with drawn := w.drawn + 1 }) hS hT (s := ⟨env', s.mem, s.out, s.nal⟩) hf' ⟨hw'.below, hw'.size, hw'.mem, hw'.news⟩ hk (fun _ _ _ _ _ _ => trivial)
      refine wpList_plain this.1 fun K' hK' => ?_
      exact (exTail_sound (N := K') (Q := Q) (w := { w with drawn := w.drawn + 1 }) hS hT (s := ⟨env', s.mem, s.out, s.nal⟩) hf' ⟨hw'.below, hw'.size, hw'.mem, hw'.news⟩ hk (fun s' a' w' h1 h2 h3 => hK' _ _ (wpList_nil (hN s' a' w' h1 h2 h3)))).2
  · obtain ⟨hb, h2⟩ := onb_true h
    clear h
    cases draw with
    | false =>
      refine wp_region_lit ?_
      have := exOps_list (ops := ops.toArray) (rest := []) (Q := Q) hS hw.mem ops s.env a _ hf h2 fun env' a' hf' hk => wpList_nil (hN ⟨env', s.mem, s.out, s.nal⟩ _ _ hf' ⟨hw.below, hw.size, hw.mem, hw.news⟩ hk)
      rwa [List.append_nil] at this
    | true =>
      simp only [Bool.not_true, Bool.false_or] at hb
      have hw' : WR S T w0 { w with drawn := w.drawn + 1 } s := hw.drew
      refine wp_region_still_lit hS.wide hb ?_
      exact exOps_still hS hw'.mem _ _ _ _ hf h2 fun env' a' hf' hk => hN ⟨env', s.mem, s.out, s.nal⟩ _ _ hf' ⟨hw'.below, hw'.size, hw'.mem, hw'.news⟩ hk

theorem exC_sound {P : Program} {S : Tab} {T : Nat → Addr} {w0 : World} (hS : TabOk P S) (hT : TagOk S T w0) : ∀ (c : Code) (s : St) (K : St → Prop) (Q : Exit → Act → World → Prop) (a : Act) (w : World),
    Fr T S.n a s.env → WR S T w0 w s → exC S c s K → (∀ s' a' w', Fr T S.n a' s'.env → WR S T w0 w' s' → K s' → Q .normal a' w') → c.wp P Q a w := by
  intro c
  induction c with
  | skip => intro s K Q a w hf hw h hN; exact wp_skip (hN _ _ _ hf hw h)
  | region id ops draw =>
    intro s K Q a w hf hw h hN
    have := exRegion_sound (id := id) hS hT hf hw h hN
    simpa using this
  | seq x y ihx ihy =>
    intro s K Q a w hf hw h hN
    refine wp_seq (ihx s _ _ a w hf hw h fun s' a' w' hf' hw' h' => ?_)
    exact ihy s' K Q a' w' hf' hw' h' hN
  | _ => intro s K Q a w hf hw h hN; exact h.elim

def entry : List SV → Nat → List (Nat × SV)
  | [], _ => []
  | s :: r, i => (i, s) :: entry r (i + 1)

theorem lk_entry {l : List SV} {n i : Nat} {s : SV} (h : lk (entry l n) i = some s) : n ≤ i ∧ l[i - n]? = some s := by
  induction l generalizing n with
  | nil => cases h
  | cons x r ih =>
    simp only [entry, lk] at h
    cases hb : Nat.beq n i with
    | true =>
      rw [hb] at h
      have : n = i := Nat.eq_of_beq_eq_true hb
      subst this
      simp only [cond_true] at h
      exact ⟨Nat.le_refl _, by simpa using h⟩
    | false =>
      rw [hb] at h
      simp only [cond_false] at h
      have hne : n ≠ i := Nat.ne_of_beq_eq_false hb
      obtain ⟨h1, h2⟩ := ih h
      refine ⟨by omega, ?_⟩
      rw [show i - n = (i - (n + 1)) + 1 from by omega]
      simpa using h2

/-- The contract of a function of straight-line code without results. -/
theorem ex_calls {P : Program} {S : Tab} {T : Nat → Addr} {w : World} (hS : TabOk P S) (hT : TagOk S T w) {f : FuncId} {fn : Func} {c : Code} (hf : P.funcs[f]? = some fn) (hb : fn.body = some c)
    (hr : fn.results = #[]) (hn : fn.ntmps = S.n) (args : List SV) (ha : args.length ≤ S.n) (hao : ∀ s ∈ args, s.ok) (mem : List (Nat × Nat × SV)) (hm : MemOk T w mem) (K : St → Prop) (h : exC S c ⟨entry args 0, mem, [], 0⟩ K) :
    Calls P f (args.map (SV.den T)).toArray w fun e w' => e = .returned (.tuple #[]) ∧ ∃ s, K s ∧ WR S T w w' s := by
  refine calls_of_wp hf hb ?_
  refine exC_sound hS hT c ⟨entry args 0, mem, [], 0⟩ K _ _ _ ⟨?_, rfl, ?_⟩ ⟨Below.refl _ _, rfl, hm, ?_⟩ h ?_
  · simp only [List.size_toArray, List.length_map, Array.size_append, Array.size_replicate, hn]
    omega
  · intro i s hi
    obtain ⟨_, h2⟩ := lk_entry hi
    rw [Nat.sub_zero] at h2
    refine ⟨hao s (List.mem_of_getElem? h2), ?_⟩
    have hlt : i < args.length := (List.getElem?_eq_some_iff.1 h2).1
    rw [Array.getD_eq_getD_getElem?, Array.getElem?_append_left (by simpa using hlt)]
    simp [h2]
  · intro k hk; exact absurd hk (by simp)
  · intro s' a' w' hf' hw' hk
    exact bodyPost_end (results_none hr _ _ _) hf'.defers ⟨rfl, s', hk, hw'⟩

end

end Go.Proofs.Ytdaheccfeihpgaa.Nm

namespace Go.Proofs.Ytdaheccfeihpgaa.Nm
theorem mulrow {p0 p1 p2 p3 hi0 lo0 hi1 lo1 hi2 lo2 hi3 lo3 s1 c1 s2 c2 s3 c3 s4 : Nat}
    (h0 : hi0 * 18446744073709551616 + lo0 = p0) (h1 : hi1 * 18446744073709551616 + lo1 = p1) (h2 : hi2 * 18446744073709551616 + lo2 = p2) (h3 : hi3 * 18446744073709551616 + lo3 = p3)
    (e1 : s1 + 18446744073709551616 * c1 = hi0 + lo1 + 0) (e2 : s2 + 18446744073709551616 * c2 = hi1 + lo2 + c1) (e3 : s3 + 18446744073709551616 * c3 = hi2 + lo3 + c2)
    (e4 : s4 = (c3 + hi3) % 18446744073709551616) (b3 : c3 ≤ 1) (bp : p3 ≤ 18446744073709551615 * 18446744073709551615) :
    lo0 + 18446744073709551616 * s1 + 340282366920938463463374607431768211456 * s2 + 6277101735386680763835789423207666416102355444464034512896 * s3 + 115792089237316195423570985008687907853269984665640564039457584007913129639936 * s4 =
    p0 + 18446744073709551616 * p1 + 340282366920938463463374607431768211456 * p2 + 6277101735386680763835789423207666416102355444464034512896 * p3 := by
  have : hi3 ≤ 18446744073709551614 := by omega
  have : s4 = c3 + hi3 := by omega
  omega

theorem final4 {s0 s1 s2 s3 s4 d0 b0 d1 b1 d2 b2 d3 b3 d4 b4 o0 o1 o2 o3 : Nat}
    (l0 : s0 < 18446744073709551616) (l1 : s1 < 18446744073709551616) (l2 : s2 < 18446744073709551616) (l3 : s3 < 18446744073709551616)
    (m0 : d0 < 18446744073709551616) (m1 : d1 < 18446744073709551616) (m2 : d2 < 18446744073709551616) (m3 : d3 < 18446744073709551616) (m4 : d4 < 18446744073709551616)
    (n4 : b4 ≤ 1)
    (e0 : d0 + 1 + 0 = s0 + 18446744073709551616 * b0) (e1 : d1 + 18446744069414584320 + b0 = s1 + 18446744073709551616 * b1) (e2 : d2 + 18446744073709551615 + b1 = s2 + 18446744073709551616 * b2)
    (e3 : d3 + 4294967295 + b2 = s3 + 18446744073709551616 * b3) (e4 : d4 + 0 + b3 = s4 + 18446744073709551616 * b4)
    (q0 : o0 = if b4 = 0 then d0 else s0) (q1 : o1 = if b4 = 0 then d1 else s1) (q2 : o2 = if b4 = 0 then d2 else s2) (q3 : o3 = if b4 = 0 then d3 else s3)
    (hT : s0 + 18446744073709551616 * s1 + 340282366920938463463374607431768211456 * s2 + 6277101735386680763835789423207666416102355444464034512896 * s3 + 115792089237316195423570985008687907853269984665640564039457584007913129639936 * s4 < 2 * 26959946667150639794667015087019630673557916260026308143510066298881) :
    o0 + 18446744073709551616 * o1 + 340282366920938463463374607431768211456 * o2 + 6277101735386680763835789423207666416102355444464034512896 * o3 < 26959946667150639794667015087019630673557916260026308143510066298881 ∧
    (o0 + 18446744073709551616 * o1 + 340282366920938463463374607431768211456 * o2 + 6277101735386680763835789423207666416102355444464034512896 * o3 = s0 + 18446744073709551616 * s1 + 340282366920938463463374607431768211456 * s2 + 6277101735386680763835789423207666416102355444464034512896 * s3 + 115792089237316195423570985008687907853269984665640564039457584007913129639936 * s4 ∨
     o0 + 18446744073709551616 * o1 + 340282366920938463463374607431768211456 * o2 + 6277101735386680763835789423207666416102355444464034512896 * o3 + 26959946667150639794667015087019630673557916260026308143510066298881 = s0 + 18446744073709551616 * s1 + 340282366920938463463374607431768211456 * s2 + 6277101735386680763835789423207666416102355444464034512896 * s3 + 115792089237316195423570985008687907853269984665640564039457584007913129639936 * s4) := by
  have hs4 : s4 = 0 := by omega
  by_cases hb : b4 = 0
  · rw [if_pos hb] at q0 q1 q2 q3
    constructor
    · omega
    · right; omega
  · rw [if_neg hb] at q0 q1 q2 q3
    have : b4 = 1 := by omega
    constructor
    · omega
    · left; omega

theorem low_zero {u m v z c : Nat} (hm : u * 18446744073709551616 + m = z * 18446744073709551615) (e0 : v + 18446744073709551616 * c = z + m + 0)
    (bv : v < 18446744073709551616) : v = 0 := by omega

theorem redrow {m x71 x70 x73 x72 x75 x74 x76 x77 x78 x79 x80 : Nat}
    (h3 : x71 * 18446744073709551616 + x70 = m * 4294967295) (h2 : x73 * 18446744073709551616 + x72 = m * 18446744073709551615) (h1 : x75 * 18446744073709551616 + x74 = m * 18446744069414584320)
    (d1 : x76 + 18446744073709551616 * x77 = x75 + x72 + 0) (d2 : x78 + 18446744073709551616 * x79 = x73 + x70 + x77) (d3 : x80 = x79 + x71) :
    m * 26959946667150639794667015087019630673557916260026308143510066298881 =
    m + 18446744073709551616 * x74 + 340282366920938463463374607431768211456 * x76 + 6277101735386680763835789423207666416102355444464034512896 * x78 + 115792089237316195423570985008687907853269984665640564039457584007913129639936 * x80 := by
  have e : 26959946667150639794667015087019630673557916260026308143510066298881 = 1 + 18446744073709551616 * 18446744069414584320 + 340282366920938463463374607431768211456 * 18446744073709551615 + 6277101735386680763835789423207666416102355444464034512896 * 4294967295 := by rfl
  rw [e, Nat.mul_add, Nat.mul_add, Nat.mul_add, Nat.mul_one, Nat.mul_left_comm m 18446744073709551616, Nat.mul_left_comm m 340282366920938463463374607431768211456, Nat.mul_left_comm m 6277101735386680763835789423207666416102355444464034512896, ← h1, ← h2, ← h3]
  clear e h1 h2 h3
  omega

theorem redtop {m x71 x70 x79 x80 : Nat} (bm : m < 18446744073709551616)
    (h3 : x71 * 18446744073709551616 + x70 = m * 4294967295) (d3 : x80 = (x79 + x71) % 18446744073709551616) (b79 : x79 ≤ 1) : x80 = x79 + x71 := by omega

theorem reduce {z0 z1 z2 z3 z4 z5 u m v x71 x70 x73 x72 x75 x74 x76 x77 x78 x79 x80 x82 r0 c0 r1 c1 r2 c2 r3 c3 r4 : Nat}
    (hm : u * 18446744073709551616 + m = z0 * 18446744073709551615) (bm : m < 18446744073709551616)
    (h3 : x71 * 18446744073709551616 + x70 = m * 4294967295) (h2 : x73 * 18446744073709551616 + x72 = m * 18446744073709551615) (h1 : x75 * 18446744073709551616 + x74 = m * 18446744069414584320)
    (d1 : x76 + 18446744073709551616 * x77 = x75 + x72 + 0) (d2 : x78 + 18446744073709551616 * x79 = x73 + x70 + x77) (d3 : x80 = (x79 + x71) % 18446744073709551616) (b79 : x79 ≤ 1)
    (e0 : v + 18446744073709551616 * x82 = z0 + m + 0) (bv : v < 18446744073709551616)
    (e1 : r0 + 18446744073709551616 * c0 = z1 + x74 + x82) (e2 : r1 + 18446744073709551616 * c1 = z2 + x76 + c0) (e3 : r2 + 18446744073709551616 * c2 = z3 + x78 + c1) (e4 : r3 + 18446744073709551616 * c3 = z4 + x80 + c2)
    (e5 : r4 = (c3 + z5) % 18446744073709551616) (b3 : c3 ≤ 1) (b5 : z5 ≤ 1) :
    (r0 + 18446744073709551616 * r1 + 340282366920938463463374607431768211456 * r2 + 6277101735386680763835789423207666416102355444464034512896 * r3 + 115792089237316195423570985008687907853269984665640564039457584007913129639936 * r4) * 18446744073709551616 =
    z0 + 18446744073709551616 * z1 + 340282366920938463463374607431768211456 * z2 + 6277101735386680763835789423207666416102355444464034512896 * z3 + 115792089237316195423570985008687907853269984665640564039457584007913129639936 * z4 + 2135987035920910082395021706169552114602704522356652769947041607822219725780640550022962086936576 * z5 + m * 26959946667150639794667015087019630673557916260026308143510066298881 := by
  have hv := low_zero hm e0 bv
  have hr := redrow h3 h2 h1 d1 d2 (redtop bm h3 d3 b79)
  have h4 : r4 = c3 + z5 := by clear hr hm h3 h2 h1 d1 d2 d3 e0 e1 e2 e3 e4; omega
  rw [hr]
  subst hv h4
  clear hr hm h3 h2 h1 d1 d2 d3 b79 e5 bm bv b3 b5
  omega
end Go.Proofs.Ytdaheccfeihpgaa.Nm

namespace Go.Proofs.Ytdaheccfeihpgaa.Nm
/-- Four words as a number. -/
def ev4 (a b c d : Nat) : Nat := a + 18446744073709551616 * b + 340282366920938463463374607431768211456 * c + 6277101735386680763835789423207666416102355444464034512896 * d
/-- 2^256 -/
def R4 : Nat := 115792089237316195423570985008687907853269984665640564039457584007913129639936
/-- The prime. -/
def pp : Nat := 26959946667150639794667015087019630673557916260026308143510066298881

theorem rowB (x b0 b1 b2 b3 : Nat) : x * b0 + 18446744073709551616 * (x * b1) + 340282366920938463463374607431768211456 * (x * b2) + 6277101735386680763835789423207666416102355444464034512896 * (x * b3) = x * ev4 b0 b1 b2 b3 := by
  unfold ev4
  rw [Nat.mul_add, Nat.mul_add, Nat.mul_add, Nat.mul_left_comm x 18446744073709551616, Nat.mul_left_comm x 340282366920938463463374607431768211456, Nat.mul_left_comm x 6277101735386680763835789423207666416102355444464034512896]

theorem bound1 {T T' xB mP : Nat} (h : T' * 18446744073709551616 = T + xB + mP) (hT : T < 2 * 26959946667150639794667015087019630673557916260026308143510066298881) (hx : xB ≤ 18446744073709551615 * 26959946667150639794667015087019630673557916260026308143510066298880)
    (hm : mP ≤ 18446744073709551615 * 26959946667150639794667015087019630673557916260026308143510066298881) : T' < 2 * 26959946667150639794667015087019630673557916260026308143510066298881 := by omega

theorem zero_lt_2p : 0 < 2 * 26959946667150639794667015087019630673557916260026308143510066298881 := by decide

theorem mont4 {T1 T2 T3 T4 x0 x1 x2 x3 B m0 m1 m2 m3 : Nat} (hB : B < pp) (l0 : x0 < 18446744073709551616) (l1 : x1 < 18446744073709551616) (l2 : x2 < 18446744073709551616) (l3 : x3 < 18446744073709551616)
    (k0 : m0 < 18446744073709551616) (k1 : m1 < 18446744073709551616) (k2 : m2 < 18446744073709551616) (k3 : m3 < 18446744073709551616)
    (h1 : T1 * 18446744073709551616 = x0 * B + m0 * pp) (h2 : T2 * 18446744073709551616 = T1 + x1 * B + m1 * pp) (h3 : T3 * 18446744073709551616 = T2 + x2 * B + m2 * pp) (h4 : T4 * 18446744073709551616 = T3 + x3 * B + m3 * pp) :
    T4 < 2 * pp ∧ T4 * R4 = ev4 x0 x1 x2 x3 * B + ev4 m0 m1 m2 m3 * pp := by
  have e : ∀ a b c d y : Nat, ev4 a b c d * y = a * y + 18446744073709551616 * (b * y) + 340282366920938463463374607431768211456 * (c * y) + 6277101735386680763835789423207666416102355444464034512896 * (d * y) := by
    intro a b c d y
    unfold ev4
    rw [Nat.add_mul, Nat.add_mul, Nat.add_mul, Nat.mul_assoc, Nat.mul_assoc, Nat.mul_assoc]
  rw [e, e]
  have b0 : x0 * B ≤ 18446744073709551615 * 26959946667150639794667015087019630673557916260026308143510066298880 := Nat.mul_le_mul (by omega) (by unfold pp at hB; omega)
  have b1 : x1 * B ≤ 18446744073709551615 * 26959946667150639794667015087019630673557916260026308143510066298880 := Nat.mul_le_mul (by omega) (by unfold pp at hB; omega)
  have b2 : x2 * B ≤ 18446744073709551615 * 26959946667150639794667015087019630673557916260026308143510066298880 := Nat.mul_le_mul (by omega) (by unfold pp at hB; omega)
  have b3 : x3 * B ≤ 18446744073709551615 * 26959946667150639794667015087019630673557916260026308143510066298880 := Nat.mul_le_mul (by omega) (by unfold pp at hB; omega)
  have c0 : m0 * pp ≤ 18446744073709551615 * 26959946667150639794667015087019630673557916260026308143510066298881 := Nat.mul_le_mul (by omega) (by unfold pp; omega)
  have c1 : m1 * pp ≤ 18446744073709551615 * 26959946667150639794667015087019630673557916260026308143510066298881 := Nat.mul_le_mul (by omega) (by unfold pp; omega)
  have c2 : m2 * pp ≤ 18446744073709551615 * 26959946667150639794667015087019630673557916260026308143510066298881 := Nat.mul_le_mul (by omega) (by unfold pp; omega)
  have c3 : m3 * pp ≤ 18446744073709551615 * 26959946667150639794667015087019630673557916260026308143510066298881 := Nat.mul_le_mul (by omega) (by unfold pp; omega)
  generalize x0 * B = y0 at *
  generalize x1 * B = y1 at *
  generalize x2 * B = y2 at *
  generalize x3 * B = y3 at *
  generalize m0 * pp = z0 at *
  generalize m1 * pp = z1 at *
  generalize m2 * pp = z2 at *
  generalize m3 * pp = z3 at *
  have t1 := bound1 (T := 0) (by rw [Nat.zero_add]; exact h1) zero_lt_2p b0 c0
  have t2 := bound1 h2 t1 b1 c1
  have t3 := bound1 h3 t2 b2 c2
  have t4 := bound1 h4 t3 b3 c3
  refine ⟨t4, ?_⟩
  clear b0 b1 b2 b3 c0 c1 c2 c3 t1 t2 t3 t4 e hB l0 l1 l2 l3 k0 k1 k2 k3
  have a4 : T4 * R4 = T4 * 18446744073709551616 * 6277101735386680763835789423207666416102355444464034512896 := by rw [Nat.mul_assoc]; rfl
  have a3 : T3 * 6277101735386680763835789423207666416102355444464034512896 = T3 * 18446744073709551616 * 340282366920938463463374607431768211456 := by rw [Nat.mul_assoc]
  have a2 : T2 * 340282366920938463463374607431768211456 = T2 * 18446744073709551616 * 18446744073709551616 := by rw [Nat.mul_assoc]
  rw [a4, h4, Nat.add_mul, Nat.add_mul, a3, h3, Nat.add_mul, Nat.add_mul, a2, h2, Nat.add_mul, Nat.add_mul, h1]
  clear a4 a3 a2 h1 h2 h3 h4
  omega

theorem mod_of_final {O T AB M : Nat} (h : O = T ∨ O + pp = T) (hT : T * R4 = AB + M * pp) : O * R4 % pp = AB % pp := by
  rcases h with rfl | rfl
  · rw [hT, Nat.add_mul_mod_self_right]
  · rw [Nat.add_mul] at hT
    have : (O * R4 + pp * R4) % pp = (AB + M * pp) % pp := by rw [hT]
    rw [Nat.add_mul_mod_self_left, Nat.add_mul_mod_self_right] at this
    exact this
end Go.Proofs.Ytdaheccfeihpgaa.Nm
namespace Go.Proofs.Ytdaheccfeihpgaa.Nm
theorem le_w {x : Nat} (h : x < 18446744073709551616) : x ≤ 18446744073709551615 := by omega
theorem bit_mod {c : Nat} (h : c ≤ 1) : c = (c + 0) % 18446744073709551616 := by omega
theorem comb1 {rW Z mP ps xB c : Nat} (hT : rW = Z + c * 0 + mP) (hR : Z = ps) (hB : ps = xB) : rW = xB + mP := by rw [hT, hR, hB, Nat.mul_zero, Nat.add_zero]
theorem comb {rW Z z5 mP T row ps xB : Nat} (hT : rW = Z + z5 + mP) (hA : Z + z5 = T + row) (hR : row = ps) (hB : ps = xB) : rW = T + xB + mP := by rw [hT, hA, hR, hB]
theorem acc {z0 z1 z2 z3 z4 c0 c1 c2 c3 c4 t0 t1 t2 t3 t4 q0 q1 q2 q3 q4 : Nat} (h0 : z0 + 18446744073709551616 * c0 = t0 + q0 + 0) (h1 : z1 + 18446744073709551616 * c1 = t1 + q1 + c0) (h2 : z2 + 18446744073709551616 * c2 = t2 + q2 + c1)
    (h3 : z3 + 18446744073709551616 * c3 = t3 + q3 + c2) (h4 : z4 + 18446744073709551616 * c4 = t4 + q4 + c3) :
    z0 + 18446744073709551616 * z1 + 340282366920938463463374607431768211456 * z2 + 6277101735386680763835789423207666416102355444464034512896 * z3 + 115792089237316195423570985008687907853269984665640564039457584007913129639936 * z4 + 2135987035920910082395021706169552114602704522356652769947041607822219725780640550022962086936576 * c4 =
    (t0 + 18446744073709551616 * t1 + 340282366920938463463374607431768211456 * t2 + 6277101735386680763835789423207666416102355444464034512896 * t3 + 115792089237316195423570985008687907853269984665640564039457584007913129639936 * t4) +
    (q0 + 18446744073709551616 * q1 + 340282366920938463463374607431768211456 * q2 + 6277101735386680763835789423207666416102355444464034512896 * q3 + 115792089237316195423570985008687907853269984665640564039457584007913129639936 * q4) := by omega
end Go.Proofs.Ytdaheccfeihpgaa.Nm
namespace Go.Proofs.Ytdaheccfeihpgaa.Nm
theorem nwb {a b s A B : Nat} (h : s = (a + b) % 18446744073709551616) (ha : a ≤ A) (hb : b ≤ B) (hAB : A + B < 18446744073709551616) : s = a + b ∧ s ≤ A + B := by omega
theorem hib {x y m : Nat} (h : x * 18446744073709551616 + y = m * 4294967295) (hm : m < 18446744073709551616) : x ≤ 4294967294 := by omega

theorem reduceT {z0 z1 z2 z3 z4 u m v x71 x70 x73 x72 x75 x74 x76 x77 x78 x79 x82 r0 c0 r1 c1 r2 c2 : Nat}
    (hm : u * 18446744073709551616 + m = z0 * 18446744073709551615)
    (h3 : x71 * 18446744073709551616 + x70 = m * 4294967295) (h2 : x73 * 18446744073709551616 + x72 = m * 18446744073709551615) (h1 : x75 * 18446744073709551616 + x74 = m * 18446744069414584320)
    (d1 : x76 + 18446744073709551616 * x77 = x75 + x72 + 0) (d2 : x78 + 18446744073709551616 * x79 = x73 + x70 + x77)
    (e0 : v + 18446744073709551616 * x82 = z0 + m + 0) (bv : v < 18446744073709551616)
    (e1 : r0 + 18446744073709551616 * c0 = z1 + x74 + x82) (e2 : r1 + 18446744073709551616 * c1 = z2 + x76 + c0) (e3 : r2 + 18446744073709551616 * c2 = z3 + x78 + c1) :
    (r0 + 18446744073709551616 * r1 + 340282366920938463463374607431768211456 * r2 + 6277101735386680763835789423207666416102355444464034512896 * (c2 + z4 + (x79 + x71))) * 18446744073709551616 =
    z0 + 18446744073709551616 * z1 + 340282366920938463463374607431768211456 * z2 + 6277101735386680763835789423207666416102355444464034512896 * z3 + 115792089237316195423570985008687907853269984665640564039457584007913129639936 * z4 + m * pp := by
  have hv := low_zero hm e0 bv
  have hr := redrow h3 h2 h1 d1 d2 rfl
  unfold pp
  rw [hr]
  subst hv
  clear hr hm h3 h2 h1 d1 d2 bv
  omega

theorem rowT {x p0 p1 p2 p3 hi0 lo0 hi1 lo1 hi2 lo2 hi3 lo3 s1 c1 s2 c2 s3 c3 : Nat}
    (h0 : hi0 * 18446744073709551616 + lo0 = x * p0) (h1 : hi1 * 18446744073709551616 + lo1 = x * p1) (h2 : hi2 * 18446744073709551616 + lo2 = x * p2) (h3 : hi3 * 18446744073709551616 + lo3 = x * p3)
    (e1 : s1 + 18446744073709551616 * c1 = hi0 + lo1 + 0) (e2 : s2 + 18446744073709551616 * c2 = hi1 + lo2 + c1) (e3 : s3 + 18446744073709551616 * c3 = hi2 + lo3 + c2) :
    lo0 + 18446744073709551616 * s1 + 340282366920938463463374607431768211456 * s2 + 6277101735386680763835789423207666416102355444464034512896 * s3 + 115792089237316195423570985008687907853269984665640564039457584007913129639936 * (c3 + hi3) = x * ev4 p0 p1 p2 p3 := by
  rw [← rowB, ← h0, ← h1, ← h2, ← h3]
  clear h0 h1 h2 h3
  omega

theorem accT {z0 z1 z2 z3 c0 c1 c2 c3 t0 t1 t2 t3 q0 q1 q2 q3 q4 : Nat} (h0 : z0 + 18446744073709551616 * c0 = t0 + q0 + 0) (h1 : z1 + 18446744073709551616 * c1 = t1 + q1 + c0) (h2 : z2 + 18446744073709551616 * c2 = t2 + q2 + c1)
    (h3 : z3 + 18446744073709551616 * c3 = t3 + q3 + c2) :
    z0 + 18446744073709551616 * z1 + 340282366920938463463374607431768211456 * z2 + 6277101735386680763835789423207666416102355444464034512896 * z3 + 115792089237316195423570985008687907853269984665640564039457584007913129639936 * (c3 + q4) =
    (t0 + 18446744073709551616 * t1 + 340282366920938463463374607431768211456 * t2 + 6277101735386680763835789423207666416102355444464034512896 * t3) +
    (q0 + 18446744073709551616 * q1 + 340282366920938463463374607431768211456 * q2 + 6277101735386680763835789423207666416102355444464034512896 * q3 + 115792089237316195423570985008687907853269984665640564039457584007913129639936 * q4) := by omega

theorem accF {z0 z1 z2 c0 c1 c2 t0 t1 t2 t3 a : Nat} (h0 : z0 + 18446744073709551616 * c0 = t0 + a + 0) (h1 : z1 + 18446744073709551616 * c1 = t1 + 0 + c0) (h2 : z2 + 18446744073709551616 * c2 = t2 + 0 + c1) :
    z0 + 18446744073709551616 * z1 + 340282366920938463463374607431768211456 * z2 + 6277101735386680763835789423207666416102355444464034512896 * (c2 + t3) =
    t0 + 18446744073709551616 * t1 + 340282366920938463463374607431768211456 * t2 + 6277101735386680763835789423207666416102355444464034512896 * t3 + a := by omega

/-- Where the sum of the deferred parts is a word. -/
theorem topped {r0 r1 r2 t u Z mP : Nat} (hT : (r0 + 18446744073709551616 * r1 + 340282366920938463463374607431768211456 * r2 + 6277101735386680763835789423207666416102355444464034512896 * t) * 18446744073709551616 = Z + mP) (ht : t = u) :
    (r0 + 18446744073709551616 * r1 + 340282366920938463463374607431768211456 * r2 + 6277101735386680763835789423207666416102355444464034512896 * u) * 18446744073709551616 = Z + mP := by rw [← ht]; exact hT
theorem combT1 {rW Z mP xB : Nat} (hT : rW = Z + mP) (hB : Z = xB) : rW = xB + mP := by rw [hT, hB]
theorem combT {rW Z mP T row xB : Nat} (hT : rW = Z + mP) (hA : Z = T + row) (hR : row = xB) : rW = T + xB + mP := by rw [hT, hA, hR]
theorem combF1 {rW a mP c d e f : Nat} (hT : rW = a + c * 0 + d * 0 + e * 0 + f * 0 + mP) : rW = a * 1 + mP := by rw [hT, Nat.mul_zero, Nat.mul_zero, Nat.mul_zero, Nat.mul_zero, Nat.mul_one]; rfl
theorem combF {rW Z mP T a f : Nat} (hT : rW = Z + f * 0 + mP) (hA : Z = T + a) : rW = T + a * 1 + mP := by rw [hT, hA, Nat.mul_zero, Nat.mul_one, Nat.add_zero]
theorem top0 {r0 r1 r2 r3 : Nat} (h : r0 + 18446744073709551616 * r1 + 340282366920938463463374607431768211456 * r2 + 6277101735386680763835789423207666416102355444464034512896 * r3 < 2 * pp) :
    r0 + 18446744073709551616 * r1 + 340282366920938463463374607431768211456 * r2 + 6277101735386680763835789423207666416102355444464034512896 * r3 + 115792089237316195423570985008687907853269984665640564039457584007913129639936 * 0 < 2 * pp := h
end Go.Proofs.Ytdaheccfeihpgaa.Nm

namespace Go.Proofs.Ytdaheccfeihpgaa.Nm
/-- Bytes as a number, the lowest first. -/
def le : List Nat → Nat
  | [] => 0
  | b :: r => b + 256 * le r

theorem le_append (l m : List Nat) : le (l ++ m) = le l + 256 ^ l.length * le m := by
  induction l with
  | nil => simp [le]
  | cons b r ih =>
    simp only [List.cons_append, le, ih, List.length_cons, Nat.pow_succ]
    rw [Nat.mul_add, Nat.add_assoc, Nat.mul_comm (256 ^ r.length) 256, Nat.mul_assoc]

theorem le28 (y0 y1 y2 y3 y4 y5 y6 y7 y8 y9 y10 y11 y12 y13 y14 y15 y16 y17 y18 y19 y20 y21 y22 y23 y24 y25 y26 y27 : Nat) :
    le [y0, y1, y2, y3, y4, y5, y6, y7, y8, y9, y10, y11, y12, y13, y14, y15, y16, y17, y18, y19, y20, y21, y22, y23, y24, y25, y26, y27] =
    ev4 (le [y0, y1, y2, y3, y4, y5, y6, y7]) (le [y8, y9, y10, y11, y12, y13, y14, y15]) (le [y16, y17, y18, y19, y20, y21, y22, y23]) (le [y24, y25, y26, y27]) := by
  show le ([y0, y1, y2, y3, y4, y5, y6, y7] ++ ([y8, y9, y10, y11, y12, y13, y14, y15] ++ ([y16, y17, y18, y19, y20, y21, y22, y23] ++ [y24, y25, y26, y27]))) = _
  rw [le_append, le_append, le_append]
  simp only [List.length_cons, List.length_nil, ev4]
  generalize le [y0, y1, y2, y3, y4, y5, y6, y7] = a
  generalize le [y8, y9, y10, y11, y12, y13, y14, y15] = b
  generalize le [y16, y17, y18, y19, y20, y21, y22, y23] = c
  generalize le [y24, y25, y26, y27] = d
  omega

theorem and255 {u : Nat} (h : u < 256) : u &&& 255 = u := by
  have := Nat.and_two_pow_sub_one_eq_mod u 8
  simp only [Nat.reducePow, Nat.reduceSub] at this
  rw [this, Nat.mod_eq_of_lt h]

theorem from8 {y0 y1 y2 y3 y4 y5 y6 y7 s1 s2 s3 s4 s5 s6 s7 t1 t2 t3 t4 t5 t6 t7 : Nat} (b0 : y0 < 256) (b1 : y1 < 256) (b2 : y2 < 256) (b3 : y3 < 256) (b4 : y4 < 256) (b5 : y5 < 256) (b6 : y6 < 256) (b7 : y7 < 256)
    (h1 : s1 = y1 * 2 ^ 8 % 18446744073709551616) (h2 : s2 = y2 * 2 ^ 16 % 18446744073709551616) (h3 : s3 = y3 * 2 ^ 24 % 18446744073709551616) (h4 : s4 = y4 * 2 ^ 32 % 18446744073709551616)
    (h5 : s5 = y5 * 2 ^ 40 % 18446744073709551616) (h6 : s6 = y6 * 2 ^ 48 % 18446744073709551616) (h7 : s7 = y7 * 2 ^ 56 % 18446744073709551616)
    (e1 : t1 = (s1 + y0) % 18446744073709551616) (e2 : t2 = (s2 + t1) % 18446744073709551616) (e3 : t3 = (s3 + t2) % 18446744073709551616) (e4 : t4 = (s4 + t3) % 18446744073709551616)
    (e5 : t5 = (s5 + t4) % 18446744073709551616) (e6 : t6 = (s6 + t5) % 18446744073709551616) (e7 : t7 = (s7 + t6) % 18446744073709551616) :
    t7 = le [y0, y1, y2, y3, y4, y5, y6, y7] := by
  simp only [le]
  have : s1 = 256 * y1 := by clear h2 h3 h4 h5 h6 h7 e1 e2 e3 e4 e5 e6 e7; omega
  have : s2 = 65536 * y2 := by clear h1 h3 h4 h5 h6 h7 e1 e2 e3 e4 e5 e6 e7; omega
  have : s3 = 16777216 * y3 := by clear h1 h2 h4 h5 h6 h7 e1 e2 e3 e4 e5 e6 e7; omega
  have : s4 = 4294967296 * y4 := by clear h1 h2 h3 h5 h6 h7 e1 e2 e3 e4 e5 e6 e7; omega
  have : s5 = 1099511627776 * y5 := by clear h1 h2 h3 h4 h6 h7 e1 e2 e3 e4 e5 e6 e7; omega
  have : s6 = 281474976710656 * y6 := by clear h1 h2 h3 h4 h5 h7 e1 e2 e3 e4 e5 e6 e7; omega
  have : s7 = 72057594037927936 * y7 := by clear h1 h2 h3 h4 h5 h6 e1 e2 e3 e4 e5 e6 e7; omega
  clear h1 h2 h3 h4 h5 h6 h7
  have : t1 = s1 + y0 := by clear e2 e3 e4 e5 e6 e7; omega
  have : t2 = s2 + t1 := by clear e1 e3 e4 e5 e6 e7; omega
  have : t3 = s3 + t2 := by clear e1 e2 e4 e5 e6 e7; omega
  have : t4 = s4 + t3 := by clear e1 e2 e3 e5 e6 e7; omega
  have : t5 = s5 + t4 := by clear e1 e2 e3 e4 e6 e7; omega
  have : t6 = s6 + t5 := by clear e1 e2 e3 e4 e5 e7; omega
  have : t7 = s7 + t6 := by clear e1 e2 e3 e4 e5 e6; omega
  clear e1 e2 e3 e4 e5 e6 e7
  omega

theorem from4 {y0 y1 y2 y3 s1 s2 s3 t1 t2 t3 : Nat} (b0 : y0 < 256) (b1 : y1 < 256) (b2 : y2 < 256) (b3 : y3 < 256)
    (h1 : s1 = y1 * 2 ^ 8 % 18446744073709551616) (h2 : s2 = y2 * 2 ^ 16 % 18446744073709551616) (h3 : s3 = y3 * 2 ^ 24 % 18446744073709551616)
    (e1 : t1 = (s1 + y0) % 18446744073709551616) (e2 : t2 = (s2 + t1) % 18446744073709551616) (e3 : t3 = (s3 + t2) % 18446744073709551616) :
    t3 = le [y0, y1, y2, y3] := by
  simp only [le]
  omega

theorem to8 {a y0 y1 y2 y3 y4 y5 y6 y7 u0 u1 u2 u3 u4 u5 u6 c1 c2 c3 c4 c5 c6 c7 : Nat} (ha : a < 18446744073709551616)
    (v0 : u0 = a % 256) (w0 : y0 = u0 &&& 255) (k1 : c1 = a / 2 ^ 8) (v1 : u1 = c1 % 256) (w1 : y1 = u1 &&& 255) (k2 : c2 = c1 / 2 ^ 8) (v2 : u2 = c2 % 256) (w2 : y2 = u2 &&& 255) (k3 : c3 = c2 / 2 ^ 8)
    (v3 : u3 = c3 % 256) (w3 : y3 = u3 &&& 255) (k4 : c4 = c3 / 2 ^ 8) (v4 : u4 = c4 % 256) (w4 : y4 = u4 &&& 255) (k5 : c5 = c4 / 2 ^ 8) (v5 : u5 = c5 % 256) (w5 : y5 = u5 &&& 255) (k6 : c6 = c5 / 2 ^ 8)
    (v6 : u6 = c6 % 256) (w6 : y6 = u6 &&& 255) (k7 : c7 = c6 / 2 ^ 8) (v7 : y7 = c7 % 256) : a = le [y0, y1, y2, y3, y4, y5, y6, y7] := by
  simp only [le]
  rw [and255 (by omega)] at w0 w1 w2 w3 w4 w5 w6
  omega

theorem to4 {a y0 y1 y2 y3 u0 u1 u2 c1 c2 c3 : Nat} (ha : a < 4294967296)
    (v0 : u0 = a % 256) (w0 : y0 = u0 &&& 255) (k1 : c1 = a / 2 ^ 8) (v1 : u1 = c1 % 256) (w1 : y1 = u1 &&& 255) (k2 : c2 = c1 / 2 ^ 8) (v2 : u2 = c2 % 256) (w2 : y2 = u2 &&& 255) (k3 : c3 = c2 / 2 ^ 8)
    (v3 : y3 = c3 % 256) : a = le [y0, y1, y2, y3] := by
  simp only [le]
  rw [and255 (by omega)] at w0 w1 w2
  omega

theorem top_small {a b c d : Nat} (h : ev4 a b c d < pp) : d < 4294967296 := by
  unfold ev4 pp at h
  omega

theorem add_law {a0 a1 a2 a3 b0 b1 b2 b3 x1 x2 x3 x4 x5 x6 x7 x8 : Nat}
    (h1 : x1 + 18446744073709551616 * x2 = a0 + b0 + 0) (h3 : x3 + 18446744073709551616 * x4 = a1 + b1 + x2) (h5 : x5 + 18446744073709551616 * x6 = a2 + b2 + x4) (h7 : x7 + 18446744073709551616 * x8 = a3 + b3 + x6) :
    x1 + 18446744073709551616 * x3 + 340282366920938463463374607431768211456 * x5 + 6277101735386680763835789423207666416102355444464034512896 * x7 + 115792089237316195423570985008687907853269984665640564039457584007913129639936 * x8 = ev4 a0 a1 a2 a3 + ev4 b0 b1 b2 b3 := by
  unfold ev4
  omega

theorem add_fin {O S A B : Nat} (hS : S = A + B) (h : O < pp ∧ (O = S ∨ O + pp = S)) : O = (A + B) % pp := by
  rw [← hS]
  rcases h with ⟨h1, rfl | rfl⟩
  · rw [Nat.mod_eq_of_lt h1]
  · rw [Nat.add_mod_right, Nat.mod_eq_of_lt h1]

theorem lt2 {A B S : Nat} (hA : A < pp) (hB : B < pp) (hS : S = A + B) : S < 2 * pp := by omega

theorem sub_law {a0 a1 a2 a3 b0 b1 b2 b3 x1 x2 x3 x4 x5 x6 x7 x8 z u1 u2 u3 y0 c0 y1 c1 y2 c2 y3 c3 : Nat} (hA : ev4 a0 a1 a2 a3 < pp) (hB : ev4 b0 b1 b2 b3 < pp) (n8 : x8 ≤ 1)
    (l1 : x1 < 18446744073709551616) (l3 : x3 < 18446744073709551616) (l5 : x5 < 18446744073709551616) (l7 : x7 < 18446744073709551616)
    (m1 : y0 < 18446744073709551616) (m3 : y1 < 18446744073709551616) (m5 : y2 < 18446744073709551616) (m7 : y3 < 18446744073709551616)
    (h1 : x1 + b0 + 0 = a0 + 18446744073709551616 * x2) (h3 : x3 + b1 + x2 = a1 + 18446744073709551616 * x4) (h5 : x5 + b2 + x4 = a2 + 18446744073709551616 * x6) (h7 : x7 + b3 + x6 = a3 + 18446744073709551616 * x8)
    (hz : z = if x8 = 0 then 0 else 18446744073709551615) (e1 : u1 = z &&& 1) (e2 : u2 = z &&& 18446744069414584320) (e3 : u3 = z &&& 4294967295)
    (k0 : y0 + 18446744073709551616 * c0 = x1 + u1 + 0) (k1 : y1 + 18446744073709551616 * c1 = x3 + u2 + c0) (k2 : y2 + 18446744073709551616 * c2 = x5 + z + c1) (k3 : y3 + 18446744073709551616 * c3 = x7 + u3 + c2) :
    ev4 y0 y1 y2 y3 < pp ∧ (ev4 y0 y1 y2 y3 + ev4 b0 b1 b2 b3) % pp = ev4 a0 a1 a2 a3 := by
  have key : ev4 y0 y1 y2 y3 < pp ∧ (ev4 y0 y1 y2 y3 + ev4 b0 b1 b2 b3 = ev4 a0 a1 a2 a3 ∨ ev4 y0 y1 y2 y3 + ev4 b0 b1 b2 b3 = ev4 a0 a1 a2 a3 + pp) := by
    by_cases h8 : x8 = 0
    · rw [if_pos h8] at hz
      subst hz
      rw [Nat.zero_and] at e1 e2 e3
      unfold ev4 pp at *
      have f1 : c0 = 0 := by omega
      have f2 : c1 = 0 := by omega
      have f3 : c2 = 0 := by omega
      have f4 : c3 = 0 := by omega
      subst e1 e2 e3 f1 f2 f3 f4 h8
      constructor
      · omega
      · left; omega
    · rw [if_neg h8] at hz
      have h8' : x8 = 1 := by omega
      have g1 : (18446744073709551615 : Nat) &&& 1 = 1 := by decide
      have g2 : (18446744073709551615 : Nat) &&& 18446744069414584320 = 18446744069414584320 := by decide
      have g3 : (18446744073709551615 : Nat) &&& 4294967295 = 4294967295 := by decide
      subst hz
      rw [g1] at e1
      rw [g2] at e2
      rw [g3] at e3
      subst e1 e2 e3 h8'
      unfold ev4 pp at *
      have hs : x1 + 18446744073709551616 * x3 + 340282366920938463463374607431768211456 * x5 + 6277101735386680763835789423207666416102355444464034512896 * x7 + (b0 + 18446744073709551616 * b1 + 340282366920938463463374607431768211456 * b2 + 6277101735386680763835789423207666416102355444464034512896 * b3) =
        a0 + 18446744073709551616 * a1 + 340282366920938463463374607431768211456 * a2 + 6277101735386680763835789423207666416102355444464034512896 * a3 + 115792089237316195423570985008687907853269984665640564039457584007913129639936 := by
        clear k0 k1 k2 k3 hA hB; omega
      have ht : y0 + 18446744073709551616 * y1 + 340282366920938463463374607431768211456 * y2 + 6277101735386680763835789423207666416102355444464034512896 * y3 + 115792089237316195423570985008687907853269984665640564039457584007913129639936 * c3 =
        x1 + 18446744073709551616 * x3 + 340282366920938463463374607431768211456 * x5 + 6277101735386680763835789423207666416102355444464034512896 * x7 + 26959946667150639794667015087019630673557916260026308143510066298881 := by
        clear h1 h3 h5 h7 hA hB hs; omega
      clear h1 h3 h5 h7 k0 k1 k2 k3
      have hc : c3 = 1 := by omega
      subst hc
      constructor
      · omega
      · right; omega
  refine ⟨key.1, ?_⟩
  rcases key.2 with h | h
  · rw [h, Nat.mod_eq_of_lt hA]
  · rw [h, Nat.add_mod_right, Nat.mod_eq_of_lt hA]
end Go.Proofs.Ytdaheccfeihpgaa.Nm

