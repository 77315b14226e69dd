import Derived.Test.YtdaheccfeihpgaaProg
import Derived.Shelf.Bits.Mul64
import Derived.Shelf.Spec.BitsCarry
import Derived.WalkKit
import Derived.WalkLawsBesides
import Derived.Lib.Hide
import Derived.Test.YtdaheccfeihpgaaB
import Derived.Test.YtdaheccfeihpgaaD
import Derived.Test.YtdaheccfeihpgaaC
/-
  The field's functions in this program.
-/
namespace Go.Proofs.Ytdaheccfeihpgaa.Nm
open Go Go.RowKit

theorem lkn_cons {i s j n : Nat} {r : List (Nat × Nat)} (h : lkn ((i, s) :: r) j = some n) : (i = j ∧ s = n) ∨ lkn r j = some n := by
  simp only [lkn] at h
  cases hb : Nat.beq i j with
  | true =>
    rw [hb] at h
    simp only [cond_true, Option.some.injEq] at h
    exact .inl ⟨Nat.eq_of_beq_eq_true hb, h⟩
  | false =>
    rw [hb] at h
    exact .inr h

theorem has_cons {i j : Nat} {r : List Nat} (h : has (i :: r) j = true) : i = j ∨ has r j = true := by
  simp only [has, Bool.or_eq_true] at h
  rcases h with h | h
  · exact .inl (Nat.eq_of_beq_eq_true h)
  · exact .inr h

/-- What the run is told of this program. -/
def tabP (n : Nat) (outs : List (Nat × Nat)) : Tab :=
  ⟨n, [(80, 4), (79, 4), (104, 4), (22, 28)], [64, 5], [5], [64], 80, 81, 79, 82, outs⟩

theorem ff_add : Try.prog.funcs[80]? = some Try.f80 := Try.func80

theorem call_add (x y c : Nat) (w : World) (hc : c ≤ 1) : (callFunc 80 #[.int .u64 x, .int .u64 y, .int .u64 c]).run Try.prog w =
    .ok (.value (.tuple #[.int .u64 (((x + y + c) % 18446744073709551616 : Nat) : Int), .int .u64 (((x + y + c) / 18446744073709551616 : Nat) : Int)])) w := by
  rw [run_callFunc_extern Try.func80 (by kernel_rfl) (by kernel_rfl) (by kernel_rfl) (e := add64Entry) (by kernel_rfl), run_add64 x y c (by omega) (by omega) (by omega) (by omega)]
  simp only [Result.andThen]
  congr 5 <;> omega

theorem call_sub (x y c : Nat) (w : World) (hc : c ≤ 1) : (callFunc 81 #[.int .u64 x, .int .u64 y, .int .u64 c]).run Try.prog w =
    .ok (.value (.tuple #[.int .u64 (((x + 18446744073709551616 - y - c) % 18446744073709551616 : Nat) : Int), .int .u64 ((if x < y + c then 1 else 0 : Nat) : Int)])) w := by
  rw [run_callFunc_extern Try.func81 (by kernel_rfl) (by kernel_rfl) (by kernel_rfl) (e := sub64Entry) (by kernel_rfl), run_sub64 x y c hc]
  rfl

theorem call_in {f : FuncId} {fn : Func} (hf : Try.prog.funcs[f]? = some fn) (hn : (fn.name == "runtime.NumGoroutine") = false) (hb : fn.body.isNone = false) (args : Array Value) (w : World) :
    (callFunc f args).run Try.prog w = .ok (.enter f args) w := by
  have h1 : fn.name ≠ "runtime.NumGoroutine" := by simpa using hn
  have h2 : fn.body ≠ none := by
    intro h
    rw [h] at hb
    cases hb
  simp [callFunc, hf, h1, h2]

set_option maxHeartbeats 1000000 in
theorem mul64_calls (x y : Nat) (hx : x < 18446744073709551616) (hy : y < 18446744073709551616) (w : World) :
    Calls Try.prog 79 #[.int .u64 x, .int .u64 y] w fun e w' => e = .returned (.tuple #[.int .u64 ((x * y / 18446744073709551616 : Nat) : Int), .int .u64 ((x * y % 18446744073709551616 : Nat) : Int)]) ∧ w' = w := by
  have H := Lib.mul64_hi x y hx hy
  have h11 := Lib.half_mul_le (a := x / 4294967296) (b := y / 4294967296) (by omega) (by omega)
  have h10 := Lib.half_mul_le (a := x / 4294967296) (b := y % 4294967296) (by omega) (by omega)
  have h01 := Lib.half_mul_le (a := x % 4294967296) (b := y / 4294967296) (by omega) (by omega)
  go_enter Try.func79, Try.ntmps79
  go_wp2
  have Q := H.2.2.2
  have K1 : x / 4294967296 * (y / 4294967296) + (x / 4294967296 * (y % 4294967296) + x % 4294967296 * (y % 4294967296) / 4294967296) / 4294967296 < 18446744073709551616 := by omega
  have K2 : x / 4294967296 * (y / 4294967296) + (x / 4294967296 * (y % 4294967296) + x % 4294967296 * (y % 4294967296) / 4294967296) / 4294967296 + ((x / 4294967296 * (y % 4294967296) + x % 4294967296 * (y % 4294967296) / 4294967296) % 4294967296 + x % 4294967296 * (y / 4294967296)) / 4294967296 < 18446744073709551616 := by omega
  simp only [Mul64.maskN x hx, Mul64.maskN y hy, Mul64.divN, Mul64.mulN, Mul64.addN, Mul64.wrapN _ H.1, Mul64.wrapN _ (by omega : x / 4294967296 * (y % 4294967296) < 18446744073709551616), Mul64.wrapN _ H.2.1, Mul64.maskN _ H.2.1,
    Mul64.wrapN _ (by omega : x % 4294967296 * (y / 4294967296) < 18446744073709551616), Mul64.wrapN _ H.2.2.1, Mul64.wrapN _ (by omega : x / 4294967296 * (y / 4294967296) < 18446744073709551616), Mul64.wrapN _ K1, Mul64.wrapN _ K2, Mul64.wrapM (x * y)]
  rw [Q]
  go_ret2
  exact ⟨rfl, rfl⟩

theorem cm_val (c x y : Nat) (hc : c ≤ 1) (hx : x < 18446744073709551616) (hy : y < 18446744073709551616) :
    bits .or .u64 (bits .and .u64 ((c : Int) * 18446744073709551615) (y : Int)) (bits .and .u64 (bits .xor .u64 IntKind.u64.max ((c : Int) * 18446744073709551615)) (x : Int)) = ((if c = 0 then x else y : Nat) : Int) := by
  have hm : IntKind.u64.max = ((18446744073709551615 : Nat) : Int) := by decide
  have hall : ∀ z : Nat, z < 18446744073709551616 → 18446744073709551615 &&& z = z := by
    intro z hz
    rw [Nat.and_comm]
    have := Nat.and_two_pow_sub_one_eq_mod z 64
    simp only [Nat.reducePow, Nat.reduceSub] at this
    rw [this, Nat.mod_eq_of_lt hz]
  have h01 : c = 0 ∨ c = 1 := by omega
  rcases h01 with rfl | rfl
  · have e0 : ((0 : Nat) : Int) * 18446744073709551615 = ((0 : Nat) : Int) := by omega
    rw [e0, hm, u64_and_nat 0 y (by omega) hy, u64_xor_nat _ _ (by omega) (by omega), Nat.xor_zero, u64_and_nat _ _ (by omega) hx, hall x hx, Nat.zero_and, u64_or_nat _ _ (by omega) hx, Nat.zero_or, if_pos rfl]
  · have e0 : ((1 : Nat) : Int) * 18446744073709551615 = ((18446744073709551615 : Nat) : Int) := by omega
    rw [e0, hm, u64_and_nat _ y (by omega) hy, u64_xor_nat _ _ (by omega) (by omega), Nat.xor_self, u64_and_nat _ _ (by omega) hx, hall y hy, Nat.zero_and, u64_or_nat _ _ hy (by omega), Nat.or_zero, if_neg (by omega)]

theorem cmov_core (p : Addr) (c x y : Nat) (r : Int) (w : World) (hp : (w.cell? p).isSome = true) (hf : w.frozen? p = false) (hc : c ≤ 1)
    (hr : Hid (bits .or .u64 (bits .and .u64 ((c : Int) * 18446744073709551615) (y : Int)) (bits .and .u64 (bits .xor .u64 IntKind.u64.max ((c : Int) * 18446744073709551615)) (x : Int)) = r)) :
    Calls Try.prog 82 #[.pointer (some p), .int .u64 c, .int .u64 x, .int .u64 y] w fun e w' => e = .returned (.tuple #[]) ∧ w' = w.setCell p (.int .u64 r) := by
  obtain ⟨v, hv⟩ := Option.isSome_iff_exists.1 hp
  clear hp
  go_enter Try.func82, Try.ntmps82
  go_wp2
  go_end0
  refine ⟨rfl, ?_⟩
  rw [← hr.out]

theorem cmov_calls (p : Addr) (c x y : Nat) (w : World) (hp : (w.cell? p).isSome = true) (hf : w.frozen? p = false) (hx : x < 18446744073709551616) (hy : y < 18446744073709551616) (hc : c ≤ 1) :
    Calls Try.prog 82 #[.pointer (some p), .int .u64 c, .int .u64 x, .int .u64 y] w fun e w' => e = .returned (.tuple #[]) ∧ w' = w.setCell p (.int .u64 ((if c = 0 then x else y : Nat) : Int)) :=
  cmov_core p c x y _ w hp hf hc (Lib.hid (cm_val c x y hc hx hy))

theorem tab_ok (n : Nat) (outs : List (Nat × Nat)) : TabOk Try.prog (tabP n outs) where
  wide := by kernel_rfl
  arr := by
    intro t n h
    rcases lkn_cons h with ⟨rfl, rfl⟩ | h
    · exact ⟨by kernel_rfl, fun w => by kernel_rfl⟩
    rcases lkn_cons h with ⟨rfl, rfl⟩ | h
    · exact ⟨by kernel_rfl, fun w => by kernel_rfl⟩
    rcases lkn_cons h with ⟨rfl, rfl⟩ | h
    · exact ⟨by kernel_rfl, fun w => by kernel_rfl⟩
    rcases lkn_cons h with ⟨rfl, rfl⟩ | h
    · exact ⟨by kernel_rfl, fun w => by kernel_rfl⟩
    · cases h
  one := by
    intro t h
    rcases has_cons h with rfl | h
    · exact fun w => ⟨by kernel_rfl, by kernel_rfl⟩
    rcases has_cons h with rfl | h
    · exact fun w => ⟨by kernel_rfl, by kernel_rfl⟩
    · cases h
  k8 := by
    intro t h
    rcases has_cons h with rfl | h
    · kernel_rfl
    · cases h
  k64 := by
    intro t h
    rcases has_cons h with rfl | h
    · exact ⟨by kernel_rfl, fun w => by kernel_rfl⟩
    · cases h
  add := fun x y c w _ _ hc => call_add x y c w hc
  sub := fun x y c w _ _ hc => call_sub x y c w hc
  mulIn := call_in Try.func79 (by kernel_rfl) (by kernel_rfl)
  mul := fun x y w hx hy => mul64_calls x y hx hy w
  cmIn := call_in Try.func82 (by kernel_rfl) (by kernel_rfl)
  cm := fun p c x y w h1 h2 h3 h4 h5 => cmov_calls p c x y w h1 h2 h3 h4 h5

end Go.Proofs.Ytdaheccfeihpgaa.Nm

namespace Go.Proofs.Ytdaheccfeihpgaa.Nm
open Go Go.RowKit

/-- Which address a tag stands for: the arguments' from 0 on, the call's own blocks from 100 on. -/
def TT (w : World) (ps : List Addr) (i : Nat) : Addr := if 100 ≤ i then ⟨w.heap.size + (i - 100), 0, none⟩ else ps.getD i (ps.headD ⟨0, 0, none⟩)

/-- The four words of a number. -/
def CW (w : World) (p : Addr) (m : Nat) : Prop :=
  w.cell? (p.add 0) = some (.int .u64 (n0 m : Int)) ∧ w.cell? (p.add 1) = some (.int .u64 (n1 m : Int)) ∧ w.cell? (p.add 2) = some (.int .u64 (n2 m : Int)) ∧ w.cell? (p.add 3) = some (.int .u64 (n3 m : Int))
/-- An element. -/
def ElC (w : World) (p : Addr) (v : F) : Prop := CW w p (mont v)

/-- Cells that can be written. -/
def WrN (w : World) (p : Addr) (n : Nat) : Prop := p.block < w.heap.size ∧ ∀ k, k < n → (w.cell? (p.add k)).isSome = true ∧ w.frozen? (p.add k) = false

def setW (w : World) (p : Addr) (m : Nat) : World :=
  (((w.setCell (p.add 0) (.int .u64 (n0 m : Int))).setCell (p.add 1) (.int .u64 (n1 m : Int))).setCell (p.add 2) (.int .u64 (n2 m : Int))).setCell (p.add 3) (.int .u64 (n3 m : Int))
def set4 (w : World) (p : Addr) (v : F) : World := setW w p (mont v)

theorem cell_lt {w : World} {p : Addr} {v : Value} (h : w.cell? p = some v) : p.block < w.heap.size := by
  apply Classical.byContradiction
  intro hge
  unfold World.cell? at h
  rw [Array.getElem?_eq_none (by omega)] at h
  cases h

theorem CW.lt {w : World} {p : Addr} {v : Nat} (h : CW w p v) : p.block < w.heap.size := by
  have := cell_lt h.1
  rwa [block_of_add] at this

theorem tag_ok {w : World} {ps : List Addr} {n : Nat} {outs : List (Nat × Nat)} (hps : ps ≠ []) (h : ∀ p ∈ ps, p.block < w.heap.size)
    (ho : ∀ i m, lkn outs i = some m → ∀ k, k < m → ((TT w ps i).add k).block < w.heap.size ∧ (w.cell? ((TT w ps i).add k)).isSome = true ∧ w.frozen? ((TT w ps i).add k) = false) : TagOk (tabP n outs) (TT w ps) w where
  new := by intro k; simp [TT]
  old := by
    intro i hi
    unfold TT
    rw [if_neg (by omega), List.getD_eq_getElem?_getD]
    cases hg : ps[i]? with
    | some p => exact h p (List.mem_of_getElem? hg)
    | none =>
      cases ps with
      | nil => exact absurd rfl hps
      | cons p r => exact h p (by simp)
  out := ho

theorem lt3 {B : Nat} {p0 p1 p2 : Addr} (h0 : p0.block < B) (h1 : p1.block < B) (h2 : p2.block < B) : ∀ p ∈ [p0, p1, p2], p.block < B := by
  intro p hp
  simp only [List.mem_cons, List.not_mem_nil, or_false] at hp
  rcases hp with rfl | rfl | rfl
  · exact h0
  · exact h1
  · exact h2
theorem lt2' {B : Nat} {p0 p1 : Addr} (h0 : p0.block < B) (h1 : p1.block < B) : ∀ p ∈ [p0, p1], p.block < B := by
  intro p hp
  simp only [List.mem_cons, List.not_mem_nil, or_false] at hp
  rcases hp with rfl | rfl
  · exact h0
  · exact h1

theorem out_one {w : World} {ps : List Addr} {p0 : Addr} {m : Nat} (h0 : TT w ps 0 = p0) (h : WrN w p0 m) : ∀ i n, lkn [(0, m)] i = some n → ∀ k, k < n →
    ((TT w ps i).add k).block < w.heap.size ∧ (w.cell? ((TT w ps i).add k)).isSome = true ∧ w.frozen? ((TT w ps i).add k) = false := by
  intro i n hl k hk
  rcases lkn_cons hl with ⟨rfl, rfl⟩ | hl
  · rw [h0, block_of_add]
    exact ⟨h.1, h.2 k hk⟩
  · cases hl

theorem mem_nil (T : Nat → Addr) (w : World) : MemOk T w [] := by intro i k s h; cases h
theorem mem_cons {T : Nat → Addr} {w : World} {i k : Nat} {s : SV} {r : List (Nat × Nat × SV)} (ho : s.ok) (hc : w.cell? ((T i).add k) = some (s.den T)) (h : MemOk T w r) : MemOk T w ((i, k, s) :: r) := by
  intro j m s' h'
  simp only [lkm] at h'
  cases hb : Nat.beq i j && Nat.beq k m with
  | true =>
    rw [hb] at h'
    simp only [cond_true, Option.some.injEq] at h'
    simp only [Bool.and_eq_true] at hb
    have e1 := Nat.eq_of_beq_eq_true hb.1
    have e2 := Nat.eq_of_beq_eq_true hb.2
    subst h' e1 e2
    exact ⟨ho, hc⟩
  | false =>
    rw [hb] at h'
    exact h j m s' h'

def mem4 (i : Nat) (m : Nat) (r : List (Nat × Nat × SV)) : List (Nat × Nat × SV) := (i, 0, ⟨0, n0 m, 0⟩) :: (i, 1, ⟨0, n1 m, 0⟩) :: (i, 2, ⟨0, n2 m, 0⟩) :: (i, 3, ⟨0, n3 m, 0⟩) :: r
theorem mem4_ok {T : Nat → Addr} {w : World} {i : Nat} {p : Addr} {m : Nat} {r : List (Nat × Nat × SV)} (hp : T i = p) (h : CW w p m) (hr : MemOk T w r) : MemOk T w (mem4 i m r) := by
  unfold mem4
  refine mem_cons (n0_lt m) (by rw [hp]; exact h.1) (mem_cons (n1_lt m) (by rw [hp]; exact h.2.1) (mem_cons (n2_lt m) (by rw [hp]; exact h.2.2.1) (mem_cons (n3_lt m) (by rw [hp]; exact h.2.2.2) hr)))

/-- What a function that writes four words leaves behind. -/
def Fin4 (i : Nat) (m : Nat) (out : List (Nat × Nat × SV)) : Prop := out = mem4 i m []

theorem app_mem4 {T : Nat → Addr} {w : World} {i : Nat} {p : Addr} {m : Nat} (hp : T i = p) : app T w (mem4 i m []) = setW w p m := by
  simp only [mem4, app, hp, setW, SV.den]

theorem fin4_of {m : Nat} {z0 z1 z2 z3 : Nat} (b0 : z0 < 18446744073709551616) (b1 : z1 < 18446744073709551616) (b2 : z2 < 18446744073709551616) (b3 : z3 < 18446744073709551616) (h : ev4 z0 z1 z2 z3 = m) :
    Fin4 0 m [(0, 0, ⟨0, z0, 0⟩), (0, 1, ⟨0, z1, 0⟩), (0, 2, ⟨0, z2, 0⟩), (0, 3, ⟨0, z3, 0⟩)] := by
  obtain ⟨rfl, rfl, rfl, rfl⟩ := n_of b0 b1 b2 b3 h
  rfl

theorem ev4_mont (v : F) : ev4 (n0 (mont v)) (n1 (mont v)) (n2 (mont v)) (n3 (mont v)) = mont v := ev4_n (mont_lt v)
theorem ev4_lt (v : F) : ev4 (n0 (mont v)) (n1 (mont v)) (n2 (mont v)) (n3 (mont v)) < pp := by rw [ev4_mont]; exact mont_lt v

theorem ptrs_ok : ∀ s ∈ [(⟨3, 0, 0⟩ : SV), ⟨3, 1, 0⟩, ⟨3, 2, 0⟩], s.ok := by
  intro s hs
  simp only [List.mem_cons, List.not_mem_nil, or_false] at hs
  rcases hs with rfl | rfl | rfl <;> trivial
theorem ptrs2_ok : ∀ s ∈ [(⟨3, 0, 0⟩ : SV), ⟨3, 1, 0⟩], s.ok := by
  intro s hs
  simp only [List.mem_cons, List.not_mem_nil, or_false] at hs
  rcases hs with rfl | rfl <;> trivial

theorem args3 (w : World) (p0 p1 p2 : Addr) : ([(⟨3, 0, 0⟩ : SV), ⟨3, 1, 0⟩, ⟨3, 2, 0⟩].map (SV.den (TT w [p0, p1, p2]))).toArray = #[.pointer (some p0), .pointer (some p1), .pointer (some p2)] := rfl
theorem args2 (w : World) (p0 p1 : Addr) : ([(⟨3, 0, 0⟩ : SV), ⟨3, 1, 0⟩].map (SV.den (TT w [p0, p1]))).toArray = #[.pointer (some p0), .pointer (some p1)] := rfl

theorem post4 {n : Nat} {w : World} {ps : List Addr} {p0 : Addr} {m : Nat} {e : Ending} {w' : World} (h0 : TT w ps 0 = p0)
    (h : e = .returned (.tuple #[]) ∧ ∃ s : St, Fin4 0 m s.out ∧ WR (tabP n [(0, 4)]) (TT w ps) w w' s) : e = .returned (.tuple #[]) ∧ Below w.heap.size (setW w p0 m) w' := by
  obtain ⟨he, s, hf, hw⟩ := h
  refine ⟨he, ?_⟩
  have := hw.below
  rwa [hf, app_mem4 h0] at this

/-! ### The field -/
set_option maxRecDepth 100000 in
theorem run_mul (Fin : List (Nat × Nat × SV) → Prop) (x y : Nat) :
    exC (tabP Try.f84.ntmps [(0, 4)]) (Try.f84.body.getD .skip) ⟨entry [⟨3, 0, 0⟩, ⟨3, 1, 0⟩, ⟨3, 2, 0⟩] 0, mem4 1 x (mem4 2 y []), [], 0⟩ (fun s => Fin s.out) =
    LawMul Fin (n0 x) (n1 x) (n2 x) (n3 x) (n0 y) (n1 y) (n2 y) (n3 y) := by
  unfold LawMul
  kernel_rfl

theorem fmul_calls (p0 p1 p2 : Addr) (x y : F) (w : World) (h0 : WrN w p0 4) (h1 : ElC w p1 x) (h2 : ElC w p2 y) :
    Calls Try.prog 84 #[.pointer (some p0), .pointer (some p1), .pointer (some p2)] w fun e w' => e = .returned (.tuple #[]) ∧ Below w.heap.size (set4 w p0 (x * y)) w' := by
  have H := ex_calls (T := TT w [p0, p1, p2]) (w := w) (tab_ok Try.f84.ntmps [(0, 4)]) (tag_ok (by simp) (lt3 h0.1 h1.lt h2.lt) (out_one (p0 := p0) rfl h0))
    Try.func84 (c := Try.f84.body.getD .skip) (by kernel_rfl) (by kernel_rfl) rfl [⟨3, 0, 0⟩, ⟨3, 1, 0⟩, ⟨3, 2, 0⟩] (Nat.le_of_ble_eq_true (by kernel_rfl)) ptrs_ok
    (mem4 1 (mont x) (mem4 2 (mont y) [])) (mem4_ok (p := p1) rfl h1 (mem4_ok (p := p2) rfl h2 (mem_nil _ _))) (fun s => Fin4 0 (mont (x * y)) s.out)
    (by
      rw [run_mul]
      exact law_mul (n0_lt _) (n1_lt _) (n2_lt _) (n3_lt _) (n3_lt _) (ev4_lt y) fun z0 z1 z2 z3 b0 b1 b2 b3 hz he => fin4_of b0 b1 b2 b3 (mont_mul hz (by rw [he, ev4_mont, ev4_mont])))
  rw [args3] at H
  exact H.mono fun e w' h => post4 rfl h

set_option maxRecDepth 100000 in
theorem run_add (Fin : List (Nat × Nat × SV) → Prop) (x y : Nat) :
    exC (tabP Try.f85.ntmps [(0, 4)]) (Try.f85.body.getD .skip) ⟨entry [⟨3, 0, 0⟩, ⟨3, 1, 0⟩, ⟨3, 2, 0⟩] 0, mem4 1 x (mem4 2 y []), [], 0⟩ (fun s => Fin s.out) =
    LawAdd Fin (n0 x) (n1 x) (n2 x) (n3 x) (n0 y) (n1 y) (n2 y) (n3 y) := by
  unfold LawAdd
  kernel_rfl

theorem fadd_calls (p0 p1 p2 : Addr) (x y : F) (w : World) (h0 : WrN w p0 4) (h1 : ElC w p1 x) (h2 : ElC w p2 y) :
    Calls Try.prog 85 #[.pointer (some p0), .pointer (some p1), .pointer (some p2)] w fun e w' => e = .returned (.tuple #[]) ∧ Below w.heap.size (set4 w p0 (x + y)) w' := by
  have H := ex_calls (T := TT w [p0, p1, p2]) (w := w) (tab_ok Try.f85.ntmps [(0, 4)]) (tag_ok (by simp) (lt3 h0.1 h1.lt h2.lt) (out_one (p0 := p0) rfl h0))
    Try.func85 (c := Try.f85.body.getD .skip) (by kernel_rfl) (by kernel_rfl) rfl [⟨3, 0, 0⟩, ⟨3, 1, 0⟩, ⟨3, 2, 0⟩] (Nat.le_of_ble_eq_true (by kernel_rfl)) ptrs_ok
    (mem4 1 (mont x) (mem4 2 (mont y) [])) (mem4_ok (p := p1) rfl h1 (mem4_ok (p := p2) rfl h2 (mem_nil _ _))) (fun s => Fin4 0 (mont (x + y)) s.out)
    (by
      rw [run_add]
      exact law_Add (ev4_lt x) (ev4_lt y) fun z0 z1 z2 z3 b0 b1 b2 b3 _ he => fin4_of b0 b1 b2 b3 (mont_add (by rw [he, ev4_mont, ev4_mont])))
  rw [args3] at H
  exact H.mono fun e w' h => post4 rfl h

set_option maxRecDepth 100000 in
theorem run_sub (Fin : List (Nat × Nat × SV) → Prop) (x y : Nat) :
    exC (tabP Try.f75.ntmps [(0, 4)]) (Try.f75.body.getD .skip) ⟨entry [⟨3, 0, 0⟩, ⟨3, 1, 0⟩, ⟨3, 2, 0⟩] 0, mem4 1 x (mem4 2 y []), [], 0⟩ (fun s => Fin s.out) =
    LawSub Fin (n0 x) (n1 x) (n2 x) (n3 x) (n0 y) (n1 y) (n2 y) (n3 y) := by
  unfold LawSub
  kernel_rfl

theorem fsub_calls (p0 p1 p2 : Addr) (x y : F) (w : World) (h0 : WrN w p0 4) (h1 : ElC w p1 x) (h2 : ElC w p2 y) :
    Calls Try.prog 75 #[.pointer (some p0), .pointer (some p1), .pointer (some p2)] w fun e w' => e = .returned (.tuple #[]) ∧ Below w.heap.size (set4 w p0 (x - y)) w' := by
  have H := ex_calls (T := TT w [p0, p1, p2]) (w := w) (tab_ok Try.f75.ntmps [(0, 4)]) (tag_ok (by simp) (lt3 h0.1 h1.lt h2.lt) (out_one (p0 := p0) rfl h0))
    Try.func75 (c := Try.f75.body.getD .skip) (by kernel_rfl) (by kernel_rfl) rfl [⟨3, 0, 0⟩, ⟨3, 1, 0⟩, ⟨3, 2, 0⟩] (Nat.le_of_ble_eq_true (by kernel_rfl)) ptrs_ok
    (mem4 1 (mont x) (mem4 2 (mont y) [])) (mem4_ok (p := p1) rfl h1 (mem4_ok (p := p2) rfl h2 (mem_nil _ _))) (fun s => Fin4 0 (mont (x - y)) s.out)
    (by
      rw [run_sub]
      exact law_Sub (ev4_lt x) (ev4_lt y) fun z0 z1 z2 z3 b0 b1 b2 b3 hz he => fin4_of b0 b1 b2 b3 (mont_sub hz (by rw [← ev4_mont y, he, ev4_mont])))
  rw [args3] at H
  exact H.mono fun e w' h => post4 rfl h

set_option maxRecDepth 100000 in
theorem run_to (Fin : List (Nat × Nat × SV) → Prop) (x : Nat) :
    exC (tabP Try.f66.ntmps [(0, 4)]) (Try.f66.body.getD .skip) ⟨entry [⟨3, 0, 0⟩, ⟨3, 1, 0⟩] 0, mem4 1 x [], [], 0⟩ (fun s => Fin s.out) =
    LawToM Fin (n0 x) (n1 x) (n2 x) (n3 x) := by
  unfold LawToM
  kernel_rfl

theorem fto_calls (p0 p1 : Addr) (x : Nat) (w : World) (hx : x < pp) (h0 : WrN w p0 4) (h1 : CW w p1 x) :
    Calls Try.prog 66 #[.pointer (some p0), .pointer (some p1)] w fun e w' => e = .returned (.tuple #[]) ∧ Below w.heap.size (setW w p0 (mont ⟨x, hx⟩)) w' := by
  have H := ex_calls (T := TT w [p0, p1]) (w := w) (tab_ok Try.f66.ntmps [(0, 4)]) (tag_ok (by simp) (lt2' h0.1 h1.lt) (out_one (p0 := p0) rfl h0))
    Try.func66 (c := Try.f66.body.getD .skip) (by kernel_rfl) (by kernel_rfl) rfl [⟨3, 0, 0⟩, ⟨3, 1, 0⟩] (Nat.le_of_ble_eq_true (by kernel_rfl)) ptrs2_ok
    (mem4 1 x []) (mem4_ok (p := p1) rfl h1 (mem_nil _ _)) (fun s => Fin4 0 (mont ⟨x, hx⟩) s.out)
    (by
      rw [run_to]
      exact law_ToM (n0_lt _) (n1_lt _) (n2_lt _) (n3_lt _) fun z0 z1 z2 z3 b0 b1 b2 b3 hz he => fin4_of b0 b1 b2 b3 (mont_to hz hx (by rw [he, ev4_n hx])))
  rw [args2] at H
  exact H.mono fun e w' h => post4 rfl h

set_option maxRecDepth 100000 in
theorem run_from (Fin : List (Nat × Nat × SV) → Prop) (x : Nat) :
    exC (tabP Try.f70.ntmps [(0, 4)]) (Try.f70.body.getD .skip) ⟨entry [⟨3, 0, 0⟩, ⟨3, 1, 0⟩] 0, mem4 1 x [], [], 0⟩ (fun s => Fin s.out) =
    LawFromM Fin (n0 x) (n1 x) (n2 x) (n3 x) := by
  unfold LawFromM
  kernel_rfl

theorem ffrom_calls (p0 p1 : Addr) (x : F) (w : World) (h0 : WrN w p0 4) (h1 : CW w p1 (mont x)) :
    Calls Try.prog 70 #[.pointer (some p0), .pointer (some p1)] w fun e w' => e = .returned (.tuple #[]) ∧ Below w.heap.size (setW w p0 (x.val)) w' := by
  have H := ex_calls (T := TT w [p0, p1]) (w := w) (tab_ok Try.f70.ntmps [(0, 4)]) (tag_ok (by simp) (lt2' h0.1 h1.lt) (out_one (p0 := p0) rfl h0))
    Try.func70 (c := Try.f70.body.getD .skip) (by kernel_rfl) (by kernel_rfl) rfl [⟨3, 0, 0⟩, ⟨3, 1, 0⟩] (Nat.le_of_ble_eq_true (by kernel_rfl)) ptrs2_ok
    (mem4 1 (mont x) []) (mem4_ok (p := p1) rfl h1 (mem_nil _ _)) (fun s => Fin4 0 (x.val) s.out)
    (by
      rw [run_from]
      exact law_FromM (n0_lt _) (n1_lt _) (n2_lt _) (n3_lt _) fun z0 z1 z2 z3 b0 b1 b2 b3 hz he => fin4_of b0 b1 b2 b3 (mont_from hz (by rw [he, ev4_mont])))
  rw [args2] at H
  exact H.mono fun e w' h => post4 rfl h

end Go.Proofs.Ytdaheccfeihpgaa.Nm

namespace Go.Proofs.Ytdaheccfeihpgaa.Nm
open Go Go.RowKit

/-- Bytes from an address on. -/
def CB (w : World) (p : Addr) (bs : List Nat) : Prop := bs.length = 28 ∧ (∀ b ∈ bs, b < 256) ∧ ∀ k, k < 28 → w.cell? (p.add k) = some (.int .u8 ((bs.getD k 0 : Nat) : Int))

def memB (i : Nat) (bs : List Nat) : List (Nat × Nat × SV) :=
  [(i, 0, ⟨2, bs.getD 0 0, 0⟩), (i, 1, ⟨2, bs.getD 1 0, 0⟩), (i, 2, ⟨2, bs.getD 2 0, 0⟩), (i, 3, ⟨2, bs.getD 3 0, 0⟩), (i, 4, ⟨2, bs.getD 4 0, 0⟩), (i, 5, ⟨2, bs.getD 5 0, 0⟩), (i, 6, ⟨2, bs.getD 6 0, 0⟩), (i, 7, ⟨2, bs.getD 7 0, 0⟩), (i, 8, ⟨2, bs.getD 8 0, 0⟩), (i, 9, ⟨2, bs.getD 9 0, 0⟩), (i, 10, ⟨2, bs.getD 10 0, 0⟩), (i, 11, ⟨2, bs.getD 11 0, 0⟩), (i, 12, ⟨2, bs.getD 12 0, 0⟩), (i, 13, ⟨2, bs.getD 13 0, 0⟩), (i, 14, ⟨2, bs.getD 14 0, 0⟩), (i, 15, ⟨2, bs.getD 15 0, 0⟩), (i, 16, ⟨2, bs.getD 16 0, 0⟩), (i, 17, ⟨2, bs.getD 17 0, 0⟩), (i, 18, ⟨2, bs.getD 18 0, 0⟩), (i, 19, ⟨2, bs.getD 19 0, 0⟩), (i, 20, ⟨2, bs.getD 20 0, 0⟩), (i, 21, ⟨2, bs.getD 21 0, 0⟩), (i, 22, ⟨2, bs.getD 22 0, 0⟩), (i, 23, ⟨2, bs.getD 23 0, 0⟩), (i, 24, ⟨2, bs.getD 24 0, 0⟩), (i, 25, ⟨2, bs.getD 25 0, 0⟩), (i, 26, ⟨2, bs.getD 26 0, 0⟩), (i, 27, ⟨2, bs.getD 27 0, 0⟩)]

def ents (i : Nat) : Nat → List Nat → List (Nat × Nat × SV)
  | _, [] => []
  | k, b :: r => (i, k, ⟨2, b, 0⟩) :: ents i (k + 1) r

theorem getD_lt {bs : List Nat} (h : ∀ b ∈ bs, b < 256) (k : Nat) : bs.getD k 0 < 256 := by
  rw [List.getD_eq_getElem?_getD]
  cases hg : bs[k]? with
  | none => simp
  | some b => exact h b (List.mem_of_getElem? hg)

theorem memB_ok {T : Nat → Addr} {w : World} {i : Nat} {p : Addr} {bs : List Nat} (hp : T i = p) (h : CB w p bs) : MemOk T w (memB i bs) := by
  obtain ⟨_, hb, hc⟩ := h
  have g : ∀ k, k < 28 → (⟨2, bs.getD k 0, 0⟩ : SV).ok ∧ w.cell? ((T i).add k) = some (SV.den T ⟨2, bs.getD k 0, 0⟩) := fun k hk => ⟨getD_lt hb k, by rw [hp]; exact hc k hk⟩
  unfold memB
  refine mem_cons (g 0 (by omega)).1 (g 0 (by omega)).2 (mem_cons (g 1 (by omega)).1 (g 1 (by omega)).2 (mem_cons (g 2 (by omega)).1 (g 2 (by omega)).2 (mem_cons (g 3 (by omega)).1 (g 3 (by omega)).2 (mem_cons (g 4 (by omega)).1 (g 4 (by omega)).2 (mem_cons (g 5 (by omega)).1 (g 5 (by omega)).2 (mem_cons (g 6 (by omega)).1 (g 6 (by omega)).2 (mem_cons (g 7 (by omega)).1 (g 7 (by omega)).2 (mem_cons (g 8 (by omega)).1 (g 8 (by omega)).2 (mem_cons (g 9 (by omega)).1 (g 9 (by omega)).2 (mem_cons (g 10 (by omega)).1 (g 10 (by omega)).2 (mem_cons (g 11 (by omega)).1 (g 11 (by omega)).2 (mem_cons (g 12 (by omega)).1 (g 12 (by omega)).2 (mem_cons (g 13 (by omega)).1 (g 13 (by omega)).2 (mem_cons (g 14 (by omega)).1 (g 14 (by omega)).2 (mem_cons (g 15 (by omega)).1 (g 15 (by omega)).2 (mem_cons (g 16 (by omega)).1 (g 16 (by omega)).2 (mem_cons (g 17 (by omega)).1 (g 17 (by omega)).2 (mem_cons (g 18 (by omega)).1 (g 18 (by omega)).2 (mem_cons (g 19 (by omega)).1 (g 19 (by omega)).2 (mem_cons (g 20 (by omega)).1 (g 20 (by omega)).2 (mem_cons (g 21 (by omega)).1 (g 21 (by omega)).2 (mem_cons (g 22 (by omega)).1 (g 22 (by omega)).2 (mem_cons (g 23 (by omega)).1 (g 23 (by omega)).2 (mem_cons (g 24 (by omega)).1 (g 24 (by omega)).2 (mem_cons (g 25 (by omega)).1 (g 25 (by omega)).2 (mem_cons (g 26 (by omega)).1 (g 26 (by omega)).2 (mem_cons (g 27 (by omega)).1 (g 27 (by omega)).2 (mem_nil _ _))))))))))))))))))))))))))))

theorem list28 {bs : List Nat} (h : bs.length = 28) : bs = [bs.getD 0 0, bs.getD 1 0, bs.getD 2 0, bs.getD 3 0, bs.getD 4 0, bs.getD 5 0, bs.getD 6 0, bs.getD 7 0, bs.getD 8 0, bs.getD 9 0, bs.getD 10 0, bs.getD 11 0, bs.getD 12 0, bs.getD 13 0, bs.getD 14 0, bs.getD 15 0, bs.getD 16 0, bs.getD 17 0, bs.getD 18 0, bs.getD 19 0, bs.getD 20 0, bs.getD 21 0, bs.getD 22 0, bs.getD 23 0, bs.getD 24 0, bs.getD 25 0, bs.getD 26 0, bs.getD 27 0] := by
  have e : bs = (List.range 28).map fun k => bs.getD k 0 := by
    apply List.ext_getElem
    · simp [h]
    · intro i h1 h2
      simp [List.getElem?_eq_getElem h1]
  exact e

set_option maxRecDepth 100000 in
theorem run_fromB (Fin : List (Nat × Nat × SV) → Prop) (bs : List Nat) :
    exC (tabP Try.f65.ntmps [(0, 4)]) (Try.f65.body.getD .skip) ⟨entry [⟨3, 0, 0⟩, ⟨3, 1, 0⟩] 0, memB 1 bs, [], 0⟩ (fun s => Fin s.out) =
    LawFromB Fin (bs.getD 0 0) (bs.getD 1 0) (bs.getD 2 0) (bs.getD 3 0) (bs.getD 4 0) (bs.getD 5 0) (bs.getD 6 0) (bs.getD 7 0) (bs.getD 8 0) (bs.getD 9 0) (bs.getD 10 0) (bs.getD 11 0) (bs.getD 12 0) (bs.getD 13 0) (bs.getD 14 0) (bs.getD 15 0) (bs.getD 16 0) (bs.getD 17 0) (bs.getD 18 0) (bs.getD 19 0) (bs.getD 20 0) (bs.getD 21 0) (bs.getD 22 0) (bs.getD 23 0) (bs.getD 24 0) (bs.getD 25 0) (bs.getD 26 0) (bs.getD 27 0) := by
  unfold LawFromB
  kernel_rfl

theorem ffromB_calls (p0 p1 : Addr) (bs : List Nat) (w : World) (h0 : WrN w p0 4) (hl : p1.block < w.heap.size) (h1 : CB w p1 bs) :
    Calls Try.prog 65 #[.pointer (some p0), .pointer (some p1)] w fun e w' => e = .returned (.tuple #[]) ∧ Below w.heap.size (setW w p0 (le bs)) w' := by
  have g := getD_lt h1.2.1
  have hbs := list28 h1.1
  have H := ex_calls (T := TT w [p0, p1]) (w := w) (tab_ok Try.f65.ntmps [(0, 4)]) (tag_ok (by simp) (lt2' h0.1 hl) (out_one (p0 := p0) rfl h0))
    Try.func65 (c := Try.f65.body.getD .skip) (by kernel_rfl) (by kernel_rfl) rfl [⟨3, 0, 0⟩, ⟨3, 1, 0⟩] (Nat.le_of_ble_eq_true (by kernel_rfl)) ptrs2_ok
    (memB 1 bs) (memB_ok (p := p1) rfl h1) (fun s => Fin4 0 (le bs) s.out)
    (by
      rw [run_fromB]
      exact law_FromB (g 0) (g 1) (g 2) (g 3) (g 4) (g 5) (g 6) (g 7) (g 8) (g 9) (g 10) (g 11) (g 12) (g 13) (g 14) (g 15) (g 16) (g 17) (g 18) (g 19) (g 20) (g 21) (g 22) (g 23) (g 24) (g 25) (g 26) (g 27) fun z0 z1 z2 z3 b0 b1 b2 b3 he => fin4_of b0 b1 b2 b3 (by rw [he, ← hbs]))
  rw [args2] at H
  exact H.mono fun e w' h => post4 rfl h

def setB (w : World) (p : Addr) : Nat → List Nat → World
  | _, [] => w
  | k, b :: r => setB (w.setCell (p.add k) (.int .u8 (b : Int))) p (k + 1) r

theorem app_ents {T : Nat → Addr} {i : Nat} {p : Addr} (hp : T i = p) (l : List Nat) : ∀ (k : Nat) (w : World), app T w (ents i k l) = setB w p k l := by
  induction l with
  | nil => intro k w; rfl
  | cons b r ih => intro k w; simp only [ents, app, setB, ih, hp, SV.den]

set_option maxRecDepth 100000 in
theorem run_toB (Fin : List (Nat × Nat × SV) → Prop) (x : Nat) :
    exC (tabP Try.f71.ntmps [(0, 28)]) (Try.f71.body.getD .skip) ⟨entry [⟨3, 0, 0⟩, ⟨3, 1, 0⟩] 0, mem4 1 x [], [], 0⟩ (fun s => Fin s.out) =
    LawToB Fin (n0 x) (n1 x) (n2 x) (n3 x) := by
  unfold LawToB
  kernel_rfl

theorem ftoB_calls (p0 p1 : Addr) (x : Nat) (w : World) (hx : x < pp) (h0 : WrN w p0 28) (h1 : CW w p1 x) :
    Calls Try.prog 71 #[.pointer (some p0), .pointer (some p1)] w fun e w' => e = .returned (.tuple #[]) ∧ Below w.heap.size (setB w p0 0 ((List.range 28).map (dig x))) w' := by
  have H := ex_calls (T := TT w [p0, p1]) (w := w) (tab_ok Try.f71.ntmps [(0, 28)]) (tag_ok (by simp) (lt2' h0.1 h1.lt) (out_one (p0 := p0) rfl h0))
    Try.func71 (c := Try.f71.body.getD .skip) (by kernel_rfl) (by kernel_rfl) rfl [⟨3, 0, 0⟩, ⟨3, 1, 0⟩] (Nat.le_of_ble_eq_true (by kernel_rfl)) ptrs2_ok
    (mem4 1 x []) (mem4_ok (p := p1) rfl h1 (mem_nil _ _)) (fun s => s.out = ents 0 0 ((List.range 28).map (dig x)))
    (by
      rw [run_toB (fun o => o = _)]
      refine law_ToB (n0_lt _) (n1_lt _) (n2_lt _) (by rw [ev4_n hx]; exact hx) ?_
      intro y0 y1 y2 y3 y4 y5 y6 y7 y8 y9 y10 y11 y12 y13 y14 y15 y16 y17 y18 y19 y20 y21 y22 y23 y24 y25 y26 y27 h0 h1 h2 h3 h4 h5 h6 h7 h8 h9 h10 h11 h12 h13 h14 h15 h16 h17 h18 h19 h20 h21 h22 h23 h24 h25 h26 h27 he
      rw [ev4_n hx] at he
      have hl : [y0, y1, y2, y3, y4, y5, y6, y7, y8, y9, y10, y11, y12, y13, y14, y15, y16, y17, y18, y19, y20, y21, y22, y23, y24, y25, y26, y27] = (List.range 28).map (dig x) := by
        rw [he]
        refine le_digs ?_ rfl
        intro b hb
        simp only [List.mem_cons, List.not_mem_nil, or_false] at hb
        rcases hb with rfl | rfl | rfl | rfl | rfl | rfl | rfl | rfl | rfl | rfl | rfl | rfl | rfl | rfl | rfl | rfl | rfl | rfl | rfl | rfl | rfl | rfl | rfl | rfl | rfl | rfl | rfl | rfl <;> assumption
      rw [← hl]
      rfl)
  rw [args2] at H
  refine H.mono fun e w' h => ?_
  obtain ⟨he, s, hf, hw⟩ := h
  refine ⟨he, ?_⟩
  have := hw.below
  rwa [hf, app_ents (p := p0) rfl] at this

/-! ### One, and the choice -/
set_option maxRecDepth 100000 in
theorem run_one (Fin : List (Nat × Nat × SV) → Prop) :
    exC (tabP Try.f74.ntmps [(0, 4)]) (Try.f74.body.getD .skip) ⟨entry [⟨3, 0, 0⟩] 0, [], [], 0⟩ (fun s => Fin s.out) =
    Fin [(0, 0, ⟨0, 18446744069414584320, 0⟩), (0, 1, ⟨0, 18446744073709551615, 0⟩), (0, 2, ⟨1, 0, 0⟩), (0, 3, ⟨1, 0, 0⟩)] := by
  kernel_rfl

theorem args1 (w : World) (p0 : Addr) : ([(⟨3, 0, 0⟩ : SV)].map (SV.den (TT w [p0]))).toArray = #[.pointer (some p0)] := rfl

theorem fone_calls (p0 : Addr) (w : World) (h0 : WrN w p0 4) :
    Calls Try.prog 74 #[.pointer (some p0)] w fun e w' => e = .returned (.tuple #[]) ∧ Below w.heap.size (set4 w p0 1) w' := by
  have H := ex_calls (T := TT w [p0]) (w := w) (tab_ok Try.f74.ntmps [(0, 4)]) (tag_ok (by simp) (by intro p hp; simp only [List.mem_cons, List.not_mem_nil, or_false] at hp; rw [hp]; exact h0.1) (out_one (p0 := p0) rfl h0))
    Try.func74 (c := Try.f74.body.getD .skip) (by kernel_rfl) (by kernel_rfl) rfl [⟨3, 0, 0⟩] (Nat.le_of_ble_eq_true (by kernel_rfl))
    (by intro s hs; simp only [List.mem_cons, List.not_mem_nil, or_false] at hs; rw [hs]; trivial)
    [] (mem_nil _ _) (fun s => s.out = [(0, 0, ⟨0, 18446744069414584320, 0⟩), (0, 1, ⟨0, 18446744073709551615, 0⟩), (0, 2, ⟨1, 0, 0⟩), (0, 3, ⟨1, 0, 0⟩)])
    (by rw [run_one (fun o => o = _)])
  rw [args1] at H
  refine H.mono fun e w' h => ?_
  obtain ⟨he, s, hf, hw⟩ := h
  refine ⟨he, ?_⟩
  have := hw.below
  rw [hf] at this
  have e0 : n0 (mont 1) = 18446744069414584320 := by rw [mont_one]; decide
  have e1 : n1 (mont 1) = 18446744073709551615 := by rw [mont_one]; decide
  have e2 : n2 (mont 1) = 0 := by rw [mont_one]; decide
  have e3 : n3 (mont 1) = 0 := by rw [mont_one]; decide
  unfold set4 setW
  rw [e0, e1, e2, e3]
  exact this

set_option maxRecDepth 100000 in
theorem run_sel (Fin : List (Nat × Nat × SV) → Prop) (c x y : Nat) :
    exC (tabP Try.f76.ntmps [(0, 4)]) (Try.f76.body.getD .skip) ⟨entry [⟨3, 0, 0⟩, ⟨1, c, 0⟩, ⟨3, 1, 0⟩, ⟨3, 2, 0⟩] 0, mem4 1 x (mem4 2 y []), [], 0⟩ (fun s => Fin s.out) =
    LawSel Fin c (n0 x) (n1 x) (n2 x) (n3 x) (n0 y) (n1 y) (n2 y) (n3 y) := by
  unfold LawSel
  kernel_rfl

theorem argsS (w : World) (c : Nat) (p0 p1 p2 : Addr) : ([(⟨3, 0, 0⟩ : SV), ⟨1, c, 0⟩, ⟨3, 1, 0⟩, ⟨3, 2, 0⟩].map (SV.den (TT w [p0, p1, p2]))).toArray = #[.pointer (some p0), .int .u64 (c : Int), .pointer (some p1), .pointer (some p2)] := rfl

theorem fsel_calls (p0 p1 p2 : Addr) (c : Nat) (hc : c ≤ 1) (x y : F) (w : World) (h0 : WrN w p0 4) (h1 : ElC w p1 x) (h2 : ElC w p2 y) :
    Calls Try.prog 76 #[.pointer (some p0), .int .u64 (c : Int), .pointer (some p1), .pointer (some p2)] w fun e w' => e = .returned (.tuple #[]) ∧ Below w.heap.size (set4 w p0 (if c = 0 then x else y)) w' := by
  have H := ex_calls (T := TT w [p0, p1, p2]) (w := w) (tab_ok Try.f76.ntmps [(0, 4)]) (tag_ok (by simp) (lt3 h0.1 h1.lt h2.lt) (out_one (p0 := p0) rfl h0))
    Try.func76 (c := Try.f76.body.getD .skip) (by kernel_rfl) (by kernel_rfl) rfl [⟨3, 0, 0⟩, ⟨1, c, 0⟩, ⟨3, 1, 0⟩, ⟨3, 2, 0⟩] (Nat.le_of_ble_eq_true (by kernel_rfl))
    (by
      intro s hs
      simp only [List.mem_cons, List.not_mem_nil, or_false] at hs
      rcases hs with rfl | rfl | rfl | rfl
      · trivial
      · exact hc
      · trivial
      · trivial)
    (mem4 1 (mont x) (mem4 2 (mont y) [])) (mem4_ok (p := p1) rfl h1 (mem4_ok (p := p2) rfl h2 (mem_nil _ _))) (fun s => Fin4 0 (mont (if c = 0 then x else y)) s.out)
    (by
      rw [run_sel]
      refine law_Sel (fun h => ?_) (fun h => ?_)
      · rw [if_pos h]; rfl
      · rw [if_neg h]; rfl)
  rw [argsS] at H
  exact H.mono fun e w' h => post4 rfl h

end Go.Proofs.Ytdaheccfeihpgaa.Nm

