import Derived.Laws.Slices
import Derived.Stop.BytesEq
import Derived.Laws.NewFold
import Derived.ArgAppend
import Derived.Laws.BytesArg
import Derived.Test.YtdaheccfeihpgaaD
/-
  A run on memory of a known shape: operations.
-/
/-
  Every operation whose outcome hangs on what it reads alone: what it yields, and that it does.
-/
namespace Go.Proofs.Ytdaheccfeihpgaa.Nm
open Go Go.RowKit

/-- What an operation does: it ends with a value and a world of N. -/
def Does (P : Program) (o : Op) (a : Act) (w : World) (N : Value → World → Prop) : Prop :=
  ∀ (d : Option Tmp) (ty : TypeId) (pos : String) (after : Array Edge) (g : Option (Nat × Bool)) (K : Act → World → Prop) (Q : Exit → Act → World → Prop),
    (∀ v w', N v w' → K (a.put d v) w') → (⟨d, o, ty, pos, after, g⟩ : Oper).wp P a w K Q

theorem does_value {P : Program} {o : Op} {a : Act} {w : World} {N : Value → World → Prop} {v : Value} {w' : World} (h : ∀ d ty pos after g, (execOp a.eval ⟨d, o, ty, pos, after, g⟩).run P w = .ok (.value v) w') (hN : N v w') : Does P o a w N := by
  intro d ty pos after g K Q hK
  unfold Oper.wp
  rw [h]
  exact hK _ _ hN

theorem does_call {P : Program} {o : Op} {a : Act} {w : World} {N : Value → World → Prop} {f : FuncId} {args : Array Value} (h : ∀ d ty pos after g, (execOp a.eval ⟨d, o, ty, pos, after, g⟩).run P w = .ok (.enter f args) w)
    (hN : Calls P f args w fun e w' => ∃ v, e = .returned v ∧ N v w') : Does P o a w N := by
  intro d ty pos after g K Q hK
  unfold Oper.wp
  rw [h]
  exact hN.mono fun e w' ⟨v, he, hn⟩ => by subst he; exact hK _ _ hn

def evL (env : Env) : List Operand → Option (List V)
  | [] => some []
  | x :: r => match evV env x with
    | some v => match evL env r with
      | some l => some (v :: l)
      | none => none
    | none => none

theorem evL_ok {T : Tg} {n : Nat} {a : Act} {env : Env} (hf : FrV T n a env) : ∀ {l : List Operand} {vs : List V}, evL env l = some vs → VsR T vs (l.map a.eval)
  | [], vs, h => by
    simp only [evL, Option.some.injEq] at h
    subst h
    rw [VsR]; rfl
  | x :: r, vs, h => by
    simp only [evL] at h
    split at h
    · rename_i v hv
      split at h
      · rename_i l hl
        simp only [Option.some.injEq] at h
        subst h
        rw [VsR]
        exact ⟨_, _, rfl, evV_ok hf hv, evL_ok hf hl⟩
      · cases h
    · cases h

/-- The result: a value, and the blocks that are made. -/
abbrev DR := Option (V × List (List Pc))
def one1 (s : Option Sc) : DR := match s with
  | some x => some (.s x, [])
  | none => none

/-- What comes of it: the value, in a world that has grown by those blocks. -/
def Grew (wr : Nat → Bool) (T : Tg) (w : World) (m : Mem) (nt : Nat) (v : V) (fr : List (List Pc)) (y : Value) (w' : World) : Prop :=
  ∃ T', OnlyNew T T' nt fr.length ∧ v.R T' y ∧ MOk wr T' w' (addF m nt fr) ∧ Below w.heap.size w w' ∧ Newer T T' w

theorem onlyNew_refl (T : Tg) (nt n : Nat) : OnlyNew T T nt n := ⟨Tg.le_refl T, fun _ h _ => h⟩

theorem grew_same {wr : Nat → Bool} {T : Tg} {w : World} {m : Mem} {nt : Nat} {v : V} {y : Value} (hm : MOk wr T w m) (hv : v.R T y) : Grew wr T w m nt v [] y w :=
  ⟨T, onlyNew_refl _ _ _, hv, hm, Below.refl _ _, fun t b h h' => by rw [h] at h'; cases h'⟩
theorem grew_sc {wr : Nat → Bool} {T : Tg} {w : World} {m : Mem} {nt : Nat} {x : Sc} {y : Value} (hm : MOk wr T w m) (hv : x.R T y) : Grew wr T w m nt (.s x) [] y w :=
  grew_same hm (by rw [V.R]; exact hv)

theorem below_alloc (w : World) (o : Obj) : Below w.heap.size w (w.alloc o) := (Below.refl _ w).alloc (Nat.le_refl _) o

/-- A block of one's own. -/
theorem grew_new {wr : Nat → Bool} {T : Tg} {w : World} {m : Mem} {nt : Nat} {l : List Pc} {c : Array Value} {e : TypeId} (hm : MOk wr T w m) (hfr : Free T nt 1) (hl : PR T l c.toList) (cap : Nat) :
    ∃ T', OnlyNew T T' nt 1 ∧ T' nt = some ⟨w.heap.size, 0, cap⟩ ∧ MOk wr T' (w.alloc (.cells c e)) (addF m nt [l]) ∧ Below w.heap.size w (w.alloc (.cells c e)) ∧ Newer T T' w := by
  have h0 : T nt = none := by have := hfr 0 (by omega); rwa [Nat.add_zero] at this
  refine ⟨T.add nt ⟨w.heap.size, 0, cap⟩, ⟨Tg.le_add h0 _, fun t ht hr => ?_⟩, Tg.add_same _ _ _, ?_, below_alloc _ _, fun t b h h' => ?_⟩
  · unfold Tg.add
    cases hb : Nat.beq nt t with
    | true => have := Nat.eq_of_beq_eq_true hb; omega
    | false => exact ht
  · exact hm.alloc h0 (pre := []) (xs := c.toList) (rest := []) (below_alloc _ _) (Nat.le_refl _) (heap_alloc_new _ _) (by simp) rfl hl
  · rcases Tg.add_cases h' with ⟨_, rfl⟩ | ⟨_, h'⟩
    · exact Nat.le_refl _
    · rw [h] at h'; cases h'

theorem grew_ptr {wr : Nat → Bool} {T : Tg} {w : World} {m : Mem} {nt : Nat} {l : List Pc} {c : Array Value} {e : TypeId} (hm : MOk wr T w m) (hfr : Free T nt 1) (hl : PR T l c.toList) :
    Grew wr T w m nt (.s (.p nt 0)) [l] (.pointer (some ⟨w.heap.size, 0, none⟩)) (w.alloc (.cells c e)) := by
  obtain ⟨T', h1, h2, h3, h4⟩ := grew_new (e := e) hm hfr hl 0
  refine ⟨T', h1, ?_, h3, h4⟩
  rw [V.R]
  exact ⟨_, h2, rfl⟩

theorem grew_slice {wr : Nat → Bool} {T : Tg} {w : World} {m : Mem} {nt : Nat} {l : List Pc} {c : Array Value} {e : TypeId} (n : Nat) (hm : MOk wr T w m) (hfr : Free T nt 1) (hl : PR T l c.toList) :
    Grew wr T w m nt (.s (.sl nt 0 n n)) [l] (.slice (some ⟨w.heap.size, 0, none⟩) n n) (w.alloc (.cells c e)) := by
  obtain ⟨T', h1, h2, h3, h4⟩ := grew_new (e := e) hm hfr hl 0
  refine ⟨T', h1, ?_, h3, h4⟩
  rw [V.R]
  exact ⟨_, h2, rfl⟩

/-! ### Loads -/
def dqLoad (B : Tb) (env : Env) (m : Mem) (t : TypeId) (x : Operand) : DR :=
  match evS env x with
  | some (.p tg o) => match lkp m tg with
    | some l => bif has B.one t then one1 (flat l)[o]? else match lkp B.agg t with
      | some n => match rdN l o n with
        | some q => some (.agg q, [])
        | none => none
      | none => none
    | none => none
  | _ => none

theorem run_loadVar_agg {P : Program} {w : World} {t : TypeId} {a : Addr} {cs : List Value} (h1 : (isAgg t).run P w = .ok true w) (h2 : (sizeOf t).run P w = .ok cs.length w) (h : ∀ j v, cs[j]? = some v → w.cell? (a.add j) = some v) :
    (loadVar t a).run P w = .ok (.agg cs.toArray) w := by
  unfold loadVar
  simp only [Sem.run_bind, h1, Result.andThen_ok, if_true, h2, run_loadCells_list (P := P) w a cs h, Sem.run_pure]

section
variable {P : Program} {B : Tb} {wr : Nat → Bool} {T : Tg} {a : Act} {w : World} {env : Env} {m : Mem} {nt : Nat}

theorem BlockOk.range {t : Nat} {l : List Pc} (h : BlockOk T w t l) {b : Loc} (hb : T t = some b) {o n : Nat} {q : List Pc} (hq : rdN l o n = some q) :
    ∃ xs, PR T q xs ∧ xs.length = n ∧ ∀ j v, xs[j]? = some v → w.cell? ⟨b.blk, b.off + o + j, none⟩ = some v := by
  obtain ⟨b', c, ty, pre, xs, rest, h1, ⟨fz, h2, _⟩, h3, hpl, h4⟩ := h
  rw [hb] at h1
  cases h1
  obtain ⟨a1, r1, rfl, ha, hn⟩ := rdN_ok hq
  have hc := h4.1
  rw [flat_append, flat_append] at hc
  obtain ⟨ya, yr, rfl, c1, c2⟩ := hc.split
  obtain ⟨yq, yz, rfl, c3, c4⟩ := c2.split
  refine ⟨yq, ⟨c3, (goods_append.1 (goods_append.1 h4.2).2).1⟩, by rw [c3.length, hn], fun j v hj => ?_⟩
  unfold World.cell?
  rw [h2]
  have hlen : ya.length = o := by rw [c1.length, ha]
  have hjl : j < yq.length := (List.getElem?_eq_some_iff.1 hj).1
  have : c[b.off + o + j]? = some v := by
    rw [← Array.getElem?_toList, h3, ← hlen, ← hpl, List.getElem?_append_right (by omega), List.append_assoc, List.getElem?_append_right (by omega), List.append_assoc, List.getElem?_append_left (by omega)]
    rw [← hj]; congr 1; omega
  simpa using this

theorem dqLoad_ok (hB : TbOk P B) (hf : FrV T B.n a env) (hm : MOk wr T w m) {t : TypeId} {x : Operand} {v : V} {fr : List (List Pc)} (h : dqLoad B env m t x = some (v, fr)) : Does P (.load t x) a w (Grew wr T w m nt v fr) := by
  unfold dqLoad at h
  split at h
  · rename_i tg o hx
    obtain ⟨b, hb, hx⟩ := evS_ok hf hx
    split at h
    · rename_i l hl
      have hbl := hm.at_ _ _ hl
      cases h1 : has B.one t with
      | true =>
        rw [h1] at h
        simp only [cond_true] at h
        unfold one1 at h
        split at h
        · rename_i s hs
          simp only [Option.some.injEq, Prod.mk.injEq] at h
          obtain ⟨rfl, rfl⟩ := h
          obtain ⟨y, hy, _, hr⟩ := hbl.cell hb hs
          refine does_value (v := y) (w' := w) (fun d ty pos after g => ?_) (grew_sc hm hr)
          simp only [execOp, hx, Instr.loadAt, Instr.sureAddr, loadVar, Sem.run_bind, Sem.run_pure, Result.andThen_ok, (hB.one t h1 w).1, Sem.run_ite, Bool.false_eq_true, if_false, run_load, hy]
        · cases h
      | false =>
        rw [h1] at h
        simp only [cond_false] at h
        split at h
        · rename_i n hn
          obtain ⟨g1, g2⟩ := hB.agg t n hn w
          split at h
          · rename_i q hq
            simp only [Option.some.injEq, Prod.mk.injEq] at h
            obtain ⟨rfl, rfl⟩ := h
            obtain ⟨xs, hp, hlen, hc⟩ := hbl.range hb hq
            refine does_value (v := .agg xs.toArray) (w' := w) (fun d ty pos after g => ?_) (grew_same hm (by rw [V.R]; exact ⟨xs, rfl, hp⟩))
            simp only [execOp, hx, Instr.loadAt, Instr.sureAddr, Sem.run_bind, Sem.run_pure, Result.andThen_ok]
            rw [run_loadVar_agg g1 (by rw [hlen]; exact g2) (fun j v hj => by rw [addr_add]; exact hc j v hj)]
            rfl
          · cases h
        · cases h
    · cases h
  · cases h

/-! ### Addresses and slices -/
def dqField (B : Tb) (env : Env) (t : TypeId) (x : Operand) (i : Nat) : DR :=
  match evS env x with
  | some (.p tg o) => match lkp B.fld t with
    | some l => match l[i]? with
      | some (off, _) => some (.s (.p tg (o + off)), [])
      | none => none
    | none => none
  | _ => none

theorem dqField_ok (hB : TbOk P B) (hf : FrV T B.n a env) (hm : MOk wr T w m) {t : TypeId} {x : Operand} {i : Nat} {v : V} {fr : List (List Pc)} (h : dqField B env t x i = some (v, fr)) : Does P (.fieldAddr t x i) a w (Grew wr T w m nt v fr) := by
  unfold dqField at h
  split at h
  · rename_i tg o hx
    obtain ⟨b, hb, hx⟩ := evS_ok hf hx
    split at h
    · rename_i l hl
      obtain ⟨fs, hu, hfs, _⟩ := hB.fld t l hl
      split at h
      · rename_i off n hi
        simp only [Option.some.injEq, Prod.mk.injEq] at h
        obtain ⟨rfl, rfl⟩ := h
        obtain ⟨f, h1, h2, h3, h4⟩ := hfs i off n hi
        refine does_value (v := .pointer (some ⟨b.blk, b.off + (o + off), none⟩)) (w' := w) (fun d ty pos after g => ?_) (grew_sc hm ⟨b, hb, rfl⟩)
        simp only [execOp, hx, Instr.fieldAt, Instr.sureAddr, Sem.run_bind, run_underlying hu, Result.andThen_ok, h1, Sem.run_pure, fieldPlace, h4, h3, if_false, addr_add, h2, Nat.add_assoc]
      · cases h
    · cases h
  · cases h

def dqIndex (B : Tb) (env : Env) (t : TypeId) (x i : Operand) : DR :=
  match evS env x, evS env i with
  | some s, some j => match litN j with
    | some j => match s with
      | .p tg o => match lkp B.arr t with
        | some (len, n) => bif Nat.blt j len then some (.s (.p tg (o + j * n)), []) else none
        | none => none
      | s => match slp s with
        | some (tg, o, len) => match lkp B.slc t with
          | some n => bif Nat.blt j len then some (.s (.p tg (o + j * n)), []) else none
          | none => none
        | none => none
    | none => none
  | _, _ => none

theorem dqIndex_ok (hB : TbOk P B) (hf : FrV T B.n a env) (hm : MOk wr T w m) {t : TypeId} {x i : Operand} {v : V} {fr : List (List Pc)} (h : dqIndex B env t x i = some (v, fr)) : Does P (.indexAddr t x i) a w (Grew wr T w m nt v fr) := by
  unfold dqIndex at h
  split at h
  · rename_i s j hs0 hj0
    have hs := evS_ok hf hs0
    have hj1 := evS_ok hf hj0
    clear hs0 hj0
    split at h
    · rename_i j' hj'
      obtain ⟨k, hj⟩ := litN_ok hj' hj1
      clear hj1
      split at h
      · rename_i tg o
        obtain ⟨b, hb, hx⟩ := hs
        split at h
        · rename_i len n hl
          obtain ⟨e, hu, hsz⟩ := hB.arr t len n hl
          cases hlt : Nat.blt j' len with
          | false => rw [hlt] at h; cases h
          | true =>
            rw [hlt] at h
            simp only [cond_true, Option.some.injEq, Prod.mk.injEq] at h
            obtain ⟨rfl, rfl⟩ := h
            have hlt : j' < len := by simpa [Nat.blt_eq] using hlt
            refine does_value (v := .pointer (some ⟨b.blk, b.off + (o + j' * n), none⟩)) (w' := w) (fun d ty pos after g => ?_) (grew_sc hm ⟨b, hb, rfl⟩)
            have hal : P.arrayLen t = len := by simp [Program.arrayLen, hu]
            have hel : P.elem t = e := by simp [Program.elem, hu]
            simp only [execOp, hx, hj, Sem.run_bind]
            rw [run_indexAt_array w t _ k (j' : Int) (by rw [hal, hel]; exact hu), if_pos (by rw [hal]; omega), hel, hsz]
            simp only [Result.andThen_ok, Int.toNat_natCast, Sem.run_pure, addr_add, Nat.add_assoc]
        · cases h
      · split at h
        · rename_i tg o len hsl
          obtain ⟨b, c, hb, hx⟩ := slp_ok hsl hs
          split at h
          · rename_i n hl
            obtain ⟨e, hu, hsz⟩ := hB.slc t n hl
            cases hlt : Nat.blt j' len with
            | false => rw [hlt] at h; cases h
            | true =>
              rw [hlt] at h
              simp only [cond_true, Option.some.injEq, Prod.mk.injEq] at h
              obtain ⟨rfl, rfl⟩ := h
              have hlt : j' < len := by simpa [Nat.blt_eq] using hlt
              refine does_value (v := .pointer (some ⟨b.blk, b.off + (o + j' * n), none⟩)) (w' := w) (fun d ty pos after g => ?_) (grew_sc hm ⟨b, hb, rfl⟩)
              have hel : P.elem t = e := by simp [Program.elem, hu]
              simp only [execOp, hx, hj, Sem.run_bind]
              rw [run_indexAt_slice w t _ len c k (j' : Int) (by rw [hel]; exact hu), if_pos (by omega), hel, hsz]
              simp only [Result.andThen_ok, Int.toNat_natCast, Sem.run_pure, addr_add, Nat.add_assoc]
          · cases h
        · cases h
    · cases h
  · cases h

end
end Go.Proofs.Ytdaheccfeihpgaa.Nm

namespace Go.Proofs.Ytdaheccfeihpgaa.Nm
open Go Go.RowKit

section
variable {P : Program} {B : Tb} {wr : Nat → Bool} {T : Tg} {a : Act} {w : World} {env : Env} {m : Mem} {nt : Nat}

/-! ### Slices of arrays and of slices -/
def bnd (env : Env) (o : Option Operand) (d : Nat) : Option Nat := match o with
  | none => some d
  | some x => match evS env x with
    | some s => litN s
    | none => none

theorem bnd_ok (hf : FrV T B.n a env) {o : Option Operand} {d l : Nat} (h : bnd env o d = some l) : (o.map a.eval = none ∧ l = d) ∨ ∃ k, o.map a.eval = some (.int k (l : Int)) := by
  unfold bnd at h
  split at h
  · cases h; exact .inl ⟨rfl, rfl⟩
  · split at h
    · rename_i x s hs
      obtain ⟨k, hk⟩ := litN_ok h (evS_ok hf hs)
      exact .inr ⟨k, by simp [hk]⟩
    · cases h

theorem run_bounds (isSlice : Bool) (len cap : Nat) {lo hi : Option Value} {l h : Nat} (hl : (lo = none ∧ l = 0) ∨ ∃ k, lo = some (.int k (l : Int))) (hh : (hi = none ∧ h = len) ∨ ∃ k, hi = some (.int k (h : Int))) (h1 : l ≤ h) (h2 : h ≤ cap) :
    (Instr.sliceBounds isSlice len cap lo hi none).run P w = .ok (l, h, cap) w := by
  have e1 : (0 : Int) ≤ (l : Int) := by omega
  have e2 : (0 : Int) ≤ (h : Int) := by omega
  have e3 : (l : Int) ≤ (h : Int) := by omega
  have e4 : (h : Int) ≤ (cap : Int) := by omega
  rcases hl with ⟨rfl, rfl⟩ | ⟨k, rfl⟩ <;> rcases hh with ⟨rfl, rfl⟩ | ⟨k', rfl⟩ <;> simp only [Instr.sliceBounds, Sem.run_bind, Sem.run_pure, Result.andThen_ok, run_sliceBound w _ _ _ _ e1 e3, run_sliceBound w _ _ _ _ e2 e4, Int.toNat_natCast]

def dqSlice (B : Tb) (env : Env) (t : TypeId) (x : Operand) (lo hi : Option Operand) : DR :=
  match evS env x with
  | some (.p tg o) => match lkp B.arr t with
    | some (len, n) => match bnd env lo 0, bnd env hi len with
      | some l, some h => bif Nat.ble l h && Nat.ble h len && (Nat.beq l 0 || Nat.blt l len) then some (.s (.sl tg (o + l * n) (h - l) (len - l)), []) else none
      | _, _ => none
    | none => none
  | some (.sl tg o len cap) => match lkp B.slc t with
    | some n => match bnd env lo 0, bnd env hi len with
      | some l, some h => bif Nat.ble l h && Nat.ble h cap && (Nat.beq l 0 || Nat.blt l cap) then some (.s (.sl tg (o + l * n) (h - l) (cap - l)), []) else none
      | _, _ => none
    | none => none
  | some (.slu tg o len) => match lkp B.slc t with
    | some 1 => match bnd env lo 0, bnd env hi len with
      | some l, some h => bif Nat.ble l h && Nat.ble h len && (Nat.beq l 0 || Nat.blt l h) then some (.s (.slu tg (o + l) (h - l)), []) else none
      | _, _ => none
    | _ => none
  | _ => none

theorem slice_addr {m l b o s : Nat} (h : l = 0 ∨ l < m) : (if m = l then (⟨b, o, none⟩ : Addr) else (⟨b, o, none⟩ : Addr).add (l * s)) = ⟨b, o + l * s, none⟩ := by
  rw [addr_add]
  split
  · rcases h with rfl | h
    · simp
    · omega
  · rfl

theorem dqSlice_ok (hB : TbOk P B) (hf : FrV T B.n a env) (hm : MOk wr T w m) {t : TypeId} {x : Operand} {lo hi : Option Operand} {v : V} {fr : List (List Pc)} (h : dqSlice B env t x lo hi = some (v, fr)) : Does P (.slice t x lo hi none) a w (Grew wr T w m nt v fr) := by
  unfold dqSlice at h
  split at h
  · rename_i tg o hx
    obtain ⟨b, hb, hx⟩ := evS_ok hf hx
    split at h
    · rename_i len n hl
      obtain ⟨e, hu, hsz⟩ := hB.arr t len n hl
      split at h
      · rename_i l h' hlo hhi
        cases hc : Nat.ble l h' && Nat.ble h' len && (Nat.beq l 0 || Nat.blt l len) with
        | false => rw [hc] at h; cases h
        | true =>
          rw [hc] at h
          simp only [cond_true, Option.some.injEq, Prod.mk.injEq] at h
          obtain ⟨rfl, rfl⟩ := h
          simp only [Bool.and_eq_true, Bool.or_eq_true, Nat.ble_eq, Nat.beq_eq, Nat.blt_eq] at hc
          refine does_value (v := .slice (some ⟨b.blk, b.off + (o + l * n), none⟩) (h' - l) (len - l)) (w' := w) (fun d ty pos after g => ?_) (grew_sc hm ⟨b, hb, rfl⟩)
          simp only [execOp, hx, Option.map_none, Instr.sliceAt, Sem.run_bind, run_underlying hu, Result.andThen_ok, Instr.sureAddr, Sem.run_pure, run_bounds false len len (bnd_ok hf hlo) (bnd_ok hf hhi) hc.1.1 hc.1.2, hsz, slice_addr hc.2, Nat.add_assoc]
      · cases h
    · cases h
  · rename_i tg o len cap hx
    obtain ⟨b, hb, hx⟩ := evS_ok hf hx
    split at h
    · rename_i n hl
      obtain ⟨e, hu, hsz⟩ := hB.slc t n hl
      split at h
      · rename_i l h' hlo hhi
        cases hc : Nat.ble l h' && Nat.ble h' cap && (Nat.beq l 0 || Nat.blt l cap) with
        | false => rw [hc] at h; cases h
        | true =>
          rw [hc] at h
          simp only [cond_true, Option.some.injEq, Prod.mk.injEq] at h
          obtain ⟨rfl, rfl⟩ := h
          simp only [Bool.and_eq_true, Bool.or_eq_true, Nat.ble_eq, Nat.beq_eq, Nat.blt_eq] at hc
          refine does_value (v := .slice (some ⟨b.blk, b.off + (o + l * n), none⟩) (h' - l) (cap - l)) (w' := w) (fun d ty pos after g => ?_) (grew_sc hm ⟨b, hb, rfl⟩)
          have hel : P.elem t = e := by simp [Program.elem, hu]
          simp only [execOp, hx, Option.map_none, Sem.run_bind]
          rw [run_sliceAt_slice w t _ _ _ _ (by rw [hel]; exact hu), run_slice_any w t _ len cap (by rw [hel]; exact hu), run_bounds true len cap (bnd_ok hf hlo) (bnd_ok hf hhi) hc.1.1 hc.1.2]
          simp only [Result.andThen_ok, hel, hsz, sliced, Option.map_some, Sem.run_pure]
          congr 3
          rw [← Nat.add_assoc, ← slice_addr (s := n) hc.2]
          split <;> rfl
      · cases h
    · cases h
  · rename_i tg o len hx
    obtain ⟨b, hb, hx, hle⟩ := evS_ok hf hx
    split at h
    · rename_i hl
      obtain ⟨e, hu, hsz⟩ := hB.slc t 1 hl
      split at h
      · rename_i l h' hlo hhi
        cases hc : Nat.ble l h' && Nat.ble h' len && (Nat.beq l 0 || Nat.blt l h') with
        | false => rw [hc] at h; cases h
        | true =>
          rw [hc] at h
          simp only [cond_true, Option.some.injEq, Prod.mk.injEq] at h
          obtain ⟨rfl, rfl⟩ := h
          simp only [Bool.and_eq_true, Bool.or_eq_true, Nat.ble_eq, Nat.beq_eq, Nat.blt_eq] at hc
          refine does_value (v := .slice (some ⟨b.blk, b.off + (o + l), none⟩) (h' - l) (b.fin - (b.off + (o + l)))) (w' := w) (fun d ty pos after g => ?_) (grew_sc hm ⟨b, hb, rfl, by omega⟩)
          have hel : P.elem t = e := by simp [Program.elem, hu]
          simp only [execOp, hx, Option.map_none, Sem.run_bind]
          rw [run_sliceAt_slice w t _ _ _ _ (by rw [hel]; exact hu), run_slice_any w t _ len (b.fin - (b.off + o)) (by rw [hel]; exact hu), run_bounds true len (b.fin - (b.off + o)) (bnd_ok hf hlo) (bnd_ok hf hhi) hc.1.1 (by omega)]
          simp only [Result.andThen_ok, hel, hsz, sliced, Option.map_some, Sem.run_pure]
          have e1 := slice_addr (m := b.fin - (b.off + o)) (l := l) (b := b.blk) (o := b.off + o) (s := 1) (by omega)
          rw [Nat.mul_one] at e1
          have e2 : b.fin - (b.off + o) - l = b.fin - (b.off + (o + l)) := by omega
          rw [e2]
          congr 3
          rw [← Nat.add_assoc, ← e1, Nat.mul_one]
          split <;> rfl
      · cases h
    · cases h
  · cases h

def dqArr (B : Tb) (env : Env) (t : TypeId) (x : Operand) : DR :=
  match lkp B.arr t with
  | some (len, _) => match evS env x with
    | some s => match slp s with
      | some (tg, o, l) => bif Nat.ble len l then some (.s (.p tg o), []) else none
      | none => none
    | none => none
  | none => none

theorem dqArr_ok (hB : TbOk P B) (hf : FrV T B.n a env) (hm : MOk wr T w m) {t : TypeId} {x : Operand} {v : V} {fr : List (List Pc)} (h : dqArr B env t x = some (v, fr)) : Does P (.sliceToArrayPointer t x) a w (Grew wr T w m nt v fr) := by
  unfold dqArr at h
  split at h
  · rename_i len n hl
    obtain ⟨e, hu, hsz⟩ := hB.arr t len n hl
    split at h
    · rename_i s hs
      split at h
      · rename_i tg o l hsl
        obtain ⟨b, c, hb, hx⟩ := slp_ok hsl (evS_ok hf hs)
        cases hc : Nat.ble len l with
        | false => rw [hc] at h; cases h
        | true =>
          rw [hc] at h
          simp only [cond_true, Option.some.injEq, Prod.mk.injEq] at h
          obtain ⟨rfl, rfl⟩ := h
          have hle := Nat.le_of_ble_eq_true hc
          refine does_value (v := .pointer (some ⟨b.blk, b.off + o, none⟩)) (w' := w) (fun d ty pos after g => ?_) (grew_sc hm ⟨b, hb, rfl⟩)
          simp only [execOp, hx, Instr.arrayAt, Sem.run_bind, run_underlying hu, Result.andThen_ok, if_neg (by omega : ¬ l < len), Sem.run_pure]
      · cases h
    · cases h
  · cases h

/-! ### Numbers, truth values, errors -/
def dqBin (B : Tb) (env : Env) (op : BinOp) (t : TypeId) (x y : Operand) : DR :=
  match evS env x, evS env y with
  | some s, some r => match dqInt op s r with
    | some z => some (.s z, [])
    | none => match s, r, y with
      | .nif, .nif, .const _ => bif has B.ifs t then match op with
        | .eql => some (.s (.bl true), [])
        | .neq => some (.s (.bl false), [])
        | _ => none else none
      | .ifc _ _, .nif, _ => bif has B.ifs t then match op with
        | .eql => some (.s (.bl false), [])
        | .neq => some (.s (.bl true), [])
        | _ => none else none
      | .sl _ _ _ _, .snil, _ => match lkp B.slc t with
        | some _ => match op with
          | .eql => some (.s (.bl false), [])
          | .neq => some (.s (.bl true), [])
          | _ => none
        | none => none
      | .slu _ _ _, .snil, _ => match lkp B.slc t with
        | some _ => match op with
          | .eql => some (.s (.bl false), [])
          | .neq => some (.s (.bl true), [])
          | _ => none
        | none => none
      | .bl b, .bl c, _ => bif has B.bos t then match op with
        | .eql => some (.s (.bl (b == c)), [])
        | _ => none else none
      | .bs b, .bl c, _ => bif has B.bos t then match op with
        | .eql => some (.s (.bs (b == c)), [])
        | _ => none else none
      | .bl b, .bs c, _ => bif has B.bos t then match op with
        | .eql => some (.s (.bs (b == c)), [])
        | _ => none else none
      | .bs b, .bs c, _ => bif has B.bos t then match op with
        | .eql => some (.s (.bs (b == c)), [])
        | _ => none else none
      | _, _, _ => none
  | _, _ => none

theorem run_eq_bool {t : TypeId} (hu : P.underlying t = some .bool) (b c : Bool) : (Op.equal t (.bool b) (.bool c)).run P w = .ok (b == c) w := by
  unfold Op.equal Op.maxDepth
  rw [Op.equalIn]
  simp only [Sem.run_bind, run_underlying hu, Result.andThen_ok, Sem.run_pure]

theorem bool_eq_run {t : TypeId} (hu : P.underlying t = some .bool) (b c : Bool) (x y : Operand) : (do eqGuard .eql t x y (.bool b) (.bool c); binOp .eql t (.bool b) (.bool c) : Sem Value).run P w = .ok (.bool (b == c)) w := by
  have e1 : (eqGuard .eql t x y (.bool b) (.bool c)).run P w = .ok () w := rfl
  simp only [Sem.run_bind, e1, Result.andThen_ok, binOp, run_eq_bool hu, Sem.run_pure]

theorem does_bin {op : BinOp} {t : TypeId} {x y : Operand} {ty : TypeId} {v : Value} {N : Value → World → Prop} (h : (do eqGuard op t x y (a.eval x) (a.eval y); binOp op t (a.eval x) (a.eval y) : Sem Value).run P w = .ok v w) (hN : N v w) : Does P (.binOp op t x y ty) a w N := by
  refine does_value (v := v) (w' := w) (fun d ty pos after g => ?_) hN
  simp only [execOp, Sem.run_bind] at h ⊢
  rw [h]
  rfl

theorem nil_eq_run {t : TypeId} {ms : Array (String × TypeId)} (hu : P.underlying t = some (.interface ms)) (op : BinOp) (x : Operand) (c : Value) (hop : op = .eql ∨ op = .neq) :
    (do eqGuard op t x (.const c) .nilIface .nilIface; binOp op t .nilIface .nilIface : Sem Value).run P w = .ok (.bool (match op with | .eql => true | _ => false)) w := by
  have e2 : (Op.equal t .nilIface .nilIface).run P w = .ok true w := by
    unfold Op.equal Op.maxDepth
    rw [Op.equalIn]
    simp only [Sem.run_bind, run_underlying hu, Result.andThen_ok, Sem.run_pure]
  rcases hop with rfl | rfl
  · have e1 : (eqGuard .eql t x (.const c) .nilIface .nilIface).run P w = .ok () w := by cases x <;> rfl
    simp only [Sem.run_bind, e1, Result.andThen_ok, binOp, e2, Sem.run_pure]
  · have e1 : (eqGuard .neq t x (.const c) .nilIface .nilIface).run P w = .ok () w := by cases x <;> rfl
    simp only [Sem.run_bind, e1, Result.andThen_ok, binOp, e2, Sem.run_pure, Bool.not_true]

theorem ifc_eq_run {t : TypeId} {ms : Array (String × TypeId)} (hu : P.underlying t = some (.interface ms)) (op : BinOp) (x y : Operand) (ty : TypeId) (v : Value) (hop : op = .eql ∨ op = .neq) :
    (do eqGuard op t x y (.iface ty v) .nilIface; binOp op t (.iface ty v) .nilIface : Sem Value).run P w = .ok (.bool (match op with | .eql => false | _ => true)) w := by
  have e2 : (Op.equal t (.iface ty v) .nilIface).run P w = .ok false w := by
    unfold Op.equal Op.maxDepth
    rw [Op.equalIn]
    simp only [Sem.run_bind, run_underlying hu, Result.andThen_ok, Sem.run_pure]
  rcases hop with rfl | rfl
  · have e1 : (eqGuard .eql t x y (.iface ty v) .nilIface).run P w = .ok () w := rfl
    simp only [Sem.run_bind, e1, Result.andThen_ok, binOp, e2, Sem.run_pure]
  · have e1 : (eqGuard .neq t x y (.iface ty v) .nilIface).run P w = .ok () w := rfl
    simp only [Sem.run_bind, e1, Result.andThen_ok, binOp, e2, Sem.run_pure, Bool.not_false]

theorem sl_eq_run {t e : TypeId} (hu : P.underlying t = some (.slice e)) (op : BinOp) (x y : Operand) (a : Addr) (n c : Nat) (hop : op = .eql ∨ op = .neq) :
    (do eqGuard op t x y (.slice (some a) n c) (.slice none 0 0); binOp op t (.slice (some a) n c) (.slice none 0 0) : Sem Value).run P w = .ok (.bool (match op with | .eql => false | _ => true)) w := by
  have e2 : (Op.equal t (.slice (some a) n c) (.slice none 0 0)).run P w = .ok false w := by
    unfold Op.equal Op.maxDepth
    rw [Op.equalIn]
    simp only [Sem.run_bind, run_underlying hu, Result.andThen_ok, Sem.run_pure]
  rcases hop with rfl | rfl
  · have e1 : (eqGuard .eql t x y (.slice (some a) n c) (.slice none 0 0)).run P w = .ok () w := rfl
    simp only [Sem.run_bind, e1, Result.andThen_ok, binOp, e2, Sem.run_pure]
  · have e1 : (eqGuard .neq t x y (.slice (some a) n c) (.slice none 0 0)).run P w = .ok () w := rfl
    simp only [Sem.run_bind, e1, Result.andThen_ok, binOp, e2, Sem.run_pure, Bool.not_false]

theorem dqBin_ok (hB : TbOk P B) (hf : FrV T B.n a env) (hm : MOk wr T w m) {op : BinOp} {t ty : TypeId} {x y : Operand} {v : V} {fr : List (List Pc)} (h : dqBin B env op t x y = some (v, fr)) : Does P (.binOp op t x y ty) a w (Grew wr T w m nt v fr) := by
  unfold dqBin at h
  split at h
  · rename_i s r hs0 hr0
    have hs := evS_ok hf hs0
    have hr := evS_ok hf hr0
    clear hs0 hr0
    split at h
    · rename_i z hz
      simp only [Option.some.injEq, Prod.mk.injEq] at h
      obtain ⟨rfl, rfl⟩ := h
      obtain ⟨v, hv, hr⟩ := dqInt_ok (P := P) (w := w) hs hr hz t x y
      exact does_bin hv (grew_sc hm hr)
    · rename_i hz
      clear hz
      split at h
      · rename_i cv
        cases hi : has B.ifs t with
        | false => rw [hi] at h; cases h
        | true =>
          rw [hi] at h
          obtain ⟨ms, hu⟩ := hB.ifs t hi
          have hs : a.eval x = .nilIface := hs
          have hr' : a.eval (.const cv) = .nilIface := hr
          simp only [cond_true] at h
          split at h
          · simp only [Option.some.injEq, Prod.mk.injEq] at h
            obtain ⟨rfl, rfl⟩ := h
            exact does_bin (by rw [hs, hr', nil_eq_run hu .eql x _ (.inl rfl)]) (grew_sc hm rfl)
          · simp only [Option.some.injEq, Prod.mk.injEq] at h
            obtain ⟨rfl, rfl⟩ := h
            exact does_bin (by rw [hs, hr', nil_eq_run hu .neq x _ (.inr rfl)]) (grew_sc hm rfl)
          · cases h
      · cases hi : has B.ifs t with
        | false => rw [hi] at h; cases h
        | true =>
          rw [hi] at h
          obtain ⟨ms, hu⟩ := hB.ifs t hi
          obtain ⟨b, _, hs⟩ := hs
          have hr : a.eval y = .nilIface := hr
          simp only [cond_true] at h
          split at h
          · simp only [Option.some.injEq, Prod.mk.injEq] at h
            obtain ⟨rfl, rfl⟩ := h
            exact does_bin (by rw [hs, hr, ifc_eq_run hu .eql x y _ _ (.inl rfl)]) (grew_sc hm rfl)
          · simp only [Option.some.injEq, Prod.mk.injEq] at h
            obtain ⟨rfl, rfl⟩ := h
            exact does_bin (by rw [hs, hr, ifc_eq_run hu .neq x y _ _ (.inr rfl)]) (grew_sc hm rfl)
          · cases h
      · split at h
        · rename_i n hn
          obtain ⟨e, hu, _⟩ := hB.slc t n hn
          obtain ⟨b, _, hs⟩ := hs
          have hr : a.eval y = .slice none 0 0 := hr
          split at h
          · simp only [Option.some.injEq, Prod.mk.injEq] at h
            obtain ⟨rfl, rfl⟩ := h
            exact does_bin (by rw [hs, hr, sl_eq_run hu .eql x y _ _ _ (.inl rfl)]) (grew_sc hm rfl)
          · simp only [Option.some.injEq, Prod.mk.injEq] at h
            obtain ⟨rfl, rfl⟩ := h
            exact does_bin (by rw [hs, hr, sl_eq_run hu .neq x y _ _ _ (.inr rfl)]) (grew_sc hm rfl)
          · cases h
        · cases h
      · split at h
        · rename_i n hn
          obtain ⟨e, hu, _⟩ := hB.slc t n hn
          obtain ⟨b, _, hs, _⟩ := hs
          have hr : a.eval y = .slice none 0 0 := hr
          split at h
          · simp only [Option.some.injEq, Prod.mk.injEq] at h
            obtain ⟨rfl, rfl⟩ := h
            exact does_bin (by rw [hs, hr, sl_eq_run hu .eql x y _ _ _ (.inl rfl)]) (grew_sc hm rfl)
          · simp only [Option.some.injEq, Prod.mk.injEq] at h
            obtain ⟨rfl, rfl⟩ := h
            exact does_bin (by rw [hs, hr, sl_eq_run hu .neq x y _ _ _ (.inr rfl)]) (grew_sc hm rfl)
          · cases h
        · cases h
      all_goals first
        | (rename_i b c
           cases hi : has B.bos t with
           | false => rw [hi] at h; cases h
           | true =>
             rw [hi] at h
             have hu := hB.bos t hi
             have hs : a.eval x = .bool b := hs
             have hr : a.eval y = .bool c := hr
             simp only [cond_true] at h
             split at h
             · simp only [Option.some.injEq, Prod.mk.injEq] at h
               obtain ⟨rfl, rfl⟩ := h
               exact does_bin (by rw [hs, hr, bool_eq_run hu b c x y]) (grew_sc hm rfl)
             · cases h)
        | cases h
  · cases h

/-- Cells for the numbers of bytes. -/
theorem bt_cell {T : Tg} {bs : List Nat} {xs : List Value} (h : PR T [.bt bs] xs) : (bs.map UInt8.ofNat).length = 28 ∧ xs = (bs.map UInt8.ofNat).map Extern.Stop.cell := by
  obtain ⟨hc, hg⟩ := h
  obtain ⟨h1, h2⟩ := hg (.bt bs) (by simp)
  refine ⟨by simp [h1], ?_⟩
  simp only [flat, List.append_nil, bt_cells h1] at hc
  have key : ∀ (l : List Nat) (ys : List Value), (∀ b ∈ l, b < 256) → CR T (l.map fun (x : Nat) => Sc.sym .u8 (x : Int)) ys → ys = (l.map UInt8.ofNat).map Extern.Stop.cell := by
    intro l
    induction l with
    | nil => intro ys _ hy; cases hy; rfl
    | cons b r ih =>
      intro ys hb hy
      cases hy with
      | cons a c =>
        obtain ⟨rfl, _⟩ := a
        rw [ih _ (fun x hx => hb x (by simp [hx])) c]
        have := hb b (by simp)
        simp [Extern.Stop.cell, Nat.mod_eq_of_lt this]
  exact key bs xs h2 hc

theorem u8_beq : ∀ {a b : List Nat}, (∀ x ∈ a, x < 256) → (∀ x ∈ b, x < 256) → (a.map UInt8.ofNat == b.map UInt8.ofNat) = (a == b)
  | [], [], _, _ => rfl
  | [], _ :: _, _, _ => rfl
  | _ :: _, [], _, _ => rfl
  | x :: r, y :: q, ha, hb => by
    have h1 := ha x (by simp)
    have h2 := hb y (by simp)
    have e : (UInt8.ofNat x == UInt8.ofNat y) = (x == y) := by
      rw [Bool.eq_iff_iff]
      simp only [beq_iff_eq, ← UInt8.toNat_inj, UInt8.toNat_ofNat']
      omega
    have ih : (r.map UInt8.ofNat == q.map UInt8.ofNat) = (r == q) := u8_beq (fun z hz => ha z (by simp [hz])) (fun z hz => hb z (by simp [hz]))
    simp only [List.map_cons, List.cons_beq_cons, e, ih]

/-- Numbers, truth values, errors, or 28 bytes. -/
def dqBin2 (B : Tb) (env : Env) (op : BinOp) (t : TypeId) (x y : Operand) : DR := match op, evV env x, evV env y with
  | .eql, some (.agg [.bt a]), some (.agg [.bt b]) => bif has B.bar t then some (.s (.bs (a == b)), []) else none
  | op, _, _ => dqBin B env op t x y

theorem dqBin2_ok (hB : TbOk P B) (hf : FrV T B.n a env) (hm : MOk wr T w m) {op : BinOp} {t ty : TypeId} {x y : Operand} {v : V} {fr : List (List Pc)} (h : dqBin2 B env op t x y = some (v, fr)) : Does P (.binOp op t x y ty) a w (Grew wr T w m nt v fr) := by
  unfold dqBin2 at h
  split at h
  · rename_i bx b1 hx hy
    cases hb : has B.bar t with
    | false => rw [hb] at h; cases h
    | true =>
      rw [hb] at h
      simp only [cond_true, Option.some.injEq, Prod.mk.injEq] at h
      obtain ⟨rfl, rfl⟩ := h
      obtain ⟨hg, e, hu, he, hsz⟩ := hB.bar t hb
      have h1 := evV_ok hf hx
      have h2 := evV_ok hf hy
      rw [V.R] at h1 h2
      obtain ⟨xs, ex, hp⟩ := h1
      obtain ⟨ys, ey, hq⟩ := h2
      obtain ⟨l1, rfl⟩ := bt_cell hp
      obtain ⟨l2, rfl⟩ := bt_cell hq
      refine does_bin (v := .bool (bx == b1)) ?_ (grew_sc hm rfl)
      have e1 : (eqGuard .eql t x y (a.eval x) (a.eval y)).run P w = .ok () w := by
        rw [ex, ey]
        simp [eqGuard, hg]
      simp only [Sem.run_bind, e1, Result.andThen_ok]
      rw [ex, ey, run_eql_bytes w t e 28 hu he hsz _ _ l1 l2, u8_beq (hp.2 (.bt bx) (by simp)).2 (hq.2 (.bt b1) (by simp)).2]
  · exact dqBin_ok hB hf hm h

def dqNot (env : Env) (x : Operand) : DR :=
  match evS env x with
  | some (.bl b) => some (.s (.bl (!b)), [])
  | some (.bs b) => some (.s (.bs (!b)), [])
  | _ => none

theorem dqNot_ok (hf : FrV T B.n a env) (hm : MOk wr T w m) {t : TypeId} {x : Operand} {v : V} {fr : List (List Pc)} (h : dqNot env x = some (v, fr)) : Does P (.unOp .not t x) a w (Grew wr T w m nt v fr) := by
  unfold dqNot at h
  split at h
  · rename_i b hb
    have hb : a.eval x = .bool b := evS_ok hf hb
    simp only [Option.some.injEq, Prod.mk.injEq] at h
    obtain ⟨rfl, rfl⟩ := h
    refine does_value (v := .bool (!b)) (w' := w) (fun d ty pos after g => ?_) (grew_sc hm rfl)
    simp only [execOp, hb, Op.unary]; rfl
  · rename_i b hb
    have hb : a.eval x = .bool b := evS_ok hf hb
    simp only [Option.some.injEq, Prod.mk.injEq] at h
    obtain ⟨rfl, rfl⟩ := h
    refine does_value (v := .bool (!b)) (w' := w) (fun d ty pos after g => ?_) (grew_sc hm rfl)
    simp only [execOp, hb, Op.unary]; rfl
  · cases h

def dqConv (B : Tb) (env : Env) (src dst : TypeId) (x : Operand) : DR :=
  match evS env x with
  | some s => match num s, lkp B.ik src, lkp B.ik dst with
    | some (b, _, n), some _, some k => some (.s (mkN b k (k.wrap n)), [])
    | _, _, _ => none
  | none => none

theorem dqConv_ok (hB : TbOk P B) (hf : FrV T B.n a env) (hm : MOk wr T w m) {src dst : TypeId} {x : Operand} {v : V} {fr : List (List Pc)} (h : dqConv B env src dst x = some (v, fr)) : Does P (.convert src dst x) a w (Grew wr T w m nt v fr) := by
  unfold dqConv at h
  split at h
  · rename_i s hs
    split at h
    · rename_i b k n k1 k2 hn h1 h2
      obtain ⟨hx, _⟩ := num_ok hn (evS_ok hf hs)
      simp only [Option.some.injEq, Prod.mk.injEq] at h
      obtain ⟨rfl, rfl⟩ := h
      refine does_value (v := .int k2 (k2.wrap n)) (w' := w) (fun d ty pos after g => ?_) (grew_sc hm (mkN_R (wrap_idem _ _)))
      simp only [execOp, hx, convert, Sem.run_bind, run_underlying (hB.ik _ _ h1), run_underlying (hB.ik _ _ h2), Result.andThen_ok, Conv.intToInt, Sem.run_pure]
    · cases h
  · cases h

end
end Go.Proofs.Ytdaheccfeihpgaa.Nm

namespace Go.Proofs.Ytdaheccfeihpgaa.Nm
open Go Go.RowKit

/-! ### Structs and arrays that are built -/
def fillP (place : Nat → Option (Nat × Nat)) : List Pc → List (Nat × V) → Option (List Pc)
  | l, [] => some l
  | l, (i, v) :: r => match place i with
    | some (off, size) => match v.pcs with
      | some q => bif Nat.beq (widthL q) size then match wrN l off q with
        | some l' => fillP place l' r
        | none => none else none
      | none => none
    | none => none

theorem foldl_set (off : Nat) : ∀ (ys : List Value) (k : Nat) (cells : Array Value), off + k + ys.length ≤ cells.size →
    ((ys.zipIdx k).foldl (fun cs (p : Value × Nat) => cs.setIfInBounds (off + p.2) p.1) cells).toList = cells.toList.take (off + k) ++ ys ++ cells.toList.drop (off + k + ys.length)
  | [], k, cells, _ => by simp
  | y :: r, k, cells, h => by
    simp only [List.zipIdx_cons, List.foldl_cons]
    rw [foldl_set off r (k + 1) _ (by simp at h ⊢; omega)]
    simp only [List.length_cons] at h
    have hn : off + k < cells.toList.length := by rw [Array.length_toList]; omega
    have h1 : (cells.toList.set (off + k) y).take (off + (k + 1)) = cells.toList.take (off + k) ++ [y] := by
      rw [List.set_eq_take_append_cons_drop, if_pos hn, List.take_append]
      simp [show min (off + k) cells.size = off + k by (rw [Array.length_toList] at hn; omega), show off + (k + 1) - (off + k) = 1 by omega, List.take_take, show min (off + (k + 1)) (off + k) = off + k by omega]
    have h2 : (cells.toList.set (off + k) y).drop (off + (k + 1) + r.length) = cells.toList.drop (off + k + (r.length + 1)) := by
      rw [List.drop_set_of_lt (by omega)]
      congr 1
      omega
    simp only [Array.toList_setIfInBounds, List.length_cons]
    rw [h1, h2]
    simp

/-- Parts for parts. -/
inductive PsR (T : Tg) : List (Nat × V) → List (Nat × Value) → Prop where
  | nil : PsR T [] []
  | cons {i v x l xs} : v.R T x → PsR T l xs → PsR T ((i, v) :: l) ((i, x) :: xs)

theorem fillP_ok {T : Tg} {place : Nat → Option (Nat × Nat)} {ps : List (Nat × V)} {xs : List (Nat × Value)} (hp : PsR T ps xs) : ∀ {l l' : List Pc} {cells : Array Value}, PR T l cells.toList → fillP place l ps = some l' →
    ∃ c, Instr.fill place cells xs = some c ∧ PR T l' c.toList := by
  induction hp with
  | nil =>
    intro l l' cells hl h
    cases h
    exact ⟨cells, rfl, hl⟩
  | @cons i v x ps xs hv _ ih =>
    intro l l' cells hl h
    simp only [fillP] at h
    split at h
    · rename_i off size hpl
      split at h
      · rename_i q hq
        cases hb : Nat.beq (widthL q) size with
        | false => rw [hb] at h; cases h
        | true =>
          rw [hb] at h
          simp only [cond_true] at h
          split at h
          · rename_i l1 hw
            have hpc := hv.pcs hq
            have hsz : x.cells.size = size := by
              have := Nat.eq_of_beq_eq_true hb
              rw [widthL_ok, ← hpc.1.length, Array.length_toList] at this
              exact this
            obtain ⟨_, hle, _⟩ := wrN_ok hw
            have hle' : off + x.cells.size ≤ cells.size := by
              rw [← hpc.1.length, ← hl.1.length, Array.length_toList, Array.length_toList] at hle
              exact hle
            have hnew := hl.wrN hpc hw
            simp only [Instr.fill, hpl]
            rw [if_neg (by
              simp only [Bool.or_eq_true, decide_eq_true_eq, not_or, ne_eq, Decidable.not_not]
              omega)]
            have hcells : (x.cells.zipIdx.foldl (fun cs (p : Value × Nat) => cs.setIfInBounds (off + p.2) p.1) cells).toList = cells.toList.take off ++ x.cells.toList ++ cells.toList.drop (off + x.cells.toList.length) := by
              rw [← Array.foldl_toList, Array.toList_zipIdx, foldl_set off _ 0 cells (by simpa using hle')]
              simp
            rw [← hcells] at hnew
            exact ih hnew h
          · cases h
      · cases h
    · cases h

def evP (env : Env) : List (Nat × Operand) → Option (List (Nat × V))
  | [] => some []
  | (i, x) :: r => match evV env x with
    | some v => match evP env r with
      | some l => some ((i, v) :: l)
      | none => none
    | none => none

section
variable {P : Program} {B : Tb} {wr : Nat → Bool} {T : Tg} {a : Act} {w : World} {env : Env} {m : Mem} {nt : Nat}

theorem evP_ok (hf : FrV T B.n a env) : ∀ {l : List (Nat × Operand)} {ps : List (Nat × V)}, evP env l = some ps → PsR T ps (l.map fun p => (p.1, a.eval p.2))
  | [], ps, h => by
    simp only [evP, Option.some.injEq] at h
    subst h
    exact .nil
  | (i, x) :: r, ps, h => by
    simp only [evP] at h
    split at h
    · rename_i v hv
      split at h
      · rename_i l hl
        simp only [Option.some.injEq] at h
        subst h
        exact .cons (evV_ok hf hv) (evP_ok hf hl)
      · cases h
    · cases h

def dqBuild (B : Tb) (env : Env) (t : TypeId) (parts : List (Nat × Operand)) : DR :=
  match lkp B.zv t with
  | some z => match evP env parts with
    | some ps => match lkp B.fld t with
      | some fl => match fillP (fun i => fl[i]?) z ps with
        | some l => some (.agg l, [])
        | none => none
      | none => match lkp B.arr t with
        | some (_, s) => match fillP (fun i => some (i * s, s)) z ps with
          | some l => some (.agg l, [])
          | none => none
        | none => none
    | none => none
  | none => none

theorem pr_ones {T : Tg} {z : List Sc} {xs : List Value} (h : CR T z xs) : PR T (ones z) xs := ⟨by rw [flat_ones]; exact h, goods_ones _⟩

theorem dqBuild_ok (hB : TbOk P B) (hf : FrV T B.n a env) (hm : MOk wr T w m) {t : TypeId} {parts : List (Nat × Operand)} {v : V} {fr : List (List Pc)} (h : dqBuild B env t parts = some (v, fr)) : Does P (.build t parts.toArray) a w (Grew wr T w m nt v fr) := by
  unfold dqBuild at h
  split at h
  · rename_i z hz
    obtain ⟨zv, hz1, hz2⟩ := hB.zv t z hz
    split at h
    · rename_i ps hps
      have hps := evP_ok hf hps
      split at h
      · rename_i fl hfl
        obtain ⟨fs, hu, _, hmap⟩ := hB.fld t fl hfl
        split at h
        · rename_i l hl
          simp only [Option.some.injEq, Prod.mk.injEq] at h
          obtain ⟨rfl, rfl⟩ := h
          obtain ⟨c, hc, hpr⟩ := fillP_ok (T := T) (cells := zv.cells) hps (hz2 T) hl
          refine does_value (v := .agg c) (w' := w) (fun d ty pos after g => ?_) (grew_same hm (by rw [V.R]; exact ⟨c.toList, by simp, hpr⟩))
          have hfun : (fun i : Nat => fl.toArray[i]?) = (fun i : Nat => fl[i]?) := by funext i; simp
          simp only [execOp, Instr.build, Sem.run_bind, hz1, Result.andThen_ok, run_underlying hu, hmap, List.map_toArray, hfun]
          rw [hc]
          rfl
        · cases h
      · split at h
        · rename_i len s harr
          obtain ⟨e, hu, hsz⟩ := hB.arr t len s harr
          split at h
          · rename_i l hl
            simp only [Option.some.injEq, Prod.mk.injEq] at h
            obtain ⟨rfl, rfl⟩ := h
            obtain ⟨c, hc, hpr⟩ := fillP_ok (T := T) (cells := zv.cells) hps (hz2 T) hl
            refine does_value (v := .agg c) (w' := w) (fun d ty pos after g => ?_) (grew_same hm (by rw [V.R]; exact ⟨c.toList, by simp, hpr⟩))
            simp only [execOp, Instr.build, Sem.run_bind, hz1, Result.andThen_ok, run_underlying hu, hsz, List.map_toArray]
            rw [hc]
            rfl
          · cases h
        · cases h
    · cases h
  · cases h

def dqBuildSlice (B : Tb) (env : Env) (t : TypeId) (n : Nat) (parts : List (Nat × Operand)) (nt : Nat) (s : Nat) : DR :=
  match lkp B.bsl t with
  | some tb => match lkp tb n with
    | some z => match evP env parts with
      | some ps => match fillP (fun i => some (i * s, s)) (ones z) ps with
        | some l => some (.s (.sl nt 0 n n), [l])
        | none => none
      | none => none
    | none => none
  | none => none

theorem dqBuildSlice_ok (hB : TbOk P B) (hf : FrV T B.n a env) (hm : MOk wr T w m) {t : TypeId} {n : Nat} {parts : List (Nat × Operand)} {v : V} {fr : List (List Pc)} {s : Nat} (hs : lkp B.slc t = some s) (h : dqBuildSlice B env t n parts nt s = some (v, fr)) (hfr : Free T nt fr.length) :
    Does P (.buildSlice t n parts.toArray) a w (Grew wr T w m nt v fr) := by
  unfold dqBuildSlice at h
  split at h
  · rename_i tb htb
    split at h
    · rename_i z hz
      obtain ⟨xs, e, s', hxs, hrun⟩ := hB.bsl t tb n z s htb hs hz
      obtain rfl : s' = s := hrun.1
      split at h
      · rename_i ps hps
        have hps := evP_ok hf hps
        split at h
        · rename_i l hl
          simp only [Option.some.injEq, Prod.mk.injEq] at h
          obtain ⟨rfl, rfl⟩ := h
          obtain ⟨c, hc, hpr⟩ := fillP_ok (T := T) (cells := xs.toArray) hps (pr_ones (by simpa using hxs T)) hl
          refine does_value (fun d ty pos after g => ?_) (grew_slice (e := e) n hm hfr hpr)
          simp only [execOp, Sem.run_bind, List.map_toArray]
          rw [hrun.2]
          simp only [hc]
          rfl
        · cases h
      · cases h
    · cases h
  · cases h

/-! ### New blocks -/
def dqAlloc (B : Tb) (t : TypeId) (nt : Nat) : DR := match lkp B.zv t with
  | some z => some (.s (.p nt 0), [z])
  | none => none

theorem dqAlloc_ok (hB : TbOk P B) (hm : MOk wr T w m) {t : TypeId} {v : V} {fr : List (List Pc)} (h : dqAlloc B t nt = some (v, fr)) (hfr : Free T nt fr.length) : Does P (.alloc t) a w (Grew wr T w m nt v fr) := by
  unfold dqAlloc at h
  split at h
  · rename_i z hz
    obtain ⟨zv, hz1, hz2⟩ := hB.zv t z hz
    simp only [Option.some.injEq, Prod.mk.injEq] at h
    obtain ⟨rfl, rfl⟩ := h
    refine does_value (fun d ty pos after g => ?_) (grew_ptr (e := t) (c := zv.cells) hm hfr (hz2 T))
    simp only [execOp, Instr.alloc, newVar, newRow, Sem.run_bind, hz1, Result.andThen_ok, run_newObj_alloc, Sem.run_pure]
  · cases h

def dqBox (env : Env) (x : Operand) (nt : Nat) : DR := match evV env x with
  | some v => match v.pcs with
    | some l => some (.s (.p nt 0), [l])
    | none => none
  | none => none

theorem dqBox_ok (hf : FrV T B.n a env) (hm : MOk wr T w m) {t : TypeId} {x : Operand} {v : V} {fr : List (List Pc)} (h : dqBox env x nt = some (v, fr)) (hfr : Free T nt fr.length) : Does P (.box t x) a w (Grew wr T w m nt v fr) := by
  unfold dqBox at h
  split at h
  · rename_i u hu
    split at h
    · rename_i l hl
      have hp := (evV_ok hf hu).pcs hl
      simp only [Option.some.injEq, Prod.mk.injEq] at h
      obtain ⟨rfl, rfl⟩ := h
      refine does_value (fun d ty pos after g => ?_) (grew_ptr (e := t) (c := (a.eval x).cells) hm hfr hp)
      simp only [execOp, Instr.box, newVar, newRow, Sem.run_bind, Result.andThen_ok, run_newObj_alloc, Sem.run_pure]
    · cases h
  · cases h

def dqMake (B : Tb) (env : Env) (t : TypeId) (x y : Operand) (nt : Nat) : DR :=
  match evS env x, evS env y with
  | some (.lit .i64 (.ofNat n)), some (.lit .i64 (.ofNat k)) => bif Nat.beq n k then match lkp B.mks t with
    | some tb => match lkp tb n with
      | some z => some (.s (.sl nt 0 n n), [ones z])
      | none => none
    | none => none else none
  | _, _ => none

theorem dqMake_ok (hB : TbOk P B) (hf : FrV T B.n a env) (hm : MOk wr T w m) {t : TypeId} {x y : Operand} {v : V} {fr : List (List Pc)} (h : dqMake B env t x y nt = some (v, fr)) (hfr : Free T nt fr.length) : Does P (.makeSlice t x y) a w (Grew wr T w m nt v fr) := by
  unfold dqMake at h
  split at h
  · rename_i n k hn hk
    have hn : a.eval x = .int .i64 (n : Int) := (evS_ok hf hn).1
    have hk : a.eval y = .int .i64 (k : Int) := (evS_ok hf hk).1
    cases hb : Nat.beq n k with
    | false => rw [hb] at h; cases h
    | true =>
      rw [hb] at h
      have e := Nat.eq_of_beq_eq_true hb
      subst e
      simp only [cond_true] at h
      split at h
      · rename_i tb htb
        split at h
        · rename_i z hz
          obtain ⟨xs, e, hxs, hrun⟩ := hB.mks t tb n z htb hz
          simp only [Option.some.injEq, Prod.mk.injEq] at h
          obtain ⟨rfl, rfl⟩ := h
          refine does_value (fun d ty pos after g => ?_) (grew_slice (e := e) (c := xs.toArray) n hm hfr (pr_ones (by simpa using hxs T)))
          simp only [execOp, Sem.run_bind, hn, hk, hrun]
          rfl
        · cases h
      · cases h
  · cases h

/-! ### The rest -/
def dqIfc (B : Tb) (env : Env) (t : TypeId) (x : Operand) : DR := match evS env x with
  | some (.p tg 0) => bif has B.mif t then some (.s (.ifc t tg), []) else none
  | _ => none

theorem dqIfc_ok (hB : TbOk P B) (hf : FrV T B.n a env) (hm : MOk wr T w m) {t : TypeId} {x : Operand} {v : V} {fr : List (List Pc)} (h : dqIfc B env t x = some (v, fr)) : Does P (.makeInterface t x) a w (Grew wr T w m nt v fr) := by
  unfold dqIfc at h
  split at h
  · rename_i tg hx
    obtain ⟨b, hb, hx⟩ := evS_ok hf hx
    cases hi : has B.mif t with
    | false => rw [hi] at h; cases h
    | true =>
      rw [hi] at h
      simp only [cond_true, Option.some.injEq, Prod.mk.injEq] at h
      obtain ⟨rfl, rfl⟩ := h
      refine does_value (v := .iface t (.pointer (some ⟨b.blk, b.off, none⟩))) (w' := w) (fun d ty pos after g => ?_) (grew_sc hm ⟨b, hb, rfl⟩)
      simp only [execOp, Sem.run_bind, hx, hB.mif t hi]
      rfl
  · cases h

theorem VsR.get {T : Tg} : ∀ {l : List V} {xs : List Value} {i : Nat} {v : V}, VsR T l xs → l[i]? = some v → ∃ x, xs[i]? = some x ∧ v.R T x
  | [], _, _, _, _, h => by cases h
  | u :: r, xs, i, v, hl, h => by
    rw [VsR] at hl
    obtain ⟨y, ys, rfl, h1, h2⟩ := hl
    cases i with
    | zero => simp only [List.getElem?_cons_zero, Option.some.injEq] at h; subst h; exact ⟨y, rfl, h1⟩
    | succ i => simpa using VsR.get h2 (by simpa using h)

def dqExtract (env : Env) (x : Operand) (i : Nat) : DR := match evV env x with
  | some (.tup l) => match l[i]? with
    | some v => some (v, [])
    | none => none
  | _ => none

theorem dqExtract_ok (hf : FrV T B.n a env) (hm : MOk wr T w m) {x : Operand} {i : Nat} {v : V} {fr : List (List Pc)} (h : dqExtract env x i = some (v, fr)) : Does P (.extract x i) a w (Grew wr T w m nt v fr) := by
  unfold dqExtract at h
  split at h
  · rename_i l hl
    have hx := evV_ok hf hl
    rw [V.R] at hx
    obtain ⟨xs, hx, hr⟩ := hx
    split at h
    · rename_i u hu
      obtain ⟨y, hy, hv⟩ := hr.get hu
      simp only [Option.some.injEq, Prod.mk.injEq] at h
      obtain ⟨rfl, rfl⟩ := h
      refine does_value (v := y) (w' := w) (fun d ty pos after g => ?_) (grew_same hm hv)
      simp only [execOp, hx, Instr.extract, List.getElem?_toArray, hy]
      rfl
    · cases h
  · cases h

def dqNil (env : Env) (x : Operand) : DR := match evS env x with
  | some (.p t o) => some (.s (.p t o), [])
  | _ => none

theorem dqNil_ok (hf : FrV T B.n a env) (hm : MOk wr T w m) {x : Operand} {v : V} {fr : List (List Pc)} (h : dqNil env x = some (v, fr)) : Does P (.nilCheck x) a w (Grew wr T w m nt v fr) := by
  unfold dqNil at h
  split at h
  · rename_i tg o hx
    obtain ⟨b, hb, hx⟩ := evS_ok hf hx
    simp only [Option.some.injEq, Prod.mk.injEq] at h
    obtain ⟨rfl, rfl⟩ := h
    refine does_value (v := .pointer (some ⟨b.blk, b.off + o, none⟩)) (w' := w) (fun d ty pos after g => ?_) (grew_sc hm ⟨b, hb, rfl⟩)
    simp only [execOp, hx]
    rfl
  · cases h

def dqMove (env : Env) (x : Operand) : DR := match evV env x with
  | some v => some (v, [])
  | none => none

theorem dqMove_ok (hf : FrV T B.n a env) (hm : MOk wr T w m) {x : Operand} {v : V} {fr : List (List Pc)} (h : dqMove env x = some (v, fr)) : Does P (.move x) a w (Grew wr T w m nt v fr) ∧ Does P (.assign x) a w (Grew wr T w m nt v fr) := by
  unfold dqMove at h
  split at h
  · rename_i u hu
    simp only [Option.some.injEq, Prod.mk.injEq] at h
    obtain ⟨rfl, rfl⟩ := h
    exact ⟨does_value (v := a.eval x) (w' := w) (fun d ty pos after g => rfl) (grew_same hm (evV_ok hf hu)), does_value (v := a.eval x) (w' := w) (fun d ty pos after g => rfl) (grew_same hm (evV_ok hf hu))⟩
  · cases h

def dqPick (env : Env) (c x y : Operand) : DR := match evS env c with
  | some (.bl true) => dqMove env x
  | some (.bl false) => dqMove env y
  | _ => none

theorem dqPick_ok (hf : FrV T B.n a env) (hm : MOk wr T w m) {c x y : Operand} {v : V} {fr : List (List Pc)} (h : dqPick env c x y = some (v, fr)) : Does P (.pick c x y) a w (Grew wr T w m nt v fr) := by
  unfold dqPick at h
  split at h
  · rename_i hc
    have hc : a.eval c = .bool true := evS_ok hf hc
    unfold dqMove at h
    split at h
    · rename_i u hu
      simp only [Option.some.injEq, Prod.mk.injEq] at h
      obtain ⟨rfl, rfl⟩ := h
      refine does_value (v := a.eval x) (w' := w) (fun d ty pos after g => ?_) (grew_same hm (evV_ok hf hu))
      simp only [execOp, hc, asBool]
      rfl
    · cases h
  · rename_i hc
    have hc : a.eval c = .bool false := evS_ok hf hc
    unfold dqMove at h
    split at h
    · rename_i u hu
      simp only [Option.some.injEq, Prod.mk.injEq] at h
      obtain ⟨rfl, rfl⟩ := h
      refine does_value (v := a.eval y) (w' := w) (fun d ty pos after g => ?_) (grew_same hm (evV_ok hf hu))
      simp only [execOp, hc, asBool]
      rfl
    · cases h
  · cases h

def dqLen (B : Tb) (env : Env) (args : List Operand) (tys : List TypeId) : DR := match args, tys with
  | [x], [t] => match lkp B.slc t with
    | some _ => match evS env x with
      | some .snil => some (.s (.lit .i64 0), [])
      | some (.slv _ n) => some (.s (.sym .i64 n), [])
      | some (.slx n) => some (.s (.sym .i64 n), [])
      | some s => match slp s with
        | some (_, _, l) => bif Nat.blt l 9223372036854775808 then some (.s (.lit .i64 l), []) else none
        | none => none
      | none => none
    | none => none
  | _, _ => none

theorem dqLen_ok (hB : TbOk P B) (hf : FrV T B.n a env) (hm : MOk wr T w m) {args : List Operand} {tys : List TypeId} {v : V} {fr : List (List Pc)} (h : dqLen B env args tys = some (v, fr)) : Does P (.call ⟨.builtin .len, args.toArray, tys.toArray⟩) a w (Grew wr T w m nt v fr) := by
  unfold dqLen at h
  split at h
  · rename_i x t
    split at h
    · rename_i n hn
      obtain ⟨e, hu, _⟩ := hB.slc t n hn
      split at h
      · rename_i hs
        have hx : a.eval x = .slice none 0 0 := evS_ok hf hs
        simp only [Option.some.injEq, Prod.mk.injEq] at h
        obtain ⟨rfl, rfl⟩ := h
        refine does_value (v := .int .i64 0) (w' := w) (fun d ty pos after g => ?_) (grew_sc hm ⟨rfl, by decide⟩)
        simp [execOp, resolve, invoke, builtin, Builtin.len_, hx, run_underlying hu, goInt]
      · rename_i t n hs
        obtain ⟨b, _, c, hx, hlt⟩ := evS_ok hf hs
        simp only [Option.some.injEq, Prod.mk.injEq] at h
        obtain ⟨rfl, rfl⟩ := h
        refine does_value (v := .int .i64 (n : Int)) (w' := w) (fun d ty pos after g => ?_) (grew_sc hm ⟨rfl, by rw [IntKind.wrap_i64]; omega⟩)
        simp [execOp, resolve, invoke, builtin, Builtin.len_, hx, run_underlying hu, goInt]
      · rename_i n hs
        obtain ⟨p, c, hx, hlt⟩ := evS_ok hf hs
        simp only [Option.some.injEq, Prod.mk.injEq] at h
        obtain ⟨rfl, rfl⟩ := h
        refine does_value (v := .int .i64 (n : Int)) (w' := w) (fun d ty pos after g => ?_) (grew_sc hm ⟨rfl, by rw [IntKind.wrap_i64]; omega⟩)
        simp [execOp, resolve, invoke, builtin, Builtin.len_, hx, run_underlying hu, goInt]
      · rename_i s hs0 hs1 hs2 hs
        split at h
        · rename_i tg o l hsl
          obtain ⟨b, c, hb, hx⟩ := slp_ok hsl (evS_ok hf hs)
          cases hlt : Nat.blt l 9223372036854775808 with
          | false => rw [hlt] at h; cases h
          | true =>
            rw [hlt] at h
            have hlt : l < 9223372036854775808 := by simpa [Nat.blt_eq] using hlt
            simp only [cond_true, Option.some.injEq, Prod.mk.injEq] at h
            obtain ⟨rfl, rfl⟩ := h
            refine does_value (v := .int .i64 (l : Int)) (w' := w) (fun d ty pos after g => ?_) (grew_sc hm ⟨rfl, ?_⟩)
            · simp [execOp, resolve, invoke, builtin, Builtin.len_, hx, run_underlying hu, goInt]
            · rw [IntKind.wrap_i64]; omega
        · cases h
      · cases h
    · cases h
  · cases h

/-! ### Strings -/
def dqLenS (B : Tb) (env : Env) (args : List Operand) (tys : List TypeId) : DR := match args, tys with
  | [x], [t] => match evS env x with
    | some (.val (.string s)) => bif has B.str t && Nat.blt s.size 9223372036854775808 then some (.s (.lit .i64 s.size), []) else none
    | _ => none
  | _, _ => none

theorem dqLenS_does (hB : TbOk P B) (hf : FrV T B.n a env) {args : List Operand} {tys : List TypeId} {v : V} {fr : List (List Pc)} (h : dqLenS B env args tys = some (v, fr)) :
    fr = [] ∧ ∃ z, (∀ d ty' pos after g w, (execOp a.eval ⟨d, .call ⟨.builtin .len, args.toArray, tys.toArray⟩, ty', pos, after, g⟩).run P w = .ok (.value z) w) ∧ v.R T z := by
  unfold dqLenS at h
  split at h
  · rename_i x t
    split at h
    · rename_i s hs
      obtain ⟨hx, _⟩ := evS_ok hf hs
      cases hc : has B.str t && Nat.blt s.size 9223372036854775808 with
      | false => rw [hc] at h; cases h
      | true =>
        rw [hc] at h
        simp only [cond_true, Option.some.injEq, Prod.mk.injEq] at h
        obtain ⟨rfl, rfl⟩ := h
        simp only [Bool.and_eq_true, Nat.blt_eq] at hc
        have hu := hB.str t hc.1
        refine ⟨rfl, .int .i64 (s.size : Int), fun d ty pos after g w => ?_, ?_⟩
        · simp [execOp, resolve, invoke, builtin, Builtin.len_, hx, run_underlying hu, goInt]
        · rw [V.R]; exact ⟨rfl, by rw [IntKind.wrap_i64]; omega⟩
    · cases h
  · cases h

def dqLen2 (B : Tb) (env : Env) (args : List Operand) (tys : List TypeId) : DR := match dqLenS B env args tys with
  | some r => some r
  | none => dqLen B env args tys

theorem dqLen2_ok (hB : TbOk P B) (hf : FrV T B.n a env) (hm : MOk wr T w m) {args : List Operand} {tys : List TypeId} {v : V} {fr : List (List Pc)} (h : dqLen2 B env args tys = some (v, fr)) : Does P (.call ⟨.builtin .len, args.toArray, tys.toArray⟩) a w (Grew wr T w m nt v fr) := by
  unfold dqLen2 at h
  split at h
  · rename_i r hr
    cases h
    obtain ⟨rfl, z, h1, h2⟩ := dqLenS_does (P := P) hB hf hr
    exact does_value (v := z) (w' := w) (fun d ty pos after g => h1 d ty pos after g w) (grew_same hm h2)
  · exact dqLen_ok hB hf hm h

def dqStr (B : Tb) (env : Env) (t : TypeId) (x i : Operand) : DR := match evS env x, evS env i with
  | some (.val (.string s)), some j => match litN j with
    | some n => match s[n]? with
      | some b => bif has B.str t then some (.s (.lit .u8 (b.toNat : Int)), []) else none
      | none => none
    | none => none
  | _, _ => none

theorem dqStr_ok (hB : TbOk P B) (hf : FrV T B.n a env) (hm : MOk wr T w m) {t : TypeId} {x i : Operand} {v : V} {fr : List (List Pc)} (h : dqStr B env t x i = some (v, fr)) : Does P (.index t x i) a w (Grew wr T w m nt v fr) := by
  unfold dqStr at h
  split at h
  · rename_i s j hs hj
    obtain ⟨hx, _⟩ := evS_ok hf hs
    have hj1 := evS_ok hf hj
    split at h
    · rename_i n hn
      obtain ⟨k, hk⟩ := litN_ok hn hj1
      split at h
      · rename_i b hb
        cases hc : has B.str t with
        | false => rw [hc] at h; cases h
        | true =>
          rw [hc] at h
          simp only [cond_true, Option.some.injEq, Prod.mk.injEq] at h
          obtain ⟨rfl, rfl⟩ := h
          have hu := hB.str t hc
          have hbl : b.toNat < 256 := b.toNat_lt
          refine does_value (v := .int .u8 (b.toNat : Int)) (w' := w) (fun d ty pos after g => ?_) (grew_sc hm ⟨rfl, by rw [IntKind.wrap_u8']; omega⟩)
          have h0 : (0 : Int) ≤ (n : Int) := by omega
          simp [execOp, hx, hk, Instr.index, asIntOf, run_underlying hu, hb]
      · cases h
    · cases h
  · cases h

def dqCall (B : Tb) (env : Env) (m : Mem) (nt : Nat) (f : Nat) (args : List Operand) : DR := match lkp B.ds f with
  | some sp => match evL env args with
    | some vs => sp vs m nt
    | none => none
  | none => none

theorem exec_call {f : FuncId} (h : ∀ args w, (callFunc f args).run P w = .ok (.enter f args) w) (args : List Operand) (tys : Array TypeId) (d : Option Tmp) (ty : TypeId) (pos : String) (after : Array Edge) (g : Option (Nat × Bool)) :
    (execOp a.eval ⟨d, .call ⟨.value (.func f), args.toArray, tys⟩, ty, pos, after, g⟩).run P w = .ok (.enter f (args.map a.eval).toArray) w := by
  simp only [execOp, resolve, Deferred.ofValue, invoke, eval_func, Sem.run_bind, Sem.run_pure, Result.andThen_ok, List.map_toArray, Array.append_empty, Array.empty_append, h]

theorem dqCall_ok (hB : TbOk P B) (hf : FrV T B.n a env) (hm : MOk wr T w m) {f : Nat} {args : List Operand} {tys : Array TypeId} {v : V} {fr : List (List Pc)} (h : dqCall B env m nt f args = some (v, fr)) (hfr : Free T nt fr.length) :
    Does P (.call ⟨.value (.func f), args.toArray, tys⟩) a w (Grew wr T w m nt v fr) := by
  unfold dqCall at h
  split at h
  · rename_i sp hsp
    have hok := hB.ds f sp hsp
    split at h
    · rename_i vs hvs
      refine does_call (fun d ty pos after g => exec_call hok.enter args tys d ty pos after g) ?_
      refine (hok.run wr T w m nt vs _ v fr h hm (evL_ok hf hvs) hfr).mono fun e w' hh => ?_
      obtain ⟨T', y, h1, h2, h3, h4, h5, h6⟩ := hh
      exact ⟨y, h2, T', h1, h3, h4, h5, h6⟩
    · cases h
  · cases h

/-- A slice appended to an empty one without room. -/
def dqAppend (B : Tb) (env : Env) (m : Mem) (nt : Nat) (args : List Operand) (tys : List TypeId) : DR := match args, tys with
  | [s, x], [t, t'] => match evS env s, evS env x with
    | some (.sl _ _ 0 0), some z => match slp z with
      | some (tg, o, n) => match lkp m tg with
        | some l => match rdN l o n with
          | some q => bif Nat.beq t t' && (has B.apd t && (Nat.blt 0 n && Nat.ble n 1000)) then some (.s (.slu nt 0 n), [q]) else none
          | none => none
        | none => none
      | none => none
    | _, _ => none
  | _, _ => none

theorem dqAppend_ok (hB : TbOk P B) (hf : FrV T B.n a env) (hm : MOk wr T w m) {args : List Operand} {tys : List TypeId} {v : V} {fr : List (List Pc)} (h : dqAppend B env m nt args tys = some (v, fr)) (hfr : Free T nt fr.length) :
    Does P (.call ⟨.builtin .append, args.toArray, tys.toArray⟩) a w (Grew wr T w m nt v fr) := by
  unfold dqAppend at h
  split at h
  · rename_i s x t t'
    split at h
    · rename_i tg0 o0 z hs hx
      obtain ⟨b0, hb0, hs⟩ := evS_ok hf hs
      have hx := evS_ok hf hx
      split at h
      · rename_i tg o n hsl
        obtain ⟨b, c, hb, hx⟩ := slp_ok hsl hx
        split at h
        · rename_i l hl
          split at h
          · rename_i q hq
            cases hc : Nat.beq t t' && (has B.apd t && (Nat.blt 0 n && Nat.ble n 1000)) with
            | false => rw [hc] at h; cases h
            | true =>
              rw [hc] at h
              simp only [cond_true, Option.some.injEq, Prod.mk.injEq] at h
              obtain ⟨rfl, rfl⟩ := h
              simp only [Bool.and_eq_true, Nat.blt_eq, Nat.ble_eq, Nat.beq_eq] at hc
              obtain ⟨rfl, hap, hn0, hn⟩ := hc
              obtain ⟨e, i, zv, hu, hi, hz, hsz, hby, hzs, _⟩ := hB.apd t hap
              obtain ⟨xs, hp, hlen, hcell⟩ := (hm.at_ tg l hl).range hb hq
              have hcells : ∀ ty, ∃ v' w', (Builtin.append_ #[t, t] ty #[.slice (some ⟨b0.blk, b0.off + o0, none⟩) 0 0, .slice (some ⟨b.blk, b.off + o, none⟩) n c]).run P w = .ok v' w' ∧ w'.ownsRow w.heap.size e 1 v' (0 + n) ([] ++ xs) ∧ w.grownBy w' none := fun ty =>
                run_append_arg_grows (P := P) (w := w) t ty e i zv 1 1 hu hi hz hsz hby hzs (by omega) ⟨b0.blk, b0.off + o0, none⟩ 0 0 [] (by simp) (fun j u hj => by simp at hj) ⟨b.blk, b.off + o, none⟩ n c xs (by rw [hlen]; omega) (fun j u hj => by rw [addr_add]; exact hcell j u hj) (by omega) (by simp only [maxLen]; omega) (by omega)
              intro d ty pos after g K Q hK
              obtain ⟨v', w', hrun, hown, hgrow⟩ := hcells ty
              have hex : (execOp a.eval ⟨d, .call ⟨.builtin .append, [s, x].toArray, [t, t].toArray⟩, ty, pos, after, g⟩).run P w = .ok (.value v') w' := by
                simp [execOp, resolve, invoke, builtin, hs, hx, hrun]
              unfold Oper.wp
              rw [hex]
              refine hK _ _ ?_
              obtain ⟨_, hown⟩ := hown
              rcases hown with ⟨_, h0⟩ | ⟨g', cap, cur, rfl, hge, hg', hcap, _, hcs, htake⟩
              · omega
              · have h0 : T nt = none := by have := hfr 0 (by simp); rwa [Nat.add_zero] at this
                have hbel : Below w.heap.size w w' := ⟨hgrow.os, hgrow.tape, hgrow.output, hgrow.size, fun k hk => hgrow.block k hk (by simp)⟩
                have hcur : cur.toList = [] ++ (xs ++ cur.toList.drop n) := by
                  have : cur.toList.take n = xs := by simpa using htake
                  rw [List.nil_append, ← this, List.take_append_drop]
                refine ⟨T.add nt ⟨g', 0, cap⟩, ⟨Tg.le_add h0 _, fun t ht hr => ?_⟩, ?_, hm.alloc h0 hbel hge hg' hcur rfl hp, hbel, fun t b1 h h' => ?_⟩
                · unfold Tg.add
                  cases he : Nat.beq nt t with
                  | true => have := Nat.eq_of_beq_eq_true he; simp only [List.length_cons, List.length_nil] at hr; omega
                  | false => exact ht
                · rw [V.R]
                  refine ⟨_, Tg.add_same _ _ _, by simp, by simp; omega⟩
                · rcases Tg.add_cases h' with ⟨_, rfl⟩ | ⟨_, h'⟩
                  · exact hge
                  · rw [h] at h'; cases h'
          · cases h
        · cases h
      · cases h
    · cases h
  · cases h

/-- What an operation yields whose outcome hangs on what it reads alone. -/

def numsOf : List Sc → Option (List Int)
  | [] => some []
  | .sym .u8 n :: r => (numsOf r).map (n :: ·)
  | .lit .u8 n :: r => (numsOf r).map (n :: ·)
  | _ => none

theorem numsOf_ok {T : Tg} : ∀ {l : List Sc} {xs : List Value} {ns : List Int}, CR T l xs → numsOf l = some ns → xs = ns.map (Value.int .u8)
  | [], xs, ns, h, e => by cases h; cases e; rfl
  | s :: r, xs, ns, h, e => by
    cases h with
    | cons h1 h2 =>
    unfold numsOf at e
    split at e
    · rename_i heq; cases heq
    · rename_i heq
      cases heq
      obtain ⟨ms, hm, rfl⟩ := Option.map_eq_some_iff.1 e
      rw [numsOf_ok h2 hm, h1.1]; rfl
    · rename_i heq
      cases heq
      obtain ⟨ms, hm, rfl⟩ := Option.map_eq_some_iff.1 e
      rw [numsOf_ok h2 hm, h1.1]; rfl
    · cases e

def dqConvS (B : Tb) (env : Env) (m : Mem) (src dst : TypeId) (x : Operand) : DR := match evS env x with
  | some z => match slp z with
    | some (tg, o, n) => match lkp m tg with
      | some l => match rdN l o n with
        | some q => match numsOf (flat q) with
          | some ns => bif has B.apd src && has B.str dst then some (.s (.val (.string (strOfNums ns))), []) else none
          | none => none
        | none => none
      | none => none
    | none => none
  | none => none

theorem dqConvS_ok (hB : TbOk P B) (hf : FrV T B.n a env) (hm : MOk wr T w m) {src dst : TypeId} {x : Operand} {v : V} {fr : List (List Pc)} (h : dqConvS B env m src dst x = some (v, fr)) : Does P (.convert src dst x) a w (Grew wr T w m nt v fr) := by
  unfold dqConvS at h
  split at h
  · rename_i z hz
    have hx := evS_ok hf hz
    split at h
    · rename_i tg o n hsl
      obtain ⟨b, c, hb, hx⟩ := slp_ok hsl hx
      split at h
      · rename_i l hl
        split at h
        · rename_i q hq
          split at h
          · rename_i ns hns
            cases hc : has B.apd src && has B.str dst with
            | false => rw [hc] at h; cases h
            | true =>
              rw [hc] at h
              simp only [cond_true, Option.some.injEq, Prod.mk.injEq] at h
              obtain ⟨rfl, rfl⟩ := h
              simp only [Bool.and_eq_true] at hc
              obtain ⟨e, i, zv, hu, _, _, _, _, _, he⟩ := hB.apd src hc.1
              obtain ⟨xs, hp, hlen, hcell⟩ := (hm.at_ tg l hl).range hb hq
              have hxs := numsOf_ok hp.1 hns
              subst hxs
              have hl' : ns.length = n := by simpa using hlen
              refine does_value (v := .string (strOfNums ns)) (w' := w) (fun d ty pos after g => ?_) (grew_sc hm ⟨rfl, rfl⟩)
              have := run_convert_bytes_arg (P := P) w src e hu he b.blk (b.off + o) n c ns hl' (fun i hi => by
                have hi' : i < ns.length := by omega
                refine hcell i _ ?_
                simp [hi', List.getD]) dst (hB.str dst hc.2)
              simp only [execOp, hx, Sem.run_bind, this, Result.andThen_ok, Sem.run_pure]
          · cases h
        · cases h
      · cases h
    · cases h
  · cases h

def dqConv2 (B : Tb) (env : Env) (m : Mem) (src dst : TypeId) (x : Operand) : DR := match dqConv B env src dst x with
  | some r => some r
  | none => dqConvS B env m src dst x

theorem dqConv2_ok (hB : TbOk P B) (hf : FrV T B.n a env) (hm : MOk wr T w m) {src dst : TypeId} {x : Operand} {v : V} {fr : List (List Pc)} (h : dqConv2 B env m src dst x = some (v, fr)) : Does P (.convert src dst x) a w (Grew wr T w m nt v fr) := by
  unfold dqConv2 at h
  split at h
  · rename_i r hr
    cases h
    exact dqConv_ok hB hf hm hr
  · exact dqConvS_ok hB hf hm h

def dq (B : Tb) (env : Env) (m : Mem) (nt : Nat) : Op → DR
  | .move x => dqMove env x
  | .assign x => dqMove env x
  | .pick c x y => dqPick env c x y
  | .alloc t => dqAlloc B t nt
  | .box _ x => dqBox env x nt
  | .build t parts => dqBuild B env t parts.toList
  | .buildSlice t n parts => match lkp B.slc t with
    | some s => dqBuildSlice B env t n parts.toList nt s
    | none => none
  | .load t x => dqLoad B env m t x
  | .nilCheck x => dqNil env x
  | .unOp .not _ x => dqNot env x
  | .binOp op t x y _ => dqBin2 B env op t x y
  | .convert src dst x => dqConv2 B env m src dst x
  | .sliceToArrayPointer t x => dqArr B env t x
  | .makeInterface t x => dqIfc B env t x
  | .makeSlice t x y => dqMake B env t x y nt
  | .slice t x lo hi none => dqSlice B env t x lo hi
  | .fieldAddr t x i => dqField B env t x i
  | .indexAddr t x i => dqIndex B env t x i
  | .extract x i => dqExtract env x i
  | .index t x i => dqStr B env t x i
  | .call ⟨.builtin .len, args, tys⟩ => dqLen2 B env args.toList tys.toList
  | .call ⟨.builtin .append, args, tys⟩ => dqAppend B env m nt args.toList tys.toList
  | .call ⟨.value (.func f), args, _⟩ => dqCall B env m nt f args.toList
  | _ => none

theorem dq_ok (hB : TbOk P B) (hf : FrV T B.n a env) (hm : MOk wr T w m) {o : Op} {v : V} {fr : List (List Pc)} (h : dq B env m nt o = some (v, fr)) (hfr : Free T nt fr.length) : Does P o a w (Grew wr T w m nt v fr) := by
  unfold dq at h
  split at h
  · exact (dqMove_ok hf hm h).1
  · exact (dqMove_ok hf hm h).2
  · exact dqPick_ok hf hm h
  · exact dqAlloc_ok hB hm h hfr
  · exact dqBox_ok hf hm h hfr
  · simpa using dqBuild_ok (nt := nt) hB hf hm h
  · split at h
    · rename_i s hs
      simpa using dqBuildSlice_ok hB hf hm hs h hfr
    · cases h
  · exact dqLoad_ok hB hf hm h
  · exact dqNil_ok hf hm h
  · exact dqNot_ok hf hm h
  · exact dqBin2_ok hB hf hm h
  · exact dqConv2_ok hB hf hm h
  · exact dqArr_ok hB hf hm h
  · exact dqIfc_ok hB hf hm h
  · exact dqMake_ok hB hf hm h hfr
  · exact dqSlice_ok hB hf hm h
  · exact dqField_ok hB hf hm h
  · exact dqIndex_ok hB hf hm h
  · exact dqExtract_ok hf hm h
  · exact dqStr_ok hB hf hm h
  · simpa using dqLen2_ok (nt := nt) hB hf hm h
  · simpa using dqAppend_ok hB hf hm h hfr
  · rename_i f args tys
    simpa using dqCall_ok (tys := tys) hB hf hm h hfr
  · cases h

end
end Go.Proofs.Ytdaheccfeihpgaa.Nm

