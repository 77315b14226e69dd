import Derived.Laws.MathBits
import Derived.Test.YtdaheccfeihpgaaG
/-
  The rest modulo the prime, the product, loops: the laws.
-/
/-
  Loops by rounds: the state between two rounds under names of one's own.
-/
namespace Go.Proofs.Ytdaheccfeihpgaa.Nm
open Go Go.RowKit

def Sc.ren (f : Nat → Nat) : Sc → Sc
  | .p t o => .p (f t) o
  | .sl t o l c => .sl (f t) o l c
  | .slu t o l => .slu (f t) o l
  | .slv t n => .slv (f t) n
  | .ifc ty t => .ifc ty (f t)
  | s => s
def Pc.ren (f : Nat → Nat) : Pc → Pc
  | .c s => .c (s.ren f)
  | p => p

theorem Sc.ren_R {T : Tg} {f : Nat → Nat} {s : Sc} {x : Value} : (s.ren f).R T x ↔ s.R (fun t => T (f t)) x := by cases s <;> exact Iff.rfl

theorem CR.ren {T : Tg} {f : Nat → Nat} : ∀ {l : List Sc} {xs : List Value}, CR T (l.map (Sc.ren f)) xs → CR (fun t => T (f t)) l xs
  | [], xs, h => by cases h; exact .nil
  | s :: r, xs, h => by
    cases h with
    | cons a b => exact .cons (Sc.ren_R.1 a) b.ren

theorem Pc.ren_cells (f : Nat → Nat) (p : Pc) : (p.ren f).cells = p.cells.map (Sc.ren f) := by cases p <;> rfl
theorem flat_ren (f : Nat → Nat) : ∀ l : List Pc, flat (l.map (Pc.ren f)) = (flat l).map (Sc.ren f)
  | [] => rfl
  | p :: r => by simp [flat, Pc.ren_cells, flat_ren f r]
theorem good_ren {f : Nat → Nat} {p : Pc} : (p.ren f).good ↔ p.good := by cases p <;> exact Iff.rfl
theorem goods_ren {f : Nat → Nat} {l : List Pc} (h : goods (l.map (Pc.ren f))) : goods l := fun _ hp => good_ren.1 (h _ (List.mem_map_of_mem hp))

/-- The names of before. -/
def renF (base nt : Nat) (ρ : List Nat) (t : Nat) : Nat := bif Nat.blt t base then t else ρ.getD (t - base) nt

section
variable {P : Program} {B : Tb} {T0 : Tg} {w0 : World}

theorem renF_lt {base nt : Nat} {ρ : List Nat} {t : Nat} (h : t < base) : renF base nt ρ t = t := by
  have : Nat.blt t base = true := by rw [Nat.blt_eq]; exact h
  unfold renF
  rw [this]; rfl
theorem renF_ge {base nt : Nat} {ρ : List Nat} {t : Nat} (h : base ≤ t) : renF base nt ρ t = ρ.getD (t - base) nt := by
  have : Nat.blt t base = false := by
    cases hb : Nat.blt t base with
    | false => rfl
    | true => rw [Nat.blt_eq] at hb; omega
  unfold renF
  rw [this]; rfl

theorem WV.canon {T : Tg} {a : Act} {w : World} {s s2 : SS} (hf : FrV T B.n a s.env) (h : WV B T0 w0 T w s) (hT0 : ∀ t, B.base ≤ t → T0 t = none) (ρ : List Nat) (hnt : s2.nt = B.base + ρ.length) (hge : ∀ t ∈ ρ, B.base ≤ t) (hnd : ρ.Nodup)
    (henv : ∀ i v, lkp s2.env i = some v → ∃ y, v = .s y ∧ lkp s.env i = some (.s (y.ren (renF B.base s.nt ρ))))
    (hmem : ∀ t l, lkp s2.m t = some l → ∃ r, lkp s.m (renF B.base s.nt ρ t) = some (l.map (Pc.ren (renF B.base s.nt ρ)) ++ r)) :
    ∃ T2, FrV T2 B.n a s2.env ∧ WV B T0 w0 T2 w s2 ∧ ∀ t, ∃ t', T2 t = T t' := by
  refine ⟨fun t => T (renF B.base s.nt ρ t), ⟨hf.size, hf.defers, fun i v hi => ?_⟩, ⟨?_, ⟨?_, fun t b hb => h.mok.lt _ b hb, fun t l hl => ?_⟩, ?_, by omega, ?_, ?_, h.kp⟩, fun t => ⟨_, rfl⟩⟩
  · obtain ⟨y, rfl, hy⟩ := henv i v hi
    have := hf.get i _ hy
    rw [V.R] at this ⊢
    exact Sc.ren_R.1 this
  · intro t b hb
    show T (renF B.base s.nt ρ t) = some b
    have hlt : t < B.base := by
      apply Classical.byContradiction
      intro hge'
      rw [hT0 t (by omega)] at hb; cases hb
    rw [renF_lt hlt]
    exact h.le t b hb
  · intro t t' b b' hw hb hb' he
    have key : ∀ t b, T (renF B.base s.nt ρ t) = some b → t < B.base ∨ (B.base ≤ t ∧ t - B.base < ρ.length ∧ renF B.base s.nt ρ t ∈ ρ ∧ ρ[t - B.base]? = some (renF B.base s.nt ρ t)) := by
      intro t b hb
      by_cases hlt : t < B.base
      · exact .inl hlt
      · right
        rw [renF_ge (by omega)] at hb ⊢
        rw [List.getD_eq_getElem?_getD] at hb ⊢
        cases hr : ρ[t - B.base]? with
        | none => rw [hr] at hb; simp only [Option.getD_none] at hb; rw [h.free s.nt (Nat.le_refl _)] at hb; cases hb
        | some u => exact ⟨by omega, (List.getElem?_eq_some_iff.1 hr).1, List.mem_of_getElem? hr, rfl⟩
    have hwr : ∀ t, B.base ≤ t → wrB B t = true := fun t ht => by
      unfold wrB
      rw [Bool.or_eq_true]
      exact .inl (Nat.ble_eq_true_of_le ht)
    rcases key t b hb with h1 | ⟨h1, h1l, h1m, h1i⟩
    · have e := h.mok.sep (renF B.base s.nt ρ t) (renF B.base s.nt ρ t') b b' (by rw [renF_lt h1]; exact hw) hb hb' he
      rw [renF_lt h1] at e
      rcases key t' b' hb' with h2 | ⟨h2, _, h2m, _⟩
      · rw [renF_lt h2] at e; exact e
      · rw [← e] at h2m
        have := hge _ h2m
        omega
    · have e := h.mok.sep (renF B.base s.nt ρ t) (renF B.base s.nt ρ t') b b' (hwr _ (hge _ h1m)) hb hb' he
      rcases key t' b' hb' with h2 | ⟨h2, h2l, h2m, h2i⟩
      · rw [renF_lt h2] at e
        rw [e] at h1m
        have := hge _ h1m
        omega
      · rw [← e, ← h1i] at h2i
        have := (List.getElem?_inj h1l hnd).1 h2i.symm
        omega
  · obtain ⟨r, hr⟩ := hmem t l hl
    obtain ⟨b, c, ty, pre, xs, rest, g1, g2, g3, g4, g5⟩ := h.mok.at_ _ _ hr
    have hc := g5.1
    rw [flat_append, flat_ren] at hc
    obtain ⟨x1, x2, rfl, c1, _⟩ := hc.split
    exact ⟨b, c, ty, pre, x1, x2 ++ rest, g1, g2.sub (Nat.le_refl _) (by simp), by rw [g3]; simp, g4, c1.ren, goods_ren (goods_append.1 g5.2).1⟩
  · intro t ht
    show T (renF B.base s.nt ρ t) = none
    rw [renF_ge (by omega), List.getD_eq_getElem?_getD, List.getElem?_eq_none (by omega)]
    exact h.free _ (Nat.le_refl _)
  · intro t b hb ht
    have hb : T (renF B.base s.nt ρ t) = some b := hb
    rw [renF_ge ht, List.getD_eq_getElem?_getD] at hb
    cases hr : ρ[t - B.base]? with
    | none => rw [hr] at hb; simp only [Option.getD_none] at hb; rw [h.free s.nt (Nat.le_refl _)] at hb; cases hb
    | some u =>
      rw [hr] at hb
      exact h.own u b hb (hge u (List.mem_of_getElem? hr))
  · intro t b hb ht
    have hb : T (renF B.base s.nt ρ t) = some b := hb
    rw [renF_lt ht] at hb
    exact h.old t b hb ht

/-- As run_calls, for a body that is shown by hand. -/
theorem run_calls2 (hB : TbOk P B) {f : FuncId} {fn : Func} {c : Code} (hf : P.funcs[f]? = some fn) (hb : fn.body = some c) (hn : fn.ntmps = B.n) {args : List V} {xs : List Value} (ha : args.length ≤ B.n) {m : Mem} (hm : MOk (wrB B) T0 w0 m) (hx : VsR T0 args xs) (hfree : ∀ t, B.base ≤ t → T0 t = none)
    (K : V → Mem → Nat → Prop) (h : ∀ a Q, FrV T0 B.n a (entryV args 0) → WV B T0 w0 T0 w0 ⟨entryV args 0, m, B.base⟩ → PanicOk Q → (∀ x, Nx B T0 w0 (endK B fn.results.toList K x) (Q x.x)) → c.wp P Q a w0) :
    Calls P f xs.toArray w0 fun e w' => ∃ y T' v m' nt', e = .returned y ∧ Left B T0 w0 w' K y T' v m' nt' := by
  have hlen := hx.length
  refine calls_of_wp hf hb ?_
  refine h _ _ ⟨?_, rfl, ?_⟩ ⟨Tg.le_refl _, hm, hfree, Nat.le_refl _, ?_, ?_, Kp.refl _ _⟩ (fun c a d v w hq => ⟨(by cases d <;> exact hq.1), hq.2⟩) ?_
  · simp only [List.size_toArray, Array.size_append, Array.size_replicate, hn]; omega
  · intro i v hi
    obtain ⟨_, y, h1, h2⟩ := lkp_entryV hx hi
    rw [Nat.sub_zero] at h1
    have hlt : i < xs.length := (List.getElem?_eq_some_iff.1 h1).1
    rw [Array.getD_eq_getD_getElem?, Array.getElem?_append_left (by simpa using hlt)]
    simpa [h1] using h2
  · intro t b h1 h2
    rw [hfree t h2] at h1; cases h1
  · intro t b h1 _; exact h1
  · intro x s a w T hf' hw' hk
    have aux : ∀ x', (x' = Exit.normal ∨ x' = Exit.ret) → obind (resL B s fn.results.toList) (fun vs => K (resV vs) s.m s.nt) → bodyPost P fn (fun e w' => ∃ y T' v m' nt', e = .returned y ∧ Left B T0 w0 w' K y T' v m' nt') x' a w := by
      intro x' hx' hk
      obtain ⟨vs, hvs, hk⟩ := obind_some hk
      obtain ⟨y, hr, hv⟩ := results_ok hB hf' hw' hvs
      have hpost : ∃ y' T' v m' nt', Ending.returned y = .returned y' ∧ Left B T0 w0 w K y' T' v m' nt' := by
        refine ⟨y, T, resV vs, s.m, s.nt, rfl, hw'.le, hw'.base, fun t h1 h2 => ?_, hw'.free, hv, hw'.mok, hw'.kp, fun t b h1 h2 => ?_, hk⟩
        · cases hT : T t with
          | none => rfl
          | some b => rw [hw'.old t b hT h2] at h1; cases h1
        · by_cases hlt : t < B.base
          · rw [hw'.old t b h2 hlt] at h1; cases h1
          · exact hw'.own t b h2 (by omega)
      rcases hx' with rfl | rfl
      · exact bodyPost_end hr hf'.defers hpost
      · exact bodyPost_ret hr hf'.defers hpost
    cases x with
    | normal => exact aux _ (.inl rfl) hk
    | ret => exact aux _ (.inr rfl) hk
    | exit id => exact hk.elim

/-- A piece of code, run; then the rest. -/
theorem run_seq (hB : TbOk P B) {x y : Code} {s : SS} {K : SS → Prop} {Q : Exit → Act → World → Prop} {a : Act} {w : World} {T : Tg} (hf : FrV T B.n a s.env) (hw : WV B T0 w0 T w s) (hP : PanicOk Q) (h : exC2 B x s fun e s' => e = .normal ∧ K s') (hy : Nx B T0 w0 K (fun a w => y.wp P Q a w)) : (Code.seq x y).wp P Q a w := by
  refine wp_seq (exC2_ok hB x s _ _ a w T hf hw h hP fun e s' a' w' T' hf' hw' h' => ?_)
  obtain ⟨rfl, h'⟩ := h'
  exact hy s' a' w' T' hf' hw' h'

/-- Three pieces ahead of a loop. -/
theorem wp_pre3 (hB : TbOk P B) {x y z u v : Code} {s : SS} {H : SS → Prop} {Q : Exit → Act → World → Prop} {a : Act} {w : World} {T : Tg} (hf : FrV T B.n a s.env) (hw : WV B T0 w0 T w s) (hP : PanicOk Q) (h : exC2 B (.seq x (.seq y z)) s fun e s' => e = .normal ∧ H s')
    (hN : Nx B T0 w0 H (fun a w => u.wp P (Exit.then (v.wp P Q) Q) a w)) : (Code.seq x (.seq y (.seq (.seq z u) v))).wp P Q a w := by
  refine wp_seq (exC2_ok hB x s _ _ a w T hf hw h (fun ch a d v w h => hP ch a d v w h) fun e s1 a1 w1 T1 hf1 hw1 h1 => ?_)
  cases e with
  | exit i => simp only at h1; cases h1.1
  | ret => simp only at h1; cases h1.1
  | normal =>
  refine wp_seq (exC2_ok hB y s1 _ _ a1 w1 T1 hf1 hw1 h1 (fun ch a d v w h => hP ch a d v w h) fun e s2 a2 w2 T2 hf2 hw2 h2 => ?_)
  cases e with
  | exit i => simp only at h2; cases h2.1
  | ret => simp only at h2; cases h2.1
  | normal =>
  refine wp_seq (wp_seq (exC2_ok hB z s2 _ _ a2 w2 T2 hf2 hw2 h2 (fun ch a d v w h => hP ch a d v w h) fun e s3 a3 w3 T3 hf3 hw3 h3 => ?_))
  obtain ⟨rfl, h3⟩ := h3
  exact hN s3 a3 w3 T3 hf3 hw3 h3

end
end Go.Proofs.Ytdaheccfeihpgaa.Nm

/-
  The first pieces of code, run; then the rest.
-/
namespace Go.Proofs.Ytdaheccfeihpgaa.Nm
open Go Go.RowKit

section
variable {P : Program} {B : Tb} {T0 : Tg} {w0 : World}

def takeC : Nat → Code → Code
  | 0, _ => .skip
  | n + 1, .seq x y => .seq x (takeC n y)
  | _ + 1, c => c
def dropC : Nat → Code → Code
  | 0, c => c
  | n + 1, .seq _ y => dropC n y
  | _ + 1, _ => .skip
/-- Are there so many pieces, and one more? -/
def hasC : Nat → Code → Bool
  | 0, _ => true
  | n + 1, .seq _ y => hasC n y
  | _ + 1, _ => false

theorem take_wp (hB : TbOk P B) : ∀ (n : Nat) (c : Code) (s : SS) (K : SS → Prop) (Q : Exit → Act → World → Prop) (a : Act) (w : World) (T : Tg), hasC n c = true → FrV T B.n a s.env → WV B T0 w0 T w s → PanicOk Q → exC2 B (takeC n c) s (fun e s' => e = .normal ∧ K s') → Nx B T0 w0 K (fun a w => (dropC n c).wp P Q a w) → c.wp P Q a w
  | 0, c, s, K, Q, a, w, T, _, hf, hw, _, h, hN => hN s a w T hf hw h.2
  | n + 1, .seq x y, s, K, Q, a, w, T, hc, hf, hw, hP, h, hN => by
    have h : exC2 B x s (fun e s' => match e with
      | .normal => exC2 B (takeC n y) s' (fun e s' => e = .normal ∧ K s')
      | e => e = .normal ∧ K s') := h
    refine wp_seq (exC2_ok hB x s _ _ a w T hf hw h (fun ch a d v w h => hP ch a d v w h) fun e s1 a1 w1 T1 hf1 hw1 h1 => ?_)
    cases e with
    | exit i => simp only at h1; cases h1.1
    | ret => simp only at h1; cases h1.1
    | normal =>
      simp only at h1
      exact take_wp hB n y s1 K Q a1 w1 T1 hc hf1 hw1 hP h1 hN

end
end Go.Proofs.Ytdaheccfeihpgaa.Nm

/-
  A copy of a slice of some length: its length is told.
-/
namespace Go.Proofs.Ytdaheccfeihpgaa.Nm
open Go Go.RowKit

theorem takeN_self : ∀ {l : List Pc}, takeN l (flat l).length = some l
  | [] => rfl
  | p :: r => by
    have hw : 0 < p.width := by cases p <;> simp [Pc.width]
    have e : (flat (p :: r)).length = p.width + (flat r).length := by simp [flat, p.cells_length]
    rw [e]
    unfold takeN
    have h1 : Nat.beq (p.width + (flat r).length) 0 = false := by
      cases h : Nat.beq (p.width + (flat r).length) 0 with
      | false => rfl
      | true => have := Nat.eq_of_beq_eq_true h; omega
    have h2 : Nat.ble p.width (p.width + (flat r).length) = true := Nat.ble_eq_true_of_le (by omega)
    rw [h1, h2, Nat.add_sub_cancel_left, takeN_self]
    rfl
theorem dropN_zero (l : List Pc) : dropN l 0 = some l := by cases l <;> rfl
theorem rdN_self {l : List Pc} {n : Nat} (h : (flat l).length = n) : rdN l 0 n = some l := by
  unfold rdN
  rw [dropN_zero, ← h]
  exact takeN_self

section
variable {P : Program} {B : Tb} {T0 : Tg} {w0 : World}

theorem app_any {w : World} {t e : TypeId} {i : TypeInfo} {zv : Value} (hu : P.underlying t = some (.slice e)) (hi : P.info? e = some i) (hz : i.zero = some zv) (hsz : i.size = 1) (hby : i.bytes = 1) (hzs : zv.cells.size = 1) (a0 a1 : Addr) (n c : Nat) (xs : List Value) (hlen : xs.length = n) (hcell : ∀ j u, xs[j]? = some u → w.cell? (a1.add j) = some u) (hn : n < 2147483648) (ty : TypeId) :
    ∃ p c' w', (Builtin.append_ #[t, t] ty #[.slice (some a0) 0 0, .slice (some a1) n c]).run P w = .ok (.slice p n c') w' ∧ Below w.heap.size w w' := by
  by_cases h0 : n = 0
  · subst h0
    obtain rfl : xs = [] := List.length_eq_zero_iff.1 hlen
    have hload : (Builtin.firstCells i.size 0 (.slice (some a1) 0 c)).run P w = .ok #[] w :=
      run_firstCells_some (P := P) w i.size 0 a1 0 c [] (by simp) (fun j v hj => by simp at hj)
    exact ⟨some a0, 0, w, by simp [Builtin.append_, run_underlying hu, sizeOf, typeInfo, hi, Builtin.lenOf, hload, storeCells], Below.refl _ w⟩
  · obtain ⟨v', w', hrun, hown, hgrow⟩ := run_append_arg_grows (P := P) (w := w) t ty e i zv 1 1 hu hi hz hsz hby hzs (by omega) a0 0 0 [] (by simp) (fun j u hj => by simp at hj) a1 n c xs (by rw [hlen]; omega) hcell (by omega) (by simp only [maxLen]; omega) (by omega)
    obtain ⟨_, hown⟩ := hown
    rcases hown with ⟨_, h0⟩ | ⟨g', cap, cur, rfl, _⟩
    · omega
    · exact ⟨_, _, w', by rw [hrun, Nat.zero_add], ⟨hgrow.os, hgrow.tape, hgrow.output, hgrow.size, fun k hk => hgrow.block k hk (by simp)⟩⟩

/-- One operation of a region, by the run. -/
theorem ops_exop (hB : TbOk P B) {ops r l0 : List Oper} {o : Oper} {s : SS} {a : Act} {w : World} {T : Tg} {Q : Exit → Act → World → Prop} {K1 : SS → Prop} (hl0 : l0 = o :: r) (hf : FrV T B.n a s.env) (hw : WV B T0 w0 T w s) (hg : o.guard = none) (h : exOp B o.op o.dst s K1)
    (hN : Nx B T0 w0 K1 (fun a w => wpList P ops.toArray Q r a w)) : wpList P ops.toArray Q l0 a w := by
  subst hl0
  obtain ⟨dst, op, tyo, pos, after, g⟩ := o
  simp only at hg h
  subst hg
  unfold wpList
  rw [if_pos (by simp [Region.wanted])]
  exact .inl (exOp_ok hB hf hw h hN tyo pos after none)

/-- One operation of a region, by hand: it leaves the world as it was. -/
theorem ops_run {ops r l0 : List Oper} {o : Oper} {s : SS} {a : Act} {w : World} {T : Tg} {Q : Exit → Act → World → Prop} {op : Op} {d : Nat} {v : Value} {z : Sc} (hl0 : l0 = o :: r) (hf : FrV T B.n a s.env) (hg : o.guard = none) (hd : o.dst = some d) (hop : o.op = op) (hdB : d < B.n)
    (hrun : ∀ ty pos after, (execOp a.eval ⟨some d, op, ty, pos, after, none⟩).run P w = .ok (.value v) w) (hz : z.R T v)
    (hK : ∀ a', FrV T B.n a' ((d, .s z) :: s.env) → wpList P ops.toArray Q r a' w) : wpList P ops.toArray Q l0 a w := by
  subst hl0
  obtain ⟨dst, op', tyo, pos, after, g⟩ := o
  simp only at hg hd hop
  subst hg hd hop
  unfold wpList
  rw [if_pos (by simp [Region.wanted])]
  refine .inl ?_
  unfold Oper.wp
  rw [hrun]
  exact hK _ (hf.put (Tg.le_refl T) hdB (by rw [V.R]; exact hz))

theorem eq_nil_run {t e : TypeId} {w : World} (hu : P.underlying t = some (.slice e)) (x y : Operand) (p : Option Addr) (n c : Nat) :
    (do eqGuard .eql t x y (.slice p n c) (.slice none 0 0); binOp .eql t (.slice p n c) (.slice none 0 0) : Sem Value).run P w = .ok (.bool p.isNone) w := by
  have e2 : (Op.equal t (.slice p n c) (.slice none 0 0)).run P w = .ok p.isNone w := by
    unfold Op.equal Op.maxDepth
    rw [Op.equalIn]
    cases p <;> simp [Sem.run_bind, run_underlying hu]
  have e1 : (eqGuard .eql t x y (.slice p n c) (.slice none 0 0)).run P w = .ok () w := rfl
  simp only [Sem.run_bind, e1, Result.andThen_ok, binOp, e2, Sem.run_pure]

theorem ops_app (hB : TbOk P B) {ops r l0 : List Oper} {o : Oper} {s : SS} {a : Act} {w : World} {T : Tg} {Q : Exit → Act → World → Prop} {x y : Operand} {t : TypeId} {d tx ox ty n : Nat} {l : List Pc} (hl0 : l0 = o :: r) (hf : FrV T B.n a s.env) (hw : WV B T0 w0 T w s) (hg : o.guard = none) (hd : o.dst = some d) (hop : o.op = .call ⟨.builtin .append, #[x, y], #[t, t]⟩) (hdB : d < B.n) (hap : has B.apd t = true)
    (hx : evS s.env x = some (.sl tx ox 0 0)) (hy : evS s.env y = some (.slv ty n)) (hl : lkp s.m ty = some l) (hn : (flat l).length = n) (hn2 : n < 2147483648)
    (hK : ∀ a' w', FrV T B.n a' ((d, .s (.slx n)) :: s.env) → WV B T0 w0 T w' ⟨(d, .s (.slx n)) :: s.env, s.m, s.nt⟩ → wpList P ops.toArray Q r a' w') : wpList P ops.toArray Q l0 a w := by
  subst hl0
  obtain ⟨b0, hb0, hx⟩ := evS_ok hf hx
  obtain ⟨b1, hb1, c, hy, hlt⟩ := evS_ok hf hy
  obtain ⟨e, i, zv, hu, hi, hz, hsz, hby, hzs, _⟩ := hB.apd t hap
  obtain ⟨xs, hp, hlen, hcell⟩ := (hw.mok.at_ ty l hl).range hb1 (rdN_self hn)
  obtain ⟨dst, op, tyo, pos, after, g⟩ := o
  simp only at hg hd hop
  subst hg hd hop
  unfold wpList
  rw [if_pos (by simp [Region.wanted])]
  refine .inl ?_
  obtain ⟨p, c', w', hrun, hbel⟩ := app_any (P := P) (w := w) hu hi hz hsz hby hzs ⟨b0.blk, b0.off + ox, none⟩ ⟨b1.blk, b1.off, none⟩ n c xs hlen (fun j u hj => by rw [addr_add]; exact hcell j u hj) hn2 tyo
  have hex : (execOp a.eval ⟨some d, .call ⟨.builtin .append, #[x, y], #[t, t]⟩, tyo, pos, after, none⟩).run P w = .ok (.value (.slice p n c')) w' := by
    simp [execOp, resolve, invoke, builtin, hx, hy, hrun]
  unfold Oper.wp
  rw [hex]
  refine hK _ _ (hf.put (Tg.le_refl T) hdB (by rw [V.R]; exact ⟨p, c', rfl, hlt⟩)) ?_
  have := hw.grow (env := (d, .s (.slx n)) :: s.env) (fr := []) (onlyNew_refl T s.nt 0) (hw.mok.grow hbel) hbel (fun t b h h' => by rw [h] at h'; cases h')
  simpa [addF] using this

end
end Go.Proofs.Ytdaheccfeihpgaa.Nm

/-
  The rest modulo the prime, by words: the laws.
-/
namespace Go.Proofs.Ytdaheccfeihpgaa.Nm
open Go Go.RowKit

/-- One fold. -/
def fdL (x3 x0 t : Int) (K : Int → Int → Prop) : Prop := ∀ z, IntKind.i64.wrap z = z → z = IntKind.i64.wrap (x3 + IntKind.i64.wrap (t * 1)) → ∀ z1, IntKind.i64.wrap z1 = z1 → z1 = IntKind.i64.wrap (x0 + IntKind.i64.wrap (t * -1)) → K z z1

theorem fdL_ok {x3 x0 t : Int} {K : Int → Int → Prop} (h3 : -1099511627776 ≤ x3 ∧ x3 ≤ 1099511627776) (h0 : -1099511627776 ≤ x0 ∧ x0 ≤ 1099511627776) (ht : -1099511627776 ≤ t ∧ t ≤ 1099511627776) (h : K (x3 + t) (x0 - t)) : fdL x3 x0 t K := by
  intro z _ hz z1 _ hz1
  simp only [IntKind.wrap_i64] at hz hz1
  have e1 : z = x3 + t := by omega
  have e2 : z1 = x0 - t := by omega
  subst e1 e2
  exact h

/-- The prime taken away once, if need be. -/
def subL (G : Nat → Prop) (n : Nat) : Prop :=
  ((!decide (n < 26959946667150639794667015087019630673557916260026308143510066298881)) = true →
    ∀ z0, IntKind.i64.wrap z0 = z0 → z0 = IntKind.i64.wrap (((wd 0 n : Nat) : Int) - ((wd 0 26959946667150639794667015087019630673557916260026308143510066298881 : Nat) : Int)) →
    ∀ z1, IntKind.i64.wrap z1 = z1 → z1 = IntKind.i64.wrap (((wd 1 n : Nat) : Int) - ((wd 1 26959946667150639794667015087019630673557916260026308143510066298881 : Nat) : Int)) →
    ∀ z2, IntKind.i64.wrap z2 = z2 → z2 = IntKind.i64.wrap (((wd 2 n : Nat) : Int) - ((wd 2 26959946667150639794667015087019630673557916260026308143510066298881 : Nat) : Int)) →
    ∀ z3, IntKind.i64.wrap z3 = z3 → z3 = IntKind.i64.wrap (((wd 3 n : Nat) : Int) - ((wd 3 26959946667150639794667015087019630673557916260026308143510066298881 : Nat) : Int)) →
    ∀ z4, IntKind.i64.wrap z4 = z4 → z4 = IntKind.i64.wrap (((wd 4 n : Nat) : Int) - ((wd 4 26959946667150639794667015087019630673557916260026308143510066298881 : Nat) : Int)) →
    ∀ z5, IntKind.i64.wrap z5 = z5 → z5 = IntKind.i64.wrap (((wd 5 n : Nat) : Int) - ((wd 5 26959946667150639794667015087019630673557916260026308143510066298881 : Nat) : Int)) →
    ∀ z6, IntKind.i64.wrap z6 = z6 → z6 = IntKind.i64.wrap (((wd 6 n : Nat) : Int) - ((wd 6 26959946667150639794667015087019630673557916260026308143510066298881 : Nat) : Int)) →
    bndL 4611686018427387904 [z0, z1, z2, z3, z4, z5, z6] ∧ ∀ (o : Int) (n' : Nat), o * 26959946667150639794667015087019630673637144422540572481103610249216 + n' = ivl [z0, z1, z2, z3, z4, z5, z6] → n' < 26959946667150639794667015087019630673637144422540572481103610249216 → -2147483648 ≤ o → o ≤ 2147483648 → G n') ∧
  ((!decide (n < 26959946667150639794667015087019630673557916260026308143510066298881)) = false → G n)

/-- What is carried out is folded back, as long as there is any. -/
def ovL (G : Nat → Prop) : Nat → Int → Nat → Prop
  | 0, _, _ => False
  | f + 1, o, n => ((!decide (o = 0)) = true → fdL ((wd 3 n : Nat) : Int) ((wd 0 n : Nat) : Int) o fun z z1 => bndL 4611686018427387904 [z1, ((wd 1 n : Nat) : Int), ((wd 2 n : Nat) : Int), z, ((wd 4 n : Nat) : Int), ((wd 5 n : Nat) : Int), ((wd 6 n : Nat) : Int)] ∧
      ∀ (o' : Int) (n' : Nat), o' * 26959946667150639794667015087019630673637144422540572481103610249216 + n' = ivl [z1, ((wd 1 n : Nat) : Int), ((wd 2 n : Nat) : Int), z, ((wd 4 n : Nat) : Int), ((wd 5 n : Nat) : Int), ((wd 6 n : Nat) : Int)] → n' < 26959946667150639794667015087019630673637144422540572481103610249216 → -2147483648 ≤ o' → o' ≤ 2147483648 → ovL G f o' n') ∧
    ((!decide (o = 0)) = false → subL G n)

theorem bnd_wd (i n : Nat) : -4611686018427387904 ≤ ((wd i n : Nat) : Int) ∧ ((wd i n : Nat) : Int) ≤ 4611686018427387904 := by
  have := wd_lt i n
  omega

theorem subL_ok {G : Nat → Prop} {n : Nat} (hn : n < 26959946667150639794667015087019630673637144422540572481103610249216) (hG : ∀ r : Nat, r = n % 26959946667150639794667015087019630673557916260026308143510066298881 → G r) : subL G n := by
  refine ⟨fun h => ?_, fun h => ?_⟩
  · have hge : ¬ n < 26959946667150639794667015087019630673557916260026308143510066298881 := by
      intro hlt
      rw [decide_eq_true hlt] at h
      cases h
    clear h
    have hw := ivl_w7 hn
    have hp := ivl_w7 (n := 26959946667150639794667015087019630673557916260026308143510066298881) (by omega)
    have b0 := wd_lt 0 n
    have b1 := wd_lt 1 n
    have b2 := wd_lt 2 n
    have b3 := wd_lt 3 n
    have b4 := wd_lt 4 n
    have b5 := wd_lt 5 n
    have b6 := wd_lt 6 n
    have c0 := wd_lt 0 26959946667150639794667015087019630673557916260026308143510066298881
    have c1 := wd_lt 1 26959946667150639794667015087019630673557916260026308143510066298881
    have c2 := wd_lt 2 26959946667150639794667015087019630673557916260026308143510066298881
    have c3 := wd_lt 3 26959946667150639794667015087019630673557916260026308143510066298881
    have c4 := wd_lt 4 26959946667150639794667015087019630673557916260026308143510066298881
    have c5 := wd_lt 5 26959946667150639794667015087019630673557916260026308143510066298881
    have c6 := wd_lt 6 26959946667150639794667015087019630673557916260026308143510066298881
    intro z0 _ h0 z1 _ h1 z2 _ h2 z3 _ h3 z4 _ h4 z5 _ h5 z6 _ h6
    simp only [IntKind.wrap_i64] at h0 h1 h2 h3 h4 h5 h6
    generalize wd 0 n = x0 at *
    generalize wd 1 n = x1 at *
    generalize wd 2 n = x2 at *
    generalize wd 3 n = x3 at *
    generalize wd 4 n = x4 at *
    generalize wd 5 n = x5 at *
    generalize wd 6 n = x6 at *
    generalize wd 0 26959946667150639794667015087019630673557916260026308143510066298881 = y0 at *
    generalize wd 1 26959946667150639794667015087019630673557916260026308143510066298881 = y1 at *
    generalize wd 2 26959946667150639794667015087019630673557916260026308143510066298881 = y2 at *
    generalize wd 3 26959946667150639794667015087019630673557916260026308143510066298881 = y3 at *
    generalize wd 4 26959946667150639794667015087019630673557916260026308143510066298881 = y4 at *
    generalize wd 5 26959946667150639794667015087019630673557916260026308143510066298881 = y5 at *
    generalize wd 6 26959946667150639794667015087019630673557916260026308143510066298881 = y6 at *
    have e0 : z0 = (x0 : Int) - y0 := by omega
    have e1 : z1 = (x1 : Int) - y1 := by omega
    have e2 : z2 = (x2 : Int) - y2 := by omega
    have e3 : z3 = (x3 : Int) - y3 := by omega
    have e4 : z4 = (x4 : Int) - y4 := by omega
    have e5 : z5 = (x5 : Int) - y5 := by omega
    have e6 : z6 = (x6 : Int) - y6 := by omega
    clear h0 h1 h2 h3 h4 h5 h6
    have hv : ivl [z0, z1, z2, z3, z4, z5, z6] = (n : Int) - 26959946667150639794667015087019630673557916260026308143510066298881 := by
      simp only [ivl] at hw hp ⊢
      omega
    refine ⟨⟨by omega, by omega, by omega, by omega, by omega, by omega, by omega, trivial⟩, fun o n' e hn' _ _ => hG n' ?_⟩
    rw [hv] at e
    have ho : o = 0 := by omega
    subst ho
    omega
  · have hlt : n < 26959946667150639794667015087019630673557916260026308143510066298881 := by
      apply Classical.byContradiction
      intro hlt
      rw [decide_eq_false hlt] at h
      cases h
    exact hG n (by omega)

/-- One level of it. -/
theorem ovL_step {G : Nat → Prop} {f : Nat} {o : Int} {n : Nat} (hn : n < 26959946667150639794667015087019630673637144422540572481103610249216) (h1 : -2147483648 ≤ o) (h2 : o ≤ 2147483648) (h0 : o = 0 → subL G n)
    (hK : o ≠ 0 → ∀ (o' : Int) (n' : Nat), o' * 26959946667150639794667015087019630673637144422540572481103610249216 + n' = n + o * 79228162514264337593543950335 → n' < 26959946667150639794667015087019630673637144422540572481103610249216 → -2147483648 ≤ o' → o' ≤ 2147483648 → ovL G f o' n') : ovL G (f + 1) o n := by
  refine ⟨fun h => ?_, fun h => h0 ?_⟩
  · have hne : o ≠ 0 := by
      intro e
      rw [decide_eq_true e] at h
      cases h
    have hw := ivl_w7 hn
    have b0 := wd_lt 0 n
    have b1 := wd_lt 1 n
    have b2 := wd_lt 2 n
    have b3 := wd_lt 3 n
    have b4 := wd_lt 4 n
    have b5 := wd_lt 5 n
    have b6 := wd_lt 6 n
    refine fdL_ok (by omega) (by omega) (by omega) ⟨⟨by omega, by omega, by omega, by omega, by omega, by omega, by omega, trivial⟩, fun o' n' e hn' k1 k2 => hK hne o' n' ?_ hn' k1 k2⟩
    rw [e]
    simp only [ivl] at hw ⊢
    omega
  · apply Classical.byContradiction
    intro hne
    rw [decide_eq_false hne] at h
    cases h

theorem ovL_ok {G : Nat → Prop} {o : Int} {n : Nat} (f : Nat) (hn : n < 26959946667150639794667015087019630673637144422540572481103610249216) (h1 : -2147483648 ≤ o) (h2 : o ≤ 2147483648)
    (hG : ∀ r : Nat, (r : Int) = (o * 26959946667150639794667015087019630673637144422540572481103610249216 + n) % 26959946667150639794667015087019630673557916260026308143510066298881 → G r) : ovL G (f + 3) o n := by
  refine ovL_step hn h1 h2 (fun e => subL_ok hn fun r hr => hG r (by subst e; omega)) fun _ o1 n1 e1 hn1 a1 a2 => ?_
  have c1 : o1 = -1 ∨ o1 = 0 ∨ o1 = 1 := by omega
  have m1 : ∀ r : Nat, (r : Int) = (o1 * 26959946667150639794667015087019630673637144422540572481103610249216 + n1) % 26959946667150639794667015087019630673557916260026308143510066298881 → G r := fun r hr => hG r (by omega)
  refine ovL_step hn1 a1 a2 (fun e => subL_ok hn1 fun r hr => m1 r (by subst e; omega)) fun ne o2 n2 e2 hn2 a3 a4 => ?_
  have c2 : o2 = 0 := by
    rcases c1 with rfl | rfl | rfl
    · omega
    · omega
    · omega
  have m2 : ∀ r : Nat, (r : Int) = (o2 * 26959946667150639794667015087019630673637144422540572481103610249216 + n2) % 26959946667150639794667015087019630673557916260026308143510066298881 → G r := fun r hr => m1 r (by omega)
  exact ovL_step hn2 a3 a4 (fun e => subL_ok hn2 fun r hr => m2 r (by subst e; omega)) fun ne => absurd c2 ne

/-- Fourteen words folded to seven. -/
def f14L (x0 x1 x2 x3 x4 x5 x6 x7 x8 x9 x10 x11 x12 x13 : Int) (K : Int → Int → Int → Int → Int → Int → Int → Prop) : Prop :=
  fdL x9 x6 x13 fun a9 a6 => fdL x8 x5 x12 fun a8 a5 => fdL x7 x4 x11 fun a7 a4 => fdL a6 x3 x10 fun b6 a3 => fdL a5 x2 a9 fun b5 a2 => fdL a4 x1 a8 fun b4 a1 => fdL a3 x0 a7 fun b3 a0 => K a0 a1 a2 b3 b4 b5 b6

theorem f14L_ok {x0 x1 x2 x3 x4 x5 x6 x7 x8 x9 x10 x11 x12 x13 : Int} {K : Int → Int → Int → Int → Int → Int → Int → Prop} (hb : bndL 8589934592 [x0, x1, x2, x3, x4, x5, x6, x7, x8, x9, x10, x11, x12, x13])
    (h : ∀ a0 a1 a2 a3 a4 a5 a6, bndL 4611686018427387904 [a0, a1, a2, a3, a4, a5, a6] → ivl [a0, a1, a2, a3, a4, a5, a6] % 26959946667150639794667015087019630673557916260026308143510066298881 = ivl [x0, x1, x2, x3, x4, x5, x6, x7, x8, x9, x10, x11, x12, x13] % 26959946667150639794667015087019630673557916260026308143510066298881 → K a0 a1 a2 a3 a4 a5 a6) :
    f14L x0 x1 x2 x3 x4 x5 x6 x7 x8 x9 x10 x11 x12 x13 K := by
  obtain ⟨b0, b1, b2, b3, b4, b5, b6, b7, b8, b9, b10, b11, b12, b13, _⟩ := hb
  refine fdL_ok (by omega) (by omega) (by omega) (fdL_ok (by omega) (by omega) (by omega) (fdL_ok (by omega) (by omega) (by omega) (fdL_ok (by omega) (by omega) (by omega) (fdL_ok (by omega) (by omega) (by omega) (fdL_ok (by omega) (by omega) (by omega) (fdL_ok (by omega) (by omega) (by omega) (h _ _ _ _ _ _ _ ?_ ?_)))))))
  · exact ⟨by omega, by omega, by omega, by omega, by omega, by omega, by omega, trivial⟩
  · simp only [ivl]
    omega

end Go.Proofs.Ytdaheccfeihpgaa.Nm

/-
  The product of numbers in words: the laws.
-/
namespace Go.Proofs.Ytdaheccfeihpgaa.Nm
open Go Go.RowKit

/-- One step of the product. -/
def tmR (c w a b : Int) (K : Int → Int → Prop) : Prop :=
  ∀ z, IntKind.u64.wrap z = z → z = IntKind.u64.wrap (c + IntKind.u64.wrap (IntKind.u64.wrap w + IntKind.u64.wrap (IntKind.u64.wrap a * IntKind.u64.wrap b))) →
  ∀ u, IntKind.u64.wrap u = u → u = bits .and .u64 z 4294967295 → ∀ v, IntKind.i64.wrap v = v → v = IntKind.i64.wrap u → ∀ c', IntKind.u64.wrap c' = c' → c' = IntKind.u64.wrap (z.fdiv (2 ^ 32)) → K v c'

def tmIn (a : Int) : List Int → List Int → Int → List Int → (List Int → Int → Prop) → Prop
  | b :: bs, w :: ws, c, acc, K => tmR c w a b fun v c' => tmIn a bs ws c' (acc ++ [v]) K
  | _, _, c, acc, K => K acc c

def tmOut (bs : List Int) : List Int → List Int → List Int → (List Int → Prop) → Prop
  | [], ws, done, K => K (done ++ ws)
  | a :: as, ws, done, K => tmIn a bs ws 0 [] fun acc c => ∀ v, IntKind.i64.wrap v = v → v = IntKind.i64.wrap c → match acc with
    | x :: r => tmOut bs as (r ++ [v]) (done ++ [x]) K
    | [] => False

theorem mul_bnd {a b : Int} (h1 : 0 ≤ a) (h2 : a < 4294967296) (h3 : 0 ≤ b) (h4 : b < 4294967296) : 0 ≤ a * b ∧ a * b ≤ 18446744065119617025 := by
  refine ⟨Int.mul_nonneg h1 h3, ?_⟩
  have h5 : a * b ≤ 4294967295 * b := Int.mul_le_mul_of_nonneg_right (by omega) h3
  omega

theorem tmR_ok {c w a b : Int} {K : Int → Int → Prop} (hc : 0 ≤ c ∧ c < 4294967296) (hw : 0 ≤ w ∧ w < 4294967296) (ha : 0 ≤ a ∧ a < 4294967296) (hb : 0 ≤ b ∧ b < 4294967296)
    (h : ∀ v c', 0 ≤ v → v < 4294967296 → 0 ≤ c' → c' < 4294967296 → v + 4294967296 * c' = c + w + a * b → K v c') : tmR c w a b K := by
  intro z _ hz u _ hu v _ hv c' _ hc'
  have hm := mul_bnd ha.1 ha.2 hb.1 hb.2
  have e1 : IntKind.u64.wrap a = a := by rw [IntKind.wrap_u64]; omega
  have e2 : IntKind.u64.wrap b = b := by rw [IntKind.wrap_u64]; omega
  rw [e1, e2] at hz
  generalize a * b = m at *
  simp only [IntKind.wrap_u64] at hz hc'
  have hz' : z = c + w + m := by omega
  rw [and_low32 z (by omega) (by omega)] at hu
  rw [IntKind.wrap_i64] at hv
  have e32 : ((2 : Int) ^ 32) = 4294967296 := by decide
  rw [e32, Int.fdiv_eq_ediv_of_nonneg _ (by omega)] at hc'
  exact h v c' (by omega) (by omega) (by omega) (by omega) (by omega)

theorem lowL_cons {x : Int} {r : List Int} : lowL (x :: r) ↔ (0 ≤ x ∧ x < 4294967296) ∧ lowL r := by
  unfold lowL
  constructor
  · intro h; exact ⟨h x (by simp), fun z hz => h z (by simp [hz])⟩
  · rintro ⟨h1, h2⟩ z hz
    simp only [List.mem_cons] at hz
    rcases hz with rfl | hz
    · exact h1
    · exact h2 z hz

theorem lowL_append {a b : List Int} : lowL (a ++ b) ↔ lowL a ∧ lowL b := by
  induction a with
  | nil => simp [lowL]
  | cons x r ih => rw [List.cons_append, lowL_cons, lowL_cons, ih]; simp only [and_assoc]

theorem tmIn_ok {a : Int} {K : List Int → Int → Prop} (ha : 0 ≤ a ∧ a < 4294967296) : ∀ (bs ws : List Int) (c : Int) (acc : List Int), bs.length = ws.length → lowL bs → lowL ws → 0 ≤ c ∧ c < 4294967296 →
    (∀ zs c', zs.length = ws.length → lowL zs → 0 ≤ c' ∧ c' < 4294967296 → ivl zs + pw ws.length * c' = c + ivl ws + a * ivl bs → K (acc ++ zs) c') → tmIn a bs ws c acc K
  | [], [], c, acc, _, _, _, hc, h => by
    have := h [] c rfl (by intro z hz; cases hz) hc (by simp [ivl, pw])
    simpa [tmIn] using this
  | [], _ :: _, _, _, hl, _, _, _, _ => by simp at hl
  | _ :: _, [], _, _, hl, _, _, _, _ => by simp at hl
  | b :: bs, w :: ws, c, acc, hl, hb, hw, hc, h => by
    obtain ⟨hb0, hb⟩ := lowL_cons.1 hb
    obtain ⟨hw0, hw⟩ := lowL_cons.1 hw
    refine tmR_ok hc hw0 ha hb0 fun v c' v1 v2 c1 c2 e => ?_
    refine tmIn_ok ha bs ws c' (acc ++ [v]) (by simpa using hl) hb hw ⟨c1, c2⟩ fun zs c'' g1 g2 g3 g4 => ?_
    have := h (v :: zs) c'' (by simp [g1]) (lowL_cons.2 ⟨⟨v1, v2⟩, g2⟩) g3 (by
      simp only [ivl, pw, List.length_cons]
      have e1 : 4294967296 * pw ws.length * c'' = 4294967296 * (pw ws.length * c'') := Int.mul_assoc ..
      have e2 : a * (b + 4294967296 * ivl bs) = a * b + 4294967296 * (a * ivl bs) := by rw [Int.mul_add]; congr 1; rw [← Int.mul_assoc, ← Int.mul_assoc, Int.mul_comm a]
      rw [e1, e2]
      generalize a * b = m at *
      generalize a * ivl bs = k at *
      generalize pw ws.length * c'' = q at *
      omega)
    simpa using this

theorem ivl_append : ∀ (a b : List Int), ivl (a ++ b) = ivl a + pw a.length * ivl b
  | [], b => by simp [ivl, pw]
  | x :: r, b => by
    simp only [List.cons_append, ivl, ivl_append r b, List.length_cons, pw]
    rw [Int.mul_assoc]
    omega

theorem tmOut_ok {bs : List Int} {K : List Int → Prop} (hb : lowL bs) : ∀ (as ws done : List Int), bs.length = ws.length → lowL as → lowL ws → ws ≠ [] →
    (∀ zs, zs.length = as.length + ws.length → lowL zs → ivl zs = ivl ws + ivl as * ivl bs → K (done ++ zs)) → tmOut bs as ws done K
  | [], ws, done, _, _, hw, _, h => h ws (by simp) hw (by simp [ivl])
  | a :: as, ws, done, hl, ha, hw, hne, h => by
    obtain ⟨ha0, ha⟩ := lowL_cons.1 ha
    refine tmIn_ok ha0 bs ws 0 [] hl hb hw (by omega) fun zs c g1 g2 g3 g4 v _ hv => ?_
    rw [IntKind.wrap_i64] at hv
    have hv' : v = c := by omega
    subst hv'
    simp only [List.nil_append]
    cases zs with
    | nil => cases ws with
      | nil => exact absurd rfl hne
      | cons _ _ => simp at g1
    | cons x r =>
      obtain ⟨hx, hr⟩ := lowL_cons.1 g2
      refine tmOut_ok hb as (r ++ [v]) (done ++ [x]) (by rw [hl, ← g1]; simp) ha (lowL_append.2 ⟨hr, lowL_cons.2 ⟨g3, by intro z hz; cases hz⟩⟩) (by simp) fun zs k1 k2 k3 => ?_
      have := h (x :: zs) (by simp at k1 ⊢; simp at g1; omega) (lowL_cons.2 ⟨hx, k2⟩) (by
        simp only [ivl, k3, ivl_append]
        simp only [ivl] at g4
        rw [← g1, List.length_cons, pw] at g4
        have e1 : 4294967296 * pw r.length * v = 4294967296 * (pw r.length * v) := Int.mul_assoc ..
        have e2 : (a + 4294967296 * ivl as) * ivl bs = a * ivl bs + 4294967296 * (ivl as * ivl bs) := by rw [Int.add_mul, Int.mul_assoc]
        have e3 : pw r.length * (v + 4294967296 * 0) = pw r.length * v := by simp
        rw [e1] at g4
        rw [e2, e3]
        generalize pw r.length * v = q at *
        generalize a * ivl bs = k at *
        generalize ivl as * ivl bs = j at *
        omega)
      simpa using this

end Go.Proofs.Ytdaheccfeihpgaa.Nm

/-
  A loop over a string: the iterator.
-/
namespace Go.Proofs.Ytdaheccfeihpgaa.Nm
open Go Go.RowKit

section
variable {P : Program} {B : Tb} {T0 : Tg} {w0 : World}

theorem run_range {w : World} {t : TypeId} {s : ByteArray} (hu : P.underlying t = some .string) : (Instr.range t (.string s)).run P w = .ok (.pointer (some ⟨w.heap.size, 0, none⟩)) (w.alloc (.stringIter s 0)) := by
  simp only [Instr.range, Sem.run_bind, run_underlying hu, Result.andThen_ok, Sem.run_pure, run_newObj_alloc]

theorem run_next_more {w : World} {ty : TypeId} {s : ByteArray} {g k : Nat} (hg : w.heap[g]? = some (.stringIter s k)) (hk : k < s.size) (hd : (Utf8.decode s k).2 = 1) :
    (Instr.next (.pointer (some ⟨g, 0, none⟩)) true ty).run P w = .ok (.tuple #[.bool true, goInt k, .int .i32 ((Utf8.decode s k).1 : Nat)]) { w with heap := w.heap.setIfInBounds g (.stringIter s (k + 1)) } := by
  have e1 : (getObj g).run P w = .ok (.stringIter s k) w := by simp [getObj, Sem.run, hg]
  have e2 : (setObj g (.stringIter s (k + 1))).run P w = .ok () { w with heap := w.heap.setIfInBounds g (.stringIter s (k + 1)) } := by simp [setObj, Sem.run, hg]
  simp only [Instr.next, Sem.run_bind, e1, Result.andThen_ok, hk, if_true, hd, e2, Sem.run_pure]

theorem run_next_over {w : World} {ty : TypeId} {s : ByteArray} {g k : Nat} (hg : w.heap[g]? = some (.stringIter s k)) (hk : ¬ k < s.size) :
    (Instr.next (.pointer (some ⟨g, 0, none⟩)) true ty).run P w = .ok (.tuple #[.bool false]) w := by
  have e1 : (getObj g).run P w = .ok (.stringIter s k) w := by simp [getObj, Sem.run, hg]
  simp only [Instr.next, Sem.run_bind, e1, Result.andThen_ok, hk, if_false, Sem.run_pure]

/-- The iterator, stepped: its region. -/
theorem wp_step {Q : Exit → Act → World → Prop} {a : Act} {w w' : World} {id : Nat} {ty1 ty2 : TypeId} {p1 p2 : String} {f1 f2 : Array Edge} {it t1 t2 : Nat} {x : Value} {b : Bool} {r : Array Value} (hx : a.eval (.tmp it) = x) (hn : ∀ ty, (Instr.next x true ty).run P w = .ok (.tuple r) w') (hr : r[0]? = some (.bool b)) (ht1 : t1 < a.tmps.size)
    (hQ : Q .normal ((a.put (some t1) (.tuple r)).put (some t2) (.bool b)) w') : (Code.region id #[⟨some t1, .next (.tmp it) true, ty1, p1, f1, none⟩, ⟨some t2, .extract (.tmp t1) 0, ty2, p2, f2, none⟩] false).wp P Q a w := by
  refine wp_region_lit (l := [⟨some t1, .next (.tmp it) true, ty1, p1, f1, none⟩, ⟨some t2, .extract (.tmp t1) 0, ty2, p2, f2, none⟩]) ?_
  unfold wpList
  rw [if_pos (by simp [Region.wanted])]
  refine .inl ?_
  have h1 : (execOp a.eval ⟨some t1, .next (.tmp it) true, ty1, p1, f1, none⟩).run P w = .ok (.value (.tuple r)) w' := by
    simp only [execOp, hx, Sem.run_bind, hn, Result.andThen_ok, Sem.run_pure]
  unfold Oper.wp
  rw [h1]
  show wpList P _ Q _ _ _
  unfold wpList
  rw [if_pos (by simp [Region.wanted])]
  refine .inl ?_
  have hev : (a.put (some t1) (.tuple r)).eval (.tmp t1) = .tuple r := by
    show (a.put (some t1) (.tuple r)).tmps.getD t1 undef = _
    rw [getD_put rfl, if_pos ⟨rfl, ht1⟩]
  have h2 : (execOp (a.put (some t1) (.tuple r)).eval ⟨some t2, .extract (.tmp t1) 0, ty2, p2, f2, none⟩).run P w' = .ok (.value (.bool b)) w' := by
    simp only [execOp, hev, Instr.extract, hr]
    rfl
  unfold Oper.wp
  rw [h2]
  exact hQ

/-- A run within a run. -/
theorem WV.sub {T T3 : Tg} {w w3 : World} {s s3 : SS} {n nt : Nat} {outs : List Nat} (h : WV B T0 w0 T w s) (h2 : WV (B.at n nt outs) T w T3 w3 s3) (hnt : B.base ≤ nt) (hw : ∀ t ∈ outs, wrB B t = true) : WV B T0 w0 T3 w3 s3 := by
  have hnew : Newer T T3 w := fun t b e1 e2 => by
    by_cases hlt : t < nt
    · have := h2.old t b e2 hlt
      rw [e1] at this; cases this
    · exact h2.own t b e2 (by show nt ≤ t; omega)
  have hge : ∀ t b, T t = none → T3 t = some b → nt ≤ t := fun t b e1 e2 => by
    apply Classical.byContradiction
    intro hlt
    have := h2.old t b e2 (by show t < nt; omega)
    rw [e1] at this; cases this
  have hsame : ∀ t b c, T3 t = some b → T t = some c → c = b := by
    intro t b c e1 e2
    have := h2.le _ _ e2
    rw [e1] at this
    exact (Option.some.inj this).symm
  refine ⟨Tg.le_trans h.le h2.le, mok_sep h.mok h2.le hnew h2.mok fun t b e1 e2 => ?_, h2.free, ?_, fun t b e1 e2 => ?_, fun t b e1 e2 => ?_, ?_⟩
  · unfold wrB
    rw [Bool.or_eq_true]
    exact .inl (Nat.ble_eq_true_of_le (hge t b e1 e2))
  · have : nt ≤ s3.nt := h2.base
    omega
  · cases hT : T t with
    | none => exact Nat.le_trans h.kp.size (hnew t b hT e1)
    | some c => have := hsame t b c e1 hT; subst this; exact h.own t c hT e2
  · cases hT : T t with
    | none => have := hge t b hT e1; omega
    | some c => have := hsame t b c e1 hT; subst this; exact h.old t c hT e2
  · refine h.kp.trans h2.kp fun i hi hB => ?_
    obtain ⟨t, ht, b, hb, rfl⟩ := hB
    exact h.wr (hw t ht) hb hi

/-- A start of a run within a run. -/
theorem WV.start {T : Tg} {w : World} {s : SS} {n : Nat} {outs : List Nat} (h : WV B T0 w0 T w s) (hw : ∀ t ∈ outs, wrB B t = true) : WV (B.at n s.nt outs) T w T w s := by
  refine ⟨Tg.le_refl _, ⟨fun t t' b b' h1 h2 h3 e => ?_, h.mok.lt, h.mok.at_⟩, h.free, Nat.le_refl _, fun t b e1 e2 => ?_, fun t b e1 _ => e1, Kp.refl _ _⟩
  · unfold wrB at h1
    rw [Bool.or_eq_true] at h1
    rcases h1 with h1 | h1
    · have := h.free t (Nat.le_of_ble_eq_true h1)
      rw [this] at h2; cases h2
    · exact h.mok.sep t t' b b' (hw t (has_mem h1)) h2 h3 e
  · have : T t = none := h.free t e2
    rw [this] at e1; cases e1

/-- The iterator's block has turned: nothing else has. -/
theorem WV.iter {T : Tg} {w : World} {s : SS} {g : Nat} {o : Obj} (h : WV B T0 w0 T w s) (hg : w0.heap.size ≤ g) (hne : ∀ t b, T t = some b → b.blk ≠ g) : WV B T0 w0 T { w with heap := w.heap.setIfInBounds g o } s := by
  refine ⟨h.le, ⟨h.mok.sep, fun t b hb => by simpa using h.mok.lt t b hb, fun t l hl => (h.mok.at_ t l hl).keep (Tg.le_refl T) fun b hb => ?_⟩, h.free, h.base, h.own, h.old, ⟨h.kp.os, h.kp.tape, h.kp.output, by simpa using h.kp.size, fun k hk hn => ?_⟩⟩
  · simp [(hne t b hb).symm]
  · have hne : g ≠ k := by omega
    rw [← h.kp.block k hk hn]
    simp [hne]

end
end Go.Proofs.Ytdaheccfeihpgaa.Nm

/-
  Regions whose order is drawn, with an operation that may come up behind the store that follows it; pieces of code that may return.
-/
namespace Go.Proofs.Ytdaheccfeihpgaa.Nm
open Go Go.RowKit

section
variable {P : Program} {B : Tb} {wr : Nat → Bool} {e0 : Env} {m0 : Mem} {ops : Array Oper} {nt0 : Nat}

theorem left_all {L : Array Bool} : ∀ {n : Nat}, (∀ j, j < n → L.getD j true = true) → left L n = 0
  | 0, _ => rfl
  | n + 1, h => by
    simp only [left]
    rw [left_all (fun j hj => h j (by omega)), h n (by omega)]
    rfl

theorem dr_late {nt' hd : Nat} {R : List Rw} {T0 : Tg} {w0 : World} {Q : Exit → Act → World → Prop} {oh op : Oper} {rest : List Oper} (hB : TbOk P B) (hR : Built P B e0 m0 ops nt0 hd nt' R) (he0 : ∀ r ∈ R, lkp e0 r.dst = none)
    (hO : Order ops (hd + 1) 0) (hx : ∀ L, Closed ops L → Direct L oh.after.toList → ∀ j, j < hd - 1 → L.getD j false = true) (hpos : 0 < hd) (hn : ops.size = hd + (rest.length + 1)) (hoh : ops[hd]? = some oh) (hop : ops[hd - 1]? = some op) (htl : ∀ k, rest[k]? = ops[hd + 1 + k]?)
    (hend : ∀ L a w T, DInv B wr e0 m0 nt0 nt' R T0 w0 L a w T → Cov L (2 ^ hd - 1) → wpList P ops Q (oh :: rest) a w)
    (hend2 : ∀ L a w T, DInv B wr e0 m0 nt0 nt' R T0 w0 L a w T → Cov L (2 ^ (hd - 1) - 1) → wpList P ops Q (oh :: op :: rest) a w) :
    ∀ (f : Nat) (L : Array Bool) (a : Act) (w : World) (T : Tg), left L hd + (rest.length + 1) = f → L.size = ops.size → Closed ops L → (∀ t, hd ≤ t → t < ops.size → L.getD t true = false) → DInv B wr e0 m0 nt0 nt' R T0 w0 L a w T → wpAny P .any ops Q f L a w := by
  intro f
  induction f with
  | zero => intro L a w T hf; omega
  | succ f ih =>
    intro L a w T hf hsz hcl htail hinv
    by_cases hl0 : left L hd = 0
    · have hall := left_zero hl0
      have hcov : Cov L (2 ^ hd - 1) := by
        intro j hj
        rw [Nat.testBit_two_pow_sub_one] at hj
        have hj := of_decide_eq_true hj
        rw [← getD_in' (by omega)]; exact hall j hj
      have H := hend L a w T hinv hcov
      have hhd : L.getD hd true = false := htail hd (Nat.le_refl _) (by omega)
      refine ⟨fun h0 => absurd h0 (ready_ne hO hsz hd hd (Nat.le_refl _) (by omega) hhd), fun i hi => ?_⟩
      obtain ⟨hun, o, ho, hdir⟩ := mem_ready.1 hi
      have his : i < ops.size := (Array.getElem?_eq_some_iff.1 ho).1
      have hih : i = hd := by
        apply Classical.byContradiction
        intro hne
        have hgt : hd < i := by
          apply Classical.byContradiction
          intro hle
          have := hall i (by omega)
          rw [this] at hun; cases hun
        have := hO.tail i o (by omega) ho L hcl (cov_zero L) (fun e' he' hb' => hdir e' (by simpa using he') hb') hd hgt
        rw [getD_both hhd] at this
        cases this
      subst hih
      have hw : wpOp P ops Q i (wpList P ops Q rest) a w := by unfold wpOp; simp only [hoh]; exact H
      refine wpOp_mono (fun a' w' h' => ?_) hw
      have hseq := seqB_of hO rest.length (i + 1) (L.setIfInBounds i true) (by omega) (Nat.le_refl _) (by simp [hsz]) (fun j hj => by
        by_cases hjh : i = j
        · subst hjh
          rw [getD_in' (by simp [hsz]; omega), getD_set_true' (by omega)]
          simp
        · rw [getD_set_ne true hjh]
          by_cases hlt : j < i
          · rw [hall j hlt, decide_eq_true (by omega)]
          · rw [htail j (by omega) hj, decide_eq_false (by omega)])
      have := wpAny_of_seq rest (i + 1) (L.setIfInBounds i true) a' w' htl hseq h'
      rwa [show rest.length = f by omega] at this
    · obtain ⟨i0, hi0, hun0⟩ := left_pos hl0
      refine ⟨fun h0 => absurd h0 (ready_ne hO hsz i0 i0 (Nat.le_refl _) (by omega) hun0), fun i hi => ?_⟩
      obtain ⟨hun, o, ho, hdir⟩ := mem_ready.1 hi
      have his : i < ops.size := (Array.getElem?_eq_some_iff.1 ho).1
      have hcs : i < hd ∨ i = hd ∨ hd < i := by omega
      rcases hcs with hih | hih | hih
      · refine hinv.step hB hR he0 hcl hsz hi hih fun a' w' T' hinv' => ?_
        refine ih _ a' w' T' ?_ (by simp [hsz]) (closed_set hcl hi) (fun t ht ht' => by rw [getD_set_ne true (by omega)]; exact htail t ht ht') hinv'
        have := left_set (by omega : i < L.size) hun (h := hd)
        rw [if_pos hih] at this
        omega
      · subst hih
        rw [hoh] at ho
        cases ho
        have hlow := hx L hcl (fun e' he' hb' => hdir e' (by simpa using he') hb')
        have hp : i0 = i - 1 := by
          apply Classical.byContradiction
          intro hne
          have := hlow i0 (by omega)
          rw [getD_both hun0] at this
          cases this
        subst hp
        have hlow' : ∀ j, j < i - 1 → L.getD j true = true := fun j hj => by rw [getD_in' (by omega)]; exact hlow j hj
        have hleft : left L i = 1 := by
          have e : i = (i - 1) + 1 := by omega
          rw [e]
          simp only [left]
          rw [left_all hlow', hun0]
          rfl
        have hcov : Cov L (2 ^ (i - 1) - 1) := by
          intro j hj
          rw [Nat.testBit_two_pow_sub_one] at hj
          exact hlow j (of_decide_eq_true hj)
        have H := hend2 L a w T hinv hcov
        have hw : wpOp P ops Q i (wpList P ops Q (op :: rest)) a w := by unfold wpOp; simp only [hoh]; exact H
        refine wpOp_mono (fun a' w' h' => ?_) hw
        have hcl1 : Closed ops (L.setIfInBounds i true) := closed_set hcl hi
        have hp1 : (L.setIfInBounds i true).getD (i - 1) true = false := by rw [getD_set_ne true (by omega)]; exact hun0
        have hfe : f = rest.length + 1 := by omega
        subst hfe
        refine ⟨fun h0 => absurd h0 (ready_ne hO (by simp [hsz]) (i - 1) (i - 1) (Nat.le_refl _) (by omega) hp1), fun k hk => ?_⟩
        obtain ⟨hkun, ok, hok, hkdir⟩ := mem_ready.1 hk
        have hks : k < ops.size := (Array.getElem?_eq_some_iff.1 hok).1
        have hkp : k = i - 1 := by
          apply Classical.byContradiction
          intro hne
          by_cases hki : k = i
          · subst hki
            rw [getD_in' (by simp [hsz]; omega), getD_set_true' (by omega)] at hkun
            cases hkun
          · by_cases hlt : k < i
            · rw [getD_set_ne true (by omega), hlow' k (by omega)] at hkun
              cases hkun
            · have := hO.tail k ok (by omega) hok _ hcl1 (cov_zero _) (fun e' he' hb' => hkdir e' (by simpa using he') hb') (i - 1) (by omega)
              rw [getD_both hp1] at this
              cases this
        subst hkp
        have hw2 : wpOp P ops Q (i - 1) (wpList P ops Q rest) a' w' := by unfold wpOp; simp only [hop]; exact h'
        refine wpOp_mono (fun a2 w2 h2 => ?_) hw2
        have hseq := seqB_of hO rest.length (i + 1) ((L.setIfInBounds i true).setIfInBounds (i - 1) true) (by omega) (Nat.le_refl _) (by simp [hsz]) (fun j hj => by
          by_cases hj1 : i - 1 = j
          · subst hj1
            rw [getD_in' (by simp [hsz]; omega), getD_set_true' (by simp [hsz]; omega), decide_eq_true (by omega)]
          · rw [getD_set_ne true hj1]
            by_cases hjh : i = j
            · subst hjh
              rw [getD_in' (by simp [hsz]; omega), getD_set_true' (by omega), decide_eq_true (by omega)]
            · rw [getD_set_ne true hjh]
              by_cases hlt : j < i
              · rw [hlow' j (by omega), decide_eq_true (by omega)]
              · rw [htail j (by omega) hj, decide_eq_false (by omega)])
        exact wpAny_of_seq rest (i + 1) _ a2 w2 htl hseq h2
      · have := hO.tail i o (by omega) ho L hcl (cov_zero L) (fun e' he' hb' => hdir e' (by simpa using he') hb') i0 (by omega)
        rw [getD_both hun0] at this
        cases this

end

section
variable {P : Program} {B : Tb} {T0 : Tg} {w0 : World}

/-- The rest of a region: a store, behind which the last operation of the head may come up as well. -/
def restL (B : Tb) (ops : List Oper) (hd : Nat) (s : SS) (K : SS → Prop) (r : List Rw × Nat) : Prop := match ops.drop hd, ops[hd - 1]? with
  | oh :: rest, some op => onb (edgesLt hd oh.after.toList && (allBits (hd - 1) (maskOf r.1 oh.after.toList) && (tailB 0 (⟨hd, 0, maskOf r.1 oh.after.toList, none, 0, []⟩ :: r.1) (hd + 1) rest && Region.noSelect ops.toArray)))
      (exOps2 B ops (oh :: rest) ⟨envI (2 ^ hd - 1) r.1 ++ delE (dsts (ops.take hd)) s.env, memI (2 ^ hd - 1) s.m r.1, r.2⟩ K ∧
        exOps2 B ops (oh :: op :: rest) ⟨envI (2 ^ (hd - 1) - 1) r.1 ++ delE (dsts (ops.take hd)) s.env, memI (2 ^ (hd - 1) - 1) s.m r.1, r.2⟩ K)
  | _, _ => False

def exRegL (B : Tb) (ops : List Oper) (hd : Nat) (s : SS) (K : SS → Prop) : Prop :=
  onb (Nat.ble hd ops.length && Nat.blt 0 hd) (drC B (delE (dsts (ops.take hd)) s.env) s.m (ops.take hd) 0 s.nt [] fun r => restL B ops hd s K r)

theorem exRegL_ok (hB : TbOk P B) {ops : List Oper} {id hd : Nat} {Q : Exit → Act → World → Prop} {K : SS → Prop} (hN : Nx B T0 w0 K (Q .normal)) {s : SS} {a : Act} {w : World} {T : Tg} (hf : FrV T B.n a s.env) (hw : WV B T0 w0 T w s) (h : exRegL B ops hd s K) :
    (Code.region id ops.toArray true).wp P Q a w := by
  obtain ⟨hle, h⟩ := onb_true h
  simp only [Bool.and_eq_true, Nat.blt_eq] at hle
  obtain ⟨hle, hpos⟩ := hle
  have hle : hd ≤ ops.length := Nat.le_of_ble_eq_true hle
  have hlen : (ops.take hd).length = hd := by simp [hle]
  obtain ⟨R, nt', hbuilt, h⟩ := drC_built hB (ops := ops.toArray) (nt0 := s.nt) (ops.take hd) 0 s.nt [] (fun k hk => by rw [hlen] at hk; simp [hk]) .nil h
  rw [Nat.zero_add, hlen] at hbuilt
  unfold restL at h
  split at h
  · rename_i oh rest op htd hop
    obtain ⟨hchk, hA, hA2⟩ := onb_true h
    simp only [Bool.and_eq_true] at hchk
    obtain ⟨hel, hbits, htl, hsel⟩ := hchk
    simp only at hA hA2 hel hbits htl
    have hdl : (ops.drop hd).length = rest.length + 1 := by rw [htd]; rfl
    have hsz : ops.toArray.size = hd + (rest.length + 1) := by
      rw [← hdl]; simp; omega
    have hoh : ops.toArray[hd]? = some oh := by
      have : (ops.drop hd)[0]? = some oh := by rw [htd]; rfl
      rw [List.getElem?_drop] at this
      simpa using this
    have htl2 : ∀ k, rest[k]? = ops.toArray[hd + 1 + k]? := fun k => by
      have : (ops.drop hd)[k + 1]? = rest[k]? := by rw [htd]; rfl
      rw [← this, List.getElem?_drop]
      simp only [List.getElem?_toArray]
      congr 1; omega
    have hw1 : WV B T0 w0 T { w with drawn := w.drawn + 1 } s := hw.drew
    have hcovR : ∀ L, Closed ops.toArray L → ∀ r ∈ R, L.getD r.idx false = true → Cov L r.mask := fun L hL => hbuilt.cov hL
    have hcovH : ∀ L, Closed ops.toArray L → Direct L oh.after.toList → Cov L (maskOf R oh.after.toList) := fun L hL hd => cov_mask (hcovR L hL) hd
    have hTB := tailB_ok (ops := ops.toArray) (pre := 0) rest (hd + 1) (⟨hd, 0, maskOf R oh.after.toList, none, 0, []⟩ :: R) htl (fun k _ => htl2 k) fun L hL r' hr' hl' => by
      simp only [List.mem_cons] at hr'
      rcases hr' with rfl | hr'
      · exact hcovH L hL fun e' he' hb' => hL hd oh hoh hl' e' (by simpa using he') hb'
      · exact hcovR L hL r' hr' hl'
    have hO : Order ops.toArray (hd + 1) 0 := by
      refine ⟨fun j hj => by simp at hj, fun i o ho e he hb => ?_, fun t o h1 ho L hL hcp hdir j hj => ?_⟩
      · have hi : i < ops.toArray.size := (Array.getElem?_eq_some_iff.1 ho).1
        by_cases hlt : i < hd
        · obtain ⟨r, hr, hidx⟩ := hbuilt.idx i hlt
          obtain ⟨_, _, _, ⟨_, o', ho', _, _, _, hel', _⟩, _⟩ := hbuilt.mem r hr
          rw [hidx] at ho' hel'
          have : o' = o := Option.some.inj (ho'.symm.trans ho)
          subst this
          exact edgesLt_ok hel' e (by simpa using he) hb
        · by_cases hh : i = hd
          · subst hh
            rw [hoh] at ho
            cases ho
            exact edgesLt_ok hel e (by simpa using he) hb
          · exact edgesLt_ok (hTB i o (by omega) (by omega) ho).1 e (by simpa using he) hb
      · have hi : t < ops.toArray.size := (Array.getElem?_eq_some_iff.1 ho).1
        exact (hTB t o h1 (by omega) ho).2 L hL hcp hdir j hj
    have he0 : ∀ r ∈ R, lkp (delE (dsts (ops.take hd)) s.env) r.dst = none := by
      intro r hr
      obtain ⟨_, _, _, ⟨_, o, ho, hdst, _⟩, hidx, _⟩ := hbuilt.mem r hr
      have hmem : o ∈ ops.take hd := by
        have : (ops.take hd)[r.idx]? = some o := by
          rw [List.getElem?_take, if_pos hidx]; simpa using ho
        exact List.mem_of_getElem? this
      cases hl : lkp (delE (dsts (ops.take hd)) s.env) r.dst with
      | none => rfl
      | some v =>
        have := (lkp_delE hl).2
        rw [has_dsts hmem hdst] at this; cases this
    refine wp_region_any hB.wide ?_
    have hnt : s.nt ≤ nt' := by
      have : ∀ {i nt R}, Built P B (delE (dsts (ops.take hd)) s.env) s.m ops.toArray s.nt i nt R → s.nt ≤ nt := by
        intro i nt R h
        induction h with
        | nil => exact Nat.le_refl _
        | cons _ _ _ _ _ _ _ ih => omega
      exact this hbuilt
    have hleft : left (Array.replicate ops.toArray.size false) hd = hd := by
      have aux : ∀ n, n ≤ ops.toArray.size → left (Array.replicate ops.toArray.size false) n = n := by
        intro n
        induction n with
        | zero => intro _; rfl
        | succ n ih =>
          intro hn
          simp only [left]
          rw [ih (by omega), getD_in (by simp only [Array.size_replicate]; omega) (getD_replicate_false _ _)]
          rfl
      exact aux hd (by simpa using hle)
    have fin : ∀ (L : Array Bool) (a' : Act) (w' : World) (T' : Tg) (mask : Nat) (l : List Oper), DInv B (wrB B) (delE (dsts (ops.take hd)) s.env) s.m s.nt nt' R T { w with drawn := w.drawn + 1 } L a' w' T' → Cov L mask →
        exOps2 B ops l ⟨envI mask R ++ delE (dsts (ops.take hd)) s.env, memI mask s.m R, nt'⟩ K → wpList P ops.toArray Q l a' w' := by
      intro L a' w' T' mask l hinv hcov h
      have hall : ∀ r ∈ R, r ∈ R := fun r hr => hr
      refine exOps2_ok hB hN l _ a' w' T' (hinv.frv hcov hall) ?_ h
      have hsame : ∀ t b c, T' t = some b → T t = some c → c = b := by
        intro t b c e1 e2
        have := hinv.le _ _ e2
        rw [e1] at this
        exact (Option.some.inj this).symm
      refine ⟨Tg.le_trans hw1.le hinv.le, hinv.mok hcov hall, hinv.hi, by have := hw1.base; simp only; omega, ?_, ?_, ?_⟩
      · intro t b e1 e2
        cases hT : T t with
        | none => exact Nat.le_trans hw1.kp.size (hinv.newer t b hT e1)
        | some c => have := hsame t b c e1 hT; subst this; exact hw1.own t c hT e2
      · intro t b e1 e2
        cases hT : T t with
        | none =>
          exact absurd (hinv.low t hT (by have := hw1.base; omega)) (by rw [e1]; simp)
        | some c => have := hsame t b c e1 hT; subst this; exact hw1.old t c hT e2
      · exact hw1.kp.trans (Kp.of_below hinv.bel (fun _ => False)) fun _ _ h => h.elim
    have hD := dr_late (P := P) (wr := wrB B) (T0 := T) (w0 := { w with drawn := w.drawn + 1 }) (Q := Q) hB hbuilt he0 hO (fun L hL hdir j hj => hcovH L hL hdir j (allBits_ok hbits hj)) hpos hsz hoh (by simpa using hop) htl2
      (fun L a' w' T' hinv hcov => fin L a' w' T' _ _ hinv hcov hA) (fun L a' w' T' hinv hcov => fin L a' w' T' _ _ hinv hcov hA2)
      ops.toArray.size (Array.replicate ops.toArray.size false) a { w with drawn := w.drawn + 1 } T (by rw [hleft, hsz]) (by simp)
      (fun j oj _ hl => by rw [getD_replicate_false] at hl; cases hl) (fun t _ ht' => getD_in (by simpa using ht') (getD_replicate_false _ _))
      ⟨Tg.le_refl T, hf.size, hf.defers, fun i v hi => hf.get i v (lkp_delE hi).1, fun r _ hl => (by rw [getD_replicate_false] at hl; cases hl), fun r _ hl => (by rw [getD_replicate_false] at hl; cases hl),
        fun r hr _ k _ => hw.free _ (by obtain ⟨_, _, _, _, _, _, h4⟩ := hbuilt.mem r hr; omega), fun t ht' => hw.free t (by omega), hw1.mok, Below.refl _ _, fun t b h1 h2 => (by rw [h1] at h2; cases h2), fun t h1 _ => h1⟩
    exact hD
  · exact h.elim

/-- The first pieces of code, which may return; then the rest. -/
theorem take_wp2 (hB : TbOk P B) : ∀ (n : Nat) (c : Code) (s : SS) (K : Xt → SS → Prop) (Q : Exit → Act → World → Prop) (a : Act) (w : World) (T : Tg), hasC n c = true → FrV T B.n a s.env → WV B T0 w0 T w s → PanicOk Q → exC2 B (takeC n c) s K → (∀ x, x ≠ .normal → Nx B T0 w0 (K x) (Q x.x)) → Nx B T0 w0 (K .normal) (fun a w => (dropC n c).wp P Q a w) → c.wp P Q a w
  | 0, c, s, K, Q, a, w, T, _, hf, hw, _, h, _, hN => hN s a w T hf hw h
  | n + 1, .seq x y, s, K, Q, a, w, T, hc, hf, hw, hP, h, hX, hN => by
    have h : exC2 B x s (fun e s' => match e with
      | .normal => exC2 B (takeC n y) s' K
      | e => K e s') := h
    refine wp_seq (exC2_ok hB x s _ _ a w T hf hw h (fun ch a d v w h => hP ch a d v w h) fun e s1 a1 w1 T1 hf1 hw1 h1 => ?_)
    cases e with
    | exit i => exact hX (.exit i) (fun h => by cases h) s1 a1 w1 T1 hf1 hw1 h1
    | ret => exact hX .ret (fun h => by cases h) s1 a1 w1 T1 hf1 hw1 h1
    | normal => exact take_wp2 hB n y s1 K Q a1 w1 T1 hc hf1 hw1 hP h1 hX hN

end
end Go.Proofs.Ytdaheccfeihpgaa.Nm

