import Derived.Test.YtdaheccfeihpgaaPa
import Derived.Test.YtdaheccfeihpgaaA
import Derived.Test.YtdaheccfeihpgaaT
/-
  A sum of points in bytes.
-/
/-
  The sum of two points of bytes: its run.
-/
namespace Go.Proofs.Ytdaheccfeihpgaa.Nm
open Go Go.RowKit

/-- The parts of a point's bytes. -/
def encP : Pt → List Pc
  | none => [.c (.lit .u8 0)]
  | some (x, y) => [.c (.lit .u8 4), .bt (bytesBE x.val), .bt (bytesBE y.val)]
abbrev SR := Option (Bool × Nat × Nat × Nat × Option (List Pc))
/-- What is told of a slice that is returned. -/
def slR (v : V) (m : Mem) : SR := match v with
  | .s (.sl t o n c) => some (Nat.ble 2 t, o, n, c, lkp m t)
  | _ => none

def ptT (x y : List Nat) (Kf : Prop) (Ks : F → F → Prop) : Prop :=
  (∀ hx : nBE x < pp, (∀ hy : nBE y < pp, (polyF ⟨nBE x, hx⟩ = ⟨nBE y, hy⟩ * ⟨nBE y, hy⟩ → Ks ⟨nBE x, hx⟩ ⟨nBE y, hy⟩) ∧ (¬ polyF ⟨nBE x, hx⟩ = ⟨nBE y, hy⟩ * ⟨nBE y, hy⟩ → Kf)) ∧ (¬ nBE y < pp → Kf)) ∧ (¬ nBE x < pp → Kf)
def farQ : List Pc := .c (.lit .u8 0) :: List.replicate 56 (.c (.lit .u8 0))
/-- The sum by three coordinates, each step under a name. -/
def paddQ (X1 Y1 Z1 X2 Y2 Z2 : F) (K : F → F → F → Prop) : Prop :=
  ∀ t0_1, t0_1 = X1 * X2 →
  ∀ t1_1, t1_1 = Y1 * Y2 →
  ∀ t2_1, t2_1 = Z1 * Z2 →
  ∀ t3_1, t3_1 = X1 + Y1 →
  ∀ t4_1, t4_1 = X2 + Y2 →
  ∀ t3_2, t3_2 = t3_1 * t4_1 →
  ∀ t4_2, t4_2 = t0_1 + t1_1 →
  ∀ t3_3, t3_3 = t3_2 - t4_2 →
  ∀ t4_3, t4_3 = Y1 + Z1 →
  ∀ x3_1, x3_1 = Y2 + Z2 →
  ∀ t4_4, t4_4 = t4_3 * x3_1 →
  ∀ x3_2, x3_2 = t1_1 + t2_1 →
  ∀ t4_5, t4_5 = t4_4 - x3_2 →
  ∀ x3_3, x3_3 = X1 + Z1 →
  ∀ y3_1, y3_1 = X2 + Z2 →
  ∀ x3_4, x3_4 = x3_3 * y3_1 →
  ∀ y3_2, y3_2 = t0_1 + t2_1 →
  ∀ y3_3, y3_3 = x3_4 - y3_2 →
  ∀ z3_1, z3_1 = cb * t2_1 →
  ∀ x3_5, x3_5 = y3_3 - z3_1 →
  ∀ z3_2, z3_2 = x3_5 + x3_5 →
  ∀ x3_6, x3_6 = x3_5 + z3_2 →
  ∀ z3_3, z3_3 = t1_1 - x3_6 →
  ∀ x3_7, x3_7 = t1_1 + x3_6 →
  ∀ y3_4, y3_4 = cb * y3_3 →
  ∀ t1_2, t1_2 = t2_1 + t2_1 →
  ∀ t2_2, t2_2 = t1_2 + t2_1 →
  ∀ y3_5, y3_5 = y3_4 - t2_2 →
  ∀ y3_6, y3_6 = y3_5 - t0_1 →
  ∀ t1_3, t1_3 = y3_6 + y3_6 →
  ∀ y3_7, y3_7 = t1_3 + y3_6 →
  ∀ t1_4, t1_4 = t0_1 + t0_1 →
  ∀ t0_2, t0_2 = t1_4 + t0_1 →
  ∀ t0_3, t0_3 = t0_2 - t2_2 →
  ∀ t1_5, t1_5 = t4_5 * y3_7 →
  ∀ t2_3, t2_3 = t0_3 * y3_7 →
  ∀ y3_8, y3_8 = x3_7 * z3_3 →
  ∀ y3_9, y3_9 = y3_8 + t2_3 →
  ∀ x3_8, x3_8 = t3_3 * x3_7 →
  ∀ x3_9, x3_9 = x3_8 - t1_5 →
  ∀ z3_4, z3_4 = t4_5 * z3_3 →
  ∀ t1_6, t1_6 = t3_3 * t0_3 →
  ∀ z3_5, z3_5 = z3_4 + t1_6 →
  K x3_9 y3_9 z3_5

def bytT (X Y Z : F) (G : SR → Prop) : Prop :=
  (Z = 0 → G (some (true, 0, 1, 57, some farQ))) ∧ (¬ Z = 0 → ∀ i, i = finv Z → ∀ a, a = X * i → ∀ b, b = Y * i → G (some (true, 0, 57, 57, some [.c (.lit .u8 4), .bt (bytesBE a.val), .bt (bytesBE b.val)])))

noncomputable abbrev smB : Code := Try.f26.body.getD .skip
noncomputable abbrev tbSm : Tb := tb Try.f26.ntmps 2 [] dsU0 ksU6 9

set_option maxRecDepth 100000 in
theorem run_sum_nn (c d : Nat) (G : SR → Prop) : exC2 tbSm smB ⟨entryV [.s (.sl 0 0 1 c), .s (.sl 1 0 1 d)] 0, [(0, encP none), (1, encP none)], 2⟩ (endK tbSm Try.f26.results.toList fun v m _ => G (slR v m)) =
    paddQ 0 1 0 0 1 0 fun X Y Z => bytT X Y Z G := by
  kernel_rfl
set_option maxRecDepth 100000 in
theorem run_sum_sn (x y : F) (c d : Nat) (G : SR → Prop) : exC2 tbSm smB ⟨entryV [.s (.sl 0 0 57 c), .s (.sl 1 0 1 d)] 0, [(0, encP (some (x, y))), (1, encP none)], 2⟩ (endK tbSm Try.f26.results.toList fun v m _ => G (slR v m)) =
    ptT (bytesBE x.val) (bytesBE y.val) (G none) (fun X Y => paddQ X Y 1 0 1 0 fun X Y Z => bytT X Y Z G) := by
  kernel_rfl
set_option maxRecDepth 100000 in
theorem run_sum_ns (x y : F) (c d : Nat) (G : SR → Prop) : exC2 tbSm smB ⟨entryV [.s (.sl 0 0 1 c), .s (.sl 1 0 57 d)] 0, [(0, encP none), (1, encP (some (x, y)))], 2⟩ (endK tbSm Try.f26.results.toList fun v m _ => G (slR v m)) =
    ptT (bytesBE x.val) (bytesBE y.val) (G none) (fun X Y => paddQ 0 1 0 X Y 1 fun X Y Z => bytT X Y Z G) := by
  kernel_rfl
set_option maxRecDepth 100000 in
theorem run_sum_ss (x y u v : F) (c d : Nat) (G : SR → Prop) : exC2 tbSm smB ⟨entryV [.s (.sl 0 0 57 c), .s (.sl 1 0 57 d)] 0, [(0, encP (some (x, y))), (1, encP (some (u, v)))], 2⟩ (endK tbSm Try.f26.results.toList fun v m _ => G (slR v m)) =
    ptT (bytesBE x.val) (bytesBE y.val) (ptT (bytesBE u.val) (bytesBE v.val) (G none) (fun _ _ => G none)) (fun X Y => ptT (bytesBE u.val) (bytesBE v.val) (G none) (fun U W => paddQ X Y 1 U W 1 fun X Y Z => bytT X Y Z G)) := by
  kernel_rfl

end Go.Proofs.Ytdaheccfeihpgaa.Nm

/-
  The sum of two points of bytes: the contract.
-/
namespace Go.Proofs.Ytdaheccfeihpgaa.Nm
open Go Go.RowKit

/-! ### Points and their bytes -/
def onP : Pt → Prop
  | none => True
  | some (x, y) => onc x y
def lenP : Pt → Nat
  | none => 1
  | some _ => 57
def trP : Pt → Tr
  | none => (0, 1, 0)
  | some (x, y) => (x, y, 1)
def encN : Pt → List Int
  | none => [0]
  | some (x, y) => 4 :: (((bytesBE x.val).map fun (b : Nat) => (b : Int)) ++ (((bytesBE y.val).map fun (b : Nat) => (b : Int)) ++ []))

theorem encP_nums (P : Pt) : numsP (encP P) = some (encN P) := by
  match P with
  | none => rfl
  | some (x, y) => rfl
theorem encP_goods (P : Pt) : goods (encP P) := by
  match P with
  | none => exact goods_cons.2 ⟨trivial, fun p hp => by cases hp⟩
  | some (x, y) => exact goods_cons.2 ⟨trivial, goods_cons.2 ⟨⟨bytesBE_length _, bytesBE_lt _⟩, goods_cons.2 ⟨⟨bytesBE_length _, bytesBE_lt _⟩, fun p hp => by cases hp⟩⟩⟩
theorem encN_length (P : Pt) : (encN P).length = lenP P := by
  match P with
  | none => rfl
  | some (x, y) => simp [encN, lenP, bytesBE_length]
theorem encP_numsOf (P : Pt) : numsOf (flat (encP P)) = some (encN P) := numsP_ok (encP_goods P) (encP_nums P)
theorem encP_noTag (P : Pt) : ∀ s ∈ flat (encP P), noTag s = true := numsOf_noTag (encP_numsOf P)

theorem cr_nums {T : Tg} : ∀ {l : List Sc} {ns : List Int}, numsOf l = some ns → (∀ n ∈ ns, 0 ≤ n ∧ n < 256) → CR T l (ns.map (Value.int .u8))
  | [], ns, h, _ => by cases h; exact .nil
  | s :: r, ns, h, hb => by
    unfold numsOf at h
    split at h
    · rename_i heq; cases heq
    · rename_i n r' heq
      cases heq
      obtain ⟨ms, hm, rfl⟩ := Option.map_eq_some_iff.1 h
      have := hb n (by simp)
      exact .cons ⟨rfl, by rw [IntKind.wrap_u8']; omega⟩ (cr_nums hm fun k hk => hb k (by simp [hk]))
    · rename_i n r' heq
      cases heq
      obtain ⟨ms, hm, rfl⟩ := Option.map_eq_some_iff.1 h
      have := hb n (by simp)
      exact .cons ⟨rfl, by rw [IntKind.wrap_u8']; omega⟩ (cr_nums hm fun k hk => hb k (by simp [hk]))
    · cases h

theorem nums_blk {T : Tg} {w : World} {i : Nat} {q q' : List Pc} {a : List Int} (h : BlockOk T w i q) (h1 : numsOf (flat q) = some a) (h2 : numsOf (flat q') = some a) (hg : goods q') : BlockOk T w i q' := by
  obtain ⟨b, c, ty, pre, xs, rest, g1, g2, g3, g4, g5⟩ := h
  have hxs := numsOf_ok g5.1 h1
  have hb := numsOf_byte g5.1 h1
  subst hxs
  exact ⟨b, c, ty, pre, _, rest, g1, g2, g3, g4, cr_nums h2 hb, hg⟩

/-- A slice of a point's bytes, under a name of one's own. -/
theorem enc_loc {wr : Nat → Bool} {T : Tg} {w : World} {m : Mem} (hm : MOk wr T w m) {u : V} {x : Value} {P : Pt} (hu : u.R T x) (h : rdBs m u = some (encN P)) :
    ∃ (b : Loc) (c : Nat), b.blk < w.heap.size ∧ x = .slice (some ⟨b.blk, b.off, none⟩) (lenP P) c ∧ ∀ T' i, T' i = some b → BlockOk T' w i (encP P) := by
  obtain ⟨b, q, c, hl, hn, _, _, rfl, hR⟩ := rdBs_ok hm hu h
  refine ⟨b, c, hl, by rw [encN_length], fun T' i hi => nums_blk (hR T' i hi) hn (encP_numsOf P) (encP_goods P)⟩

/-! ### The plain law -/
theorem paddQ_ok {X1 Y1 Z1 X2 Y2 Z2 : F} {K : F → F → F → Prop} (h : ∀ x y z, (x, y, z) = padd X1 Y1 Z1 X2 Y2 Z2 → K x y z) : paddQ X1 Y1 Z1 X2 Y2 Z2 K := by
  unfold paddQ
  intros
  apply h
  subst_vars
  rfl

theorem fin_mk {x : F} {h : nBE (bytesBE x.val) < pp} : (⟨nBE (bytesBE x.val), h⟩ : F) = x := Fin.ext (nBE_bytesBE (Nat.lt_trans x.isLt (by decide)))

theorem onc_polyF {x y : F} (h : onc x y) : polyF x = y * y := by
  unfold polyF
  rw [ring_3]
  exact h.symm

theorem ptT_ok {x y : F} {Kf : Prop} {Ks : F → F → Prop} (ho : onc x y) (h : Ks x y) : ptT (bytesBE x.val) (bytesBE y.val) Kf Ks := by
  have hx : nBE (bytesBE x.val) < pp := by rw [nBE_bytesBE (Nat.lt_trans x.isLt (by decide))]; exact x.isLt
  have hy : nBE (bytesBE y.val) < pp := by rw [nBE_bytesBE (Nat.lt_trans y.isLt (by decide))]; exact y.isLt
  refine ⟨fun _ => ⟨fun _ => ⟨fun _ => ?_, fun hn => ?_⟩, fun hn => absurd hy hn⟩, fun hn => absurd hx hn⟩
  · rw [fin_mk, fin_mk]; exact h
  · rw [fin_mk, fin_mk] at hn
    exact absurd (onc_polyF ho) hn

theorem bytT_ok {X Y Z : F} {R : Pt} {G : SR → Prop} (h : aff (X, Y, Z) = some R) (hG : ∀ r, G (some (true, 0, lenP R, 57, some (encP R ++ r)))) : bytT X Y Z G := by
  rcases aff_cases h with ⟨y, hy, ht, rfl⟩ | ⟨x, y, z, hz, hon, ht, rfl⟩
  · simp only [Prod.mk.injEq] at ht
    obtain ⟨rfl, rfl, rfl⟩ := ht
    exact ⟨fun _ => hG _, fun hn => absurd rfl hn⟩
  · simp only [Prod.mk.injEq] at ht
    obtain ⟨rfl, rfl, rfl⟩ := ht
    refine ⟨fun h0 => absurd h0 hz, fun _ i hi a ha b hb => ?_⟩
    have e1 : a = x := by rw [ha, hi, Fin.mul_assoc, mul_finv hz, Fin.mul_one]
    have e2 : b = y := by rw [hb, hi, Fin.mul_assoc, mul_finv hz, Fin.mul_one]
    subst e1 e2
    exact hG []

theorem trP_aff {P : Pt} (h : onP P) : aff (trP P) = some P := by
  match P, h with
  | none, _ => exact aff_far (by decide +kernel)
  | some (x, y), h =>
    have := aff_fin (x := x) (y := y) (z := 1) (by decide +kernel) h
    rw [Fin.mul_one, Fin.mul_one] at this
    exact this

theorem sum_aff {P Q : Pt} (hP : onP P) (hQ : onP Q) : aff (padd (trP P).1 (trP P).2.1 (trP P).2.2 (trP Q).1 (trP Q).2.1 (trP Q).2.2) = some (psum P Q) := aff_padd (trP_aff hP) (trP_aff hQ)

theorem aff_on {t : Tr} {P : Pt} (h : aff t = some P) : onP P := by
  rcases aff_cases h with ⟨y, hy, ht, rfl⟩ | ⟨x, y, z, hz, hon, ht, rfl⟩
  · trivial
  · exact hon
theorem psum_on {P Q : Pt} (hP : onP P) (hQ : onP Q) : onP (psum P Q) := aff_on (sum_aff hP hQ)

def sumG (R : Pt) (r : SR) : Prop := ∃ q, r = some (true, 0, lenP R, 57, some (encP R ++ q))

theorem sum_run {P Q : Pt} (hP : onP P) (hQ : onP Q) (c d : Nat) : exC2 tbSm smB ⟨entryV [.s (.sl 0 0 (lenP P) c), .s (.sl 1 0 (lenP Q) d)] 0, [(0, encP P), (1, encP Q)], 2⟩ (endK tbSm Try.f26.results.toList fun v m _ => sumG (psum P Q) (slR v m)) := by
  have ha := sum_aff hP hQ
  have key : ∀ x y z, (x, y, z) = padd (trP P).1 (trP P).2.1 (trP P).2.2 (trP Q).1 (trP Q).2.1 (trP Q).2.2 → bytT x y z (sumG (psum P Q)) := fun x y z h => bytT_ok (by rw [h]; exact ha) fun r => ⟨r, rfl⟩
  match P, Q, hP, hQ with
  | none, none, _, _ =>
    have e := run_sum_nn c d (sumG (psum none none))
    simp only [lenP]
    rw [e]
    exact paddQ_ok key
  | some (x, y), none, h, _ =>
    have e := run_sum_sn x y c d (sumG (psum (some (x, y)) none))
    simp only [lenP]
    rw [e]
    exact ptT_ok h (paddQ_ok key)
  | none, some (x, y), _, h =>
    have e := run_sum_ns x y c d (sumG (psum none (some (x, y))))
    simp only [lenP]
    rw [e]
    exact ptT_ok h (paddQ_ok key)
  | some (x, y), some (u, v), h, h' =>
    have e := run_sum_ss x y u v c d (sumG (psum (some (x, y)) (some (u, v))))
    simp only [lenP]
    rw [e]
    exact ptT_ok h (ptT_ok h' (paddQ_ok key))

/-! ### The contract -/
def kSm : KSpec where
  run := fun args m nt K => match args with
    | [a, b] => obind (rdBs m a) fun x => obind (rdBs m b) fun y => ∃ P Q : Pt, x = encN P ∧ y = encN Q ∧ onP P ∧ onP Q ∧
        (psum P Q = none → K (.s (.sl nt 0 1 57)) (addF m nt [encP none]) (nt + 1)) ∧ (∀ u v : F, psum P Q = some (u, v) → onc u v → K (.s (.sl nt 0 57 57)) (addF m nt [encP (some (u, v))]) (nt + 1))
    | _ => False
  outs := noOut

theorem slR_eq {v : V} {m : Mem} {n c : Nat} {q : List Pc} (h : slR v m = some (true, 0, n, c, some q)) : ∃ t, v = .s (.sl t 0 n c) ∧ 2 ≤ t ∧ lkp m t = some q := by
  unfold slR at h
  split at h
  · rename_i t o n' c'
    simp only [Option.some.injEq, Prod.mk.injEq] at h
    obtain ⟨h1, rfl, rfl, rfl, h2⟩ := h
    exact ⟨t, rfl, Nat.le_of_ble_eq_true h1, h2⟩
  · cases h

theorem kSm_ok : KSOk Try.prog 26 kSm where
  enter := enter_in Try.func26 (by kernel_rfl) (by kernel_rfl)
  run := by
    intro wr T w m nt args xs K h hm hx hfree hwr
    simp only [kSm] at h
    split at h
    · rename_i ua ub
      obtain ⟨ba, e1, h⟩ := obind_some h
      obtain ⟨bb, e2, h⟩ := obind_some h
      obtain ⟨P, Q, rfl, rfl, hP, hQ, hK⟩ := h
      obtain ⟨x1, x2, rfl, hv1, hv2⟩ := vsr2 hx
      obtain ⟨b1, c1, hl1, rfl, hR1⟩ := enc_loc hm hv1 e1
      obtain ⟨b2, c2, hl2, rfl, hR2⟩ := enc_loc hm hv2 e2
      refine (run_calls (B := tbSm) (tb_ok dsU0_ok ksU6_ok) Try.func26 (c := smB) (by kernel_rfl) (by kernel_rfl) (args := [.s (.sl 0 0 (lenP P) c1), .s (.sl 1 0 (lenP Q) c2)]) (Nat.le_of_ble_eq_true (by kernel_rfl)) (m := [(0, encP P), (1, encP Q)]) (mok_2n hl1 hl2 (fun i hi => no2 hi) (hR1 _ _ rfl) (hR2 _ _ rfl)) (vs2 (by rw [V.R]; exact ⟨b1, rfl, rfl⟩) (by rw [V.R]; exact ⟨b2, rfl, rfl⟩)) (fun i hi => tgs_none (show [b1, b2].length ≤ i from hi)) _ (sum_run hP hQ c1 c2)).mono fun e w' hh => ?_
      obtain ⟨y, T', v, m', nt', rfl, hL⟩ := hh
      obtain ⟨q, hq⟩ := hL.post
      obtain ⟨t, rfl, ht, hlk⟩ := slR_eq hq
      obtain ⟨b, hb, hy⟩ := vr_s hL.val
      have hT0 : tgs [b1, b2] t = none := tgs_none (show [b1, b2].length ≤ t from ht)
      obtain ⟨T'', g1, g2, g3, g4, g5⟩ := lift_new (q2 := encP (psum P Q)) hm (fun k _ => hfree (nt + k) (by omega)) hL rfl hT0 hb hlk (fun xs hxs => by
        obtain ⟨h1, h2⟩ := hxs
        rw [flat_append] at h1
        obtain ⟨ys, zs, rfl, a1, a2⟩ := h1.split
        exact ⟨ys, zs, rfl, a1.any (encP_noTag _), (goods_append.1 h2).1⟩)
      have hend : DEnd wr T w m nt (.s (.sl nt 0 (lenP (psum P Q)) 57)) [encP (psum P Q)] (.returned y) w' := ⟨T'', y, g1, rfl, by rw [V.R]; exact ⟨b, g2, hy⟩, g3, g4, g5⟩
      have hon := psum_on hP hQ
      cases hR : psum P Q with
      | none =>
        rw [hR] at hend
        exact KEnd.of hend hfree (hK.1 hR)
      | some r =>
        obtain ⟨u, v⟩ := r
        rw [hR] at hend hon
        exact KEnd.of hend hfree (hK.2 u v hR hon)
    · exact h.elim

end Go.Proofs.Ytdaheccfeihpgaa.Nm

