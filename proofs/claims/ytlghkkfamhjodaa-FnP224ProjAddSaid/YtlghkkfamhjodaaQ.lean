import Derived.Test.YtlghkkfamhjodaaP
/-
  Affine points of the specification.
-/
/-
  Points of the specification: the contract of 'affine'.
-/
namespace Go.Proofs.Ytlghkkfamhjodaa.Nm
open Go Go.RowKit
def dsA : List (Nat × DSpec) := (9, dOf) :: (13, dNumber) :: (14, dPrime) :: (16, dBelow) :: (20, dOn) :: dsX3
def ksA : List (Nat × KSpec) := [(18, kInvs)]
abbrev PN : Nat := 26959946667150639794667015087019630673557916260026308143510066298881
def ptZ (b : Bool) : V := .agg [.c (.bl b), .c .snil, .c .snil]
def ptS (s t c d : Nat) : V := .agg [.c (.bl false), .c (.sl s 0 7 c), .c (.sl t 0 7 d)]
def affL (x y z : Nat) (K : V → Option (List Pc) → Option (List Pc) → Prop) : Prop :=
  ((!decide (x < PN)) = false → (((!decide (y < PN)) = false → ((!decide (z < PN)) = true → K (.tup [ptZ false, .s (.bl false)]) none none) ∧ ((!decide (z < PN)) = false →
     ((decide (z = 0) = true → (decide (x = 0) = true → K (.tup [ptZ true, .s (.bs (!decide (y = 0)))]) none none) ∧ (decide (x = 0) = !true → K (.tup [ptZ true, .s (.bl false)]) none none)) ∧
      (decide (z = 0) = false → ∀ r : Nat, r = z ^ 26959946667150639794667015087019630673557916260026308143510066298879 % PN → K (.tup [ptS 10 11 14 14, .s (.bs (decide (timesN (timesN y r) (timesN y r) = rightN (timesN x r))))]) (some [.w7 (timesN x r)]) (some [.w7 (timesN y r)]))))) ∧
    ((!decide (y < PN)) = !false → K (.tup [ptZ false, .s (.bl false)]) none none))) ∧
  ((!decide (x < PN)) = !false → K (.tup [ptZ false, .s (.bl false)]) none none)
set_option maxRecDepth 100000 in
theorem run_aff (x y z : List Nat) (G : V → Option (List Pc) → Option (List Pc) → Prop) : exC2 (tb Try.f6.ntmps 0 [] dsA ksA 9) (Try.f6.body.getD .skip) ⟨entryV [.agg [.bt x, .bt y, .bt z]] 0, [], 0⟩ (endK (tb Try.f6.ntmps 0 [] dsA ksA 9) Try.f6.results.toList fun v m _ => G v (lkp m 10) (lkp m 11)) =
   affL (nBE x) (nBE y) (nBE z) G := by kernel_rfl

theorem dsA_ok : ∀ f sp, lkp dsA f = some sp → DSOk Try.prog f sp := by
  intro f sp h
  rcases lkp_cons h with ⟨rfl, rfl⟩ | h
  · exact dOf_ok
  rcases lkp_cons h with ⟨rfl, rfl⟩ | h
  · exact dNumber_ok
  rcases lkp_cons h with ⟨rfl, rfl⟩ | h
  · exact dPrime_ok
  rcases lkp_cons h with ⟨rfl, rfl⟩ | h
  · exact dBelow_ok
  rcases lkp_cons h with ⟨rfl, rfl⟩ | h
  · exact dOn_ok
  · exact dsX3_ok f sp h
theorem ksA_ok : ∀ f sp, lkp ksA f = some sp → KSOk Try.prog f sp := by
  intro f sp h
  rcases lkp_cons h with ⟨rfl, rfl⟩ | h
  · exact kInvs_ok
  · exact (lkp_nil h).elim

/-! ### The field behind the numbers -/
theorem pp224 : p224 = PN := rfl
theorem v_times (a b : F) : timesN a.val b.val = (a * b).val := by rw [Fin.val_mul]; rfl
theorem v_plus (a b : F) : plusN a.val b.val = (a + b).val := by rw [Fin.val_add]; rfl
theorem v_minus (a b : F) : minusN a.val b.val = (a - b).val := by
  have ha : a.val < PN := a.isLt
  have hb : b.val < PN := b.isLt
  rw [Fin.sub_def]
  show minusN a.val b.val = (p224 - b.val + a.val) % p224
  unfold minusN
  show (a.val + 53919893334301279589334030174039261347115832520052616287020132597762 - b.val) % PN = (PN - b.val + a.val) % PN
  unfold PN at *
  omega
theorem v_three : (3 : F).val = 3 := by decide +kernel
theorem v_cb : bN = cb.val := by decide +kernel
theorem v_right (x : F) : rightN x.val = (x * x * x - 3 * x + cb).val := by
  unfold rightN
  have h3 : timesN 3 x.val = (3 * x).val := by rw [← v_three, v_times]
  rw [v_times, v_times, h3, v_minus, v_cb, v_plus]
theorem v_invA (z : F) (n : Nat) : z.val ^ n % PN = (fpow z n).val := by
  rw [fpow_val]
  rfl
theorem v_inv (z : F) : z.val ^ 26959946667150639794667015087019630673557916260026308143510066298879 % PN = (finv z).val := v_invA z 26959946667150639794667015087019630673557916260026308143510066298879

/-- The point of three numbers, if they are those of one. -/
def affOf (x y z : Nat) : Option Pt := if h : x < pp ∧ y < pp ∧ z < pp then aff (⟨x, h.1⟩, ⟨y, h.2.1⟩, ⟨z, h.2.2⟩) else none

theorem affOf_F (X Y Z : F) : affOf X.val Y.val Z.val = aff (X, Y, Z) := by
  unfold affOf
  rw [dif_pos ⟨X.isLt, Y.isLt, Z.isLt⟩]

/-- What 'affine' tells of three numbers. -/
def affP (o : Option Pt) (s : Sc) (pt : V) (q1 q2 : Option (List Pc)) : Prop :=
  (o = none ∧ (∀ T x, s.R T x → x = .bool false) ∧ (pt = ptZ false ∨ pt = ptZ true ∨ ∃ a b : Nat, pt = ptS 10 11 14 14 ∧ q1 = some [.w7 a] ∧ q2 = some [.w7 b])) ∨
  (o = some none ∧ (∀ T x, s.R T x → x = .bool true) ∧ pt = ptZ true) ∨
  (∃ u v : F, o = some (some (u, v)) ∧ (∀ T x, s.R T x → x = .bool true) ∧ pt = ptS 10 11 14 14 ∧ q1 = some [.w7 u.val] ∧ q2 = some [.w7 v.val])

theorem affL_ok {x y z : Nat} {K : V → Option (List Pc) → Option (List Pc) → Prop} (hK : ∀ s pt q1 q2, affP (affOf x y z) s pt q1 q2 → K (.tup [pt, .s s]) q1 q2) : affL x y z K := by
  have hpp : pp = PN := rfl
  have hfail : affOf x y z = none → K (.tup [ptZ false, .s (.bl false)]) none none := fun h => hK _ _ _ _ (.inl ⟨h, fun T x h => h, .inl rfl⟩)
  by_cases hx : x < PN
  · by_cases hy : y < PN
    · by_cases hz : z < PN
      · obtain ⟨X, rfl⟩ : ∃ X : F, X.val = x := ⟨⟨x, hx⟩, rfl⟩
        obtain ⟨Y, rfl⟩ : ∃ Y : F, Y.val = y := ⟨⟨y, hy⟩, rfl⟩
        obtain ⟨Z, rfl⟩ : ∃ Z : F, Z.val = z := ⟨⟨z, hz⟩, rfl⟩
        rw [affOf_F] at hK hfail
        have v0 : ∀ A : F, A.val = 0 ↔ A = 0 := fun A => ⟨fun h => Fin.ext (by rw [h, fval_zero]), fun h => by rw [h, fval_zero]⟩
        refine ⟨fun _ => ⟨fun _ => ⟨fun h => absurd h (by rw [decide_eq_true hz]; simp), fun _ => ⟨fun h0 => ?_, fun h0 r hr => ?_⟩⟩, fun h => absurd h (by rw [decide_eq_true hy]; simp)⟩, fun h => absurd h (by rw [decide_eq_true hx]; simp)⟩
        · have hZ : Z = 0 := (v0 Z).1 (of_decide_eq_true h0)
          subst hZ
          refine ⟨fun h1 => ?_, fun h1 => ?_⟩
          · have hX : X = 0 := (v0 X).1 (of_decide_eq_true h1)
            subst hX
            by_cases hY : Y = 0
            · refine hK _ _ _ _ (.inl ⟨?_, fun T x h => ?_, .inr (.inl rfl)⟩)
              · simp [aff, hY]
              · have h : x = .bool (!decide (Y.val = 0)) := h
                rw [h, decide_eq_true ((v0 Y).2 hY)]; rfl
            · refine hK _ _ _ _ (.inr (.inl ⟨?_, fun T x h => ?_, rfl⟩))
              · simp [aff, hY]
              · have h : x = .bool (!decide (Y.val = 0)) := h
                rw [h, decide_eq_false (fun e => hY ((v0 Y).1 e))]; rfl
          · have hX : X ≠ 0 := fun e => by
              rw [decide_eq_true ((v0 X).2 e)] at h1
              cases h1
            exact hK _ _ _ _ (.inl ⟨by simp [aff, hX], fun T x h => h, .inr (.inl rfl)⟩)
        · have hZ : Z ≠ 0 := fun e => by
            rw [decide_eq_true ((v0 Z).2 e)] at h0
            cases h0
          have hr' : r = (finv Z).val := Eq.trans hr (v_inv Z)
          clear hr
          rw [hr', v_times, v_times, v_times, v_right]
          clear hr'
          by_cases hon : Y * finv Z * (Y * finv Z) = X * finv Z * (X * finv Z) * (X * finv Z) - 3 * (X * finv Z) + cb
          · refine hK _ _ _ _ (.inr (.inr ⟨X * finv Z, Y * finv Z, ?_, fun T x h => ?_, rfl, rfl, rfl⟩))
            · simp only [aff]
              rw [if_neg hZ, if_pos hon]
            · have h : x = .bool (decide _) := h
              rw [h, hon, decide_eq_true rfl]
          · refine hK _ _ _ _ (.inl ⟨?_, fun T x h => ?_, .inr (.inr ⟨_, _, rfl, rfl, rfl⟩)⟩)
            · simp only [aff]
              rw [if_neg hZ, if_neg hon]
            · have h : x = .bool (decide _) := h
              rw [h, decide_eq_false (fun e => hon (Fin.ext e))]
      · have hn : affOf x y z = none := by unfold affOf; rw [dif_neg (fun h => hz h.2.2)]
        refine ⟨fun _ => ⟨fun _ => ⟨fun _ => hfail hn, fun h => absurd h (by rw [decide_eq_false hz]; simp)⟩, fun _ => hfail hn⟩, fun _ => hfail hn⟩
    · have hn : affOf x y z = none := by unfold affOf; rw [dif_neg (fun h => hy h.2.1)]
      refine ⟨fun _ => ⟨fun h => absurd h (by rw [decide_eq_false hy]; simp), fun _ => hfail hn⟩, fun _ => hfail hn⟩
  · have hn : affOf x y z = none := by unfold affOf; rw [dif_neg (fun h => hx h.1)]
    exact ⟨fun h => absurd h (by rw [decide_eq_false hx]; simp), fun _ => hfail hn⟩

end Go.Proofs.Ytlghkkfamhjodaa.Nm

/-
  Points of the specification: the contract of 'affine' (end).
-/
namespace Go.Proofs.Ytlghkkfamhjodaa.Nm
open Go Go.RowKit

theorem MOk.addBlk {wr : Nat → Bool} {T : Tg} {w : World} {m : Mem} {t : Nat} {b : Loc} {l : List Pc} (h : MOk wr T w m) (ht : T t = none) (hlt : b.blk < w.heap.size) (hne : ∀ t' b', T t' = some b' → b'.blk ≠ b.blk) (hb : BlockOk (T.add t b) w t l) : MOk wr (T.add t b) w ((t, l) :: m) := by
  have h2 := h.addTag ht hlt hne
  refine ⟨h2.sep, h2.lt, fun i l' hi => ?_⟩
  rcases lkp_cons hi with ⟨rfl, rfl⟩ | hi
  · exact hb
  · exact h2.at_ i l' hi

section
variable {B : Tb} {wr : Nat → Bool} {T T0 T' : Tg} {w w' : World} {m m' : Mem} {nt nt' : Nat} {K : V → Mem → Nat → Prop} {y : Value} {v : V}

theorem lift_two (hm : MOk wr T w m) (hfr : Free T nt 2) (hL : Left B T0 w w' K y T' v m' nt') (houts : B.outs = []) {i j : Nat} {b1 b2 : Loc} {q1 q2 : List Pc} (hij : i ≠ j) (hwi : wrB B i = true) (hi0 : T0 i = none) (hj0 : T0 j = none) (hb1 : T' i = some b1) (hb2 : T' j = some b2) (hm1 : lkp m' i = some q1) (hm2 : lkp m' j = some q2) (hn1 : ∀ s ∈ flat q1, noTag s = true) (hn2 : ∀ s ∈ flat q2, noTag s = true) :
    ∃ T'', OnlyNew T T'' nt 2 ∧ T'' nt = some b1 ∧ T'' (nt + 1) = some b2 ∧ MOk wr T'' w' (addF m nt [q1, q2]) ∧ Below w.heap.size w w' ∧ Newer T T'' w := by
  have h0 : T nt = none := by have := hfr 0 (by omega); rwa [Nat.add_zero] at this
  have h1 : T (nt + 1) = none := hfr 1 (by omega)
  have hbel := left_below hL houts
  have hg1 := hL.newer i b1 hi0 hb1
  have hg2 := hL.newer j b2 hj0 hb2
  have hne12 : b1.blk ≠ b2.blk := fun e => hij (hL.mok.sep i j b1 b2 hwi hb1 hb2 e)
  have hmw := hm.grow hbel
  have hT1 : (T.add nt b1) (nt + 1) = none := by
    unfold Tg.add
    cases he : Nat.beq nt (nt + 1) with
    | true => have := Nat.eq_of_beq_eq_true he; omega
    | false => exact h1
  obtain ⟨b1', c1, ty1, pre1, xs1, rest1, g1, g2, g3, g4, g5⟩ := hL.mok.at_ i q1 hm1
  rw [hb1] at g1; cases g1
  obtain ⟨b2', c2, ty2, pre2, xs2, rest2, k1, k2, k3, k4, k5⟩ := hL.mok.at_ j q2 hm2
  rw [hb2] at k1; cases k1
  have hA : MOk wr (T.add nt b1) w' ((nt, q1) :: m) := hmw.addBlk h0 (hL.mok.lt i b1 hb1) (fun t' b' hb' e => by have := hm.lt t' b' hb'; omega) ⟨b1, c1, ty1, pre1, xs1, rest1, Tg.add_same _ _ _, g2, g3, g4, g5.1.any hn1, g5.2⟩
  have hB : MOk wr ((T.add nt b1).add (nt + 1) b2) w' ((nt + 1, q2) :: (nt, q1) :: m) := hA.addBlk hT1 (hL.mok.lt j b2 hb2) (fun t' b' hb' e => by
    rcases Tg.add_cases hb' with ⟨_, rfl⟩ | ⟨_, hb'⟩
    · exact hne12 e
    · have := hm.lt t' b' hb'; omega) ⟨b2, c2, ty2, pre2, xs2, rest2, Tg.add_same _ _ _, k2, k3, k4, k5.1.any hn2, k5.2⟩
  refine ⟨(T.add nt b1).add (nt + 1) b2, ⟨Tg.le_trans (Tg.le_add h0 _) (Tg.le_add hT1 _), fun t ht hr => ?_⟩, (Tg.le_add hT1 b2) nt b1 (Tg.add_same _ _ _), Tg.add_same _ _ _, hB, hbel, fun t b e1 e2 => ?_⟩
  · unfold Tg.add
    cases he : Nat.beq (nt + 1) t with
    | true => have := Nat.eq_of_beq_eq_true he; omega
    | false =>
      cases he2 : Nat.beq nt t with
      | true => have := Nat.eq_of_beq_eq_true he2; omega
      | false => exact ht
  · rcases Tg.add_cases e2 with ⟨_, rfl⟩ | ⟨_, e2⟩
    · exact hg2
    · rcases Tg.add_cases e2 with ⟨_, rfl⟩ | ⟨_, e2⟩
      · exact hg1
      · rw [e1] at e2; cases e2
end

theorem ptZ_R {T T' : Tg} {b : Bool} {x : Value} (h : (ptZ b).R T' x) : (ptZ b).R T x := by
  unfold ptZ at h ⊢
  rw [V.R] at h ⊢
  obtain ⟨xs, rfl, h1, h2⟩ := h
  exact ⟨xs, rfl, h1.any (plain_ok rfl), h2⟩

theorem ptS_R {T T' : Tg} {s t s' t' c d : Nat} {b1 b2 : Loc} {x : Value} (h : (ptS s t c d).R T' x) (h1 : T' s = some b1) (h2 : T' t = some b2) (g1 : T s' = some b1) (g2 : T t' = some b2) : (ptS s' t' c d).R T x := by
  unfold ptS at h ⊢
  rw [V.R] at h ⊢
  obtain ⟨xs, rfl, hc, hg⟩ := h
  simp only [flat, Pc.cells, List.cons_append, List.nil_append] at hc
  cases hc with
  | cons a1 hc =>
  cases hc with
  | cons a2 hc =>
  cases hc with
  | cons a3 hc =>
  cases hc
  obtain ⟨c1, e1, rfl⟩ := a2
  obtain ⟨c2, e2, rfl⟩ := a3
  rw [h1] at e1; cases e1
  rw [h2] at e2; cases e2
  refine ⟨_, rfl, .cons a1 (.cons ⟨_, g1, rfl⟩ (.cons ⟨_, g2, rfl⟩ .nil)), ?_⟩
  intro p hp
  simp only [List.mem_cons, List.not_mem_nil, or_false] at hp
  rcases hp with rfl | rfl | rfl <;> trivial

theorem agg3_R {T T' : Tg} {x y z : List Nat} {v : Value} (h : (V.agg [.bt x, .bt y, .bt z]).R T v) : (V.agg [.bt x, .bt y, .bt z]).R T' v := by
  rw [V.R] at h ⊢
  obtain ⟨xs, rfl, h1, h2⟩ := h
  refine ⟨xs, rfl, h1.any (fun s hs => ?_), h2⟩
  have e : flat [Pc.bt x, .bt y, .bt z] = flat [.bt x] ++ (flat [.bt y] ++ flat [.bt z]) := by simp [flat]
  rw [e] at hs
  simp only [List.mem_append] at hs
  rcases hs with hs | hs | hs
  · exact bt_noTag _ s hs
  · exact bt_noTag _ s hs
  · exact bt_noTag _ s hs

/-- Three coordinates: those of a point, or not. -/
def kAff : KSpec where
  run := fun args m nt K => match args with
    | [.agg [.bt x, .bt y, .bt z]] =>
      (affOf (nBE x) (nBE y) (nBE z) = none → K (.tup [ptZ false, .s (.bl false)]) m nt ∧ K (.tup [ptZ true, .s (.bl false)]) m nt ∧ ∀ a b : Nat, K (.tup [ptS nt (nt + 1) 14 14, .s (.bl false)]) (addF m nt [[.w7 a], [.w7 b]]) (nt + 2)) ∧
      (affOf (nBE x) (nBE y) (nBE z) = some none → K (.tup [ptZ true, .s (.bl true)]) m nt) ∧
      (∀ u v : F, affOf (nBE x) (nBE y) (nBE z) = some (some (u, v)) → K (.tup [ptS nt (nt + 1) 14 14, .s (.bl true)]) (addF m nt [[.w7 u.val], [.w7 v.val]]) (nt + 2))
    | _ => False
  outs := noOut

theorem kAff_ok : KSOk Try.prog 6 kAff where
  enter := enter_in Try.func6 (by kernel_rfl) (by kernel_rfl)
  run := by
    intro wr T w m nt args xs K h hm hx hfree hwr
    simp only [kAff] at h
    split at h
    · rename_i x y z
      obtain ⟨x1, rfl, hv⟩ := vsr1 hx
      refine (run_calls (B := tb Try.f6.ntmps 0 [] dsA ksA 9) (tb_ok dsA_ok ksA_ok) Try.func6 (c := Try.f6.body.getD .skip) (by kernel_rfl) (by kernel_rfl) (args := [.agg [.bt x, .bt y, .bt z]]) (Nat.le_of_ble_eq_true (by kernel_rfl)) mok_nil (vs1 (agg3_R hv)) (fun i _ => rfl)
        (fun v m' _ => ∃ s pt, v = .tup [pt, .s s] ∧ affP (affOf (nBE x) (nBE y) (nBE z)) s pt (lkp m' 10) (lkp m' 11))
        (Eq.mpr (run_aff x y z (fun v q1 q2 => ∃ s pt, v = .tup [pt, .s s] ∧ affP (affOf (nBE x) (nBE y) (nBE z)) s pt q1 q2)) (affL_ok fun s pt q1 q2 hp => ⟨s, pt, rfl, hp⟩))).mono fun e w' hh => ?_
      obtain ⟨y1, T', v, m', nt', rfl, hL⟩ := hh
      obtain ⟨s, pt, rfl, hp⟩ := hL.post
      have hval := hL.val
      rw [V.R] at hval
      obtain ⟨ys, rfl, hys⟩ := hval
      obtain ⟨z1, z2, rfl, hz1, hz2⟩ := vsr2 hys
      have hz2 := vr_s hz2
      obtain ⟨n1, n2, n3, n4⟩ := lift_none (nt := nt) hm hL rfl
      have same : ∀ (b c : Bool), pt = ptZ b → z2 = .bool c → K (.tup [ptZ b, .s (.bl c)]) m nt → KEnd wr T w nt (noOut [.agg [.bt x, .bt y, .bt z]] m) K (.returned (.tuple [z1, z2].toArray)) w' := by
        intro b c e1 e2 hK
        refine KEnd.of (fr := []) ⟨T, _, n1, rfl, ?_, n2, n3, n4⟩ hfree hK
        rw [V.R]
        exact ⟨_, rfl, vs2 (ptZ_R (e1 ▸ hz1)) (by rw [V.R]; exact e2)⟩
      have two : ∀ (c : Bool) (a b : Nat), pt = ptS 10 11 14 14 → lkp m' 10 = some [.w7 a] → lkp m' 11 = some [.w7 b] → z2 = .bool c → K (.tup [ptS nt (nt + 1) 14 14, .s (.bl c)]) (addF m nt [[.w7 a], [.w7 b]]) (nt + 2) → KEnd wr T w nt (noOut [.agg [.bt x, .bt y, .bt z]] m) K (.returned (.tuple [z1, z2].toArray)) w' := by
        intro c a b e1 q1 q2 e2 hK
        subst e1
        have hz1' := hz1
        unfold ptS at hz1'
        rw [V.R] at hz1'
        obtain ⟨zs, _, hc, _⟩ := hz1'
        simp only [flat, Pc.cells, List.cons_append, List.nil_append] at hc
        cases hc with
        | cons a1 hc =>
        cases hc with
        | cons a2 hc =>
        cases hc with
        | cons a3 hc =>
        obtain ⟨b1, hb1, _⟩ := a2
        obtain ⟨b2, hb2, _⟩ := a3
        obtain ⟨T'', g1, g2, g3, g4, g5, g6⟩ := lift_two hm (fun k _ => hfree (nt + k) (by omega)) hL rfl (i := 10) (j := 11) (by omega) rfl rfl rfl hb1 hb2 q1 q2 (w7_plain a) (w7_plain b)
        refine KEnd.of (fr := [[.w7 a], [.w7 b]]) ⟨T'', _, g1, rfl, ?_, g4, g5, g6⟩ hfree hK
        rw [V.R]
        exact ⟨_, rfl, vs2 (ptS_R hz1 hb1 hb2 g2 g3) (by rw [V.R]; exact e2)⟩
      rcases hp with ⟨ho, hs, hpt⟩ | ⟨ho, hs, rfl⟩ | ⟨u, v, ho, hs, rfl, q1, q2⟩
      · have e2 := hs _ _ hz2
        rcases hpt with rfl | rfl | ⟨a, b, e, q1, q2⟩
        · exact same _ _ rfl e2 (h.1 ho).1
        · exact same _ _ rfl e2 (h.1 ho).2.1
        · exact two _ a b e q1 q2 e2 ((h.1 ho).2.2 a b)
      · exact same _ _ rfl (hs _ _ hz2) (h.2.1 ho)
      · exact two _ _ _ rfl q1 q2 (hs _ _ hz2) (h.2.2 u v ho)
    · exact h.elim

end Go.Proofs.Ytlghkkfamhjodaa.Nm

/-
  The sum of the specification's points: its run.
-/
namespace Go.Proofs.Ytlghkkfamhjodaa.Nm
open Go Go.RowKit

/-- The inverse, as a function that the run does not look into. -/
def dInvs (iv : Nat → Nat) : DSpec := fun args m nt => match args with
  | [c, x] => match cvT c, rdW7 m x with
    | some tf, some a => bif fdOk m tf then some (.s (.sl nt 0 7 14), [[.w7 (iv a)]]) else none
    | _, _ => none
  | _ => none

def IvOk (iv : Nat → Nat) : Prop := ∀ x, iv x = x ^ 26959946667150639794667015087019630673557916260026308143510066298879 % 26959946667150639794667015087019630673557916260026308143510066298881

theorem dInvs_ok {iv : Nat → Nat} (hiv : IvOk iv) : DSOk Try.prog 18 (dInvs iv) where
  enter := enter_in Try.func18 (by kernel_rfl) (by kernel_rfl)
  run := by
    intro wr T w m nt args xs v fr h hm hx hfr
    simp only [dInvs] at h
    split at h
    · rename_i c u
      split at h
      · rename_i tf x hcv e1
        cases hfd : fdOk m tf with
        | false => rw [hfd] at h; cases h
        | true =>
        rw [hfd] at h
        simp only [cond_true, Option.some.injEq, Prod.mk.injEq] at h
        obtain ⟨rfl, rfl⟩ := h
        obtain ⟨x1, x2, rfl, hv0, hv1⟩ := vsr2 hx
        rw [cvT_eq hcv] at hv0
        obtain ⟨bf, hbf, hRf⟩ := cv_R hv0
        obtain ⟨hx1, b1, c1, rfl, hl1, hR1⟩ := rdW7_ok hm hv1 e1
        obtain ⟨k1, k2⟩ := hR1 (tgs [⟨b1.blk, b1.off, 0⟩, ⟨bf.blk, bf.off, 0⟩]) 0 0 rfl
        refine new_calls (B := tb Try.f18.ntmps 2 [] dsI ksV 9) (c := Try.f18.body.getD .skip) (tb_ok dsI_ok ksV_ok) Try.func18 (by kernel_rfl) (by kernel_rfl) (args := [cv 1, .s (.sl 0 0 7 c1)]) (Nat.le_of_ble_eq_true (by kernel_rfl)) (mok_un (b1 := ⟨b1.blk, b1.off, 0⟩) (b3 := ⟨bf.blk, bf.off, 0⟩) hl1 (hm.lt tf bf hbf) (fun i hi => by
            have hcs : i = 0 ∨ i = 1 := by omega
            rcases hcs with rfl | rfl <;> rfl) k1 (fd_ok hm hfd hbf (f := 0) rfl)) (vs2 (hRf _ 1 0 rfl) k2) (fun i hi => tgs_none (show 2 ≤ i from hi)) rfl hm hfr 7 14 _ 4 (by decide)
          (Eq.mpr (run_inv2 x c1 _) (invL_ok fun r hr => ?_))
        have hr' : r = iv x := hr.trans (hiv x).symm
        have hlt : r < 26959946667150639794667015087019630673637144422540572481103610249216 := by
          have := Nat.mod_lt (x ^ 26959946667150639794667015087019630673557916260026308143510066298879) (show 0 < 26959946667150639794667015087019630673557916260026308143510066298881 by omega)
          rw [← hr] at this
          omega
        clear hr
        rw [← hr']
        exact new_w7 hlt
      · cases h
    · cases h

def dsU (iv : Nat → Nat) : List (Nat × DSpec) := (18, dInvs iv) :: dsA
theorem dsU_ok {iv : Nat → Nat} (hiv : IvOk iv) : ∀ f sp, lkp (dsU iv) f = some sp → DSOk Try.prog f sp := by
  intro f sp h
  rcases lkp_cons h with ⟨rfl, rfl⟩ | h
  · exact dInvs_ok hiv
  · exact dsA_ok f sp h

def sX (s x1 x2 : Nat) : Nat := minusN (minusN (timesN s s) x1) x2
def sY (s x1 y1 x : Nat) : Nat := minusN (timesN s (minusN x1 x)) y1
def slC (iv : Nat → Nat) (x1 y1 x2 y2 : Nat) : Nat := timesN (minusN y2 y1) (iv (minusN x2 x1))
def slTn (iv : Nat → Nat) (x y : Nat) : Nat := timesN (minusN (timesN 3 (timesN x x)) 3) (iv (plusN y y))

/-- The numbers behind a point. -/
def ptM (m : Mem) : V → Option (List Pc) × Option (List Pc)
  | .agg [_, .c (.sl s _ _ _), .c (.sl t _ _ _)] => (lkp m s, lkp m t)
  | _ => (none, none)
def ww2 (a b : Nat) : Option (List Pc) × Option (List Pc) := (some [.w7 a], some [.w7 b])

def sumL (iv : Nat → Nat) (x1 y1 x2 y2 : Nat) (H : V → Option (List Pc) × Option (List Pc) → Prop) : Prop :=
  ((!decide (x1 = x2)) = true → H (ptS 16 19 7 7) (ww2 (sX (slC iv x1 y1 x2 y2) x1 x2) (sY (slC iv x1 y1 x2 y2) x1 y1 (sX (slC iv x1 y1 x2 y2) x1 x2)))) ∧
  ((!decide (x1 = x2)) = false → ((!decide (y1 = y2)) = true → H (ptZ true) (none, none)) ∧ ((!decide (y1 = y2)) = false → ((decide (y1 = 0) = true → H (ptZ true) (none, none)) ∧
      (decide (y1 = 0) = false → H (ptS 21 24 7 7) (ww2 (sX (slTn iv x1 y1) x1 x2) (sY (slTn iv x1 y1) x1 y1 (sX (slTn iv x1 y1) x1 x2)))))))

def memU (x1 y1 x2 y2 : Nat) : Mem := [(0, [.w7 x1]), (1, [.w7 y1]), (2, [.w7 x2]), (3, [.w7 y2]), (4, foldsC)]

end Go.Proofs.Ytlghkkfamhjodaa.Nm

/-
  Are three coordinates those of a point: the contract.
-/
namespace Go.Proofs.Ytlghkkfamhjodaa.Nm
open Go Go.RowKit

/-- The three ways of three coordinates. -/
def affC (x y z : List Nat) (Kn Kfar : Prop) (Kfin : F → F → Prop) : Prop :=
  (affOf (nBE x) (nBE y) (nBE z) = none → Kn ∧ Kn ∧ ∀ _ _ : Nat, Kn) ∧ (affOf (nBE x) (nBE y) (nBE z) = some none → Kfar) ∧ (∀ u v : F, affOf (nBE x) (nBE y) (nBE z) = some (some (u, v)) → Kfin u v)

def tbS0 : Tb := tb 0 0 [] [(17, dSame)] [] 9
theorem tbS0_ok : TbOk Try.prog tbS0 := tb_ok (by
  intro f sp h
  rcases lkp_cons h with ⟨rfl, rfl⟩ | h
  · exact dSame_ok
  · exact (lkp_nil h).elim) ks_nil
def ksIs : List (Nat × KSpec) := [(6, kAff), (25, inl tbS0 Try.f25 noOut)]
theorem ksIs_ok : ∀ f sp, lkp ksIs f = some sp → KSOk Try.prog f sp := by
  intro f sp h
  rcases lkp_cons h with ⟨rfl, rfl⟩ | h
  · exact kAff_ok
  rcases lkp_cons h with ⟨rfl, rfl⟩ | h
  · exact inl_ok tbS0_ok Try.func25 (by kernel_rfl) (enter_in Try.func25 (by kernel_rfl) (by kernel_rfl)) _
  · exact (lkp_nil h).elim

set_option maxRecDepth 100000 in
theorem run_is_far (x y z : List Nat) (H : V → Prop) :
    exC2 (tb Try.f8.ntmps 0 [] [] ksIs 9) (Try.f8.body.getD .skip) ⟨entryV [.agg [.bt x, .bt y, .bt z], ptZ true] 0, [], 0⟩ (endK (tb Try.f8.ntmps 0 [] [] ksIs 9) Try.f8.results.toList fun v _ _ => H v) =
    affC x y z (H (.s (.bl false))) (H (.s (.bl true))) (fun _ _ => H (.s (.bl false))) := by
  kernel_rfl

set_option maxRecDepth 100000 in
theorem run_is_fin (x y z : List Nat) (u v c d : Nat) (H : V → Prop) :
    exC2 (tb Try.f8.ntmps 2 [] [] ksIs 9) (Try.f8.body.getD .skip) ⟨entryV [.agg [.bt x, .bt y, .bt z], ptS 0 1 c d] 0, [(0, [.w7 u]), (1, [.w7 v])], 2⟩ (endK (tb Try.f8.ntmps 2 [] [] ksIs 9) Try.f8.results.toList fun v _ _ => H v) =
    affC x y z (H (.s (.bl false))) (H (.s (.bl false))) (fun a b => (decide (a.val = u) = true → H (.s (.bs (decide (b.val = v))))) ∧ (decide (a.val = u) = !true → H (.s (.bl false)))) := by
  kernel_rfl

end Go.Proofs.Ytlghkkfamhjodaa.Nm

/-
  Are three coordinates those of a point: the contract; the thin package's contracts.
-/
namespace Go.Proofs.Ytlghkkfamhjodaa.Nm
open Go Go.RowKit

/-- A point's numbers. -/
def affN (x y z : Nat) : Option (Option (Nat × Nat)) := match affOf x y z with
  | none => none
  | some none => some none
  | some (some (u, v)) => some (some (u.val, v.val))

/-- The point of a value of the specification's type. -/
def rdPt (m : Mem) : V → Option (Option (Nat × Nat))
  | .agg [.c (.bl true), .c .snil, .c .snil] => some none
  | .agg [.c (.bl false), .c (.sl s o n c), .c (.sl t o' n' d)] => match rdW7 m (.s (.sl s o n c)), rdW7 m (.s (.sl t o' n' d)) with
    | some u, some v => some (some (u, v))
    | _, _ => none
  | _ => none

theorem rdPt_ok {wr : Nat → Bool} {T : Tg} {w : World} {m : Mem} (hm : MOk wr T w m) {u : V} {x : Value} {p : Option (Nat × Nat)} (hu : u.R T x) (h : rdPt m u = some p) :
    (p = none ∧ u = ptZ true) ∨ (∃ (a b c d : Nat) (b1 b2 : Loc), p = some (a, b) ∧ b1.blk < w.heap.size ∧ b2.blk < w.heap.size ∧ ∀ T' i j f g, T' i = some ⟨b1.blk, b1.off, f⟩ → T' j = some ⟨b2.blk, b2.off, g⟩ → BlockOk T' w i [.w7 a] ∧ BlockOk T' w j [.w7 b] ∧ (ptS i j c d).R T' x) := by
  unfold rdPt at h
  split at h
  · cases h; exact .inl ⟨rfl, rfl⟩
  · rename_i s o n c t o' n' d
    split at h
    · rename_i a b e1 e2
      cases h
      right
      rw [V.R] at hu
      obtain ⟨xs, rfl, hc, hg⟩ := hu
      simp only [flat, Pc.cells, List.cons_append, List.nil_append] at hc
      cases hc with
      | cons a1 hc =>
      cases hc with
      | cons a2 hc =>
      cases hc with
      | cons a3 hc =>
      cases hc
      obtain ⟨_, b1, c1, rfl, hl1, hR1⟩ := rdW7_ok hm (u := .s (.sl s o n c)) (by rw [V.R]; exact a2) e1
      obtain ⟨_, b2, c2, rfl, hl2, hR2⟩ := rdW7_ok hm (u := .s (.sl t o' n' d)) (by rw [V.R]; exact a3) e2
      refine ⟨a, b, c1, c2, b1, b2, rfl, hl1, hl2, fun T' i j f g hi hj => ?_⟩
      obtain ⟨k1, k2⟩ := hR1 T' i f hi
      obtain ⟨k3, k4⟩ := hR2 T' j g hj
      refine ⟨k1, k3, ?_⟩
      unfold ptS
      rw [V.R]
      refine ⟨_, rfl, .cons a1 (.cons (vr_s k2) (.cons (vr_s k4) .nil)), ?_⟩
      intro p hp
      simp only [List.mem_cons, List.not_mem_nil, or_false] at hp
      rcases hp with rfl | rfl | rfl <;> trivial
    · cases h
  · cases h

/-- Are three coordinates those of a point? -/
def dIs : DSpec := fun args m _ => match args with
  | [.agg [.bt x, .bt y, .bt z], u] => match rdPt m u with
    | some p => some (.s (.bs (decide (affN (nBE x) (nBE y) (nBE z) = some p))), [])
    | none => none
  | _ => none

theorem mok_2w {wr : Nat → Bool} {w : World} {b1 b2 : Loc} {x y : Nat} (h1 : b1.blk < w.heap.size) (h2 : b2.blk < w.heap.size) (h0 : ∀ i, i < 2 → wr i = false) (g1 : BlockOk (tgs [b1, b2]) w 0 [.w7 x]) (g2 : BlockOk (tgs [b1, b2]) w 1 [.w7 y]) : MOk wr (tgs [b1, b2]) w [(0, [.w7 x]), (1, [.w7 y])] := mok_2w7 h1 h2 (h0 0 (by omega)) (h0 1 (by omega)) g1 g2

theorem dIs_ok : DSOk Try.prog 8 dIs where
  enter := enter_in Try.func8 (by kernel_rfl) (by kernel_rfl)
  run := by
    intro wr T w m nt args xs v fr h hm hx hfr
    simp only [dIs] at h
    split at h
    · rename_i x y z u
      split at h
      · rename_i p hp
        simp only [Option.some.injEq, Prod.mk.injEq] at h
        obtain ⟨rfl, rfl⟩ := h
        obtain ⟨x1, x2, rfl, hv1, hv2⟩ := vsr2 hx
        rcases rdPt_ok hm hv2 hp with ⟨rfl, rfl⟩ | ⟨a, b, c, d, b1, b2, rfl, hl1, hl2, hR⟩
        · refine val_calls (B := tb Try.f8.ntmps 0 [] [] ksIs 9) (c := Try.f8.body.getD .skip) (tb_ok ds_nil ksIs_ok) Try.func8 (by kernel_rfl) (by kernel_rfl) (args := [.agg [.bt x, .bt y, .bt z], ptZ true]) (Nat.le_of_ble_eq_true (by kernel_rfl)) mok_nil (vs2 (agg3_R hv1) (ptZ_R hv2)) (fun i _ => rfl) rfl hm _
            (Eq.mpr (run_is_far x y z (fun v => ∃ s', v = .s s' ∧ ∀ T' z', s'.R T' z' → (Sc.bs (decide (affN (nBE x) (nBE y) (nBE z) = some none))).R T z')) ?_)
          have hN : affOf (nBE x) (nBE y) (nBE z) = none → affN (nBE x) (nBE y) (nBE z) = none := fun e => by unfold affN; rw [e]
          have hF : affOf (nBE x) (nBE y) (nBE z) = some none → affN (nBE x) (nBE y) (nBE z) = some none := fun e => by unfold affN; rw [e]
          have hS : ∀ u v, affOf (nBE x) (nBE y) (nBE z) = some (some (u, v)) → affN (nBE x) (nBE y) (nBE z) = some (some (u.val, v.val)) := fun u v e => by unfold affN; rw [e]
          have no : affN (nBE x) (nBE y) (nBE z) ≠ some none → ∃ s', V.s (.bl false) = .s s' ∧ ∀ T' z', s'.R T' z' → (Sc.bs (decide (affN (nBE x) (nBE y) (nBE z) = some none))).R T z' := fun hne => ⟨_, rfl, fun T' z' hz => by
            have hz : z' = .bool false := hz
            show z' = .bool (decide _)
            rw [hz, decide_eq_false hne]⟩
          refine ⟨fun e => ?_, fun e => ⟨_, rfl, fun T' z' hz => ?_⟩, fun u v e => no (by rw [hS u v e]; simp)⟩
          · have := no (by rw [hN e]; simp)
            exact ⟨this, this, fun _ _ => this⟩
          · have hz : z' = .bool true := hz
            show z' = .bool (decide _)
            rw [hz, decide_eq_true (hF e)]
        · obtain ⟨k1, k2, k3⟩ := hR (tgs [⟨b1.blk, b1.off, 0⟩, ⟨b2.blk, b2.off, 0⟩]) 0 1 0 0 rfl rfl
          refine val_calls (B := tb Try.f8.ntmps 2 [] [] ksIs 9) (c := Try.f8.body.getD .skip) (tb_ok ds_nil ksIs_ok) Try.func8 (by kernel_rfl) (by kernel_rfl) (args := [.agg [.bt x, .bt y, .bt z], ptS 0 1 c d]) (Nat.le_of_ble_eq_true (by kernel_rfl)) (mok_2w (b1 := ⟨b1.blk, b1.off, 0⟩) (b2 := ⟨b2.blk, b2.off, 0⟩) hl1 hl2 (fun i hi => by
              have : i = 0 ∨ i = 1 := by omega
              rcases this with rfl | rfl <;> rfl) k1 k2) (vs2 (agg3_R hv1) k3) (fun i hi => tgs_none (show 2 ≤ i from hi)) rfl hm _
            (Eq.mpr (run_is_fin x y z a b c d (fun v => ∃ s', v = .s s' ∧ ∀ T' z', s'.R T' z' → (Sc.bs (decide (affN (nBE x) (nBE y) (nBE z) = some (some (a, b))))).R T z')) ?_)
          have hN : affOf (nBE x) (nBE y) (nBE z) = none → affN (nBE x) (nBE y) (nBE z) = none := fun e => by unfold affN; rw [e]
          have hF : affOf (nBE x) (nBE y) (nBE z) = some none → affN (nBE x) (nBE y) (nBE z) = some none := fun e => by unfold affN; rw [e]
          have hS : ∀ u v, affOf (nBE x) (nBE y) (nBE z) = some (some (u, v)) → affN (nBE x) (nBE y) (nBE z) = some (some (u.val, v.val)) := fun u v e => by unfold affN; rw [e]
          have no : affN (nBE x) (nBE y) (nBE z) ≠ some (some (a, b)) → ∃ s', V.s (.bl false) = .s s' ∧ ∀ T' z', s'.R T' z' → (Sc.bs (decide (affN (nBE x) (nBE y) (nBE z) = some (some (a, b))))).R T z' := fun hne => ⟨_, rfl, fun T' z' hz => by
            have hz : z' = .bool false := hz
            show z' = .bool (decide _)
            rw [hz, decide_eq_false hne]⟩
          refine ⟨fun e => ?_, fun e => no (by rw [hF e]; simp), fun u v e => ⟨fun h1 => ⟨_, rfl, fun T' z' hz => ?_⟩, fun h1 => no ?_⟩⟩
          · have := no (by rw [hN e]; simp)
            exact ⟨this, this, fun _ _ => this⟩
          · have hz : z' = .bool (decide (v.val = b)) := hz
            have h1 := of_decide_eq_true h1
            show z' = .bool (decide _)
            rw [hz, hS u v e, h1]
            congr 1
            simp
          · rw [hS u v e]
            intro e2
            simp only [Option.some.injEq, Prod.mk.injEq] at e2
            rw [decide_eq_true e2.1] at h1
            cases h1
      · cases h
    · cases h

end Go.Proofs.Ytlghkkfamhjodaa.Nm

