import Derived.Test.YtlghkkfamhjodaaQ
/-
  The laws.
-/
/-
  The thin package's contracts.
-/
namespace Go.Proofs.Ytlghkkfamhjodaa.Nm
open Go Go.RowKit

set_option maxRecDepth 100000 in
theorem run_psel1 (x1 y1 z1 x2 y2 z2 : List Nat) (G : V → Prop) : exC2 (tb Try.f7.ntmps 0 [] dsQ ksI3 9) (Try.f7.body.getD .skip) ⟨entryV [.agg [.bt x1, .bt y1, .bt z1], .agg [.bt x2, .bt y2, .bt z2], .s (.lit .i64 1)] 0, [], 0⟩ (endK (tb Try.f7.ntmps 0 [] dsQ ksI3 9) Try.f7.results.toList fun v _ _ => G v) =
    pjL x1 y1 z1 (fun X1 Y1 Z1 => pjL x2 y2 z2 (fun _ _ _ => G (.tup [tri (X1, Y1, Z1), .s (.bl true)])) (G (.tup [tri0, .s (.bl false)]))) (pjL x2 y2 z2 (fun _ _ _ => G (.tup [tri0, .s (.bl false)])) (G (.tup [tri0, .s (.bl false)]))) := by
  kernel_rfl
set_option maxRecDepth 100000 in
theorem run_psel0 (x1 y1 z1 x2 y2 z2 : List Nat) (G : V → Prop) : exC2 (tb Try.f7.ntmps 0 [] dsQ ksI3 9) (Try.f7.body.getD .skip) ⟨entryV [.agg [.bt x1, .bt y1, .bt z1], .agg [.bt x2, .bt y2, .bt z2], .s (.lit .i64 0)] 0, [], 0⟩ (endK (tb Try.f7.ntmps 0 [] dsQ ksI3 9) Try.f7.results.toList fun v _ _ => G v) =
    pjL x1 y1 z1 (fun _ _ _ => pjL x2 y2 z2 (fun X2 Y2 Z2 => G (.tup [tri (X2, Y2, Z2), .s (.bl true)])) (G (.tup [tri0, .s (.bl false)]))) (pjL x2 y2 z2 (fun _ _ _ => G (.tup [tri0, .s (.bl false)])) (G (.tup [tri0, .s (.bl false)]))) := by
  kernel_rfl

/-- Numbers below the prime. -/
def isF (x y z : List Nat) (t : Tr) : Prop := nBE x = t.1.val ∧ nBE y = t.2.1.val ∧ nBE z = t.2.2.val

theorem pjL_F {x y z : List Nat} {t : Tr} {K : F → F → F → Prop} {Kf : Prop} (h : isF x y z t) (hK : K t.1 t.2.1 t.2.2) : pjL x y z K Kf := by
  obtain ⟨X, Y, Z⟩ := t
  obtain ⟨h1, h2, h3⟩ := h
  simp only at h1 h2 h3 hK
  have hx : nBE x < pp := by rw [h1]; exact X.isLt
  have hy : nBE y < pp := by rw [h2]; exact Y.isLt
  have hz : nBE z < pp := by rw [h3]; exact Z.isLt
  refine ⟨fun hx' => ⟨fun hy' => ⟨fun hz' => ?_, fun hn => absurd hz hn⟩, fun hn => absurd hy hn⟩, fun hn => absurd hx hn⟩
  have e1 : (⟨nBE x, hx'⟩ : F) = X := Fin.ext h1
  have e2 : (⟨nBE y, hy'⟩ : F) = Y := Fin.ext h2
  have e3 : (⟨nBE z, hz'⟩ : F) = Z := Fin.ext h3
  rw [e1, e2, e3]
  exact hK

/-- A function of two points by three coordinates, both with coordinates below the prime. -/
def kP2 (f : Tr → Tr → Tr) : KSpec where
  run := fun args m nt K => match args with
    | [.agg [.bt x1, .bt y1, .bt z1], .agg [.bt x2, .bt y2, .bt z2]] => ∃ s t : Tr, isF x1 y1 z1 s ∧ isF x2 y2 z2 t ∧ K (.tup [tri (f s t), .s (.bl true)]) m nt
    | _ => False
  outs := noOut
def kP3 : KSpec where
  run := fun args m nt K => match args with
    | [.agg [.bt x1, .bt y1, .bt z1], .agg [.bt x2, .bt y2, .bt z2], .s (.lit .i64 (.ofNat c))] => onb (Nat.ble c 1) (∃ s t : Tr, isF x1 y1 z1 s ∧ isF x2 y2 z2 t ∧ K (.tup [tri (bif Nat.beq c 1 then s else t), .s (.bl true)]) m nt)
    | _ => False
  outs := noOut

theorem tri_end {B : Tb} {wr : Nat → Bool} {T T' : Tg} {w w' : World} {m m' : Mem} {nt nt' : Nat} {K0 K : V → Mem → Nat → Prop} {y : Value} {t : Tr} (hm : MOk wr T w m) (hfree : ∀ t, nt ≤ t → T t = none) (hL : Left B (tgs []) w w' K0 y T' (.tup [tri t, .s (.bl true)]) m' nt') (houts : B.outs = []) (o : List Nat) (hK : K (.tup [tri t, .s (.bl true)]) m nt) : KEnd wr T w nt o K (.returned y) w' := by
  obtain ⟨n1, n2, n3, n4⟩ := lift_none (nt := nt) hm hL houts
  have hval := hL.val
  rw [V.R] at hval
  obtain ⟨ys, rfl, hys⟩ := hval
  obtain ⟨z1, z2, rfl, hz1, hz2⟩ := vsr2 hys
  refine KEnd.of (fr := []) ⟨T, _, n1, rfl, ?_, n2, n3, n4⟩ hfree hK
  rw [V.R]
  exact ⟨_, rfl, vs2 (agg3_R hz1) (by rw [V.R]; exact vr_s hz2)⟩

theorem kPadd_ok : KSOk Try.prog 10 (kP2 fun s t => padd s.1 s.2.1 s.2.2 t.1 t.2.1 t.2.2) where
  enter := enter_in Try.func10 (by kernel_rfl) (by kernel_rfl)
  run := by
    intro wr T w m nt args xs K h hm hx hfree hwr
    simp only [kP2] at h
    split at h
    · rename_i x1 y1 z1 x2 y2 z2
      obtain ⟨s, t, hs, ht, hK⟩ := h
      obtain ⟨v1, v2, rfl, h1, h2⟩ := vsr2 hx
      refine (run_calls (B := tb Try.f10.ntmps 0 [] dsQ ksI3 9) (tb_ok dsQ_ok ksI3_ok) Try.func10 (c := Try.f10.body.getD .skip) (by kernel_rfl) (by kernel_rfl) (args := [.agg [.bt x1, .bt y1, .bt z1], .agg [.bt x2, .bt y2, .bt z2]]) (Nat.le_of_ble_eq_true (by kernel_rfl)) mok_nil (vs2 (agg3_R h1) (agg3_R h2)) (fun i _ => rfl)
        (fun v _ _ => v = .tup [tri (padd s.1 s.2.1 s.2.2 t.1 t.2.1 t.2.2), .s (.bl true)]) (Eq.mpr (run_padd x1 y1 z1 x2 y2 z2 (fun v => v = .tup [tri (padd s.1 s.2.1 s.2.2 t.1 t.2.1 t.2.2), .s (.bl true)])) (pjL_F hs (pjL_F ht rfl)))).mono fun e w' hh => ?_
      obtain ⟨y, T', v, m', nt', rfl, hL⟩ := hh
      have hv := hL.post
      subst hv
      exact tri_end hm hfree hL rfl _ hK
    · exact h.elim

theorem kPsel_ok : KSOk Try.prog 7 kP3 where
  enter := enter_in Try.func7 (by kernel_rfl) (by kernel_rfl)
  run := by
    intro wr T w m nt args xs K h hm hx hfree hwr
    simp only [kP3] at h
    split at h
    · rename_i x1 y1 z1 x2 y2 z2 c
      obtain ⟨hc, s, t, hs, ht, hK⟩ := onb_true h
      have hc := Nat.le_of_ble_eq_true hc
      obtain ⟨v1, v2, v3, rfl, h1, h2, h3⟩ := vsr3 hx
      have hcs : c = 0 ∨ c = 1 := by omega
      rcases hcs with rfl | rfl
      · refine (run_calls (B := tb Try.f7.ntmps 0 [] dsQ ksI3 9) (tb_ok dsQ_ok ksI3_ok) Try.func7 (c := Try.f7.body.getD .skip) (by kernel_rfl) (by kernel_rfl) (args := [.agg [.bt x1, .bt y1, .bt z1], .agg [.bt x2, .bt y2, .bt z2], .s (.lit .i64 0)]) (Nat.le_of_ble_eq_true (by kernel_rfl)) mok_nil (vs3 (agg3_R h1) (agg3_R h2) (by rw [V.R]; exact vr_s h3)) (fun i _ => rfl)
          (fun v _ _ => v = .tup [tri t, .s (.bl true)]) (Eq.mpr (run_psel0 x1 y1 z1 x2 y2 z2 (fun v => v = .tup [tri t, .s (.bl true)])) (pjL_F hs (pjL_F ht rfl)))).mono fun e w' hh => ?_
        obtain ⟨y, T', v, m', nt', rfl, hL⟩ := hh
        have hv := hL.post
        subst hv
        exact tri_end hm hfree hL rfl _ hK
      · refine (run_calls (B := tb Try.f7.ntmps 0 [] dsQ ksI3 9) (tb_ok dsQ_ok ksI3_ok) Try.func7 (c := Try.f7.body.getD .skip) (by kernel_rfl) (by kernel_rfl) (args := [.agg [.bt x1, .bt y1, .bt z1], .agg [.bt x2, .bt y2, .bt z2], .s (.lit .i64 1)]) (Nat.le_of_ble_eq_true (by kernel_rfl)) mok_nil (vs3 (agg3_R h1) (agg3_R h2) (by rw [V.R]; exact vr_s h3)) (fun i _ => rfl)
          (fun v _ _ => v = .tup [tri s, .s (.bl true)]) (Eq.mpr (run_psel1 x1 y1 z1 x2 y2 z2 (fun v => v = .tup [tri s, .s (.bl true)])) (pjL_F hs (pjL_F ht rfl)))).mono fun e w' hh => ?_
        obtain ⟨y, T', v, m', nt', rfl, hL⟩ := hh
        have hv := hL.post
        subst hv
        exact tri_end hm hfree hL rfl _ hK
    · exact h.elim

def dPinf : DSpec := fun args _ _ => match args with
  | [] => some (tri (0, 1, 0), [])
  | _ => none

theorem dPinf_ok : DSOk Try.prog 12 dPinf where
  enter := enter_in Try.func12 (by kernel_rfl) (by kernel_rfl)
  run := by
    intro wr T w m nt args xs v fr h hm hx hfr
    simp only [dPinf] at h
    split at h
    · simp only [Option.some.injEq, Prod.mk.injEq] at h
      obtain ⟨rfl, rfl⟩ := h
      have hx' : xs = [] := by rw [VsR] at hx; exact hx
      subst hx'
      refine (run_calls (B := tb Try.f12.ntmps 0 [] dsQ ksI3 9) (tb_ok dsQ_ok ksI3_ok) Try.func12 (c := Try.f12.body.getD .skip) (by kernel_rfl) (by kernel_rfl) (args := []) (Nat.le_of_ble_eq_true (by kernel_rfl)) mok_nil hx (fun i _ => rfl) (fun v _ _ => v = tri (0, 1, 0)) (Eq.mpr (run_pinf (fun v => v = tri (0, 1, 0))) rfl)).mono fun e w' hh => ?_
      obtain ⟨y, T', v, m', nt', rfl, hL⟩ := hh
      have hv := hL.post
      subst hv
      obtain ⟨n1, n2, n3, n4⟩ := lift_none (nt := nt) hm hL rfl
      exact ⟨T, y, n1, rfl, agg3_R hL.val, n2, n3, n4⟩
    · cases h

/-! ### The laws -/
def dsLw : List (Nat × DSpec) := [(8, dIs), (12, dPinf), (9, dOf)]
theorem dsLw_ok : ∀ f sp, lkp dsLw f = some sp → DSOk Try.prog f sp := by
  intro f sp h
  rcases lkp_cons h with ⟨rfl, rfl⟩ | h
  · exact dIs_ok
  rcases lkp_cons h with ⟨rfl, rfl⟩ | h
  · exact dPinf_ok
  rcases lkp_cons h with ⟨rfl, rfl⟩ | h
  · exact dOf_ok
  · exact (lkp_nil h).elim
def ksLw : List (Nat × KSpec) := [(6, kAff), (10, kP2 fun s t => padd s.1 s.2.1 s.2.2 t.1 t.2.1 t.2.2), (7, kP3)]
theorem ksLw_ok : ∀ f sp, lkp ksLw f = some sp → KSOk Try.prog f sp := by
  intro f sp h
  rcases lkp_cons h with ⟨rfl, rfl⟩ | h
  · exact kAff_ok
  rcases lkp_cons h with ⟨rfl, rfl⟩ | h
  · exact kPadd_ok
  rcases lkp_cons h with ⟨rfl, rfl⟩ | h
  · exact kPsel_ok
  · exact (lkp_nil h).elim

end Go.Proofs.Ytlghkkfamhjodaa.Nm

/-
  The laws of choice and of the point infinitely far: their runs.
-/
namespace Go.Proofs.Ytlghkkfamhjodaa.Nm
open Go Go.RowKit

def isB (t : Tr) (p : Option (Nat × Nat)) : Bool := decide (affN (nBE (bytesBE t.1.val)) (nBE (bytesBE t.2.1.val)) (nBE (bytesBE t.2.2.val)) = some p)

def infT (x y z : List Nat) (P : Option (Nat × Nat)) (G : V → Prop) : Prop :=
  ∃ s t : Tr, isF x y z s ∧ isF (bytesBE (0 : F).val) (bytesBE (1 : F).val) (bytesBE (0 : F).val) t ∧
    (isB (0, 1, 0) none = true → G (.s (.bs (isB (padd s.1 s.2.1 s.2.2 t.1 t.2.1 t.2.2) P)))) ∧ (isB (0, 1, 0) none = !true → G (.s (.bl false)))
def infL (x y z : List Nat) (G : V → Prop) : Prop :=
  affC x y z (G (.s (.bl true))) (infT x y z none G) (fun u v => infT x y z (some (u.val, v.val)) G)

set_option maxRecDepth 100000 in
theorem run_linf (x y z : List Nat) (G : V → Prop) : exC2 (tb Try.f5.ntmps 0 [] dsLw ksLw 9) (Try.f5.body.getD .skip) ⟨entryV [.agg [.bt x, .bt y, .bt z]] 0, [], 0⟩ (endK (tb Try.f5.ntmps 0 [] dsLw ksLw 9) Try.f5.results.toList fun v _ _ => G v) = infL x y z G := by
  kernel_rfl

def selS (x1 y1 z1 x2 y2 z2 : List Nat) (f : Bool) (P Q : Option (Nat × Nat)) (G : V → Prop) : Prop :=
  (f = true → ∃ s t : Tr, isF x1 y1 z1 s ∧ isF x2 y2 z2 t ∧ G (.s (.bs (isB s P)))) ∧ (f = false → ∃ s t : Tr, isF x1 y1 z1 s ∧ isF x2 y2 z2 t ∧ G (.s (.bs (isB t Q))))
def selL (x1 y1 z1 x2 y2 z2 : List Nat) (f : Bool) (G : V → Prop) : Prop :=
  affC x1 y1 z1 (affC x2 y2 z2 (G (.s (.bl true))) (G (.s (.bl true))) (fun _ _ => G (.s (.bl true))))
    (affC x2 y2 z2 (G (.s (.bl true))) (selS x1 y1 z1 x2 y2 z2 f none none G) (fun u v => selS x1 y1 z1 x2 y2 z2 f none (some (u.val, v.val)) G))
    (fun a b => affC x2 y2 z2 (G (.s (.bl true))) (selS x1 y1 z1 x2 y2 z2 f (some (a.val, b.val)) none G) (fun u v => selS x1 y1 z1 x2 y2 z2 f (some (a.val, b.val)) (some (u.val, v.val)) G))

set_option maxRecDepth 100000 in
theorem run_lsel (x1 y1 z1 x2 y2 z2 : List Nat) (f : Bool) (G : V → Prop) : exC2 (tb Try.f3.ntmps 0 [] dsLw ksLw 9) (Try.f3.body.getD .skip) ⟨entryV [.agg [.bt x1, .bt y1, .bt z1], .agg [.bt x2, .bt y2, .bt z2], .s (.bs f)] 0, [], 0⟩ (endK (tb Try.f3.ntmps 0 [] dsLw ksLw 9) Try.f3.results.toList fun v _ _ => G v) = selL x1 y1 z1 x2 y2 z2 f G := by
  kernel_rfl

end Go.Proofs.Ytlghkkfamhjodaa.Nm

/-
  The laws of choice and of the point infinitely far: they hold.
-/
namespace Go.Proofs.Ytlghkkfamhjodaa.Nm
open Go Go.RowKit

def pN : Pt → Option (Nat × Nat)
  | none => none
  | some (u, v) => some (u.val, v.val)

theorem nBE_val (a : F) : nBE (bytesBE a.val) = a.val := nBE_bytesBE (Nat.lt_trans a.isLt (by decide))

theorem isB_of {t : Tr} {p : Pt} (h : aff t = some p) : isB t (pN p) = true := by
  obtain ⟨X, Y, Z⟩ := t
  unfold isB
  simp only [nBE_val]
  refine decide_eq_true ?_
  unfold affN
  rw [affOf_F, h]
  cases p with
  | none => rfl
  | some q => rfl

theorem isF_of {x y z : List Nat} {p : Pt} (h : affOf (nBE x) (nBE y) (nBE z) = some p) : ∃ t : Tr, isF x y z t ∧ aff t = some p := by
  unfold affOf at h
  split at h
  · rename_i hh
    exact ⟨_, ⟨rfl, rfl, rfl⟩, h⟩
  · cases h

/-- The answer is 'true'. -/
def isT (v : V) : Prop := ∃ s, v = .s s ∧ ∀ T u, s.R T u → u = .bool true
theorem isT_lit : isT (.s (.bl true)) := ⟨_, rfl, fun _ _ h => h⟩
theorem isT_bs {b : Bool} (h : b = true) : isT (.s (.bs b)) := ⟨_, rfl, fun T u hu => by subst h; exact hu⟩

theorem aff_inf : aff (0, 1, 0) = some none := aff_far (by decide +kernel)

theorem isF_tri (t : Tr) : isF (bytesBE t.1.val) (bytesBE t.2.1.val) (bytesBE t.2.2.val) t := by
  unfold isF
  exact ⟨nBE_val t.1, nBE_val t.2.1, nBE_val t.2.2⟩

theorem isF_010 : isF (bytesBE (0 : F).val) (bytesBE (1 : F).val) (bytesBE (0 : F).val) (0, 1, 0) := by
  simp only [isF, nBE_val, and_self]

theorem inf_T {x y z : List Nat} {p : Pt} (h : affOf (nBE x) (nBE y) (nBE z) = some p) : infT x y z (pN p) isT := by
  obtain ⟨s, hs, ha⟩ := isF_of h
  refine ⟨s, (0, 1, 0), hs, isF_010, fun _ => isT_bs ?_, fun h => ?_⟩
  · have := aff_padd ha aff_inf
    rw [psum_none] at this
    exact isB_of this
  · have e : isB (0, 1, 0) (pN none) = true := isB_of (p := none) aff_inf
    have e : isB (0, 1, 0) none = true := e
    rw [e] at h
    cases h

theorem infL_true (x y z : List Nat) : infL x y z isT :=
  ⟨fun _ => ⟨isT_lit, isT_lit, fun _ _ => isT_lit⟩, fun h => inf_T (p := none) h, fun u v h => inf_T (p := some (u, v)) h⟩

theorem sel_T {x1 y1 z1 x2 y2 z2 : List Nat} {f : Bool} {p q : Pt} (h : affOf (nBE x1) (nBE y1) (nBE z1) = some p) (h' : affOf (nBE x2) (nBE y2) (nBE z2) = some q) : selS x1 y1 z1 x2 y2 z2 f (pN p) (pN q) isT := by
  obtain ⟨s, hs, ha⟩ := isF_of h
  obtain ⟨t, ht, hb⟩ := isF_of h'
  exact ⟨fun _ => ⟨s, t, hs, ht, isT_bs (isB_of ha)⟩, fun _ => ⟨s, t, hs, ht, isT_bs (isB_of hb)⟩⟩

theorem selL_true (x1 y1 z1 x2 y2 z2 : List Nat) (f : Bool) : selL x1 y1 z1 x2 y2 z2 f isT := by
  have hn : affC x2 y2 z2 (isT (.s (.bl true))) (isT (.s (.bl true))) (fun _ _ => isT (.s (.bl true))) := ⟨fun _ => ⟨isT_lit, isT_lit, fun _ _ => isT_lit⟩, fun _ => isT_lit, fun _ _ _ => isT_lit⟩
  exact ⟨fun _ => ⟨hn, hn, fun _ _ => hn⟩,
    fun h => ⟨fun _ => ⟨isT_lit, isT_lit, fun _ _ => isT_lit⟩, fun h' => sel_T (p := none) (q := none) h h', fun u v h' => sel_T (p := none) (q := some (u, v)) h h'⟩,
    fun a b h => ⟨fun _ => ⟨isT_lit, isT_lit, fun _ _ => isT_lit⟩, fun h' => sel_T (p := some (a, b)) (q := none) h h', fun u v h' => sel_T (p := some (a, b)) (q := some (u, v)) h h'⟩⟩

/-- What the frame wants of a law: it returns true, and memory has only grown. -/
theorem law_end {B : Tb} {w w' : World} {y : Value} {T' : Tg} {v : V} {m' : Mem} {nt' : Nat} (hL : Left B (tgs []) w w' (fun v _ _ => isT v) y T' v m' nt') (houts : B.outs = []) : y = .bool true ∧ Below w.heap.size w w' := by
  obtain ⟨s, rfl, h⟩ := hL.post
  exact ⟨h T' y (vr_s hL.val), left_below hL houts⟩

theorem inf_calls {T : Tg} {x y z : List Nat} {a : Value} (w : World) (ha : (V.agg [.bt x, .bt y, .bt z]).R T a) : Calls Try.prog 5 #[a] w fun e w' => e = .returned (.bool true) ∧ Below w.heap.size w w' := by
  refine (run_calls (B := tb Try.f5.ntmps 0 [] dsLw ksLw 9) (tb_ok dsLw_ok ksLw_ok) Try.func5 (c := Try.f5.body.getD .skip) (by kernel_rfl) (by kernel_rfl) (args := [.agg [.bt x, .bt y, .bt z]]) (Nat.le_of_ble_eq_true (by kernel_rfl)) (w0 := w) mok_nil (vs1 (agg3_R ha)) (fun i _ => rfl) (fun v _ _ => isT v) (Eq.mpr (run_linf x y z isT) (infL_true x y z))).mono fun e w' hh => ?_
  obtain ⟨y, T', v, m', nt', rfl, hL⟩ := hh
  obtain ⟨rfl, h⟩ := law_end hL rfl
  exact ⟨rfl, h⟩

theorem sel_calls {T : Tg} {x1 y1 z1 x2 y2 z2 : List Nat} {a b : Value} (f : Bool) (w : World) (ha : (V.agg [.bt x1, .bt y1, .bt z1]).R T a) (hb : (V.agg [.bt x2, .bt y2, .bt z2]).R T b) : Calls Try.prog 3 #[a, b, .bool f] w fun e w' => e = .returned (.bool true) ∧ Below w.heap.size w w' := by
  refine (run_calls (B := tb Try.f3.ntmps 0 [] dsLw ksLw 9) (tb_ok dsLw_ok ksLw_ok) Try.func3 (c := Try.f3.body.getD .skip) (by kernel_rfl) (by kernel_rfl) (args := [.agg [.bt x1, .bt y1, .bt z1], .agg [.bt x2, .bt y2, .bt z2], .s (.bs f)]) (Nat.le_of_ble_eq_true (by kernel_rfl)) (w0 := w) mok_nil (vs3 (agg3_R ha) (agg3_R hb) (by rw [V.R]; rfl)) (fun i _ => rfl) (fun v _ _ => isT v) (Eq.mpr (run_lsel x1 y1 z1 x2 y2 z2 f isT) (selL_true x1 y1 z1 x2 y2 z2 f))).mono fun e w' hh => ?_
  obtain ⟨y, T', v, m', nt', rfl, hL⟩ := hh
  obtain ⟨rfl, h⟩ := law_end hL rfl
  exact ⟨rfl, h⟩

end Go.Proofs.Ytlghkkfamhjodaa.Nm

/-
  The sum of the specification's points: the contract.
-/
namespace Go.Proofs.Ytlghkkfamhjodaa.Nm
open Go Go.RowKit

set_option maxRecDepth 100000 in
theorem run_sum_nq (iv : Nat → Nat) (c d : Nat) (H : V → Prop) :
    exC2 (tb Try.f11.ntmps 3 [] (dsU iv) [] 9) (Try.f11.body.getD .skip) ⟨entryV [cv 2, ptZ true, ptS 0 1 c d] 0, [], 3⟩ (endK (tb Try.f11.ntmps 3 [] (dsU iv) [] 9) Try.f11.results.toList fun v _ _ => H v) = H (ptS 0 1 c d) := by
  kernel_rfl
set_option maxRecDepth 100000 in
theorem run_sum_pn (iv : Nat → Nat) (c d : Nat) (H : V → Prop) :
    exC2 (tb Try.f11.ntmps 3 [] (dsU iv) [] 9) (Try.f11.body.getD .skip) ⟨entryV [cv 2, ptS 0 1 c d, ptZ true] 0, [], 3⟩ (endK (tb Try.f11.ntmps 3 [] (dsU iv) [] 9) Try.f11.results.toList fun v _ _ => H v) = H (ptS 0 1 c d) := by
  kernel_rfl
set_option maxRecDepth 100000 in
theorem run_sum_nn (iv : Nat → Nat) (H : V → Prop) :
    exC2 (tb Try.f11.ntmps 1 [] (dsU iv) [] 9) (Try.f11.body.getD .skip) ⟨entryV [cv 0, ptZ true, ptZ true] 0, [], 1⟩ (endK (tb Try.f11.ntmps 1 [] (dsU iv) [] 9) Try.f11.results.toList fun v _ _ => H v) = H (ptZ true) := by
  kernel_rfl
set_option maxRecDepth 100000 in
theorem run_sum_pq (iv : Nat → Nat) (x1 y1 x2 y2 c1 d1 c2 d2 : Nat) (H : V → Option (List Pc) × Option (List Pc) → Prop) :
    exC2 (tb Try.f11.ntmps 5 [] (dsU iv) [] 9) (Try.f11.body.getD .skip) ⟨entryV [cv 4, ptS 0 1 c1 d1, ptS 2 3 c2 d2] 0, memU x1 y1 x2 y2, 5⟩ (endK (tb Try.f11.ntmps 5 [] (dsU iv) [] 9) Try.f11.results.toList fun v m _ => H v (ptM m v)) =
    sumL iv x1 y1 x2 y2 H := by
  kernel_rfl
theorem val_ne {a b : F} : (!decide (a.val = b.val)) = decide (a ≠ b) := by
  by_cases h : a = b
  · subst h; simp
  · have : a.val ≠ b.val := fun e => h (Fin.ext e)
    simp [h, this]

theorem v_iv {iv : Nat → Nat} (hiv : IvOk iv) (z : F) : iv z.val = (finv z).val := by
  have h := hiv z.val
  have h2 := v_inv z
  unfold PN at h2
  exact h.trans h2

theorem ex_iv (e p : Nat) : ∃ iv : Nat → Nat, ∀ x, iv x = x ^ e % p := ⟨fun x => x ^ e % p, fun _ => rfl⟩

theorem sumL_ok {iv : Nat → Nat} (hiv : IvOk iv) {a b c d : F} {H : V → Option (List Pc) × Option (List Pc) → Prop}
    (hN : psum (some (a, b)) (some (c, d)) = none → H (ptZ true) (none, none))
    (hS : ∀ i j, ((i = 16 ∧ j = 19) ∨ (i = 21 ∧ j = 24)) → ∀ e f : F, psum (some (a, b)) (some (c, d)) = some (e, f) → H (ptS i j 7 7) (ww2 e.val f.val)) : sumL iv a.val b.val c.val d.val H := by
  have v0 : ∀ A : F, A.val = 0 ↔ A = 0 := fun A => ⟨fun h => Fin.ext (by rw [h, fval_zero]), fun h => by rw [h, fval_zero]⟩
  refine ⟨fun h => ?_, fun h => ⟨fun h1 => ?_, fun h1 => ⟨fun h2 => ?_, fun h2 => ?_⟩⟩⟩
  · rw [val_ne] at h
    have hne := of_decide_eq_true h
    have e1 : slC iv a.val b.val c.val d.val = (slopeC a b c d).val := by
      unfold slC
      rw [v_minus, v_minus, v_iv hiv, v_times]
      rfl
    have e2 : ∀ s : F, sX s.val a.val c.val = (sumX s a c).val := fun s => by
      unfold sX
      rw [v_times, v_minus, v_minus]
      rfl
    have e3 : ∀ s x : F, sY s.val a.val b.val x.val = (sumY s a b x).val := fun s x => by
      unfold sY
      rw [v_minus, v_times, v_minus]
      rfl
    rw [e1, e2, e3]
    exact hS 16 19 (.inl ⟨rfl, rfl⟩) _ _ (by simp only [psum]; rw [if_pos hne])
  · rw [val_ne] at h h1
    have hx := of_decide_eq_false h
    have hy := of_decide_eq_true h1
    exact hN (by simp only [psum]; rw [if_neg hx, if_pos (.inl hy)])
  · rw [val_ne] at h
    have hx := of_decide_eq_false h
    have hy := (v0 b).1 (of_decide_eq_true h2)
    exact hN (by simp only [psum]; rw [if_neg hx, if_pos (.inr hy)])
  · rw [val_ne] at h h1
    have hx := of_decide_eq_false h
    have hy := of_decide_eq_false h1
    have h0 : b ≠ 0 := fun e => of_decide_eq_false h2 ((v0 b).2 e)
    have e1 : slTn iv a.val b.val = (slopeT a b).val := by
      unfold slTn
      rw [v_plus, v_iv hiv, v_times, ← v_three, v_times, v_minus, v_times]
      rfl
    have e2 : ∀ s : F, sX s.val a.val c.val = (sumX s a c).val := fun s => by
      unfold sX
      rw [v_times, v_minus, v_minus]
      rfl
    have e3 : ∀ s x : F, sY s.val a.val b.val x.val = (sumY s a b x).val := fun s x => by
      unfold sY
      rw [v_minus, v_times, v_minus]
      rfl
    rw [e1, e2, e3]
    exact hS 21 24 (.inr ⟨rfl, rfl⟩) _ _ (by simp only [psum]; rw [if_neg hx, if_neg (fun e => e.elim hy h0)])

def sumC (args : List V) (m : Mem) (nt : Nat) (K : V → List (List Pc) → Prop) : Prop := match args with
  | [c, u, v] => match cvT c, rdPt m u, rdPt m v with
    | some tf, some p, some q => onb (fdOk m tf) (match p, q with
      | none, _ => K v []
      | some _, none => K u []
      | some (x1, y1), some (x2, y2) => ∃ a b c d : F, x1 = a.val ∧ y1 = b.val ∧ x2 = c.val ∧ y2 = d.val ∧
        (psum (some (a, b)) (some (c, d)) = none → K (ptZ true) []) ∧
        (∀ e f : F, psum (some (a, b)) (some (c, d)) = some (e, f) → K (ptS nt (nt + 1) 7 7) [[.w7 e.val], [.w7 f.val]]))
    | _, _, _ => False
  | _ => False

/-- The sum of two points. -/
def kSum : KSpec where
  run := fun args m nt K => sumC args m nt fun v fr => K v (addF m nt fr) (nt + fr.length)
  outs := noOut
  cas := true
  cases := sumC

theorem ptS_fun {T T' : Tg} {s t c d : Nat} {b1 b2 : Loc} {x y : Value} (h : (ptS s t c d).R T x) (h' : (ptS s t c d).R T' y) (h1 : T s = some b1) (h2 : T t = some b2) (g1 : T' s = some b1) (g2 : T' t = some b2) : x = y := by
  unfold ptS at h h'
  rw [V.R] at h h'
  obtain ⟨xs, rfl, hc, hg⟩ := h
  obtain ⟨ys, rfl, kc, kg⟩ := h'
  simp only [flat, Pc.cells, List.cons_append, List.nil_append] at hc kc
  cases hc with
  | cons a1 hc =>
  cases hc with
  | cons a2 hc =>
  cases hc with
  | cons a3 hc =>
  cases hc
  cases kc with
  | cons e1 kc =>
  cases kc with
  | cons e2 kc =>
  cases kc with
  | cons e3 kc =>
  cases kc
  obtain ⟨c1, i1, rfl⟩ := a2
  obtain ⟨c2, i2, rfl⟩ := a3
  obtain ⟨c3, i3, rfl⟩ := e2
  obtain ⟨c4, i4, rfl⟩ := e3
  rw [h1] at i1; cases i1
  rw [h2] at i2; cases i2
  rw [g1] at i3; cases i3
  rw [g2] at i4; cases i4
  rw [a1, e1]

theorem ptZ_fun {T T' : Tg} {x y : Value} (h : (ptZ true).R T x) (h' : (ptZ true).R T' y) : x = y := by
  unfold ptZ at h h'
  rw [V.R] at h h'
  obtain ⟨xs, rfl, hc, hg⟩ := h
  obtain ⟨ys, rfl, kc, kg⟩ := h'
  simp only [flat, Pc.cells, List.cons_append, List.nil_append] at hc kc
  cases hc with
  | cons a1 hc =>
  cases hc with
  | cons a2 hc =>
  cases hc with
  | cons a3 hc =>
  cases hc
  cases kc with
  | cons e1 kc =>
  cases kc with
  | cons e2 kc =>
  cases kc with
  | cons e3 kc =>
  cases kc
  rw [a1, a2, a3, e1, e2, e3]

theorem tgs_lt {l : List Loc} {w : World} (h : ∀ b ∈ l, b.blk < w.heap.size) {wr : Nat → Bool} (hw : ∀ i, i < l.length → wr i = false) : MOk wr (tgs l) w [] := mok_tgs h hw fun _ _ h => (lkp_nil h).elim

/-- What a call of these arguments does, and what is known of its outcome. -/
def CaseDo (wr : Nat → Bool) (T : Tg) (w : World) (m : Mem) (nt : Nat) (v : V) (fr : List (List Pc)) (e : Ending) (w' : World) : Prop :=
  ∃ T' y, OnlyNew T T' nt fr.length ∧ e = .returned y ∧ v.R T' y ∧ MOk wr T' w' (addF m nt fr) ∧ Below w.heap.size w w' ∧ Newer T T' w

theorem sum_enter : ∀ args w, (callFunc 11 args).run Try.prog w = .ok (.enter 11 args) w := enter_in Try.func11 (by kernel_rfl) (by kernel_rfl)

theorem sum_cases (args : List V) (m : Mem) (nt : Nat) (K : V → List (List Pc) → Prop) (h : sumC args m nt K) : ∃ v fr, K v fr ∧ ∀ (wr : Nat → Bool) (T : Tg) (w : World) (xs : List Value), MOk wr T w m → VsR T args xs → Free T nt fr.length →
    Calls Try.prog 11 xs.toArray w (CaseDo wr T w m nt v fr) := by
    obtain ⟨iv, hiv0⟩ := ex_iv 26959946667150639794667015087019630673557916260026308143510066298879 26959946667150639794667015087019630673557916260026308143510066298881
    have hiv : IvOk iv := hiv0
    simp only [sumC] at h
    split at h
    · rename_i c u v
      split at h
      · rename_i tf p q hcv hp hq
        obtain ⟨hfd, h⟩ := onb_true h
        -- a part is handed back as it came
        have back : ∀ {wr : Nat → Bool} {T : Tg} {w : World} {y : Value} {w' : World} {r : V}, r.R T y → MOk wr T w' m → Below w.heap.size w w' → CaseDo wr T w m nt r [] (.returned y) w' := fun hr n2 n3 =>
          ⟨_, _, onlyNew_refl _ _ _, rfl, hr, n2, n3, fun t b h h' => by rw [h] at h'; cases h'⟩
        suffices hh : ∃ r fr, K r fr ∧ ∀ (wr : Nat → Bool) (T : Tg) (w : World) (x1 x2 x3 : Value) (bf : Loc), MOk wr T w m → V.R T u x2 → V.R T v x3 → bf.blk < w.heap.size → T tf = some bf → (∀ T' i f, T' i = some ⟨bf.blk, bf.off, f⟩ → (cv i).R T' x1) → Free T nt fr.length →
            Calls Try.prog 11 [x1, x2, x3].toArray w (CaseDo wr T w m nt r fr) by
          obtain ⟨r, fr, hK, hrun⟩ := hh
          refine ⟨r, fr, hK, fun wr T w xs hm hx hfr => ?_⟩
          obtain ⟨x1, x2, x3, rfl, hv0, hv1, hv2⟩ := vsr3 hx
          rw [cvT_eq hcv] at hv0
          obtain ⟨bf, hbf, hRf⟩ := cv_R hv0
          exact hrun wr T w x1 x2 x3 bf hm hv1 hv2 (hm.lt tf bf hbf) hbf hRf hfr
        cases p with
        | none =>
          refine ⟨v, [], h, fun wr T w x1 x2 x3 bf hm hv1 hv2 hlf hbf hRf hfr => ?_⟩
          obtain ⟨_, rfl⟩ | ⟨_, _, _, _, _, _, e, _⟩ := rdPt_ok hm hv1 hp
          case inr => cases e
          rcases rdPt_ok hm hv2 hq with ⟨rfl, rfl⟩ | ⟨a2, b2, c2, d2, l3, l4, rfl, hl3, hl4, hR2⟩
          · refine (run_calls (B := tb Try.f11.ntmps 1 [] (dsU iv) [] 9) (tb_ok (dsU_ok hiv) ks_nil) Try.func11 (c := Try.f11.body.getD .skip) (by kernel_rfl) (by kernel_rfl) (args := [cv 0, ptZ true, ptZ true]) (Nat.le_of_ble_eq_true (by kernel_rfl)) (tgs_lt (l := [⟨bf.blk, bf.off, 0⟩]) (fun b hb => by
                simp only [List.mem_cons, List.not_mem_nil, or_false] at hb
                subst hb; exact hlf) (fun i hi => by
                have : i = 0 := by simp at hi; omega
                subst this; rfl)) (vs3 (hRf _ 0 0 rfl) (ptZ_R hv1) (ptZ_R hv2)) (fun i hi => tgs_none (show 1 ≤ i from hi))
              (fun v _ _ => v = ptZ true) (Eq.mpr (run_sum_nn iv fun v => v = ptZ true) rfl)).mono fun e w' hh => ?_
            obtain ⟨y1, T', r, m', nt', rfl, hL⟩ := hh
            obtain ⟨n1, n2, n3, n4⟩ := lift_none (nt := nt) hm hL rfl
            have e := hL.post
            subst e
            exact back (ptZ_R hL.val) n2 n3
          · obtain ⟨k1, k2, k3⟩ := hR2 (tgs [⟨l3.blk, l3.off, 0⟩, ⟨l4.blk, l4.off, 0⟩, ⟨bf.blk, bf.off, 0⟩]) 0 1 0 0 rfl rfl
            refine (run_calls (B := tb Try.f11.ntmps 3 [] (dsU iv) [] 9) (tb_ok (dsU_ok hiv) ks_nil) Try.func11 (c := Try.f11.body.getD .skip) (by kernel_rfl) (by kernel_rfl) (args := [cv 2, ptZ true, ptS 0 1 c2 d2]) (Nat.le_of_ble_eq_true (by kernel_rfl)) (tgs_lt (l := [⟨l3.blk, l3.off, 0⟩, ⟨l4.blk, l4.off, 0⟩, ⟨bf.blk, bf.off, 0⟩]) (fun b hb => by
                simp only [List.mem_cons, List.not_mem_nil, or_false] at hb
                rcases hb with rfl | rfl | rfl
                · exact hl3
                · exact hl4
                · exact hlf) (fun i hi => by
                have : i = 0 ∨ i = 1 ∨ i = 2 := by simp at hi; omega
                rcases this with rfl | rfl | rfl <;> rfl)) (vs3 (hRf _ 2 0 rfl) (ptZ_R hv1) k3) (fun i hi => tgs_none (show 3 ≤ i from hi))
              (fun v _ _ => v = ptS 0 1 c2 d2) (Eq.mpr (run_sum_nq iv c2 d2 fun v => v = ptS 0 1 c2 d2) rfl)).mono fun e w' hh => ?_
            obtain ⟨y1, T', r, m', nt', rfl, hL⟩ := hh
            obtain ⟨n1, n2, n3, n4⟩ := lift_none (nt := nt) hm hL rfl
            have e := hL.post
            subst e
            have := ptS_fun hL.val k3 (hL.le _ _ rfl) (hL.le _ _ rfl) rfl rfl
            subst this
            exact back hv2 n2 n3
        | some p =>
          cases q with
          | none =>
            refine ⟨u, [], h, fun wr T w x1 x2 x3 bf hm hv1 hv2 hlf hbf hRf hfr => ?_⟩
            obtain ⟨_, rfl⟩ | ⟨_, _, _, _, _, _, e, _⟩ := rdPt_ok hm hv2 hq
            case inr => cases e
            obtain ⟨e, _⟩ | ⟨a1, b1, c1, d1, l1, l2, e, hl1, hl2, hR1⟩ := rdPt_ok hm hv1 hp
            case inl => cases e
            cases e
            obtain ⟨k1, k2, k3⟩ := hR1 (tgs [⟨l1.blk, l1.off, 0⟩, ⟨l2.blk, l2.off, 0⟩, ⟨bf.blk, bf.off, 0⟩]) 0 1 0 0 rfl rfl
            refine (run_calls (B := tb Try.f11.ntmps 3 [] (dsU iv) [] 9) (tb_ok (dsU_ok hiv) ks_nil) Try.func11 (c := Try.f11.body.getD .skip) (by kernel_rfl) (by kernel_rfl) (args := [cv 2, ptS 0 1 c1 d1, ptZ true]) (Nat.le_of_ble_eq_true (by kernel_rfl)) (tgs_lt (l := [⟨l1.blk, l1.off, 0⟩, ⟨l2.blk, l2.off, 0⟩, ⟨bf.blk, bf.off, 0⟩]) (fun b hb => by
                simp only [List.mem_cons, List.not_mem_nil, or_false] at hb
                rcases hb with rfl | rfl | rfl
                · exact hl1
                · exact hl2
                · exact hlf) (fun i hi => by
                have : i = 0 ∨ i = 1 ∨ i = 2 := by simp at hi; omega
                rcases this with rfl | rfl | rfl <;> rfl)) (vs3 (hRf _ 2 0 rfl) k3 (ptZ_R hv2)) (fun i hi => tgs_none (show 3 ≤ i from hi))
              (fun v _ _ => v = ptS 0 1 c1 d1) (Eq.mpr (run_sum_pn iv c1 d1 fun v => v = ptS 0 1 c1 d1) rfl)).mono fun e w' hh => ?_
            obtain ⟨y1, T', r, m', nt', rfl, hL⟩ := hh
            obtain ⟨n1, n2, n3, n4⟩ := lift_none (nt := nt) hm hL rfl
            have e := hL.post
            subst e
            have := ptS_fun hL.val k3 (hL.le _ _ rfl) (hL.le _ _ rfl) rfl rfl
            subst this
            exact back hv1 n2 n3
          | some q =>
            obtain ⟨x1', y1'⟩ := p
            obtain ⟨x2', y2'⟩ := q
            obtain ⟨a, b, c', d, rfl, rfl, rfl, rfl, hN, hS⟩ := h
            have hrf : ∃ r fr, K r fr ∧ ((psum (some (a, b)) (some (c', d)) = none ∧ r = ptZ true ∧ fr = []) ∨ ∃ e f : F, psum (some (a, b)) (some (c', d)) = some (e, f) ∧ r = ptS nt (nt + 1) 7 7 ∧ fr = [[.w7 e.val], [.w7 f.val]]) := by
              cases hps : psum (some (a, b)) (some (c', d)) with
              | none => exact ⟨_, _, hN hps, .inl ⟨rfl, rfl, rfl⟩⟩
              | some z =>
                obtain ⟨e, f⟩ := z
                exact ⟨_, _, hS e f hps, .inr ⟨e, f, rfl, rfl, rfl⟩⟩
            obtain ⟨r0, fr0, hK, hgood⟩ := hrf
            refine ⟨r0, fr0, hK, fun wr T w x1 x2 x3 bf hm hv1 hv2 hlf hbf hRf hfr => ?_⟩
            obtain ⟨e, _⟩ | ⟨_, _, c1, d1, l1, l2, e, hl1, hl2, hR1⟩ := rdPt_ok hm hv1 hp
            case inl => cases e
            cases e
            obtain ⟨e, _⟩ | ⟨_, _, c2, d2, l3, l4, e, hl3, hl4, hR2⟩ := rdPt_ok hm hv2 hq
            case inl => cases e
            cases e
            obtain ⟨k1, k2, k3⟩ := hR1 (tgs [⟨l1.blk, l1.off, 0⟩, ⟨l2.blk, l2.off, 0⟩, ⟨l3.blk, l3.off, 0⟩, ⟨l4.blk, l4.off, 0⟩, ⟨bf.blk, bf.off, 0⟩]) 0 1 0 0 rfl rfl
            obtain ⟨g1, g2, g3⟩ := hR2 (tgs [⟨l1.blk, l1.off, 0⟩, ⟨l2.blk, l2.off, 0⟩, ⟨l3.blk, l3.off, 0⟩, ⟨l4.blk, l4.off, 0⟩, ⟨bf.blk, bf.off, 0⟩]) 2 3 0 0 rfl rfl
            have hmk : MOk (wrB (tb Try.f11.ntmps 5 [] (dsU iv) [] 9)) (tgs [⟨l1.blk, l1.off, 0⟩, ⟨l2.blk, l2.off, 0⟩, ⟨l3.blk, l3.off, 0⟩, ⟨l4.blk, l4.off, 0⟩, ⟨bf.blk, bf.off, 0⟩]) w (memU a.val b.val c'.val d.val) := by
              refine mok_tgs (fun b' hb => ?_) (fun i hi => ?_) fun t l hl => ?_
              · simp only [List.mem_cons, List.not_mem_nil, or_false] at hb
                rcases hb with rfl | rfl | rfl | rfl | rfl
                · exact hl1
                · exact hl2
                · exact hl3
                · exact hl4
                · exact hlf
              · have : i = 0 ∨ i = 1 ∨ i = 2 ∨ i = 3 ∨ i = 4 := by simp at hi; omega
                rcases this with rfl | rfl | rfl | rfl | rfl <;> rfl
              · unfold memU at hl
                rcases lkp_cons hl with ⟨rfl, rfl⟩ | hl
                · exact k1
                rcases lkp_cons hl with ⟨rfl, rfl⟩ | hl
                · exact k2
                rcases lkp_cons hl with ⟨rfl, rfl⟩ | hl
                · exact g1
                rcases lkp_cons hl with ⟨rfl, rfl⟩ | hl
                · exact g2
                rcases lkp_cons hl with ⟨rfl, rfl⟩ | hl
                · exact fd_ok hm hfd hbf (f := 0) rfl
                · exact (lkp_nil hl).elim
            refine (run_calls (B := tb Try.f11.ntmps 5 [] (dsU iv) [] 9) (tb_ok (dsU_ok hiv) ks_nil) Try.func11 (c := Try.f11.body.getD .skip) (by kernel_rfl) (by kernel_rfl) (args := [cv 4, ptS 0 1 c1 d1, ptS 2 3 c2 d2]) (Nat.le_of_ble_eq_true (by kernel_rfl)) hmk (vs3 (hRf _ 4 0 rfl) k3 g3) (fun i hi => tgs_none (show 5 ≤ i from hi))
              (fun v m' _ => (psum (some (a, b)) (some (c', d)) = none ∧ v = ptZ true) ∨ (∃ i j, ((i = 16 ∧ j = 19) ∨ (i = 21 ∧ j = 24)) ∧ ∃ e f : F, psum (some (a, b)) (some (c', d)) = some (e, f) ∧ v = ptS i j 7 7 ∧ ptM m' v = ww2 e.val f.val))
              (Eq.mpr (run_sum_pq iv a.val b.val c'.val d.val c1 d1 c2 d2 (fun v z => (psum (some (a, b)) (some (c', d)) = none ∧ v = ptZ true) ∨ (∃ i j, ((i = 16 ∧ j = 19) ∨ (i = 21 ∧ j = 24)) ∧ ∃ e f : F, psum (some (a, b)) (some (c', d)) = some (e, f) ∧ v = ptS i j 7 7 ∧ z = ww2 e.val f.val)))
                (sumL_ok hiv (fun h0 => .inl ⟨h0, rfl⟩) fun i j hij e f h0 => .inr ⟨i, j, hij, e, f, h0, rfl, rfl⟩))).mono fun e w' hh => ?_
            obtain ⟨y1, T', r, m', nt', rfl, hL⟩ := hh
            rcases hL.post with ⟨h0, rfl⟩ | ⟨i, j, hij, e, f, h0, rfl, hz⟩
            · obtain ⟨n1, n2, n3, n4⟩ := lift_none (nt := nt) hm hL rfl
              rcases hgood with ⟨_, rfl, rfl⟩ | ⟨e', f', k0, _⟩
              · exact back (ptZ_R hL.val) n2 n3
              · rw [h0] at k0; cases k0
            · rcases hgood with ⟨k0, _⟩ | ⟨e', f', k0, rfl, rfl⟩
              case inl => rw [h0] at k0; cases k0
              rw [h0] at k0
              cases k0
              have hz1' := hL.val
              unfold ptS at hz1'
              rw [V.R] at hz1'
              obtain ⟨zs, _, hc, _⟩ := hz1'
              simp only [flat, Pc.cells, List.cons_append, List.nil_append] at hc
              cases hc with
              | cons a1 hc =>
              cases hc with
              | cons a2 hc =>
              cases hc with
              | cons a3 hc =>
              obtain ⟨m1, hb1, _⟩ := a2
              obtain ⟨m2, hb2, _⟩ := a3
              have hq : lkp m' i = some [.w7 e.val] ∧ lkp m' j = some [.w7 f.val] := by
                unfold ptM ptS ww2 at hz
                simpa using hz
              have hn : i ≠ j ∧ 5 ≤ i ∧ 5 ≤ j := by omega
              obtain ⟨T'', o1, o2, o3, o4, o5, o6⟩ := lift_two hm hfr hL rfl (i := i) (j := j) hn.1 (by rcases hij with ⟨rfl, rfl⟩ | ⟨rfl, rfl⟩ <;> rfl) (tgs_none hn.2.1) (tgs_none hn.2.2) hb1 hb2 hq.1 hq.2 (w7_plain _) (w7_plain _)
              exact ⟨T'', _, o1, rfl, ptS_R hL.val hb1 hb2 o2 o3, o4, o5, o6⟩
      · exact h.elim
    · exact h.elim

theorem kSum_ok : KSOk Try.prog 11 kSum where
  enter := sum_enter
  run := by
    intro wr T w m nt args xs K h hm hx hfree hwr
    obtain ⟨v, fr, hK, hrun⟩ := sum_cases args m nt (fun v fr => K v (addF m nt fr) (nt + fr.length)) h
    refine (hrun wr T w xs hm hx fun k _ => hfree (nt + k) (by omega)).mono fun e w' hh => ?_
    obtain ⟨T', y, h1, rfl, h2, h3, h4, h5⟩ := hh
    exact KEnd.of (fr := fr) ⟨T', y, h1, rfl, h2, h3, h4, h5⟩ hfree hK
  cases := sum_cases

end Go.Proofs.Ytlghkkfamhjodaa.Nm

/-
  The law of the sum of two points: its run; it holds.
-/
namespace Go.Proofs.Ytlghkkfamhjodaa.Nm
open Go Go.RowKit

def ksLa : List (Nat × KSpec) := (11, kSum) :: ksLw
theorem ksLa_ok : ∀ f sp, lkp ksLa f = some sp → KSOk Try.prog f sp := by
  intro f sp h
  rcases lkp_cons h with ⟨rfl, rfl⟩ | h
  · exact kSum_ok
  · exact ksLw_ok f sp h

def addB (s t : Tr) (P : Option (Nat × Nat)) : V := .s (.bs (isB (padd s.1 s.2.1 s.2.2 t.1 t.2.1 t.2.2) P))
def addS (x1 y1 z1 x2 y2 z2 : List Nat) (P : Option (Nat × Nat)) (G : V → Prop) : Prop :=
  ∃ s t : Tr, isF x1 y1 z1 s ∧ isF x2 y2 z2 t ∧ G (addB s t P)
def addT (x1 y1 z1 x2 y2 z2 : List Nat) (a b u v : F) (G : V → Prop) : Prop :=
  ∃ s t : Tr, isF x1 y1 z1 s ∧ isF x2 y2 z2 t ∧ ∃ a' b' c d : F, a.val = a'.val ∧ b.val = b'.val ∧ u.val = c.val ∧ v.val = d.val ∧
    (psum (some (a', b')) (some (c, d)) = none → G (addB s t none)) ∧ (∀ e f : F, psum (some (a', b')) (some (c, d)) = some (e, f) → G (addB s t (some (e.val, f.val))))
def addL (x1 y1 z1 x2 y2 z2 : List Nat) (G : V → Prop) : Prop :=
  affC x1 y1 z1 (affC x2 y2 z2 (G (.s (.bl true))) (G (.s (.bl true))) (fun _ _ => G (.s (.bl true))))
    (affC x2 y2 z2 (G (.s (.bl true))) (addS x1 y1 z1 x2 y2 z2 none G) (fun u v => addS x1 y1 z1 x2 y2 z2 (some (u.val, v.val)) G))
    (fun a b => affC x2 y2 z2 (G (.s (.bl true))) (addS x1 y1 z1 x2 y2 z2 (some (a.val, b.val)) G) (fun u v => addT x1 y1 z1 x2 y2 z2 a b u v G))

set_option maxRecDepth 100000 in
theorem run_ladd (x1 y1 z1 x2 y2 z2 : List Nat) (G : V → Prop) : exC2 (tb Try.f4.ntmps 0 [] dsLw ksLa 9) (Try.f4.body.getD .skip) ⟨entryV [.agg [.bt x1, .bt y1, .bt z1], .agg [.bt x2, .bt y2, .bt z2]] 0, [], 0⟩ (endK (tb Try.f4.ntmps 0 [] dsLw ksLa 9) Try.f4.results.toList fun v _ _ => G v) = addL x1 y1 z1 x2 y2 z2 G := by
  kernel_rfl

theorem add_T {x1 y1 z1 x2 y2 z2 : List Nat} {p q : Pt} (h : affOf (nBE x1) (nBE y1) (nBE z1) = some p) (h' : affOf (nBE x2) (nBE y2) (nBE z2) = some q) : ∃ s t : Tr, isF x1 y1 z1 s ∧ isF x2 y2 z2 t ∧ isT (addB s t (pN (psum p q))) := by
  obtain ⟨s, hs, ha⟩ := isF_of h
  obtain ⟨t, ht, hb⟩ := isF_of h'
  obtain ⟨s1, s2, s3⟩ := s
  obtain ⟨t1, t2, t3⟩ := t
  exact ⟨(s1, s2, s3), (t1, t2, t3), hs, ht, isT_bs (isB_of (aff_padd ha hb))⟩

theorem addL_true (x1 y1 z1 x2 y2 z2 : List Nat) : addL x1 y1 z1 x2 y2 z2 isT := by
  have hn : affC x2 y2 z2 (isT (.s (.bl true))) (isT (.s (.bl true))) (fun _ _ => isT (.s (.bl true))) := ⟨fun _ => ⟨isT_lit, isT_lit, fun _ _ => isT_lit⟩, fun _ => isT_lit, fun _ _ _ => isT_lit⟩
  refine ⟨fun _ => ⟨hn, hn, fun _ _ => hn⟩,
    fun h => ⟨fun _ => ⟨isT_lit, isT_lit, fun _ _ => isT_lit⟩, fun h' => add_T (p := none) (q := none) h h', fun u v h' => add_T (p := none) (q := some (u, v)) h h'⟩,
    fun a b h => ⟨fun _ => ⟨isT_lit, isT_lit, fun _ _ => isT_lit⟩, fun h' => ?_, fun u v h' => ?_⟩⟩
  · have := add_T (p := some (a, b)) (q := none) h h'
    rw [psum_none] at this
    exact this
  · obtain ⟨s, t, hs, ht, hT⟩ := add_T (p := some (a, b)) (q := some (u, v)) h h'
    refine ⟨s, t, hs, ht, a, b, u, v, rfl, rfl, rfl, rfl, fun h0 => ?_, fun e f h0 => ?_⟩
    · rw [h0] at hT; exact hT
    · rw [h0] at hT; exact hT

theorem add_calls {T : Tg} {x1 y1 z1 x2 y2 z2 : List Nat} {a b : Value} (w : World) (ha : (V.agg [.bt x1, .bt y1, .bt z1]).R T a) (hb : (V.agg [.bt x2, .bt y2, .bt z2]).R T b) : Calls Try.prog 4 #[a, b] w fun e w' => e = .returned (.bool true) ∧ Below w.heap.size w w' := by
  refine (run_calls (B := tb Try.f4.ntmps 0 [] dsLw ksLa 9) (tb_ok dsLw_ok ksLa_ok) Try.func4 (c := Try.f4.body.getD .skip) (by kernel_rfl) (by kernel_rfl) (args := [.agg [.bt x1, .bt y1, .bt z1], .agg [.bt x2, .bt y2, .bt z2]]) (Nat.le_of_ble_eq_true (by kernel_rfl)) (w0 := w) mok_nil (vs2 (agg3_R ha) (agg3_R hb)) (fun i _ => rfl) (fun v _ _ => isT v) (Eq.mpr (run_ladd x1 y1 z1 x2 y2 z2 isT) (addL_true x1 y1 z1 x2 y2 z2))).mono fun e w' hh => ?_
  obtain ⟨y, T', v, m', nt', rfl, hL⟩ := hh
  obtain ⟨rfl, h⟩ := law_end hL rfl
  exact ⟨rfl, h⟩

end Go.Proofs.Ytlghkkfamhjodaa.Nm

