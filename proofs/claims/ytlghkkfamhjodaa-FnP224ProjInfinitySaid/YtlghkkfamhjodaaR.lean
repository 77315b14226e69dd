import Derived.Test.YtlghkkfamhjodaaQ
/-
  The laws.
-/
/-
  The thin package's contracts.
-/
namespace Go.Proofs.Ytlghkkfamhjodaa.Nm
open Go Go.RowKit

set_option maxRecDepth 100000 in
theorem run_psel1 (x1 y1 z1 x2 y2 z2 : List Nat) (G : V → Prop) : exC2 (tb Try.f7.ntmps 0 [] dsQ ksI3 9) (Try.f7.body.getD .skip) ⟨entryV [.agg [.bt x1, .bt y1, .bt z1], .agg [.bt x2, .bt y2, .bt z2], .s (.lit .i64 1)] 0, [], 0⟩ (endK (tb Try.f7.ntmps 0 [] dsQ ksI3 9) Try.f7.results.toList fun v _ _ => G v) =
    pjL x1 y1 z1 (fun X1 Y1 Z1 => pjL x2 y2 z2 (fun _ _ _ => G (.tup [tri (X1, Y1, Z1), .s (.bl true)])) (G (.tup [tri0, .s (.bl false)]))) (pjL x2 y2 z2 (fun _ _ _ => G (.tup [tri0, .s (.bl false)])) (G (.tup [tri0, .s (.bl false)]))) := by
  kernel_rfl
set_option maxRecDepth 100000 in
theorem run_psel0 (x1 y1 z1 x2 y2 z2 : List Nat) (G : V → Prop) : exC2 (tb Try.f7.ntmps 0 [] dsQ ksI3 9) (Try.f7.body.getD .skip) ⟨entryV [.agg [.bt x1, .bt y1, .bt z1], .agg [.bt x2, .bt y2, .bt z2], .s (.lit .i64 0)] 0, [], 0⟩ (endK (tb Try.f7.ntmps 0 [] dsQ ksI3 9) Try.f7.results.toList fun v _ _ => G v) =
    pjL x1 y1 z1 (fun _ _ _ => pjL x2 y2 z2 (fun X2 Y2 Z2 => G (.tup [tri (X2, Y2, Z2), .s (.bl true)])) (G (.tup [tri0, .s (.bl false)]))) (pjL x2 y2 z2 (fun _ _ _ => G (.tup [tri0, .s (.bl false)])) (G (.tup [tri0, .s (.bl false)]))) := by
  kernel_rfl

/-- Numbers below the prime. -/
def isF (x y z : List Nat) (t : Tr) : Prop := nBE x = t.1.val ∧ nBE y = t.2.1.val ∧ nBE z = t.2.2.val

theorem pjL_F {x y z : List Nat} {t : Tr} {K : F → F → F → Prop} {Kf : Prop} (h : isF x y z t) (hK : K t.1 t.2.1 t.2.2) : pjL x y z K Kf := by
  obtain ⟨X, Y, Z⟩ := t
  obtain ⟨h1, h2, h3⟩ := h
  simp only at h1 h2 h3 hK
  have hx : nBE x < pp := by rw [h1]; exact X.isLt
  have hy : nBE y < pp := by rw [h2]; exact Y.isLt
  have hz : nBE z < pp := by rw [h3]; exact Z.isLt
  refine ⟨fun hx' => ⟨fun hy' => ⟨fun hz' => ?_, fun hn => absurd hz hn⟩, fun hn => absurd hy hn⟩, fun hn => absurd hx hn⟩
  have e1 : (⟨nBE x, hx'⟩ : F) = X := Fin.ext h1
  have e2 : (⟨nBE y, hy'⟩ : F) = Y := Fin.ext h2
  have e3 : (⟨nBE z, hz'⟩ : F) = Z := Fin.ext h3
  rw [e1, e2, e3]
  exact hK

/-- A function of two points by three coordinates, both with coordinates below the prime. -/
def kP2 (f : Tr → Tr → Tr) : KSpec where
  run := fun args m nt K => match args with
    | [.agg [.bt x1, .bt y1, .bt z1], .agg [.bt x2, .bt y2, .bt z2]] => ∃ s t : Tr, isF x1 y1 z1 s ∧ isF x2 y2 z2 t ∧ K (.tup [tri (f s t), .s (.bl true)]) m nt
    | _ => False
  outs := noOut
def kP3 : KSpec where
  run := fun args m nt K => match args with
    | [.agg [.bt x1, .bt y1, .bt z1], .agg [.bt x2, .bt y2, .bt z2], .s (.lit .i64 (.ofNat c))] => onb (Nat.ble c 1) (∃ s t : Tr, isF x1 y1 z1 s ∧ isF x2 y2 z2 t ∧ K (.tup [tri (bif Nat.beq c 1 then s else t), .s (.bl true)]) m nt)
    | _ => False
  outs := noOut

theorem tri_end {B : Tb} {wr : Nat → Bool} {T T' : Tg} {w w' : World} {m m' : Mem} {nt nt' : Nat} {K0 K : V → Mem → Nat → Prop} {y : Value} {t : Tr} (hm : MOk wr T w m) (hfree : ∀ t, nt ≤ t → T t = none) (hL : Left B (tgs []) w w' K0 y T' (.tup [tri t, .s (.bl true)]) m' nt') (houts : B.outs = []) (o : List Nat) (hK : K (.tup [tri t, .s (.bl true)]) m nt) : KEnd wr T w nt o K (.returned y) w' := by
  obtain ⟨n1, n2, n3, n4⟩ := lift_none (nt := nt) hm hL houts
  have hval := hL.val
  rw [V.R] at hval
  obtain ⟨ys, rfl, hys⟩ := hval
  obtain ⟨z1, z2, rfl, hz1, hz2⟩ := vsr2 hys
  refine KEnd.of (fr := []) ⟨T, _, n1, rfl, ?_, n2, n3, n4⟩ hfree hK
  rw [V.R]
  exact ⟨_, rfl, vs2 (agg3_R hz1) (by rw [V.R]; exact vr_s hz2)⟩

theorem kPadd_ok : KSOk Try.prog 10 (kP2 fun s t => padd s.1 s.2.1 s.2.2 t.1 t.2.1 t.2.2) where
  enter := enter_in Try.func10 (by kernel_rfl) (by kernel_rfl)
  run := by
    intro wr T w m nt args xs K h hm hx hfree hwr
    simp only [kP2] at h
    split at h
    · rename_i x1 y1 z1 x2 y2 z2
      obtain ⟨s, t, hs, ht, hK⟩ := h
      obtain ⟨v1, v2, rfl, h1, h2⟩ := vsr2 hx
      refine (run_calls (B := tb Try.f10.ntmps 0 [] dsQ ksI3 9) (tb_ok dsQ_ok ksI3_ok) Try.func10 (c := Try.f10.body.getD .skip) (by kernel_rfl) (by kernel_rfl) (args := [.agg [.bt x1, .bt y1, .bt z1], .agg [.bt x2, .bt y2, .bt z2]]) (Nat.le_of_ble_eq_true (by kernel_rfl)) mok_nil (vs2 (agg3_R h1) (agg3_R h2)) (fun i _ => rfl)
        (fun v _ _ => v = .tup [tri (padd s.1 s.2.1 s.2.2 t.1 t.2.1 t.2.2), .s (.bl true)]) (Eq.mpr (run_padd x1 y1 z1 x2 y2 z2 (fun v => v = .tup [tri (padd s.1 s.2.1 s.2.2 t.1 t.2.1 t.2.2), .s (.bl true)])) (pjL_F hs (pjL_F ht rfl)))).mono fun e w' hh => ?_
      obtain ⟨y, T', v, m', nt', rfl, hL⟩ := hh
      have hv := hL.post
      subst hv
      exact tri_end hm hfree hL rfl _ hK
    · exact h.elim

theorem kPsel_ok : KSOk Try.prog 7 kP3 where
  enter := enter_in Try.func7 (by kernel_rfl) (by kernel_rfl)
  run := by
    intro wr T w m nt args xs K h hm hx hfree hwr
    simp only [kP3] at h
    split at h
    · rename_i x1 y1 z1 x2 y2 z2 c
      obtain ⟨hc, s, t, hs, ht, hK⟩ := onb_true h
      have hc := Nat.le_of_ble_eq_true hc
      obtain ⟨v1, v2, v3, rfl, h1, h2, h3⟩ := vsr3 hx
      have hcs : c = 0 ∨ c = 1 := by omega
      rcases hcs with rfl | rfl
      · refine (run_calls (B := tb Try.f7.ntmps 0 [] dsQ ksI3 9) (tb_ok dsQ_ok ksI3_ok) Try.func7 (c := Try.f7.body.getD .skip) (by kernel_rfl) (by kernel_rfl) (args := [.agg [.bt x1, .bt y1, .bt z1], .agg [.bt x2, .bt y2, .bt z2], .s (.lit .i64 0)]) (Nat.le_of_ble_eq_true (by kernel_rfl)) mok_nil (vs3 (agg3_R h1) (agg3_R h2) (by rw [V.R]; exact vr_s h3)) (fun i _ => rfl)
          (fun v _ _ => v = .tup [tri t, .s (.bl true)]) (Eq.mpr (run_psel0 x1 y1 z1 x2 y2 z2 (fun v => v = .tup [tri t, .s (.bl true)])) (pjL_F hs (pjL_F ht rfl)))).mono fun e w' hh => ?_
        obtain ⟨y, T', v, m', nt', rfl, hL⟩ := hh
        have hv := hL.post
        subst hv
        exact tri_end hm hfree hL rfl _ hK
      · refine (run_calls (B := tb Try.f7.ntmps 0 [] dsQ ksI3 9) (tb_ok dsQ_ok ksI3_ok) Try.func7 (c := Try.f7.body.getD .skip) (by kernel_rfl) (by kernel_rfl) (args := [.agg [.bt x1, .bt y1, .bt z1], .agg [.bt x2, .bt y2, .bt z2], .s (.lit .i64 1)]) (Nat.le_of_ble_eq_true (by kernel_rfl)) mok_nil (vs3 (agg3_R h1) (agg3_R h2) (by rw [V.R]; exact vr_s h3)) (fun i _ => rfl)
          (fun v _ _ => v = .tup [tri s, .s (.bl true)]) (Eq.mpr (run_psel1 x1 y1 z1 x2 y2 z2 (fun v => v = .tup [tri s, .s (.bl true)])) (pjL_F hs (pjL_F ht rfl)))).mono fun e w' hh => ?_
        obtain ⟨y, T', v, m', nt', rfl, hL⟩ := hh
        have hv := hL.post
        subst hv
        exact tri_end hm hfree hL rfl _ hK
    · exact h.elim

def dPinf : DSpec := fun args _ _ => match args with
  | [] => some (tri (0, 1, 0), [])
  | _ => none

theorem dPinf_ok : DSOk Try.prog 12 dPinf where
  enter := enter_in Try.func12 (by kernel_rfl) (by kernel_rfl)
  run := by
    intro wr T w m nt args xs v fr h hm hx hfr
    simp only [dPinf] at h
    split at h
    · simp only [Option.some.injEq, Prod.mk.injEq] at h
      obtain ⟨rfl, rfl⟩ := h
      have hx' : xs = [] := by rw [VsR] at hx; exact hx
      subst hx'
      refine (run_calls (B := tb Try.f12.ntmps 0 [] dsQ ksI3 9) (tb_ok dsQ_ok ksI3_ok) Try.func12 (c := Try.f12.body.getD .skip) (by kernel_rfl) (by kernel_rfl) (args := []) (Nat.le_of_ble_eq_true (by kernel_rfl)) mok_nil hx (fun i _ => rfl) (fun v _ _ => v = tri (0, 1, 0)) (Eq.mpr (run_pinf (fun v => v = tri (0, 1, 0))) rfl)).mono fun e w' hh => ?_
      obtain ⟨y, T', v, m', nt', rfl, hL⟩ := hh
      have hv := hL.post
      subst hv
      obtain ⟨n1, n2, n3, n4⟩ := lift_none (nt := nt) hm hL rfl
      exact ⟨T, y, n1, rfl, agg3_R hL.val, n2, n3, n4⟩
    · cases h

/-! ### The laws -/
def dsLw : List (Nat × DSpec) := [(8, dIs), (12, dPinf), (9, dOf)]
theorem dsLw_ok : ∀ f sp, lkp dsLw f = some sp → DSOk Try.prog f sp := by
  intro f sp h
  rcases lkp_cons h with ⟨rfl, rfl⟩ | h
  · exact dIs_ok
  rcases lkp_cons h with ⟨rfl, rfl⟩ | h
  · exact dPinf_ok
  rcases lkp_cons h with ⟨rfl, rfl⟩ | h
  · exact dOf_ok
  · exact (lkp_nil h).elim
def ksLw : List (Nat × KSpec) := [(6, kAff), (10, kP2 fun s t => padd s.1 s.2.1 s.2.2 t.1 t.2.1 t.2.2), (7, kP3)]
theorem ksLw_ok : ∀ f sp, lkp ksLw f = some sp → KSOk Try.prog f sp := by
  intro f sp h
  rcases lkp_cons h with ⟨rfl, rfl⟩ | h
  · exact kAff_ok
  rcases lkp_cons h with ⟨rfl, rfl⟩ | h
  · exact kPadd_ok
  rcases lkp_cons h with ⟨rfl, rfl⟩ | h
  · exact kPsel_ok
  · exact (lkp_nil h).elim

end Go.Proofs.Ytlghkkfamhjodaa.Nm

/-
  The laws of choice and of the point infinitely far: their runs.
-/
namespace Go.Proofs.Ytlghkkfamhjodaa.Nm
open Go Go.RowKit

def isB (t : Tr) (p : Option (Nat × Nat)) : Bool := decide (affN (nBE (bytesBE t.1.val)) (nBE (bytesBE t.2.1.val)) (nBE (bytesBE t.2.2.val)) = some p)

def infT (x y z : List Nat) (P : Option (Nat × Nat)) (G : V → Prop) : Prop :=
  ∃ s t : Tr, isF x y z s ∧ isF (bytesBE (0 : F).val) (bytesBE (1 : F).val) (bytesBE (0 : F).val) t ∧
    (isB (0, 1, 0) none = true → G (.s (.bs (isB (padd s.1 s.2.1 s.2.2 t.1 t.2.1 t.2.2) P)))) ∧ (isB (0, 1, 0) none = !true → G (.s (.bl false)))
def infL (x y z : List Nat) (G : V → Prop) : Prop :=
  affC x y z (G (.s (.bl true))) (infT x y z none G) (fun u v => infT x y z (some (u.val, v.val)) G)

set_option maxRecDepth 100000 in
theorem run_linf (x y z : List Nat) (G : V → Prop) : exC2 (tb Try.f5.ntmps 0 [] dsLw ksLw 9) (Try.f5.body.getD .skip) ⟨entryV [.agg [.bt x, .bt y, .bt z]] 0, [], 0⟩ (endK (tb Try.f5.ntmps 0 [] dsLw ksLw 9) Try.f5.results.toList fun v _ _ => G v) = infL x y z G := by
  kernel_rfl

def selS (x1 y1 z1 x2 y2 z2 : List Nat) (f : Bool) (P Q : Option (Nat × Nat)) (G : V → Prop) : Prop :=
  (f = true → ∃ s t : Tr, isF x1 y1 z1 s ∧ isF x2 y2 z2 t ∧ G (.s (.bs (isB s P)))) ∧ (f = false → ∃ s t : Tr, isF x1 y1 z1 s ∧ isF x2 y2 z2 t ∧ G (.s (.bs (isB t Q))))
def selL (x1 y1 z1 x2 y2 z2 : List Nat) (f : Bool) (G : V → Prop) : Prop :=
  affC x1 y1 z1 (affC x2 y2 z2 (G (.s (.bl true))) (G (.s (.bl true))) (fun _ _ => G (.s (.bl true))))
    (affC x2 y2 z2 (G (.s (.bl true))) (selS x1 y1 z1 x2 y2 z2 f none none G) (fun u v => selS x1 y1 z1 x2 y2 z2 f none (some (u.val, v.val)) G))
    (fun a b => affC x2 y2 z2 (G (.s (.bl true))) (selS x1 y1 z1 x2 y2 z2 f (some (a.val, b.val)) none G) (fun u v => selS x1 y1 z1 x2 y2 z2 f (some (a.val, b.val)) (some (u.val, v.val)) G))

set_option maxRecDepth 100000 in
theorem run_lsel (x1 y1 z1 x2 y2 z2 : List Nat) (f : Bool) (G : V → Prop) : exC2 (tb Try.f3.ntmps 0 [] dsLw ksLw 9) (Try.f3.body.getD .skip) ⟨entryV [.agg [.bt x1, .bt y1, .bt z1], .agg [.bt x2, .bt y2, .bt z2], .s (.bs f)] 0, [], 0⟩ (endK (tb Try.f3.ntmps 0 [] dsLw ksLw 9) Try.f3.results.toList fun v _ _ => G v) = selL x1 y1 z1 x2 y2 z2 f G := by
  kernel_rfl

end Go.Proofs.Ytlghkkfamhjodaa.Nm

/-
  The laws of choice and of the point infinitely far: they hold.
-/
namespace Go.Proofs.Ytlghkkfamhjodaa.Nm
open Go Go.RowKit

def pN : Pt → Option (Nat × Nat)
  | none => none
  | some (u, v) => some (u.val, v.val)

theorem nBE_val (a : F) : nBE (bytesBE a.val) = a.val := nBE_bytesBE (Nat.lt_trans a.isLt (by decide))

theorem isB_of {t : Tr} {p : Pt} (h : aff t = some p) : isB t (pN p) = true := by
  obtain ⟨X, Y, Z⟩ := t
  unfold isB
  simp only [nBE_val]
  refine decide_eq_true ?_
  unfold affN
  rw [affOf_F, h]
  cases p with
  | none => rfl
  | some q => rfl

theorem isF_of {x y z : List Nat} {p : Pt} (h : affOf (nBE x) (nBE y) (nBE z) = some p) : ∃ t : Tr, isF x y z t ∧ aff t = some p := by
  unfold affOf at h
  split at h
  · rename_i hh
    exact ⟨_, ⟨rfl, rfl, rfl⟩, h⟩
  · cases h

/-- The answer is 'true'. -/
def isT (v : V) : Prop := ∃ s, v = .s s ∧ ∀ T u, s.R T u → u = .bool true
theorem isT_lit : isT (.s (.bl true)) := ⟨_, rfl, fun _ _ h => h⟩
theorem isT_bs {b : Bool} (h : b = true) : isT (.s (.bs b)) := ⟨_, rfl, fun T u hu => by subst h; exact hu⟩

theorem aff_inf : aff (0, 1, 0) = some none := aff_far (by decide +kernel)

theorem isF_tri (t : Tr) : isF (bytesBE t.1.val) (bytesBE t.2.1.val) (bytesBE t.2.2.val) t := by
  unfold isF
  exact ⟨nBE_val t.1, nBE_val t.2.1, nBE_val t.2.2⟩

theorem isF_010 : isF (bytesBE (0 : F).val) (bytesBE (1 : F).val) (bytesBE (0 : F).val) (0, 1, 0) := by
  simp only [isF, nBE_val, and_self]

theorem inf_T {x y z : List Nat} {p : Pt} (h : affOf (nBE x) (nBE y) (nBE z) = some p) : infT x y z (pN p) isT := by
  obtain ⟨s, hs, ha⟩ := isF_of h
  refine ⟨s, (0, 1, 0), hs, isF_010, fun _ => isT_bs ?_, fun h => ?_⟩
  · have := aff_padd ha aff_inf
    rw [psum_none] at this
    exact isB_of this
  · have e : isB (0, 1, 0) (pN none) = true := isB_of (p := none) aff_inf
    have e : isB (0, 1, 0) none = true := e
    rw [e] at h
    cases h

theorem infL_true (x y z : List Nat) : infL x y z isT :=
  ⟨fun _ => ⟨isT_lit, isT_lit, fun _ _ => isT_lit⟩, fun h => inf_T (p := none) h, fun u v h => inf_T (p := some (u, v)) h⟩

theorem sel_T {x1 y1 z1 x2 y2 z2 : List Nat} {f : Bool} {p q : Pt} (h : affOf (nBE x1) (nBE y1) (nBE z1) = some p) (h' : affOf (nBE x2) (nBE y2) (nBE z2) = some q) : selS x1 y1 z1 x2 y2 z2 f (pN p) (pN q) isT := by
  obtain ⟨s, hs, ha⟩ := isF_of h
  obtain ⟨t, ht, hb⟩ := isF_of h'
  exact ⟨fun _ => ⟨s, t, hs, ht, isT_bs (isB_of ha)⟩, fun _ => ⟨s, t, hs, ht, isT_bs (isB_of hb)⟩⟩

theorem selL_true (x1 y1 z1 x2 y2 z2 : List Nat) (f : Bool) : selL x1 y1 z1 x2 y2 z2 f isT := by
  have hn : affC x2 y2 z2 (isT (.s (.bl true))) (isT (.s (.bl true))) (fun _ _ => isT (.s (.bl true))) := ⟨fun _ => ⟨isT_lit, isT_lit, fun _ _ => isT_lit⟩, fun _ => isT_lit, fun _ _ _ => isT_lit⟩
  exact ⟨fun _ => ⟨hn, hn, fun _ _ => hn⟩,
    fun h => ⟨fun _ => ⟨isT_lit, isT_lit, fun _ _ => isT_lit⟩, fun h' => sel_T (p := none) (q := none) h h', fun u v h' => sel_T (p := none) (q := some (u, v)) h h'⟩,
    fun a b h => ⟨fun _ => ⟨isT_lit, isT_lit, fun _ _ => isT_lit⟩, fun h' => sel_T (p := some (a, b)) (q := none) h h', fun u v h' => sel_T (p := some (a, b)) (q := some (u, v)) h h'⟩⟩

/-- What the frame wants of a law: it returns true, and memory has only grown. -/
theorem law_end {B : Tb} {w w' : World} {y : Value} {T' : Tg} {v : V} {m' : Mem} {nt' : Nat} (hL : Left B (tgs []) w w' (fun v _ _ => isT v) y T' v m' nt') (houts : B.outs = []) : y = .bool true ∧ Below w.heap.size w w' := by
  obtain ⟨s, rfl, h⟩ := hL.post
  exact ⟨h T' y (vr_s hL.val), left_below hL houts⟩

theorem inf_calls {T : Tg} {x y z : List Nat} {a : Value} (w : World) (ha : (V.agg [.bt x, .bt y, .bt z]).R T a) : Calls Try.prog 5 #[a] w fun e w' => e = .returned (.bool true) ∧ Below w.heap.size w w' := by
  refine (run_calls (B := tb Try.f5.ntmps 0 [] dsLw ksLw 9) (tb_ok dsLw_ok ksLw_ok) Try.func5 (c := Try.f5.body.getD .skip) (by kernel_rfl) (by kernel_rfl) (args := [.agg [.bt x, .bt y, .bt z]]) (Nat.le_of_ble_eq_true (by kernel_rfl)) (w0 := w) mok_nil (vs1 (agg3_R ha)) (fun i _ => rfl) (fun v _ _ => isT v) (Eq.mpr (run_linf x y z isT) (infL_true x y z))).mono fun e w' hh => ?_
  obtain ⟨y, T', v, m', nt', rfl, hL⟩ := hh
  obtain ⟨rfl, h⟩ := law_end hL rfl
  exact ⟨rfl, h⟩

theorem sel_calls {T : Tg} {x1 y1 z1 x2 y2 z2 : List Nat} {a b : Value} (f : Bool) (w : World) (ha : (V.agg [.bt x1, .bt y1, .bt z1]).R T a) (hb : (V.agg [.bt x2, .bt y2, .bt z2]).R T b) : Calls Try.prog 3 #[a, b, .bool f] w fun e w' => e = .returned (.bool true) ∧ Below w.heap.size w w' := by
  refine (run_calls (B := tb Try.f3.ntmps 0 [] dsLw ksLw 9) (tb_ok dsLw_ok ksLw_ok) Try.func3 (c := Try.f3.body.getD .skip) (by kernel_rfl) (by kernel_rfl) (args := [.agg [.bt x1, .bt y1, .bt z1], .agg [.bt x2, .bt y2, .bt z2], .s (.bs f)]) (Nat.le_of_ble_eq_true (by kernel_rfl)) (w0 := w) mok_nil (vs3 (agg3_R ha) (agg3_R hb) (by rw [V.R]; rfl)) (fun i _ => rfl) (fun v _ _ => isT v) (Eq.mpr (run_lsel x1 y1 z1 x2 y2 z2 f isT) (selL_true x1 y1 z1 x2 y2 z2 f))).mono fun e w' hh => ?_
  obtain ⟨y, T', v, m', nt', rfl, hL⟩ := hh
  obtain ⟨rfl, h⟩ := law_end hL rfl
  exact ⟨rfl, h⟩

end Go.Proofs.Ytlghkkfamhjodaa.Nm

