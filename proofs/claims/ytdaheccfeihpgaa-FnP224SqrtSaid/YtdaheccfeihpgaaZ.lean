import Derived.Test.YtdaheccfeihpgaaX
import Derived.Test.YtdaheccfeihpgaaY
import Derived.Test.YtdaheccfeihpgaaT
/-
  The law of the square root.
-/
/-
  The square root in the program: its run.
-/
namespace Go.Proofs.Ytdaheccfeihpgaa.Nm
open Go Go.RowKit

def ksZ1 : List (Nat × KSpec) := (72, kUn0 sqrtCand) :: (73, kEq) :: ksE2
theorem ksZ1_ok : ∀ f sp, lkp ksZ1 f = some sp → KSOk Try.prog f sp := by
  intro f sp h
  rcases lkp_cons h with ⟨rfl, rfl⟩ | h
  · exact kSqc_ok
  rcases lkp_cons h with ⟨rfl, rfl⟩ | h
  · exact kEq_ok
  · exact ksE2_ok f sp h
def tbZ1 : Tb := tb 0 0 [] dsQ ksZ1 9
theorem tbZ1_ok : TbOk Try.prog tbZ1 := tb_ok dsQ_ok ksZ1_ok
def ksZ2 : List (Nat × KSpec) := (50, inl tbZ1 Try.f50 outs0) :: ksZ1
theorem ksZ2_ok : ∀ f sp, lkp ksZ2 f = some sp → KSOk Try.prog f sp := by
  intro f sp h
  rcases lkp_cons h with ⟨rfl, rfl⟩ | h
  · exact inl_ok tbZ1_ok Try.func50 (by kernel_rfl) (enter_in Try.func50 (by kernel_rfl) (by kernel_rfl)) _
  · exact ksZ1_ok f sp h
def tbZ2 : Tb := tb 0 0 [] dsQ ksZ2 9
theorem tbZ2_ok : TbOk Try.prog tbZ2 := tb_ok dsQ_ok ksZ2_ok
def ksZ3 : List (Nat × KSpec) := (36, inl tbZ2 Try.f36 noOut) :: (28, inl tbE2 Try.f28 noOut) :: ksZ2
theorem ksZ3_ok : ∀ f sp, lkp ksZ3 f = some sp → KSOk Try.prog f sp := by
  intro f sp h
  rcases lkp_cons h with ⟨rfl, rfl⟩ | h
  · exact inl_ok tbZ2_ok Try.func36 (by kernel_rfl) (enter_in Try.func36 (by kernel_rfl) (by kernel_rfl)) _
  rcases lkp_cons h with ⟨rfl, rfl⟩ | h
  · exact inl_ok tbE2_ok Try.func28 (by kernel_rfl) (enter_in Try.func28 (by kernel_rfl) (by kernel_rfl)) _
  · exact ksZ2_ok f sp h

set_option maxRecDepth 100000 in
theorem run_isqrt (x : List Nat) (G : V → Prop) : exC2 (tb Try.f18.ntmps 0 [] dsQ ksZ3 9) (Try.f18.body.getD .skip) ⟨entryV [.agg [.bt x]] 0, [], 0⟩ (endK (tb Try.f18.ntmps 0 [] dsQ ksZ3 9) Try.f18.results.toList fun v _ _ => G v) =
    ((∀ h : nBE x < pp, (sqrtCand ⟨nBE x, h⟩ * sqrtCand ⟨nBE x, h⟩ = ⟨nBE x, h⟩ → G (.tup [.agg [.bt (bytesBE (sqrtCand ⟨nBE x, h⟩).val)], .s (.bl true), .s (.bl true)])) ∧
        (¬ sqrtCand ⟨nBE x, h⟩ * sqrtCand ⟨nBE x, h⟩ = ⟨nBE x, h⟩ → G (.tup [.agg [.bt (bytesBE (0 : F).val)], .s (.bl false), .s (.bl true)]))) ∧
      (¬ nBE x < pp → G (.tup [.agg [.bt Z28], .s (.bl false), .s (.bl false)]))) := by
  kernel_rfl

def dsSL : List (Nat × DSpec) := (19, dIsq) :: dsPl
theorem dsSL_ok : ∀ f sp, lkp dsSL f = some sp → DSOk Try.prog f sp := by
  intro f sp h
  rcases lkp_cons h with ⟨rfl, rfl⟩ | h
  · exact dIsq_ok
  · exact dsPl_ok f sp h
def ksSL : List (Nat × KSpec) := [(18, inl (tb 0 0 [] dsQ ksZ3 9) Try.f18 noOut)]
theorem ksSL_ok : ∀ f sp, lkp ksSL f = some sp → KSOk Try.prog f sp := by
  intro f sp h
  rcases lkp_cons h with ⟨rfl, rfl⟩ | h
  · exact inl_ok (tb_ok dsQ_ok ksZ3_ok) Try.func18 (by kernel_rfl) (enter_in Try.func18 (by kernel_rfl) (by kernel_rfl)) _
  · exact (lkp_nil h).elim

end Go.Proofs.Ytdaheccfeihpgaa.Nm

/-
  The law of the square root: its run; it holds.
-/
namespace Go.Proofs.Ytdaheccfeihpgaa.Nm
open Go Go.RowKit

def sqYes (r x : List Nat) (G : V → Prop) : Prop :=
  ((true == isqN (nBE x)) = true → (decide (nBE r < PN) = true → G (.s (.bs (decide (timesN (nBE r) (nBE r) = nBE x))))) ∧ (decide (nBE r < PN) = !true → G (.s (.bl false)))) ∧ ((true == isqN (nBE x)) = !true → G (.s (.bl false)))
def sqNo (x : List Nat) (G : V → Prop) : Prop :=
  ((false == isqN (nBE x)) = true → G (.s (.bl true))) ∧ ((false == isqN (nBE x)) = !true → G (.s (.bl false)))
def sqLw (x : List Nat) (G : V → Prop) : Prop :=
  ((!decide (nBE x < PN)) = true → G (.s (.bl true))) ∧ ((!decide (nBE x < PN)) = false →
    (∀ h : nBE x < pp, (sqrtCand ⟨nBE x, h⟩ * sqrtCand ⟨nBE x, h⟩ = ⟨nBE x, h⟩ → sqYes (bytesBE (sqrtCand ⟨nBE x, h⟩).val) x G) ∧ (¬ sqrtCand ⟨nBE x, h⟩ * sqrtCand ⟨nBE x, h⟩ = ⟨nBE x, h⟩ → sqNo x G)) ∧
    (¬ nBE x < pp → G (.s (.bl false))))

set_option maxRecDepth 100000 in
theorem run_lsqrt (x : List Nat) (G : V → Prop) : exC2 (tb Try.f4.ntmps 0 [] dsSL ksSL 9) (Try.f4.body.getD .skip) ⟨entryV [.agg [.bt x]] 0, [], 0⟩ (endK (tb Try.f4.ntmps 0 [] dsSL ksSL 9) Try.f4.results.toList fun v _ _ => G v) = sqLw x G := by
  kernel_rfl

theorem isqN_iff (a : F) : isqN a.val = true ↔ isSq a := by
  have h0 : a.val = 0 ↔ a = 0 := ⟨fun h => Fin.ext (by rw [h, fval_zero]), fun h => by rw [h, fval_zero]⟩
  have h1 : a.val ^ eE % PN = 1 ↔ fpow a eE = 1 := by
    have e : (fpow a eE).val = a.val ^ eE % PN := fpow_val a eE
    rw [← e]
    exact ⟨fun h => Fin.ext (by rw [h, fval_one]), fun h => by rw [h, fval_one]⟩
  unfold isqN isqE isSq
  rw [Bool.or_eq_true, decide_eq_true_iff, decide_eq_true_iff, h0, h1]

theorem sqLw_true (x : List Nat) : sqLw x isT := by
  refine ⟨fun _ => isT_lit, fun hd => ⟨fun h => ⟨fun hs => ?_, fun hs => ?_⟩, fun h => ?_⟩⟩
  · have hq : isqN (nBE x) = true := (isqN_iff ⟨nBE x, h⟩).2 (sqrt_no hs)
    have hr : nBE (bytesBE (sqrtCand ⟨nBE x, h⟩).val) = (sqrtCand ⟨nBE x, h⟩).val := nBE_bytesBE (Nat.lt_trans (sqrtCand ⟨nBE x, h⟩).isLt (by decide))
    refine ⟨fun _ => ⟨fun _ => isT_bs ?_, fun hn => ?_⟩, fun hn => ?_⟩
    · rw [hr, v_times, hs]
      exact decide_eq_true rfl
    · rw [hr, decide_eq_true (show (sqrtCand ⟨nBE x, h⟩).val < PN from (sqrtCand ⟨nBE x, h⟩).isLt)] at hn
      cases hn
    · rw [hq] at hn; cases hn
  · have hq : isqN (nBE x) = false := by
      cases hc : isqN (nBE x) with
      | false => rfl
      | true => exact absurd (sqrt_yes ((isqN_iff ⟨nBE x, h⟩).1 hc)) hs
    exact ⟨fun _ => isT_lit, fun hn => by rw [hq] at hn; cases hn⟩
  · rw [decide_eq_false (show ¬ nBE x < PN from h)] at hd; cases hd

theorem sqrt_calls {T : Tg} {x : List Nat} {a : Value} (w : World) (ha : (V.agg [.bt x]).R T a) : Calls Try.prog 4 #[a] w fun e w' => e = .returned (.bool true) ∧ Below w.heap.size w w' := by
  have ha' : (V.agg [.bt x]).R (tgs []) a := by
    rw [V.R] at ha ⊢
    obtain ⟨xs, rfl, h1, h2⟩ := ha
    exact ⟨xs, rfl, h1.any (bt_noTag _), h2⟩
  refine (run_calls (B := tb Try.f4.ntmps 0 [] dsSL ksSL 9) (tb_ok dsSL_ok ksSL_ok) Try.func4 (c := Try.f4.body.getD .skip) (by kernel_rfl) (by kernel_rfl) (args := [.agg [.bt x]]) (Nat.le_of_ble_eq_true (by kernel_rfl)) (w0 := w) mok_nil (vs1 ha') (fun i _ => rfl) (fun v _ _ => isT v) (Eq.mpr (run_lsqrt x isT) (sqLw_true x))).mono fun e w' hh => ?_
  obtain ⟨y, T', v, m', nt', rfl, hL⟩ := hh
  obtain ⟨rfl, h⟩ := law_end hL rfl
  exact ⟨rfl, h⟩

end Go.Proofs.Ytdaheccfeihpgaa.Nm

