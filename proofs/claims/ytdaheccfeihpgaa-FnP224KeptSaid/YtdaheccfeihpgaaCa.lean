import Derived.Test.YtdaheccfeihpgaaRa
import Derived.Test.YtdaheccfeihpgaaS
/-
  The law on the order of a sum.
-/
/-
  A sum does not depend on the order of the points: the law's runs.
-/
namespace Go.Proofs.Ytdaheccfeihpgaa.Nm
open Go Go.RowKit

def dsLc : List (Nat × DSpec) := [(8, dOf), (13, dSeq)]
theorem dsLc_ok : ∀ f sp, lkp dsLc f = some sp → DSOk Try.prog f sp := by
  intro f sp h
  rcases lkp_cons h with ⟨rfl, rfl⟩ | h
  · exact dOf_ok
  rcases lkp_cons h with ⟨rfl, rfl⟩ | h
  · exact dSeq_ok
  · exact (lkp_nil h).elim
def ksLc0 : List (Nat × KSpec) := [(22, kRd), (26, kSm)]
theorem ksLc0_ok : ∀ f sp, lkp ksLc0 f = some sp → KSOk Try.prog f sp := by
  intro f sp h
  rcases lkp_cons h with ⟨rfl, rfl⟩ | h
  · exact kRd_ok
  rcases lkp_cons h with ⟨rfl, rfl⟩ | h
  · exact kSm_ok
  · exact (lkp_nil h).elim
def tbLc0 : Tb := tb 0 0 [] dsLc ksLc0 9
theorem tbLc0_ok : TbOk Try.prog tbLc0 := tb_ok dsLc_ok ksLc0_ok
def ksLc1 : List (Nat × KSpec) := (24, inl tbLc0 Try.f24 noOut) :: ksLc0
theorem ksLc1_ok : ∀ f sp, lkp ksLc1 f = some sp → KSOk Try.prog f sp := by
  intro f sp h
  rcases lkp_cons h with ⟨rfl, rfl⟩ | h
  · exact inl_ok tbLc0_ok Try.func24 (by kernel_rfl) (enter_in Try.func24 (by kernel_rfl) (by kernel_rfl)) _
  · exact ksLc0_ok f sp h
def tbLc1 : Tb := tb 0 0 [] dsLc ksLc1 9
theorem tbLc1_ok : TbOk Try.prog tbLc1 := tb_ok dsLc_ok ksLc1_ok
def ksLc2 : List (Nat × KSpec) := (25, inl tbLc1 Try.f25 noOut) :: ksLc1
theorem ksLc2_ok : ∀ f sp, lkp ksLc2 f = some sp → KSOk Try.prog f sp := by
  intro f sp h
  rcases lkp_cons h with ⟨rfl, rfl⟩ | h
  · exact inl_ok tbLc1_ok Try.func25 (by kernel_rfl) (enter_in Try.func25 (by kernel_rfl) (by kernel_rfl)) _
  · exact ksLc1_ok f sp h

def pts1 (bs : List Int) (Ky Kn : Prop) : Prop := (isPt bs → ∀ (_ : Bool) (_ _ : Nat), Ky) ∧ (¬ isPt bs → ∀ (_ : Bool) (_ _ : Nat), Kn)
def noPt (Kn : Prop) : Prop := ∀ (_ : Bool) (_ _ : Nat), Kn
def sm (l1 bs : List Int) (K : Pt → Prop) : Prop := ∃ P Q : Pt, l1 = encN P ∧ bs = encN Q ∧ onP P ∧ onP Q ∧ (psum P Q = none → K none) ∧ (∀ u v : F, psum P Q = some (u, v) → onc u v → K (some (u, v)))
def alk (s1 s2 : List Int) (G : V → Prop) : Prop := ((s1 == s2) = true → pts1 s1 (G (.s (.bl true))) (G (.s (.bl false)))) ∧ ((s1 == s2) = !true → G (.s (.bl false)))
def comM (l1 l2 : List Int) (G : V → Prop) : Prop := sm l1 l2 fun R1 => sm l2 l1 fun R2 => alk (encN R1) (encN R2) G
def tooL (n : Nat) : Bool := decide ((2147483647 : Int) < (n : Int))
abbrev b57 (z : Int) (x y : List Nat) : List Int := z :: ((x.map fun (b : Nat) => (b : Int)) ++ ((y.map fun (b : Nat) => (b : Int)) ++ []))
noncomputable abbrev coB : Code := Try.f6.body.getD .skip
noncomputable abbrev tbCo : Tb := tb Try.f6.ntmps 2 [] dsLc ksLc2 9
theorem tbCo_ok : TbOk Try.prog tbCo := tb_ok dsLc_ok ksLc2_ok

set_option maxRecDepth 100000 in
theorem run_co_NN (G : V → Prop) : exC2 tbCo coB ⟨entryV [.s (.snil), .s (.snil)] 0, [], 2⟩ (endK tbCo Try.f6.results.toList fun v _ _ => G v) =
    noPt (G (.s (.bl true))) := by
  kernel_rfl
set_option maxRecDepth 100000 in
theorem run_co_NV (n2 : Nat) (G : V → Prop) : exC2 tbCo coB ⟨entryV [.s (.snil), .s (.slv 1 n2)] 0, [], 2⟩ (endK tbCo Try.f6.results.toList fun v _ _ => G v) =
    ((tooL n2 = true → G (.s (.bl true))) ∧ (tooL n2 = false → noPt (G (.s (.bl true))))) := by
  kernel_rfl
set_option maxRecDepth 100000 in
theorem run_co_NA (z2 : Int) (G : V → Prop) : exC2 tbCo coB ⟨entryV [.s (.snil), .s (.slu 1 0 1)] 0, [(1, [.c (.sym .u8 z2)])], 2⟩ (endK tbCo Try.f6.results.toList fun v _ _ => G v) =
    noPt (G (.s (.bl true))) := by
  kernel_rfl
set_option maxRecDepth 100000 in
theorem run_co_NB (z2 : Int) (x2 y2 : List Nat) (G : V → Prop) : exC2 tbCo coB ⟨entryV [.s (.snil), .s (.slu 1 0 57)] 0, [(1, [.c (.sym .u8 z2), .bt x2, .bt y2])], 2⟩ (endK tbCo Try.f6.results.toList fun v _ _ => G v) =
    noPt (G (.s (.bl true))) := by
  kernel_rfl
set_option maxRecDepth 100000 in
theorem run_co_VN (n1 : Nat) (G : V → Prop) : exC2 tbCo coB ⟨entryV [.s (.slv 0 n1), .s (.snil)] 0, [], 2⟩ (endK tbCo Try.f6.results.toList fun v _ _ => G v) =
    ((tooL n1 = false → (n1 ≠ 1 ∧ n1 ≠ 57 ∧ noPt (G (.s (.bl true))))) ∧ (tooL n1 = !false → G (.s (.bl true)))) := by
  kernel_rfl
set_option maxRecDepth 100000 in
theorem run_co_VV (n1 : Nat) (n2 : Nat) (G : V → Prop) : exC2 tbCo coB ⟨entryV [.s (.slv 0 n1), .s (.slv 1 n2)] 0, [], 2⟩ (endK tbCo Try.f6.results.toList fun v _ _ => G v) =
    ((tooL n1 = false → ((tooL n2 = true → G (.s (.bl true))) ∧ (tooL n2 = false → (n1 ≠ 1 ∧ n1 ≠ 57 ∧ noPt (G (.s (.bl true))))))) ∧ (tooL n1 = !false → G (.s (.bl true)))) := by
  kernel_rfl
set_option maxRecDepth 100000 in
theorem run_co_VA (n1 : Nat) (z2 : Int) (G : V → Prop) : exC2 tbCo coB ⟨entryV [.s (.slv 0 n1), .s (.slu 1 0 1)] 0, [(1, [.c (.sym .u8 z2)])], 2⟩ (endK tbCo Try.f6.results.toList fun v _ _ => G v) =
    ((tooL n1 = false → (n1 ≠ 1 ∧ n1 ≠ 57 ∧ noPt (G (.s (.bl true))))) ∧ (tooL n1 = !false → G (.s (.bl true)))) := by
  kernel_rfl
set_option maxRecDepth 100000 in
theorem run_co_VB (n1 : Nat) (z2 : Int) (x2 y2 : List Nat) (G : V → Prop) : exC2 tbCo coB ⟨entryV [.s (.slv 0 n1), .s (.slu 1 0 57)] 0, [(1, [.c (.sym .u8 z2), .bt x2, .bt y2])], 2⟩ (endK tbCo Try.f6.results.toList fun v _ _ => G v) =
    ((tooL n1 = false → (n1 ≠ 1 ∧ n1 ≠ 57 ∧ noPt (G (.s (.bl true))))) ∧ (tooL n1 = !false → G (.s (.bl true)))) := by
  kernel_rfl
set_option maxRecDepth 100000 in
theorem run_co_AN (z1 : Int) (G : V → Prop) : exC2 tbCo coB ⟨entryV [.s (.slu 0 0 1), .s (.snil)] 0, [(0, [.c (.sym .u8 z1)])], 2⟩ (endK tbCo Try.f6.results.toList fun v _ _ => G v) =
    pts1 [z1] (noPt (G (.s (.bl true)))) (G (.s (.bl true))) := by
  kernel_rfl
set_option maxRecDepth 100000 in
theorem run_co_AV (z1 : Int) (n2 : Nat) (G : V → Prop) : exC2 tbCo coB ⟨entryV [.s (.slu 0 0 1), .s (.slv 1 n2)] 0, [(0, [.c (.sym .u8 z1)])], 2⟩ (endK tbCo Try.f6.results.toList fun v _ _ => G v) =
    ((tooL n2 = true → G (.s (.bl true))) ∧ (tooL n2 = false → pts1 [z1] ((n2 ≠ 1 ∧ n2 ≠ 57 ∧ noPt (G (.s (.bl true))))) (G (.s (.bl true))))) := by
  kernel_rfl
set_option maxRecDepth 100000 in
theorem run_co_AA (z1 : Int) (z2 : Int) (G : V → Prop) : exC2 tbCo coB ⟨entryV [.s (.slu 0 0 1), .s (.slu 1 0 1)] 0, [(0, [.c (.sym .u8 z1)]), (1, [.c (.sym .u8 z2)])], 2⟩ (endK tbCo Try.f6.results.toList fun v _ _ => G v) =
    pts1 [z1] (pts1 [z2] (comM [z1] [z2] G) (G (.s (.bl true)))) (G (.s (.bl true))) := by
  kernel_rfl
set_option maxRecDepth 100000 in
theorem run_co_AB (z1 : Int) (z2 : Int) (x2 y2 : List Nat) (G : V → Prop) : exC2 tbCo coB ⟨entryV [.s (.slu 0 0 1), .s (.slu 1 0 57)] 0, [(0, [.c (.sym .u8 z1)]), (1, [.c (.sym .u8 z2), .bt x2, .bt y2])], 2⟩ (endK tbCo Try.f6.results.toList fun v _ _ => G v) =
    pts1 [z1] (pts1 (b57 z2 x2 y2) (comM [z1] (b57 z2 x2 y2) G) (G (.s (.bl true)))) (G (.s (.bl true))) := by
  kernel_rfl
set_option maxRecDepth 100000 in
theorem run_co_BN (z1 : Int) (x1 y1 : List Nat) (G : V → Prop) : exC2 tbCo coB ⟨entryV [.s (.slu 0 0 57), .s (.snil)] 0, [(0, [.c (.sym .u8 z1), .bt x1, .bt y1])], 2⟩ (endK tbCo Try.f6.results.toList fun v _ _ => G v) =
    pts1 (b57 z1 x1 y1) (noPt (G (.s (.bl true)))) (G (.s (.bl true))) := by
  kernel_rfl
set_option maxRecDepth 100000 in
theorem run_co_BV (z1 : Int) (x1 y1 : List Nat) (n2 : Nat) (G : V → Prop) : exC2 tbCo coB ⟨entryV [.s (.slu 0 0 57), .s (.slv 1 n2)] 0, [(0, [.c (.sym .u8 z1), .bt x1, .bt y1])], 2⟩ (endK tbCo Try.f6.results.toList fun v _ _ => G v) =
    ((tooL n2 = true → G (.s (.bl true))) ∧ (tooL n2 = false → pts1 (b57 z1 x1 y1) ((n2 ≠ 1 ∧ n2 ≠ 57 ∧ noPt (G (.s (.bl true))))) (G (.s (.bl true))))) := by
  kernel_rfl
set_option maxRecDepth 100000 in
theorem run_co_BA (z1 : Int) (x1 y1 : List Nat) (z2 : Int) (G : V → Prop) : exC2 tbCo coB ⟨entryV [.s (.slu 0 0 57), .s (.slu 1 0 1)] 0, [(0, [.c (.sym .u8 z1), .bt x1, .bt y1]), (1, [.c (.sym .u8 z2)])], 2⟩ (endK tbCo Try.f6.results.toList fun v _ _ => G v) =
    pts1 (b57 z1 x1 y1) (pts1 [z2] (comM (b57 z1 x1 y1) [z2] G) (G (.s (.bl true)))) (G (.s (.bl true))) := by
  kernel_rfl
set_option maxRecDepth 100000 in
theorem run_co_BB (z1 : Int) (x1 y1 : List Nat) (z2 : Int) (x2 y2 : List Nat) (G : V → Prop) : exC2 tbCo coB ⟨entryV [.s (.slu 0 0 57), .s (.slu 1 0 57)] 0, [(0, [.c (.sym .u8 z1), .bt x1, .bt y1]), (1, [.c (.sym .u8 z2), .bt x2, .bt y2])], 2⟩ (endK tbCo Try.f6.results.toList fun v _ _ => G v) =
    pts1 (b57 z1 x1 y1) (pts1 (b57 z2 x2 y2) (comM (b57 z1 x1 y1) (b57 z2 x2 y2) G) (G (.s (.bl true)))) (G (.s (.bl true))) := by
  kernel_rfl

end Go.Proofs.Ytdaheccfeihpgaa.Nm

/-
  A sum does not depend on the order of the points: the law returns true.
-/
namespace Go.Proofs.Ytdaheccfeihpgaa.Nm
open Go Go.RowKit

theorem psum_comm {P Q : Pt} (hP : onP P) (hQ : onP Q) : psum P Q = psum Q P := by
  have h1 := sum_aff hP hQ
  have h2 := sum_aff hQ hP
  rw [padd_comm] at h1
  exact Option.some.inj (h1.symm.trans h2)

theorem sm_ok {P Q : Pt} (hP : onP P) (hQ : onP Q) {K : Pt → Prop} (h : K (psum P Q)) : sm (encN P) (encN Q) K :=
  ⟨P, Q, rfl, rfl, hP, hQ, fun e => e ▸ h, fun _ _ e _ => e ▸ h⟩

theorem pts1_of {bs : List Int} {Ky Kn : Prop} (h : isPt bs → Ky) (hn : ¬ isPt bs → Kn) : pts1 bs Ky Kn := ⟨fun a _ _ _ => h a, fun a _ _ _ => hn a⟩

theorem alk_refl {R : Pt} (hR : onP R) {G : V → Prop} (h : G (.s (.bl true))) : alk (encN R) (encN R) G :=
  ⟨fun _ => pts1_of (fun _ => h) fun hn => absurd ⟨R, rfl, hR⟩ hn, fun hn => by rw [beq_self_eq_true] at hn; cases hn⟩

theorem comM_ok {l1 l2 : List Int} (h1 : isPt l1) (h2 : isPt l2) {G : V → Prop} (h : G (.s (.bl true))) : comM l1 l2 G := by
  obtain ⟨P, rfl, hP⟩ := h1
  obtain ⟨Q, rfl, hQ⟩ := h2
  refine sm_ok hP hQ (sm_ok hQ hP ?_)
  rw [psum_comm hQ hP]
  exact alk_refl (psum_on hP hQ) h

theorem co_fin {w : World} {v1 v2 : Value} {s1 s2 : Nat → Sc} {o1 o2 : Option Loc} {q1 q2 : Option (List Pc)} (h1 : SArg w v1 s1 o1 q1) (h2 : SArg w v2 s2 o2 q2)
    (h : exC2 tbCo coB ⟨entryV [.s (s1 0), .s (s2 1)] 0, mm2 q1 q2, 2⟩ (endK tbCo Try.f6.results.toList fun v _ _ => isT v)) :
    Calls Try.prog 6 #[v1, v2] w fun e w' => e = .returned (.bool true) ∧ Below w.heap.size w w' := by
  refine (run_calls (B := tbCo) tbCo_ok Try.func6 (c := coB) (by kernel_rfl) (by kernel_rfl) (args := [.s (s1 0), .s (s2 1)]) (Nat.le_of_ble_eq_true (by kernel_rfl)) (m := mm2 q1 q2) (w0 := w) (T0 := tg2 o1 o2) (mok_opt h1 h2 fun i hi => no2 hi) (vs2 (by rw [V.R]; exact h1.2.1 _ 0 rfl) (by rw [V.R]; exact h2.2.1 _ 1 rfl)) (fun i hi => ?_) (fun v _ _ => isT v) h).mono fun e w' hh => ?_
  · match i, hi with
    | (_ + 2), _ => rfl
  · obtain ⟨y, T', v, m', nt', rfl, hL⟩ := hh
    obtain ⟨s, rfl, h⟩ := hL.post
    exact ⟨by rw [h T' y (vr_s hL.val)], left_below hL rfl⟩


set_option maxRecDepth 100000 in
theorem co_calls {w : World} {v1 v2 : Value} (g1 : Bys w v1) (g2 : Bys w v2) : Calls Try.prog 6 #[v1, v2] w fun e w' => e = .returned (.bool true) ∧ Below w.heap.size w w' := by
  cases g1 with
  | nil h1 =>
    cases g2 with
    | nil h2 => exact co_fin h1 h2 (Eq.mpr (run_co_NN isT) (fun _ _ _ => isT_lit))
    | any n2 b2 k2 k2' h2 => exact co_fin h1 h2 (Eq.mpr (run_co_NV n2 isT) ⟨fun _ => isT_lit, fun _ => (fun _ _ _ => isT_lit)⟩)
    | one z2 b2 h2 => exact co_fin h1 h2 (Eq.mpr (run_co_NA z2 isT) (fun _ _ _ => isT_lit))
    | pt z2 x2 y2 b2 h2 => exact co_fin h1 h2 (Eq.mpr (run_co_NB z2 x2 y2 isT) (fun _ _ _ => isT_lit))
  | any n1 b1 k1 k1' h1 =>
    cases g2 with
    | nil h2 => exact co_fin h1 h2 (Eq.mpr (run_co_VN n1 isT) ⟨fun _ => ⟨k1, k1', fun _ _ _ => isT_lit⟩, fun _ => isT_lit⟩)
    | any n2 b2 k2 k2' h2 => exact co_fin h1 h2 (Eq.mpr (run_co_VV n1 n2 isT) ⟨fun _ => ⟨fun _ => isT_lit, fun _ => ⟨k1, k1', fun _ _ _ => isT_lit⟩⟩, fun _ => isT_lit⟩)
    | one z2 b2 h2 => exact co_fin h1 h2 (Eq.mpr (run_co_VA n1 z2 isT) ⟨fun _ => ⟨k1, k1', fun _ _ _ => isT_lit⟩, fun _ => isT_lit⟩)
    | pt z2 x2 y2 b2 h2 => exact co_fin h1 h2 (Eq.mpr (run_co_VB n1 z2 x2 y2 isT) ⟨fun _ => ⟨k1, k1', fun _ _ _ => isT_lit⟩, fun _ => isT_lit⟩)
  | one z1 b1 h1 =>
    cases g2 with
    | nil h2 => exact co_fin h1 h2 (Eq.mpr (run_co_AN z1 isT) (pts1_of (fun p1 => (fun _ _ _ => isT_lit)) fun _ => isT_lit))
    | any n2 b2 k2 k2' h2 => exact co_fin h1 h2 (Eq.mpr (run_co_AV z1 n2 isT) ⟨fun _ => isT_lit, fun _ => (pts1_of (fun p1 => ⟨k2, k2', fun _ _ _ => isT_lit⟩) fun _ => isT_lit)⟩)
    | one z2 b2 h2 => exact co_fin h1 h2 (Eq.mpr (run_co_AA z1 z2 isT) (pts1_of (fun p1 => (pts1_of (fun p2 => (comM_ok p1 p2 isT_lit)) fun _ => isT_lit)) fun _ => isT_lit))
    | pt z2 x2 y2 b2 h2 => exact co_fin h1 h2 (Eq.mpr (run_co_AB z1 z2 x2 y2 isT) (pts1_of (fun p1 => (pts1_of (fun p2 => (comM_ok p1 p2 isT_lit)) fun _ => isT_lit)) fun _ => isT_lit))
  | pt z1 x1 y1 b1 h1 =>
    cases g2 with
    | nil h2 => exact co_fin h1 h2 (Eq.mpr (run_co_BN z1 x1 y1 isT) (pts1_of (fun p1 => (fun _ _ _ => isT_lit)) fun _ => isT_lit))
    | any n2 b2 k2 k2' h2 => exact co_fin h1 h2 (Eq.mpr (run_co_BV z1 x1 y1 n2 isT) ⟨fun _ => isT_lit, fun _ => (pts1_of (fun p1 => ⟨k2, k2', fun _ _ _ => isT_lit⟩) fun _ => isT_lit)⟩)
    | one z2 b2 h2 => exact co_fin h1 h2 (Eq.mpr (run_co_BA z1 x1 y1 z2 isT) (pts1_of (fun p1 => (pts1_of (fun p2 => (comM_ok p1 p2 isT_lit)) fun _ => isT_lit)) fun _ => isT_lit))
    | pt z2 x2 y2 b2 h2 => exact co_fin h1 h2 (Eq.mpr (run_co_BB z1 x1 y1 z2 x2 y2 isT) (pts1_of (fun p1 => (pts1_of (fun p2 => (comM_ok p1 p2 isT_lit)) fun _ => isT_lit)) fun _ => isT_lit))

end Go.Proofs.Ytdaheccfeihpgaa.Nm

