import Derived.Test.YtdaheccfeihpgaaKa
import Derived.Test.YtdaheccfeihpgaaS
import Derived.Test.YtdaheccfeihpgaaCa
/-
  The law on an addend that is no point.
-/
/-
  A first point is kept if the addend is no point: the law's runs.
-/
namespace Go.Proofs.Ytdaheccfeihpgaa.Nm
open Go Go.RowKit

def ksKl : List (Nat × KSpec) := [(22, kRd), (23, kKp)]
theorem ksKl_ok : ∀ f sp, lkp ksKl f = some sp → KSOk Try.prog f sp := by
  intro f sp h
  rcases lkp_cons h with ⟨rfl, rfl⟩ | h
  · exact kRd_ok
  rcases lkp_cons h with ⟨rfl, rfl⟩ | h
  · exact kKp_ok
  · exact (lkp_nil h).elim
noncomputable abbrev klB : Code := Try.f5.body.getD .skip
noncomputable abbrev tbKl : Tb := tb Try.f5.ntmps 2 [] dsLc ksKl 9
theorem tbKl_ok : TbOk Try.prog tbKl := tb_ok dsLc_ok ksKl_ok

def kq (R : Pt) (K : Pt → Prop) : Prop := (R = none → K none) ∧ (∀ u v : F, R = some (u, v) → onc u v → K (some (u, v)))
def klN (l1 : List Int) (G : V → Prop) : Prop := ∃ P : Pt, l1 = encN P ∧ onP P ∧ kq P fun R => G (.s (.bs (encN R == l1)))
def klV (l1 : List Int) (q : List Pc) (n : Nat) (G : V → Prop) : Prop := (flat q).length = n ∧ n < 2147483648 ∧ (∀ s ∈ flat q, noTag s = true) ∧ n ≠ 1 ∧ n ≠ 57 ∧ n ≠ 29 ∧ klN l1 G
def klT (l1 l2 : List Int) (G : V → Prop) : Prop := ∃ P : Pt, l1 = encN P ∧ onP P ∧ (∀ Q : Pt, l2 = encN Q → onP Q → kq Q fun R => G (.s (.bs (encN R == l2)))) ∧ (¬ isPt l2 → kq P fun _ => G (.s (.bl false)))
def klF (l1 l2 : List Int) (G : V → Prop) : Prop := ∃ P : Pt, l1 = encN P ∧ onP P ∧ (∀ Q : Pt, l2 = encN Q → onP Q → kq Q fun _ => G (.s (.bl false))) ∧ (¬ isPt l2 → kq P fun R => G (.s (.bs (encN R == l1))))

set_option maxRecDepth 100000 in
theorem run_kl_NN (G : V → Prop) : exC2 tbKl klB ⟨entryV [.s (.snil), .s (.snil)] 0, [], 2⟩ (endK tbKl Try.f5.results.toList fun v _ _ => G v) =
    noPt (G (.s (.bl true))) := by
  kernel_rfl
set_option maxRecDepth 100000 in
theorem run_kl_NV (n2 : Nat) (q2 : List Pc) (G : V → Prop) : exC2 tbKl klB ⟨entryV [.s (.snil), .s (.slv 1 n2)] 0, [(1, q2)], 2⟩ (endK tbKl Try.f5.results.toList fun v _ _ => G v) =
    ((tooL n2 = true → G (.s (.bl true))) ∧ (tooL n2 = false → noPt (G (.s (.bl true))))) := by
  kernel_rfl
set_option maxRecDepth 100000 in
theorem run_kl_NA (z2 : Int) (G : V → Prop) : exC2 tbKl klB ⟨entryV [.s (.snil), .s (.slu 1 0 1)] 0, [(1, [.c (.sym .u8 z2)])], 2⟩ (endK tbKl Try.f5.results.toList fun v _ _ => G v) =
    noPt (G (.s (.bl true))) := by
  kernel_rfl
set_option maxRecDepth 100000 in
theorem run_kl_NB (z2 : Int) (x2 y2 : List Nat) (G : V → Prop) : exC2 tbKl klB ⟨entryV [.s (.snil), .s (.slu 1 0 57)] 0, [(1, [.c (.sym .u8 z2), .bt x2, .bt y2])], 2⟩ (endK tbKl Try.f5.results.toList fun v _ _ => G v) =
    noPt (G (.s (.bl true))) := by
  kernel_rfl
set_option maxRecDepth 100000 in
theorem run_kl_VN (n1 : Nat) (G : V → Prop) : exC2 tbKl klB ⟨entryV [.s (.slv 0 n1), .s (.snil)] 0, [], 2⟩ (endK tbKl Try.f5.results.toList fun v _ _ => G v) =
    ((tooL n1 = false → (n1 ≠ 1 ∧ n1 ≠ 57 ∧ noPt (G (.s (.bl true))))) ∧ (tooL n1 = !false → G (.s (.bl true)))) := by
  kernel_rfl
set_option maxRecDepth 100000 in
theorem run_kl_VV (n1 : Nat) (n2 : Nat) (q2 : List Pc) (G : V → Prop) : exC2 tbKl klB ⟨entryV [.s (.slv 0 n1), .s (.slv 1 n2)] 0, [(1, q2)], 2⟩ (endK tbKl Try.f5.results.toList fun v _ _ => G v) =
    ((tooL n1 = false → ((tooL n2 = true → G (.s (.bl true))) ∧ (tooL n2 = false → (n1 ≠ 1 ∧ n1 ≠ 57 ∧ noPt (G (.s (.bl true))))))) ∧ (tooL n1 = !false → G (.s (.bl true)))) := by
  kernel_rfl
set_option maxRecDepth 100000 in
theorem run_kl_VA (n1 : Nat) (z2 : Int) (G : V → Prop) : exC2 tbKl klB ⟨entryV [.s (.slv 0 n1), .s (.slu 1 0 1)] 0, [(1, [.c (.sym .u8 z2)])], 2⟩ (endK tbKl Try.f5.results.toList fun v _ _ => G v) =
    ((tooL n1 = false → (n1 ≠ 1 ∧ n1 ≠ 57 ∧ noPt (G (.s (.bl true))))) ∧ (tooL n1 = !false → G (.s (.bl true)))) := by
  kernel_rfl
set_option maxRecDepth 100000 in
theorem run_kl_VB (n1 : Nat) (z2 : Int) (x2 y2 : List Nat) (G : V → Prop) : exC2 tbKl klB ⟨entryV [.s (.slv 0 n1), .s (.slu 1 0 57)] 0, [(1, [.c (.sym .u8 z2), .bt x2, .bt y2])], 2⟩ (endK tbKl Try.f5.results.toList fun v _ _ => G v) =
    ((tooL n1 = false → (n1 ≠ 1 ∧ n1 ≠ 57 ∧ noPt (G (.s (.bl true))))) ∧ (tooL n1 = !false → G (.s (.bl true)))) := by
  kernel_rfl
set_option maxRecDepth 100000 in
theorem run_kl_AN (z1 : Int) (G : V → Prop) : exC2 tbKl klB ⟨entryV [.s (.slu 0 0 1), .s (.snil)] 0, [(0, [.c (.sym .u8 z1)])], 2⟩ (endK tbKl Try.f5.results.toList fun v _ _ => G v) =
    pts1 [z1] (noPt (klN [z1] G)) (G (.s (.bl true))) := by
  kernel_rfl
set_option maxRecDepth 100000 in
theorem run_kl_AV (z1 : Int) (n2 : Nat) (q2 : List Pc) (G : V → Prop) : exC2 tbKl klB ⟨entryV [.s (.slu 0 0 1), .s (.slv 1 n2)] 0, [(0, [.c (.sym .u8 z1)]), (1, q2)], 2⟩ (endK tbKl Try.f5.results.toList fun v _ _ => G v) =
    ((tooL n2 = true → G (.s (.bl true))) ∧ (tooL n2 = false → pts1 [z1] (((decide ((n2 : Int) = 29) = true → G (.s (.bl true))) ∧ (decide ((n2 : Int) = 29) = false → n2 ≠ 1 ∧ n2 ≠ 57 ∧ noPt (klV [z1] q2 n2 G)))) (G (.s (.bl true))))) := by
  kernel_rfl
set_option maxRecDepth 100000 in
theorem run_kl_AA (z1 : Int) (z2 : Int) (G : V → Prop) : exC2 tbKl klB ⟨entryV [.s (.slu 0 0 1), .s (.slu 1 0 1)] 0, [(0, [.c (.sym .u8 z1)]), (1, [.c (.sym .u8 z2)])], 2⟩ (endK tbKl Try.f5.results.toList fun v _ _ => G v) =
    pts1 [z1] (pts1 [z2] (klT [z1] [z2] G) (klF [z1] [z2] G)) (G (.s (.bl true))) := by
  kernel_rfl
set_option maxRecDepth 100000 in
theorem run_kl_AB (z1 : Int) (z2 : Int) (x2 y2 : List Nat) (G : V → Prop) : exC2 tbKl klB ⟨entryV [.s (.slu 0 0 1), .s (.slu 1 0 57)] 0, [(0, [.c (.sym .u8 z1)]), (1, [.c (.sym .u8 z2), .bt x2, .bt y2])], 2⟩ (endK tbKl Try.f5.results.toList fun v _ _ => G v) =
    pts1 [z1] (pts1 (b57 z2 x2 y2) (klT [z1] (b57 z2 x2 y2) G) (klF [z1] (b57 z2 x2 y2) G)) (G (.s (.bl true))) := by
  kernel_rfl
set_option maxRecDepth 100000 in
theorem run_kl_BN (z1 : Int) (x1 y1 : List Nat) (G : V → Prop) : exC2 tbKl klB ⟨entryV [.s (.slu 0 0 57), .s (.snil)] 0, [(0, [.c (.sym .u8 z1), .bt x1, .bt y1])], 2⟩ (endK tbKl Try.f5.results.toList fun v _ _ => G v) =
    pts1 (b57 z1 x1 y1) (noPt (klN (b57 z1 x1 y1) G)) (G (.s (.bl true))) := by
  kernel_rfl
set_option maxRecDepth 100000 in
theorem run_kl_BV (z1 : Int) (x1 y1 : List Nat) (n2 : Nat) (q2 : List Pc) (G : V → Prop) : exC2 tbKl klB ⟨entryV [.s (.slu 0 0 57), .s (.slv 1 n2)] 0, [(0, [.c (.sym .u8 z1), .bt x1, .bt y1]), (1, q2)], 2⟩ (endK tbKl Try.f5.results.toList fun v _ _ => G v) =
    ((tooL n2 = true → G (.s (.bl true))) ∧ (tooL n2 = false → pts1 (b57 z1 x1 y1) (((decide ((n2 : Int) = 29) = true → G (.s (.bl true))) ∧ (decide ((n2 : Int) = 29) = false → n2 ≠ 1 ∧ n2 ≠ 57 ∧ noPt (klV (b57 z1 x1 y1) q2 n2 G)))) (G (.s (.bl true))))) := by
  kernel_rfl
set_option maxRecDepth 100000 in
theorem run_kl_BA (z1 : Int) (x1 y1 : List Nat) (z2 : Int) (G : V → Prop) : exC2 tbKl klB ⟨entryV [.s (.slu 0 0 57), .s (.slu 1 0 1)] 0, [(0, [.c (.sym .u8 z1), .bt x1, .bt y1]), (1, [.c (.sym .u8 z2)])], 2⟩ (endK tbKl Try.f5.results.toList fun v _ _ => G v) =
    pts1 (b57 z1 x1 y1) (pts1 [z2] (klT (b57 z1 x1 y1) [z2] G) (klF (b57 z1 x1 y1) [z2] G)) (G (.s (.bl true))) := by
  kernel_rfl
set_option maxRecDepth 100000 in
theorem run_kl_BB (z1 : Int) (x1 y1 : List Nat) (z2 : Int) (x2 y2 : List Nat) (G : V → Prop) : exC2 tbKl klB ⟨entryV [.s (.slu 0 0 57), .s (.slu 1 0 57)] 0, [(0, [.c (.sym .u8 z1), .bt x1, .bt y1]), (1, [.c (.sym .u8 z2), .bt x2, .bt y2])], 2⟩ (endK tbKl Try.f5.results.toList fun v _ _ => G v) =
    pts1 (b57 z1 x1 y1) (pts1 (b57 z2 x2 y2) (klT (b57 z1 x1 y1) (b57 z2 x2 y2) G) (klF (b57 z1 x1 y1) (b57 z2 x2 y2) G)) (G (.s (.bl true))) := by
  kernel_rfl

end Go.Proofs.Ytdaheccfeihpgaa.Nm

/-
  A first point is kept if the addend is no point: the law returns true.
-/
namespace Go.Proofs.Ytdaheccfeihpgaa.Nm
open Go Go.RowKit

theorem kq_ok {R : Pt} {K : Pt → Prop} (h : K R) : kq R K := ⟨fun e => e ▸ h, fun _ _ e _ => e ▸ h⟩
theorem kl_same {P : Pt} : kq P fun R => isT (.s (.bs (encN R == encN P))) := kq_ok (isT_bs (beq_self_eq_true _))
theorem klN_ok {l : List Int} (h : isPt l) : klN l isT := by
  obtain ⟨P, rfl, hP⟩ := h
  exact ⟨P, rfl, hP, kl_same⟩
theorem klV_ok {l zs : List Int} {n : Nat} (h : isPt l) (hn : zs.length = n) (ht : tooL n = false) (k : n ≠ 1) (k' : n ≠ 57) (hd : decide ((n : Int) = 29) = false) : klV l (bytesQ zs) n isT := by
  have h1 := of_decide_eq_false ht
  have h2 := of_decide_eq_false hd
  refine ⟨by rw [flat_bytesQ, List.length_map, hn], by omega, fun s hs => ?_, k, k', by omega, klN_ok h⟩
  rw [flat_bytesQ] at hs
  obtain ⟨_, _, rfl⟩ := List.mem_map.1 hs
  rfl
theorem klT_ok {l1 l2 : List Int} (h1 : isPt l1) (h2 : isPt l2) : klT l1 l2 isT := by
  obtain ⟨P, rfl, hP⟩ := h1
  exact ⟨P, rfl, hP, fun Q hQ _ => by rw [hQ]; exact kl_same, fun hn => absurd h2 hn⟩
theorem klF_ok {l1 l2 : List Int} (h1 : isPt l1) (h2 : ¬ isPt l2) : klF l1 l2 isT := by
  obtain ⟨P, rfl, hP⟩ := h1
  exact ⟨P, rfl, hP, fun Q hQ hon => absurd ⟨Q, hQ, hon⟩ h2, fun _ => kl_same⟩

theorem ke_fin {w : World} {v1 v2 : Value} {s1 s2 : Nat → Sc} {o1 o2 : Option Loc} {q1 q2 : Option (List Pc)} (h1 : SArg w v1 s1 o1 q1) (h2 : SArg w v2 s2 o2 q2)
    (h : exC2 tbKl klB ⟨entryV [.s (s1 0), .s (s2 1)] 0, mm2 q1 q2, 2⟩ (endK tbKl Try.f5.results.toList fun v _ _ => isT v)) :
    Calls Try.prog 5 #[v1, v2] w fun e w' => e = .returned (.bool true) ∧ Below w.heap.size w w' := by
  refine (run_calls (B := tbKl) tbKl_ok Try.func5 (c := klB) (by kernel_rfl) (by kernel_rfl) (args := [.s (s1 0), .s (s2 1)]) (Nat.le_of_ble_eq_true (by kernel_rfl)) (m := mm2 q1 q2) (w0 := w) (T0 := tg2 o1 o2) (mok_opt h1 h2 fun i hi => no2 hi) (vs2 (by rw [V.R]; exact h1.2.1 _ 0 rfl) (by rw [V.R]; exact h2.2.1 _ 1 rfl)) (fun i hi => ?_) (fun v _ _ => isT v) h).mono fun e w' hh => ?_
  · match i, hi with
    | (_ + 2), _ => rfl
  · obtain ⟨y, T', v, m', nt', rfl, hL⟩ := hh
    obtain ⟨s, rfl, h⟩ := hL.post
    exact ⟨by rw [h T' y (vr_s hL.val)], left_below hL rfl⟩

/-- The bytes of a slice of some length. -/
theorem row_of {w : World} {v : Value} {n : Nat} {b : Loc} (h : SArg w v (fun t => .slv t n) (some b) none) (hr : v = .slice none 0 0 ∨ ∃ (n : Nat) (b : Loc) (zs : List Int), zs.length = n ∧ SArg w v (fun t => .slv t n) (some b) (some (bytesQ zs))) :
    ∃ (b : Loc) (zs : List Int), zs.length = n ∧ SArg w v (fun t => .slv t n) (some b) (some (bytesQ zs)) := by
  obtain ⟨b1, _, c1, e1, _⟩ := h.2.1 (fun _ => some b) 0 rfl
  rcases hr with rfl | ⟨n', b', zs, hz, h'⟩
  · cases e1
  · obtain ⟨b2, _, c2, e2, _⟩ := h'.2.1 (fun _ => some b') 0 rfl
    have e : n' = n := by
      have := e1.symm.trans e2
      simp only [Value.slice.injEq] at this
      exact this.2.1.symm
    exact ⟨b', zs, hz.trans e, e ▸ h'⟩

set_option maxRecDepth 100000 in
theorem ke_calls {w : World} {v1 v2 : Value} (g1 : Bys w v1) (g2 : Bys w v2) (hr : v2 = .slice none 0 0 ∨ ∃ (n : Nat) (b : Loc) (zs : List Int), zs.length = n ∧ SArg w v2 (fun t => .slv t n) (some b) (some (bytesQ zs))) :
    Calls Try.prog 5 #[v1, v2] w fun e w' => e = .returned (.bool true) ∧ Below w.heap.size w w' := by
  cases g1 with
  | nil h1 =>
    cases g2 with
    | nil h2 => exact ke_fin h1 h2 (Eq.mpr (run_kl_NN isT) (fun _ _ _ => isT_lit))
    | any n2 b2 k2 k2' h2 =>
      obtain ⟨b, zs, hz, h⟩ := row_of h2 hr
      exact ke_fin h1 h (Eq.mpr (run_kl_NV n2 (bytesQ zs) isT) ⟨fun _ => isT_lit, fun t2 => (fun _ _ _ => isT_lit)⟩)
    | one z2 b2 h2 => exact ke_fin h1 h2 (Eq.mpr (run_kl_NA z2 isT) (fun _ _ _ => isT_lit))
    | pt z2 x2 y2 b2 h2 => exact ke_fin h1 h2 (Eq.mpr (run_kl_NB z2 x2 y2 isT) (fun _ _ _ => isT_lit))
  | any n1 b1 k1 k1' h1 =>
    cases g2 with
    | nil h2 => exact ke_fin h1 h2 (Eq.mpr (run_kl_VN n1 isT) ⟨fun _ => ⟨k1, k1', fun _ _ _ => isT_lit⟩, fun _ => isT_lit⟩)
    | any n2 b2 k2 k2' h2 =>
      obtain ⟨b, zs, hz, h⟩ := row_of h2 hr
      exact ke_fin h1 h (Eq.mpr (run_kl_VV n1 n2 (bytesQ zs) isT) ⟨fun _ => ⟨fun _ => isT_lit, fun t2 => ⟨k1, k1', fun _ _ _ => isT_lit⟩⟩, fun _ => isT_lit⟩)
    | one z2 b2 h2 => exact ke_fin h1 h2 (Eq.mpr (run_kl_VA n1 z2 isT) ⟨fun _ => ⟨k1, k1', fun _ _ _ => isT_lit⟩, fun _ => isT_lit⟩)
    | pt z2 x2 y2 b2 h2 => exact ke_fin h1 h2 (Eq.mpr (run_kl_VB n1 z2 x2 y2 isT) ⟨fun _ => ⟨k1, k1', fun _ _ _ => isT_lit⟩, fun _ => isT_lit⟩)
  | one z1 b1 h1 =>
    cases g2 with
    | nil h2 => exact ke_fin h1 h2 (Eq.mpr (run_kl_AN z1 isT) (pts1_of (fun p1 => (fun _ _ _ => klN_ok p1)) fun _ => isT_lit))
    | any n2 b2 k2 k2' h2 =>
      obtain ⟨b, zs, hz, h⟩ := row_of h2 hr
      exact ke_fin h1 h (Eq.mpr (run_kl_AV z1 n2 (bytesQ zs) isT) ⟨fun _ => isT_lit, fun t2 => (pts1_of (fun p1 => ⟨fun _ => isT_lit, fun d => ⟨k2, k2', fun _ _ _ => klV_ok p1 hz t2 k2 k2' d⟩⟩) fun _ => isT_lit)⟩)
    | one z2 b2 h2 => exact ke_fin h1 h2 (Eq.mpr (run_kl_AA z1 z2 isT) (pts1_of (fun p1 => (pts1_of (fun p2 => klT_ok p1 p2) fun n2 => klF_ok p1 n2)) fun _ => isT_lit))
    | pt z2 x2 y2 b2 h2 => exact ke_fin h1 h2 (Eq.mpr (run_kl_AB z1 z2 x2 y2 isT) (pts1_of (fun p1 => (pts1_of (fun p2 => klT_ok p1 p2) fun n2 => klF_ok p1 n2)) fun _ => isT_lit))
  | pt z1 x1 y1 b1 h1 =>
    cases g2 with
    | nil h2 => exact ke_fin h1 h2 (Eq.mpr (run_kl_BN z1 x1 y1 isT) (pts1_of (fun p1 => (fun _ _ _ => klN_ok p1)) fun _ => isT_lit))
    | any n2 b2 k2 k2' h2 =>
      obtain ⟨b, zs, hz, h⟩ := row_of h2 hr
      exact ke_fin h1 h (Eq.mpr (run_kl_BV z1 x1 y1 n2 (bytesQ zs) isT) ⟨fun _ => isT_lit, fun t2 => (pts1_of (fun p1 => ⟨fun _ => isT_lit, fun d => ⟨k2, k2', fun _ _ _ => klV_ok p1 hz t2 k2 k2' d⟩⟩) fun _ => isT_lit)⟩)
    | one z2 b2 h2 => exact ke_fin h1 h2 (Eq.mpr (run_kl_BA z1 x1 y1 z2 isT) (pts1_of (fun p1 => (pts1_of (fun p2 => klT_ok p1 p2) fun n2 => klF_ok p1 n2)) fun _ => isT_lit))
    | pt z2 x2 y2 b2 h2 => exact ke_fin h1 h2 (Eq.mpr (run_kl_BB z1 x1 y1 z2 x2 y2 isT) (pts1_of (fun p1 => (pts1_of (fun p2 => klT_ok p1 p2) fun n2 => klF_ok p1 n2)) fun _ => isT_lit))

end Go.Proofs.Ytdaheccfeihpgaa.Nm

