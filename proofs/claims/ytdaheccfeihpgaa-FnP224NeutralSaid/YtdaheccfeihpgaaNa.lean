import Derived.Test.YtdaheccfeihpgaaRa
import Derived.Test.YtdaheccfeihpgaaCa
/-
  The law on the sum with the far point.
-/
/-
  The far point, in bytes: its run and its contract.
-/
namespace Go.Proofs.Ytdaheccfeihpgaa.Nm
open Go Go.RowKit

noncomputable abbrev infB : Code := Try.f27.body.getD .skip
noncomputable abbrev tbInf : Tb := tb Try.f27.ntmps 2 [] dsU0 ksU6 9

set_option maxRecDepth 100000 in
theorem run_inf (G : SR → Prop) : exC2 tbInf infB ⟨entryV [] 0, [], 2⟩ (endK tbInf Try.f27.results.toList fun v m _ => G (slR v m)) = bytT 0 1 0 G := by
  kernel_rfl

def kInf : KSpec where
  run := fun args m nt K => match args with
    | [] => K (.s (.sl nt 0 1 57)) (addF m nt [encP none]) (nt + 1)
    | _ => False
  outs := noOut

theorem kInf_ok : KSOk Try.prog 27 kInf where
  enter := enter_in Try.func27 (by kernel_rfl) (by kernel_rfl)
  run := by
    intro wr T w m nt args xs K h hm hx hfree hwr
    simp only [kInf] at h
    split at h
    · have hx0 : xs = [] := by rw [VsR] at hx; exact hx
      subst hx0
      refine (run_calls (B := tbInf) (tb_ok dsU0_ok ksU6_ok) Try.func27 (c := infB) (by kernel_rfl) (by kernel_rfl) (args := []) (Nat.le_of_ble_eq_true (by kernel_rfl)) (w0 := w) (m := []) mok_nil (by rw [VsR]) (fun i _ => rfl) (fun v m _ => sumG none (slR v m)) (Eq.mpr (run_inf (sumG none)) (bytT_ok (trP_aff (P := none) trivial) fun r => ⟨r, rfl⟩))).mono fun e w' hh => ?_
      obtain ⟨y, T', v, m', nt', rfl, hL⟩ := hh
      obtain ⟨q, hq⟩ := hL.post
      obtain ⟨t, rfl, ht, hlk⟩ := slR_eq hq
      obtain ⟨b, hb, hy⟩ := vr_s hL.val
      have hT0 : tgs [] t = none := rfl
      obtain ⟨T'', g1, g2, g3, g4, g5⟩ := lift_new (q2 := encP none) hm (fun k _ => hfree (nt + k) (by omega)) hL rfl hT0 hb hlk (fun xs hxs => by
        obtain ⟨h1, h2⟩ := hxs
        rw [flat_append] at h1
        obtain ⟨ys, zs, rfl, a1, a2⟩ := h1.split
        exact ⟨ys, zs, rfl, a1.any (encP_noTag _), (goods_append.1 h2).1⟩)
      have hend : DEnd wr T w m nt (.s (.sl nt 0 1 57)) [encP none] (.returned y) w' := ⟨T'', y, g1, rfl, by rw [V.R]; exact ⟨b, g2, hy⟩, g3, g4, g5⟩
      exact KEnd.of hend hfree h
    · exact h.elim

end Go.Proofs.Ytdaheccfeihpgaa.Nm

/-
  The far point makes no difference: the law returns true.
-/
namespace Go.Proofs.Ytdaheccfeihpgaa.Nm
open Go Go.RowKit

def ksLn : List (Nat × KSpec) := (27, kInf) :: ksLc1
theorem ksLn_ok : ∀ f sp, lkp ksLn f = some sp → KSOk Try.prog f sp := by
  intro f sp h
  rcases lkp_cons h with ⟨rfl, rfl⟩ | h
  · exact kInf_ok
  · exact ksLc1_ok f sp h
noncomputable abbrev neB : Code := Try.f7.body.getD .skip
noncomputable abbrev tbNe : Tb := tb Try.f7.ntmps 2 [] dsLc ksLn 9
theorem tbNe_ok : TbOk Try.prog tbNe := tb_ok dsLc_ok ksLn_ok

def neM (l : List Int) (G : V → Prop) : Prop :=
  sm l [0] fun R1 => ((encN R1 == l) = true → sm [0] l fun R2 => G (.s (.bs (encN R2 == l)))) ∧ ((encN R1 == l) = !true → G (.s (.bl false)))

set_option maxRecDepth 100000 in
theorem run_ne_N (G : V → Prop) : exC2 tbNe neB ⟨entryV [.s .snil] 0, [], 2⟩ (endK tbNe Try.f7.results.toList fun v _ _ => G v) = noPt (G (.s (.bl true))) := by
  kernel_rfl
set_option maxRecDepth 100000 in
theorem run_ne_V (n : Nat) (G : V → Prop) : exC2 tbNe neB ⟨entryV [.s (.slv 0 n)] 0, [], 2⟩ (endK tbNe Try.f7.results.toList fun v _ _ => G v) =
    ((tooL n = true → G (.s (.bl true))) ∧ (tooL n = false → n ≠ 1 ∧ n ≠ 57 ∧ noPt (G (.s (.bl true))))) := by
  kernel_rfl
set_option maxRecDepth 100000 in
theorem run_ne_A (z : Int) (G : V → Prop) : exC2 tbNe neB ⟨entryV [.s (.slu 0 0 1)] 0, [(0, [.c (.sym .u8 z)])], 2⟩ (endK tbNe Try.f7.results.toList fun v _ _ => G v) =
    pts1 [z] (neM [z] G) (G (.s (.bl true))) := by
  kernel_rfl
set_option maxRecDepth 100000 in
theorem run_ne_B (z : Int) (x y : List Nat) (G : V → Prop) : exC2 tbNe neB ⟨entryV [.s (.slu 0 0 57)] 0, [(0, [.c (.sym .u8 z), .bt x, .bt y])], 2⟩ (endK tbNe Try.f7.results.toList fun v _ _ => G v) =
    pts1 (b57 z x y) (neM (b57 z x y) G) (G (.s (.bl true))) := by
  kernel_rfl

theorem neM_ok {l : List Int} (h : isPt l) : neM l isT := by
  obtain ⟨P, rfl, hP⟩ := h
  have h0 : onP none := trivial
  have e1 : psum P none = P := psum_none P
  have e2 : psum none P = P := by rw [psum_comm h0 hP, e1]
  refine sm_ok (Q := none) hP h0 ?_
  rw [e1]
  refine ⟨fun _ => sm_ok (P := none) h0 hP ?_, fun hn => ?_⟩
  · rw [e2]
    exact isT_bs (beq_self_eq_true _)
  · rw [beq_self_eq_true] at hn; cases hn

theorem ne_fin {w : World} {v1 : Value} {s1 : Nat → Sc} {o1 : Option Loc} {q1 : Option (List Pc)} (h1 : SArg w v1 s1 o1 q1)
    (h : exC2 tbNe neB ⟨entryV [.s (s1 0)] 0, mm2 q1 none, 2⟩ (endK tbNe Try.f7.results.toList fun v _ _ => isT v)) :
    Calls Try.prog 7 #[v1] w fun e w' => e = .returned (.bool true) ∧ Below w.heap.size w w' := by
  have h2 : SArg w (.slice none 0 0) (fun _ => .snil) none none := ⟨fun b hb => (by cases hb), fun T t _ => rfl, fun l hl => (by cases hl)⟩
  refine (run_calls (B := tbNe) tbNe_ok Try.func7 (c := neB) (by kernel_rfl) (by kernel_rfl) (args := [.s (s1 0)]) (Nat.le_of_ble_eq_true (by kernel_rfl)) (m := mm2 q1 none) (w0 := w) (T0 := tg2 o1 none) (mok_opt h1 h2 fun i hi => no2 hi) (vs1 (by rw [V.R]; exact h1.2.1 _ 0 rfl)) (fun i hi => ?_) (fun v _ _ => isT v) h).mono fun e w' hh => ?_
  · match i, hi with
    | (_ + 2), _ => rfl
  · obtain ⟨y, T', v, m', nt', rfl, hL⟩ := hh
    obtain ⟨s, rfl, h⟩ := hL.post
    exact ⟨by rw [h T' y (vr_s hL.val)], left_below hL rfl⟩

set_option maxRecDepth 100000 in
theorem ne_calls {w : World} {v1 : Value} (g1 : Bys w v1) : Calls Try.prog 7 #[v1] w fun e w' => e = .returned (.bool true) ∧ Below w.heap.size w w' := by
  cases g1 with
  | nil h1 => exact ne_fin h1 (Eq.mpr (run_ne_N isT) fun _ _ _ => isT_lit)
  | any n b k k' h1 => exact ne_fin h1 (Eq.mpr (run_ne_V n isT) ⟨fun _ => isT_lit, fun _ => ⟨k, k', fun _ _ _ => isT_lit⟩⟩)
  | one z b h1 => exact ne_fin h1 (Eq.mpr (run_ne_A z isT) (pts1_of (fun p => neM_ok p) fun _ => isT_lit))
  | pt z x y b h1 => exact ne_fin h1 (Eq.mpr (run_ne_B z x y isT) (pts1_of (fun p => neM_ok p) fun _ => isT_lit))

end Go.Proofs.Ytdaheccfeihpgaa.Nm

