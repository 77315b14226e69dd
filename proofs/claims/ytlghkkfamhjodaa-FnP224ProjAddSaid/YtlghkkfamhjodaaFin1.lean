import Derived.Test.YtlghkkfamhjodaaRows
import Derived.Test.YtlghkkfamhjodaaR
import Derived.Test.YtlghkkfamhjodaaS
/-
  The statements.
-/
/-
  The statements of choice and of the point infinitely far.
-/
namespace Go.Proofs.Ytlghkkfamhjodaa
open Go Go.ChangeShapes Go.WideShapes Go.ChangeAt Go.RowKit Go.Proofs.Ytlghkkfamhjodaa.Nm

theorem own : ownKnob Try.prog.godebug = none := by kernel_rfl

set_option maxRecDepth 100000 in
/-- The type of three coordinates. -/
theorem read_tri {H : Type} {enc : TypeId × Value → H} {W : World} {r : Reach} {b0 base : Nat} {spare : Nat → Bool} {held : Bool} {v : Value} {d : DataW H} {p : List MemPlace} (hv : Value.okWide Try.prog W r b0 24 v) (h : DataW.Trod enc Try.prog W base spare held 24 v d p) :
    p = [] ∧ (∃ (x y z : List Nat) (T : Tg), (V.agg [.bt x, .bt y, .bt z]).R T v) ∧ ∀ (w' : World) (b' : Nat) (s' : Nat → Bool) (h' : Bool), DataW.Trod enc Try.prog w' b' s' h' 24 v d [] :=
  open_tri (fs := (match Try.prog.underlying 24 with | some (.struct fs) => fs | _ => #[])) (u := 22) (e := 5) (f0 := ((match Try.prog.underlying 24 with | some (.struct fs) => fs | _ => #[])[0]?).getD default) (f1 := ((match Try.prog.underlying 24 with | some (.struct fs) => fs | _ => #[])[1]?).getD default) (f2 := ((match Try.prog.underlying 24 with | some (.struct fs) => fs | _ => #[])[2]?).getD default)
    (by kernel_rfl) (by kernel_rfl) (by kernel_rfl) (by kernel_rfl) (by kernel_rfl) ⟨by kernel_rfl, by kernel_rfl, by kernel_rfl⟩ (by kernel_rfl) (by kernel_rfl) (by kernel_rfl) (by kernel_rfl) (by kernel_rfl) hv h

set_option maxRecDepth 100000 in
theorem sel_lifted (os : Os) (started : os.Started) (H : Type) (enc : TypeId × Value → H) :
    ReturnsInHanded {} Try.checked os 3 .any (Rows.fnP224ProjSelectSpec.pre6 enc Try.prog Try.f3 Rows.fnP224ProjSelectRow.domain false) (Rows.fnP224ProjSelectSpec.post enc Try.prog Try.f3 false true false false) := by
  refine returnsInHanded_of_change (C := Try.checked) own started (by kernel_rfl) Try.func3
    (ChangeSpec.witness6 (enc := enc) (C := Try.checked) false ⟨#[], #[.agg (Array.replicate 84 (.int .u8 0)), .agg (Array.replicate 84 (.int .u8 0)), .bool false], []⟩ 8 (by kernel_rfl) (by kernel_rfl) (by kernel_rfl) (by kernel_rfl)) ?_
  intro W base args ds gs before hval0 hW hcnd _
  have hval : ∀ (j : Nat) t v, Try.f3.params[j]? = some t → args[j]? = some v → Value.okWide Try.prog W .any base t v := hval0
  have hW' := hW
  obtain ⟨p, q, hA0, hV, rfl, hfz, hnd⟩ := hW
  have hA : DataW.TrodAll enc Try.prog W 0 (fun _ => true) true Try.f3.params.toList args.toList ds p := hA0
  rw [Try.params3] at hA hval
  obtain ⟨v0, vs0, d0, ds0, p0, q0, hargs, rfl, rfl, h0, r0⟩ := trodAll_cons hA
  obtain ⟨v1, vs1, d1, ds1, p1, q1, rfl, rfl, rfl, h1, r1⟩ := trodAll_cons r0
  obtain ⟨v2, vs2, d2, ds2, p2, q2, rfl, rfl, rfl, h2, r2⟩ := trodAll_cons r1
  obtain ⟨rfl, rfl, rfl⟩ := trodAll_nil r2
  obtain rfl : args = #[v0, v1, v2] := by cases args; simp_all
  obtain ⟨rfl, rfl⟩ := trodVars_none hV
  obtain ⟨rfl, ⟨x1, y1, z1, T1, g1⟩, s1⟩ := read_tri (hval 0 24 v0 rfl rfl) h0
  obtain ⟨rfl, ⟨x2, y2, z2, T2, g2⟩, s2⟩ := read_tri (hval 1 24 v1 rfl rfl) h1
  obtain ⟨f, rfl, rfl, rfl⟩ := open_bool Try.underlying4 (hval 2 4 v2 rfl rfl) h2
  clear hA0 hval0
  simp only [List.append_nil] at hW'
  refine (sel_calls (T := T1) f W g1 (agg3_R g2)).mono fun e W' ⟨he, hg⟩ => ?_
  subst he
  exact ⟨_, rfl, _, _, _, [], [], [], hW', trodAll_cons_mk (shut_bool Try.underlying4 _) trodAll_mk0, trodAll_cons_mk (s1 W' _ _ _) (trodAll_cons_mk (s2 W' _ _ _) (trodAll_cons_mk (shut_bool Try.underlying4 _) trodAll_mk0)), rfl, hg.frame _, fun h => by cases h⟩

theorem sel_holds : Rows.FnP224ProjSelectSaid :=
  OpenClaim.holds_of_wide 3 Try.f3 rfl rfl rfl rfl rfl rfl rfl ⟨rfl, rfl, rfl, rfl, rfl⟩ rfl rfl rfl rfl rfl (by kernel_rfl) Try.func3 (by kernel_rfl)
    (of_decide_eq_true (by kernel_rfl)) (by unfold Func.isWrapper; first | (rw [if_pos (by decide +kernel)]; kernel_rfl) | (rw [if_neg (by decide +kernel)]; exact ⟨rfl, rfl⟩))
    (fun os started H enc _ => sel_lifted os started H enc)
#print axioms sel_holds

set_option maxRecDepth 100000 in
theorem inf_lifted (os : Os) (started : os.Started) (H : Type) (enc : TypeId × Value → H) :
    ReturnsInHanded {} Try.checked os 5 .any (Rows.fnP224ProjInfinitySpec.pre6 enc Try.prog Try.f5 Rows.fnP224ProjInfinityRow.domain false) (Rows.fnP224ProjInfinitySpec.post enc Try.prog Try.f5 false true false false) := by
  refine returnsInHanded_of_change (C := Try.checked) own started (by kernel_rfl) Try.func5
    (ChangeSpec.witness6 (enc := enc) (C := Try.checked) false ⟨#[], #[.agg (Array.replicate 84 (.int .u8 0))], []⟩ 8 (by kernel_rfl) (by kernel_rfl) (by kernel_rfl) (by kernel_rfl)) ?_
  intro W base args ds gs before hval0 hW hcnd _
  have hval : ∀ (j : Nat) t v, Try.f5.params[j]? = some t → args[j]? = some v → Value.okWide Try.prog W .any base t v := hval0
  have hW' := hW
  obtain ⟨p, q, hA0, hV, rfl, hfz, hnd⟩ := hW
  have hA : DataW.TrodAll enc Try.prog W 0 (fun _ => true) true Try.f5.params.toList args.toList ds p := hA0
  rw [Try.params5] at hA hval
  obtain ⟨v0, vs0, d0, ds0, p0, q0, hargs, rfl, rfl, h0, r0⟩ := trodAll_cons hA
  obtain ⟨rfl, rfl, rfl⟩ := trodAll_nil r0
  obtain rfl : args = #[v0] := by cases args; simp_all
  obtain ⟨rfl, rfl⟩ := trodVars_none hV
  obtain ⟨rfl, ⟨x1, y1, z1, T1, g1⟩, s1⟩ := read_tri (hval 0 24 v0 rfl rfl) h0
  clear hA0 hval0
  simp only [List.append_nil] at hW'
  refine (inf_calls (T := T1) W g1).mono fun e W' ⟨he, hg⟩ => ?_
  subst he
  exact ⟨_, rfl, _, _, _, [], [], [], hW', trodAll_cons_mk (shut_bool Try.underlying4 _) trodAll_mk0, trodAll_cons_mk (s1 W' _ _ _) trodAll_mk0, rfl, hg.frame _, fun h => by cases h⟩

theorem inf_holds : Rows.FnP224ProjInfinitySaid :=
  OpenClaim.holds_of_wide 5 Try.f5 rfl rfl rfl rfl rfl rfl rfl ⟨rfl, rfl, rfl, rfl, rfl⟩ rfl rfl rfl rfl rfl (by kernel_rfl) Try.func5 (by kernel_rfl)
    (of_decide_eq_true (by kernel_rfl)) (by unfold Func.isWrapper; first | (rw [if_pos (by decide +kernel)]; kernel_rfl) | (rw [if_neg (by decide +kernel)]; exact ⟨rfl, rfl⟩))
    (fun os started H enc _ => inf_lifted os started H enc)
#print axioms inf_holds

end Go.Proofs.Ytlghkkfamhjodaa

