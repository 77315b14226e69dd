import Derived.Test.YtdaheccfeihpgaaRows
import Derived.Test.YtdaheccfeihpgaaKb
/-
  FnP224Kept returns true: for every two slices of bytes, and both read afterwards as before. No condition.
-/
namespace Go.Proofs.Ytdaheccfeihpgaa
open Go Go.ChangeShapes Go.WideShapes Go.ChangeAt Go.RowKit Go.Proofs.Ytdaheccfeihpgaa.Nm

theorem own : ownKnob Try.prog.godebug = none := by kernel_rfl

set_option maxRecDepth 100000 in
theorem ke_lifted (os : Os) (started : os.Started) (H : Type) (enc : TypeId × Value → H) :
    ReturnsInHanded {} Try.checked os 5 .any (Rows.fnP224KeptSpec.pre6 enc Try.prog Try.f5 Rows.fnP224KeptRow.domain false) (Rows.fnP224KeptSpec.post enc Try.prog Try.f5 false true false false) := by
  refine returnsInHanded_of_change (C := Try.checked) own started (by kernel_rfl) Try.func5
    (ChangeSpec.witness6 (enc := enc) (C := Try.checked) false ⟨#[], #[.slice none 0 0, .slice none 0 0], []⟩ 8 (by kernel_rfl) (by kernel_rfl) (by kernel_rfl) (by kernel_rfl)) ?_
  intro W base args ds gs before hval0 hW hcnd _
  have hval : ∀ (j : Nat) t v, Try.f5.params[j]? = some t → args[j]? = some v → Value.okWide Try.prog W .any base t v := hval0
  have hW' := hW
  obtain ⟨p, q, hA0, hV, rfl, hfz, hnd⟩ := hW
  have hA : DataW.TrodAll enc Try.prog W 0 (fun _ => true) true Try.f5.params.toList args.toList ds p := hA0
  rw [Try.params5] at hA hval
  obtain ⟨v0, vs0, d0, ds0, p0, q0, hargs, rfl, rfl, h0, r0⟩ := trodAll_cons hA
  obtain ⟨v1, vs1, d1, ds1, p1, q1, rfl, rfl, rfl, h1, r1⟩ := trodAll_cons r0
  obtain ⟨rfl, rfl, rfl⟩ := trodAll_nil r1
  obtain rfl : args = #[v0, v1] := by cases args; simp_all
  obtain ⟨rfl, rfl⟩ := trodVars_none hV
  obtain ⟨g1, s1⟩ := open_bys (P := Try.prog) (t := 30) (e := 5) (by kernel_rfl) (by kernel_rfl) (by kernel_rfl) (hval 0 30 v0 rfl rfl) h0 (fun b o hb => hfz b o (by simp [hb]))
  obtain ⟨g2, s2⟩ := open_bys (P := Try.prog) (t := 30) (e := 5) (by kernel_rfl) (by kernel_rfl) (by kernel_rfl) (hval 1 30 v1 rfl rfl) h1 (fun b o hb => hfz b o (by simp [hb]))
  have hr := open_row (P := Try.prog) (t := 30) (e := 5) (by kernel_rfl) (by kernel_rfl) (by kernel_rfl) (hval 1 30 v1 rfl rfl) h1 (fun b o hb => hfz b o (by simp [hb]))
  clear hA0 hval0
  refine (ke_calls g1 g2 hr).mono fun e W' ⟨he, hg⟩ => ?_
  subst he
  exact ⟨_, rfl, _, _, _, [], p0 ++ (p1 ++ []), [], hW', trodAll_cons_mk (shut_bool Try.underlying4 _) trodAll_mk0, trodAll_cons_mk (s1 W' hg _ fun k hk => decide_eq_true hk) (trodAll_cons_mk (s2 W' hg _ fun k hk => decide_eq_true hk) trodAll_mk0), rfl, hg.frame _, fun h => by cases h⟩

theorem ke_holds : Rows.FnP224KeptSaid :=
  OpenClaim.holds_of_wide 5 Try.f5 rfl rfl rfl rfl rfl rfl rfl ⟨rfl, rfl, rfl, rfl, rfl⟩ rfl rfl rfl rfl rfl (by kernel_rfl) Try.func5 (by kernel_rfl)
    (of_decide_eq_true (by kernel_rfl)) (by unfold Func.isWrapper; first | (rw [if_pos (by decide +kernel)]; kernel_rfl) | (rw [if_neg (by decide +kernel)]; exact ⟨rfl, rfl⟩))
    (fun os started H enc _ => ke_lifted os started H enc)
#print axioms ke_holds

end Go.Proofs.Ytdaheccfeihpgaa

