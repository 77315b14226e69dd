import Derived.ProofKit
import Derived.OpenShut
import Derived.Test.YtdaheccfeihpgaaG
/-
  Arguments of bytes.
-/
/-
  Arguments of bytes, three times twenty-eight: read and told again.
-/
namespace Go.Proofs.Ytdaheccfeihpgaa.Nm
open Go Go.ChangeShapes Go.WideShapes Go.ChangeAt Go.RowKit

section
variable {H : Type} {enc : TypeId × Value → H} {P : Program}

/-- A number is read as it is, in any memory. -/
theorem int_world {k : IntKind} {t : TypeId} (ht : P.underlying t = some (.int k)) (w w' : World) (b b' : Nat) (s s' : Nat → Bool) (h h' : Bool) (fuel : Nat) (cs : List Value) : DataW.trod enc P w b s h fuel t cs = DataW.trod enc P w' b' s' h' fuel t cs := by
  cases fuel with
  | zero => rfl
  | succ n =>
    unfold DataW.trod
    rw [ht]
    rcases cs with _ | ⟨c, _ | ⟨c2, r⟩⟩
    · rfl
    · cases c <;> rfl
    · cases c <;> rfl

theorem arr_world {k : IntKind} {n : Nat} {t e : TypeId} (ht : P.underlying t = some (.array n e)) (he : P.underlying e = some (.int k)) (w w' : World) (b b' : Nat) (s s' : Nat → Bool) (h h' : Bool) (fuel : Nat) (cs : List Value) : DataW.trod enc P w b s h fuel t cs = DataW.trod enc P w' b' s' h' fuel t cs := by
  cases fuel with
  | zero => rfl
  | succ m =>
    unfold DataW.trod
    rw [ht]
    simp only [int_world (enc := enc) he w w' b b' s s' h h' m]

theorem tri_world {k : IntKind} {n : Nat} {t u e : TypeId} {fs : Array Field} (ht : P.underlying t = some (.struct fs)) (hf : ∀ f ∈ fs.toList, f.type = u) (hu : P.underlying u = some (.array n e)) (he : P.underlying e = some (.int k)) (w w' : World) (b b' : Nat) (s s' : Nat → Bool) (h h' : Bool) (fuel : Nat) (cs : List Value) :
    DataW.trod enc P w b s h fuel t cs = DataW.trod enc P w' b' s' h' fuel t cs := by
  cases fuel with
  | zero => rfl
  | succ m =>
    have key : ∀ l : List Field, (∀ f ∈ l, f.type = u) → (l.mapM fun f => DataW.trod enc P w b s h m f.type ((cs.drop f.offset).take (P.cellsOf f.type))) = (l.mapM fun f => DataW.trod enc P w' b' s' h' m f.type ((cs.drop f.offset).take (P.cellsOf f.type))) := by
      intro l
      induction l with
      | nil => intro _; rfl
      | cons f r ih =>
        intro hl
        rw [List.mapM_cons, List.mapM_cons, ih fun g hg => hl g (by simp [hg]), hl f (by simp), arr_world (enc := enc) hu he w w' b b' s s' h h' m]
    unfold DataW.trod
    rw [ht]
    simp only [key fs.toList hf]

/-- Twenty-eight bytes in a row. -/
theorem open_arr {w : World} {base : Nat} {spare : Nat → Bool} {held : Bool} {m : Nat} {t e : TypeId} {cs : List Value} {x : DataW H × List MemPlace} (ht : P.underlying t = some (.array 28 e)) (he : P.underlying e = some (.int .u8)) (hC : P.cellsOf t = 28) (hc : P.cellsOf e = 1) (h : DataW.trod enc P w base spare held m t cs = some x) :
    ∃ bs : List Nat, bs.length = 28 ∧ (∀ b ∈ bs, b < 256) ∧ cs = bs.map (fun (b : Nat) => Value.int .u8 (b : Int)) ∧ x.2 = [] := by
  obtain ⟨xs, n, rfl, rfl, hl, hxl, hx⟩ := DataW.trod_array ht h
  rw [hC] at hl
  rw [hc] at hx
  have cell : ∀ i, i < 28 → ∃ (b : Nat), b < 256 ∧ cs[i]? = some (.int .u8 (b : Int)) ∧ ∃ y, xs[i]? = some y ∧ y.2 = [] := by
    intro i hi
    have h1 := hx i hi
    have hxi : i < xs.length := by omega
    rw [List.getElem?_eq_getElem hxi] at h1
    obtain ⟨z, e1, e2, e3⟩ := DataW.trod_int he h1
    have hb := bounds_u8 e3
    refine ⟨z.toNat, by omega, ?_, _, List.getElem?_eq_getElem hxi, by rw [e2]⟩
    have hci : i < cs.length := by omega
    rw [Nat.mul_one, List.drop_eq_getElem_cons hci, List.take_succ_cons, List.take_zero] at e1
    rw [List.getElem?_eq_getElem hci]
    simp only [List.cons.injEq, and_true] at e1
    rw [e1]
    congr 2
    omega
  refine ⟨cs.map fun v => match v with | .int _ z => z.toNat | _ => 0, by simp [hl], fun b hb => ?_, ?_, ?_⟩
  · simp only [List.mem_map] at hb
    obtain ⟨v, hv, rfl⟩ := hb
    obtain ⟨i, hi, rfl⟩ := List.getElem_of_mem hv
    obtain ⟨b, hb, hcb, _⟩ := cell i (by omega)
    rw [List.getElem?_eq_getElem hi] at hcb
    rw [Option.some.inj hcb]
    simpa using hb
  · apply List.ext_getElem
    · simp
    · intro i h1 h2
      obtain ⟨b, hb, hcb, _⟩ := cell i (by omega)
      rw [List.getElem?_eq_getElem h1] at hcb
      simp only [List.getElem_map]
      rw [Option.some.inj hcb]
      simp
  · have : ∀ y ∈ xs, y.2 = [] := by
      intro y hy
      obtain ⟨i, hi, rfl⟩ := List.getElem_of_mem hy
      obtain ⟨_, _, _, y', hy', hn⟩ := cell i (by omega)
      rw [List.getElem?_eq_getElem hi] at hy'
      rw [Option.some.inj hy']
      exact hn
    show xs.flatMap (·.2) = []
    exact List.flatMap_eq_nil_iff.2 this

/-- Three times twenty-eight bytes, by value. -/
theorem open_tri {W : World} {r : Reach} {b0 base : Nat} {spare : Nat → Bool} {held : Bool} {t u e : TypeId} {fs : Array Field} {v : Value} {d : DataW H} {p : List MemPlace} {f0 f1 f2 : Field} (ht : P.underlying t = some (.struct fs)) (hfs : fs = #[f0, f1, f2]) (t0 : f0.type = u) (t1 : f1.type = u) (t2 : f2.type = u) (ho : f0.offset = 0 ∧ f1.offset = 28 ∧ f2.offset = 56) (hu : P.underlying u = some (.array 28 e)) (he : P.underlying e = some (.int .u8)) (hT : P.cellsOf t = 84) (hC : P.cellsOf u = 28) (hc : P.cellsOf e = 1)
    (hv : Value.okWide P W r b0 t v) (h : DataW.Trod enc P W base spare held t v d p) :
    p = [] ∧ (∃ (x y z : List Nat) (T : Tg), (V.agg [.bt x, .bt y, .bt z]).R T v) ∧ ∀ (w' : World) (b' : Nat) (s' : Nat → Bool) (h' : Bool), DataW.Trod enc P w' b' s' h' t v d [] := by
  have hf : ∀ f ∈ fs.toList, f.type = u := by
    intro f hm
    rw [hfs] at hm
    simp only [List.mem_cons, List.not_mem_nil, or_false] at hm
    rcases hm with rfl | rfl | rfl
    · exact t0
    · exact t1
    · exact t2
  obtain ⟨cs, rfl, hsz⟩ := okWide_struct ht hv
  obtain ⟨fuel, hfu⟩ := h
  have hall : ∀ (w' : World) (b' : Nat) (s' : Nat → Bool) (h' : Bool), DataW.Trod enc P w' b' s' h' t (.agg cs) d p := fun w' b' s' h' => ⟨fuel, by rw [tri_world (enc := enc) ht hf hu he w' W b' base s' spare h' held fuel]; exact hfu⟩
  obtain ⟨xs, n, rfl, hx, hl, hxl, hfld⟩ := DataW.trod_struct ht hfu
  subst hfs
  simp only [Value.cells] at hfld hl
  have hlen : cs.toList.length = 84 := by rw [hl, hT]
  have hxl3 : xs.length = 3 := by simpa using hxl
  obtain ⟨y0, y1, y2, rfl⟩ : ∃ a b c, xs = [a, b, c] := by
    match xs, hxl3 with
    | [a, b, c], _ => exact ⟨a, b, c, rfl⟩
  have e0 := hfld 0 f0 rfl
  have e1 := hfld 1 f1 rfl
  have e2 := hfld 2 f2 rfl
  rw [t0, hC, ho.1] at e0
  rw [t1, hC, ho.2.1] at e1
  rw [t2, hC, ho.2.2] at e2
  obtain ⟨x, hx1, hx2, hx3, hx4⟩ := open_arr hu he hC hc e0
  obtain ⟨y, hy1, hy2, hy3, hy4⟩ := open_arr hu he hC hc e1
  obtain ⟨z, hz1, hz2, hz3, hz4⟩ := open_arr hu he hC hc e2
  have hp : p = [] := by
    simp only [Prod.mk.injEq] at hx
    rw [hx.2]
    simp [hx4, hy4, hz4]
  subst hp
  refine ⟨rfl, ⟨x, y, z, tgs [], ?_⟩, hall⟩
  rw [V.R]
  refine ⟨cs.toList, by simp, ?_, ?_⟩
  · have hcs : cs.toList = x.map (fun (b : Nat) => Value.int .u8 (b : Int)) ++ (y.map (fun (b : Nat) => Value.int .u8 (b : Int)) ++ z.map (fun (b : Nat) => Value.int .u8 (b : Int))) := by
      rw [← hx3, ← hy3, ← hz3]
      have a1 : cs.toList = cs.toList.take 28 ++ cs.toList.drop 28 := (List.take_append_drop 28 _).symm
      have a2 : cs.toList.drop 28 = (cs.toList.drop 28).take 28 ++ (cs.toList.drop 28).drop 28 := (List.take_append_drop 28 _).symm
      have a3 : (cs.toList.drop 56).take 28 = cs.toList.drop 56 := List.take_of_length_le (by simp only [List.length_drop]; omega)
      rw [List.drop_zero, a3]
      conv => lhs; rw [a1, a2]
      rw [List.drop_drop]
    rw [hcs]
    have c1 := (pr_bt (tgs []) hx1 hx2).1
    have c2 := (pr_bt (tgs []) hy1 hy2).1
    have c3 := (pr_bt (tgs []) hz1 hz2).1
    have := c1.append (c2.append c3)
    simpa [flat] using this
  · intro q hq
    simp only [List.mem_cons, List.not_mem_nil, or_false] at hq
    rcases hq with rfl | rfl | rfl
    · exact ⟨hx1, hx2⟩
    · exact ⟨hy1, hy2⟩
    · exact ⟨hz1, hz2⟩

end
end Go.Proofs.Ytdaheccfeihpgaa.Nm

/-
  An argument of twenty-eight bytes, by value: read and told again.
-/
namespace Go.Proofs.Ytdaheccfeihpgaa.Nm
open Go Go.ChangeShapes Go.WideShapes Go.ChangeAt Go.RowKit

theorem open_bt {H : Type} {enc : TypeId × Value → H} {P : Program} {W : World} {r : Reach} {b0 base : Nat} {spare : Nat → Bool} {held : Bool} {t e : TypeId} {v : Value} {d : DataW H} {p : List MemPlace} (ht : P.underlying t = some (.array 28 e)) (he : P.underlying e = some (.int .u8)) (hC : P.cellsOf t = 28) (hc : P.cellsOf e = 1)
    (hv : Value.okWide P W r b0 t v) (h : DataW.Trod enc P W base spare held t v d p) :
    p = [] ∧ (∃ (x : List Nat) (T : Tg), (V.agg [.bt x]).R T v) ∧ ∀ (w' : World) (b' : Nat) (s' : Nat → Bool) (h' : Bool), DataW.Trod enc P w' b' s' h' t v d [] := by
  simp only [Value.okWide, ht] at hv
  obtain ⟨cs, rfl, _⟩ := hv
  obtain ⟨fuel, hfu⟩ := h
  have hall : ∀ (w' : World) (b' : Nat) (s' : Nat → Bool) (h' : Bool), DataW.Trod enc P w' b' s' h' t (.agg cs) d p := fun w' b' s' h' => ⟨fuel, by rw [arr_world (enc := enc) ht he w' W b' base s' spare h' held fuel]; exact hfu⟩
  obtain ⟨x, h1, h2, h3, h4⟩ := open_arr ht he hC hc hfu
  have hp : p = [] := h4
  subst hp
  refine ⟨rfl, ⟨x, tgs [], ?_⟩, hall⟩
  rw [V.R]
  have h3 : cs.toList = x.map (fun (b : Nat) => Value.int .u8 (b : Int)) := by simpa [Value.cells] using h3
  exact ⟨cs.toList, by simp, h3 ▸ pr_bt (tgs []) h1 h2⟩

end Go.Proofs.Ytdaheccfeihpgaa.Nm

