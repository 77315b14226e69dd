import Derived.ProofKit
import Derived.OpenShut
import Derived.ChangeSlices
import Derived.Test.YtdaheccfeihpgaaG
/-
  Arguments of bytes.
-/
/-
  Arguments of bytes, three times twenty-eight: read and told again.
-/
namespace Go.Proofs.Ytdaheccfeihpgaa.Nm
open Go Go.ChangeShapes Go.WideShapes Go.ChangeAt Go.RowKit

section
variable {H : Type} {enc : TypeId × Value → H} {P : Program}

/-- A number is read as it is, in any memory. -/
theorem int_world {k : IntKind} {t : TypeId} (ht : P.underlying t = some (.int k)) (w w' : World) (b b' : Nat) (s s' : Nat → Bool) (h h' : Bool) (fuel : Nat) (cs : List Value) : DataW.trod enc P w b s h fuel t cs = DataW.trod enc P w' b' s' h' fuel t cs := by
  cases fuel with
  | zero => rfl
  | succ n =>
    unfold DataW.trod
    rw [ht]
    rcases cs with _ | ⟨c, _ | ⟨c2, r⟩⟩
    · rfl
    · cases c <;> rfl
    · cases c <;> rfl

theorem arr_world {k : IntKind} {n : Nat} {t e : TypeId} (ht : P.underlying t = some (.array n e)) (he : P.underlying e = some (.int k)) (w w' : World) (b b' : Nat) (s s' : Nat → Bool) (h h' : Bool) (fuel : Nat) (cs : List Value) : DataW.trod enc P w b s h fuel t cs = DataW.trod enc P w' b' s' h' fuel t cs := by
  cases fuel with
  | zero => rfl
  | succ m =>
    unfold DataW.trod
    rw [ht]
    simp only [int_world (enc := enc) he w w' b b' s s' h h' m]

theorem tri_world {k : IntKind} {n : Nat} {t u e : TypeId} {fs : Array Field} (ht : P.underlying t = some (.struct fs)) (hf : ∀ f ∈ fs.toList, f.type = u) (hu : P.underlying u = some (.array n e)) (he : P.underlying e = some (.int k)) (w w' : World) (b b' : Nat) (s s' : Nat → Bool) (h h' : Bool) (fuel : Nat) (cs : List Value) :
    DataW.trod enc P w b s h fuel t cs = DataW.trod enc P w' b' s' h' fuel t cs := by
  cases fuel with
  | zero => rfl
  | succ m =>
    have key : ∀ l : List Field, (∀ f ∈ l, f.type = u) → (l.mapM fun f => DataW.trod enc P w b s h m f.type ((cs.drop f.offset).take (P.cellsOf f.type))) = (l.mapM fun f => DataW.trod enc P w' b' s' h' m f.type ((cs.drop f.offset).take (P.cellsOf f.type))) := by
      intro l
      induction l with
      | nil => intro _; rfl
      | cons f r ih =>
        intro hl
        rw [List.mapM_cons, List.mapM_cons, ih fun g hg => hl g (by simp [hg]), hl f (by simp), arr_world (enc := enc) hu he w w' b b' s s' h h' m]
    unfold DataW.trod
    rw [ht]
    simp only [key fs.toList hf]

/-- Twenty-eight bytes in a row. -/
theorem open_arr {w : World} {base : Nat} {spare : Nat → Bool} {held : Bool} {m : Nat} {t e : TypeId} {cs : List Value} {x : DataW H × List MemPlace} (ht : P.underlying t = some (.array 28 e)) (he : P.underlying e = some (.int .u8)) (hC : P.cellsOf t = 28) (hc : P.cellsOf e = 1) (h : DataW.trod enc P w base spare held m t cs = some x) :
    ∃ bs : List Nat, bs.length = 28 ∧ (∀ b ∈ bs, b < 256) ∧ cs = bs.map (fun (b : Nat) => Value.int .u8 (b : Int)) ∧ x.2 = [] := by
  obtain ⟨xs, n, rfl, rfl, hl, hxl, hx⟩ := DataW.trod_array ht h
  rw [hC] at hl
  rw [hc] at hx
  have cell : ∀ i, i < 28 → ∃ (b : Nat), b < 256 ∧ cs[i]? = some (.int .u8 (b : Int)) ∧ ∃ y, xs[i]? = some y ∧ y.2 = [] := by
    intro i hi
    have h1 := hx i hi
    have hxi : i < xs.length := by omega
    rw [List.getElem?_eq_getElem hxi] at h1
    obtain ⟨z, e1, e2, e3⟩ := DataW.trod_int he h1
    have hb := bounds_u8 e3
    refine ⟨z.toNat, by omega, ?_, _, List.getElem?_eq_getElem hxi, by rw [e2]⟩
    have hci : i < cs.length := by omega
    rw [Nat.mul_one, List.drop_eq_getElem_cons hci, List.take_succ_cons, List.take_zero] at e1
    rw [List.getElem?_eq_getElem hci]
    simp only [List.cons.injEq, and_true] at e1
    rw [e1]
    congr 2
    omega
  refine ⟨cs.map fun v => match v with | .int _ z => z.toNat | _ => 0, by simp [hl], fun b hb => ?_, ?_, ?_⟩
  · simp only [List.mem_map] at hb
    obtain ⟨v, hv, rfl⟩ := hb
    obtain ⟨i, hi, rfl⟩ := List.getElem_of_mem hv
    obtain ⟨b, hb, hcb, _⟩ := cell i (by omega)
    rw [List.getElem?_eq_getElem hi] at hcb
    rw [Option.some.inj hcb]
    simpa using hb
  · apply List.ext_getElem
    · simp
    · intro i h1 h2
      obtain ⟨b, hb, hcb, _⟩ := cell i (by omega)
      rw [List.getElem?_eq_getElem h1] at hcb
      simp only [List.getElem_map]
      rw [Option.some.inj hcb]
      simp
  · have : ∀ y ∈ xs, y.2 = [] := by
      intro y hy
      obtain ⟨i, hi, rfl⟩ := List.getElem_of_mem hy
      obtain ⟨_, _, _, y', hy', hn⟩ := cell i (by omega)
      rw [List.getElem?_eq_getElem hi] at hy'
      rw [Option.some.inj hy']
      exact hn
    show xs.flatMap (·.2) = []
    exact List.flatMap_eq_nil_iff.2 this

/-- Three times twenty-eight bytes, by value. -/
theorem open_tri {W : World} {r : Reach} {b0 base : Nat} {spare : Nat → Bool} {held : Bool} {t u e : TypeId} {fs : Array Field} {v : Value} {d : DataW H} {p : List MemPlace} {f0 f1 f2 : Field} (ht : P.underlying t = some (.struct fs)) (hfs : fs = #[f0, f1, f2]) (t0 : f0.type = u) (t1 : f1.type = u) (t2 : f2.type = u) (ho : f0.offset = 0 ∧ f1.offset = 28 ∧ f2.offset = 56) (hu : P.underlying u = some (.array 28 e)) (he : P.underlying e = some (.int .u8)) (hT : P.cellsOf t = 84) (hC : P.cellsOf u = 28) (hc : P.cellsOf e = 1)
    (hv : Value.okWide P W r b0 t v) (h : DataW.Trod enc P W base spare held t v d p) :
    p = [] ∧ (∃ (x y z : List Nat) (T : Tg), (V.agg [.bt x, .bt y, .bt z]).R T v) ∧ ∀ (w' : World) (b' : Nat) (s' : Nat → Bool) (h' : Bool), DataW.Trod enc P w' b' s' h' t v d [] := by
  have hf : ∀ f ∈ fs.toList, f.type = u := by
    intro f hm
    rw [hfs] at hm
    simp only [List.mem_cons, List.not_mem_nil, or_false] at hm
    rcases hm with rfl | rfl | rfl
    · exact t0
    · exact t1
    · exact t2
  obtain ⟨cs, rfl, hsz⟩ := okWide_struct ht hv
  obtain ⟨fuel, hfu⟩ := h
  have hall : ∀ (w' : World) (b' : Nat) (s' : Nat → Bool) (h' : Bool), DataW.Trod enc P w' b' s' h' t (.agg cs) d p := fun w' b' s' h' => ⟨fuel, by rw [tri_world (enc := enc) ht hf hu he w' W b' base s' spare h' held fuel]; exact hfu⟩
  obtain ⟨xs, n, rfl, hx, hl, hxl, hfld⟩ := DataW.trod_struct ht hfu
  subst hfs
  simp only [Value.cells] at hfld hl
  have hlen : cs.toList.length = 84 := by rw [hl, hT]
  have hxl3 : xs.length = 3 := by simpa using hxl
  obtain ⟨y0, y1, y2, rfl⟩ : ∃ a b c, xs = [a, b, c] := by
    match xs, hxl3 with
    | [a, b, c], _ => exact ⟨a, b, c, rfl⟩
  have e0 := hfld 0 f0 rfl
  have e1 := hfld 1 f1 rfl
  have e2 := hfld 2 f2 rfl
  rw [t0, hC, ho.1] at e0
  rw [t1, hC, ho.2.1] at e1
  rw [t2, hC, ho.2.2] at e2
  obtain ⟨x, hx1, hx2, hx3, hx4⟩ := open_arr hu he hC hc e0
  obtain ⟨y, hy1, hy2, hy3, hy4⟩ := open_arr hu he hC hc e1
  obtain ⟨z, hz1, hz2, hz3, hz4⟩ := open_arr hu he hC hc e2
  have hp : p = [] := by
    simp only [Prod.mk.injEq] at hx
    rw [hx.2]
    simp [hx4, hy4, hz4]
  subst hp
  refine ⟨rfl, ⟨x, y, z, tgs [], ?_⟩, hall⟩
  rw [V.R]
  refine ⟨cs.toList, by simp, ?_, ?_⟩
  · have hcs : cs.toList = x.map (fun (b : Nat) => Value.int .u8 (b : Int)) ++ (y.map (fun (b : Nat) => Value.int .u8 (b : Int)) ++ z.map (fun (b : Nat) => Value.int .u8 (b : Int))) := by
      rw [← hx3, ← hy3, ← hz3]
      have a1 : cs.toList = cs.toList.take 28 ++ cs.toList.drop 28 := (List.take_append_drop 28 _).symm
      have a2 : cs.toList.drop 28 = (cs.toList.drop 28).take 28 ++ (cs.toList.drop 28).drop 28 := (List.take_append_drop 28 _).symm
      have a3 : (cs.toList.drop 56).take 28 = cs.toList.drop 56 := List.take_of_length_le (by simp only [List.length_drop]; omega)
      rw [List.drop_zero, a3]
      conv => lhs; rw [a1, a2]
      rw [List.drop_drop]
    rw [hcs]
    have c1 := (pr_bt (tgs []) hx1 hx2).1
    have c2 := (pr_bt (tgs []) hy1 hy2).1
    have c3 := (pr_bt (tgs []) hz1 hz2).1
    have := c1.append (c2.append c3)
    simpa [flat] using this
  · intro q hq
    simp only [List.mem_cons, List.not_mem_nil, or_false] at hq
    rcases hq with rfl | rfl | rfl
    · exact ⟨hx1, hx2⟩
    · exact ⟨hy1, hy2⟩
    · exact ⟨hz1, hz2⟩

end
end Go.Proofs.Ytdaheccfeihpgaa.Nm

/-
  An argument of twenty-eight bytes, by value: read and told again.
-/
namespace Go.Proofs.Ytdaheccfeihpgaa.Nm
open Go Go.ChangeShapes Go.WideShapes Go.ChangeAt Go.RowKit

theorem open_bt {H : Type} {enc : TypeId × Value → H} {P : Program} {W : World} {r : Reach} {b0 base : Nat} {spare : Nat → Bool} {held : Bool} {t e : TypeId} {v : Value} {d : DataW H} {p : List MemPlace} (ht : P.underlying t = some (.array 28 e)) (he : P.underlying e = some (.int .u8)) (hC : P.cellsOf t = 28) (hc : P.cellsOf e = 1)
    (hv : Value.okWide P W r b0 t v) (h : DataW.Trod enc P W base spare held t v d p) :
    p = [] ∧ (∃ (x : List Nat) (T : Tg), (V.agg [.bt x]).R T v) ∧ ∀ (w' : World) (b' : Nat) (s' : Nat → Bool) (h' : Bool), DataW.Trod enc P w' b' s' h' t v d [] := by
  simp only [Value.okWide, ht] at hv
  obtain ⟨cs, rfl, _⟩ := hv
  obtain ⟨fuel, hfu⟩ := h
  have hall : ∀ (w' : World) (b' : Nat) (s' : Nat → Bool) (h' : Bool), DataW.Trod enc P w' b' s' h' t (.agg cs) d p := fun w' b' s' h' => ⟨fuel, by rw [arr_world (enc := enc) ht he w' W b' base s' spare h' held fuel]; exact hfu⟩
  obtain ⟨x, h1, h2, h3, h4⟩ := open_arr ht he hC hc hfu
  have hp : p = [] := h4
  subst hp
  refine ⟨rfl, ⟨x, tgs [], ?_⟩, hall⟩
  rw [V.R]
  have h3 : cs.toList = x.map (fun (b : Nat) => Value.int .u8 (b : Int)) := by simpa [Value.cells] using h3
  exact ⟨cs.toList, by simp, h3 ▸ pr_bt (tgs []) h1 h2⟩

end Go.Proofs.Ytdaheccfeihpgaa.Nm

/-
  Arguments that are slices of bytes: how they are told to a run, and that they read the same afterwards.
-/
namespace Go.Proofs.Ytdaheccfeihpgaa.Nm
open Go Go.ChangeShapes Go.WideShapes Go.ChangeAt Go.RowKit

/-! ### The arguments -/
def tg2 (o1 o2 : Option Loc) : Tg := fun i => match i with | 0 => o1 | 1 => o2 | _ => none
def mm2 (q1 q2 : Option (List Pc)) : Mem := (match q1 with | some q => [(0, q)] | none => []) ++ (match q2 with | some q => [(1, q)] | none => [])

/-- A slice of bytes: what stands for it under a tag, its block, what lies in it. -/
def SArg (w : World) (v : Value) (s : Nat → Sc) (o : Option Loc) (q : Option (List Pc)) : Prop :=
  (∀ b, o = some b → b.blk < w.heap.size) ∧ (∀ T t, T t = o → (s t).R T v) ∧ ∀ l, q = some l → ∀ T t, T t = o → BlockOk T w t l

theorem mok_opt {w : World} {wr : Nat → Bool} {v1 v2 : Value} {s1 s2 : Nat → Sc} {o1 o2 : Option Loc} {q1 q2 : Option (List Pc)} (h1 : SArg w v1 s1 o1 q1) (h2 : SArg w v2 s2 o2 q2) (hwr : ∀ i, i < 2 → wr i = false) : MOk wr (tg2 o1 o2) w (mm2 q1 q2) := by
  refine ⟨fun i j b1 b2 hw hb1 hb2 _ => ?_, fun i b hb => ?_, fun i l hl => ?_⟩
  · match i, hb1 with
    | 0, _ => rw [hwr 0 (by omega)] at hw; cases hw
    | 1, _ => rw [hwr 1 (by omega)] at hw; cases hw
  · match i, hb with
    | 0, hb => exact h1.1 b hb
    | 1, hb => exact h2.1 b hb
  · have key2 : lkp (match q2 with | some q => [(1, q)] | none => []) i = some l → BlockOk (tg2 o1 o2) w i l := by
      intro h
      cases q2 with
      | none => exact (lkp_nil h).elim
      | some q =>
        rcases lkp_cons h with ⟨rfl, rfl⟩ | h
        · exact h2.2.2 _ rfl _ 1 rfl
        · exact (lkp_nil h).elim
    cases q1 with
    | none => exact key2 hl
    | some q =>
      rcases lkp_cons hl with ⟨rfl, rfl⟩ | h
      · exact h1.2.2 _ rfl _ 0 rfl
      · exact key2 h

/-- The four shapes. -/
inductive Bys (w : World) (v : Value) : Prop where
  | nil : SArg w v (fun _ => .snil) none none → Bys w v
  | any (n : Nat) (b : Loc) : n ≠ 1 → n ≠ 57 → SArg w v (fun t => .slv t n) (some b) none → Bys w v
  | one (z : Int) (b : Loc) : SArg w v (fun t => .slu t 0 1) (some b) (some [.c (.sym .u8 z)]) → Bys w v
  | pt (z : Int) (x y : List Nat) (b : Loc) : SArg w v (fun t => .slu t 0 57) (some b) (some [.c (.sym .u8 z), .bt x, .bt y]) → Bys w v

theorem spot_slice {P : Program} {W : World} {r : Reach} {b0 : Nat} {t e : TypeId} {a : Addr} {len cap : Nat} (ht : P.underlying t = some (.slice e)) (hv : Value.okWide P W r b0 t (.slice (some a) len cap)) : a.spot = none ∧ ∃ c ty fz, W.heap[a.block]? = some (.cells c ty fz) := by
  simp only [Value.okWide, ht, Cell.okWide, Cell.ok] at hv
  obtain ⟨_, _, _, h2, row, cells, h3, _⟩ := hv
  refine ⟨h2, ?_⟩
  unfold World.shape? at h3
  split at h3
  · rename_i c ty fz hg
    exact ⟨_, _, _, hg⟩
  · cases h3

theorem cr_ints (T : Tg) : ∀ {l : List Int}, (∀ b ∈ l, 0 ≤ b ∧ b < 256) → CR T (l.map fun x => Sc.sym .u8 x) (l.map fun x => Value.int .u8 x)
  | [], _ => .nil
  | x :: r, h => .cons ⟨rfl, by have := h x (by simp); rw [IntKind.wrap_u8']; omega⟩ (cr_ints T fun b hb => h b (by simp [hb]))

theorem toNat_map {l : List Int} (h : ∀ b ∈ l, 0 ≤ b ∧ b < 256) : (l.map Int.toNat).map (fun (b : Nat) => (b : Int)) = l := by
  rw [List.map_map]
  conv => rhs; rw [← List.map_id l]
  refine List.map_congr_left fun b hb => ?_
  have := h b hb
  simp only [Function.comp, id]
  omega

/-- Cells of a block that are known one by one. -/
theorem block_ints {W : World} {b : Loc} {c : Array Value} {ty : TypeId} {fz : Nat × Nat} {zs : List Int} {l : List Pc} (hg : W.heap[b.blk]? = some (.cells c ty fz)) (hb : ∀ n ∈ zs, 0 ≤ n ∧ n < 256)
    (hcell : ∀ i, i < zs.length → c[b.off + i]? = some (.int .u8 (zs.getD i 0))) (hn : 0 < zs.length) (hf : NF fz b.off zs.length) (hl : flat l = zs.map fun x => Sc.sym .u8 x) (hgd : goods l) {T : Tg} {t : Nat} (ht : T t = some b) : BlockOk T W t l := by
  have hoff : b.off + (zs.length - 1) < c.size := by
    have := hcell (zs.length - 1) (by omega)
    exact (Array.getElem?_eq_some_iff.1 this).1
  have hx : (c.toList.drop b.off).take zs.length = zs.map fun x => Value.int .u8 x := by
    apply List.ext_getElem?
    intro i
    by_cases hi : i < zs.length
    · rw [List.getElem?_take_of_lt hi, List.getElem?_drop, Array.getElem?_toList, hcell i hi, List.getElem?_map, List.getElem?_eq_getElem hi]
      simp [List.getD, hi]
    · rw [List.getElem?_eq_none (by simp; omega), List.getElem?_eq_none (by simp; omega)]
  refine ⟨b, c, ty, c.toList.take b.off, zs.map (fun x => Value.int .u8 x), (c.toList.drop b.off).drop zs.length, ht, ⟨fz, hg, by simpa using hf⟩, ?_, ?_, ?_, hgd⟩
  · rw [← hx, List.take_append_drop, List.take_append_drop]
  · rw [List.length_take, Array.length_toList]; omega
  · rw [hl]; exact cr_ints T hb

theorem open_bys {H : Type} {enc : TypeId × Value → H} {P : Program} {W : World} {r : Reach} {b0 : Nat} {t e : TypeId} {v : Value} {d : DataW H} {p : List MemPlace} (ht : P.underlying t = some (.slice e)) (he : P.underlying e = some (.int .u8)) (hc : P.cellsOf e = 1)
    (hv : Value.okWide P W r b0 t v) (h : DataW.Trod enc P W 0 (fun _ => true) true t v d p) (hfz : W.noneFrozen p) :
    Bys W v ∧ ∀ W', Below W.heap.size W W' → ∀ sp : Nat → Bool, (∀ k, k < W.heap.size → sp k = true) → DataW.Trod enc P W' 0 sp true t v d p := by
  obtain ⟨a0, len, cap, rfl⟩ := okWide_slice ht hv
  obtain ⟨fuel, hf⟩ := h
  rcases open_ints ht he hc hf with ⟨hcs, hx⟩ | ⟨a, len', cap', zs, hcs, hb, hl, hm, hz, hx, hcell, hw⟩
  · have hcs : [Value.slice a0 len cap] = [Value.slice none 0 0] := hcs
    simp only [List.cons.injEq, Value.slice.injEq, and_true] at hcs
    obtain ⟨rfl, rfl, rfl⟩ := hcs
    simp only [Prod.mk.injEq] at hx
    obtain ⟨rfl, rfl⟩ := hx
    refine ⟨.nil ⟨fun b hb => (by cases hb), fun T t _ => rfl, fun l hl => (by cases hl)⟩, fun W' _ sp _ => ⟨1, ?_⟩⟩
    show DataW.trod enc P W' 0 sp true 1 t [.slice none 0 0] = _
    rw [DataW.trod_step]
    unfold DataW.trodStep
    simp only [ht]
  · have hcs : [Value.slice a0 len cap] = [Value.slice (some a) len' cap'] := hcs
    simp only [List.cons.injEq, Value.slice.injEq, and_true] at hcs
    obtain ⟨rfl, rfl, rfl⟩ := hcs
    simp only [Prod.mk.injEq] at hx
    obtain ⟨rfl, rfl⟩ := hx
    simp only [if_true] at hz
    obtain ⟨hsp, c, ty, fz, hg⟩ := spot_slice ht hv
    obtain ⟨blk, off, spot⟩ := a
    simp only at hsp hg
    subst hsp
    have hlt : blk < W.heap.size := (Array.getElem?_eq_some_iff.1 hg).1
    have hadd : ∀ i, (⟨blk, off, none⟩ : Addr).add i = ⟨blk, off + i, none⟩ := fun i => by unfold Addr.add; split <;> simp_all
    have hm' : cap < 9223372036854775808 := by unfold maxLen at hm; omega
    have hcl : ∀ i, i < zs.length → c[off + i]? = some (.int .u8 (zs.getD i 0)) := fun i hi => by
      have := hcell i hi
      rw [hadd] at this
      unfold World.cell? at this
      rw [hg] at this
      simpa using this
    have hby : ∀ n ∈ zs, 0 ≤ n ∧ n < 256 := fun n hn => by have := bounds_u8 (hw n hn); omega
    have hnf : ∀ n, n ≤ zs.length → NF fz off n := fun n hn k k1 k2 k3 => by
      have := hfz blk k (by
        unfold MemPlace.row
        simp only [List.mem_map, List.mem_range, MemPlace.cell.injEq]
        exact ⟨k - off, by omega, trivial, by omega⟩)
      unfold World.frozen? at this
      rw [hg] at this
      simp only [Bool.and_eq_false_iff, decide_eq_false_iff_not] at this
      omega
    refine ⟨?_, fun W' hW sp hsp => ⟨2, ?_⟩⟩
    · by_cases h1 : len = 1
      · subst h1
        obtain ⟨z, zr, rfl⟩ : ∃ z zr, zs = z :: zr := by
          match zs, hz with
          | z :: zr, _ => exact ⟨z, zr, rfl⟩
          | [], hz => simp at hz; omega
        refine .one z ⟨blk, off, off + cap⟩ ⟨fun b hb => (by cases hb; exact hlt), fun T t hT => ⟨_, hT, ?_, ?_⟩, fun l hl' T t hT => ?_⟩
        · simp
        · simp only [Nat.add_zero]; omega
        · cases hl'
          refine block_ints (b := ⟨blk, off, off + cap⟩) (zs := [z]) hg (fun n hn => hby n (by simp at hn; simp [hn])) (fun i hi => ?_) (by simp) (hnf _ (by simp)) rfl (fun p hp => ?_) hT
          · have e0 : i = 0 := by simpa using hi
            subst e0
            exact hcl 0 (by simp)
          · simp only [List.mem_cons, List.not_mem_nil, or_false] at hp
            subst hp
            trivial
      · by_cases h2 : len = 57
        · subst h2
          have hlz : 57 ≤ zs.length := by omega
          obtain ⟨z, zr, hzr⟩ : ∃ z zr, zs.take 57 = z :: zr := by
            match hq : zs.take 57 with
            | z :: zr => exact ⟨z, zr, rfl⟩
            | [] => have h9 := congrArg List.length hq; rw [List.length_take, List.length_nil] at h9; omega
          have hl57 : (z :: zr).length = 57 := by rw [← hzr]; simp only [List.length_take]; omega
          have hl56 : zr.length = 56 := by simp only [List.length_cons] at hl57; omega
          have hmem : ∀ n ∈ z :: zr, 0 ≤ n ∧ n < 256 := fun n hn => hby n (List.mem_of_mem_take (hzr ▸ hn))
          have hmt : ∀ n ∈ zr.take 28, 0 ≤ n ∧ n < 256 := fun n hn => hmem n (List.mem_cons_of_mem _ (List.mem_of_mem_take hn))
          have hmd : ∀ n ∈ zr.drop 28, 0 ≤ n ∧ n < 256 := fun n hn => hmem n (List.mem_cons_of_mem _ (List.mem_of_mem_drop hn))
          have lx : ((zr.take 28).map Int.toNat).length = 28 := by simp only [List.length_map, List.length_take]; omega
          have ly : ((zr.drop 28).map Int.toNat).length = 28 := by simp only [List.length_map, List.length_drop]; omega
          have h256 : ∀ l : List Int, (∀ n ∈ l, 0 ≤ n ∧ n < 256) → ∀ b ∈ l.map Int.toNat, b < 256 := fun l hl b hb => by
            obtain ⟨n, hn, rfl⟩ := List.mem_map.1 hb
            have := hl n hn
            omega
          have hsym : ∀ l : List Int, (∀ n ∈ l, 0 ≤ n ∧ n < 256) → (l.map Int.toNat).map (fun (x : Nat) => Sc.sym .u8 (x : Int)) = l.map fun x => Sc.sym .u8 x := fun l hl => by
            conv => rhs; rw [← toNat_map hl, List.map_map]
            rfl
          refine .pt z ((zr.take 28).map Int.toNat) ((zr.drop 28).map Int.toNat) ⟨blk, off, off + cap⟩ ⟨fun b hb => (by cases hb; exact hlt), fun T t hT => ⟨_, hT, ?_, ?_⟩, fun l hl' T t hT => ?_⟩
          · simp
          · simp only [Nat.add_zero]; omega
          · cases hl'
            refine block_ints (b := ⟨blk, off, off + cap⟩) (zs := z :: zr) hg hmem (fun i hi => ?_) (by simp) (hnf _ (by omega)) ?_ (fun p hp => ?_) hT
            · rw [hl57] at hi
              rw [hcl i (by omega), ← hzr, List.getD, List.getD, List.getElem?_take_of_lt hi]
            · simp only [flat, bt_cells lx, bt_cells ly, List.append_nil]
              rw [hsym _ hmt, hsym _ hmd, ← List.map_append, List.take_append_drop]
              rfl
            · simp only [List.mem_cons, List.not_mem_nil, or_false] at hp
              rcases hp with rfl | rfl | rfl
              · trivial
              · exact ⟨lx, h256 _ hmt⟩
              · exact ⟨ly, h256 _ hmd⟩
        · exact .any len ⟨blk, off, off + cap⟩ h1 h2 ⟨fun b hb => (by cases hb; exact hlt), fun T t hT => ⟨_, hT, _, rfl, by omega⟩, fun l hl => (by cases hl)⟩
    · show DataW.trod enc P W' 0 sp true 2 t [.slice (some ⟨blk, off, none⟩) len cap] = _
      refine shut_ints 0 ht he hc (Nat.zero_le _) hl hm (by rw [if_pos (hsp blk hlt)]; exact hz) (fun i hi => ?_) hw
      have := hcell i hi
      rw [hadd] at this ⊢
      unfold World.cell? at this ⊢
      rw [hW.block _ hlt]
      exact this

end Go.Proofs.Ytdaheccfeihpgaa.Nm

/-
  A slice of bytes as an argument: all of its bytes, told one by one.
-/
namespace Go.Proofs.Ytdaheccfeihpgaa.Nm
open Go Go.ChangeShapes Go.WideShapes Go.ChangeAt Go.RowKit

theorem SArg.forget {w : World} {v : Value} {s : Nat → Sc} {o : Option Loc} {q : Option (List Pc)} (h : SArg w v s o q) : SArg w v s o none := ⟨h.1, h.2.1, fun l hl => by cases hl⟩

theorem row_off {p : Program} {fits : TypeId → Bool} {d : Nat} {e : TypeId} {cells off n : Nat} (h : rowAt p fits d e (cells / p.cellsOf e) off n = true) : off ≤ cells := by
  cases d with
  | zero => cases h
  | succ d =>
    unfold rowAt at h
    simp only at h
    split at h
    · cases h
    · rename_i hs
      have hm : cells / p.cellsOf e * p.cellsOf e ≤ cells := Nat.div_mul_le_self _ _
      have hd : off / p.cellsOf e * p.cellsOf e + off % p.cellsOf e = off := Nat.div_add_mod' _ _
      have hl : off % p.cellsOf e < p.cellsOf e := Nat.mod_lt _ (by omega)
      simp only [Bool.or_eq_true, Bool.and_eq_true, beq_iff_eq, decide_eq_true_eq] at h
      rcases h with ⟨⟨h1, h2⟩, _⟩ | ⟨h1, _⟩
      · have : off / p.cellsOf e * p.cellsOf e ≤ cells / p.cellsOf e * p.cellsOf e := Nat.mul_le_mul_right _ (by omega)
        omega
      · have : (off / p.cellsOf e + 1) * p.cellsOf e ≤ cells / p.cellsOf e * p.cellsOf e := Nat.mul_le_mul_right _ (by omega)
        rw [Nat.add_mul, Nat.one_mul] at this
        omega

theorem lies_off {p : Program} {e : TypeId} {cells off : Nat} : ∀ {d : Nat} {u : TypeId} {n : Nat}, liesAt p d e (cells / p.cellsOf e) off u n = true → off ≤ cells
  | 0, _, _, h => by cases h
  | d + 1, u, n, h => by
    unfold liesAt at h
    rw [Bool.or_eq_true] at h
    rcases h with h | h
    · exact row_off h
    · split at h
      · exact lies_off h
      · cases h

theorem off_slice {P : Program} {W : World} {r : Reach} {b0 : Nat} {t e : TypeId} {a : Addr} {len cap : Nat} {c : Array Value} {ty : TypeId} {fz : Nat × Nat} (ht : P.underlying t = some (.slice e)) (hv : Value.okWide P W r b0 t (.slice (some a) len cap)) (hg : W.heap[a.block]? = some (.cells c ty fz)) : a.off ≤ c.size := by
  simp only [Value.okWide, ht, Cell.okWide, Cell.ok] at hv
  obtain ⟨_, _, _, h2, row, cells, h3, h4⟩ := hv
  unfold World.shape? at h3
  rw [hg] at h3
  simp only [Option.some.injEq, Prod.mk.injEq] at h3
  obtain ⟨rfl, rfl⟩ := h3
  exact lies_off h4

def bytesQ (zs : List Int) : List Pc := zs.map fun z => .c (.sym .u8 z)
theorem flat_bytesQ (zs : List Int) : flat (bytesQ zs) = zs.map fun z => Sc.sym .u8 z := by
  induction zs with
  | nil => rfl
  | cons z r ih =>
    show Sc.sym .u8 z :: flat (bytesQ r) = _
    rw [ih]; rfl
theorem goods_bytesQ (zs : List Int) : goods (bytesQ zs) := by
  intro p hp
  simp only [bytesQ, List.mem_map] at hp
  obtain ⟨_, _, rfl⟩ := hp
  trivial

/-- Every slice of bytes with an address: its bytes lie in memory. -/
theorem open_row {H : Type} {enc : TypeId × Value → H} {P : Program} {W : World} {r : Reach} {b0 : Nat} {t e : TypeId} {v : Value} {d : DataW H} {p : List MemPlace} (ht : P.underlying t = some (.slice e)) (he : P.underlying e = some (.int .u8)) (hc : P.cellsOf e = 1)
    (hv : Value.okWide P W r b0 t v) (h : DataW.Trod enc P W 0 (fun _ => true) true t v d p) (hfz : W.noneFrozen p) :
    v = .slice none 0 0 ∨ ∃ (n : Nat) (b : Loc) (zs : List Int), zs.length = n ∧ SArg W v (fun t => .slv t n) (some b) (some (bytesQ zs)) := by
  obtain ⟨a0, len, cap, rfl⟩ := okWide_slice ht hv
  obtain ⟨fuel, hf⟩ := h
  rcases open_ints ht he hc hf with ⟨hcs, hx⟩ | ⟨a, len', cap', zs, hcs, hb, hl, hm, hz, hx, hcell, hw⟩
  · have hcs : [Value.slice a0 len cap] = [Value.slice none 0 0] := hcs
    simp only [List.cons.injEq, and_true] at hcs
    exact .inl hcs
  · have hcs : [Value.slice a0 len cap] = [Value.slice (some a) len' cap'] := hcs
    simp only [List.cons.injEq, Value.slice.injEq, and_true] at hcs
    obtain ⟨rfl, rfl, rfl⟩ := hcs
    simp only [Prod.mk.injEq] at hx
    obtain ⟨rfl, rfl⟩ := hx
    simp only [if_true] at hz
    obtain ⟨hsp, c, ty, fz, hg⟩ := spot_slice ht hv
    have hoff := off_slice ht hv hg
    obtain ⟨blk, off, spot⟩ := a
    simp only at hsp hg hoff
    subst hsp
    have hlt : blk < W.heap.size := (Array.getElem?_eq_some_iff.1 hg).1
    have hadd : ∀ i, (⟨blk, off, none⟩ : Addr).add i = ⟨blk, off + i, none⟩ := fun i => by unfold Addr.add; split <;> simp_all
    have hm' : cap < 9223372036854775808 := by unfold maxLen at hm; omega
    have hcl : ∀ i, i < zs.length → c[off + i]? = some (.int .u8 (zs.getD i 0)) := fun i hi => by
      have := hcell i hi
      rw [hadd] at this
      unfold World.cell? at this
      rw [hg] at this
      simpa using this
    have hnf : NF fz off len := fun k k1 k2 k3 => by
      have := hfz blk k (by
        unfold MemPlace.row
        simp only [List.mem_map, List.mem_range, MemPlace.cell.injEq]
        exact ⟨k - off, by omega, trivial, by omega⟩)
      unfold World.frozen? at this
      rw [hg] at this
      simp only [Bool.and_eq_false_iff, decide_eq_false_iff_not] at this
      omega
    have htl : (zs.take len).length = len := by rw [List.length_take]; omega
    refine .inr ⟨len, ⟨blk, off, off + cap⟩, zs.take len, htl, fun b hb => (by cases hb; exact hlt), fun T t hT => ⟨_, hT, _, rfl, by omega⟩, fun l hl' T t hT => ?_⟩
    cases hl'
    by_cases h0 : len = 0
    · subst h0
      exact ⟨_, c, ty, c.toList.take off, [], c.toList.drop off, hT, ⟨fz, hg, hnf⟩, by simp, by rw [List.length_take, Array.length_toList]; show min off c.size = off; omega, .nil, fun p hp => by cases hp⟩
    · refine block_ints (b := ⟨blk, off, off + cap⟩) (zs := zs.take len) hg (fun n hn => ?_) (fun i hi => ?_) (by omega) (by rw [htl]; exact hnf) (flat_bytesQ _) (goods_bytesQ _) hT
      · have := bounds_u8 (hw n (List.mem_of_mem_take hn)); omega
      · rw [htl] at hi
        rw [hcl i (by omega), List.getD, List.getD, List.getElem?_take_of_lt hi]

end Go.Proofs.Ytdaheccfeihpgaa.Nm

