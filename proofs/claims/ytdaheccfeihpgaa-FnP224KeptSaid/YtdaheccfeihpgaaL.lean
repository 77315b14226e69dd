import Derived.Test.YtdaheccfeihpgaaK
import Derived.Test.YtdaheccfeihpgaaG
import Derived.Test.YtdaheccfeihpgaaH
/-
  The specification's numbers.
-/
/-
  The specification's numbers: carried words, small numbers, the prime, comparisons, numbers of bytes.
-/
namespace Go.Proofs.Ytdaheccfeihpgaa.Nm
open Go Go.RowKit

abbrev M7 : Nat := 26959946667150639794667015087019630673637144422540572481103610249216

def wcs : List Int → List Pc → List Pc
  | [], r => r
  | z :: l, r => .c (.sym .i64 z) :: wcs l r

theorem flat_wcs : ∀ (l : List Int) (r : List Pc), flat (wcs l r) = (l.map fun x => Sc.sym .i64 x) ++ flat r
  | [], r => rfl
  | z :: l, r => by simp [wcs, flat, Pc.cells, flat_wcs l r]
theorem goods_wcs : ∀ (l : List Int) {r : List Pc}, goods r → goods (wcs l r)
  | [], _r, h => h
  | _z :: l, _r, h => goods_cons.2 ⟨trivial, goods_wcs l h⟩

set_option maxRecDepth 100000 in
theorem run_car (x0 x1 x2 x3 x4 x5 x6 : Int) (r : List Pc) (c : Nat) (K : V → Mem → Nat → Prop) :
    exC2 (tb Try.f52.ntmps 1 [0] [] [] 10) (Try.f52.body.getD .skip) ⟨entryV [.s (.sl 0 0 7 c)] 0, [(0, wcs [x0, x1, x2, x3, x4, x5, x6] r)], 1⟩ (endK (tb Try.f52.ntmps 1 [0] [] [] 10) Try.f52.results.toList K) =
    carL [x0, x1, x2, x3, x4, x5, x6] 0 [] (fun zs c => K (.s (.sym .i64 c)) [(0, wcs zs r)] 1) := by
  kernel_rfl

def car7 (m : Mem) : V → Option (Nat × List Int × List Sc)
  | .s s => match slp s with
    | some (t, 0, 7) => match lkp m t with
      | some l => match i64s 7 (flat l) with
        | some (ws, r) => bif plain r then some (t, ws, r) else none
        | none => none
      | none => none
    | _ => none
  | _ => none

/-- Words carried: what is carried out, and the seven words below. -/
def kCar : KSpec where
  run := fun args m nt K => match args with
    | [u] => obind (car7 m u) fun r => bndL 4611686018427387904 r.2.1 ∧ ∀ (o : Int) (n : Nat), o * 26959946667150639794667015087019630673637144422540572481103610249216 + n = ivl r.2.1 → n < 26959946667150639794667015087019630673637144422540572481103610249216 → -2147483648 ≤ o → o ≤ 2147483648 →
        K (.s (.sym .i64 o)) (upd m r.1 (.w7 n :: ones r.2.2)) nt
    | _ => False
  outs := outs0

theorem len7 {α : Type} {l : List α} (h : l.length = 7) : ∃ a b c d e f g, l = [a, b, c, d, e, f, g] := by
  match l, h with
  | [a, b, c, d, e, f, g], _ => exact ⟨a, b, c, d, e, f, g, rfl⟩

theorem tagsOf_slp {s : Sc} {t o n : Nat} (h : slp s = some (t, o, n)) : tagsOf (.s s) = [t] := by
  unfold slp at h
  split at h
  · cases h; rfl
  · cases h; rfl
  · cases h

theorem kCar_ok : KSOk Try.prog 52 kCar where
  enter := enter_in Try.func52 (by kernel_rfl) (by kernel_rfl)
  run := by
    intro wr T w m nt args xs K h hm hx hfree hwr
    simp only [kCar] at h
    split at h
    · rename_i u
      obtain ⟨⟨t, ws, r⟩, hc, hbnd, h⟩ := obind_some h
      unfold car7 at hc
      cases u with
      | agg l => cases hc
      | tup l => cases hc
      | s s =>
      simp only at hc
      split at hc
      · rename_i t' hs
        split at hc
        · rename_i l hl
          split at hc
          · rename_i ws' r' hi
            cases hp : plain r' with
            | false => rw [hp] at hc; cases hc
            | true =>
            rw [hp] at hc
            simp only [cond_true, Option.some.injEq, Prod.mk.injEq] at hc
            obtain ⟨rfl, rfl, rfl⟩ := hc
            simp only at h hbnd
            obtain ⟨x, rfl, hv1⟩ := vsr1 hx
            obtain ⟨b, c, hb, rfl⟩ := slp_ok hs (vr_s hv1)
            have hwt : wr t' = true := hwr t' (by simp only [outs0, kCar, tagsOf_slp hs, List.mem_cons, List.not_mem_nil, or_false])
            obtain ⟨l1, hl1, hlen1, hlen, hweak⟩ := i64s_ok hi
            obtain ⟨x0, x1, x2, x3, x4, x5, x6, rfl⟩ := len7 hlen
            have hm0 : MOk (wrB (tb Try.f52.ntmps 1 [0] [] [] 10)) (tgs [b]) w [(0, wcs [x0, x1, x2, x3, x4, x5, x6] (ones r'))] := by
              refine mok_tgsW (locs := []) (fun b' hb' => ?_) (fun i hi => by simp at hi) (fun b' hb' => by cases hb') fun t l hl => ?_
              · simp only [List.mem_cons, List.not_mem_nil, or_false] at hb'
                subst hb'
                exact hm.lt _ _ hb
              · rcases lkp_cons hl with ⟨rfl, rfl⟩ | hl
                · obtain ⟨b', cc, ty, pre, ys, rest, g1, g2, g3, g4, g5⟩ := hm.at_ t' _ (by assumption)
                  rw [hb] at g1; cases g1
                  refine ⟨b, cc, ty, pre, ys, rest, rfl, g2, g3, g4, ?_, goods_wcs _ (goods_ones _)⟩
                  have hcr := g5.1
                  rw [hl1] at hcr
                  obtain ⟨y1, y2, rfl, c1, c2⟩ := hcr.split
                  rw [flat_wcs, flat_ones, ← hweak]
                  refine (c1.weak.any fun s hs => ?_).append (c2.any (plain_ok hp))
                  rw [hweak] at hs
                  simp only [List.mem_map] at hs
                  obtain ⟨_, _, rfl⟩ := hs
                  rfl
                · exact (lkp_nil hl).elim
            refine (run_calls (B := tb Try.f52.ntmps 1 [0] [] [] 10) (tb_ok ds_nil (fun _ _ h => (lkp_nil h).elim)) Try.func52 (c := Try.f52.body.getD .skip) (by kernel_rfl) (by kernel_rfl) (args := [.s (.sl 0 0 7 c)]) (Nat.le_of_ble_eq_true (by kernel_rfl)) hm0
              (by rw [VsR]; exact ⟨_, [], rfl, by rw [V.R]; exact ⟨b, rfl, rfl⟩, by rw [VsR]⟩) (fun i hi => tgs_none (show 1 ≤ i from hi))
              (fun v m' _ => ∃ zs cf, v = .s (.sym .i64 cf) ∧ m' = [(0, wcs zs (ones r'))] ∧ zs.length = 7 ∧ lowL zs ∧ -2147483648 ≤ cf ∧ cf ≤ 2147483648 ∧ ivl zs + pw 7 * cf = ivl [x0, x1, x2, x3, x4, x5, x6])
              (Eq.mpr (run_car x0 x1 x2 x3 x4 x5 x6 (ones r') c _) (carL_ok _ 0 [] hbnd (by omega) (by omega) fun zs cf g1 g2 g3 g4 g5 => ⟨zs, cf, rfl, rfl, g1, g2, g3, g4, by simpa using g5⟩))).mono fun e w' hh => ?_
            obtain ⟨y, T', v, m', nt', rfl, hL⟩ := hh
            obtain ⟨zs, cf, rfl, rfl, g1, g2, g3, g4, g5⟩ := hL.post
            have hpos := ivl_pos zs g2
            rw [g1, pw7] at hpos
            rw [pw7] at g5
            obtain ⟨n, hn⟩ : ∃ n : Nat, ivl zs = n := ⟨(ivl zs).toNat, by omega⟩
            obtain ⟨z0, z1, z2, z3, z4, z5, z6, rfl⟩ := len7 g1
            have hwd := ivl_wd _ n g2 hn
            have hnl : n < 26959946667150639794667015087019630673637144422540572481103610249216 := by omega
            obtain ⟨k1, k2⟩ := lift_wr (l' := .w7 n :: ones r') hm hwt hb hL rfl rfl (fun xs hxs => by
              refine ⟨?_, goods_cons.2 ⟨hnl, goods_ones _⟩⟩
              have := hxs.1
              rw [flat_wcs, flat_ones] at this
              simp only [List.map_cons, List.map_nil, hwd 0 z0 rfl, hwd 1 z1 rfl, hwd 2 z2 rfl, hwd 3 z3 rfl, hwd 4 z4 rfl, hwd 5 z5 rfl, hwd 6 z6 rfl] at this
              simp only [flat, flat_ones, Pc.cells]
              refine this.any fun s hs => ?_
              simp only [List.mem_append, List.mem_cons, List.not_mem_nil, or_false] at hs
              rcases hs with (rfl | rfl | rfl | rfl | rfl | rfl | rfl) | hs
              all_goals first | rfl | exact plain_ok hp s hs)
            refine ⟨T, y, _, _, nt, Tg.le_refl T, Nat.le_refl _, fun _ h _ => h, hfree, rfl, ?_, k1, ?_, fun t b h h' => (by rw [h] at h'; cases h'), h cf n (by omega) hnl g3 g4⟩
            · rw [V.R]; exact vr_s hL.val
            · refine ⟨k2.os, k2.tape, k2.output, k2.size, fun k hk hn => k2.block k hk fun hB => hn ?_⟩
              simp only [outs0, kCar, tagsOf_slp hs]
              exact hB
          · cases hc
        · cases hc
      · cases hc
    · exact h.elim

end Go.Proofs.Ytdaheccfeihpgaa.Nm

/-
  The specification's curve, prime, small numbers, comparisons, numbers of bytes.
-/
namespace Go.Proofs.Ytdaheccfeihpgaa.Nm
open Go Go.RowKit

theorem tbN_ok {n base fuel : Nat} {outs : List Nat} : TbOk Try.prog (tb n base outs [] [] fuel) := tb_ok ds_nil (fun _ _ h => (lkp_nil h).elim)

theorem vs1 {T : Tg} {a : V} {x : Value} (h : a.R T x) : VsR T [a] [x] := by
  rw [VsR]; exact ⟨x, [], rfl, h, by rw [VsR]⟩
theorem vs2 {T : Tg} {a b : V} {x y : Value} (h : a.R T x) (h' : b.R T y) : VsR T [a, b] [x, y] := by
  rw [VsR]; exact ⟨x, [y], rfl, h, vs1 h'⟩
theorem vs3 {T : Tg} {a b c : V} {x y z : Value} (h : a.R T x) (h' : b.R T y) (h'' : c.R T z) : VsR T [a, b, c] [x, y, z] := by
  rw [VsR]; exact ⟨x, [y, z], rfl, h, vs2 h' h''⟩

/-! ### The curve -/
set_option maxRecDepth 100000 in
theorem run_of (K : V → Mem → Nat → Prop) :
    exC2 (tb Try.f8.ntmps 0 [] [] [] 10) (Try.f8.body.getD .skip) ⟨entryV [.s (.lit .i64 224)] 0, [], 0⟩ (endK (tb Try.f8.ntmps 0 [] [] [] 10) Try.f8.results.toList K) =
    K (cv 1) [(1, foldsC), (0, [.c (.lit .i64 224), .c (.lit .i64 28), .c (.lit .i64 7), .c (.sl 1 0 2 2)])] 2 := by
  kernel_rfl

def dOf : DSpec := fun args _ nt => match args with
  | [.s s] => bif isL 224 s then some (cv nt, [foldsC]) else none
  | _ => none

theorem mok_nil {wr : Nat → Bool} {w : World} : MOk wr (tgs []) w [] := ⟨fun _ _ _ _ _ h1 _ _ => (by cases h1), fun _ _ h => (by cases h), fun _ _ h => (lkp_nil h).elim⟩

theorem dOf_ok : DSOk Try.prog 8 dOf where
  enter := enter_in Try.func8 (by kernel_rfl) (by kernel_rfl)
  run := by
    intro wr T w m nt args xs v fr h hm hx hfr
    simp only [dOf] at h
    split at h
    · rename_i s
      cases hs : isL 224 s with
      | false => rw [hs] at h; cases h
      | true =>
        rw [hs] at h
        cases h
        obtain ⟨x, rfl, hv⟩ := vsr1 hx
        have := isL_ok hs
        subst this
        exact cv_calls (B := tb Try.f8.ntmps 0 [] [] [] 10) (c := Try.f8.body.getD .skip) tbN_ok Try.func8 (by kernel_rfl) (by kernel_rfl) (args := [.s (.lit .i64 224)]) (Nat.le_of_ble_eq_true (by kernel_rfl)) mok_nil (vs1 (by rw [V.R]; exact vr_s hv)) (fun i _ => rfl) rfl hm hfr
          (Eq.mpr (run_of _) ⟨1, rfl, by decide, rfl⟩)
    · cases h

/-! ### The prime, small numbers -/
theorem cv_mok {wr : Nat → Bool} {w : World} {b : Loc} (hlt : b.blk < w.heap.size) (h0 : wr 0 = false) : MOk wr (tgs [b]) w [] :=
  mok_tgs (fun b' h => by simp only [List.mem_cons, List.not_mem_nil, or_false] at h; subst h; exact hlt) (fun i hi => by cases i with
    | zero => exact h0
    | succ i => simp at hi) fun t l h => (lkp_nil h).elim

set_option maxRecDepth 100000 in
theorem run_prime (K : V → Mem → Nat → Prop) :
    exC2 (tb Try.f12.ntmps 1 [] [] [] 10) (Try.f12.body.getD .skip) ⟨entryV [cv 0] 0, [], 1⟩ (endK (tb Try.f12.ntmps 1 [] [] [] 10) Try.f12.results.toList K) =
    K (.s (.sl 2 0 7 7)) [(2, [.c (.lit .i64 1), .c (.lit .i64 0), .c (.lit .i64 0), .c (.lit .i64 4294967295), .c (.lit .i64 4294967295), .c (.lit .i64 4294967295), .c (.lit .i64 4294967295)]), (1, [.c (.lit .i64 224), .c (.lit .i64 28), .c (.lit .i64 7), .c (.sl 0 0 2 2)])] 3 := by
  kernel_rfl

def dPrime : DSpec := fun args _ nt => match args with
  | [c] => match cvT c with
    | some _ => some (.s (.sl nt 0 7 7), [[.w7 26959946667150639794667015087019630673557916260026308143510066298881]])
    | none => none
  | _ => none

set_option maxRecDepth 100000 in
theorem dPrime_ok : DSOk Try.prog 12 dPrime where
  enter := enter_in Try.func12 (by kernel_rfl) (by kernel_rfl)
  run := by
    intro wr T w m nt args xs v fr h hm hx hfr
    simp only [dPrime] at h
    split at h
    · rename_i c
      split at h
      · rename_i t hc
        cases h
        have := cvT_eq hc
        subst this
        obtain ⟨x, rfl, hv⟩ := vsr1 hx
        obtain ⟨b, hb, hR⟩ := cv_R hv
        exact new_calls (B := tb Try.f12.ntmps 1 [] [] [] 10) (c := Try.f12.body.getD .skip) tbN_ok Try.func12 (by kernel_rfl) (by kernel_rfl) (args := [cv 0]) (Nat.le_of_ble_eq_true (by kernel_rfl)) (cv_mok (b := ⟨b.blk, b.off, 0⟩) (hm.lt t b hb) rfl) (vs1 (hR _ 0 0 rfl)) (fun i hi => tgs_none (show 1 ≤ i from hi)) rfl hm hfr 7 7 _ 2 (by decide)
          (Eq.mpr (run_prime _) ⟨rfl, _, rfl, fun T T' => pr_w7 (by omega) (by kernel_rfl) (by kernel_rfl) (by kernel_rfl) (by kernel_rfl) (by kernel_rfl) (by kernel_rfl) (by kernel_rfl)⟩)
      · cases h
    · cases h

set_option maxRecDepth 100000 in
theorem run_small (n : Nat) (K : V → Mem → Nat → Prop) :
    exC2 (tb Try.f33.ntmps 1 [] [] [] 10) (Try.f33.body.getD .skip) ⟨entryV [cv 0, .s (.lit .i64 (.ofNat n))] 0, [], 1⟩ (endK (tb Try.f33.ntmps 1 [] [] [] 10) Try.f33.results.toList K) =
    K (.s (.sl 2 0 7 7)) [(2, [.c (.lit .i64 (.ofNat n)), .c (.lit .i64 0), .c (.lit .i64 0), .c (.lit .i64 0), .c (.lit .i64 0), .c (.lit .i64 0), .c (.lit .i64 0)]), (1, [.c (.lit .i64 224), .c (.lit .i64 28), .c (.lit .i64 7), .c (.sl 0 0 2 2)])] 3 := by
  kernel_rfl

def dSmall : DSpec := fun args _ nt => match args with
  | [c, .s (.lit .i64 (.ofNat n))] => match cvT c with
    | some _ => bif Nat.blt n 4294967296 then some (.s (.sl nt 0 7 7), [[.w7 n]]) else none
    | none => none
  | _ => none

theorem wd_small0 {n : Nat} (h : n < 4294967296) : wd 0 n = n := by rw [wd_zero]; omega
theorem wd_smallS {i n : Nat} (h : n < 4294967296) : wd (i + 1) n = 0 := by
  rw [wd_succ, Nat.div_eq_of_lt h]
  unfold wd
  simp

theorem dSmall_ok : DSOk Try.prog 33 dSmall where
  enter := enter_in Try.func33 (by kernel_rfl) (by kernel_rfl)
  run := by
    intro wr T w m nt args xs v fr h hm hx hfr
    simp only [dSmall] at h
    split at h
    · rename_i c n
      split at h
      · rename_i t hc
        cases hlt : Nat.blt n 4294967296 with
        | false => rw [hlt] at h; cases h
        | true =>
        rw [hlt] at h
        cases h
        have hlt : n < 4294967296 := by simpa [Nat.blt_eq] using hlt
        have := cvT_eq hc
        subst this
        obtain ⟨x, y, rfl, hv, hy⟩ := vsr2 hx
        obtain ⟨b, hb, hR⟩ := cv_R hv
        have h0 := wd_small0 hlt
        have hS : ∀ i, wd (i + 1) n = 0 := fun i => wd_smallS hlt
        exact new_calls (B := tb Try.f33.ntmps 1 [] [] [] 10) (c := Try.f33.body.getD .skip) tbN_ok Try.func33 (by kernel_rfl) (by kernel_rfl) (args := [cv 0, .s (.lit .i64 (.ofNat n))]) (Nat.le_of_ble_eq_true (by kernel_rfl)) (cv_mok (b := ⟨b.blk, b.off, 0⟩) (hm.lt t b hb) rfl) (vs2 (hR _ 0 0 rfl) (by rw [V.R]; exact vr_s hy)) (fun i hi => tgs_none (show 1 ≤ i from hi)) rfl hm hfr 7 7 _ 2 (by decide)
          (Eq.mpr (run_small n _) ⟨rfl, _, rfl, fun T T' => pr_w7 (by omega) (by rw [h0]; rfl) (by rw [hS 0]; rfl) (by rw [hS 1]; rfl) (by rw [hS 2]; rfl) (by rw [hS 3]; rfl) (by rw [hS 4]; rfl) (by rw [hS 5]; rfl)⟩)
      · cases h
    · cases h

/-! ### Comparisons -/
theorem mok_2w7 {wr : Nat → Bool} {w : World} {b1 b2 : Loc} {x y : Nat} (h1 : b1.blk < w.heap.size) (h2 : b2.blk < w.heap.size) (h0 : wr 0 = false) (h01 : wr 1 = false) (g1 : BlockOk (tgs [b1, b2]) w 0 [.w7 x]) (g2 : BlockOk (tgs [b1, b2]) w 1 [.w7 y]) : MOk wr (tgs [b1, b2]) w [(0, [.w7 x]), (1, [.w7 y])] := by
  refine mok_tgs (fun b' h => ?_) (fun i hi => ?_) fun t l h => ?_
  · simp only [List.mem_cons, List.not_mem_nil, or_false] at h
    rcases h with rfl | rfl
    · exact h1
    · exact h2
  · have : i = 0 ∨ i = 1 := by simp at hi; omega
    rcases this with rfl | rfl
    · exact h0
    · exact h01
  · rcases lkp_cons h with ⟨rfl, rfl⟩ | h
    · exact g1
    · rcases lkp_cons h with ⟨rfl, rfl⟩ | h
      · exact g2
      · exact (lkp_nil h).elim

/-- How words are compared, from the highest. -/
def belowL (x y : Nat) (K : Sc → Prop) : Nat → Prop
  | 0 => K (.bl false)
  | i + 1 => ((!decide (((wd i x : Nat) : Int) = ((wd i y : Nat) : Int))) = true → K (.bs (decide (((wd i x : Nat) : Int) < ((wd i y : Nat) : Int))))) ∧ ((!decide (((wd i x : Nat) : Int) = ((wd i y : Nat) : Int))) = false → belowL x y K i)

set_option maxRecDepth 100000 in
theorem run_below (x y c d : Nat) (K : V → Mem → Nat → Prop) :
    exC2 (tb Try.f11.ntmps 2 [] [] [] 10) (Try.f11.body.getD .skip) ⟨entryV [.s (.sl 0 0 7 c), .s (.sl 1 0 7 d)] 0, [(0, [.w7 x]), (1, [.w7 y])], 2⟩ (endK (tb Try.f11.ntmps 2 [] [] [] 10) Try.f11.results.toList K) =
    belowL x y (fun s => K (.s s) [(0, [.w7 x]), (1, [.w7 y])] 2) 7 := by
  kernel_rfl

/-- How words are compared, from the lowest. -/
def sameL (x y : Nat) (K : Sc → Prop) : Nat → Nat → Prop
  | 0, _ => K (.bl true)
  | n + 1, i => ((!decide (((wd i x : Nat) : Int) = ((wd i y : Nat) : Int))) = true → K (.bl false)) ∧ ((!decide (((wd i x : Nat) : Int) = ((wd i y : Nat) : Int))) = false → sameL x y K n (i + 1))

set_option maxRecDepth 100000 in
theorem run_same (x y c d : Nat) (K : V → Mem → Nat → Prop) :
    exC2 (tb Try.f20.ntmps 2 [] [] [] 10) (Try.f20.body.getD .skip) ⟨entryV [.s (.sl 0 0 7 c), .s (.sl 1 0 7 d)] 0, [(0, [.w7 x]), (1, [.w7 y])], 2⟩ (endK (tb Try.f20.ntmps 2 [] [] [] 10) Try.f20.results.toList K) =
    sameL x y (fun s => K (.s s) [(0, [.w7 x]), (1, [.w7 y])] 2) 7 0 := by
  kernel_rfl

theorem wd_mod (i n : Nat) : n % 4294967296 ^ (i + 1) = n % 4294967296 ^ i + 4294967296 ^ i * wd i n := by
  unfold wd
  rw [Nat.pow_succ, Nat.mod_mul]

theorem belowL_ok {x y : Nat} {K : Sc → Prop} : ∀ i, (x % 4294967296 ^ i < y % 4294967296 ^ i → ∀ s, (∀ T z, s.R T z → z = Value.bool true) → K s) → (¬ x % 4294967296 ^ i < y % 4294967296 ^ i → ∀ s, (∀ T z, s.R T z → z = Value.bool false) → K s) → belowL x y K i
  | 0, _, h0 => h0 (by simp [Nat.mod_one]) _ fun T z h => h
  | i + 1, h1, h0 => by
    rw [wd_mod i x, wd_mod i y] at h1 h0
    have lx := Nat.mod_lt x (Nat.pow_pos (n := i) (show 0 < 4294967296 by omega))
    have ly := Nat.mod_lt y (Nat.pow_pos (n := i) (show 0 < 4294967296 by omega))
    obtain ⟨p, hp⟩ : ∃ p, p = 4294967296 ^ i := ⟨_, rfl⟩
    rw [← hp] at h1 h0 lx ly
    refine ⟨fun hne => ?_, fun heq => ?_⟩
    · have hne : wd i x ≠ wd i y := by
        intro e
        rw [e] at hne
        simp at hne
      by_cases hlt : wd i x < wd i y
      · refine h1 ?_ _ fun T z h => ?_
        · have : p * (wd i x + 1) ≤ p * wd i y := Nat.mul_le_mul_left _ (by omega)
          rw [Nat.mul_add, Nat.mul_one] at this
          omega
        · have h : z = .bool (decide (((wd i x : Nat) : Int) < ((wd i y : Nat) : Int))) := h
          rw [h, decide_eq_true (by omega)]
      · refine h0 ?_ _ fun T z h => ?_
        · have : p * (wd i y + 1) ≤ p * wd i x := Nat.mul_le_mul_left _ (by omega)
          rw [Nat.mul_add, Nat.mul_one] at this
          omega
        · have h : z = .bool (decide (((wd i x : Nat) : Int) < ((wd i y : Nat) : Int))) := h
          rw [h, decide_eq_false (by omega)]
    · have heq : wd i x = wd i y := by
        have : decide (((wd i x : Nat) : Int) = ((wd i y : Nat) : Int)) = true := by simpa using heq
        have := of_decide_eq_true this
        omega
      rw [heq] at h1 h0
      exact belowL_ok i (fun h => h1 (by rw [← hp] at h; omega)) (fun h => h0 (by rw [← hp] at h; omega))

theorem sameL_ok {x y : Nat} {K : Sc → Prop} : ∀ n i, (x / 4294967296 ^ i % 4294967296 ^ n = y / 4294967296 ^ i % 4294967296 ^ n → K (.bl true)) → (x / 4294967296 ^ i % 4294967296 ^ n ≠ y / 4294967296 ^ i % 4294967296 ^ n → K (.bl false)) → sameL x y K n i
  | 0, i, h1, _ => h1 (by simp [Nat.mod_one])
  | n + 1, i, h1, h0 => by
    have e : ∀ z : Nat, z / 4294967296 ^ i % 4294967296 ^ (n + 1) = wd i z + 4294967296 * (z / 4294967296 ^ (i + 1) % 4294967296 ^ n) := by
      intro z
      unfold wd
      rw [Nat.pow_succ, Nat.mul_comm (4294967296 ^ n), Nat.mod_mul, Nat.pow_succ, Nat.div_div_eq_div_mul]
    rw [e x, e y] at h1 h0
    have lx := wd_lt i x
    have ly := wd_lt i y
    refine ⟨fun hne => h0 ?_, fun heq => ?_⟩
    · intro e2
      have : wd i x = wd i y := by omega
      rw [this] at hne
      simp at hne
    · have heq : wd i x = wd i y := by
        have : decide (((wd i x : Nat) : Int) = ((wd i y : Nat) : Int)) = true := by simpa using heq
        have := of_decide_eq_true this
        omega
      exact sameL_ok n (i + 1) (fun h => h1 (by omega)) (fun h => h0 (by omega))

def dBelow : DSpec := fun args m _ => match args with
  | [x, y] => match rdW7 m x, rdW7 m y with
    | some a, some b => some (.s (.bs (decide (a < b))), [])
    | _, _ => none
  | _ => none
def dSame : DSpec := fun args m _ => match args with
  | [x, y] => match rdW7 m x, rdW7 m y with
    | some a, some b => some (.s (.bs (decide (a = b))), [])
    | _, _ => none
  | _ => none

theorem p7 : 4294967296 ^ 7 = 26959946667150639794667015087019630673637144422540572481103610249216 := by decide

theorem dBelow_ok : DSOk Try.prog 11 dBelow where
  enter := enter_in Try.func11 (by kernel_rfl) (by kernel_rfl)
  run := by
    intro wr T w m nt args xs v fr h hm hx hfr
    simp only [dBelow] at h
    split at h
    · rename_i u v
      split at h
      · rename_i x y e1 e2
        cases h
        obtain ⟨x1, x2, rfl, hv1, hv2⟩ := vsr2 hx
        obtain ⟨hx1, b1, c1, rfl, hl1, hR1⟩ := rdW7_ok hm hv1 e1
        obtain ⟨hx2, b2, c2, rfl, hl2, hR2⟩ := rdW7_ok hm hv2 e2
        obtain ⟨k1, k2⟩ := hR1 (tgs [⟨b1.blk, b1.off, 0⟩, ⟨b2.blk, b2.off, 0⟩]) 0 0 rfl
        obtain ⟨k3, k4⟩ := hR2 (tgs [⟨b1.blk, b1.off, 0⟩, ⟨b2.blk, b2.off, 0⟩]) 1 0 rfl
        refine val_calls (B := tb Try.f11.ntmps 2 [] [] [] 10) (c := Try.f11.body.getD .skip) tbN_ok Try.func11 (by kernel_rfl) (by kernel_rfl) (args := [.s (.sl 0 0 7 c1), .s (.sl 1 0 7 c2)]) (Nat.le_of_ble_eq_true (by kernel_rfl)) (mok_2w7 (b1 := ⟨b1.blk, b1.off, 0⟩) (b2 := ⟨b2.blk, b2.off, 0⟩) hl1 hl2 rfl rfl k1 k3) (vs2 k2 k4) (fun i hi => tgs_none (show 2 ≤ i from hi)) rfl hm _
          (Eq.mpr (run_below x y c1 c2 _) (belowL_ok 7 (fun hlt s hs => ⟨s, rfl, fun T' z hz => ?_⟩) (fun hlt s hs => ⟨s, rfl, fun T' z hz => ?_⟩)))
        all_goals
          rw [p7, Nat.mod_eq_of_lt hx1, Nat.mod_eq_of_lt hx2] at hlt
          rw [hs T' z hz]
        · show Value.bool true = .bool (decide (x < y))
          rw [decide_eq_true hlt]
        · show Value.bool false = .bool (decide (x < y))
          rw [decide_eq_false hlt]
      · cases h
    · cases h

theorem dSame_ok : DSOk Try.prog 20 dSame where
  enter := enter_in Try.func20 (by kernel_rfl) (by kernel_rfl)
  run := by
    intro wr T w m nt args xs v fr h hm hx hfr
    simp only [dSame] at h
    split at h
    · rename_i u v
      split at h
      · rename_i x y e1 e2
        cases h
        obtain ⟨x1, x2, rfl, hv1, hv2⟩ := vsr2 hx
        obtain ⟨hx1, b1, c1, rfl, hl1, hR1⟩ := rdW7_ok hm hv1 e1
        obtain ⟨hx2, b2, c2, rfl, hl2, hR2⟩ := rdW7_ok hm hv2 e2
        obtain ⟨k1, k2⟩ := hR1 (tgs [⟨b1.blk, b1.off, 0⟩, ⟨b2.blk, b2.off, 0⟩]) 0 0 rfl
        obtain ⟨k3, k4⟩ := hR2 (tgs [⟨b1.blk, b1.off, 0⟩, ⟨b2.blk, b2.off, 0⟩]) 1 0 rfl
        refine val_calls (B := tb Try.f20.ntmps 2 [] [] [] 10) (c := Try.f20.body.getD .skip) tbN_ok Try.func20 (by kernel_rfl) (by kernel_rfl) (args := [.s (.sl 0 0 7 c1), .s (.sl 1 0 7 c2)]) (Nat.le_of_ble_eq_true (by kernel_rfl)) (mok_2w7 (b1 := ⟨b1.blk, b1.off, 0⟩) (b2 := ⟨b2.blk, b2.off, 0⟩) hl1 hl2 rfl rfl k1 k3) (vs2 k2 k4) (fun i hi => tgs_none (show 2 ≤ i from hi)) rfl hm _
          (Eq.mpr (run_same x y c1 c2 _) (sameL_ok 7 0 (fun heq => ⟨.bl true, rfl, fun T' z hz => ?_⟩) (fun heq => ⟨.bl false, rfl, fun T' z hz => ?_⟩)))
        all_goals
          rw [p7, Nat.pow_zero, Nat.div_one, Nat.div_one, Nat.mod_eq_of_lt hx1, Nat.mod_eq_of_lt hx2] at heq
        · have hz : z = .bool true := hz
          show z = .bool (decide (x = y))
          rw [hz, decide_eq_true heq]
        · have hz : z = .bool false := hz
          show z = .bool (decide (x = y))
          rw [hz, decide_eq_false heq]
      · cases h
    · cases h

end Go.Proofs.Ytdaheccfeihpgaa.Nm

/-
  The rest modulo the prime: its contract.
-/
namespace Go.Proofs.Ytdaheccfeihpgaa.Nm
open Go Go.RowKit

def dsS : List (Nat × DSpec) := [(12, dPrime), (11, dBelow), (20, dSame), (33, dSmall)]
theorem dsS_ok : ∀ f sp, lkp dsS f = some sp → DSOk Try.prog f sp := by
  intro f sp h
  rcases lkp_cons h with ⟨rfl, rfl⟩ | h
  · exact dPrime_ok
  rcases lkp_cons h with ⟨rfl, rfl⟩ | h
  · exact dBelow_ok
  rcases lkp_cons h with ⟨rfl, rfl⟩ | h
  · exact dSame_ok
  rcases lkp_cons h with ⟨rfl, rfl⟩ | h
  · exact dSmall_ok
  · exact (lkp_nil h).elim
def outsW : List V → Mem → List Nat
  | _ :: v :: _, _ => tagsOf v
  | _, _ => []
def tb0 : Tb := tb 0 0 [] [] [] 10
def ksR : List (Nat × KSpec) := [(52, kCar), (51, inl tb0 Try.f51 outsW)]
theorem ksR_ok : ∀ f sp, lkp ksR f = some sp → KSOk Try.prog f sp := by
  intro f sp h
  rcases lkp_cons h with ⟨rfl, rfl⟩ | h
  · exact kCar_ok
  rcases lkp_cons h with ⟨rfl, rfl⟩ | h
  · exact inl_ok tbN_ok Try.func51 (by kernel_rfl) (enter_in Try.func51 (by kernel_rfl) (by kernel_rfl)) _
  · exact (lkp_nil h).elim

def redTail (G : V → Option (List Pc) → Prop) (c : Nat) (q : Nat → List Pc) (a0 a1 a2 a3 a4 a5 a6 : Int) : Prop := bndL 4611686018427387904 [a0, a1, a2, a3, a4, a5, a6] ∧ ∀ (o : Int) (n : Nat), o * 26959946667150639794667015087019630673637144422540572481103610249216 + n = ivl [a0, a1, a2, a3, a4, a5, a6] → n < 26959946667150639794667015087019630673637144422540572481103610249216 → -2147483648 ≤ o → o ≤ 2147483648 → ovL (fun n => G (.s (.sl 0 0 7 c)) (some (q n))) 9 o n

set_option maxRecDepth 100000 in
theorem run_red7 (x0 x1 x2 x3 x4 x5 x6 : Int) (G : V → Option (List Pc) → Prop) :
    exC2 (tb Try.f38.ntmps 2 [0] dsS ksR 9) (Try.f38.body.getD .skip) ⟨entryV [cv 1, .s (.sl 0 0 7 7)] 0, [(0, wcs [x0, x1, x2, x3, x4, x5, x6] []), (1, foldsC)], 2⟩ (endK (tb Try.f38.ntmps 2 [0] dsS ksR 9) Try.f38.results.toList fun v m _ => G v (lkp m 0)) =
    redTail G 7 (fun n => [.w7 n]) x0 x1 x2 x3 x4 x5 x6 := by
  kernel_rfl

set_option maxRecDepth 100000 in
theorem run_red14 (x0 x1 x2 x3 x4 x5 x6 x7 x8 x9 x10 x11 x12 x13 : Int) (G : V → Option (List Pc) → Prop) :
    exC2 (tb Try.f38.ntmps 2 [0] dsS ksR 9) (Try.f38.body.getD .skip) ⟨entryV [cv 1, .s (.sl 0 0 14 14)] 0, [(0, wcs [x0, x1, x2, x3, x4, x5, x6, x7, x8, x9, x10, x11, x12, x13] []), (1, foldsC)], 2⟩ (endK (tb Try.f38.ntmps 2 [0] dsS ksR 9) Try.f38.results.toList fun v m _ => G v (lkp m 0)) =
    f14L x0 x1 x2 x3 x4 x5 x6 x7 x8 x9 x10 x11 x12 x13 (redTail G 14 (fun n => .w7 n :: ones (List.replicate 7 (.lit .i64 0)))) := by
  kernel_rfl

/-- The rest modulo the prime, in the words' own place. -/
def kRed : KSpec where
  run := fun args m nt K => match args with
    | [c, .s (.sl t 0 7 7)] => obind (cvT c) fun tf => obind (lkp m t) fun l => onb (fdOk m tf && !Nat.beq t tf) (match i64s 7 (flat l) with
      | some (ws, []) => bndL 4611686018427387904 ws ∧ ∀ r : Nat, (r : Int) = ivl ws % 26959946667150639794667015087019630673557916260026308143510066298881 → K (.s (.sl t 0 7 7)) (upd m t [.w7 r]) nt
      | _ => False)
    | [c, .s (.sl t 0 14 14)] => obind (cvT c) fun tf => obind (lkp m t) fun l => onb (fdOk m tf && !Nat.beq t tf) (match i64s 14 (flat l) with
      | some (ws, []) => bndL 8589934592 ws ∧ ∀ r : Nat, (r : Int) = ivl ws % 26959946667150639794667015087019630673557916260026308143510066298881 → K (.s (.sl t 0 7 14)) (upd m t (.w7 r :: ones (List.replicate 7 (.lit .i64 0)))) nt
      | _ => False)
    | _ => False
  outs := outs1

theorem sep_blk {wr : Nat → Bool} {T : Tg} {w : World} {m : Mem} (hm : MOk wr T w m) {t t' : Nat} {b b' : Loc} (hw : wr t = true) (hb : T t = some b) (hb' : T t' = some b') (hne : t ≠ t') : b'.blk ≠ b.blk := fun e => hne (hm.sep t t' b b' hw hb hb' e.symm)

theorem red_core {wr : Nat → Bool} {T : Tg} {w : World} {m : Mem} {nt : Nat} {K : V → Mem → Nat → Prop} {xs : List Value} {t tf n cap : Nat} {l : List Pc} {ws : List Int} {q : Nat → List Pc} (hm : MOk wr T w m) (hx : VsR T [cv tf, .s (.sl t 0 n cap)] xs) (hfree : ∀ t, nt ≤ t → T t = none) (hwt : wr t = true)
    (hl : lkp m t = some l) (hfd : fdOk m tf = true) (hne : t ≠ tf) (hi : i64s n (flat l) = some (ws, [])) (hq : ∀ r : Nat, r < 26959946667150639794667015087019630673557916260026308143510066298881 → plain (flat (q r)) = true ∧ goods (q r))
    (hrun : exC2 (tb Try.f38.ntmps 2 [0] dsS ksR 9) (Try.f38.body.getD .skip) ⟨entryV [cv 1, .s (.sl 0 0 n cap)] 0, [(0, wcs ws []), (1, foldsC)], 2⟩ (endK (tb Try.f38.ntmps 2 [0] dsS ksR 9) Try.f38.results.toList fun v m _ =>
      (∃ r : Nat, (r : Int) = ivl ws % 26959946667150639794667015087019630673557916260026308143510066298881 ∧ v = .s (.sl 0 0 7 cap) ∧ lkp m 0 = some (q r))))
    (h : ∀ r : Nat, (r : Int) = ivl ws % 26959946667150639794667015087019630673557916260026308143510066298881 → K (.s (.sl t 0 7 cap)) (upd m t (q r)) nt) :
    Calls Try.prog 38 xs.toArray w (KEnd wr T w nt [t] K) := by
  obtain ⟨x1, x2, rfl, hv1, hv2⟩ := vsr2 hx
  obtain ⟨bf, hbf, hR⟩ := cv_R hv1
  obtain ⟨b, hb, rfl⟩ := vr_s hv2
  have hm0 : MOk (wrB (tb Try.f38.ntmps 2 [0] dsS ksR 9)) (tgs [b, ⟨bf.blk, bf.off, 0⟩]) w [(0, wcs ws []), (1, foldsC)] := by
    refine mok_tgsW (locs := [⟨bf.blk, bf.off, 0⟩]) (fun b' hb' => ?_) (fun i hi => by cases i with
      | zero => rfl
      | succ i => simp at hi) (fun b' hb' => ?_) fun t0 l0 hl0 => ?_
    · simp only [List.mem_cons, List.not_mem_nil, or_false] at hb'
      rcases hb' with rfl | rfl
      · exact hm.lt _ _ hb
      · exact hm.lt tf bf hbf
    · simp only [List.mem_cons, List.not_mem_nil, or_false] at hb'
      subst hb'
      exact sep_blk (b' := bf) hm hwt hb hbf hne
    · rcases lkp_cons hl0 with ⟨rfl, rfl⟩ | hl0
      · obtain ⟨b', cc, ty, pre, ys, rest, g1, g2, g3, g4, g5⟩ := hm.at_ t _ hl
        rw [hb] at g1; cases g1
        refine ⟨b, cc, ty, pre, ys, rest, rfl, g2, g3, g4, ?_, goods_wcs _ (by intro p hp; cases hp)⟩
        obtain ⟨l1, hl1, _, _, hweak⟩ := i64s_ok hi
        have hcr := g5.1
        rw [hl1, List.append_nil] at hcr
        rw [flat_wcs, ← hweak]
        simp only [flat, List.append_nil]
        refine hcr.weak.any fun s hs => ?_
        rw [hweak] at hs
        simp only [List.mem_map] at hs
        obtain ⟨_, _, rfl⟩ := hs
        rfl
      · rcases lkp_cons hl0 with ⟨rfl, rfl⟩ | hl0
        · exact fd_ok hm hfd hbf (f := 0) rfl
        · exact (lkp_nil hl0).elim
  refine (run_calls (B := tb Try.f38.ntmps 2 [0] dsS ksR 9) (tb_ok dsS_ok ksR_ok) Try.func38 (c := Try.f38.body.getD .skip) (by kernel_rfl) (by kernel_rfl) (args := [cv 1, .s (.sl 0 0 n cap)]) (Nat.le_of_ble_eq_true (by kernel_rfl)) hm0
    (vs2 (hR _ 1 0 rfl) (by rw [V.R]; exact ⟨b, rfl, rfl⟩)) (fun i hi => tgs_none (show 2 ≤ i from hi)) _ hrun).mono fun e w' hh => ?_
  obtain ⟨y, T', v, m', nt', rfl, hL⟩ := hh
  obtain ⟨r, hr, rfl, hq0⟩ := hL.post
  have hrl : r < 26959946667150639794667015087019630673557916260026308143510066298881 := by omega
  obtain ⟨hp1, hp2⟩ := hq r hrl
  obtain ⟨k1, k2⟩ := lift_wr (l' := q r) hm hwt hb hL rfl hq0 (fun xs hxs => ⟨hxs.1.any (plain_ok hp1), hp2⟩)
  refine ⟨T, y, _, _, nt, Tg.le_refl T, Nat.le_refl _, fun _ h _ => h, hfree, rfl, ?_, k1, k2, fun t b h h' => (by rw [h] at h'; cases h'), h r hr⟩
  obtain ⟨b1, hb1, hy⟩ := vr_s hL.val
  have : T' 0 = some b := hL.le 0 b rfl
  rw [this] at hb1; cases hb1
  rw [V.R]
  exact ⟨b, hb, hy⟩

theorem len14 {α : Type} {l : List α} (h : l.length = 14) : ∃ a b c d e f g a1 b1 c1 d1 e1 f1 g1, l = [a, b, c, d, e, f, g, a1, b1, c1, d1, e1, f1, g1] := by
  match l, h with
  | [a, b, c, d, e, f, g, a1, b1, c1, d1, e1, f1, g1], _ => exact ⟨a, b, c, d, e, f, g, a1, b1, c1, d1, e1, f1, g1, rfl⟩

theorem kRed_ok : KSOk Try.prog 38 kRed where
  enter := enter_in Try.func38 (by kernel_rfl) (by kernel_rfl)
  run := by
    intro wr T w m nt args xs K h hm hx hfree hwr
    simp only [kRed] at h
    split at h
    · rename_i c t
      obtain ⟨tf, hc, h1⟩ := obind_some h
      clear h
      obtain ⟨l, hl, h2⟩ := obind_some h1
      clear h1
      obtain ⟨hfd, h⟩ := onb_true h2
      clear h2
      have hcv := cvT_eq hc
      subst hcv
      simp only [Bool.and_eq_true] at hfd
      have hne : t ≠ tf := by
        intro e
        subst e
        simp [Nat.beq_refl] at hfd
      split at h
      · rename_i ws hi
        obtain ⟨_, _, _, hlen, _⟩ := i64s_ok hi
        obtain ⟨x0, x1, x2, x3, x4, x5, x6, rfl⟩ := len7 hlen
        refine red_core (q := fun r => [.w7 r]) hm hx hfree (hwr t (by simp [kRed, outs1, tagsOf])) hl hfd.1 hne hi (fun r hr => ⟨rfl, fun p hp => ?_⟩) (Eq.mpr (run_red7 x0 x1 x2 x3 x4 x5 x6 fun v q => ∃ r : Nat, (r : Int) = ivl [x0, x1, x2, x3, x4, x5, x6] % 26959946667150639794667015087019630673557916260026308143510066298881 ∧ v = .s (.sl 0 0 7 7) ∧ q = some [.w7 r]) ⟨h.1, fun o n e hn o1 o2 => ovL_ok 6 hn o1 o2 fun r hr => ⟨r, by rw [hr, e], rfl, rfl⟩⟩) h.2
        simp only [List.mem_cons, List.not_mem_nil, or_false] at hp
        subst hp
        show r < _
        omega
      · exact h.elim
    · rename_i c t
      obtain ⟨tf, hc, h1⟩ := obind_some h
      clear h
      obtain ⟨l, hl, h2⟩ := obind_some h1
      clear h1
      obtain ⟨hfd, h⟩ := onb_true h2
      clear h2
      have hcv := cvT_eq hc
      subst hcv
      simp only [Bool.and_eq_true] at hfd
      have hne : t ≠ tf := by
        intro e
        subst e
        simp [Nat.beq_refl] at hfd
      split at h
      · rename_i ws hi
        obtain ⟨_, _, _, hlen, _⟩ := i64s_ok hi
        obtain ⟨x0, x1, x2, x3, x4, x5, x6, x7, x8, x9, x10, x11, x12, x13, rfl⟩ := len14 hlen
        refine red_core (q := fun r => .w7 r :: ones (List.replicate 7 (.lit .i64 0))) hm hx hfree (hwr t (by simp [kRed, outs1, tagsOf])) hl hfd.1 hne hi (fun r hr => ⟨rfl, goods_cons.2 ⟨?_, goods_ones _⟩⟩)
          (Eq.mpr (run_red14 x0 x1 x2 x3 x4 x5 x6 x7 x8 x9 x10 x11 x12 x13 fun v q => ∃ r : Nat, (r : Int) = ivl [x0, x1, x2, x3, x4, x5, x6, x7, x8, x9, x10, x11, x12, x13] % 26959946667150639794667015087019630673557916260026308143510066298881 ∧ v = .s (.sl 0 0 7 14) ∧ q = some (.w7 r :: ones (List.replicate 7 (.lit .i64 0))))
            (f14L_ok h.1 fun a0 a1 a2 a3 a4 a5 a6 hb he => ⟨hb, fun o n e hn o1 o2 => ovL_ok 6 hn o1 o2 fun r hr => ⟨r, by rw [hr, e, he], rfl, rfl⟩⟩)) h.2
        show r < _
        omega
      · exact h.elim
    · exact h.elim

end Go.Proofs.Ytdaheccfeihpgaa.Nm

