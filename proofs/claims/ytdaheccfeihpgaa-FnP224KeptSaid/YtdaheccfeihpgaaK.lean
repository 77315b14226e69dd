import Derived.Test.YtdaheccfeihpgaaJ
/-
  Elements: their methods and bytes.
-/
/-
  The element's methods and the points', run.
-/
namespace Go.Proofs.Ytdaheccfeihpgaa.Nm
open Go Go.RowKit

def ks1 : List (Nat × KSpec) := [(84, k2 (· * ·)), (85, k2 (· + ·)), (75, k2 (· - ·)), (74, kOne), (70, kFrom), (66, kTo), (65, kFromB), (71, kToB), (76, kSel)]

theorem ks1_ok : ∀ f sp, lkp ks1 f = some sp → KSOk Try.prog f sp := by
  intro f sp h
  rcases lkp_cons h with ⟨rfl, rfl⟩ | h
  · exact kMul_ok
  rcases lkp_cons h with ⟨rfl, rfl⟩ | h
  · exact kAdd_ok
  rcases lkp_cons h with ⟨rfl, rfl⟩ | h
  · exact kSub_ok
  rcases lkp_cons h with ⟨rfl, rfl⟩ | h
  · exact kOne_ok
  rcases lkp_cons h with ⟨rfl, rfl⟩ | h
  · exact kFrom_ok
  rcases lkp_cons h with ⟨rfl, rfl⟩ | h
  · exact kTo_ok
  rcases lkp_cons h with ⟨rfl, rfl⟩ | h
  · exact kFromB_ok
  rcases lkp_cons h with ⟨rfl, rfl⟩ | h
  · exact kToB_ok
  rcases lkp_cons h with ⟨rfl, rfl⟩ | h
  · exact kSel_ok
  · exact (lkp_nil h).elim

theorem ds_nil : ∀ f sp, lkp ([] : List (Nat × DSpec)) f = some sp → DSOk Try.prog f sp := fun _ _ h => (lkp_nil h).elim

/-- With fiat's functions known. -/
def tb1 : Tb := tb 0 0 [] [] ks1 0
theorem tb1_ok : TbOk Try.prog tb1 := tb_ok ds_nil ks1_ok

def noOut : List V → Mem → List Nat := fun _ _ => []

def ks2 : List (Nat × KSpec) := [(68, inl tb1 Try.f68 outs0), (69, inl tb1 Try.f69 outs0), (58, inl tb1 Try.f58 outs0), (55, inl tb1 Try.f55 outs0), (56, inl tb1 Try.f56 outs0), (59, inl tb1 Try.f59 outs0)]

theorem ks2_ok : ∀ f sp, lkp ks2 f = some sp → KSOk Try.prog f sp := by
  intro f sp h
  rcases lkp_cons h with ⟨rfl, rfl⟩ | h
  · exact inl_ok tb1_ok Try.func68 (by kernel_rfl) (enter_in Try.func68 (by kernel_rfl) (by kernel_rfl)) _
  rcases lkp_cons h with ⟨rfl, rfl⟩ | h
  · exact inl_ok tb1_ok Try.func69 (by kernel_rfl) (enter_in Try.func69 (by kernel_rfl) (by kernel_rfl)) _
  rcases lkp_cons h with ⟨rfl, rfl⟩ | h
  · exact inl_ok tb1_ok Try.func58 (by kernel_rfl) (enter_in Try.func58 (by kernel_rfl) (by kernel_rfl)) _
  rcases lkp_cons h with ⟨rfl, rfl⟩ | h
  · exact inl_ok tb1_ok Try.func55 (by kernel_rfl) (enter_in Try.func55 (by kernel_rfl) (by kernel_rfl)) _
  rcases lkp_cons h with ⟨rfl, rfl⟩ | h
  · exact inl_ok tb1_ok Try.func56 (by kernel_rfl) (enter_in Try.func56 (by kernel_rfl) (by kernel_rfl)) _
  rcases lkp_cons h with ⟨rfl, rfl⟩ | h
  · exact inl_ok tb1_ok Try.func59 (by kernel_rfl) (enter_in Try.func59 (by kernel_rfl) (by kernel_rfl)) _
  · exact (lkp_nil h).elim

def tb2 : Tb := tb 0 0 [] [] (ks2 ++ ks1) 0

set_option maxRecDepth 100000 in
theorem test_mul (x y : F) (K : V → Mem → Nat → Prop) : (inl tb1 Try.f68 outs0).run [.s (.p 0 0), .s (.p 1 0), .s (.p 2 0)] [(0, [.fi x]), (1, [.fi x]), (2, [.fi y])] 3 K =
    K (.s (.p 0 0)) [(0, [.fi (x * y)]), (1, [.fi x]), (2, [.fi y])] 3 := by
  kernel_rfl

theorem tb2_ok : TbOk Try.prog tb2 := tb_ok ds_nil (by
  intro f sp h
  rcases lkp_append h with h | h
  · exact ks2_ok f sp h
  · exact ks1_ok f sp h)

end Go.Proofs.Ytdaheccfeihpgaa.Nm

/-
  The bytes of an element, turned.
-/
namespace Go.Proofs.Ytdaheccfeihpgaa.Nm
open Go Go.RowKit

theorem rev_getD {bs : List Nat} (h : bs.length = 28) (k : Nat) (hk : k < 28) : bs.reverse.getD k 0 = bs.getD (27 - k) 0 := by
  rw [List.getD_eq_getElem?_getD, List.getD_eq_getElem?_getD, List.getElem?_reverse (by omega), h]

theorem rev_cells {bs : List Nat} (h : bs.length = 28) : (Pc.bt bs.reverse).cells = (Pc.bt bs).cells.reverse := by
  have g := fun k hk => rev_getD h k hk
  simp only [Pc.cells, g 0 (by omega), g 1 (by omega), g 2 (by omega), g 3 (by omega), g 4 (by omega), g 5 (by omega), g 6 (by omega), g 7 (by omega), g 8 (by omega), g 9 (by omega), g 10 (by omega), g 11 (by omega), g 12 (by omega), g 13 (by omega), g 14 (by omega), g 15 (by omega), g 16 (by omega), g 17 (by omega), g 18 (by omega), g 19 (by omega), g 20 (by omega), g 21 (by omega), g 22 (by omega), g 23 (by omega), g 24 (by omega), g 25 (by omega), g 26 (by omega), g 27 (by omega)]
  rfl

set_option maxRecDepth 100000 in
theorem run_inv (bs : List Nat) (c : Nat) (K : V → Mem → Nat → Prop) :
    exC2 (tb Try.f64.ntmps 1 [0] [] [] 40) (Try.f64.body.getD .skip) ⟨entryV [.s (.sl 0 0 28 c)] 0, [(0, [.bt bs])], 1⟩ (endK (tb Try.f64.ntmps 1 [0] [] [] 40) Try.f64.results.toList K) =
    K (.tup []) [(0, ones (Pc.bt bs).cells.reverse)] 1 := by
  kernel_rfl

/-- Bytes turned about. -/
def kInv : KSpec where
  run := fun args m nt K => match args with
    | [.s (.sl t 0 28 _)] => match lkp m t with
      | some [.bt bs] => K (.tup []) (upd m t [.bt bs.reverse]) nt
      | _ => False
    | _ => False
  outs := outs0

theorem kInv_ok : KSOk Try.prog 64 kInv where
  enter := enter_in Try.func64 (by kernel_rfl) (by kernel_rfl)
  run := by
    intro wr T w m nt args xs K h hm hx hfree hwr
    simp only [kInv] at h
    split at h
    · rename_i t c
      split at h
      · rename_i bs hl
        obtain ⟨x, rfl, hv1⟩ := vsr1 hx
        obtain ⟨b, hb, rfl⟩ := vr_s hv1
        have hbk := hm.at_ t _ hl
        have hgood : (Pc.bt bs).good := by obtain ⟨_, _, _, _, _, _, _, _, _, _, h4⟩ := hbk; exact h4.2 _ (by simp)
        have hwt : wr t = true := hwr t (by simp [kInv, outs0, tagsOf])
        have hm0 : MOk (wrB (tb Try.f64.ntmps 1 [0] [] [] 40)) (tgs [b]) w [(0, [.bt bs])] := by
          refine ⟨fun i j b1 b2 _ h1 h2 _ => ?_, fun i b1 h1 => ?_, fun i l h1 => ?_⟩
          · have e1 := tgs_get h1
            have e2 := tgs_get h2
            have := (List.getElem?_eq_some_iff.1 e1).1
            have := (List.getElem?_eq_some_iff.1 e2).1
            simp at *; omega
          · have e1 := tgs_get h1
            have hi := (List.getElem?_eq_some_iff.1 e1).1
            have : i = 0 := by simp at hi; omega
            subst this
            simp at e1
            subst e1
            exact hm.lt _ _ hb
          · rcases lkp_cons h1 with ⟨rfl, rfl⟩ | h1
            · obtain ⟨b', c', ty, pre, ys, rest, g1, g2, g3, g4, g5⟩ := hbk
              rw [hb] at g1; cases g1
              exact ⟨b, c', ty, pre, ys, rest, rfl, g2, g3, g4, ⟨g5.1.any fun s hs => (by simp only [flat, Pc.cells, List.append_nil, List.mem_cons, List.not_mem_nil, or_false] at hs; rcases hs with rfl | rfl | rfl | rfl | rfl | rfl | rfl | rfl | rfl | rfl | rfl | rfl | rfl | rfl | rfl | rfl | rfl | rfl | rfl | rfl | rfl | rfl | rfl | rfl | rfl | rfl | rfl | rfl <;> rfl), g5.2⟩⟩
            · exact (lkp_nil h1).elim
        refine (run_calls (B := tb Try.f64.ntmps 1 [0] [] [] 40) (tb_ok ds_nil (fun _ _ h => (lkp_nil h).elim)) Try.func64 (c := Try.f64.body.getD .skip) (by kernel_rfl) (by kernel_rfl) (args := [.s (.sl 0 0 28 c)]) (Nat.le_of_ble_eq_true (by kernel_rfl)) hm0
          (by rw [VsR]; exact ⟨_, [], rfl, by rw [V.R]; exact ⟨b, rfl, rfl⟩, by rw [VsR]⟩) (fun i hi => tgs_none (show 1 ≤ i from hi)) (fun v m' _ => v = .tup [] ∧ m' = [(0, ones (Pc.bt bs).cells.reverse)]) (Eq.mpr (run_inv bs c (fun v m' _ => v = .tup [] ∧ m' = [(0, ones (Pc.bt bs).cells.reverse)])) ⟨rfl, rfl⟩)).mono fun e w' hh => ?_
        obtain ⟨y, T', v, m', nt', rfl, hL⟩ := hh
        obtain ⟨rfl, rfl⟩ := hL.post
        have hy : y = .tuple #[] := by
          have := hL.val
          rw [V.R] at this
          obtain ⟨ys, e1, e2⟩ := this
          rw [VsR] at e2
          rw [e1, e2]
        subst hy
        have hkp : ∀ k, k < w.heap.size → k ≠ b.blk → w'.heap[k]? = w.heap[k]? := fun k hk hne => hL.kp.block k hk fun ⟨i, hi, b1, hb1, e⟩ => by
          have e1 := tgs_get hb1
          have : i = 0 := by simpa [tb] using hi
          subst this
          simp at e1
          subst e1
          exact hne e.symm
        have hblk : BlockOk T w' t [.bt bs.reverse] := by
          obtain ⟨b', c', ty, pre, ys, rest, g1, g2, g3, g4, g5⟩ := hL.mok.at_ 0 _ rfl
          have : T' 0 = some b := hL.le 0 b rfl
          rw [this] at g1; cases g1
          refine ⟨b, c', ty, pre, ys, rest, hb, g2, g3, g4, ?_, ?_⟩
          · have e : flat [Pc.bt bs.reverse] = flat (ones (Pc.bt bs).cells.reverse) := by
              rw [flat_ones]; simp only [flat, List.append_nil]; exact rev_cells hgood.1
            rw [e]
            refine g5.1.any fun s hs => ?_
            rw [flat_ones, List.mem_reverse] at hs
            simp only [Pc.cells, List.mem_cons, List.not_mem_nil, or_false] at hs
            rcases hs with rfl | rfl | rfl | rfl | rfl | rfl | rfl | rfl | rfl | rfl | rfl | rfl | rfl | rfl | rfl | rfl | rfl | rfl | rfl | rfl | rfl | rfl | rfl | rfl | rfl | rfl | rfl | rfl <;> rfl
          · intro p hp
            simp only [List.mem_cons, List.not_mem_nil, or_false] at hp
            subst hp
            exact ⟨by simp [hgood.1], fun x hx => hgood.2 x (by simpa using hx)⟩
        refine ⟨T, _, .tup [], _, nt, Tg.le_refl T, Nat.le_refl _, fun _ h _ => h, hfree, rfl, tup0 T, hm.write hwt hb hL.kp.size hkp hblk, ⟨hL.kp.os, hL.kp.tape, hL.kp.output, hL.kp.size, fun k hk hn => hkp k hk fun e => hn ⟨t, by simp [kInv, outs0, tagsOf], b, hb, e.symm⟩⟩, fun t b h h' => (by rw [h] at h'; cases h'), h⟩
      · exact h.elim
    · exact h.elim

end Go.Proofs.Ytdaheccfeihpgaa.Nm

/-
  The bytes of an element.
-/
namespace Go.Proofs.Ytdaheccfeihpgaa.Nm
open Go Go.RowKit

def ksI : List (Nat × KSpec) := (64, kInv) :: ks1
theorem ksI_ok : ∀ f sp, lkp ksI f = some sp → KSOk Try.prog f sp := by
  intro f sp h
  rcases lkp_cons h with ⟨rfl, rfl⟩ | h
  · exact kInv_ok
  · exact ks1_ok f sp h
def tbI : Tb := tb 0 0 [] [] ksI 0
theorem tbI_ok : TbOk Try.prog tbI := tb_ok ds_nil ksI_ok

def outs1 : List V → Mem → List Nat
  | [_, v], _ => tagsOf v
  | _, _ => []

def ksB : List (Nat × KSpec) := (48, inl tbI Try.f48 outs1) :: ksI
theorem ksB_ok : ∀ f sp, lkp ksB f = some sp → KSOk Try.prog f sp := by
  intro f sp h
  rcases lkp_cons h with ⟨rfl, rfl⟩ | h
  · exact inl_ok tbI_ok Try.func48 (by kernel_rfl) (enter_in Try.func48 (by kernel_rfl) (by kernel_rfl)) _
  · exact ksI_ok f sp h

/-- The bytes of a number, the highest first. -/
def bytesBE (x : Nat) : List Nat := (bytesOf x).reverse

set_option maxRecDepth 100000 in
theorem run_bytes (v : F) (K : V → Mem → Nat → Prop) :
    exC2 (tb Try.f30.ntmps 1 [] [] ksB 40) (Try.f30.body.getD .skip) ⟨entryV [.s (.p 0 0)] 0, [(0, [.fi v])], 1⟩ (endK (tb Try.f30.ntmps 1 [] [] ksB 40) Try.f30.results.toList K) =
    (v.val < pp ∧ K (.s (.sl 1 0 28 28)) [(2, [.w4 v.val]), (1, [.bt (bytesBE v.val)]), (0, [.fi v])] 3) := by
  kernel_rfl

/-! ### A function that returns a new slice -/
/-- The bytes of an element: a new slice. -/
def dBytes : DSpec := fun args m nt => match args with
  | [.s (.p t 0)] => match lkp m t with
    | some [.fi v] => some (.s (.sl nt 0 28 28), [[.bt (bytesBE v.val)]])
    | _ => none
  | _ => none

theorem dBytes_ok : DSOk Try.prog 30 dBytes where
  enter := enter_in Try.func30 (by kernel_rfl) (by kernel_rfl)
  run := by
    intro wr T w m nt args xs v fr h hm hx hfr
    simp only [dBytes] at h
    split at h
    · rename_i t
      split at h
      · rename_i x hl
        simp only [Option.some.injEq, Prod.mk.injEq] at h
        obtain ⟨rfl, rfl⟩ := h
        obtain ⟨y, rfl, hv1⟩ := vsr1 hx
        obtain ⟨b, hb, rfl⟩ := vr_s hv1
        refine (run_calls (B := tb Try.f30.ntmps 1 [] [] ksB 40) (tb_ok ds_nil ksB_ok) Try.func30 (c := Try.f30.body.getD .skip) (by kernel_rfl) (by kernel_rfl) (args := [.s (.p 0 0)]) (Nat.le_of_ble_eq_true (by kernel_rfl)) (mok_one hm hb (hm.at_ t _ hl) (fi_noTag x))
          (by rw [VsR]; exact ⟨_, [], rfl, by rw [V.R]; exact ⟨b, rfl, rfl⟩, by rw [VsR]⟩) (fun i hi => tgs_none (show 1 ≤ i from hi)) (fun v m' _ => v = .s (.sl 1 0 28 28) ∧ m' = [(2, [.w4 x.val]), (1, [.bt (bytesBE x.val)]), (0, [.fi x])]) (Eq.mpr (run_bytes x (fun v m' _ => v = .s (.sl 1 0 28 28) ∧ m' = [(2, [.w4 x.val]), (1, [.bt (bytesBE x.val)]), (0, [.fi x])])) ⟨x.isLt, rfl, rfl⟩)).mono fun e w' hh => ?_
        obtain ⟨y, T', v, m', nt', rfl, hL⟩ := hh
        obtain ⟨rfl, rfl⟩ := hL.post
        obtain ⟨T'', g1, g2, g3, g4, g5⟩ := grew_of hm hfr hL rfl rfl rfl (by rfl) (bt_noTag _)
        exact ⟨T'', y, g1, rfl, g2, g3, g4, g5⟩
      · cases h
    · cases h

end Go.Proofs.Ytdaheccfeihpgaa.Nm

/-
  A copy of a slice of 28 bytes.
-/
namespace Go.Proofs.Ytdaheccfeihpgaa.Nm
open Go Go.RowKit

set_option maxRecDepth 100000 in
theorem run_clone (bs : List Nat) (c : Nat) (K : V → Mem → Nat → Prop) :
    exC2 (tb Try.f42.ntmps 1 [] [] [] 40) (Try.f42.body.getD .skip) ⟨entryV [.s (.sl 0 0 28 c)] 0, [(0, [.bt bs])], 1⟩ (endK (tb Try.f42.ntmps 1 [] [] [] 40) Try.f42.results.toList K) =
    K (.s (.slu 2 0 28)) [(2, [.bt bs]), (1, []), (0, [.bt bs])] 3 := by
  kernel_rfl

def dClone : DSpec := fun args m nt => match args with
  | [.s (.sl t o 28 _)] => match lkp m t with
    | some l => match rdN l o 28 with
      | some [.bt bs] => some (.s (.slu nt 0 28), [[.bt bs]])
      | _ => none
    | none => none
  | _ => none

theorem dClone_ok : DSOk Try.prog 42 dClone where
  enter := enter_in Try.func42 (by kernel_rfl) (by kernel_rfl)
  run := by
    intro wr T w m nt args xs v fr h hm hx hfr
    simp only [dClone] at h
    split at h
    · rename_i t o c
      split at h
      · rename_i l hl
        split at h
        · rename_i bs hq
          simp only [Option.some.injEq, Prod.mk.injEq] at h
          obtain ⟨rfl, rfl⟩ := h
          obtain ⟨y, rfl, hv1⟩ := vsr1 hx
          obtain ⟨b, hb, rfl⟩ := vr_s hv1
          refine (run_calls (B := tb Try.f42.ntmps 1 [] [] [] 40) (tb_ok ds_nil (fun _ _ h => (lkp_nil h).elim)) Try.func42 (c := Try.f42.body.getD .skip) (by kernel_rfl) (by kernel_rfl) (args := [.s (.sl 0 0 28 c)]) (Nat.le_of_ble_eq_true (by kernel_rfl)) (mok_sub hm hb hl hq (bt_noTag bs))
            (by rw [VsR]; exact ⟨_, [], rfl, by rw [V.R]; exact ⟨⟨b.blk, b.off + o, b.fin⟩, rfl, rfl⟩, by rw [VsR]⟩) (fun i hi => tgs_none (show 1 ≤ i from hi)) (fun v m' _ => v = .s (.slu 2 0 28) ∧ m' = [(2, [.bt bs]), (1, []), (0, [.bt bs])]) (Eq.mpr (run_clone bs c (fun v m' _ => v = .s (.slu 2 0 28) ∧ m' = [(2, [.bt bs]), (1, []), (0, [.bt bs])])) ⟨rfl, rfl⟩)).mono fun e w' hh => ?_
          obtain ⟨y, T', v, m', nt', rfl, hL⟩ := hh
          obtain ⟨rfl, rfl⟩ := hL.post
          obtain ⟨T'', g1, g2, g3, g4, g5⟩ := grew_of_u hm hfr hL rfl rfl rfl (by rfl) (bt_noTag _)
          exact ⟨T'', y, g1, rfl, g2, g3, g4, g5⟩
        · cases h
      · cases h
    · cases h

end Go.Proofs.Ytdaheccfeihpgaa.Nm

/-
  The comparison of bytes.
-/
namespace Go.Proofs.Ytdaheccfeihpgaa.Nm
open Go Go.RowKit

/-- How the comparison goes on from byte k, n bytes to go. -/
def leLaw (xs ys : List Nat) (K1 K0 : Prop) : Nat → Nat → Prop
  | 0, _ => K1
  | n + 1, k => ((!decide (((xs.getD k 0 : Nat) : Int) = ((ys.getD k 0 : Nat) : Int))) = true → (decide (((xs.getD k 0 : Nat) : Int) < ((ys.getD k 0 : Nat) : Int)) = true → K1) ∧ (decide (((xs.getD k 0 : Nat) : Int) < ((ys.getD k 0 : Nat) : Int)) = false → K0)) ∧
    ((!decide (((xs.getD k 0 : Nat) : Int) = ((ys.getD k 0 : Nat) : Int))) = false → leLaw xs ys K1 K0 n (k + 1))

set_option maxRecDepth 100000 in
theorem run_le (xs ys : List Nat) (c : Nat) (K : V → Mem → Nat → Prop) :
    exC2 (tb Try.f63.ntmps 2 [] [] [] 40) (Try.f63.body.getD .skip) ⟨entryV [.s (.slu 0 0 28), .s (.sl 1 0 28 c)] 0, [(0, [.bt xs]), (1, [.bt ys])], 2⟩ (endK (tb Try.f63.ntmps 2 [] [] [] 40) Try.f63.results.toList K) =
    leLaw xs ys (K (.s (.lit .i64 1)) [(0, [.bt xs]), (1, [.bt ys])] 2) (K (.s (.lit .i64 0)) [(0, [.bt xs]), (1, [.bt ys])] 2) 28 0 := by
  kernel_rfl

/-- The number of n bytes from byte k on, the highest first. -/
def vb (xs : List Nat) : Nat → Nat → Nat
  | 0, _ => 0
  | n + 1, k => xs.getD k 0 * 256 ^ n + vb xs n (k + 1)

theorem vb_lt {xs : List Nat} (h : ∀ b ∈ xs, b < 256) : ∀ n k, vb xs n k < 256 ^ n
  | 0, k => by simp [vb]
  | n + 1, k => by
    have h1 := vb_lt h n (k + 1)
    have h2 := getD_lt h k
    simp only [vb, Nat.pow_succ]
    have : xs.getD k 0 * 256 ^ n ≤ 255 * 256 ^ n := Nat.mul_le_mul_right _ (by omega)
    omega

theorem le_law {xs ys : List Nat} (hx : ∀ b ∈ xs, b < 256) (hy : ∀ b ∈ ys, b < 256) {K1 K0 : Prop} : ∀ n k, (vb xs n k ≤ vb ys n k → K1) → (¬ vb xs n k ≤ vb ys n k → K0) → leLaw xs ys K1 K0 n k
  | 0, k, h1, _ => h1 (Nat.le_refl _)
  | n + 1, k, h1, h0 => by
    have lx := vb_lt hx n (k + 1)
    have ly := vb_lt hy n (k + 1)
    simp only [vb] at h1 h0
    refine ⟨fun hne => ⟨fun hlt => h1 ?_, fun hnlt => h0 ?_⟩, fun heq => ?_⟩
    · have hlt := of_decide_eq_true hlt
      have : (xs.getD k 0 + 1) * 256 ^ n ≤ ys.getD k 0 * 256 ^ n := Nat.mul_le_mul_right _ (by omega)
      rw [Nat.add_mul, Nat.one_mul] at this
      omega
    · have hnlt := of_decide_eq_false hnlt
      have hne : xs.getD k 0 ≠ ys.getD k 0 := by
        intro e
        rw [e] at hne
        simp at hne
      have : (ys.getD k 0 + 1) * 256 ^ n ≤ xs.getD k 0 * 256 ^ n := Nat.mul_le_mul_right _ (by omega)
      rw [Nat.add_mul, Nat.one_mul] at this
      omega
    · have heq : xs.getD k 0 = ys.getD k 0 := by
        have : decide (((xs.getD k 0 : Nat) : Int) = ((ys.getD k 0 : Nat) : Int)) = true := by simpa using heq
        have := of_decide_eq_true this
        omega
      rw [heq] at h1 h0
      exact le_law hx hy n (k + 1) (fun h => h1 (by omega)) (fun h => h0 (by omega))

end Go.Proofs.Ytdaheccfeihpgaa.Nm

