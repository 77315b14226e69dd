import Derived.Test.YtdaheccfeihpgaaT
/-
  The inverse; comparisons.
-/
/-
  Chains of products; the inverse.
-/
namespace Go.Proofs.Ytdaheccfeihpgaa.Nm
open Go Go.RowKit

/-- As k1 and k2, the outcome under a name. -/
def k1g (op : F → F) : KSpec where
  run := fun args m nt K => match args with
    | [p, x] => obind (rdFi m x) fun a => ∀ z, z = op a → obind (wrP m [.fi z] p) fun r => K (.tup []) (upd m r.1 r.2) nt
    | _ => False
  outs := outs0
def k2g (op : F → F → F) : KSpec where
  run := fun args m nt K => match args with
    | [p, x, y] => obind (rdFi m x) fun a => obind (rdFi m y) fun b => ∀ z, z = op a b → obind (wrP m [.fi z] p) fun r => K (.tup []) (upd m r.1 r.2) nt
    | _ => False
  outs := outs0

theorem k1g_ok {f : Nat} {op : F → F} (h : KSOk Try.prog f (k1 op)) : KSOk Try.prog f (k1g op) where
  enter := h.enter
  run := by
    intro wr T w m nt args xs K hr hm hx hfree hwr
    refine h.run wr T w m nt args xs K ?_ hm hx hfree hwr
    simp only [k1g] at hr
    split at hr
    · obtain ⟨a, ha, hr⟩ := obind_some hr
      simp only [k1, ha]
      exact hr _ rfl
    · exact hr.elim
theorem k2g_ok {f : Nat} {op : F → F → F} (h : KSOk Try.prog f (k2 op)) : KSOk Try.prog f (k2g op) where
  enter := h.enter
  run := by
    intro wr T w m nt args xs K hr hm hx hfree hwr
    refine h.run wr T w m nt args xs K ?_ hm hx hfree hwr
    simp only [k2g] at hr
    split at hr
    · obtain ⟨a, ha, hr⟩ := obind_some hr
      obtain ⟨b, hb, hr⟩ := obind_some hr
      simp only [k2, ha, hb]
      exact hr _ rfl
    · exact hr.elim

def ks1g : List (Nat × KSpec) := (83, k1g fun x => x * x) :: (84, k2g fun x y => x * y) :: ks1
theorem ks1g_ok : ∀ f sp, lkp ks1g f = some sp → KSOk Try.prog f sp := by
  intro f sp h
  rcases lkp_cons h with ⟨rfl, rfl⟩ | h
  · exact k1g_ok kSquare_ok
  rcases lkp_cons h with ⟨rfl, rfl⟩ | h
  · exact k2g_ok kMul_ok
  · exact ks1_ok f sp h
def tb1g : Tb := tb 0 0 [] [] ks1g 0
theorem tb1g_ok : TbOk Try.prog tb1g := tb_ok ds_nil ks1g_ok

/-- Elements' methods, products under a name. -/
def ksG : List (Nat × KSpec) := (67, inl tb1g Try.f67 outs0) :: (68, inl tb1g Try.f68 outs0) :: ks2
theorem ksG_ok : ∀ f sp, lkp ksG f = some sp → KSOk Try.prog f sp := by
  intro f sp h
  rcases lkp_cons h with ⟨rfl, rfl⟩ | h
  · exact inl_ok tb1g_ok Try.func67 (by kernel_rfl) (enter_in Try.func67 (by kernel_rfl) (by kernel_rfl)) _
  rcases lkp_cons h with ⟨rfl, rfl⟩ | h
  · exact inl_ok tb1g_ok Try.func68 (by kernel_rfl) (enter_in Try.func68 (by kernel_rfl) (by kernel_rfl)) _
  · exact ks2_ok f sp h

/-- A chain of products over some registers: (where to, of which two). -/
def chn : List (Nat × Nat × Nat) → List F → (List F → Prop) → Prop
  | [], r, K => K r
  | (d, a, b) :: q, r, K => ∀ z, z = r.getD a 0 * r.getD b 0 → chn q (r.set d z) K
/-- The exponents, of those that are powers. -/
def eAdd : Option Nat → Option Nat → Option Nat
  | some a, some b => some (a + b)
  | _, _ => none
def chnE : List (Nat × Nat × Nat) → List (Option Nat) → List (Option Nat)
  | [], e => e
  | (d, a, b) :: q, e => chnE q (e.set d (eAdd (e.getD a none) (e.getD b none)))

def pows (x : F) (r : List F) (e : List (Option Nat)) : Prop := e.length = r.length ∧ ∀ i n, e.getD i none = some n → r.getD i 0 = fpow x n

theorem chn_ok (x : F) {K : List F → Prop} : ∀ (p : List (Nat × Nat × Nat)) (r : List F) (e : List (Option Nat)), pows x r e → (∀ r', pows x r' (chnE p e) → K r') → chn p r K
  | [], r, e, h, hK => hK r h
  | (d, a, b) :: q, r, e, h, hK => by
    intro z hz
    refine chn_ok x q _ _ ?_ hK
    refine ⟨by simp [h.1], fun i n hn => ?_⟩
    by_cases hi : d = i
    · subst hi
      by_cases hd : d < e.length
      · rw [List.getD_eq_getElem?_getD, List.getElem?_set_self hd, Option.getD_some] at hn
        have hd' : d < r.length := by rw [← h.1]; exact hd
        rw [List.getD_eq_getElem?_getD, List.getElem?_set_self hd', Option.getD_some, hz]
        cases h1 : e.getD a none with
        | none => rw [h1] at hn; cases hn
        | some m1 =>
          cases h2 : e.getD b none with
          | none => rw [h1, h2] at hn; cases hn
          | some m2 =>
            rw [h1, h2] at hn
            cases hn
            rw [h.2 a m1 h1, h.2 b m2 h2, fpow_add]
      · rw [List.getD_eq_getElem?_getD, List.getElem?_eq_none (by simpa using hd)] at hn
        cases hn
    · rw [List.getD_eq_getElem?_getD, List.getElem?_set_ne hi, ← List.getD_eq_getElem?_getD] at hn
      rw [List.getD_eq_getElem?_getD, List.getElem?_set_ne hi, ← List.getD_eq_getElem?_getD]
      exact h.2 i n hn

theorem fpow_one (x : F) : fpow x 1 = x := by
  show fpow x 0 * x = x
  exact Fin.one_mul x

def progI : List (Nat × Nat × Nat) := [(1, 0, 0)] ++ ([(2, 0, 1)] ++ ([(1, 2, 2)] ++ ([(1, 0, 1)] ++ ([(3, 1, 1)] ++ (List.replicate 2 (3, 3, 3) ++ ([(3, 1, 3)] ++ ([(4, 3, 3)] ++ (List.replicate 5 (4, 4, 4) ++ ([(3, 3, 4)] ++ (List.replicate 2 (3, 3, 3) ++ ([(2, 2, 3)] ++ ([(3, 2, 2)] ++ (List.replicate 2 (3, 3, 3) ++ ([(1, 1, 3)] ++ ([(3, 1, 1)] ++ (List.replicate 13 (3, 3, 3) ++ ([(2, 2, 3)] ++ ([(3, 2, 2)] ++ (List.replicate 16 (3, 3, 3) ++ ([(1, 1, 3)] ++ ([(3, 1, 1)] ++ (List.replicate 47 (3, 3, 3) ++ ([(1, 1, 3)] ++ ([(3, 1, 1)] ++ (List.replicate 30 (3, 3, 3) ++ ([(2, 2, 3)] ++ (List.replicate 97 (2, 2, 2) ++ ([(1, 1, 2)]))))))))))))))))))))))))))))

set_option maxRecDepth 100000 in
theorem run_invert (e0 x : F) (G : V → Option (List Pc) → Prop) : exC2 (tb Try.f78.ntmps 2 [0] [] ksG 100) (Try.f78.body.getD .skip) ⟨entryV [.s (.p 0 0), .s (.p 1 0)] 0, [(0, [.fi e0]), (1, [.fi x])], 2⟩ (endK (tb Try.f78.ntmps 2 [0] [] ksG 100) Try.f78.results.toList fun v m _ => G v (lkp m 0)) =
    chn progI [x, e0, 0, 0, 0] fun r => G (.s (.p 0 0)) (some [.fi (r.getD 1 0)]) := by
  kernel_rfl

theorem progI_exp : (chnE progI [some 1, none, none, none, none]).getD 1 none = some (p224 - 2) := by kernel_rfl

theorem pows_start (x e0 : F) : pows x [x, e0, 0, 0, 0] [some 1, none, none, none, none] := by
  refine ⟨rfl, fun i n h => ?_⟩
  match i with
  | 0 => cases h; exact (fpow_one x).symm
  | 1 => cases h
  | 2 => cases h
  | 3 => cases h
  | 4 => cases h
  | i + 5 => simp at h

theorem chn_inv (x e0 : F) {K : F → Prop} (h : K (finv x)) : chn progI [x, e0, 0, 0, 0] fun r => K (r.getD 1 0) :=
  chn_ok x _ _ _ (pows_start x e0) fun r' hr => by rw [hr.2 1 _ progI_exp]; exact h

/-- A function of one element that writes another one and returns its address. -/
def kUn (f : F → F) : KSpec where
  run := fun args m nt K => match args with
    | [.s (.p te 0), .s (.p tx ox)] => match lkp m te with
      | some [.fi _] => obind (rdFi m (.s (.p tx ox))) fun a => onb (!Nat.beq te tx) (K (.s (.p te 0)) (upd m te [.fi (f a)]) nt)
      | _ => False
    | _ => False
  outs := outs0

theorem rdFi_sub {wr : Nat → Bool} {T : Tg} {w : World} {m : Mem} (hm : MOk wr T w m) {t o : Nat} {b : Loc} {v : F} (hb : T t = some b) (h : rdFi m (.s (.p t o)) = some v) {T' : Tg} {i : Nat} (hi : T' i = some ⟨b.blk, b.off + o, 0⟩) : BlockOk T' w i [.fi v] := by
  simp only [rdFi] at h
  split at h
  · rename_i l hl
    split at h
    · rename_i v' hq
      cases h
      exact sub_ok hm hb hl hq (fi_noTag _) hi
    · cases h
  · cases h

theorem kInvert_ok : KSOk Try.prog 78 (kUn finv) where
  enter := enter_in Try.func78 (by kernel_rfl) (by kernel_rfl)
  run := by
    intro wr T w m nt args xs K h hm hx hfree hwr
    simp only [kUn] at h
    split at h
    · rename_i te tx ox
      split at h
      · rename_i e0 hl
        obtain ⟨a, ha, h1⟩ := obind_some h
        clear h
        obtain ⟨hne, h⟩ := onb_true h1
        clear h1
        obtain ⟨x1, x2, rfl, hv1, hv2⟩ := vsr2 hx
        obtain ⟨b, hb, rfl⟩ := vr_s hv1
        obtain ⟨b2, hb2, rfl⟩ := vr_s hv2
        have hne2 : te ≠ tx := by
          intro e
          subst e
          simp [Nat.beq_refl] at hne
        have hwt : wr te = true := hwr te (by simp [kUn, outs0, tagsOf])
        have hrd : rdN [Pc.fi e0] 0 4 = some [.fi e0] := by kernel_rfl
        have hb0 : BlockOk (tgs [b, ⟨b2.blk, b2.off + ox, 0⟩]) w 0 [.fi e0] := by
          refine sub_ok hm hb hl hrd (fi_noTag e0) (f := b.fin) ?_
          rfl
        have hm0 : MOk (wrB (tb Try.f78.ntmps 2 [0] [] ksG 100)) (tgs [b, ⟨b2.blk, b2.off + ox, 0⟩]) w [(0, [.fi e0]), (1, [.fi a])] := by
          refine mok_tgsW (locs := [⟨b2.blk, b2.off + ox, 0⟩]) (fun b' hb' => ?_) (fun i hi => by cases i with
            | zero => rfl
            | succ i => simp at hi) (fun b' hb' => ?_) fun t0 l0 hl0 => ?_
          · simp only [List.mem_cons, List.not_mem_nil, or_false] at hb'
            rcases hb' with rfl | rfl
            · exact hm.lt _ _ hb
            · exact hm.lt tx b2 hb2
          · simp only [List.mem_cons, List.not_mem_nil, or_false] at hb'
            subst hb'
            show b2.blk ≠ b.blk
            exact sep_blk hm hwt hb hb2 hne2
          · rcases lkp_cons hl0 with ⟨rfl, rfl⟩ | hl0
            · exact hb0
            rcases lkp_cons hl0 with ⟨rfl, rfl⟩ | hl0
            · exact rdFi_sub hm hb2 ha rfl
            · exact (lkp_nil hl0).elim
        refine (run_calls (B := tb Try.f78.ntmps 2 [0] [] ksG 100) (tb_ok ds_nil ksG_ok) Try.func78 (c := Try.f78.body.getD .skip) (by kernel_rfl) (by kernel_rfl) (args := [.s (.p 0 0), .s (.p 1 0)]) (Nat.le_of_ble_eq_true (by kernel_rfl)) hm0
          (vs2 (by rw [V.R]; exact ⟨b, rfl, rfl⟩) (by rw [V.R]; exact ⟨⟨b2.blk, b2.off + ox, 0⟩, rfl, rfl⟩)) (fun i hi => tgs_none (show 2 ≤ i from hi)) (fun v m' _ => v = .s (.p 0 0) ∧ lkp m' 0 = some [.fi (finv a)])
          (Eq.mpr (run_invert e0 a (fun v q => v = .s (.p 0 0) ∧ q = some [.fi (finv a)])) (chn_inv a e0 (K := fun z => V.s (.p 0 0) = .s (.p 0 0) ∧ some [Pc.fi z] = some [.fi (finv a)]) ⟨rfl, rfl⟩))).mono fun e w' hh => ?_
        obtain ⟨y, T', v, m', nt', rfl, hL⟩ := hh
        have hT'0 : T' 0 = some b := hL.le 0 b rfl
        obtain ⟨rfl, hq⟩ := hL.post
        obtain ⟨g1, g2⟩ := lift_wr (l' := [.fi (finv a)]) hm hwt hb hL rfl hq (fun xs hxs => ⟨hxs.1.any (fi_noTag _), hxs.2⟩)
        obtain ⟨b0, hb0', rfl⟩ := vr_s hL.val
        rw [hT'0] at hb0'
        cases hb0'
        exact ⟨T, _, _, _, nt, Tg.le_refl T, Nat.le_refl _, fun _ h _ => h, hfree, rfl, by rw [V.R]; exact ⟨b, hb, rfl⟩, g1, ⟨g2.os, g2.tape, g2.output, g2.size, fun k hk hn => g2.block k hk hn⟩, fun t b h1 h2 => (by rw [h1] at h2; cases h2), h⟩
      · exact h.elim
    · exact h.elim

end Go.Proofs.Ytdaheccfeihpgaa.Nm

/-
  Whether two elements are the same one, and whether one is zero: the contracts.
-/
namespace Go.Proofs.Ytdaheccfeihpgaa.Nm
open Go Go.RowKit

def vI (xs ys : List Nat) : Nat → Nat → Int → Int
  | 0, _, v => v
  | n + 1, k, v => vI xs ys n (k + 1) (bits .or .u8 v (bits .xor .u8 (xs.getD k 0 : Nat) (ys.getD k 0 : Nat)))

def vG (xs ys : List Nat) (K : Int → Prop) : Nat → Nat → Int → Prop
  | 0, _, v => K v
  | n + 1, k, v => ∀ z, IntKind.u8.wrap z = z → z = bits .or .u8 v (bits .xor .u8 (xs.getD k 0 : Nat) (ys.getD k 0 : Nat)) → vG xs ys K n (k + 1) z
theorem vG_ok {xs ys : List Nat} {K : Int → Prop} : ∀ n k v, K (vI xs ys n k v) → vG xs ys K n k v
  | 0, _, _, h => h
  | n + 1, k, v, h => fun z _ hz => by subst hz; exact vG_ok n (k + 1) _ h

set_option maxRecDepth 100000 in
theorem run_cmp (xs ys : List Nat) (c d : Nat) (K : V → Mem → Nat → Prop) :
    exC2 (tb Try.f86.ntmps 2 [] [] [] 40) (Try.f86.body.getD .skip) ⟨entryV [.s (.sl 0 0 28 c), .s (.sl 1 0 28 d)] 0, [(0, [.bt xs]), (1, [.bt ys])], 2⟩ (endK (tb Try.f86.ntmps 2 [] [] [] 40) Try.f86.results.toList K) =
    vG xs ys (fun v => (decide (v = 0) = true → K (.s (.lit .i64 1)) [(0, [.bt xs]), (1, [.bt ys])] 2) ∧ (decide (v = 0) = false → K (.s (.lit .i64 0)) [(0, [.bt xs]), (1, [.bt ys])] 2)) 28 0 0 := by
  kernel_rfl

theorem u8_op (op : BinOp) (f : Nat → Nat → Nat) (hf : ∀ x y : BitVec 8, (match op with | .or => x ||| y | _ => x ^^^ y).toNat = f x.toNat y.toNat) (hb : ∀ a b, a < 256 → b < 256 → f a b < 256) (hop : op = .or ∨ op = .xor) (a b : Nat) (ha : a < 256) (hb' : b < 256) : bits op .u8 (a : Int) (b : Int) = (f a b : Nat) := by
  have e1 : ∀ n : Nat, n < 256 → (BitVec.ofInt 8 (n : Int)).toNat = n := fun n hn => by
    rw [BitVec.toNat_ofInt]; omega
  have h := hf (BitVec.ofInt 8 (a : Int)) (BitVec.ofInt 8 (b : Int))
  rw [e1 a ha, e1 b hb'] at h
  have hlt := hb a b ha hb'
  have e2 : bits op .u8 (a : Int) (b : Int) = IntKind.u8.wrap ((match op with | .or => BitVec.ofInt 8 (a : Int) ||| BitVec.ofInt 8 (b : Int) | _ => BitVec.ofInt 8 (a : Int) ^^^ BitVec.ofInt 8 (b : Int)).toNat : Nat) := by
    rcases hop with rfl | rfl <;> rfl
  rw [e2, h, IntKind.wrap_u8']
  omega

theorem u8_or (a b : Nat) (ha : a < 256) (hb : b < 256) : bits .or .u8 (a : Int) (b : Int) = (a ||| b : Nat) :=
  u8_op .or (· ||| ·) (fun _ _ => BitVec.toNat_or ..) (fun _ _ ha hb => Nat.or_lt_two_pow (n := 8) ha hb) (.inl rfl) a b ha hb
theorem u8_xor (a b : Nat) (ha : a < 256) (hb : b < 256) : bits .xor .u8 (a : Int) (b : Int) = (a ^^^ b : Nat) :=
  u8_op .xor (· ^^^ ·) (fun _ _ => BitVec.toNat_xor ..) (fun _ _ ha hb => Nat.xor_lt_two_pow (n := 8) ha hb) (.inr rfl) a b ha hb

theorem or_zero {a b : Nat} : a ||| b = 0 ↔ a = 0 ∧ b = 0 := by
  constructor
  · intro h
    have h1 : a ≤ a ||| b := Nat.left_le_or
    have h2 : b ≤ a ||| b := Nat.right_le_or
    omega
  · rintro ⟨rfl, rfl⟩; rfl
theorem xor_zero {a b : Nat} : a ^^^ b = 0 ↔ a = b := by
  constructor
  · intro h
    have e : a ^^^ b ^^^ b = 0 ^^^ b := by rw [h]
    rw [Nat.xor_assoc, Nat.xor_self, Nat.xor_zero, Nat.zero_xor] at e
    exact e
  · rintro rfl; exact Nat.xor_self a

theorem vI_zero {xs ys : List Nat} (hx : ∀ b ∈ xs, b < 256) (hy : ∀ b ∈ ys, b < 256) : ∀ n k (v : Nat), v < 256 → (vI xs ys n k v = 0 ↔ v = 0 ∧ ∀ i, k ≤ i → i < k + n → xs.getD i 0 = ys.getD i 0)
  | 0, k, v, hv => by
    show ((v : Int) = 0 ↔ _)
    constructor
    · intro h; exact ⟨by omega, fun i h1 h2 => by omega⟩
    · rintro ⟨h, _⟩; omega
  | n + 1, k, v, hv => by
    have h1 := getD_lt hx k
    have h2 := getD_lt hy k
    have h3 : xs.getD k 0 ^^^ ys.getD k 0 < 256 := Nat.xor_lt_two_pow (n := 8) h1 h2
    have h4 : v ||| (xs.getD k 0 ^^^ ys.getD k 0) < 256 := Nat.or_lt_two_pow (n := 8) hv h3
    unfold vI
    rw [u8_xor _ _ h1 h2, u8_or _ _ hv h3, vI_zero hx hy n (k + 1) _ h4, or_zero, xor_zero]
    constructor
    · rintro ⟨⟨e1, e2⟩, h⟩
      refine ⟨e1, fun i hi hlt => ?_⟩
      by_cases e : i = k
      · subst e; exact e2
      · exact h i (by omega) (by omega)
    · rintro ⟨e1, h⟩
      exact ⟨⟨e1, h k (by omega) (by omega)⟩, fun i hi hlt => h i (by omega) (by omega)⟩

theorem vI_eq {xs ys : List Nat} (hlx : xs.length = 28) (hly : ys.length = 28) (hx : ∀ b ∈ xs, b < 256) (hy : ∀ b ∈ ys, b < 256) : vI xs ys 28 0 0 = 0 ↔ xs = ys := by
  have e := vI_zero hx hy 28 0 0 (by omega)
  have e' : vI xs ys 28 0 0 = 0 ↔ _ := e
  rw [e']
  constructor
  · rintro ⟨_, h⟩
    apply List.ext_getElem (by omega)
    intro i h1 h2
    have := h i (by omega) (by omega)
    simpa [List.getD, List.getElem?_eq_getElem h1, List.getElem?_eq_getElem h2] using this
  · rintro rfl; exact ⟨rfl, fun _ _ _ => rfl⟩

/-- A truth as a number. -/
def kB (p : Prop) (m : Mem) (nt : Nat) (K : V → Mem → Nat → Prop) : Prop := (p → K (.s (.lit .i64 1)) m nt) ∧ (¬ p → K (.s (.lit .i64 0)) m nt)

def kCmp : KSpec where
  run := fun args m nt K => match args with
    | [x, y] => obind (rdB28 m x) fun a => obind (rdB28 m y) fun b => kB (a = b) m nt K
    | _ => False
  outs := fun _ _ => []

theorem kB_of {wr : Nat → Bool} {T : Tg} {w : World} {m : Mem} {nt : Nat} {p : Prop} {K : V → Mem → Nat → Prop} {f : FuncId} {xs : Array Value} (hfree : ∀ t, nt ≤ t → T t = none) (h : kB p m nt K) (hp : p ∨ ¬ p) (h1 : p → Calls Try.prog f xs w (DEnd wr T w m nt (.s (.lit .i64 1)) [])) (h0 : ¬ p → Calls Try.prog f xs w (DEnd wr T w m nt (.s (.lit .i64 0)) [])) (o : List Nat) :
    Calls Try.prog f xs w (KEnd wr T w nt o K) := by
  rcases hp with hp | hp
  · exact (h1 hp).mono fun e w' hh => KEnd.of hh hfree (h.1 hp)
  · exact (h0 hp).mono fun e w' hh => KEnd.of hh hfree (h.2 hp)

theorem mok_2n {wr : Nat → Bool} {w : World} {b1 b2 : Loc} {q1 q2 : List Pc} (h1 : b1.blk < w.heap.size) (h2 : b2.blk < w.heap.size) (hwr : ∀ i, i < 2 → wr i = false) (g1 : BlockOk (tgs [b1, b2]) w 0 q1) (g2 : BlockOk (tgs [b1, b2]) w 1 q2) :
    MOk wr (tgs [b1, b2]) w [(0, q1), (1, q2)] := by
  refine mok_tgs (fun b' h => ?_) (fun i hi => hwr i hi) fun t l h => ?_
  · simp only [List.mem_cons, List.not_mem_nil, or_false] at h
    rcases h with rfl | rfl
    · exact h1
    · exact h2
  · rcases lkp_cons h with ⟨rfl, rfl⟩ | h
    · exact g1
    rcases lkp_cons h with ⟨rfl, rfl⟩ | h
    · exact g2
    · exact (lkp_nil h).elim

theorem no2 {i : Nat} {n : Nat} {ds : List (Nat × DSpec)} {ks : List (Nat × KSpec)} {fu : Nat} (hi : i < 2) : wrB (tb n 2 [] ds ks fu) i = false := by
  have hc : i = 0 ∨ i = 1 := by omega
  rcases hc with rfl | rfl <;> rfl

theorem kCmp_ok : KSOk Try.prog 86 kCmp where
  enter := enter_in Try.func86 (by kernel_rfl) (by kernel_rfl)
  run := by
    intro wr T w m nt args xs K h hm hx hfree hwr
    simp only [kCmp] at h
    split at h
    · rename_i u v
      obtain ⟨a, e1, h⟩ := obind_some h
      obtain ⟨b, e2, h⟩ := obind_some h
      obtain ⟨x1, x2, rfl, hv1, hv2⟩ := vsr2 hx
      obtain ⟨hla, ha, b1, c1, _, _, _, _, rfl, hl1, hR1⟩ := rdB28_ok hm hv1 e1
      obtain ⟨hlb, hb, b2, c2, _, _, _, _, rfl, hl2, hR2⟩ := rdB28_ok hm hv2 e2
      obtain ⟨k1, k2⟩ := hR1 (tgs [⟨b1.blk, b1.off, 0⟩, ⟨b2.blk, b2.off, 0⟩]) 0 0 rfl
      obtain ⟨k3, k4⟩ := hR2 (tgs [⟨b1.blk, b1.off, 0⟩, ⟨b2.blk, b2.off, 0⟩]) 1 0 rfl
      have hvi := vI_eq hla hlb ha hb
      refine kB_of hfree h (Classical.em _) (fun hp => ?_) (fun hp => ?_) _
      · exact val_calls (s := .lit .i64 1) (B := tb Try.f86.ntmps 2 [] [] [] 40) (c := Try.f86.body.getD .skip) tbN_ok Try.func86 (by kernel_rfl) (by kernel_rfl) (args := [.s (.sl 0 0 28 c1), .s (.sl 1 0 28 c2)]) (Nat.le_of_ble_eq_true (by kernel_rfl)) (m0 := [(0, [.bt a]), (1, [.bt b])]) (mok_2n (b1 := ⟨b1.blk, b1.off, 0⟩) (b2 := ⟨b2.blk, b2.off, 0⟩) hl1 hl2 (fun i hi => no2 hi) k1 k3) (vs2 k2 k4) (fun i hi => tgs_none (show 2 ≤ i from hi)) rfl hm
          (Eq.mpr (run_cmp a b c1 c2 _) (vG_ok 28 0 0 ⟨fun _ => ⟨_, rfl, fun T' z hz => hz⟩, fun hd => absurd (hvi.2 hp) (of_decide_eq_false hd)⟩))
      · exact val_calls (s := .lit .i64 0) (B := tb Try.f86.ntmps 2 [] [] [] 40) (c := Try.f86.body.getD .skip) tbN_ok Try.func86 (by kernel_rfl) (by kernel_rfl) (args := [.s (.sl 0 0 28 c1), .s (.sl 1 0 28 c2)]) (Nat.le_of_ble_eq_true (by kernel_rfl)) (m0 := [(0, [.bt a]), (1, [.bt b])]) (mok_2n (b1 := ⟨b1.blk, b1.off, 0⟩) (b2 := ⟨b2.blk, b2.off, 0⟩) hl1 hl2 (fun i hi => no2 hi) k1 k3) (vs2 k2 k4) (fun i hi => tgs_none (show 2 ≤ i from hi)) rfl hm
          (Eq.mpr (run_cmp a b c1 c2 _) (vG_ok 28 0 0 ⟨fun hd => absurd (hvi.1 (of_decide_eq_true hd)) hp, fun _ => ⟨_, rfl, fun T' z hz => hz⟩⟩))
    · exact h.elim

/-! ### Elements -/
def ksC : List (Nat × KSpec) := [(86, kCmp)]
theorem ksC_ok : ∀ f sp, lkp ksC f = some sp → KSOk Try.prog f sp := by
  intro f sp h
  rcases lkp_cons h with ⟨rfl, rfl⟩ | h
  · exact kCmp_ok
  · exact (lkp_nil h).elim
def dsC : List (Nat × DSpec) := [(30, dBytes)]
theorem dsC_ok : ∀ f sp, lkp dsC f = some sp → DSOk Try.prog f sp := by
  intro f sp h
  rcases lkp_cons h with ⟨rfl, rfl⟩ | h
  · exact dBytes_ok
  · exact (lkp_nil h).elim

set_option maxRecDepth 100000 in
theorem run_equal (a b : F) (G : V → Prop) :
    exC2 (tb Try.f73.ntmps 2 [] dsC ksC 40) (Try.f73.body.getD .skip) ⟨entryV [.s (.p 0 0), .s (.p 1 0)] 0, [(0, [.fi a]), (1, [.fi b])], 2⟩ (endK (tb Try.f73.ntmps 2 [] dsC ksC 40) Try.f73.results.toList fun v _ _ => G v) =
    ((bytesBE a.val = bytesBE b.val → G (.s (.lit .i64 1))) ∧ (¬ bytesBE a.val = bytesBE b.val → G (.s (.lit .i64 0)))) := by
  kernel_rfl
set_option maxRecDepth 100000 in
theorem run_isz (a : F) (G : V → Prop) :
    exC2 (tb Try.f77.ntmps 1 [] dsC ksC 40) (Try.f77.body.getD .skip) ⟨entryV [.s (.p 0 0)] 0, [(0, [.fi a])], 1⟩ (endK (tb Try.f77.ntmps 1 [] dsC ksC 40) Try.f77.results.toList fun v _ _ => G v) =
    ((bytesBE a.val = List.replicate 28 0 → G (.s (.lit .i64 1))) ∧ (¬ bytesBE a.val = List.replicate 28 0 → G (.s (.lit .i64 0)))) := by
  kernel_rfl

theorem bytesBE_inj {a b : F} : bytesBE a.val = bytesBE b.val ↔ a = b := by
  constructor
  · intro h
    have h1 := nBE_bytesBE (x := a.val) (Nat.lt_trans a.isLt (by decide))
    have h2 := nBE_bytesBE (x := b.val) (Nat.lt_trans b.isLt (by decide))
    apply Fin.ext
    rw [← h1, ← h2, h]
  · rintro rfl; rfl
theorem bytesBE_zero {a : F} : bytesBE a.val = List.replicate 28 0 ↔ a = 0 := by
  have e : bytesBE (0 : F).val = List.replicate 28 0 := by
    rw [fval_zero]; decide +kernel
  rw [← e, bytesBE_inj]

def kEq : KSpec where
  run := fun args m nt K => match args with
    | [x, y] => obind (rdFi m x) fun a => obind (rdFi m y) fun b => kB (a = b) m nt K
    | _ => False
  outs := fun _ _ => []
def kIsz : KSpec where
  run := fun args m nt K => match args with
    | [x] => obind (rdFi m x) fun a => kB (a = 0) m nt K
    | _ => False
  outs := fun _ _ => []

theorem rdFi_loc {wr : Nat → Bool} {T : Tg} {w : World} {m : Mem} (hm : MOk wr T w m) {u : V} {x : Value} {v : F} (hu : u.R T x) (h : rdFi m u = some v) : ∃ b : Loc, b.blk < w.heap.size ∧ x = .pointer (some ⟨b.blk, b.off, none⟩) ∧ ∀ T' i, T' i = some b → BlockOk T' w i [.fi v] := by
  unfold rdFi at h
  split at h
  · rename_i t o
    obtain ⟨b, hb, rfl⟩ := vr_s hu
    exact ⟨⟨b.blk, b.off + o, 0⟩, hm.lt t b hb, rfl, fun T' i hi => rdFi_sub hm hb (o := o) (by simp only [rdFi]; exact h) hi⟩
  · cases h

theorem kEq_ok : KSOk Try.prog 73 kEq where
  enter := enter_in Try.func73 (by kernel_rfl) (by kernel_rfl)
  run := by
    intro wr T w m nt args xs K h hm hx hfree hwr
    simp only [kEq] at h
    split at h
    · rename_i u v
      obtain ⟨a, e1, h⟩ := obind_some h
      obtain ⟨b, e2, h⟩ := obind_some h
      obtain ⟨x1, x2, rfl, hv1, hv2⟩ := vsr2 hx
      obtain ⟨b1, hl1, rfl, hR1⟩ := rdFi_loc hm hv1 e1
      obtain ⟨b2, hl2, rfl, hR2⟩ := rdFi_loc hm hv2 e2
      have hvi := bytesBE_inj (a := a) (b := b)
      refine kB_of hfree h (Classical.em _) (fun hp => ?_) (fun hp => ?_) _
      · exact val_calls (s := .lit .i64 1) (B := tb Try.f73.ntmps 2 [] dsC ksC 40) (c := Try.f73.body.getD .skip) (tb_ok dsC_ok ksC_ok) Try.func73 (by kernel_rfl) (by kernel_rfl) (args := [.s (.p 0 0), .s (.p 1 0)]) (Nat.le_of_ble_eq_true (by kernel_rfl)) (m0 := [(0, [.fi a]), (1, [.fi b])]) (mok_2n hl1 hl2 (fun i hi => no2 hi) (hR1 _ _ rfl) (hR2 _ _ rfl)) (vs2 (by rw [V.R]; exact ⟨b1, rfl, rfl⟩) (by rw [V.R]; exact ⟨b2, rfl, rfl⟩)) (fun i hi => tgs_none (show 2 ≤ i from hi)) rfl hm
          (Eq.mpr (run_equal a b _) ⟨fun _ => ⟨_, rfl, fun T' z hz => hz⟩, fun hd => absurd (hvi.2 hp) hd⟩)
      · exact val_calls (s := .lit .i64 0) (B := tb Try.f73.ntmps 2 [] dsC ksC 40) (c := Try.f73.body.getD .skip) (tb_ok dsC_ok ksC_ok) Try.func73 (by kernel_rfl) (by kernel_rfl) (args := [.s (.p 0 0), .s (.p 1 0)]) (Nat.le_of_ble_eq_true (by kernel_rfl)) (m0 := [(0, [.fi a]), (1, [.fi b])]) (mok_2n hl1 hl2 (fun i hi => no2 hi) (hR1 _ _ rfl) (hR2 _ _ rfl)) (vs2 (by rw [V.R]; exact ⟨b1, rfl, rfl⟩) (by rw [V.R]; exact ⟨b2, rfl, rfl⟩)) (fun i hi => tgs_none (show 2 ≤ i from hi)) rfl hm
          (Eq.mpr (run_equal a b _) ⟨fun hd => absurd (hvi.1 hd) hp, fun _ => ⟨_, rfl, fun T' z hz => hz⟩⟩)
    · exact h.elim

theorem mok_1n {wr : Nat → Bool} {w : World} {b1 : Loc} {q1 : List Pc} (h1 : b1.blk < w.heap.size) (hwr : wr 0 = false) (g1 : BlockOk (tgs [b1]) w 0 q1) : MOk wr (tgs [b1]) w [(0, q1)] := by
  refine mok_tgs (fun b' h => ?_) (fun i hi => ?_) fun t l h => ?_
  · simp only [List.mem_cons, List.not_mem_nil, or_false] at h
    subst h; exact h1
  · have : i = 0 := by simp at hi; omega
    subst this; exact hwr
  · rcases lkp_cons h with ⟨rfl, rfl⟩ | h
    · exact g1
    · exact (lkp_nil h).elim

theorem kIsz_ok : KSOk Try.prog 77 kIsz where
  enter := enter_in Try.func77 (by kernel_rfl) (by kernel_rfl)
  run := by
    intro wr T w m nt args xs K h hm hx hfree hwr
    simp only [kIsz] at h
    split at h
    · rename_i u
      obtain ⟨a, e1, h⟩ := obind_some h
      obtain ⟨x1, rfl, hv1⟩ := vsr1 hx
      obtain ⟨b1, hl1, rfl, hR1⟩ := rdFi_loc hm hv1 e1
      have hvi := bytesBE_zero (a := a)
      refine kB_of hfree h (Classical.em _) (fun hp => ?_) (fun hp => ?_) _
      · exact val_calls (s := .lit .i64 1) (B := tb Try.f77.ntmps 1 [] dsC ksC 40) (c := Try.f77.body.getD .skip) (tb_ok dsC_ok ksC_ok) Try.func77 (by kernel_rfl) (by kernel_rfl) (args := [.s (.p 0 0)]) (Nat.le_of_ble_eq_true (by kernel_rfl)) (m0 := [(0, [.fi a])]) (mok_1n hl1 rfl (hR1 _ _ rfl)) (vs1 (by rw [V.R]; exact ⟨b1, rfl, rfl⟩)) (fun i hi => tgs_none (show 1 ≤ i from hi)) rfl hm
          (Eq.mpr (run_isz a _) ⟨fun _ => ⟨_, rfl, fun T' z hz => hz⟩, fun hd => absurd (hvi.2 hp) hd⟩)
      · exact val_calls (s := .lit .i64 0) (B := tb Try.f77.ntmps 1 [] dsC ksC 40) (c := Try.f77.body.getD .skip) (tb_ok dsC_ok ksC_ok) Try.func77 (by kernel_rfl) (by kernel_rfl) (args := [.s (.p 0 0)]) (Nat.le_of_ble_eq_true (by kernel_rfl)) (m0 := [(0, [.fi a])]) (mok_1n hl1 rfl (hR1 _ _ rfl)) (vs1 (by rw [V.R]; exact ⟨b1, rfl, rfl⟩)) (fun i hi => tgs_none (show 1 ≤ i from hi)) rfl hm
          (Eq.mpr (run_isz a _) ⟨fun hd => absurd (hvi.1 hd) hp, fun _ => ⟨_, rfl, fun T' z hz => hz⟩⟩)
    · exact h.elim

end Go.Proofs.Ytdaheccfeihpgaa.Nm

