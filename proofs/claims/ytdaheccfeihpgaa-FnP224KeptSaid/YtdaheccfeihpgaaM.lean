import Derived.Test.YtdaheccfeihpgaaL
import Derived.Test.YtdaheccfeihpgaaH
/-
  The specification's sum, difference, product.
-/
/-
  Sum, difference, product: their contracts.
-/
namespace Go.Proofs.Ytdaheccfeihpgaa.Nm
open Go Go.RowKit

def ksT : List (Nat × KSpec) := [(38, kRed)]
theorem ksT_ok : ∀ f sp, lkp ksT f = some sp → KSOk Try.prog f sp := by
  intro f sp h
  rcases lkp_cons h with ⟨rfl, rfl⟩ | h
  · exact kRed_ok
  · exact (lkp_nil h).elim

/-- Words, one by one. -/
def w2 (op : Int → Int → Int) (i x y : Nat) : Int := IntKind.i64.wrap (op (wd i x : Nat) (wd i y : Nat))
def linL (op : Int → Int → Int) (x y : Nat) (K : Nat → Prop) : Prop :=
  bndL 4611686018427387904 [w2 op 0 x y, w2 op 1 x y, w2 op 2 x y, w2 op 3 x y, w2 op 4 x y, w2 op 5 x y, w2 op 6 x y] ∧
  ∀ r : Nat, (r : Int) = ivl [w2 op 0 x y, w2 op 1 x y, w2 op 2 x y, w2 op 3 x y, w2 op 4 x y, w2 op 5 x y, w2 op 6 x y] % 26959946667150639794667015087019630673557916260026308143510066298881 → K r

set_option maxRecDepth 100000 in
theorem run_plus (x y c d : Nat) (G : V → Option (List Pc) → Prop) :
    exC2 (tb Try.f31.ntmps 3 [] [] ksT 9) (Try.f31.body.getD .skip) ⟨entryV [cv 2, .s (.sl 0 0 7 c), .s (.sl 1 0 7 d)] 0, [(0, [.w7 x]), (1, [.w7 y]), (2, foldsC)], 3⟩ (endK (tb Try.f31.ntmps 3 [] [] ksT 9) Try.f31.results.toList fun v m _ => G v (lkp m 4)) =
    linL (· + ·) x y fun r => G (.s (.sl 4 0 7 7)) (some [.w7 r]) := by
  kernel_rfl
set_option maxRecDepth 100000 in
theorem run_minus (x y c d : Nat) (G : V → Option (List Pc) → Prop) :
    exC2 (tb Try.f32.ntmps 3 [] [] ksT 9) (Try.f32.body.getD .skip) ⟨entryV [cv 2, .s (.sl 0 0 7 c), .s (.sl 1 0 7 d)] 0, [(0, [.w7 x]), (1, [.w7 y]), (2, foldsC)], 3⟩ (endK (tb Try.f32.ntmps 3 [] [] ksT 9) Try.f32.results.toList fun v m _ => G v (lkp m 4)) =
    linL (· - ·) x y fun r => G (.s (.sl 4 0 7 7)) (some [.w7 r]) := by
  kernel_rfl

def wl7 (x : Nat) : List Int := [((wd 0 x : Nat) : Int), ((wd 1 x : Nat) : Int), ((wd 2 x : Nat) : Int), ((wd 3 x : Nat) : Int), ((wd 4 x : Nat) : Int), ((wd 5 x : Nat) : Int), ((wd 6 x : Nat) : Int)]

def timL (zs : List Int) (K : Nat → Prop) : Prop := bndL 8589934592 zs ∧ ∀ r : Nat, (r : Int) = ivl zs % 26959946667150639794667015087019630673557916260026308143510066298881 → K r

set_option maxRecDepth 100000 in
theorem run_times (x y c d : Nat) (G : V → Option (List Pc) → Prop) :
    exC2 (tb Try.f21.ntmps 3 [] [] ksT 9) (Try.f21.body.getD .skip) ⟨entryV [cv 2, .s (.sl 0 0 7 c), .s (.sl 1 0 7 d)] 0, [(0, [.w7 x]), (1, [.w7 y]), (2, foldsC)], 3⟩ (endK (tb Try.f21.ntmps 3 [] [] ksT 9) Try.f21.results.toList fun v m _ => G v (lkp m 4)) =
    tmOut (wl7 y) (wl7 x) [0, 0, 0, 0, 0, 0, 0] [] fun zs => timL zs fun r => G (.s (.sl 4 0 7 14)) (some (.w7 r :: ones (List.replicate 7 (.lit .i64 0)))) := by
  kernel_rfl

theorem mok_bin {wr : Nat → Bool} {w : World} {b1 b2 b3 : Loc} {x y : Nat} (h1 : b1.blk < w.heap.size) (h2 : b2.blk < w.heap.size) (h3 : b3.blk < w.heap.size) (hwr : ∀ i, i < 3 → wr i = false) (g1 : BlockOk (tgs [b1, b2, b3]) w 0 [.w7 x]) (g2 : BlockOk (tgs [b1, b2, b3]) w 1 [.w7 y]) (g3 : BlockOk (tgs [b1, b2, b3]) w 2 foldsC) :
    MOk wr (tgs [b1, b2, b3]) w [(0, [.w7 x]), (1, [.w7 y]), (2, foldsC)] := by
  refine mok_tgs (fun b' h => ?_) (fun i hi => hwr i hi) fun t l h => ?_
  · simp only [List.mem_cons, List.not_mem_nil, or_false] at h
    rcases h with rfl | rfl | rfl
    · exact h1
    · exact h2
    · exact h3
  · rcases lkp_cons h with ⟨rfl, rfl⟩ | h
    · exact g1
    rcases lkp_cons h with ⟨rfl, rfl⟩ | h
    · exact g2
    rcases lkp_cons h with ⟨rfl, rfl⟩ | h
    · exact g3
    · exact (lkp_nil h).elim

/-- A function of two numbers. -/
def dBin (f : Nat → Nat → Nat) (cap : Nat) : DSpec := fun args m nt => match args with
  | [c, x, y] => match cvT c, rdW7 m x, rdW7 m y with
    | some tf, some a, some b => bif fdOk m tf then some (.s (.sl nt 0 7 cap), [[.w7 (f a b)]]) else none
    | _, _, _ => none
  | _ => none

theorem dBin_ok {i : Nat} {fn : Func} {f : Nat → Nat → Nat} {cap : Nat} (hf : Try.prog.funcs[i]? = some fn) (hn : (fn.name == "runtime.NumGoroutine") = false) (hb : fn.body.isNone = false) (hc : fn.body = some (fn.body.getD .skip)) (ha : Nat.ble 3 fn.ntmps = true)
    (hrun : ∀ x y c d, x < 26959946667150639794667015087019630673637144422540572481103610249216 → y < 26959946667150639794667015087019630673637144422540572481103610249216 →
      exC2 (tb fn.ntmps 3 [] [] ksT 9) (fn.body.getD .skip) ⟨entryV [cv 2, .s (.sl 0 0 7 c), .s (.sl 1 0 7 d)] 0, [(0, [.w7 x]), (1, [.w7 y]), (2, foldsC)], 3⟩ (endK (tb fn.ntmps 3 [] [] ksT 9) fn.results.toList fun v m _ => NewG 4 7 cap [.w7 (f x y)] v (lkp m 4))) : DSOk Try.prog i (dBin f cap) where
  enter := enter_in hf hn hb
  run := by
    intro wr T w m nt args xs v fr h hm hx hfr
    simp only [dBin] at h
    split at h
    · rename_i c u v
      split at h
      · rename_i tf x y hcv e1 e2
        cases hfd : fdOk m tf with
        | false => rw [hfd] at h; cases h
        | true =>
        rw [hfd] at h
        cases h
        obtain ⟨x1, x2, x3, rfl, hv0, hv1, hv2⟩ := vsr3 hx
        rw [cvT_eq hcv] at hv0
        obtain ⟨bf, hbf, hRf⟩ := cv_R hv0
        obtain ⟨hx1, b1, c1, rfl, hl1, hR1⟩ := rdW7_ok hm hv1 e1
        obtain ⟨hx2, b2, c2, rfl, hl2, hR2⟩ := rdW7_ok hm hv2 e2
        obtain ⟨k1, k2⟩ := hR1 (tgs [⟨b1.blk, b1.off, 0⟩, ⟨b2.blk, b2.off, 0⟩, ⟨bf.blk, bf.off, 0⟩]) 0 0 rfl
        obtain ⟨k3, k4⟩ := hR2 (tgs [⟨b1.blk, b1.off, 0⟩, ⟨b2.blk, b2.off, 0⟩, ⟨bf.blk, bf.off, 0⟩]) 1 0 rfl
        exact new_calls (B := tb fn.ntmps 3 [] [] ksT 9) (c := fn.body.getD .skip) (tb_ok ds_nil ksT_ok) hf hc rfl (args := [cv 2, .s (.sl 0 0 7 c1), .s (.sl 1 0 7 c2)]) (Nat.le_of_ble_eq_true ha)
          (mok_bin (b1 := ⟨b1.blk, b1.off, 0⟩) (b2 := ⟨b2.blk, b2.off, 0⟩) (b3 := ⟨bf.blk, bf.off, 0⟩) hl1 hl2 (hm.lt tf bf hbf) (fun i hi => by
            have hcs : i = 0 ∨ i = 1 ∨ i = 2 := by omega
            rcases hcs with rfl | rfl | rfl <;> rfl) k1 k3 (fd_ok hm hfd hbf (f := 0) rfl)) (vs3 (hRf _ 2 0 rfl) k2 k4) (fun i hi => tgs_none (show 3 ≤ i from hi)) rfl hm hfr 7 cap _ 4 (show 3 ≤ 4 by decide) (hrun x y c1 c2 hx1 hx2)
      · cases h
    · cases h

theorem new_w7 {n tg cap : Nat} (_h : n < 26959946667150639794667015087019630673637144422540572481103610249216) : NewG tg 7 cap [.w7 n] (.s (.sl tg 0 7 cap)) (some [.w7 n]) := ⟨rfl, _, rfl, fun _T _T' => pr_any (w7_plain n)⟩
theorem new_w7' {n tg cap : Nat} {r : List Pc} (h : n < 26959946667150639794667015087019630673637144422540572481103610249216) : NewG tg 7 cap [.w7 n] (.s (.sl tg 0 7 cap)) (some (.w7 n :: r)) := by
  refine ⟨rfl, _, rfl, fun T T' xs hx => ?_⟩
  have hc := hx.1
  have e : flat (.w7 n :: r) = flat [.w7 n] ++ flat r := by simp [flat]
  rw [e] at hc
  obtain ⟨x1, x2, rfl, c1, _⟩ := hc.split
  exact ⟨x1, x2, rfl, c1.any (w7_plain n), fun p hp => by simp only [List.mem_cons, List.not_mem_nil, or_false] at hp; subst hp; exact h⟩

def plusN (x y : Nat) : Nat := (x + y) % 26959946667150639794667015087019630673557916260026308143510066298881
def minusN (x y : Nat) : Nat := (x + 53919893334301279589334030174039261347115832520052616287020132597762 - y) % 26959946667150639794667015087019630673557916260026308143510066298881
def timesN (x y : Nat) : Nat := x * y % 26959946667150639794667015087019630673557916260026308143510066298881

theorem linL_plus {x y : Nat} {K : Nat → Prop} (hx : x < 26959946667150639794667015087019630673637144422540572481103610249216) (hy : y < 26959946667150639794667015087019630673637144422540572481103610249216) (h : K (plusN x y)) : linL (· + ·) x y K := by
  have e : ∀ i, w2 (· + ·) i x y = (wd i x : Nat) + (wd i y : Nat) := by
    intro i
    have h1 := wd_lt i x
    have h2 := wd_lt i y
    simp only [w2, IntKind.wrap_i64]
    omega
  have b : ∀ i, -4611686018427387904 ≤ ((wd i x : Nat) : Int) + (wd i y : Nat) ∧ ((wd i x : Nat) : Int) + (wd i y : Nat) ≤ 4611686018427387904 := by
    intro i
    have h1 := wd_lt i x
    have h2 := wd_lt i y
    omega
  have k1 := ivl_w7 hx
  have k2 := ivl_w7 hy
  unfold linL
  simp only [e]
  refine ⟨⟨b 0, b 1, b 2, b 3, b 4, b 5, b 6, trivial⟩, fun r hr => ?_⟩
  have : r = plusN x y := by
    simp only [ivl] at k1 k2 hr
    unfold plusN
    omega
  rw [this]; exact h

theorem linL_minus {x y : Nat} {K : Nat → Prop} (hx : x < 26959946667150639794667015087019630673637144422540572481103610249216) (hy : y < 26959946667150639794667015087019630673637144422540572481103610249216) (h : K (minusN x y)) : linL (· - ·) x y K := by
  have e : ∀ i, w2 (· - ·) i x y = (wd i x : Nat) - (wd i y : Nat) := by
    intro i
    have h1 := wd_lt i x
    have h2 := wd_lt i y
    simp only [w2, IntKind.wrap_i64]
    omega
  have b : ∀ i, -4611686018427387904 ≤ ((wd i x : Nat) : Int) - (wd i y : Nat) ∧ ((wd i x : Nat) : Int) - (wd i y : Nat) ≤ 4611686018427387904 := by
    intro i
    have h1 := wd_lt i x
    have h2 := wd_lt i y
    omega
  have k1 := ivl_w7 hx
  have k2 := ivl_w7 hy
  unfold linL
  simp only [e]
  refine ⟨⟨b 0, b 1, b 2, b 3, b 4, b 5, b 6, trivial⟩, fun r hr => ?_⟩
  have : r = minusN x y := by
    simp only [ivl] at k1 k2 hr
    unfold minusN
    omega
  rw [this]; exact h

theorem plusN_lt (x y : Nat) : plusN x y < 26959946667150639794667015087019630673637144422540572481103610249216 := by unfold plusN; omega
theorem minusN_lt (x y : Nat) : minusN x y < 26959946667150639794667015087019630673637144422540572481103610249216 := by unfold minusN; omega
theorem timesN_lt (x y : Nat) : timesN x y < 26959946667150639794667015087019630673637144422540572481103610249216 := by
  unfold timesN
  have := Nat.mod_lt (x * y) (show 0 < 26959946667150639794667015087019630673557916260026308143510066298881 by omega)
  omega

theorem dPlus_ok : DSOk Try.prog 31 (dBin plusN 7) := dBin_ok Try.func31 (by kernel_rfl) (by kernel_rfl) (by kernel_rfl) (by kernel_rfl) fun x y c d hx hy => Eq.mpr (run_plus x y c d _) (linL_plus hx hy (new_w7 (plusN_lt x y)))
theorem dMinus_ok : DSOk Try.prog 32 (dBin minusN 7) := dBin_ok Try.func32 (by kernel_rfl) (by kernel_rfl) (by kernel_rfl) (by kernel_rfl) fun x y c d hx hy => Eq.mpr (run_minus x y c d _) (linL_minus hx hy (new_w7 (minusN_lt x y)))

theorem low_wl7 (x : Nat) : lowL (wl7 x) := by
  intro z hz
  simp only [wl7, List.mem_cons, List.not_mem_nil, or_false] at hz
  have h := fun i => wd_lt i x
  rcases hz with rfl | rfl | rfl | rfl | rfl | rfl | rfl
  · have := h 0; omega
  · have := h 1; omega
  · have := h 2; omega
  · have := h 3; omega
  · have := h 4; omega
  · have := h 5; omega
  · have := h 6; omega

theorem bnd_low : ∀ {zs : List Int}, lowL zs → bndL 8589934592 zs
  | [], _ => trivial
  | x :: r, h => by
    obtain ⟨h1, h2⟩ := lowL_cons.1 h
    exact ⟨by omega, bnd_low h2⟩

theorem dTimes_ok : DSOk Try.prog 21 (dBin timesN 14) := dBin_ok Try.func21 (by kernel_rfl) (by kernel_rfl) (by kernel_rfl) (by kernel_rfl) fun x y c d hx hy => Eq.mpr (run_times x y c d _) (by
    refine tmOut_ok (low_wl7 y) (wl7 x) _ [] rfl (low_wl7 x) (by intro z hz; simp only [List.mem_cons, List.not_mem_nil, or_false, or_self] at hz; omega) (by simp) fun zs h1 h2 h3 => ⟨bnd_low h2, fun r hr => ?_⟩
    have hr' : r = timesN x y := by
      have e0 : ivl [0, 0, 0, 0, 0, 0, 0] = 0 := by decide
      have e1 : ivl (wl7 x) = x := ivl_w7 hx
      have e2 : ivl (wl7 y) = y := ivl_w7 hy
      rw [List.nil_append, h3, e0, e1, e2, Int.zero_add] at hr
      have e3 : (x : Int) * (y : Int) = ((x * y : Nat) : Int) := (Int.natCast_mul x y).symm
      rw [e3] at hr
      unfold timesN
      generalize x * y = m at *
      omega
    rw [hr']
    exact new_w7' (timesN_lt x y))

end Go.Proofs.Ytdaheccfeihpgaa.Nm

/-
  The number of bytes.
-/
namespace Go.Proofs.Ytdaheccfeihpgaa.Nm
open Go Go.RowKit

/-- The number of bytes, the highest first. -/
def nBE (bs : List Nat) : Nat := le bs.reverse

def adB (acc : Int) (b j : Nat) (K : Int → Prop) : Prop := ∀ z, IntKind.i64.wrap z = z → z = IntKind.i64.wrap (acc + IntKind.i64.wrap (IntKind.i64.wrap (b : Int) * 2 ^ j)) → K z
def wordL (b0 b1 b2 b3 : Nat) (K : Int → Prop) : Prop := adB 0 b0 24 fun z => adB z b1 16 fun z => adB z b2 8 fun z => adB z b3 0 K

set_option maxRecDepth 100000 in
theorem run_number (bs : List Nat) (c : Nat) (G : V → Option (List Pc) → Prop) :
    exC2 (tb Try.f9.ntmps 2 [] [] [] 40) (Try.f9.body.getD .skip) ⟨entryV [cv 1, .s (.sl 0 0 28 c)] 0, [(0, [.bt bs])], 2⟩ (endK (tb Try.f9.ntmps 2 [] [] [] 40) Try.f9.results.toList fun v m _ => G v (lkp m 3)) =
    wordL (bs.getD 0 0) (bs.getD 1 0) (bs.getD 2 0) (bs.getD 3 0) fun w6 => wordL (bs.getD 4 0) (bs.getD 5 0) (bs.getD 6 0) (bs.getD 7 0) fun w5 => wordL (bs.getD 8 0) (bs.getD 9 0) (bs.getD 10 0) (bs.getD 11 0) fun w4 => wordL (bs.getD 12 0) (bs.getD 13 0) (bs.getD 14 0) (bs.getD 15 0) fun w3 =>
    wordL (bs.getD 16 0) (bs.getD 17 0) (bs.getD 18 0) (bs.getD 19 0) fun w2 => wordL (bs.getD 20 0) (bs.getD 21 0) (bs.getD 22 0) (bs.getD 23 0) fun w1 => wordL (bs.getD 24 0) (bs.getD 25 0) (bs.getD 26 0) (bs.getD 27 0) fun w0 =>
    G (.s (.sl 3 0 7 7)) (some (wcs [w0, w1, w2, w3, w4, w5, w6] [])) := by
  kernel_rfl

theorem i64w {x : Int} (h1 : -9223372036854775808 ≤ x) (h2 : x < 9223372036854775808) : IntKind.i64.wrap x = x := by
  rw [IntKind.wrap_i64]; omega

theorem adB_ok {acc : Int} {b j : Nat} {p : Int} {K : Int → Prop} (hp : (2 : Int) ^ j = p) (hp1 : 0 ≤ p) (hp2 : p ≤ 16777216) (hb : b < 256) (h1 : 0 ≤ acc) (h2 : acc < 4294967296) (h : K (acc + b * p)) : adB acc b j K := by
  intro z _ hz
  have h3 : 0 ≤ (b : Int) * p := Int.mul_nonneg (by omega) hp1
  have h4 : (b : Int) * p ≤ 255 * p := Int.mul_le_mul_of_nonneg_right (by omega) hp1
  rw [hp, i64w (x := (b : Int)) (by omega) (by omega), i64w (x := (b : Int) * p) (by omega) (by omega), i64w (by omega) (by omega)] at hz
  rw [hz]; exact h

theorem wordL_ok {b0 b1 b2 b3 : Nat} {K : Int → Prop} (h0 : b0 < 256) (h1 : b1 < 256) (h2 : b2 < 256) (h3 : b3 < 256) (h : ∀ w : Int, w = ((b0 * 16777216 + b1 * 65536 + b2 * 256 + b3 : Nat) : Int) → 0 ≤ w ∧ w < 4294967296 → K w) : wordL b0 b1 b2 b3 K := by
  refine adB_ok (p := 16777216) (by decide) (by omega) (by omega) h0 (by omega) (by omega) (adB_ok (p := 65536) (by decide) (by omega) (by omega) h1 (by omega) (by omega) (adB_ok (p := 256) (by decide) (by omega) (by omega) h2 (by omega) (by omega) (adB_ok (p := 1) (by decide) (by omega) (by omega) h3 (by omega) (by omega) (h _ ?_ ?_))))
  · omega
  · omega

theorem getD_lt' {bs : List Nat} (h : ∀ b ∈ bs, b < 256) (k : Nat) : bs.getD k 0 < 256 := by
  rw [List.getD_eq_getElem?_getD]
  cases hk : bs[k]? with
  | none => simp
  | some x => exact h x (List.mem_of_getElem? hk)

theorem nBE_eq {bs : List Nat} (h : bs.length = 28) : nBE bs = le [bs.getD 27 0, bs.getD 26 0, bs.getD 25 0, bs.getD 24 0, bs.getD 23 0, bs.getD 22 0, bs.getD 21 0, bs.getD 20 0, bs.getD 19 0, bs.getD 18 0, bs.getD 17 0, bs.getD 16 0, bs.getD 15 0, bs.getD 14 0, bs.getD 13 0, bs.getD 12 0, bs.getD 11 0, bs.getD 10 0, bs.getD 9 0, bs.getD 8 0, bs.getD 7 0, bs.getD 6 0, bs.getD 5 0, bs.getD 4 0, bs.getD 3 0, bs.getD 2 0, bs.getD 1 0, bs.getD 0 0] := by
  conv => lhs; rw [list28v h]
  rfl

theorem nBE_lt {bs : List Nat} (h : bs.length = 28) (hb : ∀ b ∈ bs, b < 256) : nBE bs < 26959946667150639794667015087019630673637144422540572481103610249216 := by
  have := le_lt bs.reverse (fun b hb' => hb b (by simpa using hb'))
  rw [List.length_reverse, h] at this
  have e : 256 ^ 28 = 26959946667150639794667015087019630673637144422540572481103610249216 := by decide
  rw [e] at this
  exact this

theorem vb_le (xs : List Nat) : ∀ n k, vb xs n k = le ((List.range' k n).map fun i => xs.getD i 0).reverse
  | 0, k => rfl
  | n + 1, k => by
    rw [List.range'_succ, List.map_cons, List.reverse_cons, le_append, ← vb_le xs n (k + 1)]
    simp only [vb, le, List.length_reverse, List.length_map, List.length_range', Nat.mul_zero, Nat.add_zero]
    rw [Nat.mul_comm (256 ^ n), Nat.add_comm]

theorem vb_nBE {bs : List Nat} (h : bs.length = 28) : vb bs 28 0 = nBE bs := by
  rw [vb_le, nBE]
  congr 2
  apply List.ext_getElem
  · simp [h]
  · intro i h1 h2
    simp [List.getElem?_eq_getElem h2]

theorem leW28 (b0 b1 b2 b3 b4 b5 b6 b7 b8 b9 b10 b11 b12 b13 b14 b15 b16 b17 b18 b19 b20 b21 b22 b23 b24 b25 b26 b27 : Nat) :
    ivl [((b24 * 16777216 + b25 * 65536 + b26 * 256 + b27 : Nat) : Int), ((b20 * 16777216 + b21 * 65536 + b22 * 256 + b23 : Nat) : Int), ((b16 * 16777216 + b17 * 65536 + b18 * 256 + b19 : Nat) : Int), ((b12 * 16777216 + b13 * 65536 + b14 * 256 + b15 : Nat) : Int), ((b8 * 16777216 + b9 * 65536 + b10 * 256 + b11 : Nat) : Int), ((b4 * 16777216 + b5 * 65536 + b6 * 256 + b7 : Nat) : Int), ((b0 * 16777216 + b1 * 65536 + b2 * 256 + b3 : Nat) : Int)] =
    ((le [b27, b26, b25, b24, b23, b22, b21, b20, b19, b18, b17, b16, b15, b14, b13, b12, b11, b10, b9, b8, b7, b6, b5, b4, b3, b2, b1, b0] : Nat) : Int) := by
  simp only [ivl, le]
  omega

def dNumber : DSpec := fun args m nt => match args with
  | [c, u] => match cvT c, rdB28 m u with
    | some _, some bs => some (.s (.sl nt 0 7 7), [[.w7 (nBE bs)]])
    | _, _ => none
  | _ => none

theorem mok_2 {wr : Nat → Bool} {w : World} {b1 b2 : Loc} {q : List Pc} (h1 : b1.blk < w.heap.size) (h2 : b2.blk < w.heap.size) (h0 : wr 0 = false) (h01 : wr 1 = false) (g1 : BlockOk (tgs [b1, b2]) w 0 q) : MOk wr (tgs [b1, b2]) w [(0, q)] := by
  refine mok_tgs (fun b' h => ?_) (fun i hi => ?_) fun t l h => ?_
  · simp only [List.mem_cons, List.not_mem_nil, or_false] at h
    rcases h with rfl | rfl
    · exact h1
    · exact h2
  · have : i = 0 ∨ i = 1 := by simp at hi; omega
    rcases this with rfl | rfl
    · exact h0
    · exact h01
  · rcases lkp_cons h with ⟨rfl, rfl⟩ | h
    · exact g1
    · exact (lkp_nil h).elim

theorem dNumber_ok : DSOk Try.prog 9 dNumber where
  enter := enter_in Try.func9 (by kernel_rfl) (by kernel_rfl)
  run := by
    intro wr T w m nt args xs v fr h hm hx hfr
    simp only [dNumber] at h
    split at h
    · rename_i c u
      split at h
      · rename_i tf bs hcv hbs
        simp only [Option.some.injEq, Prod.mk.injEq] at h
        obtain ⟨rfl, rfl⟩ := h
        obtain ⟨x1, x2, rfl, hv0, hv1⟩ := vsr2 hx
        rw [cvT_eq hcv] at hv0
        obtain ⟨bf, hbf, hRf⟩ := cv_R hv0
        obtain ⟨hlen, hb256, b, cc, t, o, _, _, rfl, hl, hR⟩ := rdB28_ok hm hv1 hbs
        obtain ⟨k1, k2⟩ := hR (tgs [⟨b.blk, b.off, 0⟩, ⟨bf.blk, bf.off, 0⟩]) 0 0 rfl
        have g := getD_lt' hb256
        refine new_calls (B := tb Try.f9.ntmps 2 [] [] [] 40) (c := Try.f9.body.getD .skip) tbN_ok Try.func9 (by kernel_rfl) (by kernel_rfl) (args := [cv 1, .s (.sl 0 0 28 cc)]) (Nat.le_of_ble_eq_true (by kernel_rfl)) (mok_2 (b1 := ⟨b.blk, b.off, 0⟩) (b2 := ⟨bf.blk, bf.off, 0⟩) hl (hm.lt tf bf hbf) rfl rfl k1) (vs2 (hRf _ 1 0 rfl) k2) (fun i hi => tgs_none (show 2 ≤ i from hi)) rfl hm hfr 7 7 _ 3 (by decide)
          (Eq.mpr (run_number bs cc _) ?_)
        refine wordL_ok (g 0) (g 1) (g 2) (g 3) fun w6 e6 l6 => wordL_ok (g 4) (g 5) (g 6) (g 7) fun w5 e5 l5 => wordL_ok (g 8) (g 9) (g 10) (g 11) fun w4 e4 l4 => wordL_ok (g 12) (g 13) (g 14) (g 15) fun w3 e3 l3 => wordL_ok (g 16) (g 17) (g 18) (g 19) fun w2 e2 l2 => wordL_ok (g 20) (g 21) (g 22) (g 23) fun w1 e1 l1 => wordL_ok (g 24) (g 25) (g 26) (g 27) fun w0 e0 l0 => ?_
        have hlow : lowL [w0, w1, w2, w3, w4, w5, w6] := by
          simp only [lowL_cons]
          exact ⟨l0, l1, l2, l3, l4, l5, l6, fun z hz => by cases hz⟩
        have hval : ivl [w0, w1, w2, w3, w4, w5, w6] = ((nBE bs : Nat) : Int) := by
          rw [nBE_eq hlen]
          rw [e0, e1, e2, e3, e4, e5, e6]
          exact leW28 ..
        have hwd := ivl_wd _ _ hlow hval
        exact ⟨rfl, _, rfl, fun T T' => pr_w7 (nBE_lt hlen hb256) (by rw [← hwd 0 w0 rfl]; rfl) (by rw [← hwd 1 w1 rfl]; rfl) (by rw [← hwd 2 w2 rfl]; rfl) (by rw [← hwd 3 w3 rfl]; rfl) (by rw [← hwd 4 w4 rfl]; rfl) (by rw [← hwd 5 w5 rfl]; rfl) (by rw [← hwd 6 w6 rfl]; rfl)⟩
      · cases h
    · cases h

end Go.Proofs.Ytdaheccfeihpgaa.Nm

