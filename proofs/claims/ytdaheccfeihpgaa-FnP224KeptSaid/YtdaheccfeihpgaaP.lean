import Derived.Test.YtdaheccfeihpgaaO
import Derived.Test.YtdaheccfeihpgaaA
/-
  Bytes of an element, read; points.
-/
/-
  Bytes of an element, read: the contracts.
-/
namespace Go.Proofs.Ytdaheccfeihpgaa.Nm
open Go Go.RowKit

/-! ### Errors -/
def dErr : DSpec := fun args _ nt => match args with
  | [.s (.val _)] => some (.s (.ifc 115 nt), [[]])
  | _ => none

theorem run_err (v : Value) (K : V → Mem → Nat → Prop) :
    exC2 (tb Try.f57.ntmps 0 [] [] [] 9) (Try.f57.body.getD .skip) ⟨entryV [.s (.val v)] 0, [], 0⟩ (endK (tb Try.f57.ntmps 0 [] [] [] 9) Try.f57.results.toList K) =
    K (.s (.ifc 115 0)) [(0, [.c (.val v)])] 1 := by
  kernel_rfl

theorem dErr_ok : DSOk Try.prog 57 dErr where
  enter := enter_in Try.func57 (by kernel_rfl) (by kernel_rfl)
  run := by
    intro wr T w m nt args xs v fr h hm hx hfr
    simp only [dErr] at h
    split at h
    · rename_i u
      simp only [Option.some.injEq, Prod.mk.injEq] at h
      obtain ⟨rfl, rfl⟩ := h
      obtain ⟨x, rfl, hv⟩ := vsr1 hx
      refine (run_calls (B := tb Try.f57.ntmps 0 [] [] [] 9) tbN_ok Try.func57 (c := Try.f57.body.getD .skip) (by kernel_rfl) (by kernel_rfl) (args := [.s (.val u)]) (Nat.le_of_ble_eq_true (by kernel_rfl)) mok_nil (vs1 (by rw [V.R]; exact vr_s hv)) (fun i _ => rfl) (fun v m' _ => v = .s (.ifc 115 0) ∧ lkp m' 0 = some [.c (.val u)]) (Eq.mpr (run_err u _) ⟨rfl, rfl⟩)).mono fun e w' hh => ?_
      obtain ⟨y, T', v, m', nt', rfl, hL⟩ := hh
      obtain ⟨rfl, hq⟩ := hL.post
      obtain ⟨b, hb, hy⟩ := vr_s hL.val
      obtain ⟨T'', g1, g2, g3, g4, g5⟩ := lift_new (q2 := []) hm hfr hL rfl rfl hb hq (fun xs _ => ⟨[], xs, rfl, .nil, fun p hp => by cases hp⟩)
      exact ⟨T'', y, g1, rfl, by rw [V.R]; exact ⟨b, g2, hy⟩, g3, g4, g5⟩
    · cases h

/-! ### The comparison of bytes -/
set_option maxRecDepth 100000 in
theorem run_le2 (xs ys : List Nat) (c d : Nat) (K : V → Mem → Nat → Prop) :
    exC2 (tb Try.f63.ntmps 2 [] [] [] 40) (Try.f63.body.getD .skip) ⟨entryV [.s (.sl 0 0 28 c), .s (.sl 1 0 28 d)] 0, [(0, [.bt xs]), (1, [.bt ys])], 2⟩ (endK (tb Try.f63.ntmps 2 [] [] [] 40) Try.f63.results.toList K) =
    leLaw xs ys (K (.s (.lit .i64 1)) [(0, [.bt xs]), (1, [.bt ys])] 2) (K (.s (.lit .i64 0)) [(0, [.bt xs]), (1, [.bt ys])] 2) 28 0 := by
  kernel_rfl

def dLe : DSpec := fun args m _ => match args with
  | [x, y] => match rdB28 m x, rdB28 m y with
    | some a, some b => some (.s (.sym .i64 (bif decide (vb a 28 0 ≤ vb b 28 0) then 1 else 0)), [])
    | _, _ => none
  | _ => none

theorem dLe_ok : DSOk Try.prog 63 dLe where
  enter := enter_in Try.func63 (by kernel_rfl) (by kernel_rfl)
  run := by
    intro wr T w m nt args xs v fr h hm hx hfr
    simp only [dLe] at h
    split at h
    · rename_i u v
      split at h
      · rename_i a b e1 e2
        simp only [Option.some.injEq, Prod.mk.injEq] at h
        obtain ⟨rfl, rfl⟩ := h
        obtain ⟨x1, x2, rfl, hv1, hv2⟩ := vsr2 hx
        obtain ⟨_, ha, b1, c1, _, _, _, _, rfl, hl1, hR1⟩ := rdB28_ok hm hv1 e1
        obtain ⟨_, hb, b2, c2, _, _, _, _, rfl, hl2, hR2⟩ := rdB28_ok hm hv2 e2
        obtain ⟨k1, k2⟩ := hR1 (tgs [⟨b1.blk, b1.off, 0⟩, ⟨b2.blk, b2.off, 0⟩]) 0 0 rfl
        obtain ⟨k3, k4⟩ := hR2 (tgs [⟨b1.blk, b1.off, 0⟩, ⟨b2.blk, b2.off, 0⟩]) 1 0 rfl
        refine val_calls (B := tb Try.f63.ntmps 2 [] [] [] 40) (c := Try.f63.body.getD .skip) tbN_ok Try.func63 (by kernel_rfl) (by kernel_rfl) (args := [.s (.sl 0 0 28 c1), .s (.sl 1 0 28 c2)]) (Nat.le_of_ble_eq_true (by kernel_rfl)) (m0 := [(0, [.bt a]), (1, [.bt b])]) ?_ (vs2 k2 k4) (fun i hi => tgs_none (show 2 ≤ i from hi)) rfl hm _
          (Eq.mpr (run_le2 a b c1 c2 _) (le_law ha hb 28 0 (fun h => ⟨_, rfl, fun T' z hz => ?_⟩) (fun h => ⟨_, rfl, fun T' z hz => ?_⟩)))
        · refine mok_tgs (fun b' h => ?_) (fun i hi => ?_) fun t l h => ?_
          · simp only [List.mem_cons, List.not_mem_nil, or_false] at h
            rcases h with rfl | rfl
            · exact hl1
            · exact hl2
          · have : i = 0 ∨ i = 1 := by simp at hi; omega
            rcases this with rfl | rfl <;> rfl
          · rcases lkp_cons h with ⟨rfl, rfl⟩ | h
            · exact k1
            rcases lkp_cons h with ⟨rfl, rfl⟩ | h
            · exact k3
            · exact (lkp_nil h).elim
        · rw [decide_eq_true h]; exact hz
        · rw [decide_eq_false h]; exact hz
      · cases h
    · cases h

/-! ### An element of bytes -/
def dsE : List (Nat × DSpec) := [(57, dErr), (63, dLe), (30, dBytes)]
theorem dsE_ok : ∀ f sp, lkp dsE f = some sp → DSOk Try.prog f sp := by
  intro f sp h
  rcases lkp_cons h with ⟨rfl, rfl⟩ | h
  · exact dErr_ok
  rcases lkp_cons h with ⟨rfl, rfl⟩ | h
  · exact dLe_ok
  rcases lkp_cons h with ⟨rfl, rfl⟩ | h
  · exact dBytes_ok
  · exact (lkp_nil h).elim
def ksE : List (Nat × KSpec) := (64, kInv) :: (ks2 ++ ks1)
theorem ksE_ok : ∀ f sp, lkp ksE f = some sp → KSOk Try.prog f sp := by
  intro f sp h
  rcases lkp_cons h with ⟨rfl, rfl⟩ | h
  · exact kInv_ok
  rcases lkp_append h with h | h
  · exact ks2_ok f sp h
  · exact ks1_ok f sp h

def sbL (bs : List Nat) (K1 : Prop) (K2 : F → Prop) : Prop := (decide ((bif decide (vb bs 28 0 ≤ vb (bytesBE (0 - 1 : F).val) 28 0) then (1 : Int) else 0) = 0) = true → K1) ∧ (decide ((bif decide (vb bs 28 0 ≤ vb (bytesBE (0 - 1 : F).val) 28 0) then (1 : Int) else 0) = 0) = false → le bs.reverse < 115792089237316195423570985008687907853269984665640564039457584007913129639936 ∧ ∃ ha : le bs.reverse < pp, K2 ⟨le bs.reverse, ha⟩)

set_option maxRecDepth 100000 in
theorem run_setB (e0 : F) (bs : List Nat) (c : Nat) (G : V → Option (List Pc) → Prop) : exC2 (tb Try.f46.ntmps 2 [0] dsE ksE 9) (Try.f46.body.getD .skip) ⟨entryV [.s (.p 0 0), .s (.sl 1 0 28 c)] 0, [(0, [.fi e0]), (1, [.bt bs])], 2⟩ (endK (tb Try.f46.ntmps 2 [0] dsE ksE 9) Try.f46.results.toList fun v m _ => G v (lkp m 0)) =
    sbL bs (G (.tup [.s .np, .s (.ifc 115 6)]) (some [.fi e0])) (fun v => G (.tup [.s (.p 0 0), .s .nif]) (some [.fi v])) := by
  kernel_rfl

theorem bytesBE_length (x : Nat) : (bytesBE x).length = 28 := by simp [bytesBE, bytesOf_length]
theorem bytesBE_lt (x : Nat) : ∀ b ∈ bytesBE x, b < 256 := by
  intro b hb
  exact bytesOf_lt x b (by simpa [bytesBE] using hb)

theorem nBE_bytesBE {x : Nat} (h : x < 26959946667150639794667015087019630673637144422540572481103610249216) : nBE (bytesBE x) = x := by
  unfold nBE bytesBE bytesOf
  rw [List.reverse_reverse, List.range_eq_range', le_of_digs, Nat.pow_zero, Nat.div_one]
  have e : 256 ^ 28 = 26959946667150639794667015087019630673637144422540572481103610249216 := by decide
  rw [e, Nat.mod_eq_of_lt h]

theorem pp_val : pp = 26959946667150639794667015087019630673557916260026308143510066298881 := rfl
theorem m1_val : (0 - 1 : F).val = 26959946667150639794667015087019630673557916260026308143510066298880 := by decide +kernel

theorem sbL_ok {bs : List Nat} {K1 : Prop} {K2 : F → Prop} (hlen : bs.length = 28) (hb : ∀ b ∈ bs, b < 256) (h1 : ¬ nBE bs < pp → K1) (h2 : ∀ h : nBE bs < pp, K2 ⟨nBE bs, h⟩) : sbL bs K1 K2 := by
  have e1 := vb_nBE hlen
  have e2 : vb (bytesBE (0 - 1 : F).val) 28 0 = 26959946667150639794667015087019630673557916260026308143510066298880 := by
    rw [vb_nBE (bytesBE_length _), nBE_bytesBE (by rw [m1_val]; omega), m1_val]
  have hlt := nBE_lt hlen hb
  have hpp := pp_val
  unfold sbL
  rw [e1, e2]
  by_cases hle : nBE bs < pp
  · refine ⟨fun h => ?_, fun _ => ⟨by show nBE bs < _; omega, hle, h2 hle⟩⟩
    rw [decide_eq_true (p := nBE bs ≤ _) (by omega)] at h
    exact absurd (of_decide_eq_true h) (by decide)
  · refine ⟨fun _ => h1 hle, fun h => ?_⟩
    rw [decide_eq_false (p := nBE bs ≤ _) (by omega)] at h
    exact absurd rfl (of_decide_eq_false h)

def slT : V → Nat
  | .s s => match slp s with
    | some (t, _, _) => t
    | none => 0
  | _ => 0

/-- Bytes of a number below the prime are taken; others are not. -/
def kSetB : KSpec where
  run := fun args m nt K => match args with
    | [.s (.p te 0), u] => match lkp m te with
      | some [.fi _] => obind (rdB28 m u) fun bs => onb (!Nat.beq te (slT u)) ((∀ h : nBE bs < pp, K (.tup [.s (.p te 0), .s .nif]) (upd m te [.fi ⟨nBE bs, h⟩]) nt) ∧ (¬ nBE bs < pp → K (.tup [.s .np, .s (.ifc 115 nt)]) m (nt + 1)))
      | _ => False
    | _ => False
  outs := outs0

theorem upd_same : ∀ {m : Mem} {t : Nat} {l : List Pc}, lkp m t = some l → upd m t l = m
  | [], _, _, h => by cases h
  | (i, s) :: r, t, l, h => by
    simp only [lkp] at h
    simp only [upd]
    cases hb : Nat.beq i t with
    | true =>
      rw [hb] at h
      simp only [cond_true, Option.some.injEq] at h
      rw [h]; rfl
    | false =>
      rw [hb] at h
      simp only [cond_false] at h ⊢
      rw [upd_same h]

theorem MOk.addTag {wr : Nat → Bool} {T : Tg} {w : World} {m : Mem} {t : Nat} {b : Loc} (h : MOk wr T w m) (ht : T t = none) (hlt : b.blk < w.heap.size) (hne : ∀ t' b', T t' = some b' → b'.blk ≠ b.blk) : MOk wr (T.add t b) w m := by
  refine ⟨?_, ?_, fun i l hi => (h.at_ i l hi).keep (Tg.le_add ht b) fun _ _ => rfl⟩
  · intro i j c1 c2 hw1 hi hj e
    rcases Tg.add_cases hi with ⟨e1, e2⟩ | ⟨h1, hi1⟩ <;> rcases Tg.add_cases hj with ⟨e3, e4⟩ | ⟨h2, hj1⟩
    · rw [e1, e3]
    · rw [e2] at e; exact absurd e.symm (hne _ _ hj1)
    · rw [e4] at e; exact absurd e (hne _ _ hi1)
    · exact h.sep _ _ _ _ hw1 hi1 hj1 e
  · intro i b' hi
    rcases Tg.add_cases hi with ⟨rfl, rfl⟩ | ⟨h1, hi⟩
    · exact hlt
    · exact h.lt _ _ hi

theorem kSetB_ok : KSOk Try.prog 46 kSetB where
  enter := enter_in Try.func46 (by kernel_rfl) (by kernel_rfl)
  run := by
    intro wr T w m nt args xs K h hm hx hfree hwr
    simp only [kSetB] at h
    split at h
    · rename_i te u
      split at h
      · rename_i e0 hl
        obtain ⟨bs, hbs, h1⟩ := obind_some h
        clear h
        obtain ⟨hne, h⟩ := onb_true h1
        clear h1
        obtain ⟨x1, x2, rfl, hv1, hv2⟩ := vsr2 hx
        obtain ⟨b, hb, rfl⟩ := vr_s hv1
        obtain ⟨hlen, hb256, b2, c2, t2, o2, hslp, ⟨b2', hb2', hbb⟩, rfl, hl2, hR2⟩ := rdB28_ok hm hv2 hbs
        have hne2 : te ≠ t2 := by
          intro e
          subst e
          cases u with
          | s s => simp only [slT] at hne; simp only at hslp; rw [hslp] at hne; simp [Nat.beq_refl] at hne
          | agg l => simp only at hslp; cases hslp
          | tup l => simp only at hslp; cases hslp
        have hwt : wr te = true := hwr te (by simp [kSetB, outs0, tagsOf])
        obtain ⟨k1, k2⟩ := hR2 (tgs [b, ⟨b2.blk, b2.off, 0⟩]) 1 0 rfl
        have hrd : rdN [Pc.fi e0] 0 4 = some [.fi e0] := by kernel_rfl
        have hb0 : BlockOk (tgs [b, ⟨b2.blk, b2.off, 0⟩]) w 0 [.fi e0] := by
          refine sub_ok hm hb hl hrd (fi_noTag e0) (f := b.fin) ?_
          rfl
        have hm0 : MOk (wrB (tb Try.f46.ntmps 2 [0] dsE ksE 9)) (tgs [b, ⟨b2.blk, b2.off, 0⟩]) w [(0, [.fi e0]), (1, [.bt bs])] := by
          refine mok_tgsW (locs := [⟨b2.blk, b2.off, 0⟩]) (fun b' hb' => ?_) (fun i hi => by cases i with
            | zero => rfl
            | succ i => simp at hi) (fun b' hb' => ?_) fun t0 l0 hl0 => ?_
          · simp only [List.mem_cons, List.not_mem_nil, or_false] at hb'
            rcases hb' with rfl | rfl
            · exact hm.lt _ _ hb
            · exact hl2
          · simp only [List.mem_cons, List.not_mem_nil, or_false] at hb'
            subst hb'
            show b2.blk ≠ b.blk
            rw [hbb]
            exact sep_blk hm hwt hb hb2' hne2
          · rcases lkp_cons hl0 with ⟨rfl, rfl⟩ | hl0
            · exact hb0
            rcases lkp_cons hl0 with ⟨rfl, rfl⟩ | hl0
            · exact k1
            · exact (lkp_nil hl0).elim
        refine (run_calls (B := tb Try.f46.ntmps 2 [0] dsE ksE 9) (tb_ok dsE_ok ksE_ok) Try.func46 (c := Try.f46.body.getD .skip) (by kernel_rfl) (by kernel_rfl) (args := [.s (.p 0 0), .s (.sl 1 0 28 c2)]) (Nat.le_of_ble_eq_true (by kernel_rfl)) hm0
          (vs2 (by rw [V.R]; exact ⟨b, rfl, rfl⟩) k2) (fun i hi => tgs_none (show 2 ≤ i from hi)) (fun v m' _ => (¬ nBE bs < pp ∧ v = .tup [.s .np, .s (.ifc 115 6)] ∧ lkp m' 0 = some [.fi e0]) ∨ (∃ hh : nBE bs < pp, v = .tup [.s (.p 0 0), .s .nif] ∧ lkp m' 0 = some [.fi ⟨nBE bs, hh⟩]))
          (Eq.mpr (run_setB e0 bs c2 (fun v q => (¬ nBE bs < pp ∧ v = .tup [.s .np, .s (.ifc 115 6)] ∧ q = some [.fi e0]) ∨ (∃ hh : nBE bs < pp, v = .tup [.s (.p 0 0), .s .nif] ∧ q = some [.fi ⟨nBE bs, hh⟩])))
            (sbL_ok hlen hb256 (fun hh => .inl ⟨hh, rfl, rfl⟩) (fun hh => .inr ⟨hh, rfl, rfl⟩)))).mono fun e w' hh => ?_
        obtain ⟨y, T', v, m', nt', rfl, hL⟩ := hh
        have hT'0 : T' 0 = some b := hL.le 0 b rfl
        rcases hL.post with ⟨hge, rfl, hq⟩ | ⟨hlt, rfl, hq⟩
        · obtain ⟨g1, g2⟩ := lift_wr (l' := [.fi e0]) hm hwt hb hL rfl hq (fun xs hxs => ⟨hxs.1.any (fi_noTag e0), hxs.2⟩)
          rw [upd_same hl] at g1
          have hval := hL.val
          rw [V.R] at hval
          obtain ⟨ys, rfl, hys⟩ := hval
          obtain ⟨y1, y2, rfl, hy1, hy2⟩ := vsr2 hys
          obtain ⟨b6, hb6, rfl⟩ := vr_s hy2
          have hy1 : y1 = .pointer none := vr_s hy1
          subst hy1
          have hge6 := hL.newer 6 b6 (tgs_none (show 2 ≤ 6 by omega)) hb6
          have h0 := hfree nt (Nat.le_refl _)
          refine ⟨T.add nt b6, _, _, _, nt + 1, Tg.le_add h0 _, by omega, fun t ht hlt => ?_, fun t ht => ?_, rfl, ?_, g1.addTag h0 (hL.mok.lt 6 b6 hb6) (fun t' b' hb' => ?_), ⟨g2.os, g2.tape, g2.output, g2.size, fun k hk hn => g2.block k hk hn⟩, fun t b' h1 h2 => ?_, h.2 hge⟩
          · unfold Tg.add
            cases he : Nat.beq nt t with
            | true => have := Nat.eq_of_beq_eq_true he; omega
            | false => exact ht
          · unfold Tg.add
            cases he : Nat.beq nt t with
            | true => have := Nat.eq_of_beq_eq_true he; omega
            | false => exact hfree t (by omega)
          · rw [V.R]
            exact ⟨_, rfl, vs2 (by rw [V.R]; rfl) (by rw [V.R]; exact ⟨b6, Tg.add_same _ _ _, rfl⟩)⟩
          · have := hm.lt t' b' hb'
            omega
          · rcases Tg.add_cases h2 with ⟨_, rfl⟩ | ⟨_, h2⟩
            · exact hge6
            · rw [h1] at h2; cases h2
        · obtain ⟨g1, g2⟩ := lift_wr (l' := [.fi ⟨nBE bs, hlt⟩]) hm hwt hb hL rfl hq (fun xs hxs => ⟨hxs.1.any (fi_noTag _), hxs.2⟩)
          have hval := hL.val
          rw [V.R] at hval
          obtain ⟨ys, rfl, hys⟩ := hval
          obtain ⟨y1, y2, rfl, hy1, hy2⟩ := vsr2 hys
          obtain ⟨b0, hb0', rfl⟩ := vr_s hy1
          rw [hT'0] at hb0'
          cases hb0'
          refine ⟨T, _, _, _, nt, Tg.le_refl T, Nat.le_refl _, fun _ h _ => h, hfree, rfl, ?_, g1, ⟨g2.os, g2.tape, g2.output, g2.size, fun k hk hn => g2.block k hk hn⟩, fun t b h1 h2 => (by rw [h1] at h2; cases h2), h.1 hlt⟩
          rw [V.R]
          exact ⟨_, rfl, vs2 (by rw [V.R]; exact ⟨b, hb, rfl⟩) (by rw [V.R]; exact vr_s hy2)⟩
      · exact h.elim
    · exact h.elim

end Go.Proofs.Ytdaheccfeihpgaa.Nm

/-
  The curve's constant in the program; points.
-/
namespace Go.Proofs.Ytdaheccfeihpgaa.Nm
open Go Go.RowKit

def ksSB : List (Nat × KSpec) := [(46, kSetB)]
theorem ksSB_ok : ∀ f sp, lkp ksSB f = some sp → KSOk Try.prog f sp := by
  intro f sp h
  rcases lkp_cons h with ⟨rfl, rfl⟩ | h
  · exact kSetB_ok
  · exact (lkp_nil h).elim

def bL : List Nat := [180, 5, 10, 133, 12, 4, 179, 171, 245, 65, 50, 86, 80, 68, 176, 183, 215, 191, 216, 186, 39, 11, 57, 67, 35, 85, 255, 180]

set_option maxRecDepth 100000 in
theorem run_pB (G : V → Option (List Pc) → Prop) : exC2 (tb Try.f49.ntmps 0 [] [] ksSB 9) (Try.f49.body.getD .skip) ⟨[], [], 0⟩ (endK (tb Try.f49.ntmps 0 [] [] ksSB 9) Try.f49.results.toList fun v m _ => G v (lkp m 0)) =
    ((∀ h : nBE bL < pp, G (.s (.p 0 0)) (some [.fi ⟨nBE bL, h⟩])) ∧ (¬ nBE bL < pp → G (.s .np) (some [.fi 0]))) := by
  kernel_rfl

theorem bL_lt : nBE bL < pp := by decide +kernel
theorem bL_cb (h : nBE bL < pp) : (⟨nBE bL, h⟩ : F) = cb := by
  apply Fin.ext
  show nBE bL = cb.val
  decide +kernel

def dPB : DSpec := fun args _ nt => match args with
  | [] => some (.s (.p nt 0), [[.fi cb]])
  | _ => none

theorem dPB_ok : DSOk Try.prog 49 dPB where
  enter := enter_in Try.func49 (by kernel_rfl) (by kernel_rfl)
  run := by
    intro wr T w m nt args xs v fr h hm hx hfr
    simp only [dPB] at h
    split at h
    · simp only [Option.some.injEq, Prod.mk.injEq] at h
      obtain ⟨rfl, rfl⟩ := h
      have hx' : xs = [] := by rw [VsR] at hx; exact hx
      subst hx'
      refine (run_calls (B := tb Try.f49.ntmps 0 [] [] ksSB 9) (tb_ok ds_nil ksSB_ok) Try.func49 (c := Try.f49.body.getD .skip) (by kernel_rfl) (by kernel_rfl) (args := []) (Nat.le_of_ble_eq_true (by kernel_rfl)) mok_nil hx (fun i _ => rfl) (fun v m' _ => v = .s (.p 0 0) ∧ lkp m' 0 = some [.fi cb])
        (Eq.mpr (run_pB (fun v q => v = .s (.p 0 0) ∧ q = some [.fi cb])) ⟨fun h => ⟨rfl, by rw [bL_cb]⟩, fun h => absurd bL_lt h⟩)).mono fun e w' hh => ?_
      obtain ⟨y, T', v, m', nt', rfl, hL⟩ := hh
      obtain ⟨rfl, hq⟩ := hL.post
      obtain ⟨b, hb, hy⟩ := vr_s hL.val
      obtain ⟨T'', g1, g2, g3, g4, g5⟩ := lift_new hm hfr hL rfl rfl hb hq (pr_any (fi_noTag _))
      exact ⟨T'', y, g1, rfl, by rw [V.R]; exact ⟨b, g2, hy⟩, g3, g4, g5⟩
    · cases h

/-! ### Points -/
def dsQ : List (Nat × DSpec) := [(49, dPB), (42, dClone), (30, dBytes), (57, dErr)]
theorem dsQ_ok : ∀ f sp, lkp dsQ f = some sp → DSOk Try.prog f sp := by
  intro f sp h
  rcases lkp_cons h with ⟨rfl, rfl⟩ | h
  · exact dPB_ok
  rcases lkp_cons h with ⟨rfl, rfl⟩ | h
  · exact dClone_ok
  rcases lkp_cons h with ⟨rfl, rfl⟩ | h
  · exact dBytes_ok
  rcases lkp_cons h with ⟨rfl, rfl⟩ | h
  · exact dErr_ok
  · exact (lkp_nil h).elim
def ksQ : List (Nat × KSpec) := (46, kSetB) :: ks2
theorem ksQ_ok : ∀ f sp, lkp ksQ f = some sp → KSOk Try.prog f sp := by
  intro f sp h
  rcases lkp_cons h with ⟨rfl, rfl⟩ | h
  · exact kSetB_ok
  · exact ks2_ok f sp h

/-- With elements known. -/
def tbQ : Tb := tb 0 0 [] dsQ ksQ 9
theorem tbQ_ok : TbOk Try.prog tbQ := tb_ok dsQ_ok ksQ_ok

end Go.Proofs.Ytdaheccfeihpgaa.Nm

