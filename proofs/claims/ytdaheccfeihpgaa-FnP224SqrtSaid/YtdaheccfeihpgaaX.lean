import Derived.Test.YtdaheccfeihpgaaW
/-
  The square root: the contract.
-/
/-
  The candidate for a square root: the contract.
-/
namespace Go.Proofs.Ytdaheccfeihpgaa.Nm
open Go Go.RowKit

/-! ### The table -/
theorem sqA_ok {K : List Pc → Prop} : ∀ (n k : Nat) (l : List Pc), (K (l.reverse ++ (List.range' (k + 1) n).map fun i => .fi (gg i))) → sqA n (gg k) l K
  | 0, k, l, h => by simpa [sqA] using h
  | n + 1, k, l, h => by
    intro y hy
    have e : y = gg (k + 1) := by
      rw [hy]
      unfold gg
      rw [← fpow_sq, Nat.pow_succ, Nat.mul_comm]
    subst e
    refine sqA_ok n (k + 1) _ ?_
    simpa [List.range'_succ] using h

theorem gg_zero : gg 0 = gg0 := fpow_one gg0
theorem gL_lt : nBE gL < pp := by decide +kernel
theorem gL_gg (h : nBE gL < pp) : (⟨nBE gL, h⟩ : F) = gg 0 := by
  rw [gg_zero]
  apply Fin.ext
  show nBE gL = gg0.val
  decide +kernel

theorem sqA_gg {K : List Pc → Prop} (h : K (gQ gg)) : ∃ h : nBE gL < pp, sqA 95 ⟨nBE gL, h⟩ [.fi ⟨nBE gL, h⟩] K := by
  refine ⟨gL_lt, ?_⟩
  rw [gL_gg]
  refine sqA_ok 95 0 _ ?_
  have e : ([Pc.fi (gg 0)].reverse ++ (List.range' (0 + 1) 95).map fun i => Pc.fi (gg i)) = gQ gg := by
    unfold gQ
    rw [List.range_eq_range', show 96 = 95 + 1 from rfl, List.range'_succ]
    rfl
  rw [e]
  exact h

/-! ### The states between the parts -/
theorem gQ_ren (f : Nat → Nat) (g : Nat → F) : (gQ g).map (Pc.ren f) = gQ g := by
  unfold gQ
  rw [List.map_map]
  rfl

theorem lkp3 {α : Type} {i : Nat} {v : α} {a b c : Nat × α} (h : lkp [a, b, c] i = some v) : (a.1 = i ∧ v = a.2) ∨ (b.1 = i ∧ v = b.2) ∨ (c.1 = i ∧ v = c.2) := by
  rcases lkp_cons h with ⟨h1, h2⟩ | h
  · exact .inl ⟨h1, h2.symm⟩
  rcases lkp_cons h with ⟨h1, h2⟩ | h
  · exact .inr (.inl ⟨h1, h2.symm⟩)
  rcases lkp_cons h with ⟨h1, h2⟩ | h
  · exact .inr (.inr ⟨h1, h2.symm⟩)
  · exact (lkp_nil h).elim

theorem canonA {T0 T : Tg} {w0 w : World} {a : Act} {s : SS} {r0 x : F} (hf : FrV T tbSq.n a s.env) (hw : WV tbSq T0 w0 T w s) (hT0 : ∀ t, 2 ≤ t → T0 t = none) (h : grabA s = gA r0 x (gQ gg)) :
    ∃ T2, FrV T2 tbSq.n a envQ ∧ WV tbSq T0 w0 T2 w ⟨envQ, memQ r0 x (gQ gg), 3⟩ := by
  unfold grabA gA at h
  simp only [Prod.mk.injEq] at h
  obtain ⟨h0, h1, h4, m0, m1, m2⟩ := h
  suffices hc : ∃ T2, FrV T2 tbSq.n a envQ ∧ WV tbSq T0 w0 T2 w ⟨envQ, memQ r0 x (gQ gg), 3⟩ ∧ ∀ t, ∃ t', T2 t = T t' by
    obtain ⟨T2, g1, g2, _⟩ := hc
    exact ⟨T2, g1, g2⟩
  refine hw.canon (s2 := ⟨envQ, memQ r0 x (gQ gg), 3⟩) hf hT0 [2] rfl (fun u hu => ?_) (by simp) (fun j v hj => ?_) (fun j l hj => ?_)
  · simp only [List.mem_cons, List.not_mem_nil, or_false] at hu
    subst hu
    exact Nat.le_refl 2
  · rcases lkp3 hj with ⟨rfl, rfl⟩ | ⟨rfl, rfl⟩ | ⟨rfl, rfl⟩
    · exact ⟨_, rfl, h4⟩
    · exact ⟨_, rfl, h0⟩
    · exact ⟨_, rfl, h1⟩
  · rcases lkp3 hj with ⟨rfl, rfl⟩ | ⟨rfl, rfl⟩ | ⟨rfl, rfl⟩
    · refine ⟨[], ?_⟩
      rw [gQ_ren, List.append_nil]
      exact m2
    · exact ⟨[], m0⟩
    · exact ⟨[], m1⟩

theorem lkp6 {α : Type} {i : Nat} {v : α} {a b c d e f : Nat × α} (h : lkp [a, b, c, d, e, f] i = some v) : (a.1 = i ∧ v = a.2) ∨ (b.1 = i ∧ v = b.2) ∨ (c.1 = i ∧ v = c.2) ∨ (d.1 = i ∧ v = d.2) ∨ (e.1 = i ∧ v = e.2) ∨ (f.1 = i ∧ v = f.2) := by
  rcases lkp_cons h with ⟨h1, h2⟩ | h
  · exact .inl ⟨h1, h2.symm⟩
  rcases lkp_cons h with ⟨h1, h2⟩ | h
  · exact .inr (.inl ⟨h1, h2.symm⟩)
  rcases lkp_cons h with ⟨h1, h2⟩ | h
  · exact .inr (.inr (.inl ⟨h1, h2.symm⟩))
  rcases lkp3 h with h | h | h
  · exact .inr (.inr (.inr (.inl h)))
  · exact .inr (.inr (.inr (.inr (.inl h))))
  · exact .inr (.inr (.inr (.inr (.inr h))))
theorem lkpM5' {i : Nat} {v : List Pc} {a b c d e : Nat × List Pc} (h : lkp [a, b, c, d, e] i = some v) : (a.1 = i ∧ v = a.2) ∨ (b.1 = i ∧ v = b.2) ∨ (c.1 = i ∧ v = c.2) ∨ (d.1 = i ∧ v = d.2) ∨ (e.1 = i ∧ v = e.2) := by
  rcases lkp_cons h with ⟨h1, h2⟩ | h
  · exact .inl ⟨h1, h2.symm⟩
  rcases lkp_cons h with ⟨h1, h2⟩ | h
  · exact .inr (.inl ⟨h1, h2.symm⟩)
  rcases lkp3 h with h | h | h
  · exact .inr (.inr (.inl h))
  · exact .inr (.inr (.inr (.inl h)))
  · exact .inr (.inr (.inr (.inr h)))

theorem canonB {T0 T : Tg} {w0 w : World} {a : Act} {s : SS} {r t v m1 : F} (hf : FrV T tbSq.n a s.env) (hw : WV tbSq T0 w0 T w s) (hT0 : ∀ t, 2 ≤ t → T0 t = none) (h : grabB s = gB (gQ gg) r t v m1) :
    ∃ T2, FrV T2 tbSq.n a (envS 95) ∧ WV tbSq T0 w0 T2 w ⟨envS 95, memS gg r t v m1, 6⟩ := by
  unfold grabB gB at h
  simp only [Prod.mk.injEq] at h
  obtain ⟨h0, h4, h6, h15, h16, h17, m0, m2, m3, m5, m6⟩ := h
  suffices hc : ∃ T2, FrV T2 tbSq.n a (envS 95) ∧ WV tbSq T0 w0 T2 w ⟨envS 95, memS gg r t v m1, 6⟩ ∧ ∀ t, ∃ t', T2 t = T t' by
    obtain ⟨T2, g1, g2, _⟩ := hc
    exact ⟨T2, g1, g2⟩
  refine hw.canon (s2 := ⟨envS 95, memS gg r t v m1, 6⟩) hf hT0 [2, 3, 5, 6] rfl (fun u hu => ?_) (by simp) (fun j v hj => ?_) (fun j l hj => ?_)
  · simp only [List.mem_cons, List.not_mem_nil, or_false] at hu
    show 2 ≤ u
    omega
  · rcases lkp6 hj with ⟨rfl, rfl⟩ | ⟨rfl, rfl⟩ | ⟨rfl, rfl⟩ | ⟨rfl, rfl⟩ | ⟨rfl, rfl⟩ | ⟨rfl, rfl⟩
    · exact ⟨_, rfl, h17⟩
    · exact ⟨_, rfl, h4⟩
    · exact ⟨_, rfl, h6⟩
    · exact ⟨_, rfl, h15⟩
    · exact ⟨_, rfl, h16⟩
    · exact ⟨_, rfl, h0⟩
  · rcases lkpM5' hj with ⟨rfl, rfl⟩ | ⟨rfl, rfl⟩ | ⟨rfl, rfl⟩ | ⟨rfl, rfl⟩ | ⟨rfl, rfl⟩
    · refine ⟨[], ?_⟩
      rw [gQ_ren, List.append_nil]
      exact m2
    · exact ⟨[], m3⟩
    · exact ⟨[], m5⟩
    · exact ⟨[], m6⟩
    · exact ⟨[], m0⟩

theorem canonS {T0 T : Tg} {w0 w : World} {a : Act} {s : SS} {i : Int} {r t v m1 : F} (hf : FrV T tbSq.n a s.env) (hw : WV tbSq T0 w0 T w s) (hT0 : ∀ t, 2 ≤ t → T0 t = none) (h : grabS s = gS i gg r t v m1) :
    ∃ T2, FrV T2 tbSq.n a (envS i) ∧ WV tbSq T0 w0 T2 w ⟨envS i, memS gg r t v m1, 6⟩ := by
  unfold grabS gS at h
  simp only [Prod.mk.injEq] at h
  obtain ⟨h17, h4, h6, h15, h16, h0, m2, m3, m4, m5, m0⟩ := h
  suffices hc : ∃ T2, FrV T2 tbSq.n a (envS i) ∧ WV tbSq T0 w0 T2 w ⟨envS i, memS gg r t v m1, 6⟩ ∧ ∀ t, ∃ t', T2 t = T t' by
    obtain ⟨T2, g1, g2, _⟩ := hc
    exact ⟨T2, g1, g2⟩
  refine hw.canon (s2 := ⟨envS i, memS gg r t v m1, 6⟩) hf hT0 [2, 3, 4, 5] rfl (fun u hu => ?_) (by simp) (fun j v hj => ?_) (fun j l hj => ?_)
  · simp only [List.mem_cons, List.not_mem_nil, or_false] at hu
    show 2 ≤ u
    omega
  · rcases lkp6 hj with ⟨rfl, rfl⟩ | ⟨rfl, rfl⟩ | ⟨rfl, rfl⟩ | ⟨rfl, rfl⟩ | ⟨rfl, rfl⟩ | ⟨rfl, rfl⟩
    · exact ⟨_, rfl, h17⟩
    · exact ⟨_, rfl, h4⟩
    · exact ⟨_, rfl, h6⟩
    · exact ⟨_, rfl, h15⟩
    · exact ⟨_, rfl, h16⟩
    · exact ⟨_, rfl, h0⟩
  · rcases lkpM5' hj with ⟨rfl, rfl⟩ | ⟨rfl, rfl⟩ | ⟨rfl, rfl⟩ | ⟨rfl, rfl⟩ | ⟨rfl, rfl⟩
    · refine ⟨[], ?_⟩
      rw [gQ_ren, List.append_nil]
      exact m2
    · exact ⟨[], m3⟩
    · exact ⟨[], m4⟩
    · exact ⟨[], m5⟩
    · exact ⟨[], m0⟩

/-! ### The rounds -/
theorem sqQ_ok {K : F → Prop} : ∀ n v, K (fpow v (2 ^ n)) → sqQ n v K
  | 0, v, h => by rw [Nat.pow_zero, fpow_one] at h; exact h
  | n + 1, v, h => fun z hz => by
    refine sqQ_ok n z ?_
    rw [hz]
    rw [Nat.pow_succ, Nat.mul_comm, fpow_mul, fpow_two] at h
    exact h

theorem tsLoop_succ (n : Nat) (vr : F × F) : tsLoop (n + 1) vr = tsLoop n (tsStep n vr) := rfl

def invS (T0 : Tg) (w0 : World) (c : F) : Nat → Act → World → Prop := fun m a w => ∃ n r t v T, m = n + 1 ∧ n ≤ 95 ∧ FrV T tbSq.n a (envS (n : Int)) ∧ WV tbSq T0 w0 T w ⟨envS (n : Int), memS gg r t v (0 - 1), 6⟩ ∧ psnd (tsLoop n (v, r)) = c

theorem loopS {Q : Exit → Act → World → Prop} {T0 : Tg} {w0 : World} {c : F} (hT0 : ∀ t, 2 ≤ t → T0 t = none) (hP : PanicOk Q)
    (hQ : ∀ a w T t v, FrV T tbSq.n a (envS 0) → WV tbSq T0 w0 T w ⟨envS 0, memS gg c t v (0 - 1), 6⟩ → Q (.exit 16) a w) :
    ∀ m a w, invS T0 w0 c m a w → (Code.loop (qS sqB)).wp Try.prog Q a w := by
  refine wp_loop_n _ (fun a w ⟨k, _, _, _, _, h, _⟩ => by omega) fun n a w ⟨k, r, t, v, T, hk, hle, hf, hw, hc⟩ => ?_
  have hkn : n = k := by omega
  subst hkn
  have hP' : PanicOk (Exit.then (invS T0 w0 c n) Q) := fun ch a d v w h => hP ch a d v w h
  cases n with
  | zero =>
    have hf : FrV T tbSq.n a (envS 0) := hf
    have hw : WV tbSq T0 w0 T w ⟨envS 0, memS gg r t v (0 - 1), 6⟩ := hw
    refine exC2_ok tbSq_ok _ ⟨envS 0, memS gg r t v (0 - 1), 6⟩ (fun y s => y = .exit 16 ∧ grabS s = gS 0 gg r t v (0 - 1)) _ a w T hf hw (Eq.mpr (run_sExit gg r t v (0 - 1) (fun y g => y = .exit 16 ∧ g = gS 0 gg r t v (0 - 1))) ⟨rfl, rfl⟩) hP' fun y s' a' w' T' hf' hw' hk' => ?_
    obtain ⟨rfl, hg⟩ := hk'
    obtain ⟨T2, g1, g2⟩ := canonS hf' hw' hT0 hg
    have e : r = c := hc
    subst e
    exact hQ a' w' T2 t v g1 g2
  | succ j =>
    have ei : (((j + 1 : Nat) : Int)) = (j : Int) + 1 := by omega
    rw [ei] at hf hw
    have hr := rS_get rS95 (show j < 95 by omega) gg r t v (0 - 1)
    rw [tsLoop_succ] at hc
    refine exC2_ok tbSq_ok _ ⟨envS ((j : Int) + 1), memS gg r t v (0 - 1), 6⟩ (fun y s => y = .normal ∧ ∃ r' t' v', grabS s = gS (j : Int) gg r' t' v' (0 - 1) ∧ psnd (tsLoop j (v', r')) = c) _ a w T hf hw
      (Eq.mpr (hr (fun y g => y = .normal ∧ ∃ r' t' v', g = gS (j : Int) gg r' t' v' (0 - 1) ∧ psnd (tsLoop j (v', r')) = c))
        (sqQ_ok j v ⟨fun hw => fun z hz y hy => ⟨rfl, _, _, _, rfl, ?_⟩, fun hw => fun z hz y hy => ⟨rfl, _, _, _, rfl, ?_⟩⟩)) hP' fun y s' a' w' T' hf' hw' hk' => ?_
    · have e : tsStep j (v, r) = (z, y) := by
        unfold tsStep
        rw [if_pos hw, hz, hy]
      rw [e] at hc; exact hc
    · have e : tsStep j (v, r) = (v, r) := by
        unfold tsStep
        rw [if_neg hw]
      rw [e] at hc; exact hc
    · obtain ⟨rfl, r', t', v', hg, hc'⟩ := hk'
      obtain ⟨T2, g1, g2⟩ := canonS hf' hw' hT0 hg
      exact ⟨j, r', t', v', T2, rfl, by omega, g1, g2, hc'⟩

/-! ### The contract -/
/-- A function of one element that writes another one. -/
def kUn0 (f : F → F) : KSpec where
  run := fun args m nt K => match args with
    | [.s (.p te 0), .s (.p tx ox)] => match lkp m te with
      | some [.fi _] => obind (rdFi m (.s (.p tx ox))) fun a => onb (!Nat.beq te tx) (K (.tup []) (upd m te [.fi (f a)]) nt)
      | _ => False
    | _ => False
  outs := outs0

theorem chn_sq (x r0 : F) {K : F → F → F → Prop} (h : ∀ t, K (fpow x eH) t (fpow x eQ)) : chn progS [x, r0, 0, 0, 0] fun r => K (r.getD 1 0) (r.getD 2 0) (r.getD 4 0) :=
  chn_ok x _ _ _ (pows_start x r0) fun r' hr => by
    rw [hr.2 1 _ progS_r, hr.2 4 _ progS_v]; exact h _

theorem kSqc_ok : KSOk Try.prog 72 (kUn0 sqrtCand) where
  enter := enter_in Try.func72 (by kernel_rfl) (by kernel_rfl)
  run := by
    intro wr T w m nt args xs K h hm hx hfree hwr
    simp only [kUn0] at h
    split at h
    · rename_i te tx ox
      split at h
      · rename_i e0 hl
        obtain ⟨x, ha, h1⟩ := obind_some h
        clear h
        obtain ⟨hne, h⟩ := onb_true h1
        clear h1
        obtain ⟨x1, x2, rfl, hv1, hv2⟩ := vsr2 hx
        obtain ⟨b, hb, rfl⟩ := vr_s hv1
        obtain ⟨b2, hb2, rfl⟩ := vr_s hv2
        have hne2 : te ≠ tx := by
          intro e
          subst e
          simp [Nat.beq_refl] at hne
        have hwt : wr te = true := hwr te (by simp [kUn0, outs0, tagsOf])
        have hrd : rdN [Pc.fi e0] 0 4 = some [.fi e0] := by kernel_rfl
        have hb0 : BlockOk (tgs [b, ⟨b2.blk, b2.off + ox, 0⟩]) w 0 [.fi e0] := by
          refine sub_ok hm hb hl hrd (fi_noTag e0) (f := b.fin) ?_
          rfl
        have hT0 : ∀ t, 2 ≤ t → tgs [b, ⟨b2.blk, b2.off + ox, 0⟩] t = none := fun i hi => tgs_none hi
        have hm0 : MOk (wrB tbSq) (tgs [b, ⟨b2.blk, b2.off + ox, 0⟩]) w [(0, [.fi e0]), (1, [.fi x])] := by
          refine mok_tgsW (locs := [⟨b2.blk, b2.off + ox, 0⟩]) (fun b' hb' => ?_) (fun i hi => by cases i with
            | zero => rfl
            | succ i => simp at hi) (fun b' hb' => ?_) fun t0 l0 hl0 => ?_
          · simp only [List.mem_cons, List.not_mem_nil, or_false] at hb'
            rcases hb' with rfl | rfl
            · exact hm.lt _ _ hb
            · exact hm.lt tx b2 hb2
          · simp only [List.mem_cons, List.not_mem_nil, or_false] at hb'
            subst hb'
            show b2.blk ≠ b.blk
            exact sep_blk hm hwt hb hb2 hne2
          · rcases lkp_cons hl0 with ⟨rfl, rfl⟩ | hl0
            · exact hb0
            rcases lkp_cons hl0 with ⟨rfl, rfl⟩ | hl0
            · exact rdFi_sub hm hb2 ha rfl
            · exact (lkp_nil hl0).elim
        refine (run_calls2 (B := tbSq) tbSq_ok Try.func72 (c := sqB) (by kernel_rfl) rfl (args := [.s (.p 0 0), .s (.p 1 0)]) (Nat.le_of_ble_eq_true (by kernel_rfl)) hm0
          (vs2 (by rw [V.R]; exact ⟨b, rfl, rfl⟩) (by rw [V.R]; exact ⟨⟨b2.blk, b2.off + ox, 0⟩, rfl, rfl⟩)) hT0 (fun v m' _ => v = .tup [] ∧ lkp m' 0 = some [.fi (sqrtCand x)]) fun a Q hf hw hP hN => ?_).mono fun e w' hh => ?_
        · refine take_wp tbSq_ok 2 sqB _ (fun s => grabA s = gA e0 x (gQ gg)) Q a w _ (by kernel_rfl) hf hw hP
            (Eq.mpr (run_sqA e0 x (fun y g => y = .normal ∧ g = gA e0 x (gQ gg))) (sqA_gg (K := fun l => Xt.normal = .normal ∧ gA e0 x l = gA e0 x (gQ gg)) ⟨rfl, rfl⟩)) fun s1 a1 w1 T1 hf1 hw1 hg1 => ?_
          obtain ⟨T2, hf2, hw2⟩ := canonA hf1 hw1 hT0 hg1
          refine take_wp tbSq_ok 31 _ ⟨envQ, memQ e0 x (gQ gg), 3⟩ (fun s => ∃ t, grabB s = gB (gQ gg) (fpow x eH) t (fpow x eQ) (0 - 1)) Q a1 w1 T2 (by kernel_rfl) hf2 hw2 hP
            (Eq.mpr (run_sqB e0 x (gQ gg) (fun y g => y = .normal ∧ ∃ t, g = gB (gQ gg) (fpow x eH) t (fpow x eQ) (0 - 1))) (chn_sq x e0 (K := fun r t v => Xt.normal = .normal ∧ ∃ t', gB (gQ gg) r t v (0 - 1) = gB (gQ gg) (fpow x eH) t' (fpow x eQ) (0 - 1)) fun t => ⟨rfl, t, rfl⟩)) fun s3 a3 w3 T3 hf3 hw3 hg3 => ?_
          obtain ⟨t, hg3⟩ := hg3
          obtain ⟨T4, hf4, hw4⟩ := canonB hf3 hw3 hT0 hg3
          rw [sq_blk]
          refine wp_block (loopS (Q := Exit.inBlock 16 Q) (c := sqrtCand x) hT0 (fun ch a d v w h => hP ch a d v w h) (fun a5 w5 T5 t5 v5 hf5 hw5 => ?_) 96 a3 w3 ⟨95, fpow x eH, t, fpow x eQ, T4, rfl, Nat.le_refl _, hf4, hw4, rfl⟩)
          exact hN .normal ⟨envS 0, memS gg (sqrtCand x) t5 v5 (0 - 1), 6⟩ a5 w5 T5 hf5 hw5 ⟨rfl, rfl⟩
        · obtain ⟨y, T', v, m', nt', rfl, hL⟩ := hh
          obtain ⟨rfl, hq⟩ := hL.post
          obtain ⟨g1, g2⟩ := lift_wr (l' := [.fi (sqrtCand x)]) hm hwt hb hL rfl hq (fun xs hxs => ⟨hxs.1.any (fi_noTag _), hxs.2⟩)
          have hval := hL.val
          rw [V.R] at hval
          obtain ⟨ys, rfl, hys⟩ := hval
          rw [VsR] at hys
          subst hys
          exact ⟨T, _, _, _, nt, Tg.le_refl T, Nat.le_refl _, fun _ h _ => h, hfree, rfl, tup0 T, g1, ⟨g2.os, g2.tape, g2.output, g2.size, fun k hk hn => g2.block k hk hn⟩, fun t b h1 h2 => (by rw [h1] at h2; cases h2), h⟩
      · exact h.elim
    · exact h.elim

end Go.Proofs.Ytdaheccfeihpgaa.Nm

