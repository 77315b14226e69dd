import Derived.Test.YtdaheccfeihpgaaU
import Derived.Test.YtdaheccfeihpgaaN
import Derived.Test.YtdaheccfeihpgaaT
import Derived.Test.YtdaheccfeihpgaaA
/-
  Whether a number is a square.
-/
/-
  Whether a number of the specification's is a square: the contract.
-/
namespace Go.Proofs.Ytdaheccfeihpgaa.Nm
open Go Go.RowKit

theorem pow_calls {wr : Nat → Bool} {T : Tg} {w : World} {m : Mem} {nt : Nat} (hm : MOk wr T w m) (hfr : Free T nt 1) {x e tf c1 c2 : Nat} {bf b1 b2 : Loc} {x1 x2 x3 : Value} (hbf : T tf = some bf) (hRf : ∀ T' i f, T' i = some ⟨bf.blk, bf.off, f⟩ → (cv i).R T' x1) (hfd : fdOk m tf = true)
    (hx2 : e < 26959946667150639794667015087019630673637144422540572481103610249216) (hl1 : b1.blk < w.heap.size) (hl2 : b2.blk < w.heap.size) (hR1 : ∀ T' i f, T' i = some ⟨b1.blk, b1.off, f⟩ → BlockOk T' w i [.w7 x] ∧ (V.s (.sl i 0 7 c1)).R T' x2) (hR2 : ∀ T' i f, T' i = some ⟨b2.blk, b2.off, f⟩ → BlockOk T' w i [.w7 e] ∧ (V.s (.sl i 0 7 c2)).R T' x3) :
    Calls Try.prog 37 #[x1, x2, x3] w (DEnd wr T w m nt (.s (.sl nt 0 7 14)) [[.w7 (x ^ e % 26959946667150639794667015087019630673557916260026308143510066298881)]]) := by
      obtain ⟨k1, k2⟩ := hR1 (tgs [⟨b1.blk, b1.off, 0⟩, ⟨b2.blk, b2.off, 0⟩, ⟨bf.blk, bf.off, 0⟩]) 0 0 rfl
      obtain ⟨k3, k4⟩ := hR2 (tgs [⟨b1.blk, b1.off, 0⟩, ⟨b2.blk, b2.off, 0⟩, ⟨bf.blk, bf.off, 0⟩]) 1 0 rfl
      have hT0 : ∀ t, 3 ≤ t → tgs [⟨b1.blk, b1.off, 0⟩, ⟨b2.blk, b2.off, 0⟩, ⟨bf.blk, bf.off, 0⟩] t = none := fun i hi => tgs_none hi
      refine (run_calls2 (B := tbP Try.f37.ntmps) tbP_ok Try.func37 (c := Try.f37.body.getD .skip) (by kernel_rfl) rfl (args := [cv 2, .s (.sl 0 0 7 c1), .s (.sl 1 0 7 c2)]) (Nat.le_of_ble_eq_true (by kernel_rfl))
          (mok_bin (b1 := ⟨b1.blk, b1.off, 0⟩) (b2 := ⟨b2.blk, b2.off, 0⟩) (b3 := ⟨bf.blk, bf.off, 0⟩) hl1 hl2 (hm.lt tf bf hbf) (fun i hi => by
            have hcs : i = 0 ∨ i = 1 ∨ i = 2 := by omega
            rcases hcs with rfl | rfl | rfl <;> rfl) k1 k3 (fd_ok hm hfd hbf (f := 0) rfl)) (vs3 (hRf _ 2 0 rfl) k2 k4) hT0
          (fun v m' _ => NewG 4 7 14 [.w7 (x ^ e % 26959946667150639794667015087019630673557916260026308143510066298881)] v (lkp m' 4)) fun a Q hf hw hP hN => ?_).mono fun e w' hh => ?_
      · rw [pB_eq]
        have h012 : exC2 (tbP Try.f37.ntmps) (.seq (q0 (Try.f37.body.getD .skip)) (.seq (q1 (Try.f37.body.getD .skip)) (q2 (Try.f37.body.getD .skip)))) ⟨entryV [cv 2, .s (.sl 0 0 7 c1), .s (.sl 1 0 7 c2)] 0, [(0, [.w7 x]), (1, [.w7 e]), (2, foldsC)], 3⟩ (fun y s => y = .normal ∧ grabP s = gP x e c1 c2 4 7 1 223 []) :=
          Eq.mpr (run_p012 x e c1 c2 (fun y g => y = .normal ∧ g = gP x e c1 c2 4 7 1 223 [])) ⟨rfl, rfl⟩
        refine wp_pre3 (H := fun s => grabP s = gP x e c1 c2 4 7 1 223 []) tbP_ok hf hw hP h012 fun s' a' w' T' hf' hw' hg => ?_
        obtain ⟨T2, g1, g2⟩ := canonP hf' hw' hT0 (Nat.le_refl 4) hg
        refine wp_block (loopP (Q := Exit.inBlock 0 (Exit.then ((qT (Try.f37.body.getD .skip)).wp Try.prog Q) Q)) hT0 (fun ch a d v w h => hP ch a d v w h) (fun a4 w4 T4 o hf4 hw4 ho => ?_) 225 a' w' ⟨224, 7, 1, T2, rfl, Nat.le_refl _, g1, g2, ?_, .inl rfl⟩)
        · show (qT (Try.f37.body.getD .skip)).wp Try.prog Q a4 w4
          refine exC2_ok tbP_ok _ ⟨envP c1 c2 14 (-1), memP x e o, 5⟩ _ Q a4 w4 T4 hf4 hw4 (Eq.mpr (run_tail x e c1 c2 14 o _) ?_) hP hN
          have hlt := Nat.mod_lt (x ^ e) (show 0 < 26959946667150639794667015087019630673557916260026308143510066298881 by omega)
          rw [ho]
          exact new_w7 (by omega)
        · have e0 : e / 2 ^ 224 = 0 := Nat.div_eq_of_lt (by
            have e1 : 2 ^ 224 = 26959946667150639794667015087019630673637144422540572481103610249216 := by decide
            rw [e1]; exact hx2)
          rw [e0, Nat.pow_zero]
      · obtain ⟨y, T', v, m', nt', rfl, hL⟩ := hh
        obtain ⟨rfl, q, hq, hconv⟩ := hL.post
        obtain ⟨b, hb, hy⟩ := vr_s hL.val
        obtain ⟨T'', g1, g2, g3, g4, g5⟩ := lift_new hm hfr hL rfl (hT0 4 (by omega)) hb hq (hconv T T')
        exact ⟨T'', y, g1, rfl, by rw [V.R]; exact ⟨b, g2, hy⟩, g3, g4, g5⟩

/-- Seven words in a slice. -/
def rdC7 (m : Mem) : V → Option (List Int)
  | .s s => match slp s with
    | some (t, o, 7) => match lkp m t with
      | some l => match rdN l o 7 with
        | some q => match i64s 7 (flat q) with
          | some (ws, []) => some ws
          | _ => none
        | none => none
      | none => none
    | _ => none
  | _ => none

theorem rdC7_ok {wr : Nat → Bool} {T : Tg} {w : World} {m : Mem} (hm : MOk wr T w m) {u : V} {x : Value} {ws : List Int} {n : Nat} (hu : u.R T x) (h : rdC7 m u = some ws) (hn : n < 26959946667150639794667015087019630673637144422540572481103610249216) (hw : ∀ i, i < 7 → ws.getD i 0 = wd i n) :
    ∃ (b : Loc) (c : Nat), b.blk < w.heap.size ∧ ∀ T' i f, T' i = some ⟨b.blk, b.off, f⟩ → BlockOk T' w i [.w7 n] ∧ (V.s (.sl i 0 7 c)).R T' x := by
  unfold rdC7 at h
  cases u with
  | agg l => cases h
  | tup l => cases h
  | s s =>
    simp only at h
    split at h
    · rename_i t o hsl
      obtain ⟨b, c, hb, rfl⟩ := slp_ok hsl (vr_s hu)
      split at h
      · rename_i l hl
        split at h
        · rename_i q hq
          split at h
          · rename_i ws' h7
            cases h
            obtain ⟨l1, e1, _, hlen, hwk⟩ := i64s_ok h7
            rw [List.append_nil] at e1
            refine ⟨⟨b.blk, b.off + o, 0⟩, c, hm.lt t b hb, fun T' i f hi => ⟨?_, by rw [V.R]; exact ⟨_, hi, rfl⟩⟩⟩
            obtain ⟨b', c', ty, pre, xs, rest, g1, g2, g3, g4, g5⟩ := hm.at_ t l hl
            rw [hb] at g1; cases g1
            obtain ⟨a1, r1, rfl, ha, _⟩ := rdN_ok hq
            have hc := g5.1
            rw [flat_append, flat_append] at hc
            obtain ⟨ya, yr, rfl, c1, c2⟩ := hc.split
            obtain ⟨yq, yz, rfl, c3, c4⟩ := c2.split
            refine ⟨_, c', ty, pre ++ ya, yq, yz ++ rest, hi, g2, by rw [g3]; simp, by simp [g4, c1.length, ha], ?_, fun p hp => by simp only [List.mem_cons, List.not_mem_nil, or_false] at hp; subst hp; exact hn⟩
            have hwk2 := c3.weak
            rw [e1, hwk] at hwk2
            have e2 : (ws.map fun x => Sc.sym .i64 x) = flat [.w7 n] := by
              match ws, hlen with
              | [z0, z1, z2, z3, z4, z5, z6], _ =>
                have h0 : z0 = wd 0 n := hw 0 (by omega)
                have h1 : z1 = wd 1 n := hw 1 (by omega)
                have h2 : z2 = wd 2 n := hw 2 (by omega)
                have h3 : z3 = wd 3 n := hw 3 (by omega)
                have h4 : z4 = wd 4 n := hw 4 (by omega)
                have h5 : z5 = wd 5 n := hw 5 (by omega)
                have h6 : z6 = wd 6 n := hw 6 (by omega)
                subst h0 h1 h2 h3 h4 h5 h6
                rfl
            rw [e2] at hwk2
            exact hwk2.any (w7_plain n)
          · cases h
        · cases h
      · cases h
    · cases h

/-- A power whose exponent is told by its words. -/
def kPowE : KSpec where
  run := fun _ _ _ _ => False
  outs := fun _ _ => []
  cas := true
  cases := fun args m nt K => match args with
    | [c, x, y] => obind (cvT c) fun tf => obind (rdW7 m x) fun a => obind (rdC7 m y) fun ws => onb (fdOk m tf) (∃ n : Nat, n < 26959946667150639794667015087019630673637144422540572481103610249216 ∧ (∀ i, i < 7 → ws.getD i 0 = wd i n) ∧ K (.s (.sl nt 0 7 14)) [[.w7 (a ^ n % 26959946667150639794667015087019630673557916260026308143510066298881)]])
    | _ => False

theorem kPowE_ok : KSOk Try.prog 37 kPowE where
  enter := enter_in Try.func37 (by kernel_rfl) (by kernel_rfl)
  run := by intro _ _ _ _ _ _ _ _ h; exact h.elim
  cases := by
    intro args m nt K h
    simp only [kPowE] at h
    split at h
    · rename_i c u v
      obtain ⟨tf, hcv, h1⟩ := obind_some h
      obtain ⟨x, e1, h2⟩ := obind_some h1
      obtain ⟨ws, e2, h3⟩ := obind_some h2
      obtain ⟨hfd, n, hn, hws, h⟩ := onb_true h3
      refine ⟨_, _, h, fun wr T w xs hm hx hfr => ?_⟩
      obtain ⟨x1, x2, x3, rfl, hv0, hv1, hv2⟩ := vsr3 hx
      rw [cvT_eq hcv] at hv0
      obtain ⟨bf, hbf, hRf⟩ := cv_R hv0
      obtain ⟨_, b1, c1, rfl, hl1, hR1⟩ := rdW7_ok hm hv1 e1
      obtain ⟨b2, c2, hl2, hR2⟩ := rdC7_ok hm hv2 e2 hn hws
      exact pow_calls hm hfr hbf hRf hfd hn hl1 hl2 (fun T' i f hi => hR1 T' i f hi) hR2
    · exact h.elim

end Go.Proofs.Ytdaheccfeihpgaa.Nm

/-
  Whether a number of the specification's is a square: its run; the contract.
-/
namespace Go.Proofs.Ytdaheccfeihpgaa.Nm
open Go Go.RowKit
def dsIq : List (Nat × DSpec) := [(12, dPrime), (33, dSmall), (20, dSame)]
theorem dsIq_ok : ∀ f sp, lkp dsIq f = some sp → DSOk Try.prog f sp := by
  intro f sp h
  rcases lkp_cons h with ⟨rfl, rfl⟩ | h
  · exact dPrime_ok
  rcases lkp_cons h with ⟨rfl, rfl⟩ | h
  · exact dSmall_ok
  rcases lkp_cons h with ⟨rfl, rfl⟩ | h
  · exact dSame_ok
  · exact (lkp_nil h).elim
def ksIq : List (Nat × KSpec) := [(37, kPowE)]
theorem ksIq_ok : ∀ f sp, lkp ksIq f = some sp → KSOk Try.prog f sp := by
  intro f sp h
  rcases lkp_cons h with ⟨rfl, rfl⟩ | h
  · exact kPowE_ok
  · exact (lkp_nil h).elim

def shG (i : Nat) (K : Int → Prop) : Prop := ∀ z, IntKind.i64.wrap z = z → z = IntKind.i64.wrap (((wd i PN : Nat) : Int).fdiv (2 ^ 1)) → K z
def upG (i : Nat) (z : Int) : Int := IntKind.i64.wrap (z + IntKind.i64.wrap (bits .and .i64 ((wd (i + 1) PN : Nat) : Int) 1 * 2 ^ 31))
def suG (i : Nat) (K : Int → Prop) : Prop := shG i fun z => ∀ u, IntKind.i64.wrap u = u → u = upG i z → K u
def isqL (x : Nat) (G : V → Prop) : Prop :=
  suG 0 fun z0 => suG 1 fun z1 => suG 2 fun z2 => suG 3 fun z3 => suG 4 fun z4 => suG 5 fun z5 => shG 6 fun z6 =>
    (decide (x = 0) = true → G (.s (.bl true))) ∧ (decide (x = 0) = false → ∃ n : Nat, n < 26959946667150639794667015087019630673637144422540572481103610249216 ∧ (∀ i, i < 7 → [z0, z1, z2, z3, z4, z5, z6].getD i 0 = wd i n) ∧ G (.s (.bs (decide (x ^ n % PN = 1)))))

set_option maxRecDepth 100000 in
theorem run_isq (x c : Nat) (G : V → Prop) : exC2 (tb Try.f19.ntmps 2 [] dsIq ksIq 9) (Try.f19.body.getD .skip) ⟨entryV [cv 1, .s (.sl 0 0 7 c)] 0, [(0, [.w7 x]), (1, foldsC)], 2⟩ (endK (tb Try.f19.ntmps 2 [] dsIq ksIq 9) Try.f19.results.toList fun v _ _ => G v) = isqL x G := by
  kernel_rfl

def isqE (e x : Nat) : Bool := decide (x = 0) || decide (x ^ e % PN = 1)
def isqN (x : Nat) : Bool := isqE eE x

theorem suG_ok {i : Nat} {K : Int → Prop} (h : K (upG i (IntKind.i64.wrap (((wd i PN : Nat) : Int).fdiv (2 ^ 1))))) : suG i K := fun z _ hz u _ hu => by subst hz; subst hu; exact h
theorem shG_ok {i : Nat} {K : Int → Prop} (h : K (IntKind.i64.wrap (((wd i PN : Nat) : Int).fdiv (2 ^ 1)))) : shG i K := fun z _ hz => by subst hz; exact h

def eWs : List Int := [upG 0 (IntKind.i64.wrap (((wd 0 PN : Nat) : Int).fdiv (2 ^ 1))), upG 1 (IntKind.i64.wrap (((wd 1 PN : Nat) : Int).fdiv (2 ^ 1))), upG 2 (IntKind.i64.wrap (((wd 2 PN : Nat) : Int).fdiv (2 ^ 1))), upG 3 (IntKind.i64.wrap (((wd 3 PN : Nat) : Int).fdiv (2 ^ 1))), upG 4 (IntKind.i64.wrap (((wd 4 PN : Nat) : Int).fdiv (2 ^ 1))), upG 5 (IntKind.i64.wrap (((wd 5 PN : Nat) : Int).fdiv (2 ^ 1))), IntKind.i64.wrap (((wd 6 PN : Nat) : Int).fdiv (2 ^ 1))]
theorem eWs_ok : ∀ i, i < 7 → eWs.getD i 0 = wd i eE := by decide +kernel

theorem isqL_ok' {e x : Nat} {G : V → Prop} (he : e < 26959946667150639794667015087019630673637144422540572481103610249216) (hw : ∀ i, i < 7 → eWs.getD i 0 = wd i e) (h : ∀ s, (∀ T u, Sc.R T s u → u = .bool (isqE e x)) → G (.s s)) : isqL x G := by
  refine suG_ok (suG_ok (suG_ok (suG_ok (suG_ok (suG_ok (shG_ok ?_))))))
  refine ⟨fun h0 => h _ fun T u hu => ?_, fun h0 => ⟨e, he, hw, h _ fun T u hu => ?_⟩⟩
  · have hu : u = .bool true := hu
    rw [hu]; unfold isqE; rw [h0, Bool.true_or]
  · have hu : u = .bool (decide (x ^ e % PN = 1)) := hu
    rw [hu]; unfold isqE; rw [h0, Bool.false_or]
theorem isqL_ok {x : Nat} {G : V → Prop} (h : ∀ s, (∀ T u, Sc.R T s u → u = .bool (isqN x)) → G (.s s)) : isqL x G := isqL_ok' (by decide +kernel) eWs_ok h

def dIsq : DSpec := fun args m _ => match args with
  | [c, a] => match cvT c, rdW7 m a with
    | some tf, some x => bif fdOk m tf then some (.s (.bs (isqN x)), []) else none
    | _, _ => none
  | _ => none

theorem dIsq_ok : DSOk Try.prog 19 dIsq where
  enter := enter_in Try.func19 (by kernel_rfl) (by kernel_rfl)
  run := by
    intro wr T w m nt args xs v fr h hm hx hfr
    simp only [dIsq] at h
    split at h
    · rename_i c u
      split at h
      · rename_i tf x hcv e1
        cases hfd : fdOk m tf with
        | false => rw [hfd] at h; cases h
        | true =>
        rw [hfd] at h
        simp only [cond_true, Option.some.injEq, Prod.mk.injEq] at h
        obtain ⟨rfl, rfl⟩ := h
        obtain ⟨x1, x2, rfl, hv0, hv1⟩ := vsr2 hx
        rw [cvT_eq hcv] at hv0
        obtain ⟨bf, hbf, hRf⟩ := cv_R hv0
        obtain ⟨hx1, b1, c1, rfl, hl1, hR1⟩ := rdW7_ok hm hv1 e1
        obtain ⟨k1, k2⟩ := hR1 (tgs [⟨b1.blk, b1.off, 0⟩, ⟨bf.blk, bf.off, 0⟩]) 0 0 rfl
        exact val_calls (s := .bs (isqN x)) (B := tb Try.f19.ntmps 2 [] dsIq ksIq 9) (c := Try.f19.body.getD .skip) (tb_ok dsIq_ok ksIq_ok) Try.func19 (by kernel_rfl) (by kernel_rfl) (args := [cv 1, .s (.sl 0 0 7 c1)]) (Nat.le_of_ble_eq_true (by kernel_rfl)) (mok_un (b1 := ⟨b1.blk, b1.off, 0⟩) (b3 := ⟨bf.blk, bf.off, 0⟩) hl1 (hm.lt tf bf hbf) (fun i hi => by
            have hcs : i = 0 ∨ i = 1 := by omega
            rcases hcs with rfl | rfl <;> rfl) k1 (fd_ok hm hfd hbf (f := 0) rfl)) (vs2 (hRf _ 1 0 rfl) k2) (fun i hi => tgs_none (show 2 ≤ i from hi)) rfl hm
          (Eq.mpr (run_isq x c1 _) (isqL_ok fun s hs => ⟨s, rfl, fun T' z hz => hs T' z hz⟩))
      · cases h
    · cases h

end Go.Proofs.Ytdaheccfeihpgaa.Nm

