import Derived.Test.YtdaheccfeihpgaaU
import Derived.Test.YtdaheccfeihpgaaH
import Derived.Test.YtdaheccfeihpgaaA
/-
  The square root: the table and the chain.
-/
/-
  The candidate for a square root: the table of powers, the chain of products.
-/
namespace Go.Proofs.Ytdaheccfeihpgaa.Nm
open Go Go.RowKit

/-! ### Bytes, set to the first of ninety-six elements -/
def zs (n : Nat) : List Pc := List.replicate n (.fi 0)
def isZ : Nat → List Pc → Bool
  | 0, [] => true
  | n + 1, .fi v :: r => Nat.beq v.val 0 && isZ n r
  | _, _ => false
theorem isZ_eq : ∀ {n : Nat} {l : List Pc}, isZ n l = true → l = zs n
  | 0, [], _ => rfl
  | n + 1, .fi v :: r, h => by
    simp only [isZ, Bool.and_eq_true] at h
    have e : v = 0 := Fin.ext (by rw [fval_zero]; exact Nat.eq_of_beq_eq_true h.1)
    rw [e, isZ_eq h.2]
    rfl
  | 0, .fi _ :: _, h => by cases h
  | n + 1, [], h => by cases h
  | 0, .c _ :: _, h => by cases h
  | 0, .w7 _ :: _, h => by cases h
  | 0, .w4 _ :: _, h => by cases h
  | 0, .bt _ :: _, h => by cases h
  | n + 1, .c _ :: _, h => by cases h
  | n + 1, .w7 _ :: _, h => by cases h
  | n + 1, .w4 _ :: _, h => by cases h
  | n + 1, .bt _ :: _, h => by cases h

set_option maxRecDepth 100000 in
theorem run_setB96 (bs : List Nat) (c : Nat) (G : V → Option (List Pc) → Prop) : exC2 (tb Try.f46.ntmps 2 [0] dsE ksE 9) (Try.f46.body.getD .skip) ⟨entryV [.s (.p 0 0), .s (.sl 1 0 28 c)] 0, [(0, zs 96), (1, [.bt bs])], 2⟩ (endK (tb Try.f46.ntmps 2 [0] dsE ksE 9) Try.f46.results.toList fun v m _ => G v (lkp m 0)) =
    sbL bs (G (.tup [.s .np, .s (.ifc 115 6)]) (some (zs 96))) (fun v => G (.tup [.s (.p 0 0), .s .nif]) (some (.fi v :: zs 95))) := by
  kernel_rfl

def kSet96 : KSpec where
  run := fun args m nt K => match args with
    | [.s (.p te 0), u] => match lkp m te with
      | some l => onb (isZ 96 l) (obind (rdB28 m u) fun bs => onb (!Nat.beq te (slT u)) (∃ h : nBE bs < pp, K (.tup [.s (.p te 0), .s .nif]) (upd m te (.fi ⟨nBE bs, h⟩ :: zs 95)) nt))
      | _ => False
    | _ => False
  outs := outs0

theorem fi_plain : ∀ {l : List Pc}, (∀ p ∈ l, ∃ v, p = .fi v) → ∀ s ∈ flat l, noTag s = true
  | [], _, s, hs => by cases hs
  | p :: r, h, s, hs => by
    obtain ⟨v, rfl⟩ := h p (by simp)
    simp only [flat, List.mem_append] at hs
    rcases hs with hs | hs
    · exact fi_noTag v s (by simpa [flat] using hs)
    · exact fi_plain (fun q hq => h q (by simp [hq])) s hs
theorem zs_fi (n : Nat) : ∀ p ∈ zs n, ∃ v, p = .fi v := fun _ hp => ⟨0, (List.mem_replicate.1 hp).2⟩

theorem kSet96_ok : KSOk Try.prog 46 kSet96 where
  enter := enter_in Try.func46 (by kernel_rfl) (by kernel_rfl)
  run := by
    intro wr T w m nt args xs K h hm hx hfree hwr
    simp only [kSet96] at h
    split at h
    · rename_i te u
      split at h
      · rename_i l hl
        obtain ⟨hz, h0⟩ := onb_true h
        clear h
        have hz := isZ_eq hz
        subst hz
        obtain ⟨bs, hbs, h1⟩ := obind_some h0
        clear h0
        obtain ⟨hne, h2⟩ := onb_true h1
        clear h1
        obtain ⟨hlt, h⟩ := h2
        obtain ⟨x1, x2, rfl, hv1, hv2⟩ := vsr2 hx
        obtain ⟨b, hb, rfl⟩ := vr_s hv1
        obtain ⟨hlen, hb256, b2, c2, t2, o2, hslp, ⟨b2', hb2', hbb⟩, rfl, hl2, hR2⟩ := rdB28_ok hm hv2 hbs
        have hne2 : te ≠ t2 := by
          intro e
          subst e
          cases u with
          | s s => simp only [slT] at hne; simp only at hslp; rw [hslp] at hne; simp [Nat.beq_refl] at hne
          | agg l => simp only at hslp; cases hslp
          | tup l => simp only at hslp; cases hslp
        have hwt : wr te = true := hwr te (by simp [kSet96, outs0, tagsOf])
        obtain ⟨k1, k2⟩ := hR2 (tgs [b, ⟨b2.blk, b2.off, 0⟩]) 1 0 rfl
        have hrd : rdN (zs 96) 0 384 = some (zs 96) := by kernel_rfl
        have hb0 : BlockOk (tgs [b, ⟨b2.blk, b2.off, 0⟩]) w 0 (zs 96) := by
          refine sub_ok hm hb hl hrd (fi_plain (zs_fi 96)) (f := b.fin) ?_
          rfl
        have hm0 : MOk (wrB (tb Try.f46.ntmps 2 [0] dsE ksE 9)) (tgs [b, ⟨b2.blk, b2.off, 0⟩]) w [(0, zs 96), (1, [.bt bs])] := by
          refine mok_tgsW (locs := [⟨b2.blk, b2.off, 0⟩]) (fun b' hb' => ?_) (fun i hi => by cases i with
            | zero => rfl
            | succ i => simp at hi) (fun b' hb' => ?_) fun t0 l0 hl0 => ?_
          · simp only [List.mem_cons, List.not_mem_nil, or_false] at hb'
            rcases hb' with rfl | rfl
            · exact hm.lt _ _ hb
            · exact hl2
          · simp only [List.mem_cons, List.not_mem_nil, or_false] at hb'
            subst hb'
            show b2.blk ≠ b.blk
            rw [hbb]
            exact sep_blk hm hwt hb hb2' hne2
          · rcases lkp_cons hl0 with ⟨rfl, rfl⟩ | hl0
            · exact hb0
            rcases lkp_cons hl0 with ⟨rfl, rfl⟩ | hl0
            · exact k1
            · exact (lkp_nil hl0).elim
        refine (run_calls (B := tb Try.f46.ntmps 2 [0] dsE ksE 9) (tb_ok dsE_ok ksE_ok) Try.func46 (c := Try.f46.body.getD .skip) (by kernel_rfl) (by kernel_rfl) (args := [.s (.p 0 0), .s (.sl 1 0 28 c2)]) (Nat.le_of_ble_eq_true (by kernel_rfl)) hm0
          (vs2 (by rw [V.R]; exact ⟨b, rfl, rfl⟩) k2) (fun i hi => tgs_none (show 2 ≤ i from hi)) (fun v m' _ => v = .tup [.s (.p 0 0), .s .nif] ∧ lkp m' 0 = some (.fi ⟨nBE bs, hlt⟩ :: zs 95))
          (Eq.mpr (run_setB96 bs c2 (fun v q => v = .tup [.s (.p 0 0), .s .nif] ∧ q = some (.fi ⟨nBE bs, hlt⟩ :: zs 95)))
            (sbL_ok hlen hb256 (fun hh => absurd hlt hh) (fun hh => ⟨rfl, rfl⟩)))).mono fun e w' hh => ?_
        obtain ⟨y, T', v, m', nt', rfl, hL⟩ := hh
        have hT'0 : T' 0 = some b := hL.le 0 b rfl
        obtain ⟨rfl, hq⟩ := hL.post
        obtain ⟨g1, g2⟩ := lift_wr (l' := .fi ⟨nBE bs, hlt⟩ :: zs 95) hm hwt hb hL rfl hq (fun xs hxs => ⟨hxs.1.any (fi_plain (fun p hp => by
          rcases List.mem_cons.1 hp with rfl | hp
          · exact ⟨_, rfl⟩
          · exact zs_fi 95 p hp)), hxs.2⟩)
        have hval := hL.val
        rw [V.R] at hval
        obtain ⟨ys, rfl, hys⟩ := hval
        obtain ⟨y1, y2, rfl, hy1, hy2⟩ := vsr2 hys
        obtain ⟨b0, hb0', rfl⟩ := vr_s hy1
        rw [hT'0] at hb0'
        cases hb0'
        refine ⟨T, _, _, _, nt, Tg.le_refl T, Nat.le_refl _, fun _ h _ => h, hfree, rfl, ?_, g1, ⟨g2.os, g2.tape, g2.output, g2.size, fun k hk hn => g2.block k hk hn⟩, fun t b h1 h2 => (by rw [h1] at h2; cases h2), h⟩
        rw [V.R]
        exact ⟨_, rfl, vs2 (by rw [V.R]; exact ⟨b, hb, rfl⟩) (by rw [V.R]; exact vr_s hy2)⟩
      · exact h.elim
    · exact h.elim

def ksSq : List (Nat × KSpec) := (46, kSet96) :: (73, kEq) :: ksG
theorem ksSq_ok : ∀ f sp, lkp ksSq f = some sp → KSOk Try.prog f sp := by
  intro f sp h
  rcases lkp_cons h with ⟨rfl, rfl⟩ | h
  · exact kSet96_ok
  rcases lkp_cons h with ⟨rfl, rfl⟩ | h
  · exact kEq_ok
  · exact ksG_ok f sp h
noncomputable abbrev sqN : Nat := Try.f72.ntmps
noncomputable abbrev sqB : Code := Try.f72.body.getD .skip
noncomputable def tbSq : Tb := tb sqN 2 [0] [] ksSq 100
theorem tbSq_ok : TbOk Try.prog tbSq := tb_ok ds_nil ksSq_ok

def gL : List Nat := [106, 15, 236, 103, 133, 152, 167, 146, 12, 85, 178, 212, 11, 45, 111, 251, 190, 163, 216, 206, 243, 251, 54, 50, 220, 105, 27, 116]
/-- Squares, one by one, and a list of them. -/
def sqA : Nat → F → List Pc → (List Pc → Prop) → Prop
  | 0, _, l, K => K l.reverse
  | n + 1, z, l, K => ∀ y, y = z * z → sqA n y (.fi y :: l) K

abbrev GA := Option V × Option V × Option V × Option (List Pc) × Option (List Pc) × Option (List Pc)
def grabA (s : SS) : GA := (lkp s.env 0, lkp s.env 1, lkp s.env 4, lkp s.m 0, lkp s.m 1, lkp s.m 2)
def gA (r0 x : F) (l : List Pc) : GA := (some (.s (.p 0 0)), some (.s (.p 1 0)), some (.s (.p 2 0)), some [.fi r0], some [.fi x], some l)

set_option maxRecDepth 1000000 in
theorem run_sqA (r0 x : F) (G : Xt → GA → Prop) : exC2 tbSq (takeC 2 sqB) ⟨entryV [.s (.p 0 0), .s (.p 1 0)] 0, [(0, [.fi r0]), (1, [.fi x])], 2⟩ (fun y s => G y (grabA s)) =
    ∃ h : nBE gL < pp, sqA 95 ⟨nBE gL, h⟩ [.fi ⟨nBE gL, h⟩] fun l => G .normal (gA r0 x l) := by
  kernel_rfl

def progS : List (Nat × Nat × Nat) := [(1, 0, 0)] ++ ([(1, 0, 1)] ++ ([(1, 1, 1)] ++ ([(1, 0, 1)] ++ ([(2, 1, 1)] ++ (List.replicate 2 (2, 2, 2) ++ ([(2, 1, 2)] ++ ([(3, 2, 2)] ++ ([(1, 0, 3)] ++ (List.replicate 5 (3, 3, 3) ++ ([(2, 2, 3)] ++ ([(3, 2, 2)] ++ (List.replicate 11 (3, 3, 3) ++ ([(2, 2, 3)] ++ ([(3, 2, 2)] ++ (List.replicate 6 (3, 3, 3) ++ ([(1, 1, 3)] ++ (List.replicate 17 (3, 3, 3) ++ ([(2, 2, 3)] ++ ([(3, 2, 2)] ++ (List.replicate 47 (3, 3, 3) ++ ([(2, 2, 3)] ++ (List.replicate 31 (2, 2, 2) ++ ([(1, 1, 2)] ++ ([(4, 1, 1)] ++ ([(4, 4, 0)] ++ ([(1, 1, 0)]))))))))))))))))))))))))))
def envQ : Env := [(4, .s (.p 2 0)), (0, .s (.p 0 0)), (1, .s (.p 1 0))]
def memQ (r0 x : F) (l : List Pc) : Mem := [(2, l), (0, [.fi r0]), (1, [.fi x])]
abbrev GB := Option V × Option V × Option V × Option V × Option V × Option V × Option (List Pc) × Option (List Pc) × Option (List Pc) × Option (List Pc) × Option (List Pc)
def grabB (s : SS) : GB := (lkp s.env 0, lkp s.env 4, lkp s.env 6, lkp s.env 15, lkp s.env 16, lkp s.env 17, lkp s.m 0, lkp s.m 2, lkp s.m 3, lkp s.m 5, lkp s.m 6)
def gB (l : List Pc) (r t v m1 : F) : GB := (some (.s (.p 0 0)), some (.s (.p 2 0)), some (.s (.p 3 0)), some (.s (.p 5 0)), some (.s (.p 6 0)), some (.s (.lit .i64 95)), some [.fi r], some l, some [.fi t], some [.fi v], some [.fi m1])

set_option maxRecDepth 1000000 in
theorem run_sqB (r0 x : F) (l : List Pc) (G : Xt → GB → Prop) : exC2 tbSq (takeC 31 (dropC 2 sqB)) ⟨envQ, memQ r0 x l, 3⟩ (fun y s => G y (grabB s)) =
    chn progS [x, r0, 0, 0, 0] fun r => G .normal (gB l (r.getD 1 0) (r.getD 2 0) (r.getD 4 0) (0 - 1)) := by
  kernel_rfl

theorem progS_r : (chnE progS [some 1, none, none, none, none]).getD 1 none = some eH := by kernel_rfl
theorem progS_v : (chnE progS [some 1, none, none, none, none]).getD 4 none = some eQ := by kernel_rfl

end Go.Proofs.Ytdaheccfeihpgaa.Nm

