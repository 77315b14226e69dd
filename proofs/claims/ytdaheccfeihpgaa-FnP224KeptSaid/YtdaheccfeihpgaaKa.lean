import Derived.Test.YtdaheccfeihpgaaPb
import Derived.Test.YtdaheccfeihpgaaRa
import Derived.Test.YtdaheccfeihpgaaCa
/-
  An addend that may be no point: its contract.
-/
/-
  The bytes of a point that memory holds: a contract for a region whose order is drawn.
-/
namespace Go.Proofs.Ytdaheccfeihpgaa.Nm
open Go Go.RowKit

/-- A point behind an address: its three numbers. -/
def rdPt (m : Mem) : V → Option (F × F × F)
  | .s (.p t 0) => match lkp m t with
    | some [.c (.p ta oa), .c (.p tb ob), .c (.p tc oc)] => match rdFi m (.s (.p ta oa)), rdFi m (.s (.p tb ob)), rdFi m (.s (.p tc oc)) with
      | some X, some Y, some Z => some (X, Y, Z)
      | _, _, _ => none
    | _ => none
  | _ => none

def ptQ : List Pc := [.c (.p 1 0), .c (.p 2 0), .c (.p 3 0)]

theorem rdPt_loc {wr : Nat → Bool} {T : Tg} {w : World} {m : Mem} (hm : MOk wr T w m) {u : V} {x : Value} {X Y Z : F} (hu : u.R T x) (h : rdPt m u = some (X, Y, Z)) :
    ∃ b0 b1 b2 b3 : Loc, b0.blk < w.heap.size ∧ b1.blk < w.heap.size ∧ b2.blk < w.heap.size ∧ b3.blk < w.heap.size ∧ x = .pointer (some ⟨b0.blk, b0.off, none⟩) ∧
      BlockOk (tgs [b0, b1, b2, b3]) w 0 ptQ ∧ BlockOk (tgs [b0, b1, b2, b3]) w 1 [.fi X] ∧ BlockOk (tgs [b0, b1, b2, b3]) w 2 [.fi Y] ∧ BlockOk (tgs [b0, b1, b2, b3]) w 3 [.fi Z] := by
  unfold rdPt at h
  split at h
  · rename_i t
    split at h
    · rename_i ta oa tb ob tc oc hl
      split at h
      · rename_i X' Y' Z' e1 e2 e3
        cases h
        obtain ⟨b0, hb0, rfl⟩ := vr_s hu
        obtain ⟨b', c, ty, pre, xs, rest, g1, g2, g3, g4, g5⟩ := hm.at_ t _ hl
        rw [hb0] at g1; cases g1
        have hc := g5.1
        simp only [flat, Pc.cells, List.append_nil, List.nil_append, List.cons_append] at hc
        cases hc with
        | cons a1 hc =>
        cases hc with
        | cons a2 hc =>
        cases hc with
        | cons a3 hc =>
        cases hc
        obtain ⟨b1, h1, rfl, k1⟩ := rdFi_loc hm (u := .s (.p ta oa)) (by rw [V.R]; exact a1) e1
        obtain ⟨b2, h2, rfl, k2⟩ := rdFi_loc hm (u := .s (.p tb ob)) (by rw [V.R]; exact a2) e2
        obtain ⟨b3, h3, rfl, k3⟩ := rdFi_loc hm (u := .s (.p tc oc)) (by rw [V.R]; exact a3) e3
        refine ⟨b0, b1, b2, b3, hm.lt t b0 hb0, h1, h2, h3, rfl, ⟨b0, c, ty, pre, _, rest, rfl, g2, g3, g4, ?_, ?_⟩, k1 _ 1 rfl, k2 _ 2 rfl, k3 _ 3 rfl⟩
        · exact .cons ⟨b1, rfl, rfl⟩ (.cons ⟨b2, rfl, rfl⟩ (.cons ⟨b3, rfl, rfl⟩ .nil))
        · exact goods_cons.2 ⟨trivial, goods_cons.2 ⟨trivial, goods_cons.2 ⟨trivial, fun p hp => by cases hp⟩⟩⟩
      · cases h
    · cases h
  · cases h

theorem no4 {i : Nat} {n : Nat} {ds : List (Nat × DSpec)} {ks : List (Nat × KSpec)} {fu : Nat} (hi : i < 4) : wrB (tb n 4 [] ds ks fu) i = false := by
  have hc : i = 0 ∨ i = 1 ∨ i = 2 ∨ i = 3 := by omega
  rcases hc with rfl | rfl | rfl | rfl <;> rfl

theorem mok_4n {wr : Nat → Bool} {w : World} {b0 b1 b2 b3 : Loc} {q0 q1 q2 q3 : List Pc} (h0 : b0.blk < w.heap.size) (h1 : b1.blk < w.heap.size) (h2 : b2.blk < w.heap.size) (h3 : b3.blk < w.heap.size) (hwr : ∀ i, i < 4 → wr i = false)
    (g0 : BlockOk (tgs [b0, b1, b2, b3]) w 0 q0) (g1 : BlockOk (tgs [b0, b1, b2, b3]) w 1 q1) (g2 : BlockOk (tgs [b0, b1, b2, b3]) w 2 q2) (g3 : BlockOk (tgs [b0, b1, b2, b3]) w 3 q3) :
    MOk wr (tgs [b0, b1, b2, b3]) w [(0, q0), (1, q1), (2, q2), (3, q3)] := by
  refine mok_tgs (fun b' h => ?_) (fun i hi => hwr i hi) fun t l h => ?_
  · simp only [List.mem_cons, List.not_mem_nil, or_false] at h
    rcases h with rfl | rfl | rfl | rfl
    · exact h0
    · exact h1
    · exact h2
    · exact h3
  · rcases lkp_cons h with ⟨rfl, rfl⟩ | h
    · exact g0
    rcases lkp_cons h with ⟨rfl, rfl⟩ | h
    · exact g1
    rcases lkp_cons h with ⟨rfl, rfl⟩ | h
    · exact g2
    rcases lkp_cons h with ⟨rfl, rfl⟩ | h
    · exact g3
    · exact (lkp_nil h).elim

/-- What is told of a slice that is returned. -/
def slR4 (v : V) (m : Mem) : SR := match v with
  | .s (.sl t o n c) => some (Nat.ble 4 t, o, n, c, lkp m t)
  | _ => none
theorem slR4_eq {v : V} {m : Mem} {n c : Nat} {q : List Pc} (h : slR4 v m = some (true, 0, n, c, some q)) : ∃ t, v = .s (.sl t 0 n c) ∧ 4 ≤ t ∧ lkp m t = some q := by
  unfold slR4 at h
  split at h
  · rename_i t o n' c'
    simp only [Option.some.injEq, Prod.mk.injEq] at h
    obtain ⟨h1, rfl, rfl, rfl, h2⟩ := h
    exact ⟨t, rfl, Nat.le_of_ble_eq_true h1, h2⟩
  · cases h

noncomputable abbrev qbB : Code := Try.f43.body.getD .skip
noncomputable abbrev tbQb : Tb := tb Try.f43.ntmps 4 [] dsU0 ksU1 9

set_option maxRecDepth 100000 in
theorem run_qb (X Y Z : F) (G : SR → Prop) : exC2 tbQb qbB ⟨entryV [.s (.p 0 0)] 0, [(0, ptQ), (1, [.fi X]), (2, [.fi Y]), (3, [.fi Z])], 4⟩ (endK tbQb Try.f43.results.toList fun v m _ => G (slR4 v m)) = bytT X Y Z G := by
  kernel_rfl

def kQB : KSpec where
  run := fun _ _ _ _ => False
  outs := fun _ _ => []
  cas := true
  cases := fun args m nt K => match args with
    | [u] => obind (rdPt m u) fun r => ∃ R : Pt, aff r = some R ∧ (R = none → K (.s (.sl nt 0 1 57)) [encP none]) ∧ (∀ x y : F, R = some (x, y) → onc x y → K (.s (.sl nt 0 57 57)) [encP (some (x, y))])
    | _ => False

theorem kQB_ok : KSOk Try.prog 43 kQB where
  enter := enter_in Try.func43 (by kernel_rfl) (by kernel_rfl)
  run := by intro _ _ _ _ _ _ _ _ h; exact h.elim
  cases := by
    intro args m nt K h
    simp only [kQB] at h
    split at h
    · rename_i u
      obtain ⟨r, hr, h1⟩ := obind_some h
      obtain ⟨R, ha, hK1, hK2⟩ := h1
      obtain ⟨X, Y, Z⟩ := r
      have hon := aff_on ha
      have hK : K (.s (.sl nt 0 (lenP R) 57)) [encP R] := by
        match R, hon, hK1, hK2 with
        | none, _, hK1, _ => exact hK1 rfl
        | some (x, y), hon, _, hK2 => exact hK2 x y rfl hon
      refine ⟨_, _, hK, fun wr T w xs hm hx hfr => ?_⟩
      obtain ⟨x, rfl, hv⟩ := vsr1 hx
      obtain ⟨b0, b1, b2, b3, h0, h1, h2, h3, rfl, k0, k1, k2, k3⟩ := rdPt_loc hm hv hr
      refine (run_calls (B := tbQb) (tb_ok dsU0_ok ksU1_ok) Try.func43 (c := qbB) (by kernel_rfl) (by kernel_rfl) (args := [.s (.p 0 0)]) (Nat.le_of_ble_eq_true (by kernel_rfl)) (mok_4n h0 h1 h2 h3 (fun i hi => no4 hi) k0 k1 k2 k3) (vs1 (by rw [V.R]; exact ⟨b0, rfl, rfl⟩)) (fun i hi => tgs_none (show [b0, b1, b2, b3].length ≤ i from hi)) (fun v m _ => sumG R (slR4 v m)) (Eq.mpr (run_qb X Y Z (sumG R)) (bytT_ok ha fun r => ⟨r, rfl⟩))).mono fun e w' hh => ?_
      obtain ⟨y, T', v, m', nt', rfl, hL⟩ := hh
      obtain ⟨q, hq⟩ := hL.post
      obtain ⟨t, rfl, ht, hlk⟩ := slR4_eq hq
      obtain ⟨b, hb, hy⟩ := vr_s hL.val
      have hT0 : tgs [b0, b1, b2, b3] t = none := tgs_none (show [b0, b1, b2, b3].length ≤ t from ht)
      obtain ⟨T'', g1, g2, g3, g4, g5⟩ := lift_new (q2 := encP R) hm hfr hL rfl hT0 hb hlk (fun xs hxs => by
        obtain ⟨h1, h2⟩ := hxs
        rw [flat_append] at h1
        obtain ⟨ys, zs, rfl, a1, a2⟩ := h1.split
        exact ⟨ys, zs, rfl, a1.any (encP_noTag _), (goods_append.1 h2).1⟩)
      exact ⟨T'', y, g1, rfl, by rw [V.R]; exact ⟨b, g2, hy⟩, g3, g4, g5⟩
    · exact h.elim

end Go.Proofs.Ytdaheccfeihpgaa.Nm

/-
  An addend that may be no point: the run, by the shapes of its bytes.
-/
namespace Go.Proofs.Ytdaheccfeihpgaa.Nm
open Go Go.RowKit

noncomputable abbrev kpB : Code := Try.f23.body.getD .skip
noncomputable abbrev tbKp : Tb := tb Try.f23.ntmps 2 [] dsU0 ((43, kQB) :: ksU4) 9
theorem tbKp_ok : TbOk Try.prog tbKp := tb_ok dsU0_ok fun f sp h => by
  rcases lkp_cons h with ⟨rfl, rfl⟩ | h
  · exact kQB_ok
  · exact ksU4_ok f sp h

abbrev KR := Option (SR × Sc × Sc)
/-- What is told: the point's bytes, whether the addend is a point, whether the first is one. -/
def kpR (v : V) (m : Mem) : KR := match v with
  | .tup [.s (.sl t o n c), .s a, .s b] => some (some (Nat.ble 2 t, o, n, c, lkp m t), a, b)
  | _ => none
def kpG (G : KR → Prop) (f : Bool) (R : Pt) : Prop := G (some (some (true, 0, lenP R, 57, some (encP R)), .bl f, .bl true))
/-- The bytes of three coordinates. -/
def qbT (X Y Z : F) (K : Pt → Prop) : Prop := ∃ R : Pt, aff (X, Y, Z) = some R ∧ (R = none → K none) ∧ (∀ x y : F, R = some (x, y) → onc x y → K (some (x, y)))
noncomputable abbrev kpE (G : KR → Prop) : Xt → SS → Prop := endK tbKp Try.f23.results.toList fun v m _ => G (kpR v m)

def kpA (z : Int) (X Y Z : F) (G : KR → Prop) : Prop := (decide (z = 0) = true → qbT 0 1 0 (kpG G true)) ∧ (decide (z = 0) = false → qbT X Y Z (kpG G false))
def kpBy (z : Int) (x y : List Nat) (X Y Z : F) (G : KR → Prop) : Prop := (decide (z = 4) = true → ptT x y (qbT X Y Z (kpG G false)) fun U W => qbT U W 1 (kpG G true)) ∧ (decide (z = 4) = false → qbT X Y Z (kpG G false))
def kpV (q : List Pc) (n : Nat) (X Y Z : F) (G : KR → Prop) : Prop := (flat q).length = n ∧ n < 2147483648 ∧ (∀ s ∈ flat q, noTag s = true) ∧
  (decide ((n : Int) = 1) = true → False) ∧ (decide ((n : Int) = 1) = !true → (decide ((n : Int) = 57) = true → False) ∧ (decide ((n : Int) = 57) = !true → (decide ((n : Int) = 29) = true → False) ∧ (decide ((n : Int) = 29) = !true → qbT X Y Z (kpG G false))))

set_option maxRecDepth 100000 in
theorem run_kp_nN (c : Nat) (G : KR → Prop) : exC2 tbKp kpB ⟨entryV [.s (.sl 0 0 1 c), .s .snil] 0, [(0, encP none)], 2⟩ (kpE G) = qbT 0 1 0 (kpG G false) := by
  kernel_rfl
set_option maxRecDepth 100000 in
theorem run_kp_sN (x y : F) (c : Nat) (G : KR → Prop) : exC2 tbKp kpB ⟨entryV [.s (.sl 0 0 57 c), .s .snil] 0, [(0, encP (some (x, y)))], 2⟩ (kpE G) = ptT (bytesBE x.val) (bytesBE y.val) (G none) fun X Y => qbT X Y 1 (kpG G false) := by
  kernel_rfl
set_option maxRecDepth 100000 in
theorem run_kp_nA (z : Int) (c d : Nat) (G : KR → Prop) : exC2 tbKp kpB ⟨entryV [.s (.sl 0 0 1 c), .s (.sl 1 0 1 d)] 0, [(0, encP none), (1, [.c (.sym .u8 z)])], 2⟩ (kpE G) = kpA z 0 1 0 G := by
  kernel_rfl
set_option maxRecDepth 100000 in
theorem run_kp_sA (x y : F) (z : Int) (c d : Nat) (G : KR → Prop) : exC2 tbKp kpB ⟨entryV [.s (.sl 0 0 57 c), .s (.sl 1 0 1 d)] 0, [(0, encP (some (x, y))), (1, [.c (.sym .u8 z)])], 2⟩ (kpE G) = ptT (bytesBE x.val) (bytesBE y.val) (G none) fun X Y => kpA z X Y 1 G := by
  kernel_rfl
set_option maxRecDepth 100000 in
theorem run_kp_nB (z : Int) (u v : List Nat) (c d : Nat) (G : KR → Prop) : exC2 tbKp kpB ⟨entryV [.s (.sl 0 0 1 c), .s (.sl 1 0 57 d)] 0, [(0, encP none), (1, [.c (.sym .u8 z), .bt u, .bt v])], 2⟩ (kpE G) = kpBy z u v 0 1 0 G := by
  kernel_rfl
set_option maxRecDepth 100000 in
theorem run_kp_sB (x y : F) (z : Int) (u v : List Nat) (c d : Nat) (G : KR → Prop) : exC2 tbKp kpB ⟨entryV [.s (.sl 0 0 57 c), .s (.sl 1 0 57 d)] 0, [(0, encP (some (x, y))), (1, [.c (.sym .u8 z), .bt u, .bt v])], 2⟩ (kpE G) = ptT (bytesBE x.val) (bytesBE y.val) (G none) fun X Y => kpBy z u v X Y 1 G := by
  kernel_rfl
set_option maxRecDepth 100000 in
theorem run_kp_nV (q : List Pc) (n c : Nat) (G : KR → Prop) : exC2 tbKp kpB ⟨entryV [.s (.sl 0 0 1 c), .s (.slv 1 n)] 0, [(0, encP none), (1, q)], 2⟩ (kpE G) = kpV q n 0 1 0 G := by
  kernel_rfl
set_option maxRecDepth 100000 in
theorem run_kp_sV (x y : F) (q : List Pc) (n c : Nat) (G : KR → Prop) : exC2 tbKp kpB ⟨entryV [.s (.sl 0 0 57 c), .s (.slv 1 n)] 0, [(0, encP (some (x, y))), (1, q)], 2⟩ (kpE G) = ptT (bytesBE x.val) (bytesBE y.val) (G none) fun X Y => kpV q n X Y 1 G := by
  kernel_rfl

end Go.Proofs.Ytdaheccfeihpgaa.Nm

/-
  An addend that may be no point: the contract.
-/
namespace Go.Proofs.Ytdaheccfeihpgaa.Nm
open Go Go.RowKit

def kpo (f : Bool) (R : Pt) : KR := some (some (true, 0, lenP R, 57, some (encP R)), .bl f, .bl true)
/-- What is to be told: the addend's bytes if it is a point, else the first's. -/
def kpW (bs : Option (List Int)) (P : Pt) (r : KR) : Prop := (∃ Q : Pt, bs = some (encN Q) ∧ onP Q ∧ r = kpo true Q) ∨ ((∀ l, bs = some l → ¬ isPt l) ∧ r = kpo false P)

theorem qbT_ok {X Y Z : F} {R : Pt} {K : Pt → Prop} (h : aff (X, Y, Z) = some R) (hK : K R) : qbT X Y Z K := ⟨R, h, fun e => e ▸ hK, fun _ _ e _ => e ▸ hK⟩
theorem aff_inf0 : aff (0, 1, 0) = some none := trP_aff (P := none) trivial
theorem aff_one {x y : F} (h : onc x y) : aff (x, y, 1) = some (some (x, y)) := trP_aff (P := some (x, y)) h

theorem isPt_some {z : Int} {x y : List Nat} (hx : x.length = 28) (h : isPt (b57 z x y)) : ∃ u v : F, z = 4 ∧ x = bytesBE u.val ∧ y = bytesBE v.val ∧ onc u v := by
  obtain ⟨P, h, hon⟩ := h
  match P, hon with
  | none, _ =>
    have := congrArg List.length h
    simp [encN, hx] at this
  | some (u, v), hon =>
    simp only [encN, List.cons.injEq, List.append_nil] at h
    obtain ⟨hz, h⟩ := h
    have hl : ((x.map fun (b : Nat) => (b : Int))).length = ((bytesBE u.val).map fun (b : Nat) => (b : Int)).length := by simp [hx, bytesBE_length]
    obtain ⟨h1, h2⟩ := List.append_inj h hl
    exact ⟨u, v, hz, map_inj h1, map_inj h2, hon⟩

theorem onc_of_poly {x y : F} (h : polyF x = y * y) : onc x y := by
  unfold polyF at h
  rw [ring_3] at h
  exact h.symm

theorem kpA_ok {z : Int} {X Y Z : F} {P : Pt} (h : aff (X, Y, Z) = some P) : kpA z X Y Z (kpW (some [z]) P) := by
  refine ⟨fun hd => qbT_ok aff_inf0 (.inl ⟨none, ?_, trivial, rfl⟩), fun hd => qbT_ok h (.inr ⟨fun l hl hp => ?_, rfl⟩)⟩
  · have hz : z = 0 := of_decide_eq_true hd
    rw [hz]; rfl
  · cases hl
    exact of_decide_eq_false hd (isPt_1.1 hp)

theorem kpBy_ok {z : Int} {x y : List Nat} {X Y Z : F} {P : Pt} (hx : x.length = 28) (hy : y.length = 28) (bx : ∀ b ∈ x, b < 256) (by' : ∀ b ∈ y, b < 256) (h : aff (X, Y, Z) = some P) : kpBy z x y X Y Z (kpW (some (b57 z x y)) P) := by
  have no : (isPt (b57 z x y) → False) → kpG (kpW (some (b57 z x y)) P) false P := fun hn => .inr ⟨fun l hl hp => by cases hl; exact hn hp, rfl⟩
  have val : ∀ u : F, nBE (bytesBE u.val) = u.val := fun u => nBE_bytesBE (Nat.lt_trans u.isLt (by decide))
  refine ⟨fun hd => ⟨fun hx1 => ⟨fun hy1 => ⟨fun hp => ?_, fun hp => ?_⟩, fun hy1 => ?_⟩, fun hx1 => ?_⟩, fun hd => ?_⟩
  · have hz : z = 4 := of_decide_eq_true hd
    have hon := onc_of_poly hp
    refine qbT_ok (aff_one hon) (.inl ⟨some (⟨nBE x, hx1⟩, ⟨nBE y, hy1⟩), ?_, hon, rfl⟩)
    simp only [encN, bytesBE_nBE hx bx, bytesBE_nBE hy by', hz]
  · refine qbT_ok h (no fun hpt => hp ?_)
    obtain ⟨u, v, _, rfl, rfl, hon⟩ := isPt_some hx hpt
    rw [fin_mk, fin_mk]
    exact onc_polyF hon
  · refine qbT_ok h (no fun hpt => hy1 ?_)
    obtain ⟨u, v, _, rfl, rfl, hon⟩ := isPt_some hx hpt
    rw [val]; exact v.isLt
  · refine qbT_ok h (no fun hpt => hx1 ?_)
    obtain ⟨u, v, _, rfl, rfl, hon⟩ := isPt_some hx hpt
    rw [val]; exact u.isLt
  · refine qbT_ok h (no fun hpt => ?_)
    obtain ⟨u, v, hz, _⟩ := isPt_some hx hpt
    exact of_decide_eq_false hd hz

theorem kpV_ok {q : List Pc} {n : Nat} {X Y Z : F} {P : Pt} (h1 : (flat q).length = n) (h2 : n < 2147483648) (h3 : ∀ s ∈ flat q, noTag s = true) (k1 : n ≠ 1) (k2 : n ≠ 57) (k3 : n ≠ 29) (h : aff (X, Y, Z) = some P) : kpV q n X Y Z (kpW none P) := by
  have key : ∀ k : Nat, n ≠ k → decide ((n : Int) = (k : Int)) = true → False := fun k hk hd => hk (by have := of_decide_eq_true hd; omega)
  exact ⟨h1, h2, h3, key 1 k1, fun _ => ⟨key 57 k2, fun _ => ⟨key 29 k3, fun _ => qbT_ok h (.inr ⟨fun l hl => (by cases hl), rfl⟩)⟩⟩⟩

theorem kpN_ok {X Y Z : F} {P : Pt} (h : aff (X, Y, Z) = some P) : qbT X Y Z (kpG (kpW none P) false) := qbT_ok h (.inr ⟨fun l hl => (by cases hl), rfl⟩)

set_option maxRecDepth 100000 in
/-- The run, whatever the first point is. -/
theorem kp_run {P : Pt} (hP : onP P) (c : Nat) {s : Sc} {mb : Mem} {bs : Option (List Int)} {L : F → F → F → (KR → Prop) → Prop}
    (hn : ∀ G, exC2 tbKp kpB ⟨entryV [.s (.sl 0 0 1 c), .s s] 0, (0, encP none) :: mb, 2⟩ (kpE G) = L 0 1 0 G)
    (hs : ∀ x y G, exC2 tbKp kpB ⟨entryV [.s (.sl 0 0 57 c), .s s] 0, (0, encP (some (x, y))) :: mb, 2⟩ (kpE G) = ptT (bytesBE x.val) (bytesBE y.val) (G none) fun X Y => L X Y 1 G)
    (hL : ∀ X Y Z, aff (X, Y, Z) = some P → L X Y Z (kpW bs P)) : exC2 tbKp kpB ⟨entryV [.s (.sl 0 0 (lenP P) c), .s s] 0, (0, encP P) :: mb, 2⟩ (kpE (kpW bs P)) := by
  match P, hP, hL with
  | none, _, hL => exact Eq.mpr (hn _) (hL 0 1 0 aff_inf0)
  | some (x, y), hon, hL => exact Eq.mpr (hs x y _) (ptT_ok hon (hL x y 1 (aff_one hon)))

theorem kpR_eq {v : V} {m : Mem} {f : Bool} {R : Pt} (h : kpR v m = kpo f R) : ∃ t, v = .tup [.s (.sl t 0 (lenP R) 57), .s (.bl f), .s (.bl true)] ∧ 2 ≤ t ∧ lkp m t = some (encP R) := by
  unfold kpR at h
  split at h
  · rename_i t o n c a b
    simp only [kpo, Option.some.injEq, Prod.mk.injEq] at h
    obtain ⟨⟨h1, rfl, rfl, rfl, h2⟩, rfl, rfl⟩ := h
    exact ⟨t, rfl, Nat.le_of_ble_eq_true h1, h2⟩
  · cases h

abbrev kpD (wr : Nat → Bool) (T : Tg) (w : World) (m : Mem) (nt : Nat) (f : Bool) (R : Pt) (e : Ending) (w' : World) : Prop :=
  DEnd wr T w m nt (.tup [.s (.sl nt 0 (lenP R) 57), .s (.bl f), .s (.bl true)]) [encP R] e w'

theorem kp_calls {wr : Nat → Bool} {T T0 : Tg} {w : World} {m mb : Mem} {nt c : Nat} {P : Pt} {x1 x2 : Value} {s : Sc} {bs : Option (List Int)} (hm : MOk wr T w m) (hfree : ∀ t, nt ≤ t → T t = none) (hm0 : MOk (wrB tbKp) T0 w ((0, encP P) :: mb))
    (hx : VsR T0 [.s (.sl 0 0 (lenP P) c), .s s] [x1, x2]) (hT0 : ∀ t, 2 ≤ t → T0 t = none) (h : exC2 tbKp kpB ⟨entryV [.s (.sl 0 0 (lenP P) c), .s s] 0, (0, encP P) :: mb, 2⟩ (kpE (kpW bs P))) :
    Calls Try.prog 23 #[x1, x2] w fun e w' => (∃ Q : Pt, bs = some (encN Q) ∧ onP Q ∧ kpD wr T w m nt true Q e w') ∨ ((∀ l, bs = some l → ¬ isPt l) ∧ kpD wr T w m nt false P e w') := by
  refine (run_calls (B := tbKp) tbKp_ok Try.func23 (c := kpB) (by kernel_rfl) (by kernel_rfl) (args := [.s (.sl 0 0 (lenP P) c), .s s]) (Nat.le_of_ble_eq_true (by kernel_rfl)) hm0 hx hT0 (fun v m _ => kpW bs P (kpR v m)) h).mono fun e w' hh => ?_
  obtain ⟨y, T', v, m', nt', rfl, hL⟩ := hh
  have key : ∀ f R, kpR v m' = kpo f R → kpD wr T w m nt f R (.returned y) w' := fun f R hq => by
    obtain ⟨t, rfl, ht, hlk⟩ := kpR_eq hq
    have hval := hL.val
    rw [V.R] at hval
    obtain ⟨ys, rfl, hys⟩ := hval
    obtain ⟨y1, y2, y3, rfl, hy1, hy2, hy3⟩ := vsr3 hys
    obtain ⟨b, hb, hy⟩ := vr_s hy1
    obtain ⟨T'', g1, g2, g3, g4, g5⟩ := lift_new (q2 := encP R) hm (fun k _ => hfree (nt + k) (by omega)) hL rfl (hT0 t ht) hb hlk (fun xs hxs => by
      obtain ⟨h1, h2⟩ := hxs
      exact ⟨xs, [], by simp, h1.any (encP_noTag _), h2⟩)
    refine ⟨T'', _, g1, rfl, ?_, g3, g4, g5⟩
    rw [V.R]
    refine ⟨_, rfl, vs3 (by rw [V.R]; exact ⟨b, g2, hy⟩) ?_ ?_⟩
    · rw [V.R]; exact vr_s hy2
    · rw [V.R]; exact vr_s hy3
  rcases hL.post with ⟨Q, h1, h2, h3⟩ | ⟨h1, h2⟩
  · exact .inl ⟨Q, h1, h2, key _ _ h3⟩
  · exact .inr ⟨h1, key _ _ h2⟩

/-! ### The contract -/
def kpOut (m : Mem) (nt : Nat) (K : V → Mem → Nat → Prop) (f : Bool) (R : Pt) : Prop :=
  (R = none → K (.tup [.s (.sl nt 0 1 57), .s (.bl f), .s (.bl true)]) (addF m nt [encP none]) (nt + 1)) ∧
  (∀ u v : F, R = some (u, v) → onc u v → K (.tup [.s (.sl nt 0 57 57), .s (.bl f), .s (.bl true)]) (addF m nt [encP (some (u, v))]) (nt + 1))

def kKp : KSpec where
  run := fun args m nt K => match args with
    | [a, .s .snil] => obind (rdBs m a) fun l => ∃ P : Pt, l = encN P ∧ onP P ∧ kpOut m nt K false P
    | [a, .s (.slv t n)] => obind (rdBs m a) fun l => obind (lkp m t) fun q => (flat q).length = n ∧ n < 2147483648 ∧ (∀ s ∈ flat q, noTag s = true) ∧ n ≠ 1 ∧ n ≠ 57 ∧ n ≠ 29 ∧ ∃ P : Pt, l = encN P ∧ onP P ∧ kpOut m nt K false P
    | [a, u] => obind (rdBs m a) fun l => obind (okCap u) fun n => onb (Nat.beq n 1 || Nat.beq n 57) (obind (rdBs m u) fun bs => ∃ P : Pt, l = encN P ∧ onP P ∧ (∀ Q : Pt, bs = encN Q → onP Q → kpOut m nt K true Q) ∧ (¬ isPt bs → kpOut m nt K false P))
    | _ => False
  outs := noOut

theorem kpOut_end {wr : Nat → Bool} {T : Tg} {w w' : World} {m : Mem} {nt : Nat} {f : Bool} {R : Pt} {e : Ending} {K : V → Mem → Nat → Prop} {o : List Nat} (h : kpD wr T w m nt f R e w') (hfree : ∀ t, nt ≤ t → T t = none) (hR : onP R) (hK : kpOut m nt K f R) : KEnd wr T w nt o K e w' := by
  match R, h, hR, hK with
  | none, h, _, hK => exact KEnd.of h hfree (hK.1 rfl)
  | some (u, v), h, hR, hK => exact KEnd.of h hfree (hK.2 u v rfl hR)

theorem kKp_ok : KSOk Try.prog 23 kKp where
  enter := enter_in Try.func23 (by kernel_rfl) (by kernel_rfl)
  run := by
    intro wr T w m nt args xs K h hm hx hfree hwr
    simp only [kKp] at h
    split at h
    · rename_i ua
      obtain ⟨l, e1, P, rfl, hP, hK⟩ := obind_some h
      obtain ⟨x1, x2, rfl, hv1, hv2⟩ := vsr2 hx
      obtain ⟨b1, c1, hl1, rfl, hR1⟩ := enc_loc hm hv1 e1
      refine (kp_calls (T0 := tgs [b1]) (bs := none) hm hfree (mok_1n hl1 (no2 (by omega)) (hR1 _ _ rfl)) (vs2 (by rw [V.R]; exact ⟨b1, rfl, rfl⟩) (by rw [V.R]; exact vr_s hv2)) (fun i hi => tgs_none (show 1 ≤ i by omega)) (kp_run (s := .snil) (L := fun X Y Z G => qbT X Y Z (kpG G false)) hP c1 (run_kp_nN c1) (fun x y => run_kp_sN x y c1) fun X Y Z ha => kpN_ok ha)).mono fun e w' hh => ?_
      rcases hh with ⟨Q, h1, _⟩ | ⟨_, h2⟩
      · cases h1
      · exact kpOut_end h2 hfree hP hK
    · rename_i ua t n
      obtain ⟨l, e1, h1⟩ := obind_some h
      obtain ⟨q, e2, hq1, hq2, hq3, k1, k2, k3, P, rfl, hP, hK⟩ := obind_some h1
      obtain ⟨x1, x2, rfl, hv1, hv2⟩ := vsr2 hx
      obtain ⟨b1, c1, hl1, rfl, hR1⟩ := enc_loc hm hv1 e1
      obtain ⟨b2, hb2, c2, rfl, hlt⟩ := vr_s hv2
      have hB2 : BlockOk (tgs [b1, b2]) w 1 q := by
        obtain ⟨b', c, ty, pre, ys, rest, g1, g2, g3, g4, g5⟩ := hm.at_ t q e2
        rw [hb2] at g1; cases g1
        exact ⟨b2, c, ty, pre, ys, rest, rfl, g2, g3, g4, g5.1.any hq3, g5.2⟩
      refine (kp_calls (T0 := tgs [b1, b2]) (bs := none) hm hfree (mok_2n hl1 (hm.lt t b2 hb2) (fun i hi => no2 hi) (hR1 _ _ rfl) hB2) (vs2 (by rw [V.R]; exact ⟨b1, rfl, rfl⟩) (by rw [V.R]; exact ⟨b2, rfl, c2, rfl, hlt⟩)) (fun i hi => tgs_none (show 2 ≤ i from hi)) (kp_run (s := .slv 1 n) (mb := [(1, q)]) (L := fun X Y Z G => kpV q n X Y Z G) hP c1 (run_kp_nV q n c1) (fun x y => run_kp_sV x y q n c1) fun X Y Z ha => kpV_ok hq1 hq2 hq3 k1 k2 k3 ha)).mono fun e w' hh => ?_
      rcases hh with ⟨Q, h1, _⟩ | ⟨_, h2⟩
      · cases h1
      · exact kpOut_end h2 hfree hP hK
    · rename_i ua u _ _
      obtain ⟨l, e1, h1⟩ := obind_some h
      clear h
      obtain ⟨n, hcap, h2⟩ := obind_some h1
      clear h1
      obtain ⟨hn, h3⟩ := onb_true h2
      clear h2
      obtain ⟨bs, hbs, P, rfl, hP, hyes, hno⟩ := obind_some h3
      clear h3
      obtain ⟨x1, x2, rfl, hv1, hv2⟩ := vsr2 hx
      obtain ⟨b1, c1, hl1, rfl, hR1⟩ := enc_loc hm hv1 e1
      obtain ⟨_, _, _, _, hlen, _, _, _⟩ := okCap_loc hm hv2 hcap hbs
      obtain ⟨b2, q, c2, hl2, hnum, _, hbyte, rfl, hR2⟩ := rdBs_ok hm hv2 hbs
      have hsh : ∃ q', numsOf (flat q') = some bs ∧ goods q' ∧ exC2 tbKp kpB ⟨entryV [.s (.sl 0 0 (lenP P) c1), .s (.sl 1 0 n c2)] 0, [(0, encP P), (1, q')], 2⟩ (kpE (kpW (some bs) P)) := by
        simp only [Bool.or_eq_true, Nat.beq_eq] at hn
        rcases hn with rfl | rfl
        · match bs, hlen with
          | [z], _ => exact ⟨[.c (.sym .u8 z)], rfl, goods_cons.2 ⟨trivial, fun p hp => by cases hp⟩, kp_run (s := .sl 1 0 1 c2) (mb := [(1, [.c (.sym .u8 z)])]) (L := fun X Y Z G => kpA z X Y Z G) hP c1 (run_kp_nA z c1 c2) (fun x y => run_kp_sA x y z c1 c2) fun X Y Z ha => kpA_ok ha⟩
        · obtain ⟨z, x, y, gx, gy, bx, by', rfl⟩ := split57 hlen hbyte
          have hg : goods [Pc.c (.sym .u8 z), .bt x, .bt y] := goods_cons.2 ⟨trivial, goods_cons.2 ⟨⟨gx, bx⟩, goods_cons.2 ⟨⟨gy, by'⟩, fun p hp => by cases hp⟩⟩⟩
          exact ⟨[.c (.sym .u8 z), .bt x, .bt y], numsP_ok hg rfl, hg, kp_run (s := .sl 1 0 57 c2) (mb := [(1, [.c (.sym .u8 z), .bt x, .bt y])]) (L := fun X Y Z G => kpBy z x y X Y Z G) hP c1 (run_kp_nB z x y c1 c2) (fun u v => run_kp_sB u v z x y c1 c2) fun X Y Z ha => kpBy_ok gx gy bx by' ha⟩
      obtain ⟨q', hq', hg', hrun⟩ := hsh
      refine (kp_calls (T0 := tgs [b1, b2]) hm hfree (mok_2n hl1 hl2 (fun i hi => no2 hi) (hR1 _ _ rfl) (nums_blk (hR2 _ _ rfl) hnum hq' hg')) (vs2 (by rw [V.R]; exact ⟨b1, rfl, rfl⟩) (by rw [V.R]; exact ⟨b2, rfl, by rw [hlen]; rfl⟩)) (fun i hi => tgs_none (show 2 ≤ i from hi)) hrun).mono fun e w' hh => ?_
      rcases hh with ⟨Q, h1, hQ, h2⟩ | ⟨h1, h2⟩
      · cases h1
        exact kpOut_end h2 hfree hQ (hyes Q rfl hQ)
      · exact kpOut_end h2 hfree hP (hno (h1 _ rfl))
    · exact h.elim

end Go.Proofs.Ytdaheccfeihpgaa.Nm

