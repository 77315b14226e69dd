import Derived.Test.YtdaheccfeihpgaaPb
import Derived.Test.YtdaheccfeihpgaaH
/-
  Points of the specification, read from bytes.
-/
/-
  A point of bytes by the specification: its run.
-/
namespace Go.Proofs.Ytdaheccfeihpgaa.Nm
open Go Go.RowKit

def dsRd : List (Nat × DSpec) := (9, dNumber) :: (12, dPrime) :: (11, dBelow) :: (39, dOn) :: dsX3
theorem dsRd_ok : ∀ f sp, lkp dsRd f = some sp → DSOk Try.prog f sp := by
  intro f sp h
  rcases lkp_cons h with ⟨rfl, rfl⟩ | h
  · exact dNumber_ok
  rcases lkp_cons h with ⟨rfl, rfl⟩ | h
  · exact dPrime_ok
  rcases lkp_cons h with ⟨rfl, rfl⟩ | h
  · exact dBelow_ok
  rcases lkp_cons h with ⟨rfl, rfl⟩ | h
  · exact dOn_ok
  · exact dsX3_ok f sp h

def isSlc : Sc → Option Nat
  | .snil => some 0
  | .sl _ _ n _ => some n
  | _ => none
def isBo : Sc → Option Bool
  | .bl b => some b
  | .bs b => some b
  | _ => none
abbrev RdR := Option (Option Bool × Option Nat × Option Nat × Sc)
/-- What is told of a point that is returned, and whether it is one. -/
def dgR (v : V) : RdR := match v with
  | .tup [.agg [.c a, .c b, .c c], .s s] => some (isBo a, isSlc b, isSlc c, s)
  | _ => none
def rdF (b : Bool) : RdR := some (some b, some 0, some 0, .bl b)
def rdS (s : Sc) : RdR := some (some false, some 7, some 7, s)

noncomputable abbrev rdB : Code := Try.f22.body.getD .skip
noncomputable abbrev tbRd : Tb := tb Try.f22.ntmps 2 [] dsRd [] 9

noncomputable def rdO : Array Oper := regOps (cdL (dropC 4 rdB))
theorem rdB_eq : dropC 4 rdB = .seq (.region 6 rdO true) .ret := by kernel_rfl
theorem rdB_has : hasC 4 rdB = true := by kernel_rfl
noncomputable abbrev rdE (G : RdR → Prop) : Xt → SS → Prop := endK tbRd Try.f22.results.toList fun v _ _ => G (dgR v)
/-- What is to be shown behind the first pieces. -/
noncomputable def rdK (G : RdR → Prop) (x : Xt) (s : SS) : Prop := match x with
  | .normal => exRegL tbRd rdO.toList 21 s (rdE G .ret)
  | x => rdE G x s

set_option maxRecDepth 100000 in
theorem run_rd1 (z : Int) (G : RdR → Prop) : exC2 tbRd (takeC 4 rdB) ⟨entryV [cv 1, .s (.slu 0 0 1)] 0, [(0, [.c (.sym .u8 z)]), (1, foldsC)], 2⟩ (rdK G) =
    ((decide (z = 0) = true → G (rdF true)) ∧ (decide (z = 0) = false → G (rdF false))) := by
  kernel_rfl

def rd57L (z : Int) (x y : Nat) (G : RdR → Prop) : Prop :=
  ((!decide (z = 4)) = true → G (rdF false)) ∧ ((!decide (z = 4)) = false →
    (decide (x < PN) = true → (decide (y < PN) = true → G (rdS (.bs (decide (timesN y y = rightN x)))) ∧ G (rdS (.bs (decide (timesN y y = rightN x))))) ∧ (decide (y < PN) = false → G (rdS (.bl false)) ∧ G (rdS (.bl false)))) ∧ (decide (x < PN) = false → G (rdS (.bl false)) ∧ G (rdS (.bl false))))
set_option maxRecDepth 100000 in
theorem run_rd57 (z : Int) (x y : List Nat) (G : RdR → Prop) : exC2 tbRd (takeC 4 rdB) ⟨entryV [cv 1, .s (.slu 0 0 57)] 0, [(0, [.c (.sym .u8 z), .bt x, .bt y]), (1, foldsC)], 2⟩ (rdK G) =
    rd57L z (nBE x) (nBE y) G := by
  kernel_rfl

set_option maxRecDepth 100000 in
theorem run_rdv (n : Nat) (G : RdR → Prop) : exC2 tbRd (takeC 4 rdB) ⟨entryV [cv 1, .s (.slv 0 n)] 0, [(1, foldsC)], 2⟩ (rdK G) =
    ((decide ((n : Int) = 1) = true → False) ∧ (decide ((n : Int) = 1) = !true → ((!decide ((n : Int) = 57)) = false → False) ∧ ((!decide ((n : Int) = 57)) = !false → G (rdF false)))) := by
  kernel_rfl

set_option maxRecDepth 100000 in
theorem run_rdn (G : RdR → Prop) : exC2 tbRd (takeC 4 rdB) ⟨entryV [cv 1, .s .snil] 0, [(1, foldsC)], 2⟩ (rdK G) = G (rdF false) := by
  kernel_rfl

end Go.Proofs.Ytdaheccfeihpgaa.Nm

/-
  A point of bytes by the specification: the contract.
-/
namespace Go.Proofs.Ytdaheccfeihpgaa.Nm
open Go Go.RowKit

/-! ### Bytes and numbers -/
theorem dig_le_zero (a : Nat) (r : List Nat) (h : a < 256) : dig (le (a :: r)) 0 = a := by
  unfold dig le
  rw [Nat.pow_zero, Nat.div_one]
  omega
theorem dig_le_succ (a : Nat) (r : List Nat) (k : Nat) (h : a < 256) : dig (le (a :: r)) (k + 1) = dig (le r) k := by
  unfold dig
  have e : le (a :: r) = a + 256 * le r := rfl
  have e2 : 256 ^ (k + 1) = 256 * 256 ^ k := by rw [Nat.pow_succ, Nat.mul_comm]
  rw [e, e2, ← Nat.div_div_eq_div_mul]
  have : (a + 256 * le r) / 256 = le r := by omega
  rw [this]
theorem digs_le : ∀ l : List Nat, (∀ b ∈ l, b < 256) → (List.range l.length).map (dig (le l)) = l
  | [], _ => rfl
  | a :: r, h => by
    have ha := h a (by simp)
    have ih := digs_le r fun b hb => h b (by simp [hb])
    rw [List.length_cons, List.range_succ_eq_map, List.map_cons, List.map_map, dig_le_zero a r ha]
    congr 1
    conv => rhs; rw [← ih]
    apply List.map_congr_left
    intro k _
    exact dig_le_succ a r k ha
theorem bytesBE_nBE {bs : List Nat} (h : bs.length = 28) (hb : ∀ b ∈ bs, b < 256) : bytesBE (nBE bs) = bs := by
  unfold bytesBE bytesOf nBE
  have := digs_le bs.reverse (fun b hb' => hb b (by simpa using hb'))
  rw [List.length_reverse, h] at this
  rw [this, List.reverse_reverse]

/-- Bytes as one and twice twenty-eight. -/
theorem split57 {bs : List Int} (h : bs.length = 57) (hb : ∀ n ∈ bs, 0 ≤ n ∧ n < 256) : ∃ (z : Int) (x y : List Nat), x.length = 28 ∧ y.length = 28 ∧ (∀ b ∈ x, b < 256) ∧ (∀ b ∈ y, b < 256) ∧ bs = z :: ((x.map fun (b : Nat) => (b : Int)) ++ ((y.map fun (b : Nat) => (b : Int)) ++ [])) := by
  match bs, h with
  | z :: r, h =>
    have hr : r.length = 56 := by simpa using h
    have hbr : ∀ n ∈ r, 0 ≤ n ∧ n < 256 := fun n hn => hb n (by simp [hn])
    have key : ∀ l : List Int, (∀ n ∈ l, 0 ≤ n ∧ n < 256) → ((l.map Int.toNat).map fun (b : Nat) => (b : Int)) = l := by
      intro l hl
      rw [List.map_map]
      conv => rhs; rw [← List.map_id l]
      apply List.map_congr_left
      intro n hn
      have := hl n hn
      simp only [Function.comp_apply, id_eq]
      omega
    have kb : ∀ l : List Int, (∀ n ∈ l, 0 ≤ n ∧ n < 256) → ∀ b ∈ l.map Int.toNat, b < 256 := by
      intro l hl b hb
      obtain ⟨n, hn, rfl⟩ := List.mem_map.1 hb
      have := hl n hn
      omega
    have h1 : ∀ n ∈ r.take 28, 0 ≤ n ∧ n < 256 := fun n hn => hbr n (List.mem_of_mem_take hn)
    have h2 : ∀ n ∈ r.drop 28, 0 ≤ n ∧ n < 256 := fun n hn => hbr n (List.mem_of_mem_drop hn)
    refine ⟨z, (r.take 28).map Int.toNat, (r.drop 28).map Int.toNat, by simp [hr], by simp [hr], kb _ h1, kb _ h2, ?_⟩
    rw [key _ h1, key _ h2, List.append_nil, List.take_append_drop]

theorem map_inj {x y : List Nat} (h : (x.map fun (b : Nat) => (b : Int)) = y.map fun (b : Nat) => (b : Int)) : x = y := by
  induction x generalizing y with
  | nil => cases y with
    | nil => rfl
    | cons b r => cases h
  | cons a q ih => cases y with
    | nil => cases h
    | cons b r =>
      simp only [List.map_cons, List.cons.injEq] at h
      have e : a = b := by omega
      rw [e, ih h.2]

/-! ### Points and their bytes -/
def isPt (bs : List Int) : Prop := ∃ P : Pt, bs = encN P ∧ onP P

theorem isPt_1 {z : Int} : isPt [z] ↔ z = 0 := by
  constructor
  · rintro ⟨P, h, _⟩
    match P with
    | none => simpa [encN] using h
    | some (x, y) =>
      have := congrArg List.length h
      rw [encN_length] at this
      cases this
  · rintro rfl
    exact ⟨none, rfl, trivial⟩

theorem isPt_57 {z : Int} {x y : List Nat} (hx : x.length = 28) (hy : y.length = 28) (bx : ∀ b ∈ x, b < 256) (by' : ∀ b ∈ y, b < 256) :
    isPt (z :: ((x.map fun (b : Nat) => (b : Int)) ++ ((y.map fun (b : Nat) => (b : Int)) ++ []))) ↔ z = 4 ∧ nBE x < PN ∧ nBE y < PN ∧ timesN (nBE y) (nBE y) = rightN (nBE x) := by
  constructor
  · rintro ⟨P, h, hon⟩
    match P, hon with
    | none, _ =>
      have := congrArg List.length h
      simp [encN, hx, hy] at this
    | some (u, v), hon =>
      simp only [encN, List.cons.injEq, List.append_nil] at h
      obtain ⟨hz, h⟩ := h
      have hl : ((x.map fun (b : Nat) => (b : Int))).length = ((bytesBE u.val).map fun (b : Nat) => (b : Int)).length := by simp [hx, bytesBE_length]
      obtain ⟨h1, h2⟩ := List.append_inj h hl
      have e1 := map_inj h1
      have e2 := map_inj h2
      have n1 : nBE (bytesBE u.val) = u.val := nBE_bytesBE (Nat.lt_trans u.isLt (by decide))
      have n2 : nBE (bytesBE v.val) = v.val := nBE_bytesBE (Nat.lt_trans v.isLt (by decide))
      rw [e1, e2, n1, n2]
      have hon : v * v = u * u * u - 3 * u + cb := hon
      exact ⟨hz, u.isLt, v.isLt, by rw [v_times, v_right, hon]⟩
  · rintro ⟨rfl, h1, h2, h3⟩
    have e3 : timesN (⟨nBE y, h2⟩ : F).val (⟨nBE y, h2⟩ : F).val = rightN (⟨nBE x, h1⟩ : F).val := h3
    rw [v_times, v_right] at e3
    exact ⟨some (⟨nBE x, h1⟩, ⟨nBE y, h2⟩), by simp only [encN, bytesBE_nBE hx bx, bytesBE_nBE hy by'], Fin.ext e3⟩

/-! ### The contract -/
def ptX (b : Bool) (n k : Nat) : V := .agg [.c (.bs b), .c (.slx n), .c (.slx k)]
def rdNo (m : Mem) (nt : Nat) (K : V → Mem → Nat → Prop) : Prop := ∀ b n k, K (.tup [ptX b n k, .s (.bl false)]) m nt
/-- The length of a slice that has the room. -/
def okCap : V → Option Nat
  | .s (.sl _ _ n c) => bif Nat.ble n c then some n else none
  | .s (.slu _ _ n) => some n
  | _ => none

def kRd : KSpec where
  run := fun args m nt K => match args with
    | [c, .s .snil] => obind (cvT c) fun tf => onb (fdOk m tf) (rdNo m nt K)
    | [c, .s (.slv _ n)] => obind (cvT c) fun tf => onb (fdOk m tf) (n ≠ 1 ∧ n ≠ 57 ∧ rdNo m nt K)
    | [c, u] => obind (cvT c) fun tf => onb (fdOk m tf) (obind (okCap u) fun n => onb (Nat.beq n 1 || Nat.beq n 57) (obind (rdBs m u) fun bs => (isPt bs → ∀ b n k, K (.tup [ptX b n k, .s (.bl true)]) m nt) ∧ (¬ isPt bs → rdNo m nt K)))
    | _ => False
  outs := noOut

theorem okCap_loc {wr : Nat → Bool} {T : Tg} {w : World} {m : Mem} (hm : MOk wr T w m) {u : V} {x : Value} {n : Nat} {bs : List Int} (hu : u.R T x) (hc : okCap u = some n) (h : rdBs m u = some bs) :
    ∃ (b : Loc) (q : List Pc), b.blk < w.heap.size ∧ numsOf (flat q) = some bs ∧ bs.length = n ∧ (∀ z ∈ bs, 0 ≤ z ∧ z < 256) ∧ (∀ T' i, T' i = some b → (V.s (.slu i 0 n)).R T' x) ∧ ∀ T' i, T' i = some b → BlockOk T' w i q := by
  obtain ⟨b0, q, c0, hl, hn, hlen, hb, rfl, hR⟩ := rdBs_ok hm hu h
  unfold okCap at hc
  split at hc
  · rename_i t o n' c
    cases hle : Nat.ble n' c with
    | false => rw [hle] at hc; cases hc
    | true =>
      rw [hle] at hc
      cases hc
      have hle := Nat.le_of_ble_eq_true hle
      obtain ⟨b1, hb1, e⟩ := vr_s hu
      simp only [Value.slice.injEq, Option.some.injEq, Addr.mk.injEq] at e
      obtain ⟨⟨e1, e2, _⟩, e3, e4⟩ := e
      refine ⟨⟨b0.blk, b0.off, b0.off + c⟩, q, hl, hn, e3, hb, fun T' i hi => ?_, fun T' i hi => ?_⟩
      · rw [V.R]
        refine ⟨_, hi, ?_, ?_⟩
        · simp only [Nat.add_zero, Nat.add_sub_cancel_left]
          rw [e3, e4]
        · simp only [Nat.add_zero]; omega
      · obtain ⟨b', c', ty, pre, xs, rest, g1, g2, g3, g4, g5⟩ := hR (fun _ => some b0) i rfl
        cases g1
        exact ⟨_, c', ty, pre, xs, rest, hi, g2, g3, g4, g5.1.any (numsOf_noTag hn), g5.2⟩
  · rename_i t o n'
    cases hc
    obtain ⟨b1, hb1, e, hfit⟩ := vr_s hu
    simp only [Value.slice.injEq, Option.some.injEq, Addr.mk.injEq] at e
    obtain ⟨⟨e1, e2, _⟩, e3, e4⟩ := e
    refine ⟨⟨b0.blk, b0.off, b1.fin⟩, q, hl, hn, e3, hb, fun T' i hi => ?_, fun T' i hi => ?_⟩
    · rw [V.R]
      refine ⟨_, hi, ?_, ?_⟩
      · simp only [Nat.add_zero]
        rw [e3, e4, e2]
      · simp only [Nat.add_zero]; omega
    · obtain ⟨b', c', ty, pre, xs, rest, g1, g2, g3, g4, g5⟩ := hR (fun _ => some b0) i rfl
      cases g1
      exact ⟨_, c', ty, pre, xs, rest, hi, g2, g3, g4, g5.1.any (numsOf_noTag hn), g5.2⟩
  · cases hc

/-- What is told: a point or none. -/
def okR (t : Bool) (r : RdR) : Prop := ∃ b n k s, r = some (some b, some n, some k, s) ∧ n ≤ 7 ∧ k ≤ 7 ∧ ∀ T u, Sc.R T s u → u = .bool t
theorem okR_F : okR false (rdF false) := ⟨_, _, _, _, rfl, by omega, by omega, fun _ _ h => h⟩
theorem okR_T : okR true (rdF true) := ⟨_, _, _, _, rfl, by omega, by omega, fun _ _ h => h⟩
theorem okR_S {t : Bool} {s : Sc} (h : ∀ T u, Sc.R T s u → u = .bool t) : okR t (rdS s) := ⟨_, _, _, _, rfl, by omega, by omega, h⟩

def rdG (bs : List Int) (r : RdR) : Prop := (isPt bs → okR true r) ∧ (¬ isPt bs → okR false r)

theorem rd57_ok {z : Int} {x y : List Nat} (hx : x.length = 28) (hy : y.length = 28) (bx : ∀ b ∈ x, b < 256) (by' : ∀ b ∈ y, b < 256) : rd57L z (nBE x) (nBE y) (rdG (z :: ((x.map fun (b : Nat) => (b : Int)) ++ ((y.map fun (b : Nat) => (b : Int)) ++ [])))) := by
  have hiff := isPt_57 (z := z) hx hy bx by'
  have no : ∀ {r}, ¬ (z = 4 ∧ nBE x < PN ∧ nBE y < PN ∧ timesN (nBE y) (nBE y) = rightN (nBE x)) → okR false r → rdG (z :: ((x.map fun (b : Nat) => (b : Int)) ++ ((y.map fun (b : Nat) => (b : Int)) ++ []))) r := fun hn h => ⟨fun hp => absurd (hiff.1 hp) hn, fun _ => h⟩
  refine ⟨fun h => ?_, fun h => ⟨fun h1 => ⟨fun h2 => ?_, fun h2 => ?_⟩, fun h1 => ?_⟩⟩
  · refine no (fun hh => ?_) okR_F
    rw [decide_eq_true hh.1] at h; cases h
  · have key : rdG (z :: ((x.map fun (b : Nat) => (b : Int)) ++ ((y.map fun (b : Nat) => (b : Int)) ++ []))) (rdS (.bs (decide (timesN (nBE y) (nBE y) = rightN (nBE x))))) := by
      have hz : z = 4 := by
        apply Classical.byContradiction
        intro hne
        rw [decide_eq_false hne] at h; cases h
      refine ⟨fun hp => okR_S fun T u hu => ?_, fun hp => okR_S fun T u hu => ?_⟩
      · have hu : u = .bool (decide _) := hu
        rw [hu, decide_eq_true (hiff.1 hp).2.2.2]
      · have hu : u = .bool (decide _) := hu
        rw [hu, decide_eq_false (fun e => hp (hiff.2 ⟨hz, of_decide_eq_true h1, of_decide_eq_true h2, e⟩))]
    exact ⟨key, key⟩
  · have key := no (r := rdS (.bl false)) (fun hh => of_decide_eq_false h2 hh.2.2.1) (okR_S fun T u hu => hu)
    exact ⟨key, key⟩
  · have key := no (r := rdS (.bl false)) (fun hh => of_decide_eq_false h1 hh.2.1) (okR_S fun T u hu => hu)
    exact ⟨key, key⟩

theorem tbRd_ok : TbOk Try.prog tbRd := tb_ok dsRd_ok (fun _ _ h => (lkp_nil h).elim)

theorem isSlc_R {T T' : Tg} {s : Sc} {n : Nat} {x : Value} (h : isSlc s = some n) (hn : n ≤ 7) (hs : s.R T' x) : (Sc.slx n).R T x := by
  unfold isSlc at h
  split at h
  · cases h
    exact ⟨none, 0, hs, by omega⟩
  · cases h
    obtain ⟨b, _, hx⟩ := hs
    exact ⟨_, _, hx, by omega⟩
  · cases h
theorem isBo_R {T T' : Tg} {s : Sc} {b : Bool} {x : Value} (h : isBo s = some b) (hs : s.R T' x) : (Sc.bs b).R T x := by
  unfold isBo at h
  split at h
  · cases h; exact hs
  · cases h; exact hs
  · cases h

/-- The call, by its first pieces. -/
theorem rd_calls {wr : Nat → Bool} {T T0 : Tg} {w : World} {m m0 : Mem} {nt : Nat} {t : Bool} {x1 x2 : Value} {u : V} {R : RdR → Prop} (hm : MOk wr T w m) (hm0 : MOk (wrB tbRd) T0 w m0) (hx : VsR T0 [cv 1, u] [x1, x2]) (hT0 : ∀ t, 2 ≤ t → T0 t = none) (hR : ∀ r, R r → okR t r) (h : exC2 tbRd (takeC 4 rdB) ⟨entryV [cv 1, u] 0, m0, 2⟩ (rdK R)) :
    Calls Try.prog 22 #[x1, x2] w fun e w' => ∃ b n k, DEnd wr T w m nt (.tup [ptX b n k, .s (.bl t)]) [] e w' := by
  refine (run_calls2 (B := tbRd) tbRd_ok Try.func22 (c := rdB) (by kernel_rfl) rfl (args := [cv 1, u]) (Nat.le_of_ble_eq_true (by kernel_rfl)) hm0 hx hT0 (fun v _ _ => R (dgR v)) fun a Q hf hw hP hN => ?_).mono fun e w' hh => ?_
  · refine take_wp2 tbRd_ok 4 rdB _ (rdK R) Q a w _ rdB_has hf hw hP h (fun x hx => ?_) fun s1 a1 w1 T1 hf1 hw1 hs1 => ?_
    · cases x with
      | normal => exact absurd rfl hx
      | ret => exact fun s a w T hf hw hk => hN .ret s a w T hf hw hk
      | exit i => exact fun s a w T hf hw hk => hN (.exit i) s a w T hf hw hk
    · rw [rdB_eq]
      refine wp_seq ?_
      have hs1 : exRegL tbRd rdO.toList 21 s1 (rdE R .ret) := hs1
      have := exRegL_ok (id := 6) (ops := rdO.toList) (Q := Exit.then (Code.ret.wp Try.prog Q) Q) tbRd_ok (fun s a w T hf hw hk => ?_) hf1 hw1 hs1
      · simpa using this
      · show Code.ret.wp Try.prog Q a w
        exact exC2_ok tbRd_ok .ret s (endK tbRd Try.f22.results.toList fun v _ _ => R (dgR v)) Q a w T hf hw hk hP hN
  · obtain ⟨y, T', v, m', nt', rfl, hL⟩ := hh
    obtain ⟨n1, n2, n3, n4⟩ := lift_none (nt := nt) hm hL rfl
    obtain ⟨b, n, k, s, hv, hn, hk, hs⟩ := hR _ hL.post
    have hval := hL.val
    unfold dgR at hv
    split at hv
    · rename_i sa sb sc ss
      simp only [Option.some.injEq, Prod.mk.injEq] at hv
      obtain ⟨hba, hsb, hsc, rfl⟩ := hv
      rw [V.R] at hval
      obtain ⟨ys, rfl, hys⟩ := hval
      obtain ⟨y1, y2, rfl, hy1, hy2⟩ := vsr2 hys
      rw [V.R] at hy1
      obtain ⟨cs, rfl, hc, hg⟩ := hy1
      simp only [flat, Pc.cells, List.cons_append, List.nil_append] at hc
      cases hc with
      | cons a1 hc =>
      cases hc with
      | cons a2 hc =>
      cases hc with
      | cons a3 hc =>
      cases hc
      refine ⟨b, n, k, T, _, n1, rfl, ?_, n2, n3, n4⟩
      rw [V.R]
      refine ⟨_, rfl, vs2 ?_ (by rw [V.R]; exact hs T' y2 (vr_s hy2))⟩
      unfold ptX
      rw [V.R]
      refine ⟨_, rfl, .cons (isBo_R hba a1) (.cons (isSlc_R hsb hn a2) (.cons (isSlc_R hsc hk a3) .nil)), ?_⟩
      intro p hp
      simp only [List.mem_cons, List.not_mem_nil, or_false] at hp
      rcases hp with rfl | rfl | rfl <;> trivial
    · cases hv

end Go.Proofs.Ytdaheccfeihpgaa.Nm

/-
  A point of bytes by the specification: it keeps its contract.
-/
namespace Go.Proofs.Ytdaheccfeihpgaa.Nm
open Go Go.RowKit

theorem mok_f {w : World} {b0 bf : Loc} (h0 : b0.blk < w.heap.size) (hf : bf.blk < w.heap.size) (g : BlockOk (tgs [b0, bf]) w 1 foldsC) : MOk (wrB tbRd) (tgs [b0, bf]) w [(1, foldsC)] := by
  refine mok_tgs (fun b' h => ?_) (fun i hi => no2 hi) fun t l h => ?_
  · simp only [List.mem_cons, List.not_mem_nil, or_false] at h
    rcases h with rfl | rfl
    · exact h0
    · exact hf
  · rcases lkp_cons h with ⟨rfl, rfl⟩ | h
    · exact g
    · exact (lkp_nil h).elim

theorem kRd_ok : KSOk Try.prog 22 kRd where
  enter := enter_in Try.func22 (by kernel_rfl) (by kernel_rfl)
  run := by
    intro wr T w m nt args xs K h hm hx hfree hwr
    simp only [kRd] at h
    split at h
    · rename_i c
      obtain ⟨tf, hcv, h1⟩ := obind_some h
      clear h
      obtain ⟨hfd, h⟩ := onb_true h1
      clear h1
      obtain ⟨x1, x2, rfl, hv0, hv1⟩ := vsr2 hx
      rw [cvT_eq hcv] at hv0
      obtain ⟨bf, hbf, hRf⟩ := cv_R hv0
      have hlf := hm.lt tf bf hbf
      refine (rd_calls (nt := nt) (T0 := tgs [⟨bf.blk, bf.off, 0⟩, ⟨bf.blk, bf.off, 0⟩]) (m0 := [(1, foldsC)]) (t := false) (u := .s .snil) (R := fun r => r = rdF false) hm (mok_f hlf hlf (fd_ok hm hfd hbf (f := 0) rfl)) (vs2 (hRf _ 1 0 rfl) (by rw [V.R]; exact vr_s hv1)) (fun i hi => tgs_none hi) (fun r hr => by rw [hr]; exact okR_F) (Eq.mpr (run_rdn fun r => r = rdF false) rfl)).mono fun e w' ⟨b, n, k, hd⟩ => ?_
      exact KEnd.of hd hfree (h b n k)
    · rename_i c t n
      obtain ⟨tf, hcv, h1⟩ := obind_some h
      clear h
      obtain ⟨hfd, hn1, hn57, h⟩ := onb_true h1
      clear h1
      obtain ⟨x1, x2, rfl, hv0, hv1⟩ := vsr2 hx
      rw [cvT_eq hcv] at hv0
      obtain ⟨bf, hbf, hRf⟩ := cv_R hv0
      obtain ⟨b, hb, c', rfl, hlt⟩ := vr_s hv1
      have hlf := hm.lt tf bf hbf
      refine (rd_calls (nt := nt) (T0 := tgs [b, ⟨bf.blk, bf.off, 0⟩]) (m0 := [(1, foldsC)]) (t := false) (u := .s (.slv 0 n)) (R := fun r => r = rdF false) hm (mok_f (hm.lt t b hb) hlf (fd_ok hm hfd hbf (f := 0) rfl)) (vs2 (hRf _ 1 0 rfl) (by rw [V.R]; exact ⟨b, rfl, c', rfl, hlt⟩)) (fun i hi => tgs_none hi) (fun r hr => by rw [hr]; exact okR_F)
        (Eq.mpr (run_rdv n fun r => r = rdF false) ⟨fun hd => absurd (of_decide_eq_true hd) (by omega), fun _ => ⟨fun hd => ?_, fun _ => rfl⟩⟩)).mono fun e w' ⟨b, n, k, hd⟩ => ?_
      · rw [decide_eq_false (by omega)] at hd; cases hd
      · exact KEnd.of hd hfree (h b n k)
    · rename_i c u _ _
      obtain ⟨tf, hcv, h1⟩ := obind_some h
      clear h
      obtain ⟨hfd, h2⟩ := onb_true h1
      clear h1
      obtain ⟨n, hcap, h3⟩ := obind_some h2
      clear h2
      obtain ⟨hn, h4⟩ := onb_true h3
      clear h3
      obtain ⟨bs, hbs, hyes, hno⟩ := obind_some h4
      clear h4
      obtain ⟨x1, x2, rfl, hv0, hv1⟩ := vsr2 hx
      rw [cvT_eq hcv] at hv0
      obtain ⟨bf, hbf, hRf⟩ := cv_R hv0
      have hlf := hm.lt tf bf hbf
      obtain ⟨b, q, hl, hnum, hlen, hbyte, hval, hblk⟩ := okCap_loc hm hv1 hcap hbs
      have hsh : ∃ q', numsOf (flat q') = some bs ∧ goods q' ∧ ∀ (t : Bool), (∀ r, rdG bs r → okR t r) → exC2 tbRd (takeC 4 rdB) ⟨entryV [cv 1, .s (.slu 0 0 n)] 0, [(0, q'), (1, foldsC)], 2⟩ (rdK (rdG bs)) := by
        simp only [Bool.or_eq_true, Nat.beq_eq] at hn
        rcases hn with rfl | rfl
        · match bs, hlen with
          | [z], _ =>
            refine ⟨[.c (.sym .u8 z)], rfl, goods_cons.2 ⟨trivial, fun p hp => by cases hp⟩, fun t _ => Eq.mpr (run_rd1 z (rdG [z])) ⟨fun hd => ?_, fun hd => ?_⟩⟩
            · exact ⟨fun _ => okR_T, fun hp => absurd (isPt_1.2 (of_decide_eq_true hd)) hp⟩
            · exact ⟨fun hp => absurd (isPt_1.1 hp) (of_decide_eq_false hd), fun _ => okR_F⟩
        · obtain ⟨z, x, y, hx, hy, bx, by', rfl⟩ := split57 hlen hbyte
          have hg : goods [Pc.c (.sym .u8 z), .bt x, .bt y] := goods_cons.2 ⟨trivial, goods_cons.2 ⟨⟨hx, bx⟩, goods_cons.2 ⟨⟨hy, by'⟩, fun p hp => by cases hp⟩⟩⟩
          exact ⟨[.c (.sym .u8 z), .bt x, .bt y], numsP_ok hg rfl, hg, fun t _ => Eq.mpr (run_rd57 z x y _) (rd57_ok hx hy bx by')⟩
      obtain ⟨q', hq', hg', hrun⟩ := hsh
      have hm0 : MOk (wrB tbRd) (tgs [b, ⟨bf.blk, bf.off, 0⟩]) w [(0, q'), (1, foldsC)] := mok_2n hl hlf (fun i hi => no2 hi) (nums_blk (hblk _ _ rfl) hnum hq' hg') (fd_ok hm hfd hbf (f := 0) rfl)
      by_cases hp : isPt bs
      · have hR : ∀ r, rdG bs r → okR true r := fun r hr => hr.1 hp
        refine (rd_calls (nt := nt) (T0 := tgs [b, ⟨bf.blk, bf.off, 0⟩]) (t := true) (R := rdG bs) hm hm0 (vs2 (hRf _ 1 0 rfl) (hval _ 0 rfl)) (fun i hi => tgs_none hi) hR (hrun true hR)).mono fun e w' ⟨b, n, k, hd⟩ => ?_
        exact KEnd.of hd hfree (hyes hp b n k)
      · have hR : ∀ r, rdG bs r → okR false r := fun r hr => hr.2 hp
        refine (rd_calls (nt := nt) (T0 := tgs [b, ⟨bf.blk, bf.off, 0⟩]) (t := false) (R := rdG bs) hm hm0 (vs2 (hRf _ 1 0 rfl) (hval _ 0 rfl)) (fun i hi => tgs_none hi) hR (hrun false hR)).mono fun e w' ⟨b, n, k, hd⟩ => ?_
        exact KEnd.of hd hfree (hno hp b n k)
    · exact h.elim

end Go.Proofs.Ytdaheccfeihpgaa.Nm

