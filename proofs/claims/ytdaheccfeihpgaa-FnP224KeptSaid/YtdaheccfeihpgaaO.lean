import Derived.Test.YtdaheccfeihpgaaN
import Derived.Test.YtdaheccfeihpgaaH
/-
  The curve's constant.
-/
/-
  A number by its figures: the curve's constant.
-/
namespace Go.Proofs.Ytdaheccfeihpgaa.Nm
open Go Go.RowKit

def sB : ByteArray := ⟨#[98, 52, 48, 53, 48, 97, 56, 53, 48, 99, 48, 52, 98, 51, 97, 98, 102, 53, 52, 49, 51, 50, 53, 54, 53, 48, 52, 52, 98, 48, 98, 55, 100, 55, 98, 102, 100, 56, 98, 97, 50, 55, 48, 98, 51, 57, 52, 51, 50, 51, 53, 53, 102, 102, 98, 52]⟩
def hexT : List (List Int) := [[0, 0, 0, 0, 0, 0, 0], [0, 0, 0, 0, 0, 0, 2952790016], [0, 0, 0, 0, 0, 0, 3019898880], [0, 0, 0, 0, 0, 0, 3019898880], [0, 0, 0, 0, 0, 0, 3020226560], [0, 0, 0, 0, 0, 0, 3020226560], [0, 0, 0, 0, 0, 0, 3020229120], [0, 0, 0, 0, 0, 0, 3020229248], [0, 0, 0, 0, 0, 0, 3020229253], [0, 0, 0, 0, 0, 0, 3020229253], [0, 0, 0, 0, 0, 201326592, 3020229253], [0, 0, 0, 0, 0, 201326592, 3020229253], [0, 0, 0, 0, 0, 201588736, 3020229253], [0, 0, 0, 0, 0, 201633792, 3020229253], [0, 0, 0, 0, 0, 201634560, 3020229253], [0, 0, 0, 0, 0, 201634720, 3020229253], [0, 0, 0, 0, 0, 201634731, 3020229253], [0, 0, 0, 0, 4026531840, 201634731, 3020229253], [0, 0, 0, 0, 4110417920, 201634731, 3020229253], [0, 0, 0, 0, 4114612224, 201634731, 3020229253], [0, 0, 0, 0, 4114677760, 201634731, 3020229253], [0, 0, 0, 0, 4114690048, 201634731, 3020229253], [0, 0, 0, 0, 4114690560, 201634731, 3020229253], [0, 0, 0, 0, 4114690640, 201634731, 3020229253], [0, 0, 0, 0, 4114690646, 201634731, 3020229253], [0, 0, 0, 1342177280, 4114690646, 201634731, 3020229253], [0, 0, 0, 1342177280, 4114690646, 201634731, 3020229253], [0, 0, 0, 1346371584, 4114690646, 201634731, 3020229253], [0, 0, 0, 1346633728, 4114690646, 201634731, 3020229253], [0, 0, 0, 1346678784, 4114690646, 201634731, 3020229253], [0, 0, 0, 1346678784, 4114690646, 201634731, 3020229253], [0, 0, 0, 1346678960, 4114690646, 201634731, 3020229253], [0, 0, 0, 1346678967, 4114690646, 201634731, 3020229253], [0, 0, 3489660928, 1346678967, 4114690646, 201634731, 3020229253], [0, 0, 3607101440, 1346678967, 4114690646, 201634731, 3020229253], [0, 0, 3618635776, 1346678967, 4114690646, 201634731, 3020229253], [0, 0, 3619618816, 1346678967, 4114690646, 201634731, 3020229253], [0, 0, 3619672064, 1346678967, 4114690646, 201634731, 3020229253], [0, 0, 3619674112, 1346678967, 4114690646, 201634731, 3020229253], [0, 0, 3619674288, 1346678967, 4114690646, 201634731, 3020229253], [0, 0, 3619674298, 1346678967, 4114690646, 201634731, 3020229253], [0, 536870912, 3619674298, 1346678967, 4114690646, 201634731, 3020229253], [0, 654311424, 3619674298, 1346678967, 4114690646, 201634731, 3020229253], [0, 654311424, 3619674298, 1346678967, 4114690646, 201634731, 3020229253], [0, 655032320, 3619674298, 1346678967, 4114690646, 201634731, 3020229253], [0, 655044608, 3619674298, 1346678967, 4114690646, 201634731, 3020229253], [0, 655046912, 3619674298, 1346678967, 4114690646, 201634731, 3020229253], [0, 655046976, 3619674298, 1346678967, 4114690646, 201634731, 3020229253], [0, 655046979, 3619674298, 1346678967, 4114690646, 201634731, 3020229253], [536870912, 655046979, 3619674298, 1346678967, 4114690646, 201634731, 3020229253], [587202560, 655046979, 3619674298, 1346678967, 4114690646, 201634731, 3020229253], [592445440, 655046979, 3619674298, 1346678967, 4114690646, 201634731, 3020229253], [592773120, 655046979, 3619674298, 1346678967, 4114690646, 201634731, 3020229253], [592834560, 655046979, 3619674298, 1346678967, 4114690646, 201634731, 3020229253], [592838400, 655046979, 3619674298, 1346678967, 4114690646, 201634731, 3020229253], [592838576, 655046979, 3619674298, 1346678967, 4114690646, 201634731, 3020229253], [592838580, 655046979, 3619674298, 1346678967, 4114690646, 201634731, 3020229253]]
def hexW (k : Nat) : List Int := hexT.getD k []
def litP : List Int → List Pc
  | [] => []
  | z :: r => .c (.lit .i64 z) :: litP r

theorem hB_eq : (Try.f35.body.getD .skip) = .seq (q0 (Try.f35.body.getD .skip)) (.seq (q1 (Try.f35.body.getD .skip)) (.seq (.seq (q2 (Try.f35.body.getD .skip)) (.block 0 (.loop (qL (Try.f35.body.getD .skip))))) (qT (Try.f35.body.getD .skip)))) := by kernel_rfl
theorem hL_eq : qL (Try.f35.body.getD .skip) = .seq (.region 3 #[⟨some 14, .next (.tmp 13) true, 0, "curve.go:6", #[], none⟩, ⟨some 15, .extract (.tmp 14) 0, 4, "curve.go:6", #[⟨0, .data⟩], none⟩] false) (.seq (.cond (.tmp 15) .skip (.exit 0)) (seqR (seqR (qL (Try.f35.body.getD .skip))))) := by kernel_rfl
theorem h2_eq : q2 (Try.f35.body.getD .skip) = .region 2 #[⟨some 12, .move (.tmp 1), 9, "curve.go:6", #[], none⟩, ⟨some 13, .range 9 (.tmp 12), 0, "curve.go:6", #[⟨0, .data⟩], none⟩] false := by kernel_rfl

def tbH (n : Nat) : Tb := tb n 1 [] [] [] 9

abbrev GH := Option V × Option V × Option V × Option (List Pc)
def grabH (s : SS) : GH := (lkp s.env 5, lkp s.env 1, lkp s.env 13, lkp s.m 1)
def envH (g : Nat) : Env := [(5, .s (.sl 1 0 7 7)), (1, .s (.val (.string sB))), (13, .s (.val (.pointer (some ⟨g, 0, none⟩))))]
def memH (k : Nat) : Mem := [(1, litP (hexW k))]
def gH (g k : Nat) : GH := (some (.s (.sl 1 0 7 7)), some (.s (.val (.string sB))), some (.s (.val (.pointer (some ⟨g, 0, none⟩)))), some (litP (hexW k)))

set_option maxRecDepth 100000 in
theorem run_h01 (G : Xt → Option V × Option V × Option (List Pc) → Prop) :
    exC2 (tbH Try.f35.ntmps) (.seq (q0 (Try.f35.body.getD .skip)) (q1 (Try.f35.body.getD .skip))) ⟨entryV [cv 0, .s (.val (.string sB))] 0, [], 1⟩ (fun y s => G y (lkp s.env 5, lkp s.env 1, lkp s.m 2)) = G .normal (some (.s (.sl 2 0 7 7)), some (.s (.val (.string sB))), some (litP (hexW 0))) := by
  kernel_rfl

def envH1 (g k c : Nat) : Env := (15, .s (.bl true)) :: (14, .tup [.s (.bl true), .s (.lit .i64 k), .s (.val (.int .i32 c))]) :: envH g
def roundH (k : Nat) : Prop := ∀ (g c : Nat) (G : Xt → GH → Prop), exC2 ((tbH Try.f35.ntmps).at Try.f35.ntmps 2 [1]) (seqR (seqR (qL (Try.f35.body.getD .skip)))) ⟨envH1 g k c, memH k, 2⟩ (fun y s => G y (grabH s)) = G .normal (gH g (k + 1))

def hk : Nat → Prop
  | 0 => True
  | n + 1 => hk n ∧ roundH n
set_option maxRecDepth 100000
theorem hk0 : hk 0 := trivial
theorem hk1 : hk 1 := ⟨hk0, fun _ _ _ => by kernel_rfl⟩
theorem hk2 : hk 2 := ⟨hk1, fun _ _ _ => by kernel_rfl⟩
theorem hk3 : hk 3 := ⟨hk2, fun _ _ _ => by kernel_rfl⟩
theorem hk4 : hk 4 := ⟨hk3, fun _ _ _ => by kernel_rfl⟩
theorem hk5 : hk 5 := ⟨hk4, fun _ _ _ => by kernel_rfl⟩
theorem hk6 : hk 6 := ⟨hk5, fun _ _ _ => by kernel_rfl⟩
theorem hk7 : hk 7 := ⟨hk6, fun _ _ _ => by kernel_rfl⟩
theorem hk8 : hk 8 := ⟨hk7, fun _ _ _ => by kernel_rfl⟩
theorem hk9 : hk 9 := ⟨hk8, fun _ _ _ => by kernel_rfl⟩
theorem hk10 : hk 10 := ⟨hk9, fun _ _ _ => by kernel_rfl⟩
theorem hk11 : hk 11 := ⟨hk10, fun _ _ _ => by kernel_rfl⟩
theorem hk12 : hk 12 := ⟨hk11, fun _ _ _ => by kernel_rfl⟩
theorem hk13 : hk 13 := ⟨hk12, fun _ _ _ => by kernel_rfl⟩
theorem hk14 : hk 14 := ⟨hk13, fun _ _ _ => by kernel_rfl⟩
theorem hk15 : hk 15 := ⟨hk14, fun _ _ _ => by kernel_rfl⟩
theorem hk16 : hk 16 := ⟨hk15, fun _ _ _ => by kernel_rfl⟩
theorem hk17 : hk 17 := ⟨hk16, fun _ _ _ => by kernel_rfl⟩
theorem hk18 : hk 18 := ⟨hk17, fun _ _ _ => by kernel_rfl⟩
theorem hk19 : hk 19 := ⟨hk18, fun _ _ _ => by kernel_rfl⟩
theorem hk20 : hk 20 := ⟨hk19, fun _ _ _ => by kernel_rfl⟩
theorem hk21 : hk 21 := ⟨hk20, fun _ _ _ => by kernel_rfl⟩
theorem hk22 : hk 22 := ⟨hk21, fun _ _ _ => by kernel_rfl⟩
theorem hk23 : hk 23 := ⟨hk22, fun _ _ _ => by kernel_rfl⟩
theorem hk24 : hk 24 := ⟨hk23, fun _ _ _ => by kernel_rfl⟩
theorem hk25 : hk 25 := ⟨hk24, fun _ _ _ => by kernel_rfl⟩
theorem hk26 : hk 26 := ⟨hk25, fun _ _ _ => by kernel_rfl⟩
theorem hk27 : hk 27 := ⟨hk26, fun _ _ _ => by kernel_rfl⟩
theorem hk28 : hk 28 := ⟨hk27, fun _ _ _ => by kernel_rfl⟩
theorem hk29 : hk 29 := ⟨hk28, fun _ _ _ => by kernel_rfl⟩
theorem hk30 : hk 30 := ⟨hk29, fun _ _ _ => by kernel_rfl⟩
theorem hk31 : hk 31 := ⟨hk30, fun _ _ _ => by kernel_rfl⟩
theorem hk32 : hk 32 := ⟨hk31, fun _ _ _ => by kernel_rfl⟩
theorem hk33 : hk 33 := ⟨hk32, fun _ _ _ => by kernel_rfl⟩
theorem hk34 : hk 34 := ⟨hk33, fun _ _ _ => by kernel_rfl⟩
theorem hk35 : hk 35 := ⟨hk34, fun _ _ _ => by kernel_rfl⟩
theorem hk36 : hk 36 := ⟨hk35, fun _ _ _ => by kernel_rfl⟩
theorem hk37 : hk 37 := ⟨hk36, fun _ _ _ => by kernel_rfl⟩
theorem hk38 : hk 38 := ⟨hk37, fun _ _ _ => by kernel_rfl⟩
theorem hk39 : hk 39 := ⟨hk38, fun _ _ _ => by kernel_rfl⟩
theorem hk40 : hk 40 := ⟨hk39, fun _ _ _ => by kernel_rfl⟩
theorem hk41 : hk 41 := ⟨hk40, fun _ _ _ => by kernel_rfl⟩
theorem hk42 : hk 42 := ⟨hk41, fun _ _ _ => by kernel_rfl⟩
theorem hk43 : hk 43 := ⟨hk42, fun _ _ _ => by kernel_rfl⟩
theorem hk44 : hk 44 := ⟨hk43, fun _ _ _ => by kernel_rfl⟩
theorem hk45 : hk 45 := ⟨hk44, fun _ _ _ => by kernel_rfl⟩
theorem hk46 : hk 46 := ⟨hk45, fun _ _ _ => by kernel_rfl⟩
theorem hk47 : hk 47 := ⟨hk46, fun _ _ _ => by kernel_rfl⟩
theorem hk48 : hk 48 := ⟨hk47, fun _ _ _ => by kernel_rfl⟩
theorem hk49 : hk 49 := ⟨hk48, fun _ _ _ => by kernel_rfl⟩
theorem hk50 : hk 50 := ⟨hk49, fun _ _ _ => by kernel_rfl⟩
theorem hk51 : hk 51 := ⟨hk50, fun _ _ _ => by kernel_rfl⟩
theorem hk52 : hk 52 := ⟨hk51, fun _ _ _ => by kernel_rfl⟩
theorem hk53 : hk 53 := ⟨hk52, fun _ _ _ => by kernel_rfl⟩
theorem hk54 : hk 54 := ⟨hk53, fun _ _ _ => by kernel_rfl⟩
theorem hk55 : hk 55 := ⟨hk54, fun _ _ _ => by kernel_rfl⟩
theorem hk56 : hk 56 := ⟨hk55, fun _ _ _ => by kernel_rfl⟩

theorem hk_get : ∀ {n k : Nat}, hk n → k < n → roundH k
  | 0, _, _, h => by omega
  | n + 1, k, h, hk => by
    by_cases e : k = n
    · subst e; exact h.2
    · exact hk_get h.1 (by omega)

theorem run_hT (g : Nat) (K : V → Mem → Nat → Prop) :
    exC2 (tbH Try.f35.ntmps) (qT (Try.f35.body.getD .skip)) ⟨envH g, memH 56, 2⟩ (endK (tbH Try.f35.ntmps) Try.f35.results.toList K) = K (.s (.sl 1 0 7 7)) (memH 56) 2 := by
  kernel_rfl

theorem dec_sB : ∀ k, k < 56 → (Utf8.decode sB k).2 = 1 := by decide +kernel
theorem sB_size : sB.size = 56 := by kernel_rfl

end Go.Proofs.Ytdaheccfeihpgaa.Nm

/-
  A number by its figures: the contract.
-/
namespace Go.Proofs.Ytdaheccfeihpgaa.Nm
open Go Go.RowKit

/-- Two pieces ahead of the rest. -/
theorem wp_pre2 {P : Program} {B : Tb} {T0 : Tg} {w0 : World} (hB : TbOk P B) {x y z : Code} {s : SS} {H : SS → Prop} {Q : Exit → Act → World → Prop} {a : Act} {w : World} {T : Tg} (hf : FrV T B.n a s.env) (hw : WV B T0 w0 T w s) (hP : PanicOk Q) (h : exC2 B (.seq x y) s fun e s' => e = .normal ∧ H s')
    (hN : Nx B T0 w0 H (fun a w => z.wp P Q a w)) : (Code.seq x (.seq y z)).wp P Q a w := by
  refine wp_seq (exC2_ok hB x s _ _ a w T hf hw h (fun ch a d v w h => hP ch a d v w h) fun e s1 a1 w1 T1 hf1 hw1 h1 => ?_)
  cases e with
  | exit i => simp only at h1; cases h1.1
  | ret => simp only at h1; cases h1.1
  | normal =>
  refine wp_seq (exC2_ok hB y s1 _ _ a1 w1 T1 hf1 hw1 h1 (fun ch a d v w h => hP ch a d v w h) fun e s2 a2 w2 T2 hf2 hw2 h2 => ?_)
  obtain ⟨rfl, h2⟩ := h2
  exact hN s2 a2 w2 T2 hf2 hw2 h2

theorem tbH_ok {n : Nat} : TbOk Try.prog (tbH n) := tb_ok ds_nil (fun _ _ h => (lkp_nil h).elim)

/-- The state between two rounds. -/
def invH (T0 : Tg) (w0 : World) (n : Nat) : Nat → Act → World → Prop := fun m a w => ∃ k T g, m + k = 57 ∧ k ≤ 56 ∧ FrV T n a (envH g) ∧ WV (tbH n) T0 w0 T w ⟨envH g, memH k, 2⟩ ∧ w.heap[g]? = some (.stringIter sB k) ∧ w0.heap.size ≤ g ∧ ∀ t b, T t = some b → b.blk ≠ g

theorem lkp3V {i : Nat} {v : V} {a b c : Nat × V} (h : lkp [a, b, c] i = some v) : (a.1 = i ∧ v = a.2) ∨ (b.1 = i ∧ v = b.2) ∨ (c.1 = i ∧ v = c.2) := by
  rcases lkp_cons h with ⟨h1, h2⟩ | h
  · exact .inl ⟨h1, h2.symm⟩
  rcases lkp_cons h with ⟨h1, h2⟩ | h
  · exact .inr (.inl ⟨h1, h2.symm⟩)
  rcases lkp_cons h with ⟨h1, h2⟩ | h
  · exact .inr (.inr ⟨h1, h2.symm⟩)
  · exact (lkp_nil h).elim

theorem litP_ren (f : Nat → Nat) : ∀ l : List Int, (litP l).map (Pc.ren f) = litP l
  | [] => rfl
  | z :: r => by simp [litP, Pc.ren, Sc.ren, litP_ren f r]

theorem canonH {n : Nat} {T0 T : Tg} {w0 w : World} {a : Act} {s : SS} {g k : Nat} (hf : FrV T n a s.env) (hw : WV (tbH n) T0 w0 T w s) (hT0 : ∀ t, 1 ≤ t → T0 t = none) (h : grabH s = gH g k) :
    ∃ T2, FrV T2 n a (envH g) ∧ WV (tbH n) T0 w0 T2 w ⟨envH g, memH k, 2⟩ ∧ ∀ t, ∃ t', T2 t = T t' := by
  unfold grabH gH at h
  simp only [Prod.mk.injEq] at h
  obtain ⟨h5, h1, h13, hm⟩ := h
  refine hw.canon (B := tbH n) (s2 := ⟨envH g, memH k, 2⟩) hf hT0 [1] rfl (fun u hu => ?_) (by simp) (fun j v hj => ?_) (fun j l hj => ?_)
  · simp only [List.mem_cons, List.not_mem_nil, or_false] at hu
    subst hu
    exact Nat.le_refl 1
  · rcases lkp3V hj with ⟨rfl, rfl⟩ | ⟨rfl, rfl⟩ | ⟨rfl, rfl⟩
    · exact ⟨_, rfl, h5⟩
    · exact ⟨_, rfl, h1⟩
    · exact ⟨_, rfl, h13⟩
  · rcases lkp_cons hj with ⟨rfl, rfl⟩ | hj
    · exact ⟨[], by rw [litP_ren, List.append_nil]; exact hm⟩
    · exact (lkp_nil hj).elim

theorem putV {T : Tg} {n : Nat} {a : Act} {env : Env} (hf : FrV T n a env) {d : Nat} (hd : d < n) {v : V} {y : Value} (hv : v.R T y) : FrV T n (a.put (some d) y) ((d, v) :: env) := FrV.put (B := tbH n) hf (Tg.le_refl T) hd hv

theorem loopH {Q : Exit → Act → World → Prop} {T0 : Tg} {w0 : World} (hT0 : ∀ t, 1 ≤ t → T0 t = none) (hP : PanicOk Q)
    (hQ : ∀ a w T g, FrV T Try.f35.ntmps a (envH g) → WV (tbH Try.f35.ntmps) T0 w0 T w ⟨envH g, memH 56, 2⟩ → Q (.exit 0) a w) :
    ∀ m a w, invH T0 w0 Try.f35.ntmps m a w → (Code.loop (qL (Try.f35.body.getD .skip))).wp Try.prog Q a w := by
  refine wp_loop_n _ (fun a w ⟨k, _, _, h, h', _⟩ => by omega) fun m a w ⟨k, T, g, hk, hle, hf, hw, hg, hge, hne⟩ => ?_
  have h14 : 14 < Try.f35.ntmps := Nat.le_of_ble_eq_true (by kernel_rfl)
  have h15 : 15 < Try.f35.ntmps := Nat.le_of_ble_eq_true (by kernel_rfl)
  have hx : a.eval (.tmp 13) = .pointer (some ⟨g, 0, none⟩) := by
    have := hf.get 13 (.s (.val (.pointer (some ⟨g, 0, none⟩)))) rfl
    rw [V.R] at this
    exact this.1
  rw [hL_eq]
  by_cases hlt : k < 56
  · refine wp_seq (wp_step hx (fun ty => run_next_more hg (by rw [sB_size]; exact hlt) (dec_sB k hlt)) (by rfl) (by rw [hf.size]; exact h14) ?_)
    have hg' : g < w.heap.size := (Array.getElem?_eq_some_iff.1 hg).1
    have hw1 := hw.iter (o := .stringIter sB (k + 1)) hge hne
    have hf1 : FrV T Try.f35.ntmps ((a.put (some 14) (.tuple #[.bool true, goInt k, .int .i32 ((Utf8.decode sB k).1 : Nat)])).put (some 15) (.bool true)) (envH1 g k (Utf8.decode sB k).1) := by
      refine putV (putV hf h14 ?_) h15 (by rw [V.R]; rfl)
      rw [V.R]
      refine ⟨_, rfl, ?_⟩
      rw [VsR]
      refine ⟨_, _, rfl, by rw [V.R]; rfl, vs2 ?_ ?_⟩
      · rw [V.R]
        exact ⟨rfl, by rw [IntKind.wrap_i64]; omega⟩
      · rw [V.R]
        exact ⟨rfl, rfl⟩
    refine wp_seq (wp_cond_true ?_ (wp_skip ?_))
    · have := hf1.get 15 (.s (.bl true)) rfl
      rw [V.R] at this
      exact this
    · have hwr : ∀ t ∈ [1], wrB (tbH Try.f35.ntmps) t = true := by intro t ht; simp only [List.mem_cons, List.not_mem_nil, or_false] at ht; subst ht; rfl
      have hw2 : WV (tbH Try.f35.ntmps) T0 w0 T _ ⟨envH1 g k (Utf8.decode sB k).1, memH k, 2⟩ := hw1.env _
      have hw3 := hw2.start (n := Try.f35.ntmps) (outs := [1]) hwr
      refine exC2_ok (tbH_ok.at _ _ _) _ ⟨envH1 g k (Utf8.decode sB k).1, memH k, 2⟩ (fun y s => y = .normal ∧ grabH s = gH g (k + 1)) _ _ _ T hf1 hw3 (Eq.mpr (hk_get hk56 hlt g (Utf8.decode sB k).1 (fun y s => y = .normal ∧ s = gH g (k + 1))) ⟨rfl, rfl⟩) (fun ch a d v w h => hP ch a d v w h) fun y s3 a3 w3 T3 hf3 hw4 hk3 => ?_
      obtain ⟨rfl, hgr⟩ := hk3
      have hw5 := hw2.sub hw4 (show 1 ≤ 2 by omega) hwr
      obtain ⟨T2, g1, g2, g3⟩ := canonH hf3 hw5 hT0 hgr
      refine ⟨k + 1, T2, g, by omega, by omega, g1, g2, ?_, hge, fun t b hb => ?_⟩
      · rw [hw4.kp.block g (by simpa using hg') fun ⟨t, ht, b, hb, e⟩ => hne t b hb e]
        simp [hg']
      · obtain ⟨t', ht'⟩ := g3 t
        rw [ht'] at hb
        by_cases hlt' : t' < 2
        · exact hne t' b (hw4.old t' b hb hlt')
        · have := hw4.own t' b hb (by show 2 ≤ t'; omega)
          simp only [Array.size_setIfInBounds] at this
          omega
  · have hk56' : k = 56 := by omega
    subst hk56'
    refine wp_seq (wp_step hx (fun ty => run_next_over hg (by rw [sB_size]; omega)) (by rfl) (by rw [hf.size]; exact h14) ?_)
    have hf1 : FrV T Try.f35.ntmps ((a.put (some 14) (.tuple #[.bool false])).put (some 15) (.bool false)) ((15, .s (.bl false)) :: (14, .tup [.s (.bl false)]) :: envH g) := by
      refine putV (putV hf h14 ?_) h15 (by rw [V.R]; rfl)
      rw [V.R]
      exact ⟨_, rfl, vs1 (by rw [V.R]; rfl)⟩
    refine wp_seq (wp_cond_false ?_ (wp_exit ?_))
    · have := hf1.get 15 (.s (.bl false)) rfl
      rw [V.R] at this
      exact this
    · refine hQ _ _ T g ⟨hf1.size, hf1.defers, fun i v hi => hf1.get i v ?_⟩ hw
      rcases lkp3V hi with ⟨rfl, rfl⟩ | ⟨rfl, rfl⟩ | ⟨rfl, rfl⟩ <;> rfl

def eqN : List UInt8 → List UInt8 → Bool
  | [], [] => true
  | a :: r, b :: q => Nat.beq a.toNat b.toNat && eqN r q
  | _, _ => false
theorem eqN_ok : ∀ {l q : List UInt8}, eqN l q = true → l = q
  | [], [], _ => rfl
  | [], _ :: _, h => by cases h
  | _ :: _, [], h => by cases h
  | a :: r, b :: q, h => by
    simp only [eqN, Bool.and_eq_true] at h
    have := UInt8.toNat_inj.1 (Nat.eq_of_beq_eq_true h.1)
    rw [this, eqN_ok h.2]

def dHex : DSpec := fun args _ nt => match args with
  | [c, .s (.val (.string s))] => match cvT c with
    | some _ => bif eqN s.data.toList sB.data.toList then some (.s (.sl nt 0 7 7), [[.w7 18958286285566608000408668544493926415504680968679321075787234672564]]) else none
    | none => none
  | _ => none

set_option maxRecDepth 100000 in
theorem dHex_ok : DSOk Try.prog 35 dHex where
  enter := enter_in Try.func35 (by kernel_rfl) (by kernel_rfl)
  run := by
    intro wr T w m nt args xs v fr h hm hx hfr
    simp only [dHex] at h
    split at h
    · rename_i c s
      split at h
      · rename_i tf hcv
        cases he : eqN s.data.toList sB.data.toList with
        | false => rw [he] at h; cases h
        | true =>
        rw [he] at h
        simp only [cond_true, Option.some.injEq, Prod.mk.injEq] at h
        obtain ⟨rfl, rfl⟩ := h
        have hs : s = sB := by
          cases s with
          | mk d =>
            have : d = sB.data := by
              have := eqN_ok he
              simpa using congrArg List.toArray this
            rw [this]
        subst hs
        obtain ⟨x1, x2, rfl, hv0, hv1⟩ := vsr2 hx
        rw [cvT_eq hcv] at hv0
        obtain ⟨bf, hbf, hRf⟩ := cv_R hv0
        have hT0 : ∀ t, 1 ≤ t → tgs [⟨bf.blk, bf.off, 0⟩] t = none := fun i hi => tgs_none hi
        refine (run_calls2 (B := tbH Try.f35.ntmps) tbH_ok Try.func35 (c := Try.f35.body.getD .skip) (by kernel_rfl) rfl (args := [cv 0, .s (.val (.string sB))]) (Nat.le_of_ble_eq_true (by kernel_rfl)) (cv_mok (b := ⟨bf.blk, bf.off, 0⟩) (hm.lt tf bf hbf) rfl) (vs2 (hRf _ 0 0 rfl) (by rw [V.R]; exact vr_s hv1)) hT0
          (fun v m' _ => NewG 1 7 7 [.w7 18958286285566608000408668544493926415504680968679321075787234672564] v (lkp m' 1)) fun a Q hf hw hP hN => ?_).mono fun e w' hh => ?_
        · rw [hB_eq]
          refine wp_pre2 (H := fun s => (lkp s.env 5, lkp s.env 1, lkp s.m 2) = (some (.s (.sl 2 0 7 7)), some (.s (.val (.string sB))), some (litP (hexW 0)))) tbH_ok hf hw hP (Eq.mpr (run_h01 (fun y g => y = .normal ∧ g = (some (.s (.sl 2 0 7 7)), some (.s (.val (.string sB))), some (litP (hexW 0))))) ⟨rfl, rfl⟩) fun s1 a1 w1 T1 hf1 hw1 hg1 => ?_
          simp only [Prod.mk.injEq] at hg1
          obtain ⟨g5, g1, gm⟩ := hg1
          obtain ⟨T2, hf2, hw2, _⟩ := hw1.canon (B := tbH Try.f35.ntmps) (s2 := ⟨[(5, .s (.sl 1 0 7 7)), (1, .s (.val (.string sB)))], memH 0, 2⟩) hf1 hT0 [2] rfl (fun u hu => by
              simp only [List.mem_cons, List.not_mem_nil, or_false] at hu
              subst hu
              show 1 ≤ 2
              omega) (by simp) (fun j v hj => by
              rcases lkp_cons hj with ⟨rfl, rfl⟩ | hj
              · exact ⟨_, rfl, g5⟩
              rcases lkp_cons hj with ⟨rfl, rfl⟩ | hj
              · exact ⟨_, rfl, g1⟩
              · exact (lkp_nil hj).elim) (fun j l hj => by
              rcases lkp_cons hj with ⟨rfl, rfl⟩ | hj
              · exact ⟨[], by rw [litP_ren, List.append_nil]; exact gm⟩
              · exact (lkp_nil hj).elim)
          have n12 : 12 < Try.f35.ntmps := Nat.le_of_ble_eq_true (by kernel_rfl)
          have n13 : 13 < Try.f35.ntmps := Nat.le_of_ble_eq_true (by kernel_rfl)
          have hx1 : a1.tmps.getD 1 undef = .string sB := by
            have := hf2.get 1 (.s (.val (.string sB))) rfl
            rw [V.R] at this
            exact this.1
          refine wp_seq (wp_seq ?_)
          rw [h2_eq]
          refine wp_region_lit (l := [⟨some 12, .move (.tmp 1), 9, "curve.go:6", #[], none⟩, ⟨some 13, .range 9 (.tmp 12), 0, "curve.go:6", #[⟨0, .data⟩], none⟩]) ?_
          unfold wpList
          rw [if_pos (by simp [Region.wanted])]
          refine .inl ?_
          have hv1' : a1.eval (.tmp 1) = .string sB := hx1
          have r1 : (execOp a1.eval ⟨some 12, .move (.tmp 1), 9, "curve.go:6", #[], none⟩).run Try.prog w1 = .ok (.value (a1.eval (.tmp 1))) w1 := rfl
          unfold Oper.wp
          rw [r1, hv1']
          show wpList _ _ _ _ _ _
          unfold wpList
          rw [if_pos (by simp [Region.wanted])]
          refine .inl ?_
          have hv2 : (a1.put (some 12) (.string sB)).eval (.tmp 12) = .string sB := by
            show (a1.put (some 12) (.string sB)).tmps.getD 12 undef = _
            rw [getD_put rfl, if_pos ⟨rfl, by rw [hf2.size]; exact n12⟩]
          have r2 : (execOp (a1.put (some 12) (.string sB)).eval ⟨some 13, .range 9 (.tmp 12), 0, "curve.go:6", #[⟨0, .data⟩], none⟩).run Try.prog w1 = .ok (.value (.pointer (some ⟨w1.heap.size, 0, none⟩))) (w1.alloc (.stringIter sB 0)) := by
            have hu : Try.prog.underlying 9 = some .string := by kernel_rfl
            simp only [execOp, hv2, Sem.run_bind, run_range hu, Result.andThen_ok, Sem.run_pure]
          unfold Oper.wp
          rw [r2]
          show wpList _ _ _ _ _ _
          unfold wpList
          have hf3 : FrV T2 Try.f35.ntmps ((a1.put (some 12) (.string sB)).put (some 13) (.pointer (some ⟨w1.heap.size, 0, none⟩))) ((13, .s (.val (.pointer (some ⟨w1.heap.size, 0, none⟩)))) :: (12, .s (.val (.string sB))) :: [(5, .s (.sl 1 0 7 7)), (1, .s (.val (.string sB)))]) :=
            putV (putV hf2 n12 (by rw [V.R]; exact ⟨rfl, rfl⟩)) n13 (by rw [V.R]; exact ⟨rfl, rfl⟩)
          have hw3 : WV (tbH Try.f35.ntmps) _ w T2 (w1.alloc (.stringIter sB 0)) ⟨envH w1.heap.size, memH 0, 2⟩ := hw2.grow (fr := []) (env := envH w1.heap.size) (onlyNew_refl _ _ _) (hw2.mok.grow (below_alloc _ _)) (below_alloc _ _) (fun t b h h' => by rw [h] at h'; cases h')
          refine wp_block (loopH (Q := Exit.inBlock 0 (Exit.then ((qT (Try.f35.body.getD .skip)).wp Try.prog Q) Q)) hT0 (fun ch a d v w h => hP ch a d v w h) (fun a4 w4 T4 g hf4 hw4 => ?_) 57 _ _ ⟨0, T2, w1.heap.size, rfl, by omega, ⟨hf3.size, hf3.defers, fun i v hi => hf3.get i v ?_⟩, hw3, heap_alloc_new _ _, hw2.kp.size, fun t b hb => ?_⟩)
          · show (qT (Try.f35.body.getD .skip)).wp Try.prog Q a4 w4
            refine exC2_ok tbH_ok _ ⟨envH g, memH 56, 2⟩ _ Q a4 w4 T4 hf4 hw4 (Eq.mpr (run_hT g _) ⟨rfl, _, rfl, fun T T' => pr_w7 (by omega) (by kernel_rfl) (by kernel_rfl) (by kernel_rfl) (by kernel_rfl) (by kernel_rfl) (by kernel_rfl) (by kernel_rfl)⟩) hP hN
          · rcases lkp3V hi with ⟨rfl, rfl⟩ | ⟨rfl, rfl⟩ | ⟨rfl, rfl⟩ <;> rfl
          · have := hw2.mok.lt t b hb
            omega
        · obtain ⟨y, T', v, m', nt', rfl, hL⟩ := hh
          obtain ⟨rfl, q, hq, hconv⟩ := hL.post
          obtain ⟨b, hb, hy⟩ := vr_s hL.val
          obtain ⟨T'', g1, g2, g3, g4, g5⟩ := lift_new hm hfr hL rfl (hT0 1 (by omega)) hb hq (hconv T T')
          exact ⟨T'', y, g1, rfl, by rw [V.R]; exact ⟨b, g2, hy⟩, g3, g4, g5⟩
      · cases h
    · cases h

end Go.Proofs.Ytdaheccfeihpgaa.Nm

/-
  The curve's constant, its right side, the points on it.
-/
namespace Go.Proofs.Ytdaheccfeihpgaa.Nm
open Go Go.RowKit

def bN : Nat := 18958286285566608000408668544493926415504680968679321075787234672564
def rightN (x : Nat) : Nat := plusN (minusN (timesN (timesN x x) x) (timesN 3 x)) bN

def dsX : List (Nat × DSpec) := [(35, dHex), (21, dBin timesN 14), (31, dBin plusN 7), (32, dBin minusN 7), (33, dSmall), (20, dSame)]
theorem dsX_ok : ∀ f sp, lkp dsX f = some sp → DSOk Try.prog f sp := by
  intro f sp h
  rcases lkp_cons h with ⟨rfl, rfl⟩ | h
  · exact dHex_ok
  rcases lkp_cons h with ⟨rfl, rfl⟩ | h
  · exact dTimes_ok
  rcases lkp_cons h with ⟨rfl, rfl⟩ | h
  · exact dPlus_ok
  rcases lkp_cons h with ⟨rfl, rfl⟩ | h
  · exact dMinus_ok
  rcases lkp_cons h with ⟨rfl, rfl⟩ | h
  · exact dSmall_ok
  rcases lkp_cons h with ⟨rfl, rfl⟩ | h
  · exact dSame_ok
  · exact (lkp_nil h).elim
theorem ks_nil : ∀ f sp, lkp ([] : List (Nat × KSpec)) f = some sp → KSOk Try.prog f sp := fun _ _ h => (lkp_nil h).elim

set_option maxRecDepth 100000 in
theorem run_B (G : V → Option (List Pc) → Prop) :
    exC2 (tb Try.f17.ntmps 1 [] dsX [] 9) (Try.f17.body.getD .skip) ⟨entryV [cv 0] 0, [], 1⟩ (endK (tb Try.f17.ntmps 1 [] dsX [] 9) Try.f17.results.toList fun v m _ => G v (lkp m 2)) =
    G (.s (.sl 2 0 7 7)) (some [.w7 bN]) := by
  kernel_rfl

def dB : DSpec := fun args _ nt => match args with
  | [c] => match cvT c with
    | some _ => some (.s (.sl nt 0 7 7), [[.w7 bN]])
    | none => none
  | _ => none

theorem bN_lt : bN < 26959946667150639794667015087019630673637144422540572481103610249216 := by unfold bN; omega

theorem dB_ok : DSOk Try.prog 17 dB where
  enter := enter_in Try.func17 (by kernel_rfl) (by kernel_rfl)
  run := by
    intro wr T w m nt args xs v fr h hm hx hfr
    simp only [dB] at h
    split at h
    · rename_i c
      split at h
      · rename_i t hc
        simp only [Option.some.injEq, Prod.mk.injEq] at h
        obtain ⟨rfl, rfl⟩ := h
        obtain ⟨x, rfl, hv⟩ := vsr1 hx
        rw [cvT_eq hc] at hv
        obtain ⟨b, hb, hR⟩ := cv_R hv
        exact new_calls (B := tb Try.f17.ntmps 1 [] dsX [] 9) (c := Try.f17.body.getD .skip) (tb_ok dsX_ok ks_nil) Try.func17 (by kernel_rfl) (by kernel_rfl) (args := [cv 0]) (Nat.le_of_ble_eq_true (by kernel_rfl)) (cv_mok (b := ⟨b.blk, b.off, 0⟩) (hm.lt t b hb) rfl) (vs1 (hR _ 0 0 rfl)) (fun i hi => tgs_none (show 1 ≤ i from hi)) rfl hm hfr 7 7 _ 2 (by decide)
          (Eq.mpr (run_B _) (new_w7 bN_lt))
      · cases h
    · cases h

def dsX2 : List (Nat × DSpec) := (17, dB) :: dsX
theorem dsX2_ok : ∀ f sp, lkp dsX2 f = some sp → DSOk Try.prog f sp := by
  intro f sp h
  rcases lkp_cons h with ⟨rfl, rfl⟩ | h
  · exact dB_ok
  · exact dsX_ok f sp h

set_option maxRecDepth 100000 in
theorem run_right (x c : Nat) (G : V → Option (List Pc) → Prop) :
    exC2 (tb Try.f15.ntmps 2 [] dsX2 [] 9) (Try.f15.body.getD .skip) ⟨entryV [cv 1, .s (.sl 0 0 7 c)] 0, [(0, [.w7 x]), (1, foldsC)], 2⟩ (endK (tb Try.f15.ntmps 2 [] dsX2 [] 9) Try.f15.results.toList fun v m _ => G v (lkp m 9)) =
    G (.s (.sl 9 0 7 7)) (some [.w7 (rightN x)]) := by
  kernel_rfl

def dRight : DSpec := fun args m nt => match args with
  | [c, x] => match cvT c, rdW7 m x with
    | some tf, some a => bif fdOk m tf then some (.s (.sl nt 0 7 7), [[.w7 (rightN a)]]) else none
    | _, _ => none
  | _ => none

theorem rightN_lt (x : Nat) : rightN x < 26959946667150639794667015087019630673637144422540572481103610249216 := plusN_lt _ _

theorem dRight_ok : DSOk Try.prog 15 dRight where
  enter := enter_in Try.func15 (by kernel_rfl) (by kernel_rfl)
  run := by
    intro wr T w m nt args xs v fr h hm hx hfr
    simp only [dRight] at h
    split at h
    · rename_i c u
      split at h
      · rename_i tf x hcv e1
        cases hfd : fdOk m tf with
        | false => rw [hfd] at h; cases h
        | true =>
        rw [hfd] at h
        simp only [cond_true, Option.some.injEq, Prod.mk.injEq] at h
        obtain ⟨rfl, rfl⟩ := h
        obtain ⟨x1, x2, rfl, hv0, hv1⟩ := vsr2 hx
        rw [cvT_eq hcv] at hv0
        obtain ⟨bf, hbf, hRf⟩ := cv_R hv0
        obtain ⟨hx1, b1, c1, rfl, hl1, hR1⟩ := rdW7_ok hm hv1 e1
        obtain ⟨k1, k2⟩ := hR1 (tgs [⟨b1.blk, b1.off, 0⟩, ⟨bf.blk, bf.off, 0⟩]) 0 0 rfl
        exact new_calls (B := tb Try.f15.ntmps 2 [] dsX2 [] 9) (c := Try.f15.body.getD .skip) (tb_ok dsX2_ok ks_nil) Try.func15 (by kernel_rfl) (by kernel_rfl) (args := [cv 1, .s (.sl 0 0 7 c1)]) (Nat.le_of_ble_eq_true (by kernel_rfl)) (mok_un (b1 := ⟨b1.blk, b1.off, 0⟩) (b3 := ⟨bf.blk, bf.off, 0⟩) hl1 (hm.lt tf bf hbf) (fun i hi => by
            have hcs : i = 0 ∨ i = 1 := by omega
            rcases hcs with rfl | rfl <;> rfl) k1 (fd_ok hm hfd hbf (f := 0) rfl)) (vs2 (hRf _ 1 0 rfl) k2) (fun i hi => tgs_none (show 2 ≤ i from hi)) rfl hm hfr 7 7 _ 9 (by decide)
          (Eq.mpr (run_right x c1 _) (new_w7 (rightN_lt x)))
      · cases h
    · cases h

def dsX3 : List (Nat × DSpec) := (15, dRight) :: dsX2
theorem dsX3_ok : ∀ f sp, lkp dsX3 f = some sp → DSOk Try.prog f sp := by
  intro f sp h
  rcases lkp_cons h with ⟨rfl, rfl⟩ | h
  · exact dRight_ok
  · exact dsX2_ok f sp h

set_option maxRecDepth 100000 in
theorem run_on (x y c d : Nat) (G : V → Prop) :
    exC2 (tb Try.f39.ntmps 3 [] dsX3 [] 9) (Try.f39.body.getD .skip) ⟨entryV [cv 2, .s (.sl 0 0 7 c), .s (.sl 1 0 7 d)] 0, [(0, [.w7 x]), (1, [.w7 y]), (2, foldsC)], 3⟩ (endK (tb Try.f39.ntmps 3 [] dsX3 [] 9) Try.f39.results.toList fun v _ _ => G v) =
    G (.s (.bs (decide (timesN y y = rightN x)))) := by
  kernel_rfl

def dOn : DSpec := fun args m _ => match args with
  | [c, x, y] => match cvT c, rdW7 m x, rdW7 m y with
    | some tf, some a, some b => bif fdOk m tf then some (.s (.bs (decide (timesN b b = rightN a))), []) else none
    | _, _, _ => none
  | _ => none

theorem dOn_ok : DSOk Try.prog 39 dOn where
  enter := enter_in Try.func39 (by kernel_rfl) (by kernel_rfl)
  run := by
    intro wr T w m nt args xs v fr h hm hx hfr
    simp only [dOn] at h
    split at h
    · rename_i c u v
      split at h
      · rename_i tf x y hcv e1 e2
        cases hfd : fdOk m tf with
        | false => rw [hfd] at h; cases h
        | true =>
        rw [hfd] at h
        simp only [cond_true, Option.some.injEq, Prod.mk.injEq] at h
        obtain ⟨rfl, rfl⟩ := h
        obtain ⟨x1, x2, x3, rfl, hv0, hv1, hv2⟩ := vsr3 hx
        rw [cvT_eq hcv] at hv0
        obtain ⟨bf, hbf, hRf⟩ := cv_R hv0
        obtain ⟨hx1, b1, c1, rfl, hl1, hR1⟩ := rdW7_ok hm hv1 e1
        obtain ⟨hx2, b2, c2, rfl, hl2, hR2⟩ := rdW7_ok hm hv2 e2
        obtain ⟨k1, k2⟩ := hR1 (tgs [⟨b1.blk, b1.off, 0⟩, ⟨b2.blk, b2.off, 0⟩, ⟨bf.blk, bf.off, 0⟩]) 0 0 rfl
        obtain ⟨k3, k4⟩ := hR2 (tgs [⟨b1.blk, b1.off, 0⟩, ⟨b2.blk, b2.off, 0⟩, ⟨bf.blk, bf.off, 0⟩]) 1 0 rfl
        exact val_calls (B := tb Try.f39.ntmps 3 [] dsX3 [] 9) (c := Try.f39.body.getD .skip) (tb_ok dsX3_ok ks_nil) Try.func39 (by kernel_rfl) (by kernel_rfl) (args := [cv 2, .s (.sl 0 0 7 c1), .s (.sl 1 0 7 c2)]) (Nat.le_of_ble_eq_true (by kernel_rfl))
          (mok_bin (b1 := ⟨b1.blk, b1.off, 0⟩) (b2 := ⟨b2.blk, b2.off, 0⟩) (b3 := ⟨bf.blk, bf.off, 0⟩) hl1 hl2 (hm.lt tf bf hbf) (fun i hi => by
            have hcs : i = 0 ∨ i = 1 ∨ i = 2 := by omega
            rcases hcs with rfl | rfl | rfl <;> rfl) k1 k3 (fd_ok hm hfd hbf (f := 0) rfl)) (vs3 (hRf _ 2 0 rfl) k2 k4) (fun i hi => tgs_none (show 3 ≤ i from hi)) rfl hm _
          (Eq.mpr (run_on x y c1 c2 (fun v => ∃ s', v = .s s' ∧ ∀ T' z, s'.R T' z → (Sc.bs (decide (timesN y y = rightN x))).R T z)) ⟨_, rfl, fun T' z h => h⟩)
      · cases h
    · cases h

end Go.Proofs.Ytdaheccfeihpgaa.Nm

