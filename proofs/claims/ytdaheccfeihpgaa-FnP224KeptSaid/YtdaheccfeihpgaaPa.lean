import Derived.Test.YtdaheccfeihpgaaT
import Derived.Test.YtdaheccfeihpgaaU
/-
  Copies of bytes; points from bytes.
-/
/-
  A copy of bytes, one, fifty-seven, or some: the contract.
-/
namespace Go.Proofs.Ytdaheccfeihpgaa.Nm
open Go Go.RowKit

noncomputable abbrev cB : Code := Try.f42.body.getD .skip
noncomputable abbrev tbc (n : Nat) : Tb := tb Try.f42.ntmps n [] [] [] 40

set_option maxRecDepth 100000 in
theorem run_clone1 (s : Sc) (c : Nat) (K : V → Mem → Nat → Prop) :
    exC2 (tbc 1) cB ⟨entryV [.s (.sl 0 0 1 c)] 0, [(0, [.c s])], 1⟩ (endK (tbc 1) Try.f42.results.toList K) =
    K (.s (.slu 2 0 1)) [(2, [.c s]), (1, []), (0, [.c s])] 3 := by
  kernel_rfl
set_option maxRecDepth 100000 in
theorem run_clone57 (s : Sc) (x y : List Nat) (c : Nat) (K : V → Mem → Nat → Prop) :
    exC2 (tbc 1) cB ⟨entryV [.s (.sl 0 0 57 c)] 0, [(0, [.c s, .bt x, .bt y])], 1⟩ (endK (tbc 1) Try.f42.results.toList K) =
    K (.s (.slu 2 0 57)) [(2, [.c s, .bt x, .bt y]), (1, []), (0, [.c s, .bt x, .bt y])] 3 := by
  kernel_rfl

def clQ : List Pc → Option Nat
  | [.c s] => bif noTag s then some 1 else none
  | [.c s, .bt _, .bt _] => bif noTag s then some 57 else none
  | _ => none

def kClone : KSpec where
  run := fun args m nt K => match args with
    | [.s .snil] => K (.s .snil) m nt
    | [.s (.slv t n)] => match lkp m t with
      | some q => (flat q).length = n ∧ n < 2147483648 ∧ (∀ s ∈ flat q, noTag s = true) ∧ K (.s (.slx n)) m nt
      | none => False
    | [.s (.sl t o n _)] => match lkp m t with
      | some l => obind (rdN l o n) fun q => obind (clQ q) fun k => onb (Nat.beq k n) (K (.s (.slu nt 0 k)) (addF m nt [q]) (nt + 1))
      | none => False
    | _ => False
  outs := fun _ _ => []

noncomputable def cO1 : Array Oper := regOps (cdL (cdL (cdR cB)))
noncomputable def cC1 : Code := cdR (cdL (cdR cB))
noncomputable def cO3 : Array Oper := regOps (cdL (cdR (cdR cB)))
theorem cB_eq : dropC 1 cB = .seq (.seq (.region 1 cO1 false) cC1) (.seq (.region 3 cO3 false) .ret) := by kernel_rfl
theorem cB_has : hasC 1 cB = true := by kernel_rfl
noncomputable def cOp1 (i : Nat) : Oper := (cO1.toList[i]?).getD default
noncomputable def cOp3 (i : Nat) : Oper := (cO3.toList[i]?).getD default

/-- The copy of a slice of some length. -/
theorem clone_v {w : World} {b : Loc} {q : List Pc} {n c : Nat} {wr : Nat → Bool} {T : Tg} {m : Mem} {nt : Nat} (hm : MOk wr T w m) (hlt : b.blk < w.heap.size) (hq : BlockOk (tgs [b]) w 0 q) (hn : (flat q).length = n) (hn2 : n < 2147483648) :
    Calls Try.prog 42 #[.slice (some ⟨b.blk, b.off, none⟩) n c] w (DEnd wr T w m nt (.s (.slx n)) []) := by
  have hT0 : ∀ t, 1 ≤ t → tgs [b] t = none := fun i hi => tgs_none hi
  have hm0 : MOk (wrB (tbc 1)) (tgs [b]) w [(0, q)] := mok_tgs (fun b' h => by
      simp only [List.mem_cons, List.not_mem_nil, or_false] at h
      subst h; exact hlt) (fun i hi => by
      have : i = 0 := by simp at hi; omega
      subst this; rfl) fun t l h => by
      rcases lkp_cons h with ⟨rfl, rfl⟩ | h
      · exact hq
      · exact (lkp_nil h).elim
  have hB : TbOk Try.prog (tbc 1) := tb_ok ds_nil (fun _ _ h => (lkp_nil h).elim)
  refine (run_calls2 (B := tbc 1) hB Try.func42 (c := cB) (by kernel_rfl) rfl (args := [.s (.slv 0 n)]) (Nat.le_of_ble_eq_true (by kernel_rfl)) hm0
    (by rw [VsR]; exact ⟨_, [], rfl, by rw [V.R]; exact ⟨b, rfl, c, rfl, by omega⟩, by rw [VsR]⟩) hT0 (fun v _ _ => v = .s (.slx n)) fun a Q hf hw hP hN => ?_).mono fun e w' hh => ?_
  · refine take_wp hB 1 cB _ (fun s => s = ⟨[(2, .s .snil), (0, .s (.slv 0 n))], [(0, q)], 1⟩) Q a w _ cB_has hf hw hP ?_ fun s1 a1 w1 T1 hf1 hw1 hs1 => ?_
    · have r0 : ∀ K' : Xt → SS → Prop, exC2 (tbc 1) (takeC 1 cB) ⟨entryV [.s (.slv 0 n)] 0, [(0, q)], 1⟩ K' = K' .normal ⟨[(2, .s .snil), (0, .s (.slv 0 n))], [(0, q)], 1⟩ := by intro K'; kernel_rfl
      exact Eq.mpr (r0 _) ⟨rfl, rfl⟩
    · subst hs1
      rw [cB_eq]
      refine wp_seq (wp_seq (wp_region_lit ?_))
      refine ops_exop hB (o := cOp1 0) (r := cO1.toList.drop 1) (K1 := fun s => s = ⟨[(3, .s (.slv 0 n)), (2, .s .snil), (0, .s (.slv 0 n))], [(0, q)], 1⟩) (by kernel_rfl) hf1 hw1 (by kernel_rfl) ?_ fun s2 a2 w2 T2 hf2 hw2 hs2 => ?_
      · have r0 : ∀ K' : SS → Prop, exOp (tbc 1) (cOp1 0).op (cOp1 0).dst ⟨[(2, .s .snil), (0, .s (.slv 0 n))], [(0, q)], 1⟩ K' = K' ⟨[(3, .s (.slv 0 n)), (2, .s .snil), (0, .s (.slv 0 n))], [(0, q)], 1⟩ := by intro K'; kernel_rfl
        exact Eq.mpr (r0 _) rfl
      subst hs2
      have hx := evS_ok hf2 (x := .tmp 3) (s := .slv 0 n) rfl
      obtain ⟨b1, hb1, c1, hx, _⟩ := hx
      refine ops_run (B := tbc 1) (o := cOp1 1) (r := []) (d := 4) (v := .bool false) (z := .bl false) (op := .binOp .eql 30 (.tmp 3) (.const (.slice none 0 0)) 30) (by kernel_rfl) hf2 (by kernel_rfl) (by kernel_rfl) (by kernel_rfl) (show 4 < (tbc 1).n from Nat.le_of_ble_eq_true (by kernel_rfl)) (fun ty pos after => ?_) rfl fun a3 hf3 => ?_
      · have h1 := eq_nil_run (P := Try.prog) (t := 30) (e := 5) (w := w2) (by kernel_rfl) (.tmp 3) (.const (.slice none 0 0)) (some ⟨b1.blk, b1.off, none⟩) n c1
        have h2 : a2.eval (.const (.slice none 0 0)) = .slice none 0 0 := rfl
        simp only [execOp, Sem.run_bind, hx, h2] at h1 ⊢
        rw [h1]
        rfl
      show cC1.wp _ _ _ _
      refine exC2_ok hB cC1 ⟨[(4, .s (.bl false)), (3, .s (.slv 0 n)), (2, .s .snil), (0, .s (.slv 0 n))], [(0, q)], 1⟩ (fun y s => y = .normal ∧ s = ⟨[(4, .s (.bl false)), (3, .s (.slv 0 n)), (2, .s .snil), (0, .s (.slv 0 n))], [(0, q)], 1⟩) _ a3 w2 T2 hf3 (hw2.env _) ?_ (fun ch a d v w h => hP ch a d v w h) fun y s4 a4 w4 T4 hf4 hw4 hs4 => ?_
      · have r0 : ∀ K' : Xt → SS → Prop, exC2 (tbc 1) cC1 ⟨[(4, .s (.bl false)), (3, .s (.slv 0 n)), (2, .s .snil), (0, .s (.slv 0 n))], [(0, q)], 1⟩ K' = K' .normal ⟨[(4, .s (.bl false)), (3, .s (.slv 0 n)), (2, .s .snil), (0, .s (.slv 0 n))], [(0, q)], 1⟩ := by intro K'; kernel_rfl
        exact Eq.mpr (r0 _) ⟨rfl, rfl⟩
      obtain ⟨rfl, rfl⟩ := hs4
      refine wp_seq (wp_region_lit ?_)
      refine ops_exop hB (o := cOp3 0) (r := cO3.toList.drop 1) (K1 := fun s => s = ⟨[(5, .s (.sl 1 0 0 0)), (4, .s (.bl false)), (3, .s (.slv 0 n)), (2, .s .snil), (0, .s (.slv 0 n))], [(1, []), (0, q)], 2⟩) (by kernel_rfl) hf4 hw4 (by kernel_rfl) ?_ fun s5 a5 w5 T5 hf5 hw5 hs5 => ?_
      · have r0 : ∀ K' : SS → Prop, exOp (tbc 1) (cOp3 0).op (cOp3 0).dst ⟨[(4, .s (.bl false)), (3, .s (.slv 0 n)), (2, .s .snil), (0, .s (.slv 0 n))], [(0, q)], 1⟩ K' = K' ⟨[(5, .s (.sl 1 0 0 0)), (4, .s (.bl false)), (3, .s (.slv 0 n)), (2, .s .snil), (0, .s (.slv 0 n))], [(1, []), (0, q)], 2⟩ := by intro K'; kernel_rfl
        exact Eq.mpr (r0 _) rfl
      subst hs5
      refine ops_exop hB (o := cOp3 1) (r := cO3.toList.drop 2) (K1 := fun s => s = ⟨[(6, .s (.slv 0 n)), (5, .s (.sl 1 0 0 0)), (4, .s (.bl false)), (3, .s (.slv 0 n)), (2, .s .snil), (0, .s (.slv 0 n))], [(1, []), (0, q)], 2⟩) (by kernel_rfl) hf5 hw5 (by kernel_rfl) ?_ fun s6 a6 w6 T6 hf6 hw6 hs6 => ?_
      · have r0 : ∀ K' : SS → Prop, exOp (tbc 1) (cOp3 1).op (cOp3 1).dst ⟨[(5, .s (.sl 1 0 0 0)), (4, .s (.bl false)), (3, .s (.slv 0 n)), (2, .s .snil), (0, .s (.slv 0 n))], [(1, []), (0, q)], 2⟩ K' = K' ⟨[(6, .s (.slv 0 n)), (5, .s (.sl 1 0 0 0)), (4, .s (.bl false)), (3, .s (.slv 0 n)), (2, .s .snil), (0, .s (.slv 0 n))], [(1, []), (0, q)], 2⟩ := by intro K'; kernel_rfl
        exact Eq.mpr (r0 _) rfl
      subst hs6
      refine ops_app hB (o := cOp3 2) (r := cO3.toList.drop 3) (x := .tmp 5) (y := .tmp 6) (t := 30) (d := 7) (tx := 1) (ox := 0) (ty := 0) (n := n) (l := q) (by kernel_rfl) hf6 hw6 (by kernel_rfl) (by kernel_rfl) (by kernel_rfl) (show 7 < (tbc 1).n from Nat.le_of_ble_eq_true (by kernel_rfl)) (by kernel_rfl) rfl rfl rfl hn hn2 fun a7 w7 hf7 hw7 => ?_
      refine ops_exop hB (o := cOp3 3) (r := []) (K1 := fun s => s = ⟨[(2, .s (.slx n)), (7, .s (.slx n)), (6, .s (.slv 0 n)), (5, .s (.sl 1 0 0 0)), (4, .s (.bl false)), (3, .s (.slv 0 n)), (2, .s .snil), (0, .s (.slv 0 n))], [(1, []), (0, q)], 2⟩) (by kernel_rfl) hf7 hw7 (by kernel_rfl) ?_ fun s8 a8 w8 T8 hf8 hw8 hs8 => ?_
      · have r0 : ∀ K' : SS → Prop, exOp (tbc 1) (cOp3 3).op (cOp3 3).dst ⟨[(7, .s (.slx n)), (6, .s (.slv 0 n)), (5, .s (.sl 1 0 0 0)), (4, .s (.bl false)), (3, .s (.slv 0 n)), (2, .s .snil), (0, .s (.slv 0 n))], [(1, []), (0, q)], 2⟩ K' = K' ⟨[(2, .s (.slx n)), (7, .s (.slx n)), (6, .s (.slv 0 n)), (5, .s (.sl 1 0 0 0)), (4, .s (.bl false)), (3, .s (.slv 0 n)), (2, .s .snil), (0, .s (.slv 0 n))], [(1, []), (0, q)], 2⟩ := by intro K'; kernel_rfl
        exact Eq.mpr (r0 _) rfl
      subst hs8
      show Code.ret.wp _ _ _ _
      refine exC2_ok hB .ret _ (endK (tbc 1) Try.f42.results.toList fun v _ _ => v = .s (.slx n)) Q a8 w8 T8 hf8 hw8 ?_ hP hN
      exact (rfl : V.s (.slx n) = .s (.slx n))
  · obtain ⟨y, T', v, m', nt', rfl, hL⟩ := hh
    obtain ⟨g1, g2, g3, g4⟩ := lift_none (nt := nt) hm hL rfl
    have hv := hL.val
    rw [hL.post] at hv
    exact ⟨T, y, g1, rfl, by rw [V.R]; exact (vr_s hv), g2, g3, g4⟩

/-- The copy of no slice. -/
theorem clone_nil {w : World} {wr : Nat → Bool} {T : Tg} {m : Mem} {nt : Nat} (hm : MOk wr T w m) :
    Calls Try.prog 42 #[.slice none 0 0] w (DEnd wr T w m nt (.s .snil) []) := by
  have hB : TbOk Try.prog (tbc 0) := tb_ok ds_nil (fun _ _ h => (lkp_nil h).elim)
  refine (run_calls2 (B := tbc 0) hB Try.func42 (c := cB) (by kernel_rfl) rfl (args := [.s .snil]) (Nat.le_of_ble_eq_true (by kernel_rfl)) (m := []) mok_nil
    (by rw [VsR]; exact ⟨_, [], rfl, by rw [V.R]; rfl, by rw [VsR]⟩) (fun i _ => rfl) (fun v _ _ => v = .s .snil) fun a Q hf hw hP hN => ?_).mono fun e w' hh => ?_
  · refine take_wp hB 1 cB _ (fun s => s = ⟨[(2, .s .snil), (0, .s .snil)], [], 0⟩) Q a w _ cB_has hf hw hP ?_ fun s1 a1 w1 T1 hf1 hw1 hs1 => ?_
    · have r0 : ∀ K' : Xt → SS → Prop, exC2 (tbc 0) (takeC 1 cB) ⟨entryV [.s .snil] 0, [], 0⟩ K' = K' .normal ⟨[(2, .s .snil), (0, .s .snil)], [], 0⟩ := by intro K'; kernel_rfl
      exact Eq.mpr (r0 _) ⟨rfl, rfl⟩
    · subst hs1
      rw [cB_eq]
      refine wp_seq (wp_seq (wp_region_lit ?_))
      refine ops_exop hB (o := cOp1 0) (r := cO1.toList.drop 1) (K1 := fun s => s = ⟨[(3, .s .snil), (2, .s .snil), (0, .s .snil)], [], 0⟩) (by kernel_rfl) hf1 hw1 (by kernel_rfl) ?_ fun s2 a2 w2 T2 hf2 hw2 hs2 => ?_
      · have r0 : ∀ K' : SS → Prop, exOp (tbc 0) (cOp1 0).op (cOp1 0).dst ⟨[(2, .s .snil), (0, .s .snil)], [], 0⟩ K' = K' ⟨[(3, .s .snil), (2, .s .snil), (0, .s .snil)], [], 0⟩ := by intro K'; kernel_rfl
        exact Eq.mpr (r0 _) rfl
      subst hs2
      have hx : a2.eval (.tmp 3) = .slice none 0 0 := evS_ok hf2 (x := .tmp 3) (s := .snil) rfl
      refine ops_run (B := tbc 0) (o := cOp1 1) (r := []) (d := 4) (v := .bool true) (z := .bl true) (op := .binOp .eql 30 (.tmp 3) (.const (.slice none 0 0)) 30) (by kernel_rfl) hf2 (by kernel_rfl) (by kernel_rfl) (by kernel_rfl) (show 4 < (tbc 0).n from Nat.le_of_ble_eq_true (by kernel_rfl)) (fun ty pos after => ?_) rfl fun a3 hf3 => ?_
      · have h1 := eq_nil_run (P := Try.prog) (t := 30) (e := 5) (w := w2) (by kernel_rfl) (.tmp 3) (.const (.slice none 0 0)) none 0 0
        have h2 : a2.eval (.const (.slice none 0 0)) = .slice none 0 0 := rfl
        simp only [execOp, Sem.run_bind, hx, h2] at h1 ⊢
        rw [h1]
        rfl
      show cC1.wp _ _ _ _
      refine exC2_ok hB cC1 ⟨[(4, .s (.bl true)), (3, .s .snil), (2, .s .snil), (0, .s .snil)], [], 0⟩ (fun y s => y = .ret ∧ s = ⟨[(2, .s .snil), (4, .s (.bl true)), (3, .s .snil), (2, .s .snil), (0, .s .snil)], [], 0⟩) _ a3 w2 T2 hf3 (hw2.env _) ?_ (fun ch a d v w h => hP ch a d v w h) fun y s4 a4 w4 T4 hf4 hw4 hs4 => ?_
      · have r0 : ∀ K' : Xt → SS → Prop, exC2 (tbc 0) cC1 ⟨[(4, .s (.bl true)), (3, .s .snil), (2, .s .snil), (0, .s .snil)], [], 0⟩ K' = K' .ret ⟨[(2, .s .snil), (4, .s (.bl true)), (3, .s .snil), (2, .s .snil), (0, .s .snil)], [], 0⟩ := by intro K'; kernel_rfl
        exact Eq.mpr (r0 _) ⟨rfl, rfl⟩
      obtain ⟨rfl, rfl⟩ := hs4
      show Q .ret a4 w4
      exact hN .ret _ a4 w4 T4 hf4 hw4 (rfl : V.s .snil = .s .snil)
  · obtain ⟨y, T', v, m', nt', rfl, hL⟩ := hh
    obtain ⟨g1, g2, g3, g4⟩ := lift_none (nt := nt) hm hL rfl
    have hv := hL.val
    rw [hL.post] at hv
    exact ⟨T, y, g1, rfl, by rw [V.R]; exact (vr_s hv), g2, g3, g4⟩

theorem clQ_noTag {q : List Pc} {k : Nat} (h : clQ q = some k) : (∀ s ∈ flat q, noTag s = true) ∧ ((∃ s, q = [.c s] ∧ k = 1) ∨ ∃ s x y, q = [.c s, .bt x, .bt y] ∧ k = 57) := by
  unfold clQ at h
  split at h
  · rename_i s
    cases hb : noTag s with
    | false => rw [hb] at h; cases h
    | true =>
      rw [hb] at h; cases h
      refine ⟨fun z hz => ?_, .inl ⟨_, rfl, rfl⟩⟩
      simp only [flat, Pc.cells, List.append_nil, List.mem_cons, List.not_mem_nil, or_false] at hz
      subst hz; exact hb
  · rename_i s x y
    cases hb : noTag s with
    | false => rw [hb] at h; cases h
    | true =>
      rw [hb] at h; cases h
      refine ⟨fun z hz => ?_, .inr ⟨_, _, _, rfl, rfl⟩⟩
      have e : flat [Pc.c s, .bt x, .bt y] = [s] ++ (flat [.bt x] ++ flat [.bt y]) := by simp [flat, Pc.cells]
      rw [e] at hz
      simp only [List.mem_append, List.mem_cons, List.not_mem_nil, or_false] at hz
      rcases hz with rfl | hz | hz
      · exact hb
      · exact bt_noTag _ z hz
      · exact bt_noTag _ z hz
  · cases h

theorem kClone_ok : KSOk Try.prog 42 kClone where
  enter := enter_in Try.func42 (by kernel_rfl) (by kernel_rfl)
  run := by
    intro wr T w m nt args xs K h hm hx hfree hwr
    simp only [kClone] at h
    split at h
    · obtain ⟨x1, rfl, hv⟩ := vsr1 hx
      have hv : x1 = .slice none 0 0 := vr_s hv
      subst hv
      exact (clone_nil hm).mono fun e w' hh => KEnd.of hh hfree h
    · rename_i t n
      obtain ⟨x1, rfl, hv⟩ := vsr1 hx
      obtain ⟨b, hb, c, rfl, hlt⟩ := vr_s hv
      split at h
      · rename_i q hl
        obtain ⟨hn, hn2, hnt, h⟩ := h
        exact (clone_v (b := b) hm (hm.lt t b hb) (sub_ok hm hb hl (rdN_self hn) hnt (f := b.fin) rfl) hn hn2).mono fun e w' hh => KEnd.of hh hfree h
      · exact h.elim
    · rename_i t o n c
      obtain ⟨x1, rfl, hv⟩ := vsr1 hx
      obtain ⟨b, hb, rfl⟩ := vr_s hv
      split at h
      · rename_i l hl
        obtain ⟨q, hq, h1⟩ := obind_some h
        clear h
        obtain ⟨k, hk, h2⟩ := obind_some h1
        clear h1
        obtain ⟨hkn, h⟩ := onb_true h2
        clear h2
        obtain rfl := Nat.eq_of_beq_eq_true hkn
        obtain ⟨hnt, hsh⟩ := clQ_noTag hk
        have hB : TbOk Try.prog (tbc 1) := tb_ok ds_nil (fun _ _ h => (lkp_nil h).elim)
        have hrun : exC2 (tbc 1) cB ⟨entryV [.s (.sl 0 0 k c)] 0, [(0, q)], 1⟩ (endK (tbc 1) Try.f42.results.toList fun v m' _ => v = .s (.slu 2 0 k) ∧ lkp m' 2 = some q) := by
          rcases hsh with ⟨s, rfl, rfl⟩ | ⟨s, x, y, rfl, rfl⟩
          · exact Eq.mpr (run_clone1 s c _) ⟨rfl, rfl⟩
          · exact Eq.mpr (run_clone57 s x y c _) ⟨rfl, rfl⟩
        have hm0 : MOk (wrB (tbc 1)) (tgs [⟨b.blk, b.off + o, b.fin⟩]) w [(0, q)] := mok_tgs (fun b' h => by
            simp only [List.mem_cons, List.not_mem_nil, or_false] at h
            subst h; exact hm.lt t b hb) (fun i hi => by
            have : i = 0 := by simp at hi; omega
            subst this; rfl) fun t' l' h' => by
            rcases lkp_cons h' with ⟨rfl, rfl⟩ | h'
            · exact sub_ok hm hb hl hq hnt rfl
            · exact (lkp_nil h').elim
        refine (run_calls (B := tbc 1) hB Try.func42 (c := cB) (by kernel_rfl) (by kernel_rfl) (args := [.s (.sl 0 0 k c)]) (Nat.le_of_ble_eq_true (by kernel_rfl)) hm0
          (by rw [VsR]; exact ⟨_, [], rfl, by rw [V.R]; exact ⟨⟨b.blk, b.off + o, b.fin⟩, rfl, rfl⟩, by rw [VsR]⟩) (fun i hi => tgs_none (show 1 ≤ i from hi)) _ hrun).mono fun e w' hh => ?_
        obtain ⟨y, T', v, m', nt', rfl, hL⟩ := hh
        obtain ⟨rfl, hq2⟩ := hL.post
        obtain ⟨T'', g1, g2, g3, g4, g5⟩ := grew_of_u hm (fun j _ => hfree (nt + j) (by omega)) hL rfl rfl rfl hq2 hnt
        exact KEnd.of (v := .s (.slu nt 0 k)) (fr := [q]) ⟨T'', y, g1, rfl, g2, g3, g4, g5⟩ hfree h
      · exact h.elim
    · exact h.elim

end Go.Proofs.Ytdaheccfeihpgaa.Nm

/-
  Points and their bytes, run.
-/
namespace Go.Proofs.Ytdaheccfeihpgaa.Nm
open Go Go.RowKit

def dsU0 : List (Nat × DSpec) := [(49, dPB), (30, dBytes), (57, dErr)]
theorem dsU0_ok : ∀ f sp, lkp dsU0 f = some sp → DSOk Try.prog f sp := by
  intro f sp h
  rcases lkp_cons h with ⟨rfl, rfl⟩ | h
  · exact dPB_ok
  rcases lkp_cons h with ⟨rfl, rfl⟩ | h
  · exact dBytes_ok
  rcases lkp_cons h with ⟨rfl, rfl⟩ | h
  · exact dErr_ok
  · exact (lkp_nil h).elim
def ksU0 : List (Nat × KSpec) := (42, kClone) :: (73, kEq) :: (77, kIsz) :: (78, kUn finv) :: ksE2
theorem ksU0_ok : ∀ f sp, lkp ksU0 f = some sp → KSOk Try.prog f sp := by
  intro f sp h
  rcases lkp_cons h with ⟨rfl, rfl⟩ | h
  · exact kClone_ok
  rcases lkp_cons h with ⟨rfl, rfl⟩ | h
  · exact kEq_ok
  rcases lkp_cons h with ⟨rfl, rfl⟩ | h
  · exact kIsz_ok
  rcases lkp_cons h with ⟨rfl, rfl⟩ | h
  · exact kInvert_ok
  · exact ksE2_ok f sp h
def tbU0 : Tb := tb 0 0 [] dsU0 ksU0 9
theorem tbU0_ok : TbOk Try.prog tbU0 := tb_ok dsU0_ok ksU0_ok

/-! ### The sum and the bytes of a point, each outcome under a name -/
def ks3g : List (Nat × KSpec) := (84, k2g fun x y => x * y) :: (85, k2g fun x y => x + y) :: (75, k2g fun x y => x - y) :: ks1
theorem ks3g_ok : ∀ f sp, lkp ks3g f = some sp → KSOk Try.prog f sp := by
  intro f sp h
  rcases lkp_cons h with ⟨rfl, rfl⟩ | h
  · exact k2g_ok kMul_ok
  rcases lkp_cons h with ⟨rfl, rfl⟩ | h
  · exact k2g_ok kAdd_ok
  rcases lkp_cons h with ⟨rfl, rfl⟩ | h
  · exact k2g_ok kSub_ok
  · exact ks1_ok f sp h
def tb3g : Tb := tb 0 0 [] [] ks3g 0
theorem tb3g_ok : TbOk Try.prog tb3g := tb_ok ds_nil ks3g_ok

def kUnG (f : F → F) : KSpec where
  run := fun args m nt K => match args with
    | [.s (.p te 0), .s (.p tx ox)] => match lkp m te with
      | some [.fi _] => obind (rdFi m (.s (.p tx ox))) fun a => onb (!Nat.beq te tx) (∀ z, z = f a → K (.s (.p te 0)) (upd m te [.fi z]) nt)
      | _ => False
    | _ => False
  outs := outs0
theorem kUnG_ok {f : Nat} {op : F → F} (h : KSOk Try.prog f (kUn op)) : KSOk Try.prog f (kUnG op) where
  enter := h.enter
  run := by
    intro wr T w m nt args xs K hr hm hx hfree hwr
    refine h.run wr T w m nt args xs K ?_ hm hx hfree hwr
    simp only [kUnG] at hr
    split at hr
    · rename_i te tx ox
      split at hr
      · rename_i e0 hl
        obtain ⟨a, ha, hr1⟩ := obind_some hr
        obtain ⟨hne, hr2⟩ := onb_true hr1
        simp only [kUn, hl, ha, obind, hne, onb, cond_true]
        exact hr2 _ rfl
      · exact hr.elim
    · exact hr.elim

def ksA3 : List (Nat × KSpec) := (68, inl tb3g Try.f68 outs0) :: (69, inl tb3g Try.f69 outs0) :: (58, inl tb3g Try.f58 outs0) :: (78, kUnG finv) :: ksU0
theorem ksA3_ok : ∀ f sp, lkp ksA3 f = some sp → KSOk Try.prog f sp := by
  intro f sp h
  rcases lkp_cons h with ⟨rfl, rfl⟩ | h
  · exact inl_ok tb3g_ok Try.func68 (by kernel_rfl) (enter_in Try.func68 (by kernel_rfl) (by kernel_rfl)) _
  rcases lkp_cons h with ⟨rfl, rfl⟩ | h
  · exact inl_ok tb3g_ok Try.func69 (by kernel_rfl) (enter_in Try.func69 (by kernel_rfl) (by kernel_rfl)) _
  rcases lkp_cons h with ⟨rfl, rfl⟩ | h
  · exact inl_ok tb3g_ok Try.func58 (by kernel_rfl) (enter_in Try.func58 (by kernel_rfl) (by kernel_rfl)) _
  rcases lkp_cons h with ⟨rfl, rfl⟩ | h
  · exact kUnG_ok kInvert_ok
  · exact ksU0_ok f sp h
def tbA3 : Tb := tb 0 0 [] dsU0 ksA3 9
theorem tbA3_ok : TbOk Try.prog tbA3 := tb_ok dsU0_ok ksA3_ok

def ksU1 : List (Nat × KSpec) := (47, inl tbU0 Try.f47 outs0) :: (45, inl tbU0 Try.f45 noOut) :: (53, inl tbU0 Try.f53 outsP) :: (62, inl tbA3 Try.f62 outsP) :: (60, inl tbA3 Try.f60 outs1) :: ksU0
theorem ksU1_ok : ∀ f sp, lkp ksU1 f = some sp → KSOk Try.prog f sp := by
  intro f sp h
  rcases lkp_cons h with ⟨rfl, rfl⟩ | h
  · exact inl_ok tbU0_ok Try.func47 (by kernel_rfl) (enter_in Try.func47 (by kernel_rfl) (by kernel_rfl)) _
  rcases lkp_cons h with ⟨rfl, rfl⟩ | h
  · exact inl_ok tbU0_ok Try.func45 (by kernel_rfl) (enter_in Try.func45 (by kernel_rfl) (by kernel_rfl)) _
  rcases lkp_cons h with ⟨rfl, rfl⟩ | h
  · exact inl_ok tbU0_ok Try.func53 (by kernel_rfl) (enter_in Try.func53 (by kernel_rfl) (by kernel_rfl)) _
  rcases lkp_cons h with ⟨rfl, rfl⟩ | h
  · exact inl_ok tbA3_ok Try.func62 (by kernel_rfl) (enter_in Try.func62 (by kernel_rfl) (by kernel_rfl)) _
  rcases lkp_cons h with ⟨rfl, rfl⟩ | h
  · exact inl_ok tbA3_ok Try.func60 (by kernel_rfl) (enter_in Try.func60 (by kernel_rfl) (by kernel_rfl)) _
  · exact ksU0_ok f sp h
def tbU1 : Tb := tb 0 0 [] dsU0 ksU1 9
theorem tbU1_ok : TbOk Try.prog tbU1 := tb_ok dsU0_ok ksU1_ok

def ksU2 : List (Nat × KSpec) := (54, inl tbU1 Try.f54 noOut) :: (43, inl tbU1 Try.f43 noOut) :: ksU1
theorem ksU2_ok : ∀ f sp, lkp ksU2 f = some sp → KSOk Try.prog f sp := by
  intro f sp h
  rcases lkp_cons h with ⟨rfl, rfl⟩ | h
  · exact inl_ok tbU1_ok Try.func54 (by kernel_rfl) (enter_in Try.func54 (by kernel_rfl) (by kernel_rfl)) _
  rcases lkp_cons h with ⟨rfl, rfl⟩ | h
  · exact inl_ok tbU1_ok Try.func43 (by kernel_rfl) (enter_in Try.func43 (by kernel_rfl) (by kernel_rfl)) _
  · exact ksU1_ok f sp h
def tbU2 : Tb := tb 0 0 [] dsU0 ksU2 9
theorem tbU2_ok : TbOk Try.prog tbU2 := tb_ok dsU0_ok ksU2_ok

def ksU3 : List (Nat × KSpec) := (41, inl tbU2 Try.f41 outsP) :: ksU2
theorem ksU3_ok : ∀ f sp, lkp ksU3 f = some sp → KSOk Try.prog f sp := by
  intro f sp h
  rcases lkp_cons h with ⟨rfl, rfl⟩ | h
  · exact inl_ok tbU2_ok Try.func41 (by kernel_rfl) (enter_in Try.func41 (by kernel_rfl) (by kernel_rfl)) _
  · exact ksU2_ok f sp h
def tbU3 : Tb := tb 0 0 [] dsU0 ksU3 9
theorem tbU3_ok : TbOk Try.prog tbU3 := tb_ok dsU0_ok ksU3_ok
def ksU4 : List (Nat × KSpec) := (40, inl tbU3 Try.f40 noOut) :: ksU3
theorem ksU4_ok : ∀ f sp, lkp ksU4 f = some sp → KSOk Try.prog f sp := by
  intro f sp h
  rcases lkp_cons h with ⟨rfl, rfl⟩ | h
  · exact inl_ok tbU3_ok Try.func40 (by kernel_rfl) (enter_in Try.func40 (by kernel_rfl) (by kernel_rfl)) _
  · exact ksU3_ok f sp h
def tbU4 : Tb := tb 0 0 [] dsU0 ksU4 9
theorem tbU4_ok : TbOk Try.prog tbU4 := tb_ok dsU0_ok ksU4_ok
def ksU5 : List (Nat × KSpec) := (61, inl tbU4 Try.f61 noOut) :: ksU4
theorem ksU5_ok : ∀ f sp, lkp ksU5 f = some sp → KSOk Try.prog f sp := by
  intro f sp h
  rcases lkp_cons h with ⟨rfl, rfl⟩ | h
  · exact inl_ok tbU4_ok Try.func61 (by kernel_rfl) (enter_in Try.func61 (by kernel_rfl) (by kernel_rfl)) _
  · exact ksU4_ok f sp h
def tbU5 : Tb := tb 0 0 [] dsU0 ksU5 9
theorem tbU5_ok : TbOk Try.prog tbU5 := tb_ok dsU0_ok ksU5_ok
def ksU6 : List (Nat × KSpec) := (44, inl tbU5 Try.f44 noOut) :: ksU5
theorem ksU6_ok : ∀ f sp, lkp ksU6 f = some sp → KSOk Try.prog f sp := by
  intro f sp h
  rcases lkp_cons h with ⟨rfl, rfl⟩ | h
  · exact inl_ok tbU5_ok Try.func44 (by kernel_rfl) (enter_in Try.func44 (by kernel_rfl) (by kernel_rfl)) _
  · exact ksU5_ok f sp h
def tbU6 : Tb := tb 0 0 [] dsU0 ksU6 9
theorem tbU6_ok : TbOk Try.prog tbU6 := tb_ok dsU0_ok ksU6_ok

end Go.Proofs.Ytdaheccfeihpgaa.Nm

