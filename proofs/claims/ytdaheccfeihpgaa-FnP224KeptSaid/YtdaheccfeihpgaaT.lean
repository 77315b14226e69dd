import Derived.Test.YtdaheccfeihpgaaJ
import Derived.Test.YtdaheccfeihpgaaG
import Derived.Test.YtdaheccfeihpgaaH
import Derived.Test.YtdaheccfeihpgaaL
import Derived.Test.YtdaheccfeihpgaaO
import Derived.Test.YtdaheccfeihpgaaP
import Derived.Test.YtdaheccfeihpgaaK
/-
  The curve's polynomial; strings of bytes.
-/
/-
  Whether bytes are the same ones: the contract.
-/
namespace Go.Proofs.Ytdaheccfeihpgaa.Nm
open Go Go.RowKit

/-- The bytes of parts. -/
def numsP : List Pc → Option (List Int)
  | [] => some []
  | .bt bs :: r => (numsP r).map ((bs.map fun (x : Nat) => (x : Int)) ++ ·)
  | .c (.sym .u8 n) :: r => (numsP r).map (n :: ·)
  | .c (.lit .u8 n) :: r => (numsP r).map (n :: ·)
  | _ => none

theorem numsOf_bytes (bs : List Nat) {l : List Sc} {a : List Int} (h : numsOf l = some a) : numsOf ((bs.map fun (x : Nat) => Sc.sym .u8 (x : Int)) ++ l) = some ((bs.map fun (x : Nat) => (x : Int)) ++ a) := by
  induction bs with
  | nil => exact h
  | cons b r ih => simp [numsOf, ih]

theorem numsP_ok : ∀ {l : List Pc} {a : List Int}, goods l → numsP l = some a → numsOf (flat l) = some a
  | [], a, _, h => by cases h; rfl
  | p :: r, a, hg, h => by
    obtain ⟨g1, g2⟩ := goods_cons.1 hg
    unfold numsP at h
    split at h
    · rename_i heq; cases heq
    · rename_i bs r' heq
      cases heq
      obtain ⟨ms, hm, rfl⟩ := Option.map_eq_some_iff.1 h
      have ih := numsP_ok g2 hm
      simp only [flat, bt_cells g1.1]
      exact numsOf_bytes bs ih
    · rename_i n r' heq
      cases heq
      obtain ⟨ms, hm, rfl⟩ := Option.map_eq_some_iff.1 h
      have ih := numsP_ok g2 hm
      simp [flat, Pc.cells, numsOf, ih]
    · rename_i n r' heq
      cases heq
      obtain ⟨ms, hm, rfl⟩ := Option.map_eq_some_iff.1 h
      have ih := numsP_ok g2 hm
      simp [flat, Pc.cells, numsOf, ih]
    · cases h

/-- The bytes of a slice. -/
def rdBs (m : Mem) : V → Option (List Int)
  | .s s => match slp s with
    | some (t, o, n) => match lkp m t with
      | some l => match rdN l o n with
        | some q => numsP q
        | none => none
      | none => none
    | none => none
  | _ => none

theorem numsOf_noTag : ∀ {l : List Sc} {ns : List Int}, numsOf l = some ns → ∀ s ∈ l, noTag s = true
  | [], _, _, s, hs => by cases hs
  | x :: r, ns, h, s, hs => by
    unfold numsOf at h
    split at h
    · rename_i heq; cases heq
    · rename_i heq
      cases heq
      obtain ⟨ms, hm, rfl⟩ := Option.map_eq_some_iff.1 h
      rcases List.mem_cons.1 hs with rfl | hs
      · rfl
      · exact numsOf_noTag hm s hs
    · rename_i heq
      cases heq
      obtain ⟨ms, hm, rfl⟩ := Option.map_eq_some_iff.1 h
      rcases List.mem_cons.1 hs with rfl | hs
      · rfl
      · exact numsOf_noTag hm s hs
    · cases h

theorem numsOf_byte {T : Tg} : ∀ {l : List Sc} {xs : List Value} {ns : List Int}, CR T l xs → numsOf l = some ns → ∀ n ∈ ns, 0 ≤ n ∧ n < 256
  | [], xs, ns, h, e, n, hn => by cases e; cases hn
  | s :: r, xs, ns, h, e, n, hn => by
    cases h with
    | cons h1 h2 =>
    unfold numsOf at e
    split at e
    · rename_i heq; cases heq
    · rename_i heq
      cases heq
      obtain ⟨ms, hm, rfl⟩ := Option.map_eq_some_iff.1 e
      rcases List.mem_cons.1 hn with rfl | hn
      · have := h1.2; rw [IntKind.wrap_u8'] at this; omega
      · exact numsOf_byte h2 hm n hn
    · rename_i heq
      cases heq
      obtain ⟨ms, hm, rfl⟩ := Option.map_eq_some_iff.1 e
      rcases List.mem_cons.1 hn with rfl | hn
      · have := h1.2; rw [IntKind.wrap_u8'] at this; omega
      · exact numsOf_byte h2 hm n hn
    · cases e

theorem str_beq : ∀ {a b : List Int}, (∀ n ∈ a, 0 ≤ n ∧ n < 256) → (∀ n ∈ b, 0 ≤ n ∧ n < 256) → ((strOfNums a).toList == (strOfNums b).toList) = (a == b) := by
  intro a b ha hb
  have e : ∀ l : List Int, (strOfNums l).toList = l.map fun n => UInt8.ofNat n.toNat := fun l => by
    rw [ByteArray.toList_eq]; rfl
  rw [e, e]
  induction a generalizing b with
  | nil => cases b <;> rfl
  | cons x r ih =>
    cases b with
    | nil => rfl
    | cons y q =>
      have h1 := ha x (by simp)
      have h2 := hb y (by simp)
      have e : (UInt8.ofNat x.toNat == UInt8.ofNat y.toNat) = (x == y) := by
        rw [Bool.eq_iff_iff]
        simp only [beq_iff_eq, ← UInt8.toNat_inj, UInt8.toNat_ofNat']
        omega
      have ih := ih (b := q) (fun z hz => ha z (by simp [hz])) (fun z hz => hb z (by simp [hz]))
      simp only [List.map_cons, List.cons_beq_cons, e, ih]

/-- A slice of bytes, under a name of one's own. -/
theorem rdBs_ok {wr : Nat → Bool} {T : Tg} {w : World} {m : Mem} (hm : MOk wr T w m) {u : V} {x : Value} {a : List Int} (hu : u.R T x) (h : rdBs m u = some a) :
    ∃ b q c, b.blk < w.heap.size ∧ numsOf (flat q) = some a ∧ (flat q).length = a.length ∧ (∀ n ∈ a, 0 ≤ n ∧ n < 256) ∧ x = .slice (some ⟨b.blk, b.off, none⟩) a.length c ∧ ∀ T' i, T' i = some b → BlockOk T' w i q := by
  unfold rdBs at h
  split at h
  · rename_i s
    split at h
    · rename_i t o n hsl
      obtain ⟨b, c, hb, rfl⟩ := slp_ok hsl (vr_s hu)
      split at h
      · rename_i l hl
        split at h
        · rename_i q hq
          obtain ⟨_, _, _, _, hn⟩ := rdN_ok hq
          obtain ⟨xs, hp, hlen, _⟩ := (hm.at_ t l hl).range hb hq
          have h := numsP_ok hp.2 h
          have hlen2 : a.length = n := by
            have := numsOf_ok hp.1 h
            rw [this] at hlen
            simpa using hlen
          refine ⟨⟨b.blk, b.off + o, 0⟩, q, c, hm.lt t b hb, h, by omega, numsOf_byte hp.1 h, by rw [hlen2], fun T' i hi => sub_ok hm hb hl hq (numsOf_noTag h) hi⟩
        · cases h
      · cases h
    · cases h
  · cases h

def dSeq : DSpec := fun args m _ => match args with
  | [x, y] => match rdBs m x, rdBs m y with
    | some a, some b => some (.s (.bs (a == b)), [])
    | _, _ => none
  | _ => none

theorem conv_of {n : Nat} {env : Env} {m : Mem} {x : Operand} {t l c : Nat} {q : List Pc} {a : List Int} (h : evV env x = some (.s (.sl t 0 l c))) (hl : lkp m t = some q) (hq : rdN q 0 l = some q) (ha : numsOf (flat q) = some a) :
    dq (tb n 2 [] [] [] 9) env m 2 (.convert 30 9 x) = some (.s (.val (.string (strOfNums a))), []) := by
  have hs : evS env x = some (.sl t 0 l c) := by unfold evS; rw [h]
  have h1 : dqConv (tb n 2 [] [] [] 9) env 30 9 x = none := by unfold dqConv; rw [hs]; rfl
  show dqConv2 (tb n 2 [] [] [] 9) env m 30 9 x = _
  unfold dqConv2
  rw [h1]
  show dqConvS (tb n 2 [] [] [] 9) env m 30 9 x = _
  unfold dqConvS
  rw [hs]
  show (match lkp m t with
      | some q => match rdN q 0 l with
        | some q => match numsOf (flat q) with
          | some ns => bif has (tb n 2 [] [] [] 9).apd 30 && has (tb n 2 [] [] [] 9).str 9 then some (V.s (.val (.string (strOfNums ns))), ([] : List (List Pc))) else none
          | none => none
        | none => none
      | none => none) = _
  rw [hl]
  simp only [hq, ha]
  rfl

theorem ops_det {B : Tb} {ops r : List Oper} {o : Oper} {s : SS} {K : SS → Prop} {d : Nat} {v : V} {fr : List (List Pc)} {l : List Oper} (hl : l = o :: r) (hg : o.guard = none) (hd : o.dst = some d) (hop : ∀ K', exOp B o.op o.dst s K' = exDet B o.op o.dst s K') (hdq : dq B s.env s.m s.nt o.op = some (v, fr)) (hlt : Nat.blt d B.n = true) (hgen : ∀ K' : V → Prop, gen o.op v K' = K' v)
    (h : exOps2 B ops r ⟨(d, v) :: s.env, addF s.m s.nt fr, s.nt + fr.length⟩ K) : exOps2 B ops l s K := by
  subst hl
  unfold exOps2
  rw [hg]
  simp only [hop]
  unfold exDet
  rw [hd]
  simp only [hdq, obind, hlt, onb, cond_true, hgen]
  exact h

def cdL : Code → Code
  | .seq x _ => x
  | c => c
def cdR : Code → Code
  | .seq _ y => y
  | c => c
def regOps : Code → Array Oper
  | .region _ ops _ => ops
  | _ => #[]

theorem exC2_two {B : Tb} {c : Code} {s : SS} {K : Xt → SS → Prop} {i j : Nat} {o p : Array Oper} (hc : c = .seq (.region i o false) (.seq (.region j p false) .ret)) : exC2 B c s K = exOps2 B o.toList o.toList s fun s' => exOps2 B p.toList p.toList s' (K .ret) := by
  subst hc
  rfl

noncomputable def sO0 : Array Oper := regOps (cdL (Try.f13.body.getD .skip))
noncomputable def sO1 : Array Oper := regOps (cdL (cdR (Try.f13.body.getD .skip)))
noncomputable def sOp (i : Nat) : Oper := (sO1.toList[i]?).getD default
noncomputable abbrev tbs : Tb := tb Try.f13.ntmps 2 [] [] [] 9

theorem run_seq2 (q1 q2 : List Pc) (n1 n2 c1 c2 : Nat) (a b : List Int) (h1 : rdN q1 0 n1 = some q1) (h2 : rdN q2 0 n2 = some q2) (e1 : numsOf (flat q1) = some a) (e2 : numsOf (flat q2) = some b) (K : V → Mem → Nat → Prop) (hK : K (.s (.bs ((strOfNums a).toList == (strOfNums b).toList))) [(0, q1), (1, q2)] 2) :
    exC2 tbs (Try.f13.body.getD .skip) ⟨entryV [.s (.sl 0 0 n1 c1), .s (.sl 1 0 n2 c2)] 0, [(0, q1), (1, q2)], 2⟩ (endK tbs Try.f13.results.toList K) := by
  have hc : (Try.f13.body.getD .skip) = .seq (.region 0 sO0 false) (.seq (.region 1 sO1 false) .ret) := by kernel_rfl
  rw [exC2_two hc]
  have r0 : ∀ K' : SS → Prop, exOps2 tbs sO0.toList sO0.toList ⟨entryV [.s (.sl 0 0 n1 c1), .s (.sl 1 0 n2 c2)] 0, [(0, q1), (1, q2)], 2⟩ K' = K' ⟨[(4, .s (.bl false)), (0, .s (.sl 0 0 n1 c1)), (1, .s (.sl 1 0 n2 c2))], [(0, q1), (1, q2)], 2⟩ := by intro K'; kernel_rfl
  rw [r0]
  refine ops_det (o := sOp 0) (r := sO1.toList.drop 1) (v := .s (.sl 0 0 n1 c1)) (d := 5) (fr := []) (by kernel_rfl) (by kernel_rfl) (by kernel_rfl) (fun K' => by kernel_rfl) (by kernel_rfl) (by kernel_rfl) (fun K' => by kernel_rfl) ?_
  have g1 : (sOp 1).op = .convert 30 9 (.tmp 5) := by kernel_rfl
  have g3 : (sOp 3).op = .convert 30 9 (.tmp 7) := by kernel_rfl
  refine ops_det (o := sOp 1) (r := sO1.toList.drop 2) (v := .s (.val (.string (strOfNums a)))) (d := 6) (fr := []) (by kernel_rfl) (by kernel_rfl) (by kernel_rfl) (fun K' => by kernel_rfl) (by rw [g1]; exact conv_of rfl rfl h1 e1) (by kernel_rfl) (fun K' => by rw [g1]; rfl) ?_
  refine ops_det (o := sOp 2) (r := sO1.toList.drop 3) (v := .s (.sl 1 0 n2 c2)) (d := 7) (fr := []) (by kernel_rfl) (by kernel_rfl) (by kernel_rfl) (fun K' => by kernel_rfl) (by kernel_rfl) (by kernel_rfl) (fun K' => by kernel_rfl) ?_
  refine ops_det (o := sOp 3) (r := sO1.toList.drop 4) (v := .s (.val (.string (strOfNums b)))) (d := 8) (fr := []) (by kernel_rfl) (by kernel_rfl) (by kernel_rfl) (fun K' => by kernel_rfl) (by rw [g3]; exact conv_of rfl rfl h2 e2) (by kernel_rfl) (fun K' => by rw [g3]; rfl) ?_
  refine ops_det (o := sOp 4) (r := sO1.toList.drop 5) (v := .s (.bs ((strOfNums a).toList == (strOfNums b).toList))) (d := 9) (fr := []) (by kernel_rfl) (by kernel_rfl) (by kernel_rfl) (fun K' => by kernel_rfl) (by kernel_rfl) (by kernel_rfl) (fun K' => by kernel_rfl) ?_
  refine ops_det (o := sOp 5) (r := []) (v := .s (.bs ((strOfNums a).toList == (strOfNums b).toList))) (d := 4) (fr := []) (by kernel_rfl) (by kernel_rfl) (by kernel_rfl) (fun K' => by kernel_rfl) (by kernel_rfl) (by kernel_rfl) (fun K' => by kernel_rfl) ?_
  exact hK

theorem dSeq_ok : DSOk Try.prog 13 dSeq where
  enter := enter_in Try.func13 (by kernel_rfl) (by kernel_rfl)
  run := by
    intro wr T w m nt args xs v fr h hm hx hfr
    simp only [dSeq] at h
    split at h
    · rename_i u v
      split at h
      · rename_i a b e1 e2
        simp only [Option.some.injEq, Prod.mk.injEq] at h
        obtain ⟨rfl, rfl⟩ := h
        obtain ⟨x1, x2, rfl, hv1, hv2⟩ := vsr2 hx
        obtain ⟨b1, q1, c1, hl1, ha, hla, hba, rfl, hR1⟩ := rdBs_ok hm hv1 e1
        obtain ⟨b2, q2, c2, hl2, hb, hlb, hbb, rfl, hR2⟩ := rdBs_ok hm hv2 e2
        refine val_calls (B := tbs) (c := Try.f13.body.getD .skip) tbN_ok Try.func13 (by kernel_rfl) (by kernel_rfl) (args := [.s (.sl 0 0 a.length c1), .s (.sl 1 0 b.length c2)]) (Nat.le_of_ble_eq_true (by kernel_rfl)) (m0 := [(0, q1), (1, q2)]) ?_ (vs2 (by rw [V.R]; exact ⟨b1, rfl, rfl⟩) (by rw [V.R]; exact ⟨b2, rfl, rfl⟩)) (fun i hi => tgs_none (show [b1, b2].length ≤ i from hi)) rfl hm _
          (run_seq2 q1 q2 a.length b.length c1 c2 a b (rdN_self hla) (rdN_self hlb) ha hb _ ⟨_, rfl, fun T' z hz => ?_⟩)
        · refine mok_tgs (fun b' h => ?_) (fun i hi => ?_) fun t l h => ?_
          · simp only [List.mem_cons, List.not_mem_nil, or_false] at h
            rcases h with rfl | rfl
            · exact hl1
            · exact hl2
          · have : i = 0 ∨ i = 1 := by simp at hi; omega
            rcases this with rfl | rfl <;> rfl
          · rcases lkp_cons h with ⟨rfl, rfl⟩ | h
            · exact hR1 _ _ rfl
            rcases lkp_cons h with ⟨rfl, rfl⟩ | h
            · exact hR2 _ _ rfl
            · exact (lkp_nil h).elim
        · rw [str_beq hba hbb] at hz
          exact hz
      · cases h
    · cases h

end Go.Proofs.Ytdaheccfeihpgaa.Nm

/-
  The field behind the specification's numbers.
-/
namespace Go.Proofs.Ytdaheccfeihpgaa.Nm
open Go Go.RowKit

abbrev PN : Nat := 26959946667150639794667015087019630673557916260026308143510066298881

/-! ### The field behind the numbers -/
theorem pp224 : p224 = PN := rfl
theorem v_times (a b : F) : timesN a.val b.val = (a * b).val := by rw [Fin.val_mul]; rfl
theorem v_plus (a b : F) : plusN a.val b.val = (a + b).val := by rw [Fin.val_add]; rfl
theorem v_minus (a b : F) : minusN a.val b.val = (a - b).val := by
  have ha : a.val < PN := a.isLt
  have hb : b.val < PN := b.isLt
  rw [Fin.sub_def]
  show minusN a.val b.val = (p224 - b.val + a.val) % p224
  unfold minusN
  show (a.val + 53919893334301279589334030174039261347115832520052616287020132597762 - b.val) % PN = (PN - b.val + a.val) % PN
  unfold PN at *
  omega
theorem v_three : (3 : F).val = 3 := by decide +kernel
theorem v_cb : bN = cb.val := by decide +kernel
theorem v_right (x : F) : rightN x.val = (x * x * x - 3 * x + cb).val := by
  unfold rightN
  have h3 : timesN 3 x.val = (3 * x).val := by rw [← v_three, v_times]
  rw [v_times, v_times, h3, v_minus, v_cb, v_plus]
end Go.Proofs.Ytdaheccfeihpgaa.Nm

/-
  Squares of elements: contracts.
-/
namespace Go.Proofs.Ytdaheccfeihpgaa.Nm
open Go Go.RowKit

set_option maxRecDepth 100000 in
theorem run_square (Fin : List (Nat × Nat × SV) → Prop) (x : Nat) :
    exC (tabP Try.f83.ntmps [(0, 4)]) (Try.f83.body.getD .skip) ⟨entry [⟨3, 0, 0⟩, ⟨3, 1, 0⟩] 0, mem4 1 x [], [], 0⟩ (fun s => Fin s.out) =
    LawMul Fin (n0 x) (n1 x) (n2 x) (n3 x) (n0 x) (n1 x) (n2 x) (n3 x) := by
  unfold LawMul
  kernel_rfl

theorem ptrs_ok2 : ∀ s ∈ [(⟨3, 0, 0⟩ : SV), ⟨3, 1, 0⟩], s.ok := by
  intro s hs
  simp only [List.mem_cons, List.not_mem_nil, or_false] at hs
  rcases hs with rfl | rfl <;> trivial

theorem fsquare_calls (p0 p1 : Addr) (x : F) (w : World) (h0 : WrN w p0 4) (h1 : ElC w p1 x) :
    Calls Try.prog 83 #[.pointer (some p0), .pointer (some p1)] w fun e w' => e = .returned (.tuple #[]) ∧ Below w.heap.size (set4 w p0 (x * x)) w' := by
  have H := ex_calls (T := TT w [p0, p1]) (w := w) (tab_ok Try.f83.ntmps [(0, 4)]) (tag_ok (by simp) (lt2' h0.1 h1.lt) (out_one (p0 := p0) rfl h0))
    Try.func83 (c := Try.f83.body.getD .skip) (by kernel_rfl) (by kernel_rfl) rfl [⟨3, 0, 0⟩, ⟨3, 1, 0⟩] (Nat.le_of_ble_eq_true (by kernel_rfl)) ptrs_ok2
    (mem4 1 (mont x) []) (mem4_ok (p := p1) rfl h1 (mem_nil _ _)) (fun s => Fin4 0 (mont (x * x)) s.out)
    (by
      rw [run_square]
      exact law_mul (n0_lt _) (n1_lt _) (n2_lt _) (n3_lt _) (n3_lt _) (ev4_lt x) fun z0 z1 z2 z3 b0 b1 b2 b3 hz he => fin4_of b0 b1 b2 b3 (mont_mul hz (by rw [he, ev4_mont])))
  rw [args2] at H
  exact H.mono fun e w' h => post4 rfl h

/-- A function of one element that writes one. -/
def k1 (op : F → F) : KSpec where
  run := fun args m nt K => match args with
    | [p, x] => obind (rdFi m x) fun a => obind (wrP m [.fi (op a)] p) fun r => K (.tup []) (upd m r.1 r.2) nt
    | _ => False
  outs := outs0

theorem kSquare_ok : KSOk Try.prog 83 (k1 fun x => x * x) where
  enter := enter_in Try.func83 (by kernel_rfl) (by kernel_rfl)
  run := by
    intro wr T w m nt args xs K h hm hx hfree hwr
    simp only [k1] at h
    split at h
    · rename_i p x
      obtain ⟨a, ha, h⟩ := obind_some h
      obtain ⟨r, hr, h⟩ := obind_some h
      obtain ⟨px, py, rfl, h1, h2⟩ := vsr2 hx
      obtain ⟨p1, rfl, e1⟩ := rdFi_ok hm h2 ha
      refine ks_wrs (args := [p, x]) hm hfree hwr h1 hr (pr_fi T _) rfl h fun bb o e hw => ?_
      subst e
      refine (fsquare_calls _ p1 a w hw e1).mono fun e w' ⟨he, hb⟩ => ⟨he, ?_⟩
      rwa [set4, setW_wrs] at hb
    · exact h.elim

end Go.Proofs.Ytdaheccfeihpgaa.Nm

/-
  The curve's polynomial in the program: its run.
-/
namespace Go.Proofs.Ytdaheccfeihpgaa.Nm
open Go Go.RowKit

def ksS1 : List (Nat × KSpec) := (83, k1 fun x => x * x) :: ks1
theorem ksS1_ok : ∀ f sp, lkp ksS1 f = some sp → KSOk Try.prog f sp := by
  intro f sp h
  rcases lkp_cons h with ⟨rfl, rfl⟩ | h
  · exact kSquare_ok
  · exact ks1_ok f sp h
def tbS1 : Tb := tb 0 0 [] [] ksS1 0
theorem tbS1_ok : TbOk Try.prog tbS1 := tb_ok ds_nil ksS1_ok

/-- Elements' functions, squares among them. -/
def ksE2 : List (Nat × KSpec) := (67, inl tbS1 Try.f67 outs0) :: ksQ
theorem ksE2_ok : ∀ f sp, lkp ksE2 f = some sp → KSOk Try.prog f sp := by
  intro f sp h
  rcases lkp_cons h with ⟨rfl, rfl⟩ | h
  · exact inl_ok tbS1_ok Try.func67 (by kernel_rfl) (enter_in Try.func67 (by kernel_rfl) (by kernel_rfl)) _
  · exact ksQ_ok f sp h
def tbE2 : Tb := tb 0 0 [] dsQ ksE2 9
theorem tbE2_ok : TbOk Try.prog tbE2 := tb_ok dsQ_ok ksE2_ok

def ksP1 : List (Nat × KSpec) := (47, inl tbE2 Try.f47 outs0) :: (34, inl tbE2 Try.f34 noOut) :: (28, inl tbE2 Try.f28 noOut) :: ksE2
theorem ksP1_ok : ∀ f sp, lkp ksP1 f = some sp → KSOk Try.prog f sp := by
  intro f sp h
  rcases lkp_cons h with ⟨rfl, rfl⟩ | h
  · exact inl_ok tbE2_ok Try.func47 (by kernel_rfl) (enter_in Try.func47 (by kernel_rfl) (by kernel_rfl)) _
  rcases lkp_cons h with ⟨rfl, rfl⟩ | h
  · exact inl_ok tbE2_ok Try.func34 (by kernel_rfl) (enter_in Try.func34 (by kernel_rfl) (by kernel_rfl)) _
  rcases lkp_cons h with ⟨rfl, rfl⟩ | h
  · exact inl_ok tbE2_ok Try.func28 (by kernel_rfl) (enter_in Try.func28 (by kernel_rfl) (by kernel_rfl)) _
  · exact ksE2_ok f sp h
def tbP1 : Tb := tb 0 0 [] dsQ ksP1 9
theorem tbP1_ok : TbOk Try.prog tbP1 := tb_ok dsQ_ok ksP1_ok

def ksP2 : List (Nat × KSpec) := (29, inl tbP1 Try.f29 noOut) :: ksP1
theorem ksP2_ok : ∀ f sp, lkp ksP2 f = some sp → KSOk Try.prog f sp := by
  intro f sp h
  rcases lkp_cons h with ⟨rfl, rfl⟩ | h
  · exact inl_ok tbP1_ok Try.func29 (by kernel_rfl) (enter_in Try.func29 (by kernel_rfl) (by kernel_rfl)) _
  · exact ksP1_ok f sp h

/-- The polynomial, as the program reckons it. -/
def polyF (x : F) : F := x * x * x - (x + x + x) + cb

set_option maxRecDepth 100000 in
theorem run_poly (x : List Nat) (G : V → Prop) : exC2 (tb Try.f10.ntmps 0 [] dsQ ksP2 9) (Try.f10.body.getD .skip) ⟨entryV [.agg [.bt x]] 0, [], 0⟩ (endK (tb Try.f10.ntmps 0 [] dsQ ksP2 9) Try.f10.results.toList fun v _ _ => G v) =
    ((∀ h : nBE x < pp, G (.tup [.agg [.bt (bytesBE (polyF ⟨nBE x, h⟩).val)], .s (.bl true)])) ∧ (¬ nBE x < pp → G (.tup [.agg [.bt (List.replicate 28 0)], .s (.bl false)]))) := by
  kernel_rfl

set_option maxRecDepth 100000 in
theorem run_iB (G : V → Prop) : exC2 (tb Try.f16.ntmps 0 [] dsQ ksP2 9) (Try.f16.body.getD .skip) ⟨[], [], 0⟩ (endK (tb Try.f16.ntmps 0 [] dsQ ksP2 9) Try.f16.results.toList fun v _ _ => G v) =
    G (.agg [.bt (bytesBE cb.val)]) := by
  kernel_rfl

end Go.Proofs.Ytdaheccfeihpgaa.Nm

/-
  The bytes of a number of the specification's: the contract.
-/
namespace Go.Proofs.Ytdaheccfeihpgaa.Nm
open Go Go.RowKit

/-- A byte of a word. -/
def byQ (v : Int) (K : Int → Prop) : Prop := ∀ z, IntKind.i64.wrap z = z → z = IntKind.i64.wrap v → ∀ b, IntKind.u8.wrap b = b → b = IntKind.u8.wrap z → K b
def byH (x : Nat) (f : List Int → Prop) : Nat → List Int → Prop
  | 0, acc => f acc.reverse
  | n + 1, acc => byQ (Int.fdiv (wd (n / 4) x : Nat) (2 ^ (8 * (n % 4)))) fun b => byH x f n (b :: acc)

set_option maxRecDepth 100000 in
theorem run_byts (x c : Nat) (G : V → Option (List Pc) → Prop) :
    exC2 (tb Try.f14.ntmps 2 [] [] [] 40) (Try.f14.body.getD .skip) ⟨entryV [cv 1, .s (.sl 0 0 7 c)] 0, [(0, [.w7 x])], 2⟩ (endK (tb Try.f14.ntmps 2 [] [] [] 40) Try.f14.results.toList fun v m _ => G v (lkp m 3)) =
    byH x (fun l => G (.s (.sl 3 0 28 28)) (some (l.map fun b => .c (.sym .u8 b)))) 28 [] := by
  kernel_rfl

theorem byt_of (x n : Nat) : x / 4294967296 ^ (n / 4) % 4294967296 / 2 ^ (8 * (n % 4)) % 256 = x / 256 ^ n % 256 := by
  have hn : n = 4 * (n / 4) + n % 4 := by omega
  have hp : 256 ^ n = 4294967296 ^ (n / 4) * 256 ^ (n % 4) := by
    conv => lhs; rw [hn]
    rw [Nat.pow_add, Nat.pow_mul]
  rw [hp, ← Nat.div_div_eq_div_mul]
  generalize x / 4294967296 ^ (n / 4) = y
  have hr : n % 4 = 0 ∨ n % 4 = 1 ∨ n % 4 = 2 ∨ n % 4 = 3 := by omega
  rcases hr with h | h | h | h <;> rw [h] <;> simp only [Nat.reduceMul, Nat.reducePow] <;> omega

theorem byQ_ok {x n : Nat} {K : Int → Prop} (h : K ((dig x n : Nat) : Int)) : byQ (Int.fdiv (wd (n / 4) x : Nat) (2 ^ (8 * (n % 4)))) K := by
  intro z _ hz b _ hb
  have e : Int.fdiv (wd (n / 4) x : Nat) (2 ^ (8 * (n % 4))) = ((wd (n / 4) x / 2 ^ (8 * (n % 4)) : Nat) : Int) := by
    rw [Int.ofNat_fdiv]; norm_cast
  rw [e] at hz
  have hlt : wd (n / 4) x / 2 ^ (8 * (n % 4)) < 4294967296 := Nat.lt_of_le_of_lt (Nat.div_le_self _ _) (Nat.mod_lt _ (by omega))
  have hd : dig x n = wd (n / 4) x / 2 ^ (8 * (n % 4)) % 256 := by
    unfold dig wd
    exact (byt_of x n).symm
  rw [hd] at h
  generalize wd (n / 4) x / 2 ^ (8 * (n % 4)) = q at hz hlt h
  have hz' : z = (q : Int) := by rw [hz, IntKind.wrap_i64]; omega
  have hb' : b = ((q % 256 : Nat) : Int) := by
    rw [hb, hz']
    simp [IntKind.wrap, IntKind.bits, IntKind.signed]
  rw [hb']; exact h

theorem byH_ok {x : Nat} {f : List Int → Prop} : ∀ n acc, f (acc.reverse ++ ((List.range n).map fun k => ((dig x k : Nat) : Int)).reverse) → byH x f n acc
  | 0, acc, h => by simpa [byH] using h
  | n + 1, acc, h => by
    refine byQ_ok (byH_ok n _ ?_)
    have e : (((dig x n : Nat) : Int) :: acc).reverse ++ ((List.range n).map fun k => ((dig x k : Nat) : Int)).reverse = acc.reverse ++ ((List.range (n + 1)).map fun k => ((dig x k : Nat) : Int)).reverse := by
      simp [List.range_succ]
    rw [e]; exact h

/-- The bytes of a number, the highest first. -/
def dSby : DSpec := fun args m nt => match args with
  | [c, u] => match cvT c, rdW7 m u with
    | some _, some x => some (.s (.sl nt 0 28 28), [[.bt (bytesBE x)]])
    | _, _ => none
  | _ => none

theorem flat_byts (x : Nat) : flat (((([] : List Int).reverse ++ ((List.range 28).map fun k => ((dig x k : Nat) : Int)).reverse).map fun b => Pc.c (.sym .u8 b))) = flat [.bt (bytesBE x)] := by
  kernel_rfl

theorem new_of_flat {tg n cap : Nat} {q q2 : List Pc} (hf : flat q = flat q2) (hg : goods q2) (hn : ∀ s ∈ flat q2, noTag s = true) : NewG tg n cap q2 (.s (.sl tg 0 n cap)) (some q) :=
  ⟨rfl, q, rfl, fun _ _ xs hp => pr_any hn xs ⟨hf ▸ hp.1, hg⟩⟩

theorem tbY_ok : TbOk Try.prog (tb Try.f14.ntmps 2 [] [] [] 40) := tb_ok ds_nil fun _ _ h => (lkp_nil h).elim

theorem goods_byts (x : Nat) : goods [.bt (bytesBE x)] := goods_cons.2 ⟨⟨bytesBE_length x, bytesBE_lt x⟩, fun p hp => by cases hp⟩

theorem byts_end (x : Nat) : byH x (fun l => NewG 3 28 28 [.bt (bytesBE x)] (.s (.sl 3 0 28 28)) (some (l.map fun b => .c (.sym .u8 b)))) 28 [] :=
  byH_ok 28 [] (new_of_flat (tg := 3) (n := 28) (cap := 28) (flat_byts x) (goods_byts x) (bt_noTag _))

/-- A proposition that the elaborator does not look into. -/
structure Held (p : Prop) : Prop where
  out : p

set_option maxRecDepth 100000 in
theorem byts_held (x c : Nat) : Held (exC2 (tb Try.f14.ntmps 2 [] [] [] 40) (Try.f14.body.getD .skip) ⟨entryV [cv 1, .s (.sl 0 0 7 c)] 0, [(0, [.w7 x])], 2⟩ (endK (tb Try.f14.ntmps 2 [] [] [] 40) Try.f14.results.toList fun v m _ => NewG 3 28 28 [.bt (bytesBE x)] v (lkp m 3))) := by
  constructor
  rw [run_byts x c (NewG 3 28 28 [.bt (bytesBE x)])]
  exact byts_end x

theorem dSby_ok : DSOk Try.prog 14 dSby where
  enter := enter_in Try.func14 (by kernel_rfl) (by kernel_rfl)
  run := by
    intro wr T w m nt args xs v fr h hm hx hfr
    simp only [dSby] at h
    split at h
    · rename_i c u
      split at h
      · rename_i tf x hcv e1
        simp only [Option.some.injEq, Prod.mk.injEq] at h
        obtain ⟨rfl, rfl⟩ := h
        obtain ⟨x1, x2, rfl, hv0, hv1⟩ := vsr2 hx
        rw [cvT_eq hcv] at hv0
        obtain ⟨bf, hbf, hRf⟩ := cv_R hv0
        obtain ⟨_, b1, c1, rfl, hl1, hR1⟩ := rdW7_ok hm hv1 e1
        obtain ⟨k1, k2⟩ := hR1 (tgs [⟨b1.blk, b1.off, 0⟩, ⟨bf.blk, bf.off, 0⟩]) 0 0 rfl
        refine new_calls (B := tb Try.f14.ntmps 2 [] [] [] 40) (c := Try.f14.body.getD .skip) tbY_ok Try.func14 (by kernel_rfl) (by kernel_rfl) (args := [cv 1, .s (.sl 0 0 7 c1)]) (Nat.le_of_ble_eq_true (by kernel_rfl)) (mok_2 (b1 := ⟨b1.blk, b1.off, 0⟩) (b2 := ⟨bf.blk, bf.off, 0⟩) hl1 (hm.lt tf bf hbf) rfl rfl k1) (vs2 (hRf _ 1 0 rfl) k2) (fun i hi => tgs_none (show 2 ≤ i from hi)) rfl hm hfr 28 28 [.bt (bytesBE x)] 3 (by decide)
          ?_
        obtain ⟨hr⟩ := byts_held x c1
        assumption
      · cases h
    · cases h

end Go.Proofs.Ytdaheccfeihpgaa.Nm

/-
  The law of the polynomial: contracts that it needs.
-/
namespace Go.Proofs.Ytdaheccfeihpgaa.Nm
open Go Go.RowKit

/-- A function that returns parts without addresses. -/
theorem agg_calls {P : Program} {B : Tb} {wr : Nat → Bool} {T T0 : Tg} {w : World} {m m0 : Mem} {nt : Nat} {args : List V} {xs : List Value} {f : FuncId} {fn : Func} {c : Code} {q : List Pc} (hB : TbOk P B) (hf : P.funcs[f]? = some fn) (hb : fn.body = some c) (hn : fn.ntmps = B.n) (ha : args.length ≤ B.n) (hm0 : MOk (wrB B) T0 w m0) (hx : VsR T0 args xs) (hfree : ∀ t, B.base ≤ t → T0 t = none) (houts : B.outs = [])
    (hm : MOk wr T w m) (hq : ∀ s ∈ flat q, noTag s = true) (h : exC2 B c ⟨entryV args 0, m0, B.base⟩ (endK B fn.results.toList fun v _ _ => v = .agg q)) : Calls P f xs.toArray w (DEnd wr T w m nt (.agg q) []) := by
  refine (run_calls hB hf hb hn ha hm0 hx hfree _ h).mono fun e w' hh => ?_
  obtain ⟨y, T', v, m', nt', rfl, hL⟩ := hh
  have hv := hL.val
  rw [hL.post, V.R] at hv
  obtain ⟨g1, g2, g3, g4⟩ := lift_none (nt := nt) hm hL houts
  obtain ⟨ys, rfl, h1, h2⟩ := hv
  exact ⟨T, _, g1, rfl, by rw [V.R]; exact ⟨ys, rfl, h1.any hq, h2⟩, g2, g3, g4⟩

def dIB : DSpec := fun args _ _ => match args with
  | [] => some (.agg [.bt (bytesBE cb.val)], [])
  | _ => none

theorem dIB_ok : DSOk Try.prog 16 dIB where
  enter := enter_in Try.func16 (by kernel_rfl) (by kernel_rfl)
  run := by
    intro wr T w m nt args xs v fr h hm hx hfr
    simp only [dIB] at h
    split at h
    · simp only [Option.some.injEq, Prod.mk.injEq] at h
      obtain ⟨rfl, rfl⟩ := h
      have hx' : xs = [] := by rw [VsR] at hx; exact hx
      subst hx'
      exact agg_calls (B := tb Try.f16.ntmps 0 [] dsQ ksP2 9) (tb_ok dsQ_ok ksP2_ok) Try.func16 (c := Try.f16.body.getD .skip) (by kernel_rfl) (by kernel_rfl) (args := []) (Nat.le_of_ble_eq_true (by kernel_rfl)) mok_nil hx (fun i _ => rfl) rfl hm (bt_noTag _) (Eq.mpr (run_iB fun v => v = .agg [.bt (bytesBE cb.val)]) rfl)
    · cases h

def dsPl : List (Nat × DSpec) := (8, dOf) :: (9, dNumber) :: (12, dPrime) :: (11, dBelow) :: (14, dSby) :: (13, dSeq) :: (16, dIB) :: dsX3
theorem dsPl_ok : ∀ f sp, lkp dsPl f = some sp → DSOk Try.prog f sp := by
  intro f sp h
  rcases lkp_cons h with ⟨rfl, rfl⟩ | h
  · exact dOf_ok
  rcases lkp_cons h with ⟨rfl, rfl⟩ | h
  · exact dNumber_ok
  rcases lkp_cons h with ⟨rfl, rfl⟩ | h
  · exact dPrime_ok
  rcases lkp_cons h with ⟨rfl, rfl⟩ | h
  · exact dBelow_ok
  rcases lkp_cons h with ⟨rfl, rfl⟩ | h
  · exact dSby_ok
  rcases lkp_cons h with ⟨rfl, rfl⟩ | h
  · exact dSeq_ok
  rcases lkp_cons h with ⟨rfl, rfl⟩ | h
  · exact dIB_ok
  · exact dsX3_ok f sp h
def ksPl : List (Nat × KSpec) := [(10, inl (tb 0 0 [] dsQ ksP2 9) Try.f10 noOut)]
theorem ksPl_ok : ∀ f sp, lkp ksPl f = some sp → KSOk Try.prog f sp := by
  intro f sp h
  rcases lkp_cons h with ⟨rfl, rfl⟩ | h
  · exact inl_ok (tb_ok dsQ_ok ksP2_ok) Try.func10 (by kernel_rfl) (enter_in Try.func10 (by kernel_rfl) (by kernel_rfl)) _
  · exact (lkp_nil h).elim

end Go.Proofs.Ytdaheccfeihpgaa.Nm

/-
  The law of the polynomial: its run; it holds.
-/
namespace Go.Proofs.Ytdaheccfeihpgaa.Nm
open Go Go.RowKit

/-- The answer is 'true'. -/
def isT (v : V) : Prop := ∃ s, v = .s s ∧ ∀ T u, s.R T u → u = .bool true
theorem isT_lit : isT (.s (.bl true)) := ⟨_, rfl, fun _ _ h => h⟩
theorem isT_bs {b : Bool} (h : b = true) : isT (.s (.bs b)) := ⟨_, rfl, fun T u hu => by subst h; exact hu⟩

/-- What the frame wants of a law: it returns true, and memory has only grown. -/
theorem law_end {B : Tb} {locs : List Loc} {w w' : World} {y : Value} {T' : Tg} {v : V} {m' : Mem} {nt' : Nat} (hL : Left B (tgs locs) w w' (fun v _ _ => isT v) y T' v m' nt') (houts : B.outs = []) : y = .bool true ∧ Below w.heap.size w w' := by
  obtain ⟨s, rfl, h⟩ := hL.post
  exact ⟨h T' y (vr_s hL.val), left_below hL houts⟩

def bI (l : List Nat) : List Int := (l.map fun (x : Nat) => (x : Int)) ++ []
abbrev Z28 : List Nat := List.replicate 28 0
def pQ1 (x : List Nat) (h : nBE x < pp) : Bool := bI (bytesBE (polyF ⟨nBE x, h⟩).val) == bI (bytesBE (rightN (nBE x)))
def pQ2 (h : nBE Z28 < pp) : Bool := bytesBE (polyF ⟨nBE Z28, h⟩).val == bytesBE cb.val
def pT (q : Bool) (G : V → Prop) : Prop := (q = true → G (.s (.bs true))) ∧ (q = false → G (.s (.bl false)))
def polyL (x : List Nat) (G : V → Prop) : Prop :=
  (∀ h : nBE x < pp,
    (∀ h0 : nBE Z28 < pp, ((true == decide (nBE x < PN)) = true → (pQ1 x h = true → pT (pQ2 h0) G) ∧ (pQ1 x h = false → G (.s (.bl false)))) ∧ ((true == decide (nBE x < PN)) = false → False)) ∧
    (¬ nBE Z28 < pp → ((true == decide (nBE x < PN)) = true → (pQ1 x h = true → G (.s (.bl false))) ∧ (pQ1 x h = false → G (.s (.bl false)))) ∧ ((true == decide (nBE x < PN)) = false → False))) ∧
  (¬ nBE x < pp →
    (∀ h0 : nBE Z28 < pp, ((false == decide (nBE x < PN)) = true → pT (pQ2 h0) G) ∧ ((false == decide (nBE x < PN)) = false → False)) ∧
    (¬ nBE Z28 < pp → ((false == decide (nBE x < PN)) = true → G (.s (.bl false))) ∧ ((false == decide (nBE x < PN)) = false → False)))

set_option maxRecDepth 100000 in
theorem run_lpoly (x : List Nat) (G : V → Prop) : exC2 (tb Try.f3.ntmps 0 [] dsPl ksPl 9) (Try.f3.body.getD .skip) ⟨entryV [.agg [.bt x]] 0, [], 0⟩ (endK (tb Try.f3.ntmps 0 [] dsPl ksPl 9) Try.f3.results.toList fun v _ _ => G v) = polyL x G := by
  kernel_rfl

theorem ring_3 {n : Nat} [NeZero n] (x b : Fin n) : x * x * x - (x + x + x) + b = x * x * x - 3 * x + b := by grind
theorem polyF_right (x : F) : (polyF x).val = rightN x.val := by
  rw [v_right]
  unfold polyF
  rw [ring_3]
theorem polyF_zero (h : nBE Z28 < pp) : polyF ⟨nBE Z28, h⟩ = cb := by
  have e : (⟨nBE Z28, h⟩ : F) = 0 := by
    apply Fin.ext
    show nBE Z28 = _
    rw [fval_zero]
    decide +kernel
  rw [e]
  decide +kernel

theorem polyL_true (x : List Nat) : polyL x isT := by
  have hz : nBE Z28 < pp := by decide +kernel
  have hT : ∀ h0, pT (pQ2 h0) isT := fun h0 => by
    have e : pQ2 h0 = true := by unfold pQ2; rw [polyF_zero]; simp
    rw [e]
    exact ⟨fun _ => isT_bs rfl, fun h => by cases h⟩
  refine ⟨fun h => ⟨fun h0 => ⟨fun _ => ⟨fun _ => hT h0, fun hq => ?_⟩, fun hd => ?_⟩, fun h0 => absurd hz h0⟩, fun h => ⟨fun h0 => ⟨fun _ => hT h0, fun hd => ?_⟩, fun h0 => absurd hz h0⟩⟩
  · have e : pQ1 x h = true := by unfold pQ1; rw [polyF_right]; simp
    rw [e] at hq; cases hq
  · rw [decide_eq_true (show nBE x < PN from h)] at hd; cases hd
  · rw [decide_eq_false (show ¬ nBE x < PN from h)] at hd; cases hd

theorem poly_calls {T : Tg} {x : List Nat} {a : Value} (w : World) (ha : (V.agg [.bt x]).R T a) : Calls Try.prog 3 #[a] w fun e w' => e = .returned (.bool true) ∧ Below w.heap.size w w' := by
  have ha' : (V.agg [.bt x]).R (tgs []) a := by
    rw [V.R] at ha ⊢
    obtain ⟨xs, rfl, h1, h2⟩ := ha
    exact ⟨xs, rfl, h1.any (bt_noTag _), h2⟩
  refine (run_calls (B := tb Try.f3.ntmps 0 [] dsPl ksPl 9) (tb_ok dsPl_ok ksPl_ok) Try.func3 (c := Try.f3.body.getD .skip) (by kernel_rfl) (by kernel_rfl) (args := [.agg [.bt x]]) (Nat.le_of_ble_eq_true (by kernel_rfl)) (w0 := w) mok_nil (vs1 ha') (fun i _ => rfl) (fun v _ _ => isT v) (Eq.mpr (run_lpoly x isT) (polyL_true x))).mono fun e w' hh => ?_
  obtain ⟨y, T', v, m', nt', rfl, hL⟩ := hh
  obtain ⟨rfl, h⟩ := law_end hL rfl
  exact ⟨rfl, h⟩

end Go.Proofs.Ytdaheccfeihpgaa.Nm

