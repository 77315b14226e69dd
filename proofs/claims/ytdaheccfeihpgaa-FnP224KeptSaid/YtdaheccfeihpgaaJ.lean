import Derived.Test.YtdaheccfeihpgaaProg
import Derived.Test.YtdaheccfeihpgaaI
import Derived.Test.YtdaheccfeihpgaaG
/-
  The program's types; contracts of the field's functions.
-/
/-
  What the run is told of this program: its types.
-/
namespace Go.Proofs.Ytdaheccfeihpgaa.Nm
open Go Go.RowKit

/-- The value of a constant cell. -/
def sc0 : Sc → Value
  | .lit k n => .int k n
  | .bl b => .bool b
  | .np => .pointer none
  | .snil => .slice none 0 0
  | .nif => .nilIface
  | .val v => v
  | _ => .nilIface
def const0 : List Sc → Bool
  | [] => true
  | .lit k n :: r => decide (k.wrap n = n) && const0 r
  | .bl _ :: r => const0 r
  | .np :: r => const0 r
  | .snil :: r => const0 r
  | .nif :: r => const0 r
  | _ => false

theorem cr_const {T : Tg} : ∀ {l : List Sc}, const0 l = true → CR T l (l.map sc0)
  | [], _ => .nil
  | .lit k n :: r, h => by
    simp only [const0, Bool.and_eq_true] at h
    exact .cons ⟨rfl, of_decide_eq_true h.1⟩ (cr_const h.2)
  | .bl _ :: r, h => .cons rfl (cr_const h)
  | .np :: r, h => .cons rfl (cr_const h)
  | .snil :: r, h => .cons rfl (cr_const h)
  | .nif :: r, h => .cons rfl (cr_const h)
  | .sym .. :: _, h => by cases h
  | .bs .. :: _, h => by cases h
  | .p .. :: _, h => by cases h
  | .sl .. :: _, h => by cases h
  | .slu .. :: _, h => by cases h
  | .slv .. :: _, h => by cases h
  | .slx .. :: _, h => by cases h
  | .ifc .. :: _, h => by cases h
  | .val .. :: _, h => by cases h

theorem pr_bt3 (T : Tg) : PR T [.bt (List.replicate 28 0), .bt (List.replicate 28 0), .bt (List.replicate 28 0)] ((List.replicate 84 0).map fun (x : Nat) => Value.int .u8 (x : Int)) := by
  have h := pr_bt T (bs := List.replicate 28 0) (by decide) (by decide)
  refine ⟨?_, fun p hp => h.2 p (by simp only [List.mem_cons, List.not_mem_nil, or_false, or_self] at hp; simp [hp])⟩
  have := (h.1.append (h.1.append h.1))
  simpa [flat] using this


theorem pr_fis (T : Tg) : ∀ n : Nat, PR T (List.replicate n (.fi 0)) ((List.replicate n (vals4 (mont 0))).flatten)
  | 0 => ⟨.nil, fun p hp => by cases hp⟩
  | n + 1 => by
    have h := pr_fi T 0
    have ih := pr_fis T n
    refine ⟨?_, goods_cons.2 ⟨trivial, ih.2⟩⟩
    have := h.1.append ih.1
    simpa [flat, List.replicate_succ] using this

theorem run_buildSlice0 {P : Program} {t e : TypeId} {s : Nat} {parts : Array (Nat × Value)} {w : World} (hu : P.underlying t = some (.slice e)) (hsz : (sizeOf e).run P w = .ok s w) : (Instr.buildSlice t 0 parts).run P w =
    match Instr.fill (fun i => some (i * s, s)) ([] : List Value).toArray parts.toList with
    | some c => .ok (.slice (some ⟨w.heap.size, 0, none⟩) 0 0) (w.alloc (.cells c e))
    | none => .halt (.stuck "buildSlice: a part of the wrong size") w := by
  unfold Instr.buildSlice
  simp only [Sem.run_bind, run_underlying hu, hsz, Result.andThen_ok, Nat.zero_mul, if_neg (by omega : ¬ 0 > 2 ^ 24), if_true, Sem.run_pure]
  have e0 : (Array.map (fun x => (#[] : Array Value)[x % (#[] : Array Value).size]!) (Array.range 0)) = ([] : List Value).toArray := by simp
  rw [e0]
  cases Instr.fill (fun i => some (i * s, s)) ([] : List Value).toArray parts.toList with
  | none => rfl
  | some c => simp only [newRow, Sem.run_bind, run_newObj_alloc, Result.andThen_ok, Sem.run_pure]

theorem run_buildSlice {P : Program} {t e : TypeId} {n s : Nat} {zv : Value} {xs : Array Value} {parts : Array (Nat × Value)} {w : World} (hu : P.underlying t = some (.slice e)) (hsz : (sizeOf e).run P w = .ok s w) (hz : (zeroValue e).run P w = .ok zv w) (hle : n * s ≤ 2 ^ 24) (hne : n * s ≠ 0)
    (harr : (Array.range (n * s)).map (zv.cells[· % zv.cells.size]!) = xs) : (Instr.buildSlice t n parts).run P w =
    match Instr.fill (fun i => some (i * s, s)) xs parts.toList with
    | some c => .ok (.slice (some ⟨w.heap.size, 0, none⟩) n n) (w.alloc (.cells c e))
    | none => .halt (.stuck "buildSlice: a part of the wrong size") w := by
  unfold Instr.buildSlice
  simp only [Sem.run_bind, run_underlying hu, hsz, Result.andThen_ok, if_neg (by omega : ¬ n * s > 2 ^ 24), if_neg hne, hz, Sem.run_pure, harr]
  cases Instr.fill (fun i => some (i * s, s)) xs parts.toList with
  | none => rfl
  | some c => simp only [newRow, Sem.run_bind, run_newObj_alloc, Result.andThen_ok, Sem.run_pure]

def tAgg : List (Nat × Nat) := [(22, 28), (45, 3), (25, 4), (54, 2), (93, 3), (82, 4), (80, 4), (79, 4), (104, 4), (96, 57), (117, 1)]
def tOne : List Nat := [2, 3, 4, 5, 64, 63, 120, 28, 27, 30, 23, 55, 66, 70, 9, 115, 74]
def tZv : List (Nat × List Pc) := [(22, [.bt (List.replicate 28 0)]), (45, ones ([.bl false, .snil, .snil])), (25, ones ([.lit .i64 0, .lit .i64 0, .lit .i64 0, .snil])), (54, ones ([.lit .i64 0, .lit .i64 0])), (93, ones ([.np, .np, .np])), (82, [.fi 0]), (80, ones ([.lit .u64 0, .lit .u64 0, .lit .u64 0, .lit .u64 0])), (79, ones ([.lit .u64 0, .lit .u64 0, .lit .u64 0, .lit .u64 0])), (104, ones ([.lit .u64 0, .lit .u64 0, .lit .u64 0, .lit .u64 0])), (4, ones ([.bl false])), (96, ones (List.replicate 57 (.lit .u8 0))), (117, ones [.val (.string ⟨#[]⟩)]), (129, List.replicate 96 (.fi 0))]
def tIk : List (Nat × IntKind) := [(2, .i64), (3, .i64), (5, .u8), (64, .u64), (63, .u64), (120, .u64)]
def tSlc : List (Nat × Nat) := [(27, 1), (28, 1), (30, 1), (23, 2), (74, 1)]
def tArr : List (Nat × Nat × Nat) := [(22, 28, 1), (54, 2, 1), (79, 4, 1), (80, 4, 1), (104, 4, 1), (96, 57, 1), (129, 96, 4)]
def tFld : List (Nat × List (Nat × Nat)) := [(45, [(0, 1), (1, 1), (2, 1)]), (25, [(0, 1), (1, 1), (2, 1), (3, 1)]), (93, [(0, 1), (1, 1), (2, 1)]), (82, [(0, 4)]), (117, [(0, 1)])]
def tMks : List (Nat × List (Nat × List Sc)) := [(28, [(7, List.replicate 7 (.lit .i64 0)), (14, List.replicate 14 (.lit .i64 0))]), (27, [(7, List.replicate 7 (.lit .i64 0)), (14, List.replicate 14 (.lit .i64 0))]), (30, [(28, List.replicate 28 (.lit .u8 0))])]
def tBsl : List (Nat × List (Nat × List Sc)) := [(23, [(2, [.lit .i64 0, .lit .i64 0, .lit .i64 0, .lit .i64 0])]), (30, [(0, []), (1, [.lit .u8 0]), (28, List.replicate 28 (.lit .u8 0))]), (74, [(1, [.snil]), (2, [.snil, .snil])])]
def tStr : List Nat := [9]
def tBar : List Nat := [22]
def tApd : List Nat := [30]
def tIfs : List Nat := [70]
def tBos : List Nat := [4]
def tMif : List Nat := [115]

/-- The table, with the calls that are known. -/
def tb (n base : Nat) (outs : List Nat) (ds : List (Nat × DSpec)) (ks : List (Nat × KSpec)) (fuel : Nat) : Tb :=
  { n := n, base := base, outs := outs, agg := tAgg, one := tOne, zv := tZv, ik := tIk, slc := tSlc, arr := tArr, fld := tFld, mks := tMks, bsl := tBsl, ifs := tIfs, mif := tMif, bos := tBos, apd := tApd, str := tStr, bar := tBar, ds := ds, ks := ks, fuel := fuel }

theorem agg_ok : ∀ t n, lkp tAgg t = some n → ∀ w, (isAgg t).run Try.prog w = .ok true w ∧ (sizeOf t).run Try.prog w = .ok n w := by
  intro t n h
  rcases lkp_cons h with ⟨rfl, rfl⟩ | h
  · exact fun w => ⟨by kernel_rfl, by kernel_rfl⟩
  rcases lkp_cons h with ⟨rfl, rfl⟩ | h
  · exact fun w => ⟨by kernel_rfl, by kernel_rfl⟩
  rcases lkp_cons h with ⟨rfl, rfl⟩ | h
  · exact fun w => ⟨by kernel_rfl, by kernel_rfl⟩
  rcases lkp_cons h with ⟨rfl, rfl⟩ | h
  · exact fun w => ⟨by kernel_rfl, by kernel_rfl⟩
  rcases lkp_cons h with ⟨rfl, rfl⟩ | h
  · exact fun w => ⟨by kernel_rfl, by kernel_rfl⟩
  rcases lkp_cons h with ⟨rfl, rfl⟩ | h
  · exact fun w => ⟨by kernel_rfl, by kernel_rfl⟩
  rcases lkp_cons h with ⟨rfl, rfl⟩ | h
  · exact fun w => ⟨by kernel_rfl, by kernel_rfl⟩
  rcases lkp_cons h with ⟨rfl, rfl⟩ | h
  · exact fun w => ⟨by kernel_rfl, by kernel_rfl⟩
  rcases lkp_cons h with ⟨rfl, rfl⟩ | h
  · exact fun w => ⟨by kernel_rfl, by kernel_rfl⟩
  rcases lkp_cons h with ⟨rfl, rfl⟩ | h
  · exact fun w => ⟨by kernel_rfl, by kernel_rfl⟩
  rcases lkp_cons h with ⟨rfl, rfl⟩ | h
  · exact fun w => ⟨by kernel_rfl, by kernel_rfl⟩
  · exact (lkp_nil h).elim

theorem one_ok : ∀ t, has tOne t = true → ∀ w, (isAgg t).run Try.prog w = .ok false w ∧ (sizeOf t).run Try.prog w = .ok 1 w := by
  intro t h
  rcases has_cons h with rfl | h
  · exact fun w => ⟨by kernel_rfl, by kernel_rfl⟩
  rcases has_cons h with rfl | h
  · exact fun w => ⟨by kernel_rfl, by kernel_rfl⟩
  rcases has_cons h with rfl | h
  · exact fun w => ⟨by kernel_rfl, by kernel_rfl⟩
  rcases has_cons h with rfl | h
  · exact fun w => ⟨by kernel_rfl, by kernel_rfl⟩
  rcases has_cons h with rfl | h
  · exact fun w => ⟨by kernel_rfl, by kernel_rfl⟩
  rcases has_cons h with rfl | h
  · exact fun w => ⟨by kernel_rfl, by kernel_rfl⟩
  rcases has_cons h with rfl | h
  · exact fun w => ⟨by kernel_rfl, by kernel_rfl⟩
  rcases has_cons h with rfl | h
  · exact fun w => ⟨by kernel_rfl, by kernel_rfl⟩
  rcases has_cons h with rfl | h
  · exact fun w => ⟨by kernel_rfl, by kernel_rfl⟩
  rcases has_cons h with rfl | h
  · exact fun w => ⟨by kernel_rfl, by kernel_rfl⟩
  rcases has_cons h with rfl | h
  · exact fun w => ⟨by kernel_rfl, by kernel_rfl⟩
  rcases has_cons h with rfl | h
  · exact fun w => ⟨by kernel_rfl, by kernel_rfl⟩
  rcases has_cons h with rfl | h
  · exact fun w => ⟨by kernel_rfl, by kernel_rfl⟩
  rcases has_cons h with rfl | h
  · exact fun w => ⟨by kernel_rfl, by kernel_rfl⟩
  rcases has_cons h with rfl | h
  · exact fun w => ⟨by kernel_rfl, by kernel_rfl⟩
  rcases has_cons h with rfl | h
  · exact fun w => ⟨by kernel_rfl, by kernel_rfl⟩
  rcases has_cons h with rfl | h
  · exact fun w => ⟨by kernel_rfl, by kernel_rfl⟩
  · exact (has_nil h).elim

theorem zv_ok : ∀ t l, lkp tZv t = some l → ∃ v, (∀ w, (zeroValue t).run Try.prog w = .ok v w) ∧ ∀ T, PR T l v.cells.toList := by
  intro t n h
  rcases lkp_cons h with ⟨rfl, rfl⟩ | h
  · exact ⟨.agg ((List.replicate 28 0).map fun (x : Nat) => Value.int .u8 (x : Int)).toArray, fun w => by kernel_rfl, fun T => pr_bt T (by decide) (by decide)⟩
  rcases lkp_cons h with ⟨rfl, rfl⟩ | h
  · exact ⟨.agg (([.bl false, .snil, .snil]).map sc0).toArray, fun w => by kernel_rfl, fun T => pr_ones (cr_const (by decide))⟩
  rcases lkp_cons h with ⟨rfl, rfl⟩ | h
  · exact ⟨.agg (([.lit .i64 0, .lit .i64 0, .lit .i64 0, .snil]).map sc0).toArray, fun w => by kernel_rfl, fun T => pr_ones (cr_const (by decide))⟩
  rcases lkp_cons h with ⟨rfl, rfl⟩ | h
  · exact ⟨.agg (([.lit .i64 0, .lit .i64 0]).map sc0).toArray, fun w => by kernel_rfl, fun T => pr_ones (cr_const (by decide))⟩
  rcases lkp_cons h with ⟨rfl, rfl⟩ | h
  · exact ⟨.agg (([.np, .np, .np]).map sc0).toArray, fun w => by kernel_rfl, fun T => pr_ones (cr_const (by decide))⟩
  rcases lkp_cons h with ⟨rfl, rfl⟩ | h
  · exact ⟨.agg (vals4 (mont 0)).toArray, fun w => by kernel_rfl, fun T => pr_fi T 0⟩
  rcases lkp_cons h with ⟨rfl, rfl⟩ | h
  · exact ⟨.agg (([.lit .u64 0, .lit .u64 0, .lit .u64 0, .lit .u64 0]).map sc0).toArray, fun w => by kernel_rfl, fun T => pr_ones (cr_const (by decide))⟩
  rcases lkp_cons h with ⟨rfl, rfl⟩ | h
  · exact ⟨.agg (([.lit .u64 0, .lit .u64 0, .lit .u64 0, .lit .u64 0]).map sc0).toArray, fun w => by kernel_rfl, fun T => pr_ones (cr_const (by decide))⟩
  rcases lkp_cons h with ⟨rfl, rfl⟩ | h
  · exact ⟨.agg (([.lit .u64 0, .lit .u64 0, .lit .u64 0, .lit .u64 0]).map sc0).toArray, fun w => by kernel_rfl, fun T => pr_ones (cr_const (by decide))⟩
  rcases lkp_cons h with ⟨rfl, rfl⟩ | h
  · exact ⟨.bool false, fun w => by kernel_rfl, fun T => pr_ones (.cons rfl .nil)⟩
  rcases lkp_cons h with ⟨rfl, rfl⟩ | h
  · exact ⟨.agg ((List.replicate 57 (.lit .u8 0)).map sc0).toArray, fun w => by kernel_rfl, fun T => pr_ones (cr_const (by decide))⟩
  rcases lkp_cons h with ⟨rfl, rfl⟩ | h
  · exact ⟨.agg #[.string ⟨#[]⟩], fun w => by kernel_rfl, fun T => pr_ones (.cons ⟨rfl, rfl⟩ .nil)⟩
  rcases lkp_cons h with ⟨rfl, rfl⟩ | h
  · exact ⟨.agg ((List.replicate 96 (vals4 (mont 0))).flatten).toArray, fun w => by kernel_rfl, fun T => pr_fis T 96⟩
  · exact (lkp_nil h).elim

theorem ik_ok : ∀ t k, lkp tIk t = some k → Try.prog.underlying t = some (.int k) := by
  intro t n h
  rcases lkp_cons h with ⟨rfl, rfl⟩ | h
  · kernel_rfl
  rcases lkp_cons h with ⟨rfl, rfl⟩ | h
  · kernel_rfl
  rcases lkp_cons h with ⟨rfl, rfl⟩ | h
  · kernel_rfl
  rcases lkp_cons h with ⟨rfl, rfl⟩ | h
  · kernel_rfl
  rcases lkp_cons h with ⟨rfl, rfl⟩ | h
  · kernel_rfl
  rcases lkp_cons h with ⟨rfl, rfl⟩ | h
  · kernel_rfl
  · exact (lkp_nil h).elim

theorem slc_ok : ∀ t n, lkp tSlc t = some n → ∃ e, Try.prog.underlying t = some (.slice e) ∧ ∀ w, (sizeOf e).run Try.prog w = .ok n w := by
  intro t n h
  rcases lkp_cons h with ⟨rfl, rfl⟩ | h
  · exact ⟨2, by kernel_rfl, fun w => by kernel_rfl⟩
  rcases lkp_cons h with ⟨rfl, rfl⟩ | h
  · exact ⟨2, by kernel_rfl, fun w => by kernel_rfl⟩
  rcases lkp_cons h with ⟨rfl, rfl⟩ | h
  · exact ⟨5, by kernel_rfl, fun w => by kernel_rfl⟩
  rcases lkp_cons h with ⟨rfl, rfl⟩ | h
  · exact ⟨54, by kernel_rfl, fun w => by kernel_rfl⟩
  rcases lkp_cons h with ⟨rfl, rfl⟩ | h
  · exact ⟨30, by kernel_rfl, fun w => by kernel_rfl⟩
  · exact (lkp_nil h).elim

theorem arr_ok : ∀ t m n, lkp tArr t = some (m, n) → ∃ e, Try.prog.underlying t = some (.array m e) ∧ ∀ w, (sizeOf e).run Try.prog w = .ok n w := by
  intro t m n h
  rcases lkp_cons h with ⟨rfl, e⟩ | h
  · cases e; exact ⟨5, by kernel_rfl, fun w => by kernel_rfl⟩
  rcases lkp_cons h with ⟨rfl, e⟩ | h
  · cases e; exact ⟨3, by kernel_rfl, fun w => by kernel_rfl⟩
  rcases lkp_cons h with ⟨rfl, e⟩ | h
  · cases e; exact ⟨64, by kernel_rfl, fun w => by kernel_rfl⟩
  rcases lkp_cons h with ⟨rfl, e⟩ | h
  · cases e; exact ⟨64, by kernel_rfl, fun w => by kernel_rfl⟩
  rcases lkp_cons h with ⟨rfl, e⟩ | h
  · cases e; exact ⟨64, by kernel_rfl, fun w => by kernel_rfl⟩
  rcases lkp_cons h with ⟨rfl, e⟩ | h
  · cases e; exact ⟨5, by kernel_rfl, fun w => by kernel_rfl⟩
  rcases lkp_cons h with ⟨rfl, e⟩ | h
  · cases e; exact ⟨82, by kernel_rfl, fun w => by kernel_rfl⟩
  · exact (lkp_nil h).elim

theorem fld_ok : ∀ t l, lkp tFld t = some l → ∃ fs : Array Field, Try.prog.underlying t = some (.struct fs) ∧ (∀ i o n : Nat, l[i]? = some (o, n) → ∃ f : Field, fs[i]? = some f ∧ f.offset = o ∧ n ≠ 0 ∧ ∀ w, (sizeOf f.type).run Try.prog w = .ok n w) ∧
    ∀ w, (fs.mapM fun (f : Field) => (do pure (f.offset, ← sizeOf f.type) : Sem (Nat × Nat))).run Try.prog w = .ok l.toArray w := by
  intro t l h
  rcases lkp_cons h with ⟨rfl, rfl⟩ | h
  · refine ⟨(match Try.prog.underlying 45 with | some (.struct fs) => fs | _ => #[]), by kernel_rfl, fun i o n hi => ?_, fun w => by kernel_rfl⟩
    have hlt : i < 3 := (List.getElem?_eq_some_iff.1 hi).1
    have hcs : i = 0 ∨ i = 1 ∨ i = 2 := by omega
    rcases hcs with rfl | rfl | rfl
    · cases hi; exact ⟨((match Try.prog.underlying 45 with | some (.struct fs) => fs | _ => #[])[0]?).getD default, by kernel_rfl, by kernel_rfl, by decide, fun w => by kernel_rfl⟩
    · cases hi; exact ⟨((match Try.prog.underlying 45 with | some (.struct fs) => fs | _ => #[])[1]?).getD default, by kernel_rfl, by kernel_rfl, by decide, fun w => by kernel_rfl⟩
    · cases hi; exact ⟨((match Try.prog.underlying 45 with | some (.struct fs) => fs | _ => #[])[2]?).getD default, by kernel_rfl, by kernel_rfl, by decide, fun w => by kernel_rfl⟩
  rcases lkp_cons h with ⟨rfl, rfl⟩ | h
  · refine ⟨(match Try.prog.underlying 25 with | some (.struct fs) => fs | _ => #[]), by kernel_rfl, fun i o n hi => ?_, fun w => by kernel_rfl⟩
    have hlt : i < 4 := (List.getElem?_eq_some_iff.1 hi).1
    have hcs : i = 0 ∨ i = 1 ∨ i = 2 ∨ i = 3 := by omega
    rcases hcs with rfl | rfl | rfl | rfl
    · cases hi; exact ⟨((match Try.prog.underlying 25 with | some (.struct fs) => fs | _ => #[])[0]?).getD default, by kernel_rfl, by kernel_rfl, by decide, fun w => by kernel_rfl⟩
    · cases hi; exact ⟨((match Try.prog.underlying 25 with | some (.struct fs) => fs | _ => #[])[1]?).getD default, by kernel_rfl, by kernel_rfl, by decide, fun w => by kernel_rfl⟩
    · cases hi; exact ⟨((match Try.prog.underlying 25 with | some (.struct fs) => fs | _ => #[])[2]?).getD default, by kernel_rfl, by kernel_rfl, by decide, fun w => by kernel_rfl⟩
    · cases hi; exact ⟨((match Try.prog.underlying 25 with | some (.struct fs) => fs | _ => #[])[3]?).getD default, by kernel_rfl, by kernel_rfl, by decide, fun w => by kernel_rfl⟩
  rcases lkp_cons h with ⟨rfl, rfl⟩ | h
  · refine ⟨(match Try.prog.underlying 93 with | some (.struct fs) => fs | _ => #[]), by kernel_rfl, fun i o n hi => ?_, fun w => by kernel_rfl⟩
    have hlt : i < 3 := (List.getElem?_eq_some_iff.1 hi).1
    have hcs : i = 0 ∨ i = 1 ∨ i = 2 := by omega
    rcases hcs with rfl | rfl | rfl
    · cases hi; exact ⟨((match Try.prog.underlying 93 with | some (.struct fs) => fs | _ => #[])[0]?).getD default, by kernel_rfl, by kernel_rfl, by decide, fun w => by kernel_rfl⟩
    · cases hi; exact ⟨((match Try.prog.underlying 93 with | some (.struct fs) => fs | _ => #[])[1]?).getD default, by kernel_rfl, by kernel_rfl, by decide, fun w => by kernel_rfl⟩
    · cases hi; exact ⟨((match Try.prog.underlying 93 with | some (.struct fs) => fs | _ => #[])[2]?).getD default, by kernel_rfl, by kernel_rfl, by decide, fun w => by kernel_rfl⟩
  rcases lkp_cons h with ⟨rfl, rfl⟩ | h
  · refine ⟨(match Try.prog.underlying 82 with | some (.struct fs) => fs | _ => #[]), by kernel_rfl, fun i o n hi => ?_, fun w => by kernel_rfl⟩
    have hlt : i < 1 := (List.getElem?_eq_some_iff.1 hi).1
    have hcs : i = 0 := by omega
    rcases hcs with rfl
    · cases hi; exact ⟨((match Try.prog.underlying 82 with | some (.struct fs) => fs | _ => #[])[0]?).getD default, by kernel_rfl, by kernel_rfl, by decide, fun w => by kernel_rfl⟩
  rcases lkp_cons h with ⟨rfl, rfl⟩ | h
  · refine ⟨(match Try.prog.underlying 117 with | some (.struct fs) => fs | _ => #[]), by kernel_rfl, fun i o n hi => ?_, fun w => by kernel_rfl⟩
    have hlt : i < 1 := (List.getElem?_eq_some_iff.1 hi).1
    have hcs : i = 0 := by omega
    rcases hcs with rfl
    · cases hi; exact ⟨((match Try.prog.underlying 117 with | some (.struct fs) => fs | _ => #[])[0]?).getD default, by kernel_rfl, by kernel_rfl, by decide, fun w => by kernel_rfl⟩
  · exact (lkp_nil h).elim

set_option maxRecDepth 10000 in
theorem mks_ok : ∀ t l n zs, lkp tMks t = some l → lkp l n = some zs → ∃ xs e, (∀ T, CR T zs xs) ∧ ∀ w, (Instr.makeSlice t (.int .i64 n) (.int .i64 n)).run Try.prog w = .ok (.slice (some ⟨w.heap.size, 0, none⟩) n n) (w.alloc (.cells xs.toArray e)) := by
  intro t l n zs h g
  rcases lkp_cons h with ⟨rfl, rfl⟩ | h
  · skip
    rcases lkp_cons g with ⟨rfl, rfl⟩ | g
    · exact ⟨_, 2, fun T => cr_const (by decide), fun w => by kernel_rfl⟩
    rcases lkp_cons g with ⟨rfl, rfl⟩ | g
    · exact ⟨_, 2, fun T => cr_const (by decide), fun w => by kernel_rfl⟩
    · exact (lkp_nil g).elim
  rcases lkp_cons h with ⟨rfl, rfl⟩ | h
  · skip
    rcases lkp_cons g with ⟨rfl, rfl⟩ | g
    · exact ⟨_, 2, fun T => cr_const (by decide), fun w => by kernel_rfl⟩
    rcases lkp_cons g with ⟨rfl, rfl⟩ | g
    · exact ⟨_, 2, fun T => cr_const (by decide), fun w => by kernel_rfl⟩
    · exact (lkp_nil g).elim
  rcases lkp_cons h with ⟨rfl, rfl⟩ | h
  · skip
    rcases lkp_cons g with ⟨rfl, rfl⟩ | g
    · exact ⟨_, 5, fun T => cr_const (by decide), fun w => by kernel_rfl⟩
    · exact (lkp_nil g).elim
  · exact (lkp_nil h).elim

set_option maxRecDepth 10000 in
theorem bsl_ok : ∀ t l n zs s, lkp tBsl t = some l → lkp tSlc t = some s → lkp l n = some zs → ∃ xs e s', (∀ T, CR T zs xs) ∧ s' = s ∧ ∀ parts w, (Instr.buildSlice t n parts).run Try.prog w =
    match Instr.fill (fun i => some (i * s, s)) xs.toArray parts.toList with
    | some c => .ok (.slice (some ⟨w.heap.size, 0, none⟩) n n) (w.alloc (.cells c e))
    | none => .halt (.stuck "buildSlice: a part of the wrong size") w := by
  intro t l n zs s h hs g
  rcases lkp_cons h with ⟨rfl, rfl⟩ | h
  · have hs : s = 2 := by
      have : lkp tSlc 23 = some 2 := by kernel_rfl
      rw [this] at hs; cases hs; rfl
    subst hs
    rcases lkp_cons g with ⟨rfl, rfl⟩ | g
    · exact ⟨([.lit .i64 0, .lit .i64 0, .lit .i64 0, .lit .i64 0]).map sc0, 54, _, fun T => cr_const (by decide), rfl, fun parts w => run_buildSlice (zv := .agg (([.lit .i64 0, .lit .i64 0]).map sc0).toArray) (by kernel_rfl) (by kernel_rfl) (by kernel_rfl) (by decide) (by decide) (by kernel_rfl)⟩
    · exact (lkp_nil g).elim
  rcases lkp_cons h with ⟨rfl, rfl⟩ | h
  · have hs : s = 1 := by
      have : lkp tSlc 30 = some 1 := by kernel_rfl
      rw [this] at hs; cases hs; rfl
    subst hs
    rcases lkp_cons g with ⟨rfl, rfl⟩ | g
    · exact ⟨[], 5, _, fun T => .nil, rfl, fun parts w => run_buildSlice0 (by kernel_rfl) (by kernel_rfl)⟩
    rcases lkp_cons g with ⟨rfl, rfl⟩ | g
    · exact ⟨([.lit .u8 0]).map sc0, 5, _, fun T => cr_const (by decide), rfl, fun parts w => run_buildSlice (zv := .int .u8 0) (by kernel_rfl) (by kernel_rfl) (by kernel_rfl) (by decide) (by decide) (by kernel_rfl)⟩
    rcases lkp_cons g with ⟨rfl, rfl⟩ | g
    · exact ⟨(List.replicate 28 (.lit .u8 0)).map sc0, 5, _, fun T => cr_const (by decide), rfl, fun parts w => run_buildSlice (zv := .int .u8 0) (by kernel_rfl) (by kernel_rfl) (by kernel_rfl) (by decide) (by decide) (by kernel_rfl)⟩
    · exact (lkp_nil g).elim
  rcases lkp_cons h with ⟨rfl, rfl⟩ | h
  · have hs : s = 1 := by
      have : lkp tSlc 74 = some 1 := by kernel_rfl
      rw [this] at hs; cases hs; rfl
    subst hs
    rcases lkp_cons g with ⟨rfl, rfl⟩ | g
    · exact ⟨([.snil]).map sc0, 30, _, fun T => cr_const (by decide), rfl, fun parts w => run_buildSlice (zv := .slice none 0 0) (by kernel_rfl) (by kernel_rfl) (by kernel_rfl) (by decide) (by decide) (by kernel_rfl)⟩
    rcases lkp_cons g with ⟨rfl, rfl⟩ | g
    · exact ⟨([.snil, .snil]).map sc0, 30, _, fun T => cr_const (by decide), rfl, fun parts w => run_buildSlice (zv := .slice none 0 0) (by kernel_rfl) (by kernel_rfl) (by kernel_rfl) (by decide) (by decide) (by kernel_rfl)⟩
    · exact (lkp_nil g).elim
  · exact (lkp_nil h).elim

theorem ifs_ok : ∀ t, has tIfs t = true → ∃ ms, Try.prog.underlying t = some (.interface ms) := by
  intro t h
  rcases has_cons h with rfl | h
  · exact ⟨(match Try.prog.underlying 70 with | some (.interface ms) => ms | _ => #[]), by kernel_rfl⟩
  · exact (has_nil h).elim

theorem bos_ok : ∀ t, has tBos t = true → Try.prog.underlying t = some .bool := by
  intro t h
  rcases has_cons h with rfl | h
  · kernel_rfl
  · exact (has_nil h).elim

theorem mif_ok : ∀ t, has tMif t = true → ∀ x w, (Instr.makeInterface t x).run Try.prog w = .ok (.iface t x) w := by
  intro t h
  rcases has_cons h with rfl | h
  · exact fun x w => by
      simp only [Instr.makeInterface, Sem.run_bind, run_underlying (P := Try.prog) (t := 115) (d := .pointer 117) (by kernel_rfl), Result.andThen_ok]
      rfl
  · exact (has_nil h).elim

theorem str_ok : ∀ t, has tStr t = true → Try.prog.underlying t = some .string := by
  intro t h
  rcases has_cons h with rfl | h
  · kernel_rfl
  · exact (has_nil h).elim

theorem bar_ok : ∀ t, has tBar t = true → Try.prog.eqGuardType Try.prog.depth t = false ∧ ∃ e, Try.prog.underlying t = some (.array 28 e) ∧ Try.prog.underlying e = some (.int .u8) ∧ ∀ w, (sizeOf e).run Try.prog w = .ok 1 w := by
  intro t h
  rcases has_cons h with rfl | h
  · exact ⟨by kernel_rfl, 5, by kernel_rfl, by kernel_rfl, fun w => by kernel_rfl⟩
  · exact (has_nil h).elim

theorem apd_ok : ∀ t, has tApd t = true → ∃ e i z, Try.prog.underlying t = some (.slice e) ∧ Try.prog.info? e = some i ∧ i.zero = some z ∧ i.size = 1 ∧ i.bytes = 1 ∧ z.cells.size = 1 ∧ Try.prog.underlying e = some (.int .u8) := by
  intro t h
  rcases has_cons h with rfl | h
  · exact ⟨5, (Try.prog.info? 5).getD default, .int .u8 0, by kernel_rfl, by kernel_rfl, by kernel_rfl, by kernel_rfl, by kernel_rfl, by kernel_rfl, by kernel_rfl⟩
  · exact (has_nil h).elim

theorem tb_ok {n base fuel : Nat} {outs : List Nat} {ds : List (Nat × DSpec)} {ks : List (Nat × KSpec)} (hd : ∀ f sp, lkp ds f = some sp → DSOk Try.prog f sp) (hk : ∀ f sp, lkp ks f = some sp → KSOk Try.prog f sp) : TbOk Try.prog (tb n base outs ds ks fuel) where
  wide := by kernel_rfl
  agg := agg_ok
  one := one_ok
  zv := zv_ok
  ik := ik_ok
  slc := slc_ok
  arr := arr_ok
  fld := fld_ok
  mks := mks_ok
  bsl := bsl_ok
  ifs := ifs_ok
  mif := mif_ok
  bos := bos_ok
  apd := apd_ok
  str := str_ok
  bar := bar_ok
  ds := hd
  ks := hk

end Go.Proofs.Ytdaheccfeihpgaa.Nm

/-
  The contracts of fiat's functions, for the run.
-/
namespace Go.Proofs.Ytdaheccfeihpgaa.Nm
open Go Go.RowKit

/-! ### Words in memory -/
theorem cells_of {wr : Nat → Bool} {T : Tg} {w : World} {m : Mem} (hm : MOk wr T w m) {t o n : Nat} {b : Loc} {l q : List Pc} (hb : T t = some b) (hl : lkp m t = some l) (hq : rdN l o n = some q) : ∀ k s, (flat q)[k]? = some s → ∃ x, w.cell? ⟨b.blk, b.off + o + k, none⟩ = some x ∧ s.R T x := by
  intro k s hk
  obtain ⟨xs, hp, _, hc⟩ := (hm.at_ t l hl).range hb hq
  obtain ⟨x, hx, hr⟩ := hp.1.get hk
  exact ⟨x, hc k x hx, hr⟩

theorem add4 (b o k : Nat) : (⟨b, o, none⟩ : Addr).add k = ⟨b, o + k, none⟩ := addr_add b o k

theorem elC_of {wr : Nat → Bool} {T : Tg} {w : World} {m : Mem} (hm : MOk wr T w m) {t o : Nat} {b : Loc} {l : List Pc} {v : F} (hb : T t = some b) (hl : lkp m t = some l) (hq : rdN l o 4 = some [.fi v]) : ElC w ⟨b.blk, b.off + o, none⟩ v := by
  have H := cells_of hm hb hl hq
  have g : ∀ k n, (flat [Pc.fi v])[k]? = some (.sym .u64 n) → w.cell? ((⟨b.blk, b.off + o, none⟩ : Addr).add k) = some (.int .u64 n) := by
    intro k n hk
    obtain ⟨x, hx, hr, _⟩ := H k _ hk
    rw [add4, hx, hr]
  exact ⟨g 0 _ rfl, g 1 _ rfl, g 2 _ rfl, g 3 _ rfl⟩

theorem cw_of {wr : Nat → Bool} {T : Tg} {w : World} {m : Mem} (hm : MOk wr T w m) {t o : Nat} {b : Loc} {l : List Pc} {v : Nat} (hb : T t = some b) (hl : lkp m t = some l) (hq : rdN l o 4 = some [.w4 v]) : CW w ⟨b.blk, b.off + o, none⟩ v := by
  have H := cells_of hm hb hl hq
  have g : ∀ k n, (flat [Pc.w4 v])[k]? = some (.sym .u64 n) → w.cell? ((⟨b.blk, b.off + o, none⟩ : Addr).add k) = some (.int .u64 n) := by
    intro k n hk
    obtain ⟨x, hx, hr, _⟩ := H k _ hk
    rw [add4, hx, hr]
  exact ⟨g 0 _ rfl, g 1 _ rfl, g 2 _ rfl, g 3 _ rfl⟩

theorem cb_of {wr : Nat → Bool} {T : Tg} {w : World} {m : Mem} (hm : MOk wr T w m) {t o : Nat} {b : Loc} {l : List Pc} {bs : List Nat} (hb : T t = some b) (hl : lkp m t = some l) (hq : rdN l o 28 = some [.bt bs]) : CB w ⟨b.blk, b.off + o, none⟩ bs := by
  have H := cells_of hm hb hl hq
  obtain ⟨xs, hp, _, _⟩ := (hm.at_ t l hl).range hb hq
  have hgood : (Pc.bt bs).good := hp.2 _ (by simp)
  refine ⟨hgood.1, hgood.2, fun k hk => ?_⟩
  have hk' : (flat [Pc.bt bs])[k]? = some (.sym .u8 ((bs.getD k 0 : Nat) : Int)) := by
    have hcs : k = 0 ∨ k = 1 ∨ k = 2 ∨ k = 3 ∨ k = 4 ∨ k = 5 ∨ k = 6 ∨ k = 7 ∨ k = 8 ∨ k = 9 ∨ k = 10 ∨ k = 11 ∨ k = 12 ∨ k = 13 ∨ k = 14 ∨ k = 15 ∨ k = 16 ∨ k = 17 ∨ k = 18 ∨ k = 19 ∨ k = 20 ∨ k = 21 ∨ k = 22 ∨ k = 23 ∨ k = 24 ∨ k = 25 ∨ k = 26 ∨ k = 27 := by omega
    rcases hcs with rfl | rfl | rfl | rfl | rfl | rfl | rfl | rfl | rfl | rfl | rfl | rfl | rfl | rfl | rfl | rfl | rfl | rfl | rfl | rfl | rfl | rfl | rfl | rfl | rfl | rfl | rfl | rfl <;> rfl
  obtain ⟨x, hx, hr, _⟩ := H k _ hk'
  rw [add4, hx, hr]

theorem wrN_of {wr : Nat → Bool} {T : Tg} {w : World} {m : Mem} (hm : MOk wr T w m) {t o n : Nat} {b : Loc} {l q l' : List Pc} (hb : T t = some b) (hl : lkp m t = some l) (hq : wrN l o q = some l') (hn : widthL q = n) : WrN w ⟨b.blk, b.off + o, none⟩ n := by
  obtain ⟨_, hle, _⟩ := wrN_ok hq
  rw [← widthL_ok, hn] at hle
  refine ⟨hm.lt _ _ hb, fun k hk => ?_⟩
  have hlt : o + k < (flat l).length := by omega
  obtain ⟨x, h1, h2, _⟩ := (hm.at_ t l hl).cell hb (o := o + k) (List.getElem?_eq_getElem hlt)
  rw [add4, Nat.add_assoc, h1, h2]
  exact ⟨rfl, rfl⟩

/-! ### The memory behind a function that writes words or bytes -/
/-- Cells written one by one. -/
def wrs (w : World) (b o : Nat) : List Value → World
  | [] => w
  | v :: r => wrs (w.setCell ⟨b, o, none⟩ v) b (o + 1) r

theorem setCell_row {w : World} {b o : Nat} {c : Array Value} {ty : TypeId} {fz : Nat × Nat} (hg : w.heap[b]? = some (.cells c ty fz)) (v : Value) : w.setCell ⟨b, o, none⟩ v = w.setRow b (c.setIfInBounds o v) := setCell_eq_setRow w b o c ty fz v hg

theorem wrs_row : ∀ (vs : List Value) (w : World) (b o : Nat) (c : Array Value) (ty : TypeId) (fz : Nat × Nat), w.heap[b]? = some (.cells c ty fz) → o + vs.length ≤ c.size → wrs w b o vs = w.setRow b (c.toList.take o ++ vs ++ c.toList.drop (o + vs.length)).toArray
  | [], w, b, o, c, ty, fz, hg, _ => by
    simp only [wrs, List.append_nil, List.length_nil, Nat.add_zero, List.take_append_drop, Array.toArray_toList]
    rw [setRow_self w b c ty fz hg]
  | v :: r, w, b, o, c, ty, fz, hg, hle => by
    simp only [List.length_cons] at hle
    simp only [wrs]
    rw [setCell_row hg, wrs_row r _ b (o + 1) (c.setIfInBounds o v) ty fz (setRow_heap _ _ _ _ _ _ hg) (by simp; omega), setRow_setRow]
    congr 2
    have hn : o < c.toList.length := by rw [Array.length_toList]; omega
    have h1 : (c.toList.set o v).take (o + 1) = c.toList.take o ++ [v] := by
      rw [List.set_eq_take_append_cons_drop, if_pos hn, List.take_append]
      simp [show min o c.size = o by (rw [Array.length_toList] at hn; omega), show o + 1 - o = 1 by omega, List.take_take, show min (o + 1) o = o by omega]
    have h2 : (c.toList.set o v).drop (o + 1 + r.length) = c.toList.drop (o + (r.length + 1)) := by
      rw [List.drop_set_of_lt (by omega)]
      congr 1
      omega
    simp only [Array.toList_setIfInBounds, List.length_cons]
    rw [h1, h2]
    simp

/-- The memory behind such a function. -/
theorem mok_wrs {wr : Nat → Bool} {T : Tg} {w w' : World} {m : Mem} (hm : MOk wr T w m) {t o : Nat} {b : Loc} {l q l' : List Pc} {vs : List Value} (hwr : wr t = true) (hb : T t = some b) (hl : lkp m t = some l) (hq : wrN l o q = some l') (hv : PR T q vs)
    (hw : Below w.heap.size (wrs w b.blk (b.off + o) vs) w') : MOk wr T w' (upd m t l') ∧ Kp (fun k => k = b.blk) w w' := by
  obtain ⟨b', c, ty, pre, xs, rest, h1, ⟨fz, h2, hnf⟩, h3, hp, h4⟩ := hm.at_ t l hl
  rw [hb] at h1
  cases h1
  obtain ⟨_, hle, _⟩ := wrN_ok hq
  have hlen : vs.length = (flat q).length := hv.1.length
  have hxl : xs.length = (flat l).length := h4.1.length
  have hcl : c.size = pre.length + (xs.length + rest.length) := by rw [← Array.length_toList, h3]; simp
  have hrow := wrs_row vs w b.blk (b.off + o) c ty fz h2 (by omega)
  rw [hrow] at hw
  have hsz : (w.setRow b.blk (c.toList.take (b.off + o) ++ vs ++ c.toList.drop (b.off + o + vs.length)).toArray).heap.size = w.heap.size := setRow_size _ _ _
  have hblk : ∀ k, k < w.heap.size → k ≠ b.blk → w'.heap[k]? = w.heap[k]? := fun k hk hne => by
    rw [hw.block k hk, setRow_other _ _ _ _ hne]
  have hsize : w.heap.size ≤ w'.heap.size := by have := hw.size; omega
  refine ⟨hm.write hwr hb hsize hblk ?_, ⟨hw.os.trans (setRow_os _ _ _), hw.tape.trans (setRow_tape _ _ _), hw.output.trans (setRow_output _ _ _), hsize, fun k hk hne => hblk k hk hne⟩⟩
  refine ⟨b, _, ty, pre, xs.take o ++ vs ++ xs.drop (o + vs.length), rest, hb, ⟨fz, by rw [hw.block _ (hm.lt _ _ hb)]; exact setRow_heap _ _ _ _ _ _ h2, hnf.sub (Nat.le_refl _) (by simp; omega)⟩, ?_, hp, h4.wrN hv hq⟩
  simp only
  rw [h3, ← hp]
  have e1 : (pre ++ (xs ++ rest)).take (pre.length + o) = pre ++ xs.take o := by
    rw [List.take_append, List.take_append]
    simp [show o - xs.length = 0 by omega, List.take_of_length_le]
  have e2 : (pre ++ (xs ++ rest)).drop (pre.length + o + vs.length) = xs.drop (o + vs.length) ++ rest := by
    rw [List.drop_append, List.drop_append]
    simp [show pre.length + o + vs.length - pre.length = o + vs.length by omega, show o + vs.length - xs.length = 0 by omega, List.drop_of_length_le (show pre.length ≤ pre.length + o + vs.length by omega)]
  rw [e1, e2]
  simp

theorem setW_wrs (w : World) (b o n : Nat) : setW w ⟨b, o, none⟩ n = wrs w b o (vals4 n) := by
  simp only [setW, wrs, vals4, add4, Nat.add_zero, Nat.add_assoc, Nat.reduceAdd]

/-! ### The contracts -/
def rdFi (m : Mem) : V → Option F
  | .s (.p t o) => match lkp m t with
    | some l => match rdN l o 4 with
      | some [.fi v] => some v
      | _ => none
    | none => none
  | _ => none

theorem rdFi_ok {wr : Nat → Bool} {T : Tg} {w : World} {m : Mem} (hm : MOk wr T w m) {u : V} {x : Value} {v : F} (hu : u.R T x) (h : rdFi m u = some v) : ∃ p, x = .pointer (some p) ∧ ElC w p v := by
  unfold rdFi at h
  split at h
  · rename_i t o
    rw [V.R] at hu
    obtain ⟨b, hb, rfl⟩ := hu
    split at h
    · rename_i l hl
      split at h
      · rename_i v' hq
        cases h
        exact ⟨_, rfl, elC_of hm hb hl hq⟩
      · cases h
    · cases h
  · cases h

def wrP (m : Mem) (q : List Pc) : V → Option (Nat × List Pc)
  | .s (.p t o) => match lkp m t with
    | some l => match wrN l o q with
      | some l' => some (t, l')
      | none => none
    | none => none
  | _ => none

theorem wrP_ok {T : Tg} {m : Mem} {u : V} {x : Value} {q : List Pc} {t : Nat} {l' : List Pc} (hu : u.R T x) (h : wrP m q u = some (t, l')) :
    ∃ b o l, x = .pointer (some ⟨b.blk, b.off + o, none⟩) ∧ T t = some b ∧ lkp m t = some l ∧ wrN l o q = some l' ∧ u = .s (.p t o) := by
  unfold wrP at h
  split at h
  · rename_i t' o
    rw [V.R] at hu
    obtain ⟨b, hb, rfl⟩ := hu
    split at h
    · rename_i l hl
      split at h
      · rename_i l1 hq
        cases h
        exact ⟨b, o, l, rfl, hb, hl, hq, rfl⟩
      · cases h
    · cases h
  · cases h

/-- A function of the field with two arguments. -/
def k2 (op : F → F → F) : KSpec where
  run := fun args m nt K => match args with
    | [p, x, y] => obind (rdFi m x) fun a => obind (rdFi m y) fun b => obind (wrP m [.fi (op a b)] p) fun r => K (.tup []) (upd m r.1 r.2) nt
    | _ => False
  outs := outs0

theorem below_size {w a w' : World} (h : Below w.heap.size a w') : Below w.heap.size a w' := h

/-- What a function that writes one place leaves, for the run. -/
theorem ks_wrs {wr : Nat → Bool} {T : Tg} {w : World} {m : Mem} {nt : Nat} {p : V} {x : Value} {q : List Pc} {vs : List Value} {r : Nat × List Pc} {K : V → Mem → Nat → Prop} {args : List V} {f : FuncId} {P : Program} {xs : Array Value} (hm : MOk wr T w m) (hfree : ∀ t, nt ≤ t → T t = none) (hwr : ∀ t ∈ tagsOf p, wr t = true)
    (hp : p.R T x) (hr : wrP m q p = some r) (hv : PR T q vs) (hargs : outs0 args m = tagsOf p) (hK : K (.tup []) (upd m r.1 r.2) nt)
    (hc : ∀ b o, x = .pointer (some ⟨b, o, none⟩) → WrN w ⟨b, o, none⟩ (widthL q) → Calls P f xs w fun e w' => e = .returned (.tuple #[]) ∧ Below w.heap.size (wrs w b o vs) w') :
    Calls P f xs w fun e w' => ∃ T' y v m' nt', T.le T' ∧ nt ≤ nt' ∧ (∀ t, T t = none → t < nt → T' t = none) ∧ (∀ t, nt' ≤ t → T' t = none) ∧ e = .returned y ∧ v.R T' y ∧ MOk wr T' w' m' ∧ Kp (Blks T (outs0 args m)) w w' ∧ Newer T T' w ∧ K v m' nt' := by
  obtain ⟨t, l'⟩ := r
  obtain ⟨b, o, l, rfl, hb, hl, hq, rfl⟩ := wrP_ok hp hr
  refine (hc b.blk (b.off + o) rfl (wrN_of hm hb hl hq rfl)).mono fun e w' ⟨he, hw⟩ => ?_
  subst he
  obtain ⟨h1, h2⟩ := mok_wrs hm (hwr t (by simp [tagsOf])) hb hl hq hv hw
  refine ⟨T, _, .tup [], _, nt, Tg.le_refl T, Nat.le_refl _, fun _ h _ => h, hfree, rfl, tup0 T, h1, ?_, fun t b h h' => (by rw [h] at h'; cases h'), hK⟩
  refine ⟨h2.os, h2.tape, h2.output, h2.size, fun k hk hn => h2.block k hk fun e => hn ?_⟩
  rw [hargs]
  exact ⟨t, by simp [tagsOf], b, hb, e.symm⟩

theorem enter_in {f : FuncId} {fn : Func} (hf : Try.prog.funcs[f]? = some fn) (hn : (fn.name == "runtime.NumGoroutine") = false) (hb : fn.body.isNone = false) : ∀ args w, (callFunc f args).run Try.prog w = .ok (.enter f args) w := call_in hf hn hb

theorem k2_ok {f : FuncId} {fn : Func} {op : F → F → F} (hf : Try.prog.funcs[f]? = some fn) (hn : (fn.name == "runtime.NumGoroutine") = false) (hb : fn.body.isNone = false)
    (hc : ∀ (p0 p1 p2 : Addr) (x y : F) (w : World), WrN w p0 4 → ElC w p1 x → ElC w p2 y → Calls Try.prog f #[.pointer (some p0), .pointer (some p1), .pointer (some p2)] w fun e w' => e = .returned (.tuple #[]) ∧ Below w.heap.size (set4 w p0 (op x y)) w') : KSOk Try.prog f (k2 op) where
  enter := enter_in hf hn hb
  run := by
    intro wr T w m nt args xs K h hm hx hfree hwr
    simp only [k2] at h
    split at h
    · rename_i p x y
      obtain ⟨a, ha, h⟩ := obind_some h
      obtain ⟨b, hb', h⟩ := obind_some h
      obtain ⟨r, hr, h⟩ := obind_some h
      obtain ⟨px, py, pz, rfl, h1, h2, h3⟩ := vsr3 hx
      obtain ⟨p1, rfl, e1⟩ := rdFi_ok hm h2 ha
      obtain ⟨p2, rfl, e2⟩ := rdFi_ok hm h3 hb'
      refine ks_wrs (args := [p, x, y]) hm hfree hwr h1 hr (pr_fi T _) rfl h fun bb o e hw => ?_
      subst e
      refine (hc _ p1 p2 a b w hw e1 e2).mono fun e w' ⟨he, hb⟩ => ⟨he, ?_⟩
      rwa [set4, setW_wrs] at hb
    · exact h.elim

theorem kMul_ok : KSOk Try.prog 84 (k2 (· * ·)) := k2_ok Try.func84 (by kernel_rfl) (by kernel_rfl) fun p0 p1 p2 x y w h0 h1 h2 => fmul_calls p0 p1 p2 x y w h0 h1 h2
theorem kAdd_ok : KSOk Try.prog 85 (k2 (· + ·)) := k2_ok Try.func85 (by kernel_rfl) (by kernel_rfl) fun p0 p1 p2 x y w h0 h1 h2 => fadd_calls p0 p1 p2 x y w h0 h1 h2
theorem kSub_ok : KSOk Try.prog 75 (k2 (· - ·)) := k2_ok Try.func75 (by kernel_rfl) (by kernel_rfl) fun p0 p1 p2 x y w h0 h1 h2 => fsub_calls p0 p1 p2 x y w h0 h1 h2

/-! ### The other functions -/
def rdW4 (m : Mem) : V → Option Nat
  | .s (.p t o) => match lkp m t with
    | some l => match rdN l o 4 with
      | some [.w4 v] => some v
      | _ => none
    | none => none
  | _ => none

theorem rdW4_ok {wr : Nat → Bool} {T : Tg} {w : World} {m : Mem} (hm : MOk wr T w m) {u : V} {x : Value} {v : Nat} (hu : u.R T x) (h : rdW4 m u = some v) : ∃ p, x = .pointer (some p) ∧ CW w p v := by
  unfold rdW4 at h
  split at h
  · rename_i t o
    rw [V.R] at hu
    obtain ⟨b, hb, rfl⟩ := hu
    split at h
    · rename_i l hl
      split at h
      · rename_i v' hq
        cases h
        exact ⟨_, rfl, cw_of hm hb hl hq⟩
      · cases h
    · cases h
  · cases h

def rdBt (m : Mem) : V → Option (List Nat)
  | .s (.p t o) => match lkp m t with
    | some l => match rdN l o 28 with
      | some [.bt bs] => some bs
      | _ => none
    | none => none
  | _ => none

theorem rdBt_ok {wr : Nat → Bool} {T : Tg} {w : World} {m : Mem} (hm : MOk wr T w m) {u : V} {x : Value} {bs : List Nat} (hu : u.R T x) (h : rdBt m u = some bs) : ∃ p, x = .pointer (some p) ∧ CB w p bs := by
  unfold rdBt at h
  split at h
  · rename_i t o
    rw [V.R] at hu
    obtain ⟨b, hb, rfl⟩ := hu
    split at h
    · rename_i l hl
      split at h
      · rename_i v' hq
        cases h
        exact ⟨_, rfl, cb_of hm hb hl hq⟩
      · cases h
    · cases h
  · cases h

/-- One in the field. -/
def kOne : KSpec where
  run := fun args m nt K => match args with
    | [p] => obind (wrP m [.fi 1] p) fun r => K (.tup []) (upd m r.1 r.2) nt
    | _ => False
  outs := outs0

theorem kOne_ok : KSOk Try.prog 74 kOne where
  enter := enter_in Try.func74 (by kernel_rfl) (by kernel_rfl)
  run := by
    intro wr T w m nt args xs K h hm hx hfree hwr
    simp only [kOne] at h
    split at h
    · rename_i p
      obtain ⟨r, hr, h⟩ := obind_some h
      obtain ⟨px, rfl, h1⟩ := vsr1 hx
      refine ks_wrs (args := [p]) hm hfree hwr h1 hr (pr_fi T _) rfl h fun bb o e hw => ?_
      subst e
      refine (fone_calls _ w hw).mono fun e w' ⟨he, hb⟩ => ⟨he, ?_⟩
      rwa [set4, setW_wrs] at hb
    · exact h.elim

/-- From the Montgomery form. -/
def kFrom : KSpec where
  run := fun args m nt K => match args with
    | [p, x] => obind (rdFi m x) fun a => obind (wrP m [.w4 a.val] p) fun r => K (.tup []) (upd m r.1 r.2) nt
    | _ => False
  outs := outs0

theorem pp_lt : pp < 115792089237316195423570985008687907853269984665640564039457584007913129639936 := by decide

theorem kFrom_ok : KSOk Try.prog 70 kFrom where
  enter := enter_in Try.func70 (by kernel_rfl) (by kernel_rfl)
  run := by
    intro wr T w m nt args xs K h hm hx hfree hwr
    simp only [kFrom] at h
    split at h
    · rename_i p x
      obtain ⟨a, ha, h⟩ := obind_some h
      obtain ⟨r, hr, h⟩ := obind_some h
      obtain ⟨px, py, rfl, h1, h2⟩ := vsr2 hx
      obtain ⟨p1, rfl, e1⟩ := rdFi_ok hm h2 ha
      refine ks_wrs (args := [p, x]) hm hfree hwr h1 hr (pr_w4 T _ (Nat.lt_trans a.isLt pp_lt)) rfl h fun bb o e hw => ?_
      subst e
      refine (ffrom_calls _ p1 a w hw e1).mono fun e w' ⟨he, hb⟩ => ⟨he, ?_⟩
      rwa [setW_wrs] at hb
    · exact h.elim

/-- To the Montgomery form: of a number below the prime. -/
def kTo : KSpec where
  run := fun args m nt K => match args with
    | [p, x] => obind (rdW4 m x) fun a => ∃ ha : a < pp, obind (wrP m [.fi ⟨a, ha⟩] p) fun r => K (.tup []) (upd m r.1 r.2) nt
    | _ => False
  outs := outs0

theorem kTo_ok : KSOk Try.prog 66 kTo where
  enter := enter_in Try.func66 (by kernel_rfl) (by kernel_rfl)
  run := by
    intro wr T w m nt args xs K h hm hx hfree hwr
    simp only [kTo] at h
    split at h
    · rename_i p x
      obtain ⟨a, ha, h⟩ := obind_some h
      obtain ⟨hlt, h⟩ := h
      obtain ⟨r, hr, h⟩ := obind_some h
      obtain ⟨px, py, rfl, h1, h2⟩ := vsr2 hx
      obtain ⟨p1, rfl, e1⟩ := rdW4_ok hm h2 ha
      refine ks_wrs (args := [p, x]) hm hfree hwr h1 hr (pr_fi T _) rfl h fun bb o e hw => ?_
      subst e
      refine (fto_calls _ p1 a w hlt hw e1).mono fun e w' ⟨he, hb⟩ => ⟨he, ?_⟩
      rwa [setW_wrs] at hb
    · exact h.elim

/-- The number of 28 bytes, the lowest first. -/
def kFromB : KSpec where
  run := fun args m nt K => match args with
    | [p, x] => obind (rdBt m x) fun bs => obind (wrP m [.w4 (le bs)] p) fun r => (le bs < 115792089237316195423570985008687907853269984665640564039457584007913129639936) ∧ K (.tup []) (upd m r.1 r.2) nt
    | _ => False
  outs := outs0

theorem kFromB_ok : KSOk Try.prog 65 kFromB where
  enter := enter_in Try.func65 (by kernel_rfl) (by kernel_rfl)
  run := by
    intro wr T w m nt args xs K h hm hx hfree hwr
    simp only [kFromB] at h
    split at h
    · rename_i p x
      obtain ⟨bs, ha, h⟩ := obind_some h
      obtain ⟨r, hr, hle, h⟩ := obind_some h
      obtain ⟨px, py, rfl, h1, h2⟩ := vsr2 hx
      obtain ⟨p1, rfl, e1⟩ := rdBt_ok hm h2 ha
      have hl1 : p1.block < w.heap.size := by
        have := cell_lt (e1.2.2 0 (by omega))
        rwa [block_of_add] at this
      refine ks_wrs (args := [p, x]) hm hfree hwr h1 hr (pr_w4 T _ hle) rfl h fun bb o e hw => ?_
      subst e
      refine (ffromB_calls _ p1 bs w hw hl1 e1).mono fun e w' ⟨he, hb⟩ => ⟨he, ?_⟩
      rwa [setW_wrs] at hb
    · exact h.elim

theorem setB_wrs : ∀ (l : List Nat) (w : World) (b o k : Nat), setB w ⟨b, o, none⟩ k l = wrs w b (o + k) (l.map fun (x : Nat) => Value.int .u8 (x : Int))
  | [], _, _, _, _ => rfl
  | x :: r, w, b, o, k => by simp only [setB, List.map_cons, wrs, add4, setB_wrs r, Nat.add_assoc]

/-- The 28 bytes of a number, the lowest first. -/
def bytesOf (x : Nat) : List Nat := (List.range 28).map (dig x)
theorem bytesOf_length (x : Nat) : (bytesOf x).length = 28 := by simp [bytesOf]
theorem bytesOf_lt (x : Nat) : ∀ b ∈ bytesOf x, b < 256 := by
  intro b hb
  simp only [bytesOf, List.mem_map] at hb
  obtain ⟨k, _, rfl⟩ := hb
  unfold dig
  exact Nat.mod_lt _ (by omega)

def kToB : KSpec where
  run := fun args m nt K => match args with
    | [p, x] => obind (rdW4 m x) fun a => obind (wrP m [.bt (bytesOf a)] p) fun r => a < pp ∧ K (.tup []) (upd m r.1 r.2) nt
    | _ => False
  outs := outs0

theorem kToB_ok : KSOk Try.prog 71 kToB where
  enter := enter_in Try.func71 (by kernel_rfl) (by kernel_rfl)
  run := by
    intro wr T w m nt args xs K h hm hx hfree hwr
    simp only [kToB] at h
    split at h
    · rename_i p x
      obtain ⟨a, ha, h⟩ := obind_some h
      obtain ⟨r, hr, hlt, h⟩ := obind_some h
      obtain ⟨px, py, rfl, h1, h2⟩ := vsr2 hx
      obtain ⟨p1, rfl, e1⟩ := rdW4_ok hm h2 ha
      refine ks_wrs (args := [p, x]) hm hfree hwr h1 hr (pr_bt T (bytesOf_length a) (bytesOf_lt a)) rfl h fun bb o e hw => ?_
      subst e
      refine (ftoB_calls _ p1 a w hlt hw e1).mono fun e w' ⟨he, hb⟩ => ⟨he, ?_⟩
      rw [setB_wrs] at hb
      exact hb
    · exact h.elim

/-- The choice. -/
def kSel : KSpec where
  run := fun args m nt K => match args with
    | [p, .s c, x, y] => match num c with
      | some (true, .u64, .ofNat n) => obind (rdFi m x) fun a => obind (rdFi m y) fun b => onb (Nat.ble n 1) (obind (wrP m [.fi (bif Nat.beq n 0 then a else b)] p) fun r => K (.tup []) (upd m r.1 r.2) nt)
      | _ => False
    | _ => False
  outs := outs0

theorem kSel_ok : KSOk Try.prog 76 kSel where
  enter := enter_in Try.func76 (by kernel_rfl) (by kernel_rfl)
  run := by
    intro wr T w m nt args xs K h hm hx hfree hwr
    simp only [kSel] at h
    split at h
    · rename_i p c x y
      split at h
      · rename_i n hn
        obtain ⟨a, ha, h⟩ := obind_some h
        obtain ⟨b, hb', h⟩ := obind_some h
        obtain ⟨hn1, h⟩ := onb_true h
        obtain ⟨r, hr, h⟩ := obind_some h
        have hn1 := Nat.le_of_ble_eq_true hn1
        rw [VsR] at hx
        obtain ⟨px, rest, rfl, h1, hx⟩ := hx
        obtain ⟨pc, py, pz, rfl, hc, h2, h3⟩ := vsr3 hx
        rw [V.R] at hc
        obtain ⟨rfl, _⟩ := num_ok hn hc
        obtain ⟨p1, rfl, e1⟩ := rdFi_ok hm h2 ha
        obtain ⟨p2, rfl, e2⟩ := rdFi_ok hm h3 hb'
        refine ks_wrs (args := [p, .s c, x, y]) hm hfree hwr h1 hr (pr_fi T _) rfl h fun bb o e hw => ?_
        subst e
        refine (fsel_calls _ p1 p2 n hn1 a b w hw e1 e2).mono fun e w' ⟨he, hb⟩ => ⟨he, ?_⟩
        rw [set4, setW_wrs] at hb
        have : (if n = 0 then a else b) = (bif Nat.beq n 0 then a else b) := by
          cases hb0 : Nat.beq n 0 with
          | true => rw [if_pos (Nat.eq_of_beq_eq_true hb0)]; rfl
          | false => rw [if_neg (Nat.ne_of_beq_eq_false hb0)]; rfl
        rwa [this] at hb
      · exact h.elim
    · exact h.elim

end Go.Proofs.Ytdaheccfeihpgaa.Nm

