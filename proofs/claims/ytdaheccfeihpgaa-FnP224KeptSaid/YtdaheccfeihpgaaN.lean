import Derived.Test.YtdaheccfeihpgaaM
import Derived.Test.YtdaheccfeihpgaaH
/-
  The specification's powers.
-/
/-
  Powers: a loop of 224 rounds.
-/
namespace Go.Proofs.Ytdaheccfeihpgaa.Nm
open Go Go.RowKit

def seqL : Code → Code
  | .seq a _ => a
  | c => c
def seqR : Code → Code
  | .seq _ b => b
  | c => c
def blkC : Code → Code
  | .block _ b => b
  | c => c
def loopC : Code → Code
  | .loop b => b
  | c => c

/-- The parts of a body: what comes ahead of a loop, the loop's round, what comes behind. -/
def q0 (c : Code) : Code := seqL c
def q1 (c : Code) : Code := seqL (seqR c)
def q2 (c : Code) : Code := seqL (seqL (seqR (seqR c)))
def qL (c : Code) : Code := loopC (blkC (seqR (seqL (seqR (seqR c)))))
def qT (c : Code) : Code := seqR (seqR (seqR c))
theorem pB_eq : (Try.f37.body.getD .skip) = .seq (q0 (Try.f37.body.getD .skip)) (.seq (q1 (Try.f37.body.getD .skip)) (.seq (.seq (q2 (Try.f37.body.getD .skip)) (.block 0 (.loop (qL (Try.f37.body.getD .skip))))) (qT (Try.f37.body.getD .skip)))) := by kernel_rfl

def dsP : List (Nat × DSpec) := [(21, dBin timesN 14), (33, dSmall)]
theorem dsP_ok : ∀ f sp, lkp dsP f = some sp → DSOk Try.prog f sp := by
  intro f sp h
  rcases lkp_cons h with ⟨rfl, rfl⟩ | h
  · exact dTimes_ok
  rcases lkp_cons h with ⟨rfl, rfl⟩ | h
  · exact dSmall_ok
  · exact (lkp_nil h).elim

def tbP (n : Nat) : Tb := tb n 3 [] dsP [] 9
theorem tbP_ok {n : Nat} : TbOk Try.prog (tbP n) := tb_ok dsP_ok (fun _ _ h => (lkp_nil h).elim)

def boxC (t : Nat) : List Pc := [.c (.lit .i64 224), .c (.lit .i64 28), .c (.lit .i64 7), .c (.sl t 0 2 2)]
def outM (s : SS) : Option (List Pc) := match lkp s.env 7 with
  | some (.s (.sl t _ _ _)) => lkp s.m t
  | _ => none
/-- What the next round looks at. -/
abbrev GP := Option V × Option V × Option V × Option V × Option V × Option (List Pc) × Option (List Pc) × Option (List Pc) × Option (List Pc) × Option (List Pc)
def grabP (s : SS) : GP := (lkp s.env 1, lkp s.env 2, lkp s.env 3, lkp s.env 7, lkp s.env 8, lkp s.m 0, lkp s.m 1, lkp s.m 2, lkp s.m 3, outM s)
def gP (x e ca ce t c o : Nat) (i : Int) (r : List Pc) : GP := (some (.s (.sl 0 0 7 ca)), some (.s (.sl 1 0 7 ce)), some (.s (.p 3 0)), some (.s (.sl t 0 7 c)), some (.s (.lit .i64 i)), some [.w7 x], some [.w7 e], some foldsC, some (boxC 2), some (.w7 o :: r))

def envP (ca ce c : Nat) (i : Int) : Env := [(8, .s (.lit .i64 i)), (7, .s (.sl 4 0 7 c)), (3, .s (.p 3 0)), (1, .s (.sl 0 0 7 ca)), (2, .s (.sl 1 0 7 ce))]
def memP (x e o : Nat) : Mem := [(4, [.w7 o]), (3, boxC 2), (0, [.w7 x]), (1, [.w7 e]), (2, foldsC)]

set_option maxRecDepth 100000 in
theorem run_p012 (x e ca ce : Nat) (G : Xt → GP → Prop) :
    exC2 (tbP Try.f37.ntmps) (.seq (q0 (Try.f37.body.getD .skip)) (.seq (q1 (Try.f37.body.getD .skip)) (q2 (Try.f37.body.getD .skip)))) ⟨entryV [cv 2, .s (.sl 0 0 7 ca), .s (.sl 1 0 7 ce)] 0, [(0, [.w7 x]), (1, [.w7 e]), (2, foldsC)], 3⟩ (fun y s => G y (grabP s)) = G .normal (gP x e ca ce 4 7 1 223 []) := by
  kernel_rfl

end Go.Proofs.Ytdaheccfeihpgaa.Nm

/-
  The rounds of a power, one by one.
-/
namespace Go.Proofs.Ytdaheccfeihpgaa.Nm
open Go Go.RowKit

def bitL (e k : Nat) (K1 K0 : Prop) : Prop := ∀ z, IntKind.i64.wrap z = z → z = IntKind.i64.wrap (((wd (k / 32) e : Nat) : Int).fdiv (2 ^ (k % 32))) → ∀ u, IntKind.i64.wrap u = u → u = bits .and .i64 z 1 → (decide (u = 1) = true → K1) ∧ (decide (u = 1) = false → K0)

def roundP (k : Nat) : Prop := ∀ (x e ca ce c o : Nat) (G : Xt → GP → Prop), exC2 (tbP Try.f37.ntmps) (qL (Try.f37.body.getD .skip)) ⟨envP ca ce c ((k : Int) - 0), memP x e o, 5⟩ (fun y s => G y (grabP s)) =
  bitL e k (G .normal (gP x e ca ce 6 14 (timesN (timesN o o) x) ((k : Int) - 1) [])) (G .normal (gP x e ca ce 5 14 (timesN o o) ((k : Int) - 1) []))

def rk : Nat → Prop
  | 0 => True
  | n + 1 => rk n ∧ roundP n

set_option maxRecDepth 100000
theorem rk0 : rk 0 := trivial
theorem rk1 : rk 1 := ⟨rk0, fun _ _ _ _ _ _ _ => by kernel_rfl⟩
theorem rk2 : rk 2 := ⟨rk1, fun _ _ _ _ _ _ _ => by kernel_rfl⟩
theorem rk3 : rk 3 := ⟨rk2, fun _ _ _ _ _ _ _ => by kernel_rfl⟩
theorem rk4 : rk 4 := ⟨rk3, fun _ _ _ _ _ _ _ => by kernel_rfl⟩
theorem rk5 : rk 5 := ⟨rk4, fun _ _ _ _ _ _ _ => by kernel_rfl⟩
theorem rk6 : rk 6 := ⟨rk5, fun _ _ _ _ _ _ _ => by kernel_rfl⟩
theorem rk7 : rk 7 := ⟨rk6, fun _ _ _ _ _ _ _ => by kernel_rfl⟩
theorem rk8 : rk 8 := ⟨rk7, fun _ _ _ _ _ _ _ => by kernel_rfl⟩
theorem rk9 : rk 9 := ⟨rk8, fun _ _ _ _ _ _ _ => by kernel_rfl⟩
theorem rk10 : rk 10 := ⟨rk9, fun _ _ _ _ _ _ _ => by kernel_rfl⟩
theorem rk11 : rk 11 := ⟨rk10, fun _ _ _ _ _ _ _ => by kernel_rfl⟩
theorem rk12 : rk 12 := ⟨rk11, fun _ _ _ _ _ _ _ => by kernel_rfl⟩
theorem rk13 : rk 13 := ⟨rk12, fun _ _ _ _ _ _ _ => by kernel_rfl⟩
theorem rk14 : rk 14 := ⟨rk13, fun _ _ _ _ _ _ _ => by kernel_rfl⟩
theorem rk15 : rk 15 := ⟨rk14, fun _ _ _ _ _ _ _ => by kernel_rfl⟩
theorem rk16 : rk 16 := ⟨rk15, fun _ _ _ _ _ _ _ => by kernel_rfl⟩
theorem rk17 : rk 17 := ⟨rk16, fun _ _ _ _ _ _ _ => by kernel_rfl⟩
theorem rk18 : rk 18 := ⟨rk17, fun _ _ _ _ _ _ _ => by kernel_rfl⟩
theorem rk19 : rk 19 := ⟨rk18, fun _ _ _ _ _ _ _ => by kernel_rfl⟩
theorem rk20 : rk 20 := ⟨rk19, fun _ _ _ _ _ _ _ => by kernel_rfl⟩
theorem rk21 : rk 21 := ⟨rk20, fun _ _ _ _ _ _ _ => by kernel_rfl⟩
theorem rk22 : rk 22 := ⟨rk21, fun _ _ _ _ _ _ _ => by kernel_rfl⟩
theorem rk23 : rk 23 := ⟨rk22, fun _ _ _ _ _ _ _ => by kernel_rfl⟩
theorem rk24 : rk 24 := ⟨rk23, fun _ _ _ _ _ _ _ => by kernel_rfl⟩
theorem rk25 : rk 25 := ⟨rk24, fun _ _ _ _ _ _ _ => by kernel_rfl⟩
theorem rk26 : rk 26 := ⟨rk25, fun _ _ _ _ _ _ _ => by kernel_rfl⟩
theorem rk27 : rk 27 := ⟨rk26, fun _ _ _ _ _ _ _ => by kernel_rfl⟩
theorem rk28 : rk 28 := ⟨rk27, fun _ _ _ _ _ _ _ => by kernel_rfl⟩
theorem rk29 : rk 29 := ⟨rk28, fun _ _ _ _ _ _ _ => by kernel_rfl⟩
theorem rk30 : rk 30 := ⟨rk29, fun _ _ _ _ _ _ _ => by kernel_rfl⟩
theorem rk31 : rk 31 := ⟨rk30, fun _ _ _ _ _ _ _ => by kernel_rfl⟩
theorem rk32 : rk 32 := ⟨rk31, fun _ _ _ _ _ _ _ => by kernel_rfl⟩
theorem rk33 : rk 33 := ⟨rk32, fun _ _ _ _ _ _ _ => by kernel_rfl⟩
theorem rk34 : rk 34 := ⟨rk33, fun _ _ _ _ _ _ _ => by kernel_rfl⟩
theorem rk35 : rk 35 := ⟨rk34, fun _ _ _ _ _ _ _ => by kernel_rfl⟩
theorem rk36 : rk 36 := ⟨rk35, fun _ _ _ _ _ _ _ => by kernel_rfl⟩
theorem rk37 : rk 37 := ⟨rk36, fun _ _ _ _ _ _ _ => by kernel_rfl⟩
theorem rk38 : rk 38 := ⟨rk37, fun _ _ _ _ _ _ _ => by kernel_rfl⟩
theorem rk39 : rk 39 := ⟨rk38, fun _ _ _ _ _ _ _ => by kernel_rfl⟩
theorem rk40 : rk 40 := ⟨rk39, fun _ _ _ _ _ _ _ => by kernel_rfl⟩
theorem rk41 : rk 41 := ⟨rk40, fun _ _ _ _ _ _ _ => by kernel_rfl⟩
theorem rk42 : rk 42 := ⟨rk41, fun _ _ _ _ _ _ _ => by kernel_rfl⟩
theorem rk43 : rk 43 := ⟨rk42, fun _ _ _ _ _ _ _ => by kernel_rfl⟩
theorem rk44 : rk 44 := ⟨rk43, fun _ _ _ _ _ _ _ => by kernel_rfl⟩
theorem rk45 : rk 45 := ⟨rk44, fun _ _ _ _ _ _ _ => by kernel_rfl⟩
theorem rk46 : rk 46 := ⟨rk45, fun _ _ _ _ _ _ _ => by kernel_rfl⟩
theorem rk47 : rk 47 := ⟨rk46, fun _ _ _ _ _ _ _ => by kernel_rfl⟩
theorem rk48 : rk 48 := ⟨rk47, fun _ _ _ _ _ _ _ => by kernel_rfl⟩
theorem rk49 : rk 49 := ⟨rk48, fun _ _ _ _ _ _ _ => by kernel_rfl⟩
theorem rk50 : rk 50 := ⟨rk49, fun _ _ _ _ _ _ _ => by kernel_rfl⟩
theorem rk51 : rk 51 := ⟨rk50, fun _ _ _ _ _ _ _ => by kernel_rfl⟩
theorem rk52 : rk 52 := ⟨rk51, fun _ _ _ _ _ _ _ => by kernel_rfl⟩
theorem rk53 : rk 53 := ⟨rk52, fun _ _ _ _ _ _ _ => by kernel_rfl⟩
theorem rk54 : rk 54 := ⟨rk53, fun _ _ _ _ _ _ _ => by kernel_rfl⟩
theorem rk55 : rk 55 := ⟨rk54, fun _ _ _ _ _ _ _ => by kernel_rfl⟩
theorem rk56 : rk 56 := ⟨rk55, fun _ _ _ _ _ _ _ => by kernel_rfl⟩
theorem rk57 : rk 57 := ⟨rk56, fun _ _ _ _ _ _ _ => by kernel_rfl⟩
theorem rk58 : rk 58 := ⟨rk57, fun _ _ _ _ _ _ _ => by kernel_rfl⟩
theorem rk59 : rk 59 := ⟨rk58, fun _ _ _ _ _ _ _ => by kernel_rfl⟩
theorem rk60 : rk 60 := ⟨rk59, fun _ _ _ _ _ _ _ => by kernel_rfl⟩
theorem rk61 : rk 61 := ⟨rk60, fun _ _ _ _ _ _ _ => by kernel_rfl⟩
theorem rk62 : rk 62 := ⟨rk61, fun _ _ _ _ _ _ _ => by kernel_rfl⟩
theorem rk63 : rk 63 := ⟨rk62, fun _ _ _ _ _ _ _ => by kernel_rfl⟩
theorem rk64 : rk 64 := ⟨rk63, fun _ _ _ _ _ _ _ => by kernel_rfl⟩
theorem rk65 : rk 65 := ⟨rk64, fun _ _ _ _ _ _ _ => by kernel_rfl⟩
theorem rk66 : rk 66 := ⟨rk65, fun _ _ _ _ _ _ _ => by kernel_rfl⟩
theorem rk67 : rk 67 := ⟨rk66, fun _ _ _ _ _ _ _ => by kernel_rfl⟩
theorem rk68 : rk 68 := ⟨rk67, fun _ _ _ _ _ _ _ => by kernel_rfl⟩
theorem rk69 : rk 69 := ⟨rk68, fun _ _ _ _ _ _ _ => by kernel_rfl⟩
theorem rk70 : rk 70 := ⟨rk69, fun _ _ _ _ _ _ _ => by kernel_rfl⟩
theorem rk71 : rk 71 := ⟨rk70, fun _ _ _ _ _ _ _ => by kernel_rfl⟩
theorem rk72 : rk 72 := ⟨rk71, fun _ _ _ _ _ _ _ => by kernel_rfl⟩
theorem rk73 : rk 73 := ⟨rk72, fun _ _ _ _ _ _ _ => by kernel_rfl⟩
theorem rk74 : rk 74 := ⟨rk73, fun _ _ _ _ _ _ _ => by kernel_rfl⟩
theorem rk75 : rk 75 := ⟨rk74, fun _ _ _ _ _ _ _ => by kernel_rfl⟩
theorem rk76 : rk 76 := ⟨rk75, fun _ _ _ _ _ _ _ => by kernel_rfl⟩
theorem rk77 : rk 77 := ⟨rk76, fun _ _ _ _ _ _ _ => by kernel_rfl⟩
theorem rk78 : rk 78 := ⟨rk77, fun _ _ _ _ _ _ _ => by kernel_rfl⟩
theorem rk79 : rk 79 := ⟨rk78, fun _ _ _ _ _ _ _ => by kernel_rfl⟩
theorem rk80 : rk 80 := ⟨rk79, fun _ _ _ _ _ _ _ => by kernel_rfl⟩
theorem rk81 : rk 81 := ⟨rk80, fun _ _ _ _ _ _ _ => by kernel_rfl⟩
theorem rk82 : rk 82 := ⟨rk81, fun _ _ _ _ _ _ _ => by kernel_rfl⟩
theorem rk83 : rk 83 := ⟨rk82, fun _ _ _ _ _ _ _ => by kernel_rfl⟩
theorem rk84 : rk 84 := ⟨rk83, fun _ _ _ _ _ _ _ => by kernel_rfl⟩
theorem rk85 : rk 85 := ⟨rk84, fun _ _ _ _ _ _ _ => by kernel_rfl⟩
theorem rk86 : rk 86 := ⟨rk85, fun _ _ _ _ _ _ _ => by kernel_rfl⟩
theorem rk87 : rk 87 := ⟨rk86, fun _ _ _ _ _ _ _ => by kernel_rfl⟩
theorem rk88 : rk 88 := ⟨rk87, fun _ _ _ _ _ _ _ => by kernel_rfl⟩
theorem rk89 : rk 89 := ⟨rk88, fun _ _ _ _ _ _ _ => by kernel_rfl⟩
theorem rk90 : rk 90 := ⟨rk89, fun _ _ _ _ _ _ _ => by kernel_rfl⟩
theorem rk91 : rk 91 := ⟨rk90, fun _ _ _ _ _ _ _ => by kernel_rfl⟩
theorem rk92 : rk 92 := ⟨rk91, fun _ _ _ _ _ _ _ => by kernel_rfl⟩
theorem rk93 : rk 93 := ⟨rk92, fun _ _ _ _ _ _ _ => by kernel_rfl⟩
theorem rk94 : rk 94 := ⟨rk93, fun _ _ _ _ _ _ _ => by kernel_rfl⟩
theorem rk95 : rk 95 := ⟨rk94, fun _ _ _ _ _ _ _ => by kernel_rfl⟩
theorem rk96 : rk 96 := ⟨rk95, fun _ _ _ _ _ _ _ => by kernel_rfl⟩
theorem rk97 : rk 97 := ⟨rk96, fun _ _ _ _ _ _ _ => by kernel_rfl⟩
theorem rk98 : rk 98 := ⟨rk97, fun _ _ _ _ _ _ _ => by kernel_rfl⟩
theorem rk99 : rk 99 := ⟨rk98, fun _ _ _ _ _ _ _ => by kernel_rfl⟩
theorem rk100 : rk 100 := ⟨rk99, fun _ _ _ _ _ _ _ => by kernel_rfl⟩
theorem rk101 : rk 101 := ⟨rk100, fun _ _ _ _ _ _ _ => by kernel_rfl⟩
theorem rk102 : rk 102 := ⟨rk101, fun _ _ _ _ _ _ _ => by kernel_rfl⟩
theorem rk103 : rk 103 := ⟨rk102, fun _ _ _ _ _ _ _ => by kernel_rfl⟩
theorem rk104 : rk 104 := ⟨rk103, fun _ _ _ _ _ _ _ => by kernel_rfl⟩
theorem rk105 : rk 105 := ⟨rk104, fun _ _ _ _ _ _ _ => by kernel_rfl⟩
theorem rk106 : rk 106 := ⟨rk105, fun _ _ _ _ _ _ _ => by kernel_rfl⟩
theorem rk107 : rk 107 := ⟨rk106, fun _ _ _ _ _ _ _ => by kernel_rfl⟩
theorem rk108 : rk 108 := ⟨rk107, fun _ _ _ _ _ _ _ => by kernel_rfl⟩
theorem rk109 : rk 109 := ⟨rk108, fun _ _ _ _ _ _ _ => by kernel_rfl⟩
theorem rk110 : rk 110 := ⟨rk109, fun _ _ _ _ _ _ _ => by kernel_rfl⟩
theorem rk111 : rk 111 := ⟨rk110, fun _ _ _ _ _ _ _ => by kernel_rfl⟩
theorem rk112 : rk 112 := ⟨rk111, fun _ _ _ _ _ _ _ => by kernel_rfl⟩
theorem rk113 : rk 113 := ⟨rk112, fun _ _ _ _ _ _ _ => by kernel_rfl⟩
theorem rk114 : rk 114 := ⟨rk113, fun _ _ _ _ _ _ _ => by kernel_rfl⟩
theorem rk115 : rk 115 := ⟨rk114, fun _ _ _ _ _ _ _ => by kernel_rfl⟩
theorem rk116 : rk 116 := ⟨rk115, fun _ _ _ _ _ _ _ => by kernel_rfl⟩
theorem rk117 : rk 117 := ⟨rk116, fun _ _ _ _ _ _ _ => by kernel_rfl⟩
theorem rk118 : rk 118 := ⟨rk117, fun _ _ _ _ _ _ _ => by kernel_rfl⟩
theorem rk119 : rk 119 := ⟨rk118, fun _ _ _ _ _ _ _ => by kernel_rfl⟩
theorem rk120 : rk 120 := ⟨rk119, fun _ _ _ _ _ _ _ => by kernel_rfl⟩
theorem rk121 : rk 121 := ⟨rk120, fun _ _ _ _ _ _ _ => by kernel_rfl⟩
theorem rk122 : rk 122 := ⟨rk121, fun _ _ _ _ _ _ _ => by kernel_rfl⟩
theorem rk123 : rk 123 := ⟨rk122, fun _ _ _ _ _ _ _ => by kernel_rfl⟩
theorem rk124 : rk 124 := ⟨rk123, fun _ _ _ _ _ _ _ => by kernel_rfl⟩
theorem rk125 : rk 125 := ⟨rk124, fun _ _ _ _ _ _ _ => by kernel_rfl⟩
theorem rk126 : rk 126 := ⟨rk125, fun _ _ _ _ _ _ _ => by kernel_rfl⟩
theorem rk127 : rk 127 := ⟨rk126, fun _ _ _ _ _ _ _ => by kernel_rfl⟩
theorem rk128 : rk 128 := ⟨rk127, fun _ _ _ _ _ _ _ => by kernel_rfl⟩
theorem rk129 : rk 129 := ⟨rk128, fun _ _ _ _ _ _ _ => by kernel_rfl⟩
theorem rk130 : rk 130 := ⟨rk129, fun _ _ _ _ _ _ _ => by kernel_rfl⟩
theorem rk131 : rk 131 := ⟨rk130, fun _ _ _ _ _ _ _ => by kernel_rfl⟩
theorem rk132 : rk 132 := ⟨rk131, fun _ _ _ _ _ _ _ => by kernel_rfl⟩
theorem rk133 : rk 133 := ⟨rk132, fun _ _ _ _ _ _ _ => by kernel_rfl⟩
theorem rk134 : rk 134 := ⟨rk133, fun _ _ _ _ _ _ _ => by kernel_rfl⟩
theorem rk135 : rk 135 := ⟨rk134, fun _ _ _ _ _ _ _ => by kernel_rfl⟩
theorem rk136 : rk 136 := ⟨rk135, fun _ _ _ _ _ _ _ => by kernel_rfl⟩
theorem rk137 : rk 137 := ⟨rk136, fun _ _ _ _ _ _ _ => by kernel_rfl⟩
theorem rk138 : rk 138 := ⟨rk137, fun _ _ _ _ _ _ _ => by kernel_rfl⟩
theorem rk139 : rk 139 := ⟨rk138, fun _ _ _ _ _ _ _ => by kernel_rfl⟩
theorem rk140 : rk 140 := ⟨rk139, fun _ _ _ _ _ _ _ => by kernel_rfl⟩
theorem rk141 : rk 141 := ⟨rk140, fun _ _ _ _ _ _ _ => by kernel_rfl⟩
theorem rk142 : rk 142 := ⟨rk141, fun _ _ _ _ _ _ _ => by kernel_rfl⟩
theorem rk143 : rk 143 := ⟨rk142, fun _ _ _ _ _ _ _ => by kernel_rfl⟩
theorem rk144 : rk 144 := ⟨rk143, fun _ _ _ _ _ _ _ => by kernel_rfl⟩
theorem rk145 : rk 145 := ⟨rk144, fun _ _ _ _ _ _ _ => by kernel_rfl⟩
theorem rk146 : rk 146 := ⟨rk145, fun _ _ _ _ _ _ _ => by kernel_rfl⟩
theorem rk147 : rk 147 := ⟨rk146, fun _ _ _ _ _ _ _ => by kernel_rfl⟩
theorem rk148 : rk 148 := ⟨rk147, fun _ _ _ _ _ _ _ => by kernel_rfl⟩
theorem rk149 : rk 149 := ⟨rk148, fun _ _ _ _ _ _ _ => by kernel_rfl⟩
theorem rk150 : rk 150 := ⟨rk149, fun _ _ _ _ _ _ _ => by kernel_rfl⟩
theorem rk151 : rk 151 := ⟨rk150, fun _ _ _ _ _ _ _ => by kernel_rfl⟩
theorem rk152 : rk 152 := ⟨rk151, fun _ _ _ _ _ _ _ => by kernel_rfl⟩
theorem rk153 : rk 153 := ⟨rk152, fun _ _ _ _ _ _ _ => by kernel_rfl⟩
theorem rk154 : rk 154 := ⟨rk153, fun _ _ _ _ _ _ _ => by kernel_rfl⟩
theorem rk155 : rk 155 := ⟨rk154, fun _ _ _ _ _ _ _ => by kernel_rfl⟩
theorem rk156 : rk 156 := ⟨rk155, fun _ _ _ _ _ _ _ => by kernel_rfl⟩
theorem rk157 : rk 157 := ⟨rk156, fun _ _ _ _ _ _ _ => by kernel_rfl⟩
theorem rk158 : rk 158 := ⟨rk157, fun _ _ _ _ _ _ _ => by kernel_rfl⟩
theorem rk159 : rk 159 := ⟨rk158, fun _ _ _ _ _ _ _ => by kernel_rfl⟩
theorem rk160 : rk 160 := ⟨rk159, fun _ _ _ _ _ _ _ => by kernel_rfl⟩
theorem rk161 : rk 161 := ⟨rk160, fun _ _ _ _ _ _ _ => by kernel_rfl⟩
theorem rk162 : rk 162 := ⟨rk161, fun _ _ _ _ _ _ _ => by kernel_rfl⟩
theorem rk163 : rk 163 := ⟨rk162, fun _ _ _ _ _ _ _ => by kernel_rfl⟩
theorem rk164 : rk 164 := ⟨rk163, fun _ _ _ _ _ _ _ => by kernel_rfl⟩
theorem rk165 : rk 165 := ⟨rk164, fun _ _ _ _ _ _ _ => by kernel_rfl⟩
theorem rk166 : rk 166 := ⟨rk165, fun _ _ _ _ _ _ _ => by kernel_rfl⟩
theorem rk167 : rk 167 := ⟨rk166, fun _ _ _ _ _ _ _ => by kernel_rfl⟩
theorem rk168 : rk 168 := ⟨rk167, fun _ _ _ _ _ _ _ => by kernel_rfl⟩
theorem rk169 : rk 169 := ⟨rk168, fun _ _ _ _ _ _ _ => by kernel_rfl⟩
theorem rk170 : rk 170 := ⟨rk169, fun _ _ _ _ _ _ _ => by kernel_rfl⟩
theorem rk171 : rk 171 := ⟨rk170, fun _ _ _ _ _ _ _ => by kernel_rfl⟩
theorem rk172 : rk 172 := ⟨rk171, fun _ _ _ _ _ _ _ => by kernel_rfl⟩
theorem rk173 : rk 173 := ⟨rk172, fun _ _ _ _ _ _ _ => by kernel_rfl⟩
theorem rk174 : rk 174 := ⟨rk173, fun _ _ _ _ _ _ _ => by kernel_rfl⟩
theorem rk175 : rk 175 := ⟨rk174, fun _ _ _ _ _ _ _ => by kernel_rfl⟩
theorem rk176 : rk 176 := ⟨rk175, fun _ _ _ _ _ _ _ => by kernel_rfl⟩
theorem rk177 : rk 177 := ⟨rk176, fun _ _ _ _ _ _ _ => by kernel_rfl⟩
theorem rk178 : rk 178 := ⟨rk177, fun _ _ _ _ _ _ _ => by kernel_rfl⟩
theorem rk179 : rk 179 := ⟨rk178, fun _ _ _ _ _ _ _ => by kernel_rfl⟩
theorem rk180 : rk 180 := ⟨rk179, fun _ _ _ _ _ _ _ => by kernel_rfl⟩
theorem rk181 : rk 181 := ⟨rk180, fun _ _ _ _ _ _ _ => by kernel_rfl⟩
theorem rk182 : rk 182 := ⟨rk181, fun _ _ _ _ _ _ _ => by kernel_rfl⟩
theorem rk183 : rk 183 := ⟨rk182, fun _ _ _ _ _ _ _ => by kernel_rfl⟩
theorem rk184 : rk 184 := ⟨rk183, fun _ _ _ _ _ _ _ => by kernel_rfl⟩
theorem rk185 : rk 185 := ⟨rk184, fun _ _ _ _ _ _ _ => by kernel_rfl⟩
theorem rk186 : rk 186 := ⟨rk185, fun _ _ _ _ _ _ _ => by kernel_rfl⟩
theorem rk187 : rk 187 := ⟨rk186, fun _ _ _ _ _ _ _ => by kernel_rfl⟩
theorem rk188 : rk 188 := ⟨rk187, fun _ _ _ _ _ _ _ => by kernel_rfl⟩
theorem rk189 : rk 189 := ⟨rk188, fun _ _ _ _ _ _ _ => by kernel_rfl⟩
theorem rk190 : rk 190 := ⟨rk189, fun _ _ _ _ _ _ _ => by kernel_rfl⟩
theorem rk191 : rk 191 := ⟨rk190, fun _ _ _ _ _ _ _ => by kernel_rfl⟩
theorem rk192 : rk 192 := ⟨rk191, fun _ _ _ _ _ _ _ => by kernel_rfl⟩
theorem rk193 : rk 193 := ⟨rk192, fun _ _ _ _ _ _ _ => by kernel_rfl⟩
theorem rk194 : rk 194 := ⟨rk193, fun _ _ _ _ _ _ _ => by kernel_rfl⟩
theorem rk195 : rk 195 := ⟨rk194, fun _ _ _ _ _ _ _ => by kernel_rfl⟩
theorem rk196 : rk 196 := ⟨rk195, fun _ _ _ _ _ _ _ => by kernel_rfl⟩
theorem rk197 : rk 197 := ⟨rk196, fun _ _ _ _ _ _ _ => by kernel_rfl⟩
theorem rk198 : rk 198 := ⟨rk197, fun _ _ _ _ _ _ _ => by kernel_rfl⟩
theorem rk199 : rk 199 := ⟨rk198, fun _ _ _ _ _ _ _ => by kernel_rfl⟩
theorem rk200 : rk 200 := ⟨rk199, fun _ _ _ _ _ _ _ => by kernel_rfl⟩
theorem rk201 : rk 201 := ⟨rk200, fun _ _ _ _ _ _ _ => by kernel_rfl⟩
theorem rk202 : rk 202 := ⟨rk201, fun _ _ _ _ _ _ _ => by kernel_rfl⟩
theorem rk203 : rk 203 := ⟨rk202, fun _ _ _ _ _ _ _ => by kernel_rfl⟩
theorem rk204 : rk 204 := ⟨rk203, fun _ _ _ _ _ _ _ => by kernel_rfl⟩
theorem rk205 : rk 205 := ⟨rk204, fun _ _ _ _ _ _ _ => by kernel_rfl⟩
theorem rk206 : rk 206 := ⟨rk205, fun _ _ _ _ _ _ _ => by kernel_rfl⟩
theorem rk207 : rk 207 := ⟨rk206, fun _ _ _ _ _ _ _ => by kernel_rfl⟩
theorem rk208 : rk 208 := ⟨rk207, fun _ _ _ _ _ _ _ => by kernel_rfl⟩
theorem rk209 : rk 209 := ⟨rk208, fun _ _ _ _ _ _ _ => by kernel_rfl⟩
theorem rk210 : rk 210 := ⟨rk209, fun _ _ _ _ _ _ _ => by kernel_rfl⟩
theorem rk211 : rk 211 := ⟨rk210, fun _ _ _ _ _ _ _ => by kernel_rfl⟩
theorem rk212 : rk 212 := ⟨rk211, fun _ _ _ _ _ _ _ => by kernel_rfl⟩
theorem rk213 : rk 213 := ⟨rk212, fun _ _ _ _ _ _ _ => by kernel_rfl⟩
theorem rk214 : rk 214 := ⟨rk213, fun _ _ _ _ _ _ _ => by kernel_rfl⟩
theorem rk215 : rk 215 := ⟨rk214, fun _ _ _ _ _ _ _ => by kernel_rfl⟩
theorem rk216 : rk 216 := ⟨rk215, fun _ _ _ _ _ _ _ => by kernel_rfl⟩
theorem rk217 : rk 217 := ⟨rk216, fun _ _ _ _ _ _ _ => by kernel_rfl⟩
theorem rk218 : rk 218 := ⟨rk217, fun _ _ _ _ _ _ _ => by kernel_rfl⟩
theorem rk219 : rk 219 := ⟨rk218, fun _ _ _ _ _ _ _ => by kernel_rfl⟩
theorem rk220 : rk 220 := ⟨rk219, fun _ _ _ _ _ _ _ => by kernel_rfl⟩
theorem rk221 : rk 221 := ⟨rk220, fun _ _ _ _ _ _ _ => by kernel_rfl⟩
theorem rk222 : rk 222 := ⟨rk221, fun _ _ _ _ _ _ _ => by kernel_rfl⟩
theorem rk223 : rk 223 := ⟨rk222, fun _ _ _ _ _ _ _ => by kernel_rfl⟩
theorem rk224 : rk 224 := ⟨rk223, fun _ _ _ _ _ _ _ => by kernel_rfl⟩

theorem rk_get : ∀ {n k : Nat}, rk n → k < n → roundP k
  | 0, _, _, h => by omega
  | n + 1, k, h, hk => by
    by_cases e : k = n
    · subst e; exact h.2
    · exact rk_get h.1 (by omega)

end Go.Proofs.Ytdaheccfeihpgaa.Nm

/-
  Powers: the contract.
-/
namespace Go.Proofs.Ytdaheccfeihpgaa.Nm
open Go Go.RowKit

theorem i64_and1 (n : Int) : bits .and .i64 n 1 = n % 2 := by
  have h1 : (BitVec.ofInt 64 1).toNat = 2 ^ 1 - 1 := by decide
  have key : (BitVec.ofInt 64 n &&& BitVec.ofInt 64 1).toNat = (n % ((2 ^ 64 : Nat) : Int)).toNat % 2 ^ 1 := by
    rw [BitVec.toNat_and, BitVec.toNat_ofInt, h1, Nat.and_two_pow_sub_one_eq_mod]
  show IntKind.i64.wrap ((BitVec.ofInt 64 n &&& BitVec.ofInt 64 1).toNat : Nat) = n % 2
  rw [key, IntKind.wrap_i64]
  omega

theorem wd_bit (k e : Nat) : wd (k / 32) e / 2 ^ (k % 32) % 2 = e / 2 ^ k % 2 := by
  have hj : k % 32 < 32 := Nat.mod_lt _ (by omega)
  have e1 : (4294967296 : Nat) ^ (k / 32) = 2 ^ (32 * (k / 32)) := by rw [Nat.pow_mul]
  have e2 : (4294967296 : Nat) = 2 ^ (k % 32) * 2 ^ (32 - k % 32) := by rw [← Nat.pow_add, show k % 32 + (32 - k % 32) = 32 by omega]
  have e3 : 2 ^ k = 2 ^ (32 * (k / 32)) * 2 ^ (k % 32) := by rw [← Nat.pow_add, Nat.div_add_mod]
  unfold wd
  rw [e1]
  conv => lhs; rw [e2]
  rw [Nat.mod_mul_right_div_self, Nat.mod_mod_of_dvd _ (by
    have : 32 - k % 32 = (31 - k % 32) + 1 := by omega
    rw [this, Nat.pow_succ]
    exact Nat.dvd_mul_left ..), Nat.div_div_eq_div_mul, ← e3]

theorem bitL_ok {e k : Nat} {K1 K0 : Prop} (h1 : e / 2 ^ k % 2 = 1 → K1) (h0 : e / 2 ^ k % 2 = 0 → K0) : bitL e k K1 K0 := by
  intro z _ hz u _ hu
  have hw := wd_lt (k / 32) e
  have hb := wd_bit k e
  have hp : (0 : Int) ≤ 2 ^ (k % 32) := Int.le_of_lt (Int.pow_pos (by omega))
  rw [Int.fdiv_eq_ediv_of_nonneg _ hp] at hz
  have e1 : ((wd (k / 32) e : Nat) : Int) / 2 ^ (k % 32) = ((wd (k / 32) e / 2 ^ (k % 32) : Nat) : Int) := by
    rw [Int.natCast_ediv, Int.natCast_pow]; rfl
  have h2 : wd (k / 32) e / 2 ^ (k % 32) ≤ wd (k / 32) e := Nat.div_le_self _ _
  rw [← hb] at h1 h0
  generalize wd (k / 32) e / 2 ^ (k % 32) = q at *
  rw [e1, i64w (by omega) (by omega)] at hz
  rw [i64_and1, hz] at hu
  refine ⟨fun h => h1 ?_, fun h => h0 ?_⟩
  · have := of_decide_eq_true h; omega
  · have := of_decide_eq_false h; omega

theorem pow_step (x e k p : Nat) : (x ^ (e / 2 ^ (k + 1)) % p) * (x ^ (e / 2 ^ (k + 1)) % p) % p = x ^ (2 * (e / 2 ^ (k + 1))) % p := by
  generalize e / 2 ^ (k + 1) = q
  rw [← Nat.mul_mod, Nat.two_mul, Nat.pow_add]

theorem half_step (e k : Nat) : e / 2 ^ k = 2 * (e / 2 ^ (k + 1)) + e / 2 ^ k % 2 := by
  rw [Nat.pow_succ, ← Nat.div_div_eq_div_mul]
  omega

/-- A power. -/
def kPow : KSpec where
  run := fun args m nt K => match args with
    | [c, x, y] => obind (cvT c) fun tf => obind (rdW7 m x) fun a => obind (rdW7 m y) fun n => onb (fdOk m tf) (∀ r : Nat, r = a ^ n % 26959946667150639794667015087019630673557916260026308143510066298881 → K (.s (.sl nt 0 7 14)) (addF m nt [[.w7 r]]) (nt + 1))
    | _ => False
  outs := fun _ _ => []

theorem lkp5 {i : Nat} {v : V} {a b c d e : Nat × V} (h : lkp [a, b, c, d, e] i = some v) : (a.1 = i ∧ v = a.2) ∨ (b.1 = i ∧ v = b.2) ∨ (c.1 = i ∧ v = c.2) ∨ (d.1 = i ∧ v = d.2) ∨ (e.1 = i ∧ v = e.2) := by
  rcases lkp_cons h with ⟨h1, h2⟩ | h
  · exact .inl ⟨h1, h2.symm⟩
  rcases lkp_cons h with ⟨h1, h2⟩ | h
  · exact .inr (.inl ⟨h1, h2.symm⟩)
  rcases lkp_cons h with ⟨h1, h2⟩ | h
  · exact .inr (.inr (.inl ⟨h1, h2.symm⟩))
  rcases lkp_cons h with ⟨h1, h2⟩ | h
  · exact .inr (.inr (.inr (.inl ⟨h1, h2.symm⟩)))
  rcases lkp_cons h with ⟨h1, h2⟩ | h
  · exact .inr (.inr (.inr (.inr ⟨h1, h2.symm⟩)))
  · exact (lkp_nil h).elim
theorem lkpM5 {i : Nat} {v : List Pc} {a b c d e : Nat × List Pc} (h : lkp [a, b, c, d, e] i = some v) : (a.1 = i ∧ v = a.2) ∨ (b.1 = i ∧ v = b.2) ∨ (c.1 = i ∧ v = c.2) ∨ (d.1 = i ∧ v = d.2) ∨ (e.1 = i ∧ v = e.2) := by
  rcases lkp_cons h with ⟨h1, h2⟩ | h
  · exact .inl ⟨h1, h2.symm⟩
  rcases lkp_cons h with ⟨h1, h2⟩ | h
  · exact .inr (.inl ⟨h1, h2.symm⟩)
  rcases lkp_cons h with ⟨h1, h2⟩ | h
  · exact .inr (.inr (.inl ⟨h1, h2.symm⟩))
  rcases lkp_cons h with ⟨h1, h2⟩ | h
  · exact .inr (.inr (.inr (.inl ⟨h1, h2.symm⟩)))
  rcases lkp_cons h with ⟨h1, h2⟩ | h
  · exact .inr (.inr (.inr (.inr ⟨h1, h2.symm⟩)))
  · exact (lkp_nil h).elim

/-- What is grabbed is a state of the round. -/
theorem canonP {n : Nat} {T0 T : Tg} {w0 w : World} {a : Act} {s : SS} {x e ca ce t c o : Nat} {i : Int} {r : List Pc} (hf : FrV T (tbP n).n a s.env) (hw : WV (tbP n) T0 w0 T w s) (hT0 : ∀ t, 3 ≤ t → T0 t = none) (ht : 4 ≤ t) (h : grabP s = gP x e ca ce t c o i r) :
    ∃ T2, FrV T2 (tbP n).n a (envP ca ce c i) ∧ WV (tbP n) T0 w0 T2 w ⟨envP ca ce c i, memP x e o, 5⟩ := by
  unfold grabP gP at h
  simp only [Prod.mk.injEq] at h
  obtain ⟨h1, h2, h3, h7, h8, m0, m1, m2, m3, mo⟩ := h
  unfold outM at mo
  rw [h7] at mo
  simp only at mo
  have r3 : renF 3 s.nt [3, t] 3 = 3 := rfl
  have r4 : renF 3 s.nt [3, t] 4 = t := rfl
  suffices hc : ∃ T2, FrV T2 (tbP n).n a (envP ca ce c i) ∧ WV (tbP n) T0 w0 T2 w ⟨envP ca ce c i, memP x e o, 5⟩ ∧ ∀ t, ∃ t', T2 t = T t' by
    obtain ⟨T2, g1, g2, _⟩ := hc
    exact ⟨T2, g1, g2⟩
  refine hw.canon (s2 := ⟨envP ca ce c i, memP x e o, 5⟩) hf hT0 [3, t] rfl (fun u hu => ?_) ?_ (fun j v hj => ?_) (fun j l hj => ?_)
  · simp only [List.mem_cons, List.not_mem_nil, or_false] at hu
    rcases hu with rfl | rfl
    · exact Nat.le_refl 3
    · show 3 ≤ u; omega
  · simp; omega
  · rcases lkp5 hj with ⟨rfl, rfl⟩ | ⟨rfl, rfl⟩ | ⟨rfl, rfl⟩ | ⟨rfl, rfl⟩ | ⟨rfl, rfl⟩
    · exact ⟨_, rfl, h8⟩
    · exact ⟨_, rfl, h7⟩
    · exact ⟨_, rfl, h3⟩
    · exact ⟨_, rfl, h1⟩
    · exact ⟨_, rfl, h2⟩
  · rcases lkpM5 hj with ⟨rfl, rfl⟩ | ⟨rfl, rfl⟩ | ⟨rfl, rfl⟩ | ⟨rfl, rfl⟩ | ⟨rfl, rfl⟩
    · exact ⟨r, mo⟩
    · exact ⟨[], m3⟩
    · exact ⟨[], m0⟩
    · exact ⟨[], m1⟩
    · exact ⟨[], m2⟩

set_option maxRecDepth 100000 in
theorem run_exit (x e ca ce c o : Nat) (G : Xt → GP → Prop) :
    exC2 (tbP Try.f37.ntmps) (qL (Try.f37.body.getD .skip)) ⟨envP ca ce c (-1), memP x e o, 5⟩ (fun y s => G y (grabP s)) = G (.exit 0) (gP x e ca ce 4 c o (-1) []) := by
  kernel_rfl
set_option maxRecDepth 100000 in
theorem run_tail (x e ca ce c o : Nat) (K : V → Mem → Nat → Prop) :
    exC2 (tbP Try.f37.ntmps) (qT (Try.f37.body.getD .skip)) ⟨envP ca ce c (-1), memP x e o, 5⟩ (endK (tbP Try.f37.ntmps) Try.f37.results.toList K) = K (.s (.sl 4 0 7 c)) (memP x e o) 5 := by
  kernel_rfl

/-- The loop, from k rounds to go. -/
def invP (T0 : Tg) (w0 : World) (n x e ca ce : Nat) : Nat → Act → World → Prop := fun m a w => ∃ k c o T, m = k + 1 ∧ k ≤ 224 ∧ FrV T (tbP n).n a (envP ca ce c ((k : Int) - 1)) ∧ WV (tbP n) T0 w0 T w ⟨envP ca ce c ((k : Int) - 1), memP x e o, 5⟩ ∧ o = x ^ (e / 2 ^ k) % 26959946667150639794667015087019630673557916260026308143510066298881 ∧ (k = 224 ∨ c = 14)

theorem loopP {Q : Exit → Act → World → Prop} {T0 : Tg} {w0 : World} {x e ca ce : Nat} (hT0 : ∀ t, 3 ≤ t → T0 t = none) (hP : PanicOk Q)
    (hQ : ∀ a w T o, FrV T (tbP Try.f37.ntmps).n a (envP ca ce 14 (-1)) → WV (tbP Try.f37.ntmps) T0 w0 T w ⟨envP ca ce 14 (-1), memP x e o, 5⟩ → o = x ^ e % 26959946667150639794667015087019630673557916260026308143510066298881 → Q (.exit 0) a w) :
    ∀ m a w, invP T0 w0 Try.f37.ntmps x e ca ce m a w → (Code.loop (qL (Try.f37.body.getD .skip))).wp Try.prog Q a w := by
  refine wp_loop_n _ (fun a w ⟨k, _, _, _, h, _⟩ => by omega) fun n a w ⟨k, c, o, T, hk, hle, hf, hw, ho, hc⟩ => ?_
  have hkn : n = k := by omega
  subst hkn
  have hP' : PanicOk (Exit.then (invP T0 w0 Try.f37.ntmps x e ca ce n) Q) := fun ch a d v w h => hP ch a d v w h
  cases n with
  | zero =>
    have hc : c = 14 := by rcases hc with h | h
                           · omega
                           · exact h
    subst hc
    refine exC2_ok tbP_ok _ ⟨envP ca ce 14 (-1), memP x e o, 5⟩ (fun y s => y = .exit 0 ∧ grabP s = gP x e ca ce 4 14 o (-1) []) _ a w T hf hw (Eq.mpr (run_exit x e ca ce 14 o (fun y g => y = .exit 0 ∧ g = gP x e ca ce 4 14 o (-1) [])) ⟨rfl, rfl⟩) hP' fun y s' a' w' T' hf' hw' hk' => ?_
    obtain ⟨rfl, hg⟩ := hk'
    obtain ⟨T2, g1, g2⟩ := canonP hf' hw' hT0 (Nat.le_refl 4) hg
    exact hQ a' w' T2 o g1 g2 (by rw [ho]; simp)
  | succ j =>
    have ei : (((j + 1 : Nat) : Int)) - 1 = (j : Int) - 0 := by omega
    rw [ei] at hf hw
    have hr := rk_get rk224 (show j < 224 by omega) x e ca ce c o
    have h2 := pow_step x e j 26959946667150639794667015087019630673557916260026308143510066298881
    have h3 := half_step e j
    refine exC2_ok tbP_ok _ ⟨envP ca ce c ((j : Int) - 0), memP x e o, 5⟩ (fun y s => y = .normal ∧ ∃ t o', grabP s = gP x e ca ce t 14 o' ((j : Int) - 1) [] ∧ 4 ≤ t ∧ o' = x ^ (e / 2 ^ j) % 26959946667150639794667015087019630673557916260026308143510066298881) _ a w T hf hw
      (Eq.mpr (hr (fun y g => y = .normal ∧ ∃ t o', g = gP x e ca ce t 14 o' ((j : Int) - 1) [] ∧ 4 ≤ t ∧ o' = x ^ (e / 2 ^ j) % 26959946667150639794667015087019630673557916260026308143510066298881))
        (bitL_ok (fun hb => ⟨rfl, 6, _, rfl, by omega, ?_⟩) (fun hb => ⟨rfl, 5, _, rfl, by omega, ?_⟩))) hP' fun y s' a' w' T' hf' hw' hk' => ?_
    · rw [h3, hb, Nat.pow_succ]
      unfold timesN
      rw [ho, h2, Nat.mod_mul_mod]
    · rw [h3, hb, Nat.add_zero]
      unfold timesN
      rw [ho, h2]
    · obtain ⟨rfl, t, o', hg, ht, ho'⟩ := hk'
      obtain ⟨T2, g1, g2⟩ := canonP hf' hw' hT0 ht hg
      exact ⟨j, 14, o', T2, rfl, by omega, g1, g2, ho', .inr rfl⟩

theorem kPow_ok : KSOk Try.prog 37 kPow where
  enter := enter_in Try.func37 (by kernel_rfl) (by kernel_rfl)
  run := by
    intro wr T w m nt args xs K h hm hx hfree hwr
    simp only [kPow] at h
    split at h
    · rename_i c u v
      obtain ⟨tf, hcv, h1⟩ := obind_some h
      clear h
      obtain ⟨x, e1, h2⟩ := obind_some h1
      clear h1
      obtain ⟨e, e2, h3⟩ := obind_some h2
      clear h2
      obtain ⟨hfd, h⟩ := onb_true h3
      clear h3
      obtain ⟨x1, x2, x3, rfl, hv0, hv1, hv2⟩ := vsr3 hx
      rw [cvT_eq hcv] at hv0
      obtain ⟨bf, hbf, hRf⟩ := cv_R hv0
      obtain ⟨hx1, b1, c1, rfl, hl1, hR1⟩ := rdW7_ok hm hv1 e1
      obtain ⟨hx2, b2, c2, rfl, hl2, hR2⟩ := rdW7_ok hm hv2 e2
      obtain ⟨k1, k2⟩ := hR1 (tgs [⟨b1.blk, b1.off, 0⟩, ⟨b2.blk, b2.off, 0⟩, ⟨bf.blk, bf.off, 0⟩]) 0 0 rfl
      obtain ⟨k3, k4⟩ := hR2 (tgs [⟨b1.blk, b1.off, 0⟩, ⟨b2.blk, b2.off, 0⟩, ⟨bf.blk, bf.off, 0⟩]) 1 0 rfl
      have hT0 : ∀ t, 3 ≤ t → tgs [⟨b1.blk, b1.off, 0⟩, ⟨b2.blk, b2.off, 0⟩, ⟨bf.blk, bf.off, 0⟩] t = none := fun i hi => tgs_none hi
      refine (run_calls2 (B := tbP Try.f37.ntmps) tbP_ok Try.func37 (c := Try.f37.body.getD .skip) (by kernel_rfl) rfl (args := [cv 2, .s (.sl 0 0 7 c1), .s (.sl 1 0 7 c2)]) (Nat.le_of_ble_eq_true (by kernel_rfl))
          (mok_bin (b1 := ⟨b1.blk, b1.off, 0⟩) (b2 := ⟨b2.blk, b2.off, 0⟩) (b3 := ⟨bf.blk, bf.off, 0⟩) hl1 hl2 (hm.lt tf bf hbf) (fun i hi => by
            have hcs : i = 0 ∨ i = 1 ∨ i = 2 := by omega
            rcases hcs with rfl | rfl | rfl <;> rfl) k1 k3 (fd_ok hm hfd hbf (f := 0) rfl)) (vs3 (hRf _ 2 0 rfl) k2 k4) hT0
          (fun v m' _ => NewG 4 7 14 [.w7 (x ^ e % 26959946667150639794667015087019630673557916260026308143510066298881)] v (lkp m' 4)) fun a Q hf hw hP hN => ?_).mono fun e w' hh => ?_
      · rw [pB_eq]
        have h012 : exC2 (tbP Try.f37.ntmps) (.seq (q0 (Try.f37.body.getD .skip)) (.seq (q1 (Try.f37.body.getD .skip)) (q2 (Try.f37.body.getD .skip)))) ⟨entryV [cv 2, .s (.sl 0 0 7 c1), .s (.sl 1 0 7 c2)] 0, [(0, [.w7 x]), (1, [.w7 e]), (2, foldsC)], 3⟩ (fun y s => y = .normal ∧ grabP s = gP x e c1 c2 4 7 1 223 []) :=
          Eq.mpr (run_p012 x e c1 c2 (fun y g => y = .normal ∧ g = gP x e c1 c2 4 7 1 223 [])) ⟨rfl, rfl⟩
        refine wp_pre3 (H := fun s => grabP s = gP x e c1 c2 4 7 1 223 []) tbP_ok hf hw hP h012 fun s' a' w' T' hf' hw' hg => ?_
        obtain ⟨T2, g1, g2⟩ := canonP hf' hw' hT0 (Nat.le_refl 4) hg
        refine wp_block (loopP (Q := Exit.inBlock 0 (Exit.then ((qT (Try.f37.body.getD .skip)).wp Try.prog Q) Q)) hT0 (fun ch a d v w h => hP ch a d v w h) (fun a4 w4 T4 o hf4 hw4 ho => ?_) 225 a' w' ⟨224, 7, 1, T2, rfl, Nat.le_refl _, g1, g2, ?_, .inl rfl⟩)
        · show (qT (Try.f37.body.getD .skip)).wp Try.prog Q a4 w4
          refine exC2_ok tbP_ok _ ⟨envP c1 c2 14 (-1), memP x e o, 5⟩ _ Q a4 w4 T4 hf4 hw4 (Eq.mpr (run_tail x e c1 c2 14 o _) ?_) hP hN
          have hlt := Nat.mod_lt (x ^ e) (show 0 < 26959946667150639794667015087019630673557916260026308143510066298881 by omega)
          rw [ho]
          exact new_w7 (by omega)
        · have e0 : e / 2 ^ 224 = 0 := Nat.div_eq_of_lt (by
            have e1 : 2 ^ 224 = 26959946667150639794667015087019630673637144422540572481103610249216 := by decide
            rw [e1]; exact hx2)
          rw [e0, Nat.pow_zero]
      · obtain ⟨y, T', v, m', nt', rfl, hL⟩ := hh
        obtain ⟨rfl, q, hq, hconv⟩ := hL.post
        obtain ⟨b, hb, hy⟩ := vr_s hL.val
        obtain ⟨T'', g1, g2, g3, g4, g5⟩ := lift_new hm (fun k _ => hfree (nt + k) (by omega)) hL rfl (hT0 4 (by omega)) hb hq (hconv T T')
        exact KEnd.of (v := .s (.sl nt 0 7 14)) (fr := [[.w7 (x ^ e % 26959946667150639794667015087019630673557916260026308143510066298881)]]) ⟨T'', y, g1, rfl, by rw [V.R]; exact ⟨b, g2, hy⟩, g3, g4, g5⟩ hfree (h _ rfl)
    · exact h.elim

end Go.Proofs.Ytdaheccfeihpgaa.Nm

/-
  The inverse: its contract.
-/
namespace Go.Proofs.Ytdaheccfeihpgaa.Nm
open Go Go.RowKit

def dsI : List (Nat × DSpec) := [(12, dPrime)]
theorem dsI_ok : ∀ f sp, lkp dsI f = some sp → DSOk Try.prog f sp := by
  intro f sp h
  rcases lkp_cons h with ⟨rfl, rfl⟩ | h
  · exact dPrime_ok
  · exact (lkp_nil h).elim
def ksV : List (Nat × KSpec) := [(52, kCar), (37, kPow)]
theorem ksV_ok : ∀ f sp, lkp ksV f = some sp → KSOk Try.prog f sp := by
  intro f sp h
  rcases lkp_cons h with ⟨rfl, rfl⟩ | h
  · exact kCar_ok
  rcases lkp_cons h with ⟨rfl, rfl⟩ | h
  · exact kPow_ok
  · exact (lkp_nil h).elim

/-- Two less than the prime. -/
theorem mok_un {wr : Nat → Bool} {w : World} {b1 b3 : Loc} {x : Nat} (h1 : b1.blk < w.heap.size) (h3 : b3.blk < w.heap.size) (hwr : ∀ i, i < 2 → wr i = false) (g1 : BlockOk (tgs [b1, b3]) w 0 [.w7 x]) (g3 : BlockOk (tgs [b1, b3]) w 1 foldsC) :
    MOk wr (tgs [b1, b3]) w [(0, [.w7 x]), (1, foldsC)] := by
  refine mok_tgs (fun b' h => ?_) (fun i hi => hwr i hi) fun t l h => ?_
  · simp only [List.mem_cons, List.not_mem_nil, or_false] at h
    rcases h with rfl | rfl
    · exact h1
    · exact h3
  · rcases lkp_cons h with ⟨rfl, rfl⟩ | h
    · exact g1
    rcases lkp_cons h with ⟨rfl, rfl⟩ | h
    · exact g3
    · exact (lkp_nil h).elim

end Go.Proofs.Ytdaheccfeihpgaa.Nm

