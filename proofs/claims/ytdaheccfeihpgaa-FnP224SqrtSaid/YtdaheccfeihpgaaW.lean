import Derived.Test.YtdaheccfeihpgaaV
/-
  The square root: its rounds.
-/
/-
  The candidate for a square root: its rounds, one by one.
-/
namespace Go.Proofs.Ytdaheccfeihpgaa.Nm
open Go Go.RowKit

/-- The round of the loop. -/
def lpC : Code → Code
  | .loop b => b
  | c => c
def bkC : Code → Code
  | .block _ b => b
  | c => c
def qS (c : Code) : Code := lpC (bkC (dropC 33 c))
theorem sq_blk : dropC 31 (dropC 2 sqB) = .block 16 (.loop (qS sqB)) := by kernel_rfl

def gQ (g : Nat → F) : List Pc := (List.range 96).map fun i => .fi (g i)
def envS (i : Int) : Env := [(17, .s (.lit .i64 i)), (4, .s (.p 2 0)), (6, .s (.p 3 0)), (15, .s (.p 4 0)), (16, .s (.p 5 0)), (0, .s (.p 0 0))]
def memS (g : Nat → F) (r t v m1 : F) : Mem := [(2, gQ g), (3, [.fi t]), (4, [.fi v]), (5, [.fi m1]), (0, [.fi r])]
abbrev GS := Option V × Option V × Option V × Option V × Option V × Option V × Option (List Pc) × Option (List Pc) × Option (List Pc) × Option (List Pc) × Option (List Pc)
def grabS (s : SS) : GS := (lkp s.env 17, lkp s.env 4, lkp s.env 6, lkp s.env 15, lkp s.env 16, lkp s.env 0, lkp s.m 2, lkp s.m 3, lkp s.m 4, lkp s.m 5, lkp s.m 0)
def gS (i : Int) (g : Nat → F) (r t v m1 : F) : GS := (some (.s (.lit .i64 i)), some (.s (.p 2 0)), some (.s (.p 3 0)), some (.s (.p 4 0)), some (.s (.p 5 0)), some (.s (.p 0 0)), some (gQ g), some [.fi t], some [.fi v], some [.fi m1], some [.fi r])

/-- n squarings. -/
def sqQ : Nat → F → (F → Prop) → Prop
  | 0, v, K => K v
  | n + 1, v, K => ∀ z, z = v * v → sqQ n z K

def roundS (n : Nat) : Prop := ∀ (g : Nat → F) (r t v m1 : F) (G : Xt → GS → Prop), exC2 tbSq (qS sqB) ⟨envS ((n : Int) + 1), memS g r t v m1, 6⟩ (fun y s => G y (grabS s)) =
  sqQ n v fun w => (w = m1 → ∀ z, z = v * g (95 - n) → ∀ y, y = r * g (94 - n) → G .normal (gS n g y y z m1)) ∧ (¬ w = m1 → ∀ z, z = v * g (95 - n) → ∀ y, y = r * g (94 - n) → G .normal (gS n g r y v m1))

def rS : Nat → Prop
  | 0 => True
  | n + 1 => rS n ∧ roundS n

set_option maxRecDepth 1000000
theorem rS0 : rS 0 := trivial
theorem rS1 : rS 1 := ⟨rS0, fun _ _ _ _ _ _ => by kernel_rfl⟩
theorem rS2 : rS 2 := ⟨rS1, fun _ _ _ _ _ _ => by kernel_rfl⟩
theorem rS3 : rS 3 := ⟨rS2, fun _ _ _ _ _ _ => by kernel_rfl⟩
theorem rS4 : rS 4 := ⟨rS3, fun _ _ _ _ _ _ => by kernel_rfl⟩
theorem rS5 : rS 5 := ⟨rS4, fun _ _ _ _ _ _ => by kernel_rfl⟩
theorem rS6 : rS 6 := ⟨rS5, fun _ _ _ _ _ _ => by kernel_rfl⟩
theorem rS7 : rS 7 := ⟨rS6, fun _ _ _ _ _ _ => by kernel_rfl⟩
theorem rS8 : rS 8 := ⟨rS7, fun _ _ _ _ _ _ => by kernel_rfl⟩
theorem rS9 : rS 9 := ⟨rS8, fun _ _ _ _ _ _ => by kernel_rfl⟩
theorem rS10 : rS 10 := ⟨rS9, fun _ _ _ _ _ _ => by kernel_rfl⟩
theorem rS11 : rS 11 := ⟨rS10, fun _ _ _ _ _ _ => by kernel_rfl⟩
theorem rS12 : rS 12 := ⟨rS11, fun _ _ _ _ _ _ => by kernel_rfl⟩
theorem rS13 : rS 13 := ⟨rS12, fun _ _ _ _ _ _ => by kernel_rfl⟩
theorem rS14 : rS 14 := ⟨rS13, fun _ _ _ _ _ _ => by kernel_rfl⟩
theorem rS15 : rS 15 := ⟨rS14, fun _ _ _ _ _ _ => by kernel_rfl⟩
theorem rS16 : rS 16 := ⟨rS15, fun _ _ _ _ _ _ => by kernel_rfl⟩
theorem rS17 : rS 17 := ⟨rS16, fun _ _ _ _ _ _ => by kernel_rfl⟩
theorem rS18 : rS 18 := ⟨rS17, fun _ _ _ _ _ _ => by kernel_rfl⟩
theorem rS19 : rS 19 := ⟨rS18, fun _ _ _ _ _ _ => by kernel_rfl⟩
theorem rS20 : rS 20 := ⟨rS19, fun _ _ _ _ _ _ => by kernel_rfl⟩
theorem rS21 : rS 21 := ⟨rS20, fun _ _ _ _ _ _ => by kernel_rfl⟩
theorem rS22 : rS 22 := ⟨rS21, fun _ _ _ _ _ _ => by kernel_rfl⟩
theorem rS23 : rS 23 := ⟨rS22, fun _ _ _ _ _ _ => by kernel_rfl⟩
theorem rS24 : rS 24 := ⟨rS23, fun _ _ _ _ _ _ => by kernel_rfl⟩
theorem rS25 : rS 25 := ⟨rS24, fun _ _ _ _ _ _ => by kernel_rfl⟩
theorem rS26 : rS 26 := ⟨rS25, fun _ _ _ _ _ _ => by kernel_rfl⟩
theorem rS27 : rS 27 := ⟨rS26, fun _ _ _ _ _ _ => by kernel_rfl⟩
theorem rS28 : rS 28 := ⟨rS27, fun _ _ _ _ _ _ => by kernel_rfl⟩
theorem rS29 : rS 29 := ⟨rS28, fun _ _ _ _ _ _ => by kernel_rfl⟩
theorem rS30 : rS 30 := ⟨rS29, fun _ _ _ _ _ _ => by kernel_rfl⟩
theorem rS31 : rS 31 := ⟨rS30, fun _ _ _ _ _ _ => by kernel_rfl⟩
theorem rS32 : rS 32 := ⟨rS31, fun _ _ _ _ _ _ => by kernel_rfl⟩
theorem rS33 : rS 33 := ⟨rS32, fun _ _ _ _ _ _ => by kernel_rfl⟩
theorem rS34 : rS 34 := ⟨rS33, fun _ _ _ _ _ _ => by kernel_rfl⟩
theorem rS35 : rS 35 := ⟨rS34, fun _ _ _ _ _ _ => by kernel_rfl⟩
theorem rS36 : rS 36 := ⟨rS35, fun _ _ _ _ _ _ => by kernel_rfl⟩
theorem rS37 : rS 37 := ⟨rS36, fun _ _ _ _ _ _ => by kernel_rfl⟩
theorem rS38 : rS 38 := ⟨rS37, fun _ _ _ _ _ _ => by kernel_rfl⟩
theorem rS39 : rS 39 := ⟨rS38, fun _ _ _ _ _ _ => by kernel_rfl⟩
theorem rS40 : rS 40 := ⟨rS39, fun _ _ _ _ _ _ => by kernel_rfl⟩
theorem rS41 : rS 41 := ⟨rS40, fun _ _ _ _ _ _ => by kernel_rfl⟩
theorem rS42 : rS 42 := ⟨rS41, fun _ _ _ _ _ _ => by kernel_rfl⟩
theorem rS43 : rS 43 := ⟨rS42, fun _ _ _ _ _ _ => by kernel_rfl⟩
theorem rS44 : rS 44 := ⟨rS43, fun _ _ _ _ _ _ => by kernel_rfl⟩
theorem rS45 : rS 45 := ⟨rS44, fun _ _ _ _ _ _ => by kernel_rfl⟩
theorem rS46 : rS 46 := ⟨rS45, fun _ _ _ _ _ _ => by kernel_rfl⟩
theorem rS47 : rS 47 := ⟨rS46, fun _ _ _ _ _ _ => by kernel_rfl⟩
theorem rS48 : rS 48 := ⟨rS47, fun _ _ _ _ _ _ => by kernel_rfl⟩
theorem rS49 : rS 49 := ⟨rS48, fun _ _ _ _ _ _ => by kernel_rfl⟩
theorem rS50 : rS 50 := ⟨rS49, fun _ _ _ _ _ _ => by kernel_rfl⟩
theorem rS51 : rS 51 := ⟨rS50, fun _ _ _ _ _ _ => by kernel_rfl⟩
theorem rS52 : rS 52 := ⟨rS51, fun _ _ _ _ _ _ => by kernel_rfl⟩
theorem rS53 : rS 53 := ⟨rS52, fun _ _ _ _ _ _ => by kernel_rfl⟩
theorem rS54 : rS 54 := ⟨rS53, fun _ _ _ _ _ _ => by kernel_rfl⟩
theorem rS55 : rS 55 := ⟨rS54, fun _ _ _ _ _ _ => by kernel_rfl⟩
theorem rS56 : rS 56 := ⟨rS55, fun _ _ _ _ _ _ => by kernel_rfl⟩
theorem rS57 : rS 57 := ⟨rS56, fun _ _ _ _ _ _ => by kernel_rfl⟩
theorem rS58 : rS 58 := ⟨rS57, fun _ _ _ _ _ _ => by kernel_rfl⟩
theorem rS59 : rS 59 := ⟨rS58, fun _ _ _ _ _ _ => by kernel_rfl⟩
theorem rS60 : rS 60 := ⟨rS59, fun _ _ _ _ _ _ => by kernel_rfl⟩
theorem rS61 : rS 61 := ⟨rS60, fun _ _ _ _ _ _ => by kernel_rfl⟩
theorem rS62 : rS 62 := ⟨rS61, fun _ _ _ _ _ _ => by kernel_rfl⟩
theorem rS63 : rS 63 := ⟨rS62, fun _ _ _ _ _ _ => by kernel_rfl⟩
theorem rS64 : rS 64 := ⟨rS63, fun _ _ _ _ _ _ => by kernel_rfl⟩
theorem rS65 : rS 65 := ⟨rS64, fun _ _ _ _ _ _ => by kernel_rfl⟩
theorem rS66 : rS 66 := ⟨rS65, fun _ _ _ _ _ _ => by kernel_rfl⟩
theorem rS67 : rS 67 := ⟨rS66, fun _ _ _ _ _ _ => by kernel_rfl⟩
theorem rS68 : rS 68 := ⟨rS67, fun _ _ _ _ _ _ => by kernel_rfl⟩
theorem rS69 : rS 69 := ⟨rS68, fun _ _ _ _ _ _ => by kernel_rfl⟩
theorem rS70 : rS 70 := ⟨rS69, fun _ _ _ _ _ _ => by kernel_rfl⟩
theorem rS71 : rS 71 := ⟨rS70, fun _ _ _ _ _ _ => by kernel_rfl⟩
theorem rS72 : rS 72 := ⟨rS71, fun _ _ _ _ _ _ => by kernel_rfl⟩
theorem rS73 : rS 73 := ⟨rS72, fun _ _ _ _ _ _ => by kernel_rfl⟩
theorem rS74 : rS 74 := ⟨rS73, fun _ _ _ _ _ _ => by kernel_rfl⟩
theorem rS75 : rS 75 := ⟨rS74, fun _ _ _ _ _ _ => by kernel_rfl⟩
theorem rS76 : rS 76 := ⟨rS75, fun _ _ _ _ _ _ => by kernel_rfl⟩
theorem rS77 : rS 77 := ⟨rS76, fun _ _ _ _ _ _ => by kernel_rfl⟩
theorem rS78 : rS 78 := ⟨rS77, fun _ _ _ _ _ _ => by kernel_rfl⟩
theorem rS79 : rS 79 := ⟨rS78, fun _ _ _ _ _ _ => by kernel_rfl⟩
theorem rS80 : rS 80 := ⟨rS79, fun _ _ _ _ _ _ => by kernel_rfl⟩
theorem rS81 : rS 81 := ⟨rS80, fun _ _ _ _ _ _ => by kernel_rfl⟩
theorem rS82 : rS 82 := ⟨rS81, fun _ _ _ _ _ _ => by kernel_rfl⟩
theorem rS83 : rS 83 := ⟨rS82, fun _ _ _ _ _ _ => by kernel_rfl⟩
theorem rS84 : rS 84 := ⟨rS83, fun _ _ _ _ _ _ => by kernel_rfl⟩
theorem rS85 : rS 85 := ⟨rS84, fun _ _ _ _ _ _ => by kernel_rfl⟩
theorem rS86 : rS 86 := ⟨rS85, fun _ _ _ _ _ _ => by kernel_rfl⟩
theorem rS87 : rS 87 := ⟨rS86, fun _ _ _ _ _ _ => by kernel_rfl⟩
theorem rS88 : rS 88 := ⟨rS87, fun _ _ _ _ _ _ => by kernel_rfl⟩
theorem rS89 : rS 89 := ⟨rS88, fun _ _ _ _ _ _ => by kernel_rfl⟩
theorem rS90 : rS 90 := ⟨rS89, fun _ _ _ _ _ _ => by kernel_rfl⟩
theorem rS91 : rS 91 := ⟨rS90, fun _ _ _ _ _ _ => by kernel_rfl⟩
theorem rS92 : rS 92 := ⟨rS91, fun _ _ _ _ _ _ => by kernel_rfl⟩
theorem rS93 : rS 93 := ⟨rS92, fun _ _ _ _ _ _ => by kernel_rfl⟩
theorem rS94 : rS 94 := ⟨rS93, fun _ _ _ _ _ _ => by kernel_rfl⟩
theorem rS95 : rS 95 := ⟨rS94, fun _ _ _ _ _ _ => by kernel_rfl⟩

theorem rS_get : ∀ {n k : Nat}, rS n → k < n → roundS k
  | 0, _, _, h => by omega
  | n + 1, k, h, hk => by
    by_cases e : k = n
    · subst e; exact h.2
    · exact rS_get h.1 (by omega)

theorem run_sExit (g : Nat → F) (r t v m1 : F) (G : Xt → GS → Prop) : exC2 tbSq (qS sqB) ⟨envS 0, memS g r t v m1, 6⟩ (fun y s => G y (grabS s)) = G (.exit 16) (gS 0 g r t v m1) := by
  kernel_rfl

end Go.Proofs.Ytdaheccfeihpgaa.Nm

