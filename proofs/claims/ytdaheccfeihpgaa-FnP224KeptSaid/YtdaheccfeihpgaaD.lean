import Derived.Laws.CopyRow
import Derived.Deep.MidRow
import Derived.Laws.Closers25b
import Derived.Laws.Strings
import Derived.Test.YtdaheccfeihpgaaB
import Derived.Test.YtdaheccfeihpgaaA
/-
  A run on memory of a known shape: values and operations.
-/
namespace Go.Proofs.Ytdaheccfeihpgaa.Nm
theorem pp_eq : pp = p224 := rfl
theorem pp_pos : 0 < pp := by decide
def Ri : Nat := 6277101733925179126504886505003981583349178936664977833984
theorem R_Ri : R4 * Ri % pp = 1 := by decide +kernel

theorem cancelR {a b : Nat} (h : a * R4 % pp = b * R4 % pp) : a % pp = b % pp := by
  have e : ∀ c : Nat, c % pp = (c * R4 % pp) * Ri % pp := by
    intro c
    rw [Nat.mod_mul_mod, Nat.mul_assoc, ← Nat.mul_mod_mod, R_Ri, Nat.mul_one]
  rw [e a, e b, h]

/-- A number of the field as the program keeps it. -/
def mont (v : F) : Nat := v.val * R4 % pp
def n0 (m : Nat) : Nat := m % 18446744073709551616
def n1 (m : Nat) : Nat := m / 18446744073709551616 % 18446744073709551616
def n2 (m : Nat) : Nat := m / 340282366920938463463374607431768211456 % 18446744073709551616
def n3 (m : Nat) : Nat := m / 6277101735386680763835789423207666416102355444464034512896 % 18446744073709551616

theorem mont_lt (v : F) : mont v < pp := Nat.mod_lt _ pp_pos
theorem n0_lt (m : Nat) : n0 m < 18446744073709551616 := Nat.mod_lt _ (by decide)
theorem n1_lt (m : Nat) : n1 m < 18446744073709551616 := Nat.mod_lt _ (by decide)
theorem n2_lt (m : Nat) : n2 m < 18446744073709551616 := Nat.mod_lt _ (by decide)
theorem n3_lt (m : Nat) : n3 m < 18446744073709551616 := Nat.mod_lt _ (by decide)

theorem ev4_n {m : Nat} (h : m < pp) : ev4 (n0 m) (n1 m) (n2 m) (n3 m) = m := by
  unfold pp at h
  unfold ev4 n0 n1 n2 n3
  omega

theorem n_of {m a b c d : Nat} (ha : a < 18446744073709551616) (hb : b < 18446744073709551616) (hc : c < 18446744073709551616) (hd : d < 18446744073709551616) (h : ev4 a b c d = m) :
    a = n0 m ∧ b = n1 m ∧ c = n2 m ∧ d = n3 m := by
  unfold n0 n1 n2 n3
  rw [← h]
  unfold ev4
  refine ⟨by omega, by omega, by omega, by omega⟩

theorem val_mul' (x y : F) : (x * y).val = x.val * y.val % pp := Fin.val_mul x y
theorem val_add' (x y : F) : (x + y).val = (x.val + y.val) % pp := Fin.val_add x y

theorem mont_mul {x y : F} {z : Nat} (hz : z < pp) (h : z * R4 % pp = mont x * mont y % pp) : z = mont (x * y) := by
  have h1 : z * R4 % pp = (x.val * y.val * R4) * R4 % pp := by
    rw [h]
    unfold mont
    rw [← Nat.mul_mod, Nat.mul_mul_mul_comm, Nat.mul_assoc (x.val * y.val)]
  have h2 := cancelR h1
  rw [Nat.mod_eq_of_lt hz] at h2
  rw [h2]
  unfold mont
  rw [val_mul', Nat.mod_mul_mod]

theorem mont_add {x y : F} {z : Nat} (h : z = (mont x + mont y) % pp) : z = mont (x + y) := by
  rw [h]
  unfold mont
  rw [← Nat.add_mod, ← Nat.add_mul, val_add', Nat.mod_mul_mod]

theorem mont_sub {x y : F} {z : Nat} (hz : z < pp) (h : (z + mont y) % pp = mont x) : z = mont (x - y) := by
  have h1 : (mont (x - y) + mont y) % pp = mont x := by
    have e : x - y + y = x := by grind
    have := mont_add (x := x - y) (y := y) rfl
    rw [e] at this
    exact this
  have h2 := mont_lt (x - y)
  have h3 := mont_lt y
  rw [← h1] at h
  generalize mont (x - y) = a at *
  generalize mont y = b at *
  have e1 : ∀ c, c < pp → (c + b) % pp = if c + b < pp then c + b else c + b - pp := by
    intro c hc
    split
    · rename_i hlt; exact Nat.mod_eq_of_lt hlt
    · rename_i hge
      rw [Nat.mod_eq_sub_mod (by omega), Nat.mod_eq_of_lt (by omega)]
  rw [e1 z hz, e1 a h2] at h
  split at h <;> split at h <;> omega

theorem mont_to {z a : Nat} (hz : z < pp) (ha : a < pp) (h : z * R4 % pp = a * ev4 18446744069414584321 18446744069414584320 18446744065119617024 4294967295 % pp) : z = mont ⟨a, ha⟩ := by
  have h1 : z * R4 % pp = (a * R4) * R4 % pp := by
    rw [h, Nat.mul_assoc]
    have e : R4 * R4 % pp = ev4 18446744069414584321 18446744069414584320 18446744065119617024 4294967295 % pp := by decide +kernel
    rw [← Nat.mul_mod_mod, ← e, Nat.mul_mod_mod]
  have h2 := cancelR h1
  rw [Nat.mod_eq_of_lt hz] at h2
  rw [h2]
  rfl

theorem mont_from {z : Nat} {x : F} (hz : z < pp) (h : z * R4 % pp = mont x % pp) : z = x.val := by
  unfold mont at h
  rw [Nat.mod_mod] at h
  have h2 := cancelR h
  rw [Nat.mod_eq_of_lt hz, Nat.mod_eq_of_lt (by rw [pp_eq]; exact x.isLt)] at h2
  exact h2

theorem mont_zero : mont 0 = 0 := by decide +kernel
theorem mont_one : mont 1 = 340282366920938463463374607427473244160 := by decide +kernel
/-- The digits to the base of 256. -/
def dig (m k : Nat) : Nat := m / 256 ^ k % 256

theorem dig_lt (m k : Nat) : dig m k < 256 := Nat.mod_lt _ (by decide)

theorem le_dig : ∀ (l : List Nat) (k : Nat), (∀ b ∈ l, b < 256) → k < l.length → l.getD k 0 = dig (le l) k := by
  intro l
  induction l with
  | nil => intro k _ h; simp at h
  | cons b r ih =>
    intro k hb hk
    have hb0 : b < 256 := hb b (by simp)
    cases k with
    | zero => simp only [List.getD_cons_zero, dig, le, Nat.pow_zero, Nat.div_one]; omega
    | succ k =>
      rw [List.getD_cons_succ, ih k (fun c hc => hb c (by simp [hc])) (by simpa using hk)]
      simp only [dig, le]
      rw [Nat.pow_succ, Nat.mul_comm (256 ^ k), ← Nat.div_div_eq_div_mul]
      congr 2
      omega

theorem le_digs {l : List Nat} {n : Nat} (hb : ∀ b ∈ l, b < 256) (hn : l.length = n) : l = (List.range n).map (dig (le l)) := by
  apply List.ext_getElem
  · simp [hn]
  · intro i h1 h2
    have := le_dig l i hb h1
    rw [List.getD_eq_getElem?_getD, List.getElem?_eq_getElem h1, Option.getD_some] at this
    simpa using this

theorem le_lt : ∀ (l : List Nat), (∀ b ∈ l, b < 256) → le l < 256 ^ l.length := by
  intro l
  induction l with
  | nil => intro _; simp [le]
  | cons b r ih =>
    intro hb
    have h1 := ih (fun c hc => hb c (by simp [hc]))
    have h2 : b < 256 := hb b (by simp)
    simp only [le, List.length_cons, Nat.pow_succ]
    omega

theorem le_of_digs (m : Nat) : ∀ n k, le ((List.range' k n).map (dig m)) = m / 256 ^ k % 256 ^ n := by
  intro n
  induction n with
  | zero => intro k; simp [le, Nat.mod_one]
  | succ n ih =>
    intro k
    rw [List.range'_succ, List.map_cons, le, ih, dig]
    rw [Nat.pow_succ 256 k, ← Nat.div_div_eq_div_mul, Nat.pow_succ 256 n, Nat.mul_comm (256 ^ n)]
    rw [Nat.mod_mul]
end Go.Proofs.Ytdaheccfeihpgaa.Nm

/-
  A run of code whose memory has a known shape: the values, what they stand for, and the memory.
-/
namespace Go.Proofs.Ytdaheccfeihpgaa.Nm
open Go Go.RowKit

/-- A value of one cell: a known number, a number, a known truth value, a truth value, an address (which block, which place), no address, a slice, a slice with a room that is not known, a slice of some length, one of which only the length is told, no slice, an error, no error, another constant. -/
inductive Sc where
  | lit (k : IntKind) (n : Int)
  | sym (k : IntKind) (n : Int)
  | bl (b : Bool)
  | bs (b : Bool)
  | p (t o : Nat)
  | np
  | sl (t o l c : Nat)
  | slu (t o l : Nat)
  | slv (t n : Nat)
  | slx (n : Nat)
  | snil
  | ifc (ty t : Nat)
  | nif
  | val (v : Value)

/-- Word i (of 32 bits) of a number. -/
def wd (i n : Nat) : Nat := n / 4294967296 ^ i % 4294967296

/-- Parts of a block: one cell, the seven words of a number, an element of the field, four words of a number, 28 bytes. -/
inductive Pc where
  | c (s : Sc)
  | w7 (n : Nat)
  | fi (v : F)
  | w4 (n : Nat)
  | bt (bs : List Nat)

inductive V where
  | s (x : Sc)
  | agg (l : List Pc)
  | tup (l : List V)

/-- Where a tag lies: the block, the first place, the end of the slice's room. -/
structure Loc where
  blk : Nat
  off : Nat
  fin : Nat
abbrev Tg := Nat → Option Loc
def Tg.le (T T' : Tg) : Prop := ∀ t b, T t = some b → T' t = some b
/-- A tag that may be written shares its block with no other. -/
def Tg.sep (wr : Nat → Bool) (T : Tg) : Prop := ∀ t t' b b', wr t = true → T t = some b → T t' = some b' → b.blk = b'.blk → t = t'

theorem Tg.le_refl (T : Tg) : T.le T := fun _ _ h => h
theorem Tg.le_trans {T T' T'' : Tg} (h : T.le T') (h' : T'.le T'') : T.le T'' := fun t b e => h' t b (h t b e)

def Sc.R (T : Tg) : Sc → Value → Prop
  | lit k n, x => x = .int k n ∧ k.wrap n = n
  | sym k n, x => x = .int k n ∧ k.wrap n = n
  | bl b, x => x = .bool b
  | bs b, x => x = .bool b
  | p t o, x => ∃ b, T t = some b ∧ x = .pointer (some ⟨b.blk, b.off + o, none⟩)
  | np, x => x = .pointer none
  | sl t o l c, x => ∃ b, T t = some b ∧ x = .slice (some ⟨b.blk, b.off + o, none⟩) l c
  | slu t o l, x => ∃ b, T t = some b ∧ x = .slice (some ⟨b.blk, b.off + o, none⟩) l (b.fin - (b.off + o)) ∧ b.off + o + l ≤ b.fin
  | slv t n, x => ∃ b, T t = some b ∧ ∃ c, x = .slice (some ⟨b.blk, b.off, none⟩) n c ∧ n < 9223372036854775808
  | slx n, x => ∃ p c, x = .slice p n c ∧ n < 9223372036854775808
  | snil, x => x = .slice none 0 0
  | ifc ty t, x => ∃ b, T t = some b ∧ x = .iface ty (.pointer (some ⟨b.blk, b.off, none⟩))
  | nif, x => x = .nilIface
  | val v, x => x = v ∧ v.oneCell' = true

theorem Sc.R.mono {T T' : Tg} (h : T.le T') {s : Sc} {x : Value} (hs : s.R T x) : s.R T' x := by
  cases s <;> first | exact hs | (obtain ⟨b, hb, hx⟩ := hs; exact ⟨b, h _ _ hb, hx⟩)

theorem Sc.R.one {T : Tg} {s : Sc} {x : Value} (hs : s.R T x) : x.oneCell' = true ∧ x.cells = #[x] := by
  have aux : ∀ v : Value, v.oneCell' = true → v.cells = #[v] := by intro v hv; cases v <;> first | rfl | cases hv
  cases s
  case val => obtain ⟨rfl, h⟩ := hs; exact ⟨h, aux _ h⟩
  case lit => obtain ⟨rfl, _⟩ := hs; exact ⟨rfl, rfl⟩
  case sym => obtain ⟨rfl, _⟩ := hs; exact ⟨rfl, rfl⟩
  case bl => cases hs; exact ⟨rfl, rfl⟩
  case bs => cases hs; exact ⟨rfl, rfl⟩
  case p => obtain ⟨b, _, rfl⟩ := hs; exact ⟨rfl, rfl⟩
  case np => cases hs; exact ⟨rfl, rfl⟩
  case sl => obtain ⟨b, _, rfl⟩ := hs; exact ⟨rfl, rfl⟩
  case slu => obtain ⟨b, _, rfl, _⟩ := hs; exact ⟨rfl, rfl⟩
  case slv => obtain ⟨b, _, c, rfl, _⟩ := hs; exact ⟨rfl, rfl⟩
  case slx => obtain ⟨p, c, rfl, _⟩ := hs; exact ⟨rfl, rfl⟩
  case snil => cases hs; exact ⟨rfl, rfl⟩
  case ifc => obtain ⟨b, _, rfl⟩ := hs; exact ⟨rfl, rfl⟩
  case nif => cases hs; exact ⟨rfl, rfl⟩

/-- The cells of a part. -/
def Pc.cells : Pc → List Sc
  | c s => [s]
  | w7 n => [.sym .i64 (wd 0 n), .sym .i64 (wd 1 n), .sym .i64 (wd 2 n), .sym .i64 (wd 3 n), .sym .i64 (wd 4 n), .sym .i64 (wd 5 n), .sym .i64 (wd 6 n)]
  | fi v => [.sym .u64 (n0 (mont v)), .sym .u64 (n1 (mont v)), .sym .u64 (n2 (mont v)), .sym .u64 (n3 (mont v))]
  | w4 n => [.sym .u64 (n0 n), .sym .u64 (n1 n), .sym .u64 (n2 n), .sym .u64 (n3 n)]
  | bt bs => [.sym .u8 (bs.getD 0 0 : Nat), .sym .u8 (bs.getD 1 0 : Nat), .sym .u8 (bs.getD 2 0 : Nat), .sym .u8 (bs.getD 3 0 : Nat), .sym .u8 (bs.getD 4 0 : Nat), .sym .u8 (bs.getD 5 0 : Nat), .sym .u8 (bs.getD 6 0 : Nat), .sym .u8 (bs.getD 7 0 : Nat), .sym .u8 (bs.getD 8 0 : Nat), .sym .u8 (bs.getD 9 0 : Nat), .sym .u8 (bs.getD 10 0 : Nat), .sym .u8 (bs.getD 11 0 : Nat), .sym .u8 (bs.getD 12 0 : Nat), .sym .u8 (bs.getD 13 0 : Nat), .sym .u8 (bs.getD 14 0 : Nat), .sym .u8 (bs.getD 15 0 : Nat), .sym .u8 (bs.getD 16 0 : Nat), .sym .u8 (bs.getD 17 0 : Nat), .sym .u8 (bs.getD 18 0 : Nat), .sym .u8 (bs.getD 19 0 : Nat), .sym .u8 (bs.getD 20 0 : Nat), .sym .u8 (bs.getD 21 0 : Nat), .sym .u8 (bs.getD 22 0 : Nat), .sym .u8 (bs.getD 23 0 : Nat), .sym .u8 (bs.getD 24 0 : Nat), .sym .u8 (bs.getD 25 0 : Nat), .sym .u8 (bs.getD 26 0 : Nat), .sym .u8 (bs.getD 27 0 : Nat)]

def Pc.width : Pc → Nat
  | c _ => 1
  | w7 _ => 7
  | fi _ => 4
  | w4 _ => 4
  | bt _ => 28

theorem Pc.cells_length (p : Pc) : p.cells.length = p.width := by cases p <;> rfl

def flat : List Pc → List Sc
  | [] => []
  | p :: r => p.cells ++ flat r

theorem flat_append (a b : List Pc) : flat (a ++ b) = flat a ++ flat b := by
  induction a with
  | nil => rfl
  | cons p r ih => simp [flat, ih]

/-- A side condition that goes with a part: the number has seven words, the bytes are 28 bytes. -/
def Pc.good : Pc → Prop
  | c _ => True
  | w7 n => n < 26959946667150639794667015087019630673637144422540572481103610249216
  | fi _ => True
  | w4 n => n < 115792089237316195423570985008687907853269984665640564039457584007913129639936
  | bt bs => bs.length = 28 ∧ ∀ b ∈ bs, b < 256

/-- Cells for cells. -/
inductive CR (T : Tg) : List Sc → List Value → Prop where
  | nil : CR T [] []
  | cons {s x ss xs} : s.R T x → CR T ss xs → CR T (s :: ss) (x :: xs)

theorem CR.mono {T T' : Tg} (h : T.le T') {l : List Sc} {xs : List Value} (hl : CR T l xs) : CR T' l xs := by
  induction hl with
  | nil => exact .nil
  | cons a _ ih => exact .cons (a.mono h) ih

theorem CR.length {T : Tg} {l : List Sc} {xs : List Value} (h : CR T l xs) : xs.length = l.length := by
  induction h with
  | nil => rfl
  | cons _ _ ih => simp [ih]

theorem CR.append {T : Tg} {l l' : List Sc} {xs xs' : List Value} (h : CR T l xs) (h' : CR T l' xs') : CR T (l ++ l') (xs ++ xs') := by
  induction h with
  | nil => exact h'
  | cons a _ ih => exact .cons a ih

theorem CR.split {T : Tg} {l l' : List Sc} {xs : List Value} (h : CR T (l ++ l') xs) : ∃ ys zs, xs = ys ++ zs ∧ CR T l ys ∧ CR T l' zs := by
  induction l generalizing xs with
  | nil => exact ⟨[], xs, rfl, .nil, h⟩
  | cons s r ih =>
    cases h with
    | cons a b =>
      obtain ⟨ys, zs, rfl, h1, h2⟩ := ih b
      exact ⟨_ :: ys, zs, rfl, .cons a h1, h2⟩

theorem CR.get {T : Tg} {l : List Sc} {xs : List Value} (h : CR T l xs) {i : Nat} {s : Sc} (hi : l[i]? = some s) : ∃ x, xs[i]? = some x ∧ s.R T x := by
  induction h generalizing i with
  | nil => cases hi
  | @cons s' x' _ _ a _ ih =>
    cases i with
    | zero => simp only [List.getElem?_cons_zero, Option.some.injEq] at hi; subst hi; exact ⟨x', rfl, a⟩
    | succ i => simpa using ih (by simpa using hi)

theorem CR.set {T : Tg} {l : List Sc} {xs : List Value} (h : CR T l xs) {i : Nat} {s : Sc} {x : Value} (hs : s.R T x) : CR T (l.set i s) (xs.set i x) := by
  induction h generalizing i with
  | nil => exact .nil
  | cons a b ih =>
    cases i with
    | zero => exact .cons hs b
    | succ i => exact .cons a ih

theorem CR.one {T : Tg} {l : List Sc} {xs : List Value} (h : CR T l xs) : ∀ x ∈ xs, x.oneCell' = true := by
  induction h with
  | nil => intro x hx; cases hx
  | cons a _ ih =>
    intro x hx
    simp only [List.mem_cons] at hx
    rcases hx with rfl | hx
    · exact a.one.1
    · exact ih x hx

def goods (l : List Pc) : Prop := ∀ p ∈ l, p.good
theorem goods_append {a b : List Pc} : goods (a ++ b) ↔ goods a ∧ goods b := by
  unfold goods
  constructor
  · intro h; exact ⟨fun p hp => h p (by simp [hp]), fun p hp => h p (by simp [hp])⟩
  · rintro ⟨h1, h2⟩ p hp
    simp only [List.mem_append] at hp
    rcases hp with hp | hp
    · exact h1 p hp
    · exact h2 p hp

/-- Parts for cells. -/
def PR (T : Tg) (l : List Pc) (xs : List Value) : Prop := CR T (flat l) xs ∧ goods l

mutual
def V.R (T : Tg) : V → Value → Prop
  | .s y, x => y.R T x
  | .agg l, x => ∃ xs, x = .agg xs.toArray ∧ PR T l xs
  | .tup l, x => ∃ xs, x = .tuple xs.toArray ∧ VsR T l xs
def VsR (T : Tg) : List V → List Value → Prop
  | [], xs => xs = []
  | v :: r, xs => ∃ y ys, xs = y :: ys ∧ v.R T y ∧ VsR T r ys
end

theorem PR.mono {T T' : Tg} (h : T.le T') {l : List Pc} {xs : List Value} (hl : PR T l xs) : PR T' l xs := ⟨hl.1.mono h, hl.2⟩

mutual
theorem V.R.mono {T T' : Tg} (h : T.le T') : ∀ {v : V} {x : Value}, v.R T x → v.R T' x
  | .s y, x, hv => by rw [V.R] at hv ⊢; exact Sc.R.mono h hv
  | .agg l, x, hv => by
    rw [V.R] at hv ⊢
    obtain ⟨xs, e, hp⟩ := hv
    exact ⟨xs, e, hp.mono h⟩
  | .tup l, x, hv => by
    rw [V.R] at hv ⊢
    obtain ⟨xs, e, hp⟩ := hv
    exact ⟨xs, e, VsR.mono h hp⟩
theorem VsR.mono {T T' : Tg} (h : T.le T') : ∀ {l : List V} {xs : List Value}, VsR T l xs → VsR T' l xs
  | [], xs, hv => by rw [VsR] at hv ⊢; exact hv
  | v :: r, xs, hv => by
    rw [VsR] at hv ⊢
    obtain ⟨y, ys, e, h1, h2⟩ := hv
    exact ⟨y, ys, e, V.R.mono h h1, VsR.mono h h2⟩
end

def vals4 (n : Nat) : List Value := [.int .u64 (n0 n : Int), .int .u64 (n1 n : Int), .int .u64 (n2 n : Int), .int .u64 (n3 n : Int)]

theorem u64_ok {n : Nat} (h : n < 18446744073709551616) : IntKind.u64.wrap (n : Int) = n := by rw [IntKind.wrap_u64]; omega

theorem cr_vals4 (T : Tg) (n : Nat) : CR T [.sym .u64 (n0 n), .sym .u64 (n1 n), .sym .u64 (n2 n), .sym .u64 (n3 n)] (vals4 n) :=
  .cons ⟨rfl, u64_ok (n0_lt n)⟩ (.cons ⟨rfl, u64_ok (n1_lt n)⟩ (.cons ⟨rfl, u64_ok (n2_lt n)⟩ (.cons ⟨rfl, u64_ok (n3_lt n)⟩ .nil)))

theorem pr_fi (T : Tg) (v : F) : PR T [.fi v] (vals4 (mont v)) := ⟨cr_vals4 T (mont v), fun p hp => by simp only [List.mem_cons, List.not_mem_nil, or_false] at hp; subst hp; trivial⟩
theorem pr_w4 (T : Tg) (n : Nat) (h : n < 115792089237316195423570985008687907853269984665640564039457584007913129639936) : PR T [.w4 n] (vals4 n) := ⟨cr_vals4 T n, fun p hp => by simp only [List.mem_cons, List.not_mem_nil, or_false] at hp; subst hp; exact h⟩

theorem list28v {bs : List Nat} (h : bs.length = 28) : bs = [bs.getD 0 0, bs.getD 1 0, bs.getD 2 0, bs.getD 3 0, bs.getD 4 0, bs.getD 5 0, bs.getD 6 0, bs.getD 7 0, bs.getD 8 0, bs.getD 9 0, bs.getD 10 0, bs.getD 11 0, bs.getD 12 0, bs.getD 13 0, bs.getD 14 0, bs.getD 15 0, bs.getD 16 0, bs.getD 17 0, bs.getD 18 0, bs.getD 19 0, bs.getD 20 0, bs.getD 21 0, bs.getD 22 0, bs.getD 23 0, bs.getD 24 0, bs.getD 25 0, bs.getD 26 0, bs.getD 27 0] := by
  have e : bs = (List.range 28).map fun k => bs.getD k 0 := by
    apply List.ext_getElem
    · simp [h]
    · intro i h1 h2
      simp [List.getElem?_eq_getElem h1]
  exact e

theorem cr_u8 (T : Tg) : ∀ {l : List Nat}, (∀ b ∈ l, b < 256) → CR T (l.map fun (x : Nat) => Sc.sym .u8 (x : Int)) (l.map fun (x : Nat) => Value.int .u8 (x : Int))
  | [], _ => .nil
  | x :: r, h => .cons ⟨rfl, by have := h x (by simp); rw [IntKind.wrap_u8']; omega⟩ (cr_u8 T fun b hb => h b (by simp [hb]))

theorem bt_cells {bs : List Nat} (h : bs.length = 28) : (Pc.bt bs).cells = bs.map fun (x : Nat) => Sc.sym .u8 (x : Int) := by
  conv => rhs; rw [list28v h]
  rfl

theorem pr_bt (T : Tg) {bs : List Nat} (h : bs.length = 28) (hb : ∀ b ∈ bs, b < 256) : PR T [.bt bs] (bs.map fun (x : Nat) => Value.int .u8 (x : Int)) := by
  refine ⟨?_, fun p hp => by simp only [List.mem_cons, List.not_mem_nil, or_false] at hp; subst hp; exact ⟨h, hb⟩⟩
  simp only [flat, List.append_nil, bt_cells h]
  exact cr_u8 T hb

/-! ### The memory -/
abbrev Mem := List (Nat × List Pc)

def lkp {α : Type} : List (Nat × α) → Nat → Option α
  | [], _ => none
  | (i, s) :: r, j => bif Nat.beq i j then some s else lkp r j

/-- The memory with another content of a block. -/
def upd : Mem → Nat → List Pc → Mem
  | [], _, _ => []
  | (i, s) :: r, j, l => bif Nat.beq i j then (i, l) :: r else (i, s) :: upd r j l

theorem lkp_upd {m : Mem} {j : Nat} {l : List Pc} {t : Nat} {l' : List Pc} (h : lkp (upd m j l) t = some l') : (t = j ∧ l' = l ∧ (lkp m j).isSome = true) ∨ (t ≠ j ∧ lkp m t = some l') := by
  induction m with
  | nil => cases h
  | cons x r ih =>
    obtain ⟨i, s⟩ := x
    simp only [upd] at h
    cases hb : Nat.beq i j with
    | true =>
      have e := Nat.eq_of_beq_eq_true hb
      subst e
      rw [hb] at h
      simp only [cond_true, lkp] at h
      cases hc : Nat.beq i t with
      | true =>
        rw [hc] at h
        have e := Nat.eq_of_beq_eq_true hc
        simp only [cond_true, Option.some.injEq] at h
        exact .inl ⟨e.symm, h.symm, by simp [lkp]⟩
      | false =>
        rw [hc] at h
        refine .inr ⟨fun e => Nat.ne_of_beq_eq_false hc e.symm, ?_⟩
        simp only [lkp, hc]
        exact h
    | false =>
      rw [hb] at h
      simp only [cond_false, lkp] at h
      cases hc : Nat.beq i t with
      | true =>
        rw [hc] at h
        have e := Nat.eq_of_beq_eq_true hc
        subst e
        refine .inr ⟨Nat.ne_of_beq_eq_false hb, ?_⟩
        simp only [lkp, hc]
        exact h
      | false =>
        rw [hc] at h
        simp only [lkp, hb, hc, cond_false]
        simp only [cond_false] at h
        exact ih h

/-- A stretch of a block that no frozen part meets. -/
def NF (fz : Nat × Nat) (a n : Nat) : Prop := ∀ k, a ≤ k → k < a + n → fz.1 ≤ k → fz.2 ≤ k

theorem NF.zero (a n : Nat) : NF (0, 0) a n := fun _ _ _ _ => Nat.zero_le _
theorem NF.sub {fz : Nat × Nat} {a n a' n' : Nat} (h : NF fz a n) (h1 : a ≤ a') (h2 : a' + n' ≤ a + n) : NF fz a' n' := fun k k1 k2 => h k (by omega) (by omega)

/-- The cells of a block, of which a stretch may be written. -/
def HB (w : World) (b : Nat) (c : Array Value) (ty : TypeId) (a n : Nat) : Prop := ∃ fz, w.heap[b]? = some (.cells c ty fz) ∧ NF fz a n

theorem HB.of {w : World} {b : Nat} {c : Array Value} {ty : TypeId} {a n : Nat} (h : w.heap[b]? = some (.cells c ty (0, 0))) : HB w b c ty a n := ⟨_, h, NF.zero _ _⟩
theorem HB.sub {w : World} {b : Nat} {c : Array Value} {ty : TypeId} {a n a' n' : Nat} (h : HB w b c ty a n) (h1 : a ≤ a') (h2 : a' + n' ≤ a + n) : HB w b c ty a' n' := by
  obtain ⟨fz, h3, h4⟩ := h
  exact ⟨fz, h3, h4.sub h1 h2⟩
theorem HB.keep {w w' : World} {b : Nat} {c : Array Value} {ty : TypeId} {a n : Nat} (h : HB w b c ty a n) (hw : w'.heap[b]? = w.heap[b]?) : HB w' b c ty a n := by
  obtain ⟨fz, h3, h4⟩ := h
  exact ⟨fz, by rw [hw]; exact h3, h4⟩

def BlockOk (T : Tg) (w : World) (t : Nat) (l : List Pc) : Prop :=
  ∃ b c ty pre xs rest, T t = some b ∧ HB w b.blk c ty b.off xs.length ∧ c.toList = pre ++ (xs ++ rest) ∧ pre.length = b.off ∧ PR T l xs

structure MOk (wr : Nat → Bool) (T : Tg) (w : World) (m : Mem) : Prop where
  sep : T.sep wr
  lt : ∀ t b, T t = some b → b.blk < w.heap.size
  at_ : ∀ t l, lkp m t = some l → BlockOk T w t l

theorem BlockOk.cell {T : Tg} {w : World} {t : Nat} {l : List Pc} (h : BlockOk T w t l) {b : Loc} (hb : T t = some b) {o : Nat} {s : Sc} (hs : (flat l)[o]? = some s) :
    ∃ x, w.cell? ⟨b.blk, b.off + o, none⟩ = some x ∧ w.frozen? ⟨b.blk, b.off + o, none⟩ = false ∧ s.R T x := by
  obtain ⟨b', c, ty, pre, xs, rest, h1, ⟨fz, h2, hnf⟩, h3, hp, h4⟩ := h
  rw [hb] at h1
  cases h1
  obtain ⟨x, hx, hr⟩ := h4.1.get hs
  refine ⟨x, ?_, ?_, hr⟩
  · unfold World.cell?
    rw [h2]
    have : c[b.off + o]? = some x := by
      rw [← Array.getElem?_toList, h3, ← hp, List.getElem?_append_right (by omega), Nat.add_sub_cancel_left, List.getElem?_append_left (List.getElem?_eq_some_iff.1 hx).1, hx]
    simpa using this
  · unfold World.frozen?
    rw [h2]
    have := hnf (b.off + o) (by omega) (by have := (List.getElem?_eq_some_iff.1 hx).1; omega)
    simp only [Bool.and_eq_false_iff, decide_eq_false_iff_not]
    omega

/-- The world has not changed but for new blocks, and blocks of the tags in W. -/
structure Kp (W : Nat → Prop) (w w' : World) : Prop where
  os : w'.os = w.os
  tape : w'.tape = w.tape
  output : w'.output = w.output
  size : w.heap.size ≤ w'.heap.size
  block : ∀ k, k < w.heap.size → ¬ W k → w'.heap[k]? = w.heap[k]?

theorem Kp.refl (W : Nat → Prop) (w : World) : Kp W w w := ⟨rfl, rfl, rfl, Nat.le_refl _, fun _ _ _ => rfl⟩
theorem Kp.trans {W W' : Nat → Prop} {a b c : World} (h : Kp W a b) (k : Kp W' b c) (hW : ∀ i, i < a.heap.size → W' i → W i) : Kp W a c :=
  ⟨k.os.trans h.os, k.tape.trans h.tape, k.output.trans h.output, Nat.le_trans h.size k.size, fun i hi hn => (k.block i (Nat.lt_of_lt_of_le hi h.size) (fun h' => hn (hW i hi h'))).trans (h.block i hi hn)⟩
theorem Kp.of_below {w w' : World} (h : Below w.heap.size w w') (W : Nat → Prop) : Kp W w w' := ⟨h.os, h.tape, h.output, h.size, fun k hk _ => h.block k hk⟩
theorem Kp.below {W : Nat → Prop} {w w' : World} (h : Kp W w w') (hW : ∀ k, ¬ W k) : Below w.heap.size w w' := ⟨h.os, h.tape, h.output, h.size, fun k hk => h.block k hk (hW k)⟩

theorem BlockOk.keep {T T' : Tg} {w w' : World} {t : Nat} {l : List Pc} (h : BlockOk T w t l) (hT : T.le T') (hw : ∀ b, T t = some b → w'.heap[b.blk]? = w.heap[b.blk]?) : BlockOk T' w' t l := by
  obtain ⟨b, c, ty, pre, xs, rest, h1, h2, h3, hp, h4⟩ := h
  exact ⟨b, c, ty, pre, xs, rest, hT _ _ h1, h2.keep (hw b h1), h3, hp, h4.mono hT⟩

/-- A world that has only grown. -/
theorem MOk.grow {wr : Nat → Bool} {T : Tg} {w w' : World} {m : Mem} (h : MOk wr T w m) (hw : Below w.heap.size w w') : MOk wr T w' m :=
  ⟨h.sep, fun t b e => Nat.lt_of_lt_of_le (h.lt t b e) hw.size, fun t l e => (h.at_ t l e).keep (Tg.le_refl T) fun b hb => hw.block _ (h.lt t b hb)⟩

/-- One more tag. -/
def Tg.add (T : Tg) (t : Nat) (b : Loc) : Tg := fun i => bif Nat.beq t i then some b else T i
theorem Tg.le_add {T : Tg} {t : Nat} (h : T t = none) (b : Loc) : T.le (T.add t b) := by
  intro i c e
  unfold Tg.add
  cases hb : Nat.beq t i with
  | true => rw [← Nat.eq_of_beq_eq_true hb, h] at e; cases e
  | false => exact e
theorem Tg.add_same (T : Tg) (t : Nat) (b : Loc) : (T.add t b) t = some b := by simp [Tg.add, Nat.beq_refl]
theorem Tg.add_cases {T : Tg} {t : Nat} {b : Loc} {i : Nat} {c : Loc} (h : (T.add t b) i = some c) : (i = t ∧ c = b) ∨ (i ≠ t ∧ T i = some c) := by
  unfold Tg.add at h
  cases hb : Nat.beq t i with
  | true =>
    rw [hb] at h
    simp only [cond_true, Option.some.injEq] at h
    exact .inl ⟨(Nat.eq_of_beq_eq_true hb).symm, h.symm⟩
  | false =>
    rw [hb] at h
    exact .inr ⟨fun e => Nat.ne_of_beq_eq_false hb e.symm, h⟩

theorem MOk.allocB {wr : Nat → Bool} {T : Tg} {w w' : World} {m : Mem} (h : MOk wr T w m) {t : Nat} (ht : T t = none) {b : Loc} {c : Array Value} {ty : TypeId} {l : List Pc} {pre xs rest : List Value} (hw : Below w.heap.size w w')
    (hg : w.heap.size ≤ b.blk) (hg' : HB w' b.blk c ty b.off xs.length) (hc : c.toList = pre ++ (xs ++ rest)) (hp : pre.length = b.off) (hl : PR T l xs) : MOk wr (T.add t b) w' ((t, l) :: m) := by
  have hle := Tg.le_add ht b
  refine ⟨?_, ?_, ?_⟩
  · intro i j c1 c2 hw1 hi hj e
    rcases Tg.add_cases hi with ⟨e1, e2⟩ | ⟨h1, hi1⟩ <;> rcases Tg.add_cases hj with ⟨e3, e4⟩ | ⟨h2, hj1⟩
    · rw [e1, e3]
    · have := h.lt _ _ hj1; rw [e2] at e; omega
    · have := h.lt _ _ hi1; rw [e4] at e; omega
    · exact h.sep _ _ _ _ hw1 hi1 hj1 e
  · intro i b' hi
    rcases Tg.add_cases hi with ⟨rfl, rfl⟩ | ⟨h1, hi⟩
    · obtain ⟨fz, hg1, _⟩ := hg'; exact (Array.getElem?_eq_some_iff.1 hg1).1
    · exact Nat.lt_of_lt_of_le (h.lt _ _ hi) hw.size
  · intro i l' hi
    simp only [lkp] at hi
    cases hb : Nat.beq t i with
    | true =>
      rw [hb] at hi
      simp only [cond_true, Option.some.injEq] at hi
      have e := Nat.eq_of_beq_eq_true hb
      subst e hi
      exact ⟨b, c, ty, pre, xs, rest, Tg.add_same _ _ _, hg', hc, hp, hl.mono hle⟩
    | false =>
      rw [hb] at hi
      exact (h.at_ i l' hi).keep hle fun b hb => hw.block _ (h.lt _ _ hb)

theorem MOk.alloc {wr : Nat → Bool} {T : Tg} {w w' : World} {m : Mem} (h : MOk wr T w m) {t : Nat} (ht : T t = none) {b : Loc} {c : Array Value} {ty : TypeId} {l : List Pc} {pre xs rest : List Value} (hw : Below w.heap.size w w')
    (hg : w.heap.size ≤ b.blk) (hg' : w'.heap[b.blk]? = some (.cells c ty (0, 0))) (hc : c.toList = pre ++ (xs ++ rest)) (hp : pre.length = b.off) (hl : PR T l xs) : MOk wr (T.add t b) w' ((t, l) :: m) :=
  h.allocB ht hw hg (HB.of hg') hc hp hl

/-- A block with another content. -/
theorem MOk.write {wr : Nat → Bool} {T : Tg} {w w' : World} {m : Mem} (h : MOk wr T w m) {t : Nat} {b : Loc} (hwr : wr t = true) (hb : T t = some b) {l : List Pc} (hsz : w.heap.size ≤ w'.heap.size) (hw : ∀ k, k < w.heap.size → k ≠ b.blk → w'.heap[k]? = w.heap[k]?)
    (hn : BlockOk T w' t l) : MOk wr T w' (upd m t l) := by
  refine ⟨h.sep, fun i c e => Nat.lt_of_lt_of_le (h.lt i c e) hsz, fun i l' e => ?_⟩
  rcases lkp_upd e with ⟨rfl, rfl, _⟩ | ⟨hne, e⟩
  · exact hn
  · refine (h.at_ i l' e).keep (Tg.le_refl T) fun c hc => hw _ (h.lt _ _ hc) fun e' => hne (h.sep _ _ _ _ hwr hb hc e'.symm).symm

end Go.Proofs.Ytdaheccfeihpgaa.Nm

/-
  The operations of the run, each with what it does.
-/
namespace Go.Proofs.Ytdaheccfeihpgaa.Nm
open Go Go.RowKit

/-! ### Parts, read and written -/
def ones : List Sc → List Pc
  | [] => []
  | s :: r => .c s :: ones r

theorem flat_ones (l : List Sc) : flat (ones l) = l := by
  induction l with
  | nil => rfl
  | cons s r ih => simp [ones, flat, Pc.cells, ih]

theorem goods_ones (l : List Sc) : goods (ones l) := by
  induction l with
  | nil => intro p hp; cases hp
  | cons s r ih =>
    intro p hp
    simp only [ones, List.mem_cons] at hp
    rcases hp with rfl | hp
    · trivial
    · exact ih p hp

theorem goods_cons {p : Pc} {r : List Pc} : goods (p :: r) ↔ p.good ∧ goods r := by
  unfold goods
  constructor
  · intro h; exact ⟨h p (by simp), fun q hq => h q (by simp [hq])⟩
  · rintro ⟨h1, h2⟩ q hq
    simp only [List.mem_cons] at hq
    rcases hq with rfl | hq
    · exact h1
    · exact h2 q hq

def wr1 : List Pc → Nat → Sc → Option (List Pc)
  | [], _, _ => none
  | p :: r, o, s => bif Nat.blt o p.width then some (ones (p.cells.set o s) ++ r) else (wr1 r (o - p.width) s).map (p :: ·)

theorem wr1_ok {l : List Pc} {o : Nat} {s : Sc} {l' : List Pc} (h : wr1 l o s = some l') : flat l' = (flat l).set o s ∧ o < (flat l).length ∧ (goods l → goods l') := by
  induction l generalizing o l' with
  | nil => cases h
  | cons p r ih =>
    simp only [wr1] at h
    cases hb : Nat.blt o p.width with
    | true =>
      rw [hb] at h
      simp only [cond_true, Option.some.injEq] at h
      subst h
      have hlt : o < p.cells.length := by rw [p.cells_length]; simpa [Nat.blt_eq] using hb
      refine ⟨?_, ?_, fun hg => ?_⟩
      · rw [flat_append, flat_ones, flat, List.set_append, if_pos hlt]
      · simp only [flat, List.length_append]; omega
      · exact goods_append.2 ⟨goods_ones _, (goods_cons.1 hg).2⟩
    | false =>
      rw [hb] at h
      simp only [cond_false, Option.map_eq_some_iff] at h
      obtain ⟨r', hr, rfl⟩ := h
      obtain ⟨h1, h2, h3⟩ := ih hr
      have hge : p.cells.length ≤ o := by
        rw [p.cells_length]
        have : ¬ o < p.width := by
          intro hlt
          rw [(by simpa [Nat.blt_eq] using hlt : Nat.blt o p.width = true)] at hb; cases hb
        omega
      refine ⟨?_, ?_, fun hg => ?_⟩
      · rw [flat, h1, flat, List.set_append, if_neg (by omega), p.cells_length]
      · simp only [flat, List.length_append]; rw [p.cells_length] at hge ⊢; omega
      · exact goods_cons.2 ⟨(goods_cons.1 hg).1, h3 (goods_cons.1 hg).2⟩

def takeN : List Pc → Nat → Option (List Pc)
  | [], n => bif Nat.beq n 0 then some [] else none
  | p :: r, n => bif Nat.beq n 0 then some [] else bif Nat.ble p.width n then (takeN r (n - p.width)).map (p :: ·) else none

def dropN : List Pc → Nat → Option (List Pc)
  | [], n => bif Nat.beq n 0 then some [] else none
  | p :: r, n => bif Nat.beq n 0 then some (p :: r) else bif Nat.ble p.width n then dropN r (n - p.width) else none

theorem takeN_ok {l : List Pc} {n : Nat} {a : List Pc} (h : takeN l n = some a) : ∃ r, l = a ++ r ∧ (flat a).length = n := by
  induction l generalizing n a with
  | nil =>
    simp only [takeN] at h
    cases hb : Nat.beq n 0 with
    | true => rw [hb] at h; cases h; exact ⟨[], rfl, (Nat.eq_of_beq_eq_true hb).symm⟩
    | false => rw [hb] at h; cases h
  | cons p r ih =>
    simp only [takeN] at h
    cases hb : Nat.beq n 0 with
    | true => rw [hb] at h; cases h; exact ⟨p :: r, rfl, (Nat.eq_of_beq_eq_true hb).symm⟩
    | false =>
      rw [hb] at h
      cases hc : Nat.ble p.width n with
      | false => rw [hc] at h; cases h
      | true =>
        rw [hc] at h
        simp only [cond_false, cond_true, Option.map_eq_some_iff] at h
        obtain ⟨a', ha, rfl⟩ := h
        obtain ⟨r', rfl, hl⟩ := ih ha
        have := Nat.le_of_ble_eq_true hc
        exact ⟨r', rfl, by simp only [flat, List.length_append, hl, p.cells_length]; omega⟩

theorem dropN_ok {l : List Pc} {n : Nat} {r : List Pc} (h : dropN l n = some r) : ∃ a, l = a ++ r ∧ (flat a).length = n := by
  induction l generalizing n r with
  | nil =>
    simp only [dropN] at h
    cases hb : Nat.beq n 0 with
    | true => rw [hb] at h; cases h; exact ⟨[], rfl, (Nat.eq_of_beq_eq_true hb).symm⟩
    | false => rw [hb] at h; cases h
  | cons p l ih =>
    simp only [dropN] at h
    cases hb : Nat.beq n 0 with
    | true => rw [hb] at h; cases h; exact ⟨[], rfl, (Nat.eq_of_beq_eq_true hb).symm⟩
    | false =>
      rw [hb] at h
      cases hc : Nat.ble p.width n with
      | false => rw [hc] at h; cases h
      | true =>
        rw [hc] at h
        obtain ⟨a, rfl, hl⟩ := ih h
        have := Nat.le_of_ble_eq_true hc
        exact ⟨p :: a, rfl, by simp only [flat, List.length_append, hl, p.cells_length]; omega⟩

def widthL : List Pc → Nat
  | [] => 0
  | p :: r => p.width + widthL r
theorem widthL_ok (l : List Pc) : widthL l = (flat l).length := by
  induction l with
  | nil => rfl
  | cons p r ih => simp [widthL, flat, p.cells_length, ih]

/-- n cells from place o on, as whole parts. -/
def rdN (l : List Pc) (o n : Nat) : Option (List Pc) := match dropN l o with
  | some r => takeN r n
  | none => none

theorem rdN_ok {l : List Pc} {o n : Nat} {m : List Pc} (h : rdN l o n = some m) : ∃ a r, l = a ++ (m ++ r) ∧ (flat a).length = o ∧ (flat m).length = n := by
  unfold rdN at h
  split at h
  · rename_i r hr
    obtain ⟨a, rfl, ha⟩ := dropN_ok hr
    obtain ⟨r', rfl, hm⟩ := takeN_ok h
    exact ⟨a, r', rfl, ha, hm⟩
  · cases h

/-- Parts in the place of as many cells. -/
def wrN (l : List Pc) (o : Nat) (m : List Pc) : Option (List Pc) := match takeN l o, dropN l (o + widthL m) with
  | some a, some r => some (a ++ (m ++ r))
  | _, _ => none

theorem wrN_ok {l : List Pc} {o : Nat} {m l' : List Pc} (h : wrN l o m = some l') : flat l' = (flat l).take o ++ flat m ++ (flat l).drop (o + (flat m).length) ∧ o + (flat m).length ≤ (flat l).length ∧ (goods l → goods m → goods l') := by
  unfold wrN at h
  split at h
  · rename_i a r ha hr
    simp only [Option.some.injEq] at h
    subst h
    obtain ⟨r1, e1, h1⟩ := takeN_ok ha
    obtain ⟨a2, e2, h2⟩ := dropN_ok hr
    rw [widthL_ok] at h2
    have f1 : flat l = flat a ++ flat r1 := by rw [e1, flat_append]
    have f2 : flat l = flat a2 ++ flat r := by rw [e2, flat_append]
    refine ⟨?_, ?_, fun hg hm => ?_⟩
    · have t1 : (flat l).take o = flat a := by rw [f1, ← h1]; simp
      have t2 : (flat l).drop (o + (flat m).length) = flat r := by rw [f2, ← h2]; simp
      rw [t1, t2, flat_append, flat_append, List.append_assoc]
    · rw [f2, List.length_append, h2]; omega
    · refine goods_append.2 ⟨?_, goods_append.2 ⟨hm, ?_⟩⟩
      · rw [e1] at hg; exact (goods_append.1 hg).1
      · rw [e2] at hg; exact (goods_append.1 hg).2
  · cases h

theorem CR.take {T : Tg} {l : List Sc} {xs : List Value} (h : CR T l xs) (n : Nat) : CR T (l.take n) (xs.take n) := by
  induction h generalizing n with
  | nil => simp; exact .nil
  | cons a _ ih =>
    cases n with
    | zero => exact .nil
    | succ n => exact .cons a (ih n)
theorem CR.drop {T : Tg} {l : List Sc} {xs : List Value} (h : CR T l xs) (n : Nat) : CR T (l.drop n) (xs.drop n) := by
  induction h generalizing n with
  | nil => simp; exact .nil
  | cons a b ih =>
    cases n with
    | zero => exact .cons a b
    | succ n => exact ih n

theorem PR.wrN {T : Tg} {l : List Pc} {xs : List Value} (h : PR T l xs) {o : Nat} {m l' : List Pc} {ys : List Value} (hm : PR T m ys) (e : wrN l o m = some l') : PR T l' (xs.take o ++ ys ++ xs.drop (o + ys.length)) := by
  obtain ⟨h1, h2, h3⟩ := wrN_ok e
  refine ⟨?_, h3 h.2 hm.2⟩
  rw [h1, hm.1.length]
  exact ((h.1.take o).append hm.1).append (h.1.drop _)

theorem V.R.cells {T : Tg} {x : Value} : ∀ {v : V} {l : List Pc}, v.R T x → (match v with | .s y => some [Pc.c y] | .agg l => some l | .tup _ => none) = some l → PR T l x.cells.toList
  | .s y, l, h, e => by
    cases e
    rw [V.R] at h
    refine ⟨?_, ?_⟩
    · rw [h.one.2]; exact .cons h .nil
    · exact goods_cons.2 ⟨trivial, fun _ hp => by cases hp⟩
  | .agg l', l, h, e => by
    cases e
    rw [V.R] at h
    obtain ⟨xs, rfl, hp⟩ := h
    simpa [Value.cells] using hp

/-- The cells of a value. -/
def V.pcs : V → Option (List Pc)
  | .s y => some [Pc.c y]
  | .agg l => some l
  | .tup _ => none

theorem V.R.pcs {T : Tg} {x : Value} {v : V} {l : List Pc} (h : v.R T x) (e : v.pcs = some l) : PR T l x.cells.toList := V.R.cells h (by unfold V.pcs at e; exact e)

/-! ### What the run is told of a program -/
/-- A function whose outcome hangs on its arguments alone: its value, and the blocks it makes. -/
abbrev DSpec := List V → Mem → Nat → Option (V × List (List Pc))
/-- A function that may write, or end in more than one way. -/
structure KSpec where
  run : List V → Mem → Nat → (V → Mem → Nat → Prop) → Prop
  outs : List V → Mem → List Nat
  cas : Bool := false
  cases : List V → Mem → Nat → (V → List (List Pc) → Prop) → Prop := fun _ _ _ _ => False

structure Tb where
  n : Nat
  base : Nat
  outs : List Nat
  agg : List (Nat × Nat)
  one : List Nat
  zv : List (Nat × List Pc)
  ik : List (Nat × IntKind)
  slc : List (Nat × Nat)
  arr : List (Nat × Nat × Nat)
  fld : List (Nat × List (Nat × Nat))
  mks : List (Nat × List (Nat × List Sc))
  bsl : List (Nat × List (Nat × List Sc))
  ifs : List Nat
  mif : List Nat
  bos : List Nat
  apd : List Nat
  str : List Nat
  bar : List Nat
  ds : List (Nat × DSpec)
  ks : List (Nat × KSpec)
  fuel : Nat

def addF : Mem → Nat → List (List Pc) → Mem
  | m, _, [] => m
  | m, nt, l :: r => addF ((nt, l) :: m) (nt + 1) r

/-- Tags of the run's own are free: from nt on, n of them. -/
def Free (T : Tg) (nt n : Nat) : Prop := ∀ k, k < n → T (nt + k) = none
/-- Only the tags from nt on, n of them, are new. -/
def OnlyNew (T T' : Tg) (nt n : Nat) : Prop := T.le T' ∧ ∀ t, T t = none → (t < nt ∨ nt + n ≤ t) → T' t = none

/-- The blocks of new tags are new. -/
def Newer (T T' : Tg) (w : World) : Prop := ∀ t b, T t = none → T' t = some b → w.heap.size ≤ b.blk

structure DSOk (P : Program) (f : Nat) (sp : DSpec) : Prop where
  enter : ∀ args w, (callFunc f args).run P w = .ok (.enter f args) w
  run : ∀ (wr : Nat → Bool) (T : Tg) (w : World) (m : Mem) (nt : Nat) (args : List V) (xs : List Value) (v : V) (fr : List (List Pc)), sp args m nt = some (v, fr) → MOk wr T w m → VsR T args xs → Free T nt fr.length →
    Calls P f xs.toArray w fun e w' => ∃ T' y, OnlyNew T T' nt fr.length ∧ e = .returned y ∧ v.R T' y ∧ MOk wr T' w' (addF m nt fr) ∧ Below w.heap.size w w' ∧ Newer T T' w

/-- The blocks of some tags. -/
def Blks (T : Tg) (l : List Nat) (k : Nat) : Prop := ∃ t ∈ l, ∃ b, T t = some b ∧ b.blk = k

structure KSOk (P : Program) (f : Nat) (sp : KSpec) : Prop where
  enter : ∀ args w, (callFunc f args).run P w = .ok (.enter f args) w
  run : ∀ (wr : Nat → Bool) (T : Tg) (w : World) (m : Mem) (nt : Nat) (args : List V) (xs : List Value) (K : V → Mem → Nat → Prop), sp.run args m nt K → MOk wr T w m → VsR T args xs → (∀ t, nt ≤ t → T t = none) → (∀ t ∈ sp.outs args m, wr t = true) →
    Calls P f xs.toArray w fun e w' => ∃ T' y v m' nt', T.le T' ∧ nt ≤ nt' ∧ (∀ t, T t = none → t < nt → T' t = none) ∧ (∀ t, nt' ≤ t → T' t = none) ∧ e = .returned y ∧ v.R T' y ∧ MOk wr T' w' m' ∧ Kp (Blks T (sp.outs args m)) w w' ∧
      Newer T T' w ∧ K v m' nt'
  cases : ∀ (args : List V) (m : Mem) (nt : Nat) (K : V → List (List Pc) → Prop), sp.cases args m nt K → ∃ v fr, K v fr ∧ ∀ (wr : Nat → Bool) (T : Tg) (w : World) (xs : List Value), MOk wr T w m → VsR T args xs → Free T nt fr.length →
    Calls P f xs.toArray w fun e w' => ∃ T' y, OnlyNew T T' nt fr.length ∧ e = .returned y ∧ v.R T' y ∧ MOk wr T' w' (addF m nt fr) ∧ Below w.heap.size w w' ∧ Newer T T' w := by intro _ _ _ _ h; exact False.elim h

def isAggD : TypeDesc → Bool
  | .struct _ | .array _ _ => true
  | _ => false

structure TbOk (P : Program) (B : Tb) : Prop where
  wide : P.follows .mixedOrders = true
  agg : ∀ t n, lkp B.agg t = some n → ∀ w, (isAgg t).run P w = .ok true w ∧ (sizeOf t).run P w = .ok n w
  one : ∀ t, has B.one t = true → ∀ w, (isAgg t).run P w = .ok false w ∧ (sizeOf t).run P w = .ok 1 w
  zv : ∀ t l, lkp B.zv t = some l → ∃ v, (∀ w, (zeroValue t).run P w = .ok v w) ∧ ∀ T, PR T l v.cells.toList
  ik : ∀ t k, lkp B.ik t = some k → P.underlying t = some (.int k)
  slc : ∀ t n, lkp B.slc t = some n → ∃ e, P.underlying t = some (.slice e) ∧ ∀ w, (sizeOf e).run P w = .ok n w
  arr : ∀ t m n, lkp B.arr t = some (m, n) → ∃ e, P.underlying t = some (.array m e) ∧ ∀ w, (sizeOf e).run P w = .ok n w
  fld : ∀ t l, lkp B.fld t = some l → ∃ fs : Array Field, P.underlying t = some (.struct fs) ∧ (∀ i o n : Nat, l[i]? = some (o, n) → ∃ f : Field, fs[i]? = some f ∧ f.offset = o ∧ n ≠ 0 ∧ ∀ w, (sizeOf f.type).run P w = .ok n w) ∧
    ∀ w, (fs.mapM fun (f : Field) => (do pure (f.offset, ← sizeOf f.type) : Sem (Nat × Nat))).run P w = .ok l.toArray w
  mks : ∀ t l n zs, lkp B.mks t = some l → lkp l n = some zs → ∃ xs e, (∀ T, CR T zs xs) ∧ ∀ w, (Instr.makeSlice t (.int .i64 n) (.int .i64 n)).run P w = .ok (.slice (some ⟨w.heap.size, 0, none⟩) n n) (w.alloc (.cells xs.toArray e))
  bsl : ∀ t l n zs s, lkp B.bsl t = some l → lkp B.slc t = some s → lkp l n = some zs → ∃ xs e s', (∀ T, CR T zs xs) ∧ s' = s ∧ ∀ parts w, (Instr.buildSlice t n parts).run P w =
    match Instr.fill (fun i => some (i * s, s)) xs.toArray parts.toList with
    | some c => .ok (.slice (some ⟨w.heap.size, 0, none⟩) n n) (w.alloc (.cells c e))
    | none => .halt (.stuck "buildSlice: a part of the wrong size") w
  ifs : ∀ t, has B.ifs t = true → ∃ ms, P.underlying t = some (.interface ms)
  mif : ∀ t, has B.mif t = true → ∀ x w, (Instr.makeInterface t x).run P w = .ok (.iface t x) w
  bos : ∀ t, has B.bos t = true → P.underlying t = some .bool
  apd : ∀ t, has B.apd t = true → ∃ e i z, P.underlying t = some (.slice e) ∧ P.info? e = some i ∧ i.zero = some z ∧ i.size = 1 ∧ i.bytes = 1 ∧ z.cells.size = 1 ∧ P.underlying e = some (.int .u8)
  str : ∀ t, has B.str t = true → P.underlying t = some .string
  bar : ∀ t, has B.bar t = true → P.eqGuardType P.depth t = false ∧ ∃ e, P.underlying t = some (.array 28 e) ∧ P.underlying e = some (.int .u8) ∧ ∀ w, (sizeOf e).run P w = .ok 1 w
  ds : ∀ f sp, lkp B.ds f = some sp → DSOk P f sp
  ks : ∀ f sp, lkp B.ks f = some sp → KSOk P f sp

/-! ### The operations -/
abbrev Env := List (Nat × V)

def cst : Value → Option Sc
  | .int k n => bif decide (k.wrap n = n) then some (.lit k n) else none
  | .bool b => some (.bl b)
  | .pointer none => some .np
  | .slice none 0 0 => some .snil
  | .nilIface => some .nif
  | .string s => some (.val (.string s))
  | _ => none

theorem cst_ok {T : Tg} {v : Value} {s : Sc} (h : cst v = some s) : s.R T v := by
  unfold cst at h
  split at h
  · rename_i k n
    cases hb : decide (k.wrap n = n) with
    | true =>
      rw [hb] at h
      cases h
      exact ⟨rfl, of_decide_eq_true hb⟩
    | false => rw [hb] at h; cases h
  · cases h; rfl
  · cases h; rfl
  · cases h; rfl
  · cases h; rfl
  · cases h; exact ⟨rfl, rfl⟩
  · cases h

def evV (env : Env) : Operand → Option V
  | .tmp t => lkp env t
  | .const v => (cst v).map .s
  | _ => none

structure FrV (T : Tg) (n : Nat) (a : Act) (env : Env) : Prop where
  size : a.tmps.size = n
  defers : a.defers = []
  get : ∀ i v, lkp env i = some v → v.R T (a.tmps.getD i undef)

theorem evV_ok {T : Tg} {n : Nat} {a : Act} {env : Env} (hf : FrV T n a env) {x : Operand} {v : V} (h : evV env x = some v) : v.R T (a.eval x) := by
  unfold evV at h
  split at h
  · exact hf.get _ _ h
  · simp only [Option.map_eq_some_iff] at h
    obtain ⟨s, hs, rfl⟩ := h
    rw [V.R]
    exact cst_ok hs
  · cases h

def evS (env : Env) (x : Operand) : Option Sc := match evV env x with
  | some (.s y) => some y
  | _ => none

theorem evS_ok {T : Tg} {n : Nat} {a : Act} {env : Env} (hf : FrV T n a env) {x : Operand} {s : Sc} (h : evS env x = some s) : s.R T (a.eval x) := by
  unfold evS at h
  split at h
  · rename_i y hy
    cases h
    have := evV_ok hf hy
    rwa [V.R] at this
  · cases h

/-- A number, with whether it is a known one. -/
def num : Sc → Option (Bool × IntKind × Int)
  | .lit k n => some (true, k, n)
  | .sym k n => some (false, k, n)
  | _ => none

theorem num_ok {T : Tg} {s : Sc} {b : Bool} {k : IntKind} {n : Int} {x : Value} (h : num s = some (b, k, n)) (hs : s.R T x) : x = .int k n ∧ k.wrap n = n := by
  unfold num at h
  split at h <;> first | (cases h; exact hs) | cases h

def mkN (b : Bool) (k : IntKind) (n : Int) : Sc := bif b then .lit k n else .sym k n
theorem mkN_R {T : Tg} {b : Bool} {k : IntKind} {n : Int} (h : k.wrap n = n) : (mkN b k n).R T (.int k n) := by cases b <;> exact ⟨rfl, h⟩
def mkB (b : Bool) (c : Bool) : Sc := bif b then .bl c else .bs c
theorem mkB_R {T : Tg} {b c : Bool} : (mkB b c).R T (.bool c) := by cases b <;> rfl

def litN : Sc → Option Nat
  | .lit _ (.ofNat n) => some n
  | _ => none
theorem litN_ok {T : Tg} {s : Sc} {n : Nat} {x : Value} (h : litN s = some n) (hs : s.R T x) : ∃ k, x = .int k (n : Int) := by
  unfold litN at h
  split at h
  · cases h; exact ⟨_, hs.1⟩
  · cases h

def ptr : Sc → Option (Nat × Nat)
  | .p t o => some (t, o)
  | _ => none
theorem ptr_ok {T : Tg} {s : Sc} {t o : Nat} {x : Value} (h : ptr s = some (t, o)) (hs : s.R T x) : ∃ b, T t = some b ∧ x = .pointer (some ⟨b.blk, b.off + o, none⟩) := by
  unfold ptr at h
  split at h
  · cases h; exact hs
  · cases h

/-- A slice: block, place, length. -/
def slp : Sc → Option (Nat × Nat × Nat)
  | .sl t o l _ => some (t, o, l)
  | .slu t o l => some (t, o, l)
  | _ => none
theorem slp_ok {T : Tg} {s : Sc} {t o l : Nat} {x : Value} (h : slp s = some (t, o, l)) (hs : s.R T x) : ∃ b c, T t = some b ∧ x = .slice (some ⟨b.blk, b.off + o, none⟩) l c := by
  unfold slp at h
  split at h
  · cases h; obtain ⟨b, h1, h2⟩ := hs; exact ⟨b, _, h1, h2⟩
  · cases h; obtain ⟨b, h1, h2, _⟩ := hs; exact ⟨b, _, h1, h2⟩
  · cases h

theorem wrap_idem (k : IntKind) (n : Int) : k.wrap (k.wrap n) = k.wrap n := by
  have key : ∀ M m : Int, (n % M - M) % M = n % M ∧ n % M % M = n % M := by
    intro M m
    refine ⟨?_, Int.emod_emod_of_dvd n (Int.dvd_refl M)⟩
    rw [Int.sub_emod_right, Int.emod_emod_of_dvd n (Int.dvd_refl M)]
  have h2 := key (2 ^ k.bits) 0
  unfold IntKind.wrap
  by_cases h : (k.signed && decide (n % (2 ^ k.bits : Int) ≥ (2 ^ (k.bits - 1) : Int))) = true
  · simp only [h, if_true, h2.1]
  · simp only [h, if_false, h2.2, Bool.false_eq_true]

end Go.Proofs.Ytdaheccfeihpgaa.Nm

/-
  The operations whose outcome hangs on what they read alone.
-/
namespace Go.Proofs.Ytdaheccfeihpgaa.Nm
open Go Go.RowKit

theorem addr_add (b o n : Nat) : (⟨b, o, none⟩ : Addr).add n = ⟨b, o + n, none⟩ := by
  unfold Addr.add
  split
  · rename_i h; subst h; rfl
  · rfl

/-! ### Numbers -/
def ibin (op : BinOp) (k : IntKind) (x y : Int) : Option Int :=
  match op with
  | .add => some (k.wrap (x + y))
  | .sub => some (k.wrap (x - y))
  | .mul => some (k.wrap (x * y))
  | .and => some (bits .and k x y)
  | .or => some (bits .or k x y)
  | .xor => some (bits .xor k x y)
  | _ => none

def isShift : BinOp → Bool
  | .shl => true
  | .shr => true
  | _ => false

def ishift (op : BinOp) (k : IntKind) (x : Int) (n : Nat) : Option Int :=
  match op with
  | .shl => some (k.wrap (x * 2 ^ n))
  | .shr => some (k.wrap (x.fdiv (2 ^ n)))
  | _ => none

def idiv (op : BinOp) (k : IntKind) (x y : Int) : Option Int :=
  match op with
  | .quo => some (k.wrap (x.tdiv y))
  | .rem => some (k.wrap (x.tmod y))
  | _ => none

def icmp (op : BinOp) (x y : Int) : Option Bool :=
  match op with
  | .eql => some (decide (x = y))
  | .neq => some (!decide (x = y))
  | .lss => some (decide (x < y))
  | .leq => some (decide (x ≤ y))
  | .gtr => some (decide (y < x))
  | .geq => some (decide (y ≤ x))
  | _ => none

theorem within_wrap {k : IntKind} {n : Int} (h : k.wrap n = n) : k.min ≤ n ∧ n ≤ k.max := by rw [← h]; exact wrap_within k n
theorem wrap_of {k : IntKind} {n : Int} (h1 : k.min ≤ n) (h2 : n ≤ k.max) : k.wrap n = n := by
  cases k <;> simp [IntKind.wrap, IntKind.min, IntKind.max, IntKind.bits, IntKind.signed] at * <;> (try split) <;> omega

theorem wrap_shr {k : IntKind} {x : Int} (h : k.wrap x = x) (n : Nat) : k.wrap (x.fdiv (2 ^ n)) = x.fdiv (2 ^ n) := by
  obtain ⟨h1, h2⟩ := within_wrap h
  have hp : (0 : Int) < 2 ^ n := Int.pow_pos (by omega)
  have hm : k.min ≤ 0 ∧ 0 ≤ k.max := by cases k <;> decide
  rw [Int.fdiv_eq_ediv_of_nonneg _ (Int.le_of_lt hp)]
  have h1p : (1 : Int) ≤ 2 ^ n := by omega
  refine wrap_of ?_ ?_
  · rcases Int.le_total 0 x with hx | hx
    · exact Int.le_trans hm.1 (Int.ediv_nonneg hx (Int.le_of_lt hp))
    · refine Int.le_trans h1 ?_
      rw [Int.le_ediv_iff_mul_le hp]
      calc x * 2 ^ n ≤ x * 1 := Int.mul_le_mul_of_nonpos_left hx h1p
        _ = x := Int.mul_one x
  · rcases Int.le_total 0 x with hx | hx
    · exact Int.le_trans (Int.ediv_le_self _ hx) h2
    · refine Int.le_trans ?_ hm.2
      have : x / 2 ^ n ≤ 0 := by
        have := Int.ediv_le_ediv hp hx
        simpa using this
      exact this

theorem wrap_rem {k : IntKind} {x y : Int} (h : k.wrap x = x) : k.wrap (x.tmod y) = x.tmod y := by
  obtain ⟨h1, h2⟩ := within_wrap h
  have hm : k.min ≤ 0 ∧ 0 ≤ k.max := by cases k <;> decide
  refine wrap_of ?_ ?_
  · rcases Int.le_total 0 x with hx | hx
    · exact Int.le_trans hm.1 (Int.tmod_nonneg _ hx)
    · have e : x.tmod y = - ((-x).tmod y) := by rw [Int.neg_tmod]; omega
      have h3 : (-x).tmod y ≤ -x := by
        have := Int.tmod_nonneg y (a := -x) (by omega)
        have h4 : ((-x).tmod y).natAbs ≤ (-x).natAbs := by rw [Int.natAbs_tmod]; exact Nat.mod_le _ _
        omega
      omega
  · rcases Int.le_total 0 x with hx | hx
    · have h3 : x.tmod y ≤ x := by
        have := Int.tmod_nonneg y hx
        have h4 : (x.tmod y).natAbs ≤ x.natAbs := by rw [Int.natAbs_tmod]; exact Nat.mod_le _ _
        omega
      omega
    · have e : x.tmod y = - ((-x).tmod y) := by rw [Int.neg_tmod]; omega
      have := Int.tmod_nonneg y (a := -x) (by omega)
      omega

theorem eqGuard_int {P : Program} {w : World} (op : BinOp) (t : TypeId) (x y : Operand) (k k' : IntKind) (a b : Int) : (eqGuard op t x y (.int k a) (.int k' b)).run P w = .ok () w := by
  unfold eqGuard
  split <;> rfl

/-- Two numbers. -/
def dqInt0 (op : BinOp) (s r : Sc) : Option Sc := match num s, num r with
  | some (b1, k, x), some (b2, k', y) =>
    bif isShift op then match r with
      | .lit _ (.ofNat n) => bif Nat.ble n k.bits then (ishift op k x n).map fun z => mkN b1 k z else none
      | _ => none
    else bif decide (k = k') then
      match ibin op k x y with
      | some z => some (mkN (b1 && b2) k z)
      | none => match icmp op x y with
        | some c => some (mkB (b1 && b2) c)
        | none => match r with
          | .lit _ (.ofNat (n + 1)) => (idiv op k x (n + 1 : Nat)).map fun z => mkN b1 k z
          | _ => none
    else none
  | _, _ => none

theorem dqInt0_ok {P : Program} {w : World} {T : Tg} {op : BinOp} {s r z : Sc} {x y : Value} (hs : s.R T x) (hr : r.R T y) (h : dqInt0 op s r = some z) (t : TypeId) (p q : Operand) :
    ∃ v, (do eqGuard op t p q x y; binOp op t x y : Sem Value).run P w = .ok v w ∧ z.R T v := by
  unfold dqInt0 at h
  split at h
  · rename_i b1 k x1 b2 k' y1 e1 e2
    obtain ⟨rfl, w1⟩ := num_ok e1 hs
    obtain ⟨rfl, w2⟩ := num_ok e2 hr
    simp only [Sem.run_bind, eqGuard_int, Result.andThen_ok]
    cases hsh : isShift op with
    | true =>
      rw [hsh] at h
      simp only [cond_true] at h
      split at h
      · rename_i k2 n
        simp only [num, Option.some.injEq, Prod.mk.injEq] at e2
        obtain ⟨_, rfl, rfl⟩ := e2
        cases hb : Nat.ble n k.bits with
        | false => rw [hb] at h; cases h
        | true =>
          rw [hb] at h
          have hn := Nat.le_of_ble_eq_true hb
          simp only [cond_true, Option.map_eq_some_iff] at h
          obtain ⟨z', hz, rfl⟩ := h
          have hneg : ¬ ((Int.ofNat n : Int) < 0) := by simp
          have hmin : min (Int.ofNat n).toNat k.bits = n := by
            show min n k.bits = n
            omega
          cases op <;> simp only [isShift, Bool.false_eq_true] at hsh <;> simp only [ishift, Option.some.injEq] at hz <;> subst hz <;> simp only [binOp, Op.shift, hneg, if_false, hmin]
          · exact ⟨_, rfl, mkN_R (wrap_idem _ _)⟩
          · refine ⟨_, rfl, ?_⟩
            rw [wrap_shr w1]
            exact mkN_R (wrap_shr w1 n)
      · cases h
    | false =>
      rw [hsh] at h
      simp only [cond_false] at h
      cases hk : decide (k = k') with
      | false => rw [hk] at h; cases h
      | true =>
        rw [hk] at h
        have hk := of_decide_eq_true hk
        subst hk
        simp only [cond_true] at h
        split at h
        · rename_i z' hz
          simp only [Option.some.injEq] at h
          subst h
          cases op <;> simp only [ibin, Option.some.injEq, reduceCtorEq] at hz <;> subst hz <;> simp only [binOp, ne_eq, not_true_eq_false, if_false, Op.intArith, Op.intBits]
          · exact ⟨_, rfl, mkN_R (wrap_idem _ _)⟩
          · exact ⟨_, rfl, mkN_R (wrap_idem _ _)⟩
          · exact ⟨_, rfl, mkN_R (wrap_idem _ _)⟩
          all_goals
            refine ⟨_, rfl, mkN_R ?_⟩
            unfold bits
            exact wrap_idem _ _
        · split at h
          · rename_i hi c hc
            simp only [Option.some.injEq] at h
            subst h
            cases op <;> simp only [icmp, Option.some.injEq, reduceCtorEq] at hc <;> subst hc <;> simp only [binOp, ne_eq, not_true_eq_false, if_false, Op.intCmp]
            · refine ⟨_, rfl, ?_⟩
              have : (x1 == y1) = decide (x1 = y1) := by by_cases e : x1 = y1 <;> simp [e]
              rw [this]; exact mkB_R
            · refine ⟨_, rfl, ?_⟩
              have : (x1 != y1) = !decide (x1 = y1) := by by_cases e : x1 = y1 <;> simp [e]
              rw [this]; exact mkB_R
            · exact ⟨_, rfl, mkB_R⟩
            · exact ⟨_, rfl, mkB_R⟩
            · exact ⟨_, rfl, mkB_R⟩
            · exact ⟨_, rfl, mkB_R⟩
          · rename_i hi hc
            split at h
            · rename_i k2 n
              simp only [num, Option.some.injEq, Prod.mk.injEq] at e2
              obtain ⟨_, rfl, rfl⟩ := e2
              simp only [Option.map_eq_some_iff] at h
              obtain ⟨z', hz, rfl⟩ := h
              have hne : ¬ ((Int.ofNat (n + 1) : Int) = 0) := by
                intro e
                cases e
              cases op <;> simp only [idiv, Option.some.injEq, reduceCtorEq] at hz <;> subst hz <;> simp only [binOp, ne_eq, not_true_eq_false, if_false, Op.intDiv, hne]
              · exact ⟨_, rfl, mkN_R (wrap_idem _ _)⟩
              · refine ⟨_, rfl, ?_⟩
                rw [wrap_rem w1]
                exact mkN_R (wrap_rem w1)
            · cases h
  · cases h

theorem eqGuard_str {P : Program} {w : World} (op : BinOp) (t : TypeId) (x y : Operand) (a b : ByteArray) : (eqGuard op t x y (.string a) (.string b)).run P w = .ok () w := by
  unfold eqGuard
  split <;> rfl

/-- Two numbers, or two strings for equality. -/
def dqInt (op : BinOp) (s r : Sc) : Option Sc := match op, s, r with
  | .eql, .val (.string a), .val (.string b) => some (.bs (a.toList == b.toList))
  | op, s, r => dqInt0 op s r

theorem dqInt_ok {P : Program} {w : World} {T : Tg} {op : BinOp} {s r z : Sc} {x y : Value} (hs : s.R T x) (hr : r.R T y) (h : dqInt op s r = some z) (t : TypeId) (p q : Operand) :
    ∃ v, (do eqGuard op t p q x y; binOp op t x y : Sem Value).run P w = .ok v w ∧ z.R T v := by
  unfold dqInt at h
  split at h
  · rename_i a b
    cases h
    obtain ⟨rfl, _⟩ := hs
    obtain ⟨rfl, _⟩ := hr
    exact ⟨.bool (a.toList == b.toList), by simp [eqGuard_str, Result.andThen_ok, binOp_string_eql], rfl⟩
  · exact dqInt0_ok hs hr h t p q

/-- What is reckoned is a number or a truth value. -/
def isNB : Sc → Bool
  | .lit _ _ => true
  | .sym _ _ => true
  | .bl _ => true
  | .bs _ => true
  | _ => false
theorem isNB_mkN (b : Bool) (k : IntKind) (z : Int) : isNB (mkN b k z) = true := by cases b <;> rfl
theorem isNB_mkB (b : Bool) (c : Bool) : isNB (mkB b c) = true := by cases b <;> rfl
theorem dqInt_nb {op : BinOp} {s r z : Sc} (h : dqInt op s r = some z) : isNB z = true := by
  unfold dqInt at h
  split at h
  · cases h; rfl
  · unfold dqInt0 at h
    split at h
    · rename_i b1 k x1 b2 k' y1 ea eb
      clear ea eb
      cases hsh : isShift op with
      | true =>
        rw [hsh] at h
        simp only [cond_true] at h
        split at h
        · revert h
          cases Nat.ble _ k.bits with
          | false => intro h; cases h
          | true =>
            intro h
            obtain ⟨u, _, rfl⟩ := Option.map_eq_some_iff.1 h
            exact isNB_mkN _ _ _
        · cases h
      | false =>
        rw [hsh] at h
        simp only [cond_false] at h
        cases hk : decide (k = k') with
        | false => rw [hk] at h; cases h
        | true =>
          rw [hk] at h
          simp only [cond_true] at h
          split at h
          · cases h; exact isNB_mkN _ _ _
          · split at h
            · cases h; exact isNB_mkB _ _
            · split at h
              · obtain ⟨u, _, rfl⟩ := Option.map_eq_some_iff.1 h
                exact isNB_mkN _ _ _
              · cases h
    · cases h

end Go.Proofs.Ytdaheccfeihpgaa.Nm

