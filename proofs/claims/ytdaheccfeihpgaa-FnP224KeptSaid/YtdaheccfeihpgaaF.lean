import Derived.StillTail
import Derived.Test.YtdaheccfeihpgaaE
/-
  Regions whose order is drawn.
-/
/-
  A region whose order is drawn: operations whose outcome hangs on what they read alone may come in any order that their edges allow.
-/
namespace Go.Proofs.Ytdaheccfeihpgaa.Nm
open Go Go.RowKit

/-- An operation that has been run: its place, its temporary, what it waits for (bits), its value, the first tag of its blocks, its blocks. -/
structure Rw where
  idx : Nat
  dst : Nat
  mask : Nat
  v : Option V
  base : Nat
  fr : List (List Pc)

def findMask : List Rw → Nat → Nat
  | [], _ => 0
  | r :: rs, j => bif Nat.beq r.idx j then r.mask else findMask rs j

def maskOf (acc : List Rw) : List Edge → Nat
  | [] => 0
  | e :: r => bif Region.binds .any e then Nat.lor (Nat.lor (2 ^ e.on) (findMask acc e.on)) (maskOf acc r) else maskOf acc r

def edgesLt (i : Nat) : List Edge → Bool
  | [] => true
  | e :: r => (!Region.binds .any e || Nat.blt e.on i) && edgesLt i r

def envI (mask : Nat) : List Rw → Env
  | [] => []
  | r :: rs => bif mask.testBit r.idx then match r.v with
      | some v => (r.dst, v) :: envI mask rs
      | none => envI mask rs
    else envI mask rs

def memI (mask : Nat) (m : Mem) : List Rw → Mem
  | [] => m
  | r :: rs => bif mask.testBit r.idx then addF (memI mask m rs) r.base r.fr else memI mask m rs

def noDst (d : Nat) : List Rw → Bool
  | [] => true
  | r :: rs => !Nat.beq r.dst d && noDst d rs

def findV (mask j : Nat) : List Rw → Option Bool
  | [] => none
  | r :: rs => bif Nat.beq r.idx j then bif mask.testBit j then match r.v with
      | some (.s (.bl c)) => some c
      | _ => none
    else none else findV mask j rs

def opRes (B : Tb) (E : Env) (M : Mem) (nt mask : Nat) (acc : List Rw) (o : Oper) : Option (Option V × List (List Pc)) :=
  match o.guard with
  | none => match dq B E M nt o.op with
    | some (v, fr) => some (some v, fr)
    | none => none
  | some (j, want) => match findV mask j acc with
    | some c => bif c == want then match dq B E M nt o.op with
        | some (v, fr) => some (some v, fr)
        | none => none
      else some (none, [])
    | none => none

def drGo (B : Tb) (e0 : Env) (m0 : Mem) : List Oper → Nat → Nat → List Rw → Option (List Rw × Nat)
  | [], _, nt, acc => some (acc, nt)
  | o :: r, i, nt, acc => match o.dst with
    | none => none
    | some d => bif Nat.blt d B.n && noDst d acc && edgesLt i o.after.toList then
        match opRes B (envI (maskOf acc o.after.toList) acc ++ e0) (memI (maskOf acc o.after.toList) m0 acc) nt (maskOf acc o.after.toList) acc o with
        | some (v, fr) => drGo B e0 m0 r (i + 1) (nt + fr.length) (⟨i, d, maskOf acc o.after.toList, v, nt, fr⟩ :: acc)
        | none => none
      else none

/-- What a call yields is known otherwise. -/
def CallOk (P : Program) (B : Tb) (E : Env) (M : Mem) (nt mask : Nat) (acc : List Rw) (o : Oper) (v : Option V) (fr : List (List Pc)) : Prop :=
  (∃ f args tys, o.op = .call ⟨.value (.func f), args, tys⟩) ∧ (o.guard = none ∨ ∃ j want, o.guard = some (j, want) ∧ findV mask j acc = some want) ∧
    ∃ u, v = some u ∧ ∀ (wr : Nat → Bool) (T : Tg) (a : Act) (w : World), FrV T B.n a E → MOk wr T w M → Free T nt fr.length → Does P o.op a w (Grew wr T w M nt u fr)
def OpOk (P : Program) (B : Tb) (E : Env) (M : Mem) (nt mask : Nat) (acc : List Rw) (o : Oper) (v : Option V) (fr : List (List Pc)) : Prop :=
  opRes B E M nt mask acc o = some (v, fr) ∨ CallOk P B E M nt mask acc o v fr

inductive Built (P : Program) (B : Tb) (e0 : Env) (m0 : Mem) (ops : Array Oper) (nt0 : Nat) : Nat → Nat → List Rw → Prop where
  | nil : Built P B e0 m0 ops nt0 0 nt0 []
  | cons {i nt acc o d v v' fr} : Built P B e0 m0 ops nt0 i nt acc → ops[i]? = some o → o.dst = some d → d < B.n → noDst d acc = true → edgesLt i o.after.toList = true →
      OpOk P B (envI (maskOf acc o.after.toList) acc ++ e0) (memI (maskOf acc o.after.toList) m0 acc) nt (maskOf acc o.after.toList) acc o v fr →
      (∀ u, v' = some u → ∃ u', v = some u' ∧ ∀ T x, u'.R T x → u.R T x) →
      Built P B e0 m0 ops nt0 (i + 1) (nt + fr.length) (⟨i, d, maskOf acc o.after.toList, v', nt, fr⟩ :: acc)

section
variable {P : Program} {B : Tb} {wr : Nat → Bool} {e0 : Env} {m0 : Mem} {ops : Array Oper} {nt0 : Nat}

theorem drGo_built : ∀ (l : List Oper) (i nt : Nat) (acc R : List Rw) (nt' : Nat), (∀ k, k < l.length → l[k]? = ops[i + k]?) → Built P B e0 m0 ops nt0 i nt acc → drGo B e0 m0 l i nt acc = some (R, nt') → Built P B e0 m0 ops nt0 (i + l.length) nt' R
  | [], i, nt, acc, R, nt', _, hb, h => by
    simp only [drGo, Option.some.injEq, Prod.mk.injEq] at h
    obtain ⟨rfl, rfl⟩ := h
    simpa using hb
  | o :: r, i, nt, acc, R, nt', hl, hb, h => by
    simp only [drGo] at h
    split at h
    · cases h
    · rename_i d hd
      cases hc : Nat.blt d B.n && noDst d acc && edgesLt i o.after.toList with
      | false => rw [hc] at h; cases h
      | true =>
        rw [hc] at h
        simp only [cond_true] at h
        simp only [Bool.and_eq_true, Nat.blt_eq] at hc
        split at h
        · rename_i v fr hres
          have h0 : ops[i]? = some o := by
            have := hl 0 (by simp)
            simpa using this.symm
          have := drGo_built r (i + 1) _ _ R nt' (fun k hk => by
            have := hl (k + 1) (by simp; omega)
            simp only [List.getElem?_cons_succ] at this
            rw [this]; congr 1; omega) (.cons hb h0 hd hc.1.1 hc.1.2 hc.2 (.inl hres) (fun u h => ⟨u, h, fun _ _ h => h⟩)) h
          have e : i + 1 + r.length = i + (o :: r).length := by simp; omega
          rwa [e] at this
        · cases h

/-- What is known of an entry. -/
structure RwOk (P : Program) (B : Tb) (e0 : Env) (m0 : Mem) (ops : Array Oper) (nt0 : Nat) (r : Rw) (suf : List Rw) : Prop where
  built : Built P B e0 m0 ops nt0 r.idx r.base suf
  op : ∃ o, ops[r.idx]? = some o ∧ o.dst = some r.dst ∧ r.dst < B.n ∧ noDst r.dst suf = true ∧ edgesLt r.idx o.after.toList = true ∧ r.mask = maskOf suf o.after.toList ∧
    ∃ v0, OpOk P B (envI r.mask suf ++ e0) (memI r.mask m0 suf) r.base r.mask suf o v0 r.fr ∧ ∀ u, r.v = some u → ∃ u', v0 = some u' ∧ ∀ T x, u'.R T x → u.R T x

theorem Built.mem {i nt : Nat} {R : List Rw} (h : Built P B e0 m0 ops nt0 i nt R) : ∀ r ∈ R, ∃ pre suf, R = pre ++ r :: suf ∧ RwOk P B e0 m0 ops nt0 r suf ∧ r.idx < i ∧ r.base + r.fr.length ≤ nt ∧ nt0 ≤ r.base := by
  induction h with
  | nil => intro r hr; cases hr
  | @cons i nt acc o d v v' fr hb ho hd hn hnd he hres hw ih =>
    have hnt : ∀ {i nt R}, Built P B e0 m0 ops nt0 i nt R → nt0 ≤ nt := by
      intro i nt R h
      induction h with
      | nil => exact Nat.le_refl _
      | cons _ _ _ _ _ _ _ ih => omega
    intro r hr
    simp only [List.mem_cons] at hr
    rcases hr with rfl | hr
    · exact ⟨[], acc, rfl, ⟨hb, o, ho, hd, hn, hnd, he, rfl, v, hres, hw⟩, by simp, Nat.le_refl _, hnt hb⟩
    · obtain ⟨pre, suf, rfl, h1, h2, h3, h4⟩ := ih r hr
      exact ⟨_ :: pre, suf, rfl, h1, by omega, by omega, h4⟩

theorem Built.idx {i nt : Nat} {R : List Rw} (h : Built P B e0 m0 ops nt0 i nt R) : ∀ k, k < i → ∃ r ∈ R, r.idx = k := by
  induction h with
  | nil => intro k hk; omega
  | @cons i nt acc o d v v' fr hb ho hd hn hnd he hres hw ih =>
    intro k hk
    by_cases e : k = i
    · exact ⟨_, List.mem_cons_self .., e.symm⟩
    · obtain ⟨r, hr, hi⟩ := ih k (by omega)
      exact ⟨r, List.mem_cons_of_mem _ hr, hi⟩

theorem Built.apart {i nt : Nat} {R : List Rw} (h : Built P B e0 m0 ops nt0 i nt R) : ∀ r ∈ R, ∀ r' ∈ R, (r.idx = r'.idx → r = r') ∧ (r.idx < r'.idx → r.base + r.fr.length ≤ r'.base) ∧ (r.idx ≠ r'.idx → r.dst ≠ r'.dst) := by
  induction h with
  | nil => intro r hr; cases hr
  | @cons i nt acc o d v v' fr hb ho hd hn hnd he hres hw ih =>
    have hdst : ∀ {acc : List Rw} {d : Nat}, noDst d acc = true → ∀ r ∈ acc, r.dst ≠ d := by
      intro acc
      induction acc with
      | nil => intro d _ r hr; cases hr
      | cons x xs ih =>
        intro d hd r hr
        simp only [noDst, Bool.and_eq_true, Bool.not_eq_true'] at hd
        simp only [List.mem_cons] at hr
        rcases hr with rfl | hr
        · exact Nat.ne_of_beq_eq_false hd.1
        · exact ih hd.2 r hr
    intro r hr r' hr'
    simp only [List.mem_cons] at hr hr'
    rcases hr with rfl | hr <;> rcases hr' with rfl | hr'
    · exact ⟨fun _ => rfl, fun h => absurd h (Nat.lt_irrefl _), fun h => absurd rfl h⟩
    · obtain ⟨_, _, _, _, h2, _⟩ := hb.mem r' hr'
      refine ⟨fun h => ?_, fun h => ?_, fun _ => (hdst hnd r' hr').symm⟩
      · simp only at h; omega
      · simp only at h; omega
    · obtain ⟨_, _, _, _, h2, h3, _⟩ := hb.mem r hr
      refine ⟨fun h => ?_, fun _ => h3, fun _ => hdst hnd r hr⟩
      simp only at h; omega
    · exact ih r hr r' hr'

/-! ### The bits -/
def Closed (ops : Array Oper) (L : Array Bool) : Prop := ∀ j oj, ops[j]? = some oj → L.getD j false = true → ∀ e ∈ oj.after, Region.binds .any e = true → L.getD e.on false = true
def Cov (L : Array Bool) (mask : Nat) : Prop := ∀ j, mask.testBit j = true → L.getD j false = true
def Direct (L : Array Bool) (es : List Edge) : Prop := ∀ e ∈ es, Region.binds .any e = true → L.getD e.on false = true

theorem cov_zero (L : Array Bool) : Cov L 0 := by intro j h; simp at h
theorem cov_or {L : Array Bool} {a b : Nat} (ha : Cov L a) (hb : Cov L b) : Cov L (Nat.lor a b) := by
  intro j h
  have h : (a ||| b).testBit j = true := h
  rw [Nat.testBit_or, Bool.or_eq_true] at h
  rcases h with h | h
  · exact ha j h
  · exact hb j h
theorem cov_pow {L : Array Bool} {i : Nat} (h : L.getD i false = true) : Cov L (2 ^ i) := by
  intro j hj
  rw [Nat.testBit_two_pow] at hj
  have : i = j := of_decide_eq_true hj
  subst this; exact h

theorem cov_mask {L : Array Bool} {acc : List Rw} (hacc : ∀ r ∈ acc, L.getD r.idx false = true → Cov L r.mask) : ∀ {es : List Edge}, Direct L es → Cov L (maskOf acc es)
  | [], _ => cov_zero L
  | e :: r, h => by
    have hr := cov_mask hacc (es := r) fun e' he' => h e' (List.mem_cons_of_mem _ he')
    simp only [maskOf]
    cases hb : Region.binds .any e with
    | false => exact hr
    | true =>
      have he := h e (List.mem_cons_self ..) hb
      refine cov_or (cov_or (cov_pow he) ?_) hr
      have aux : ∀ {l : List Rw}, (∀ r ∈ l, L.getD r.idx false = true → Cov L r.mask) → Cov L (findMask l e.on) := by
        intro l
        induction l with
        | nil => intro _; exact cov_zero L
        | cons x xs ih =>
          intro hl
          simp only [findMask]
          cases hx : Nat.beq x.idx e.on with
          | true =>
            have := Nat.eq_of_beq_eq_true hx
            exact hl x (List.mem_cons_self ..) (by rw [this]; exact he)
          | false => exact ih fun r hr => hl r (List.mem_cons_of_mem _ hr)
      exact aux hacc

theorem Built.cov {i nt : Nat} {R : List Rw} (h : Built P B e0 m0 ops nt0 i nt R) {L : Array Bool} (hL : Closed ops L) : ∀ r ∈ R, L.getD r.idx false = true → Cov L r.mask := by
  induction h with
  | nil => intro r hr; cases hr
  | @cons i nt acc o d v v' fr hb ho hd hn hnd he hres hw ih =>
    intro r hr hl
    simp only [List.mem_cons] at hr
    rcases hr with rfl | hr
    · exact cov_mask ih fun e he' hb' => hL i o ho hl e (by simpa using he') hb'
    · exact ih r hr hl

/-! ### Lookups -/
theorem lkp_append {α : Type} {a b : List (Nat × α)} {i : Nat} {v : α} (h : lkp (a ++ b) i = some v) : lkp a i = some v ∨ lkp b i = some v := by
  induction a with
  | nil => exact .inr h
  | cons x r ih =>
    obtain ⟨j, u⟩ := x
    simp only [List.cons_append, lkp] at h ⊢
    cases hb : Nat.beq j i with
    | true => rw [hb] at h; exact .inl h
    | false => rw [hb] at h; simp only [cond_false] at h ⊢; exact ih h

theorem lkp_cons {α : Type} {j : Nat} {u : α} {r : List (Nat × α)} {i : Nat} {v : α} (h : lkp ((j, u) :: r) i = some v) : (j = i ∧ u = v) ∨ lkp r i = some v := by
  simp only [lkp] at h
  cases hb : Nat.beq j i with
  | true => rw [hb] at h; exact .inl ⟨Nat.eq_of_beq_eq_true hb, by simpa using h⟩
  | false => rw [hb] at h; exact .inr h

theorem lkp_envI {mask : Nat} {i : Nat} {v : V} : ∀ {l : List Rw}, lkp (envI mask l) i = some v → ∃ r ∈ l, mask.testBit r.idx = true ∧ r.dst = i ∧ r.v = some v
  | [], h => by cases h
  | r :: rs, h => by
    simp only [envI] at h
    have hrec : lkp (envI mask rs) i = some v → ∃ r' ∈ r :: rs, mask.testBit r'.idx = true ∧ r'.dst = i ∧ r'.v = some v := fun h' => by
      obtain ⟨r', h1, h2⟩ := lkp_envI h'
      exact ⟨r', List.mem_cons_of_mem _ h1, h2⟩
    cases hb : mask.testBit r.idx with
    | false => rw [hb] at h; exact hrec h
    | true =>
      rw [hb] at h
      simp only [cond_true] at h
      split at h
      · rename_i u hu
        rcases lkp_cons h with ⟨h1, rfl⟩ | h
        · exact ⟨r, List.mem_cons_self .., hb, h1, hu⟩
        · exact hrec h
      · exact hrec h

theorem lkp_addF : ∀ {fr : List (List Pc)} {m : Mem} {nt t : Nat} {l : List Pc}, lkp (addF m nt fr) t = some l → (∃ k, t = nt + k ∧ fr[k]? = some l) ∨ lkp m t = some l
  | [], m, nt, t, l, h => .inr h
  | x :: r, m, nt, t, l, h => by
    simp only [addF] at h
    rcases lkp_addF h with ⟨k, rfl, hk⟩ | h
    · exact .inl ⟨k + 1, by omega, by simpa using hk⟩
    · rcases lkp_cons h with ⟨rfl, rfl⟩ | h
      · exact .inl ⟨0, rfl, rfl⟩
      · exact .inr h

theorem lkp_addF_lt : ∀ {fr : List (List Pc)} {m : Mem} {nt t : Nat}, t < nt → lkp (addF m nt fr) t = lkp m t
  | [], _, _, _, _ => rfl
  | x :: r, m, nt, t, h => by
    simp only [addF]
    rw [lkp_addF_lt (by omega)]
    simp only [lkp]
    cases hb : Nat.beq nt t with
    | true => have := Nat.eq_of_beq_eq_true hb; omega
    | false => rfl

theorem lkp_addF_get : ∀ {fr : List (List Pc)} {m : Mem} {nt k : Nat} {l : List Pc}, fr[k]? = some l → lkp (addF m nt fr) (nt + k) = some l
  | [], _, _, _, _, h => by cases h
  | x :: r, m, nt, k, l, h => by
    simp only [addF]
    cases k with
    | zero =>
      simp only [List.getElem?_cons_zero, Option.some.injEq] at h
      subst h
      rw [Nat.add_zero, lkp_addF_lt (by omega)]
      simp [lkp, Nat.beq_refl]
    | succ k =>
      have := lkp_addF_get (m := (nt, x) :: m) (nt := nt + 1) (k := k) (l := l) (fr := r) (by simpa using h)
      rw [← this]; congr 1; omega

theorem lkp_memI {mask t : Nat} {m : Mem} {l : List Pc} : ∀ {rs : List Rw}, lkp (memI mask m rs) t = some l → (∃ r ∈ rs, mask.testBit r.idx = true ∧ ∃ k, t = r.base + k ∧ r.fr[k]? = some l) ∨ lkp m t = some l
  | [], h => .inr h
  | r :: rs, h => by
    simp only [memI] at h
    have hrec : lkp (memI mask m rs) t = some l → (∃ r' ∈ r :: rs, mask.testBit r'.idx = true ∧ ∃ k, t = r'.base + k ∧ r'.fr[k]? = some l) ∨ lkp m t = some l := fun h' => by
      rcases lkp_memI h' with ⟨r', h1, h2⟩ | h'
      · exact .inl ⟨r', List.mem_cons_of_mem _ h1, h2⟩
      · exact .inr h'
    cases hb : mask.testBit r.idx with
    | false => rw [hb] at h; exact hrec h
    | true =>
      rw [hb] at h
      simp only [cond_true] at h
      rcases lkp_addF h with ⟨k, h1, h2⟩ | h
      · exact .inl ⟨r, List.mem_cons_self .., hb, k, h1, h2⟩
      · exact hrec h

/-! ### Any order -/
/-- What holds while the operations of the head come up. -/
structure DInv (B : Tb) (wr : Nat → Bool) (e0 : Env) (m0 : Mem) (nt0 nt' : Nat) (R : List Rw) (T0 : Tg) (w0 : World) (L : Array Bool) (a : Act) (w : World) (T : Tg) : Prop where
  le : T0.le T
  asz : a.tmps.size = B.n
  defers : a.defers = []
  e0 : ∀ i v, lkp e0 i = some v → v.R T (a.tmps.getD i undef)
  val : ∀ r ∈ R, L.getD r.idx false = true → ∀ v, r.v = some v → v.R T (a.tmps.getD r.dst undef)
  blk : ∀ r ∈ R, L.getD r.idx false = true → ∀ k l, r.fr[k]? = some l → BlockOk T w (r.base + k) l
  unl : ∀ r ∈ R, L.getD r.idx false = false → ∀ k, k < r.fr.length → T (r.base + k) = none
  hi : ∀ t, nt' ≤ t → T t = none
  m0 : MOk wr T w m0
  bel : Below w0.heap.size w0 w
  newer : Newer T0 T w0
  low : ∀ t, T0 t = none → t < nt0 → T t = none

theorem DInv.frv {nt' : Nat} {R : List Rw} {T0 T : Tg} {w0 w : World} {L : Array Bool} {a : Act} (h : DInv B wr e0 m0 nt0 nt' R T0 w0 L a w T) {mask : Nat} (hc : Cov L mask) {suf : List Rw} (hs : ∀ r ∈ suf, r ∈ R) : FrV T B.n a (envI mask suf ++ e0) := by
  refine ⟨h.asz, h.defers, fun i v hi => ?_⟩
  rcases lkp_append hi with hi | hi
  · obtain ⟨r, h1, h2, rfl, h4⟩ := lkp_envI hi
    exact h.val r (hs r h1) (hc _ h2) v h4
  · exact h.e0 i v hi

theorem DInv.mok {nt' : Nat} {R : List Rw} {T0 T : Tg} {w0 w : World} {L : Array Bool} {a : Act} (h : DInv B wr e0 m0 nt0 nt' R T0 w0 L a w T) {mask : Nat} (hc : Cov L mask) {suf : List Rw} (hs : ∀ r ∈ suf, r ∈ R) : MOk wr T w (memI mask m0 suf) := by
  refine ⟨h.m0.sep, h.m0.lt, fun t l hl => ?_⟩
  rcases lkp_memI hl with ⟨r, h1, h2, k, rfl, h4⟩ | hl
  · exact h.blk r (hs r h1) (hc _ h2) k l h4
  · exact h.m0.at_ t l hl

theorem findV_ok {mask j : Nat} {c : Bool} : ∀ {l : List Rw}, findV mask j l = some c → ∃ r ∈ l, r.idx = j ∧ mask.testBit j = true ∧ r.v = some (.s (.bl c))
  | [], h => by cases h
  | r :: rs, h => by
    simp only [findV] at h
    cases hb : Nat.beq r.idx j with
    | true =>
      rw [hb] at h
      simp only [cond_true] at h
      cases hm : mask.testBit j with
      | false => rw [hm] at h; cases h
      | true =>
        rw [hm] at h
        simp only [cond_true] at h
        split at h
        · rename_i c' hv
          cases h
          exact ⟨r, List.mem_cons_self .., Nat.eq_of_beq_eq_true hb, rfl, hv⟩
        · cases h
    | false =>
      rw [hb] at h
      obtain ⟨r', h1, h2⟩ := findV_ok h
      exact ⟨r', List.mem_cons_of_mem _ h1, h2⟩

theorem yielded_of {j d : Nat} {oj : Oper} {tmps : Array Value} {c : Bool} (h1 : ops[j]? = some oj) (h2 : oj.dst = some d) (h3 : d < tmps.size) (h4 : tmps.getD d undef = .bool c) : yielded ops tmps j = some c := by
  unfold yielded
  have h4' : tmps[d] = .bool c := by simpa [h3] using h4
  simp [h1, h2, h3, h4']

theorem getD_put {a : Act} {n : Nat} (hs : a.tmps.size = n) {d i : Nat} {x : Value} : (a.put (some d) x).tmps.getD i undef = if d = i ∧ d < n then x else a.tmps.getD i undef := by
  simp only [Act.put, Array.getD_eq_getD_getElem?, Array.getElem?_setIfInBounds]
  by_cases e : d = i
  · subst e
    by_cases h : d < n
    · simp [h, hs]
    · simp [h, hs]
  · simp [e]

theorem getD_set_true' {L : Array Bool} {i : Nat} (h : i < L.size) : (L.setIfInBounds i true).getD i false = true := by simp [h]

/-- One operation of the head comes up. -/
theorem DInv.step {nt' i : Nat} {R : List Rw} {T0 T : Tg} {w0 w : World} {L : Array Bool} {a : Act} {Q : Exit → Act → World → Prop} {h : Nat} (hB : TbOk P B) (hR : Built P B e0 m0 ops nt0 h nt' R) (he0 : ∀ r ∈ R, lkp e0 r.dst = none)
    (hinv : DInv B wr e0 m0 nt0 nt' R T0 w0 L a w T) (hcl : Closed ops L) (hsz : L.size = ops.size) (hi : i ∈ Region.ready .any ops L) (hlt : i < h) {K : Act → World → Prop}
    (hK : ∀ a' w' T', DInv B wr e0 m0 nt0 nt' R T0 w0 (L.setIfInBounds i true) a' w' T' → K a' w') : wpOp P ops Q i K a w := by
  obtain ⟨hun, o, ho, hall⟩ := mem_ready.1 hi
  obtain ⟨r, hr, hidx⟩ := hR.idx i hlt
  obtain ⟨pre, suf, hRe, ⟨hbs, o', ho', hd, hdn, hnd, hel, hmask, v0, hres, hweak⟩, _, hbase, hbase0⟩ := hR.mem r hr
  have hsuf : ∀ r' ∈ suf, r' ∈ R := fun r' h' => by rw [hRe]; simp [h']
  rw [hidx] at ho'
  have : o' = o := Option.some.inj (ho'.symm.trans ho)
  subst this
  have hcov : Cov L r.mask := by
    rw [hmask]
    exact cov_mask (fun r' h' => hR.cov hcl r' (hsuf r' h')) fun e he hb => hall e (by simpa using he) hb
  have hfrv := hinv.frv hcov hsuf
  have hmok := hinv.mok hcov hsuf
  have hLi : L.getD r.idx false = false := by rw [hidx]; exact getD_both hun
  have hfree : Free T r.base r.fr.length := hinv.unl r hr hLi
  have hin : i < L.size := by
    rw [hsz]; exact (Array.getElem?_eq_some_iff.1 ho).1
  -- the state afterwards
  have next : ∀ (y : Value) (w' : World) (T' : Tg), OnlyNew T T' r.base r.fr.length → (∀ v, r.v = some v → v.R T' y) → (∀ k l, r.fr[k]? = some l → BlockOk T' w' (r.base + k) l) → T'.sep wr → (∀ t b, T' t = some b → b.blk < w'.heap.size) → Below w.heap.size w w' → Newer T T' w →
      DInv B wr e0 m0 nt0 nt' R T0 w0 (L.setIfInBounds i true) (a.put (some r.dst) y) w' T' := by
    intro y w' T' hon hv hblk hinj hltT hbel hnew
    have hkeep : ∀ t l, BlockOk T w t l → BlockOk T' w' t l := fun t l hb => hb.keep hon.1 fun b hb' => hbel.block _ (hinv.m0.lt _ _ hb')
    have hget : ∀ j, (L.setIfInBounds i true).getD j false = true → j = i ∨ L.getD j false = true := by
      intro j hj
      by_cases e : i = j
      · exact .inl e.symm
      · rw [getD_set_ne false e] at hj; exact .inr hj
    refine ⟨Tg.le_trans hinv.le hon.1, by simp [Act.put, hinv.asz], hinv.defers, ?_, ?_, ?_, ?_, ?_, ?_, ?_, ?_, fun t h1 h2 => hon.2 t (hinv.low t h1 h2) (by omega)⟩
    · intro j v hj
      rw [getD_put hinv.asz, if_neg (by
        rintro ⟨rfl, _⟩
        rw [he0 r hr] at hj; cases hj)]
      exact (hinv.e0 j v hj).mono hon.1
    · intro r' hr' hl v hv'
      rcases hget _ hl with e | hl
      · have := (hR.apart r' hr' r hr).1 (by rw [e, hidx])
        subst this
        rw [getD_put hinv.asz, if_pos ⟨rfl, hdn⟩]
        exact hv v hv'
      · have hne : r'.idx ≠ r.idx := by intro e; rw [e, hLi] at hl; cases hl
        rw [getD_put hinv.asz, if_neg (by
          rintro ⟨e, _⟩
          exact (hR.apart r' hr' r hr).2.2 hne e.symm)]
        exact (hinv.val r' hr' hl v hv').mono hon.1
    · intro r' hr' hl k l hk
      rcases hget _ hl with e | hl
      · have := (hR.apart r' hr' r hr).1 (by rw [e, hidx])
        subst this
        exact hblk k l hk
      · exact hkeep _ _ (hinv.blk r' hr' hl k l hk)
    · intro r' hr' hl k hk
      have hne : i ≠ r'.idx := by
        rintro rfl
        rw [getD_set_true' hin] at hl
        cases hl
      rw [getD_set_ne false hne] at hl
      refine hon.2 _ (hinv.unl r' hr' hl k hk) ?_
      rcases Nat.lt_or_gt_of_ne (show r.idx ≠ r'.idx by rw [hidx]; exact hne) with h1 | h1
      · have := (hR.apart r hr r' hr').2.1 h1; omega
      · have := (hR.apart r' hr' r hr).2.1 h1; omega
    · intro t ht
      exact hon.2 t (hinv.hi t ht) (by omega)
    · exact ⟨hinj, hltT, fun t l hl => hkeep t l (hinv.m0.at_ t l hl)⟩
    · exact hinv.bel.trans (hbel.mono hinv.bel.size)
    · intro t b h1 h2
      cases hT : T t with
      | none => exact Nat.le_trans hinv.bel.size (hnew t b hT h2)
      | some c =>
        have := hon.1 _ _ hT
        rw [h2] at this
        cases this
        exact hinv.newer t _ h1 hT
  have doit2 : ∀ v fr, Does P o'.op a w (Grew wr T w (memI r.mask m0 suf) r.base v fr) → v0 = some v → r.fr = fr → o'.wp P a w K Q := by
    intro v fr hD hrv hrfr
    obtain ⟨dst, op, ty, pos, after, g⟩ := o'
    simp only at hd
    subst hd
    refine hD (some r.dst) ty pos after g K Q fun y w' hG => ?_
    obtain ⟨T', h1, h2, h3, h4, h5⟩ := hG
    refine hK _ _ T' (next y w' T' (by rw [hrfr]; exact h1) (fun v' hv' => ?_) (fun k l hk => ?_) h3.sep h3.lt h4 h5)
    · obtain ⟨u', e1, e2⟩ := hweak _ hv'
      rw [hrv] at e1; cases e1; exact e2 _ _ h2
    · rw [hrfr] at hk
      exact h3.at_ _ _ (lkp_addF_get hk)
  have doit : ∀ v fr, dq B (envI r.mask suf ++ e0) (memI r.mask m0 suf) r.base o'.op = some (v, fr) → v0 = some v → r.fr = fr → o'.wp P a w K Q := by
    intro v fr hdq hrv hrfr
    exact doit2 v fr (dq_ok hB hfrv hmok hdq (by rw [← hrfr]; exact hfree)) hrv hrfr
  unfold wpOp
  simp only [ho]
  rcases hres with hres | ⟨_, hg, u, hu, hD⟩
  case inr =>
    have hgo := doit2 u r.fr (hD wr T a w hfrv hmok hfree) hu rfl
    rcases hg with hg | ⟨j, want, hg, hc⟩
    · rw [if_pos (wanted_none hg ops a)]
      exact .inl hgo
    · obtain ⟨r', hr', hj, hbit, hv'⟩ := findV_ok hc
      have hlj : L.getD r'.idx false = true := hcov _ (by rw [hj]; exact hbit)
      have hb := hinv.val r' (hsuf r' hr') hlj _ hv'
      rw [V.R] at hb
      obtain ⟨_, _, _, ⟨_, oj, hoj, hdj, hdjn, _⟩, _⟩ := hR.mem r' (hsuf r' hr')
      have hy := yielded_of (tmps := a.tmps) hoj hdj (by rw [hinv.asz]; exact hdjn) hb
      rw [hj] at hy
      rw [if_pos (by simp [Region.wanted, hg, hy])]
      exact .inl hgo
  unfold opRes at hres
  split at hres
  · rename_i hg
    rw [if_pos (wanted_none hg ops a)]
    split at hres
    · rename_i v fr hdq
      simp only [Option.some.injEq, Prod.mk.injEq] at hres
      exact .inl (doit v fr hdq hres.1.symm hres.2.symm)
    · cases hres
  · rename_i j want hg
    split at hres
    · rename_i c hc
      obtain ⟨r', hr', hj, hbit, hv'⟩ := findV_ok hc
      have hlj : L.getD r'.idx false = true := hcov _ (by rw [hj]; exact hbit)
      have hb := hinv.val r' (hsuf r' hr') hlj _ hv'
      rw [V.R] at hb
      obtain ⟨_, _, _, ⟨_, oj, hoj, hdj, hdjn, _⟩, _⟩ := hR.mem r' (hsuf r' hr')
      have hy := yielded_of (tmps := a.tmps) hoj hdj (by rw [hinv.asz]; exact hdjn) hb
      rw [hj] at hy
      cases hcw : c == want with
      | true =>
        rw [hcw] at hres
        have : c = want := by simpa using hcw
        subst this
        rw [if_pos (by simp [Region.wanted, hg, hy])]
        simp only [cond_true] at hres
        split at hres
        · rename_i v fr hdq
          simp only [Option.some.injEq, Prod.mk.injEq] at hres
          exact .inl (doit v fr hdq hres.1.symm hres.2.symm)
        · cases hres
      | false =>
        rw [hcw] at hres
        simp only [cond_false, Option.some.injEq, Prod.mk.injEq] at hres
        have hne : c ≠ want := by simpa using hcw
        rw [if_neg (by simp [Region.wanted, hg, hy, hne]), hd]
        refine hK _ _ T (next undef w T ⟨Tg.le_refl T, fun _ h _ => h⟩ (fun v hv => by obtain ⟨u', e1, _⟩ := hweak _ hv; rw [← hres.1] at e1; cases e1) (fun k l hk => by rw [← hres.2] at hk; cases hk) hinv.m0.sep hinv.m0.lt (Below.refl _ _) (fun t b h1 h2 => by rw [h1] at h2; cases h2))
    · cases hres

/-- A truth value that is known in this case. -/
theorem Built.known {i nt : Nat} {R : Rw} {acc : List Rw} {c : Bool} (h : Built P B e0 m0 ops nt0 i nt (R :: acc)) (hv : R.v = some (.s (.bs c))) : Built P B e0 m0 ops nt0 i nt (⟨R.idx, R.dst, R.mask, some (.s (.bl c)), R.base, R.fr⟩ :: acc) := by
  cases h with
  | cons hb ho hd hn hnd he hres hw =>
    refine .cons hb ho hd hn hnd he hres fun u hu => ?_
    simp only at hv
    obtain ⟨u', e1, e2⟩ := hw _ hv
    refine ⟨u', e1, fun T x hx => ?_⟩
    have := e2 T x hx
    cases hu
    rw [V.R] at this ⊢
    exact this

end
end Go.Proofs.Ytdaheccfeihpgaa.Nm

namespace Go.Proofs.Ytdaheccfeihpgaa.Nm
open Go Go.RowKit

def allBits (i m : Nat) : Bool := Nat.beq (Nat.land m (2 ^ i - 1)) (2 ^ i - 1)

theorem allBits_ok {i m : Nat} (h : allBits i m = true) {j : Nat} (hj : j < i) : m.testBit j = true := by
  have h1 : m &&& (2 ^ i - 1) = 2 ^ i - 1 := Nat.eq_of_beq_eq_true h
  have h2 : (m &&& (2 ^ i - 1)).testBit j = true := by rw [h1, Nat.testBit_two_pow_sub_one]; simp [hj]
  rw [Nat.testBit_and, Bool.and_eq_true] at h2
  exact h2.1

/-- Each operation of the tail waits for all that stand before it. -/
def tailB (pre : Nat) : List Rw → Nat → List Oper → Bool
  | _, _, [] => true
  | acc, i, o :: r => edgesLt i o.after.toList && (allBits i (Nat.lor pre (maskOf acc o.after.toList)) && tailB pre (⟨i, 0, maskOf acc o.after.toList, none, 0, []⟩ :: acc) (i + 1) r)

theorem edgesLt_ok {i : Nat} : ∀ {es : List Edge}, edgesLt i es = true → ∀ e ∈ es, Region.binds .any e = true → e.on < i
  | [], _, e, he, _ => by cases he
  | x :: r, h, e, he, hb => by
    simp only [edgesLt, Bool.and_eq_true, Bool.or_eq_true, Bool.not_eq_true', Nat.blt_eq] at h
    simp only [List.mem_cons] at he
    rcases he with rfl | he
    · rcases h.1 with h1 | h1
      · rw [hb] at h1; cases h1
      · exact h1
    · exact edgesLt_ok h.2 e he hb

section
variable {P : Program} {B : Tb} {wr : Nat → Bool} {e0 : Env} {m0 : Mem} {ops : Array Oper} {nt0 : Nat} {pre : Nat}

theorem tailB_ok : ∀ (l : List Oper) (i : Nat) (acc : List Rw), tailB pre acc i l = true → (∀ k, k < l.length → l[k]? = ops[i + k]?) → (∀ L, Closed ops L → ∀ r ∈ acc, L.getD r.idx false = true → Cov L r.mask) →
    ∀ t o, i ≤ t → t < i + l.length → ops[t]? = some o → edgesLt t o.after.toList = true ∧ ∀ L, Closed ops L → Cov L pre → Direct L o.after.toList → ∀ j, j < t → L.getD j false = true
  | [], i, acc, _, _, _, t, o, h1, h2, _ => by simp at h2; omega
  | x :: r, i, acc, h, hl, hacc, t, o, h1, h2, ho => by
    simp only [tailB, Bool.and_eq_true] at h
    have hx : ops[i]? = some x := by have := hl 0 (by simp); simpa using this.symm
    have hcov : ∀ L, Closed ops L → Direct L x.after.toList → Cov L (maskOf acc x.after.toList) := fun L hL hd => cov_mask (hacc L hL) hd
    by_cases e : t = i
    · subst e
      have : x = o := Option.some.inj (hx.symm.trans ho)
      subst this
      exact ⟨h.1, fun L hL hpre hd j hj => cov_or hpre (hcov L hL hd) j (allBits_ok h.2.1 hj)⟩
    · refine tailB_ok r (i + 1) _ h.2.2 (fun k hk => ?_) (fun L hL r' hr' hl' => ?_) t o (by omega) (by simp at h2; omega) ho
      · have := hl (k + 1) (by simp; omega)
        simp only [List.getElem?_cons_succ] at this
        rw [this]; congr 1; omega
      · simp only [List.mem_cons] at hr'
        rcases hr' with rfl | hr'
        · exact hcov L hL fun e' he' hb' => hL i x hx hl' e' (by simpa using he') hb'
        · exact hacc L hL r' hr' hl'

/-- What a region's edges must give: they point back, and the tail waits for all. -/
structure Order (ops : Array Oper) (h pre : Nat) : Prop where
  low : ∀ j, pre.testBit j = true → j < h
  back : ∀ i o, ops[i]? = some o → ∀ e ∈ o.after, Region.binds .any e = true → e.on < i
  tail : ∀ t o, h ≤ t → ops[t]? = some o → ∀ L, Closed ops L → Cov L pre → Direct L o.after.toList → ∀ j, j < t → L.getD j false = true

theorem order_of {h nt' : Nat} {R : List Rw} {tl : List Oper} (hR : Built P B e0 m0 ops nt0 h nt' R) (hsz : ops.size = h + tl.length) (htl : ∀ k, k < tl.length → tl[k]? = ops[h + k]?) (ht : tailB pre R h tl = true) (hpre : ∀ j, pre.testBit j = true → j < h) : Order ops h pre := by
  have H := tailB_ok (ops := ops) tl h R ht htl fun L hL => hR.cov hL
  refine ⟨hpre, fun i o ho e he hb => ?_, fun t o h1 ho L hL hcp hd j hj => ?_⟩
  · have hi : i < ops.size := (Array.getElem?_eq_some_iff.1 ho).1
    by_cases hlt : i < h
    · obtain ⟨r, hr, hidx⟩ := hR.idx i hlt
      obtain ⟨_, _, _, ⟨_, o', ho', _, _, _, hel, _⟩, _⟩ := hR.mem r hr
      rw [hidx] at ho' hel
      have : o' = o := Option.some.inj (ho'.symm.trans ho)
      subst this
      exact edgesLt_ok hel e (by simpa using he) hb
    · exact edgesLt_ok (H i o (by omega) (by omega) ho).1 e (by simpa using he) hb
  · have hi : t < ops.size := (Array.getElem?_eq_some_iff.1 ho).1
    exact (H t o h1 (by omega) ho).2 L hL hcp hd j hj

theorem getD_in' {L : Array Bool} {i : Nat} (hi : i < L.size) : L.getD i true = L.getD i false := by simp [hi]

theorem ready_ne {h : Nat} (hO : Order ops h pre) {L : Array Bool} (hsz : L.size = ops.size) : ∀ (d i : Nat), i ≤ d → i < ops.size → L.getD i true = false → Region.ready .any ops L ≠ [] := by
  intro d
  induction d with
  | zero =>
    intro i hid hi hun hnil
    have : i = 0 := by omega
    subst this
    have hmem : 0 ∈ Region.ready .any ops L := mem_ready.2 ⟨hun, ops[0], by simp [hi], fun e he hb => by
      have := hO.back 0 _ (by simp [hi]) e he hb; omega⟩
    rw [hnil] at hmem; cases hmem
  | succ d ih =>
    intro i hid hi hun hnil
    by_cases hall : ∀ e ∈ (ops[i]).after, Region.binds .any e = true → L.getD e.on false = true
    · have hmem : i ∈ Region.ready .any ops L := mem_ready.2 ⟨hun, ops[i], by simp [hi], hall⟩
      rw [hnil] at hmem; cases hmem
    · simp only [Classical.not_forall] at hall
      obtain ⟨e, he, hb, hn⟩ := hall
      have hlt := hO.back i _ (by simp [hi]) e he hb
      refine ih e.on (by omega) (by omega) ?_ hnil
      rw [getD_in' (by omega)]
      simpa using hn

theorem closed_set {L : Array Bool} (hcl : Closed ops L) {i : Nat} (hi : i ∈ Region.ready .any ops L) : Closed ops (L.setIfInBounds i true) := by
  intro j oj hj hl e he hb
  obtain ⟨_, o, ho, hall⟩ := mem_ready.1 hi
  by_cases hij : i = j
  · subst hij
    have : oj = o := Option.some.inj (hj.symm.trans ho)
    subst this
    exact getD_set_true (hall e he hb)
  · rw [getD_set_ne false hij] at hl
    exact getD_set_true (hcl j oj hj hl e he hb)

/-- How many of the first h have not come up. -/
def left (L : Array Bool) : Nat → Nat
  | 0 => 0
  | h + 1 => left L h + (bif L.getD h true then 0 else 1)

theorem left_zero {L : Array Bool} : ∀ {h : Nat}, left L h = 0 → ∀ i, i < h → L.getD i true = true
  | 0, _, i, hi => by omega
  | h + 1, hl, i, hi => by
    simp only [left] at hl
    cases hb : L.getD h true with
    | false => rw [hb] at hl; simp at hl
    | true =>
      by_cases e : i = h
      · subst e; exact hb
      · exact left_zero (L := L) (h := h) (by simpa [hb] using hl) i (by omega)

theorem left_pos {L : Array Bool} : ∀ {h : Nat}, left L h ≠ 0 → ∃ i, i < h ∧ L.getD i true = false
  | 0, hl => absurd rfl hl
  | h + 1, hl => by
    simp only [left] at hl
    cases hb : L.getD h true with
    | false => exact ⟨h, by omega, hb⟩
    | true =>
      rw [hb] at hl
      obtain ⟨i, h1, h2⟩ := left_pos (L := L) (h := h) (by simpa using hl)
      exact ⟨i, by omega, h2⟩

theorem left_set {L : Array Bool} {i : Nat} (hi : i < L.size) (hun : L.getD i true = false) : ∀ {h : Nat}, left L h = left (L.setIfInBounds i true) h + (if i < h then 1 else 0)
  | 0 => by simp [left]
  | h + 1 => by
    simp only [left]
    rw [left_set hi hun (h := h)]
    by_cases e : i = h
    · subst e
      rw [hun]
      have : (L.setIfInBounds i true).getD i true = true := by simp [hi]
      rw [this]
      simp
    · rw [getD_set_ne true e]
      by_cases hlt : i < h
      · simp [hlt, show i < h + 1 by omega]; omega
      · simp [hlt, show ¬ i < h + 1 by omega]

theorem filter_range_one {p : Nat → Bool} : ∀ {n k : Nat}, k < n → (∀ i, i < n → (p i = true ↔ i = k)) → (List.range n).filter p = [k]
  | 0, k, h, _ => by omega
  | n + 1, k, h, hp => by
    rw [List.range_succ, List.filter_append]
    by_cases e : k = n
    · subst e
      have h1 : (List.range k).filter p = [] := by
        rw [List.filter_eq_nil_iff]
        intro i hi
        have hi := List.mem_range.1 hi
        intro hpi
        have := (hp i (by omega)).1 hpi
        omega
      have h2 : p k = true := (hp k (by omega)).2 rfl
      rw [h1]; simp [h2]
    · have h1 := filter_range_one (p := p) (n := n) (k := k) (by omega) fun i hi => hp i (by omega)
      have h2 : p n = false := by
        cases hb : p n with
        | false => rfl
        | true => have := (hp n (by omega)).1 hb; omega
      rw [h1]; simp [h2]

theorem ready_one {h k : Nat} (hO : Order ops h pre) {L : Array Bool} (hk : k < ops.size) (hhk : h ≤ k) (hsz : L.size = ops.size) (hL : ∀ j, j < ops.size → L.getD j true = decide (j < k)) : Region.ready .any ops L = [k] := by
  have hcl : Closed ops L := by
    intro j oj hj hl e he hb
    have hjs : j < ops.size := (Array.getElem?_eq_some_iff.1 hj).1
    have h1 := hL j hjs
    rw [getD_in' (by omega), hl] at h1
    have h2 := of_decide_eq_true h1.symm
    have h3 := hO.back j oj hj e he hb
    rw [← getD_in' (by omega), hL e.on (by omega)]
    simp; omega
  have hcp : Cov L pre := fun j hj => by
    have := hO.low j hj
    rw [← getD_in' (by omega), hL j (by omega)]
    simp; omega
  unfold Region.ready
  refine filter_range_one hk fun i hi => ?_
  constructor
  · intro hp
    have hmem : i ∈ Region.ready .any ops L := by
      unfold Region.ready
      exact List.mem_filter.2 ⟨List.mem_range.2 hi, hp⟩
    obtain ⟨hun, o, ho, hall⟩ := mem_ready.1 hmem
    rw [hL i hi] at hun
    have hge : ¬ i < k := of_decide_eq_false hun
    by_cases e : i = k
    · exact e
    · have := hO.tail i o (by omega) ho L hcl hcp (fun e' he' hb' => hall e' (by simpa using he') hb') k (by omega)
      rw [← getD_in' (by omega), hL k hk] at this
      simp at this
  · rintro rfl
    have hmem : i ∈ Region.ready .any ops L := mem_ready.2 ⟨by rw [hL i hi]; simp, ops[i], by simp [hi], fun e he hb => by
      have h3 := hO.back i _ (by simp [hi]) e he hb
      rw [← getD_in' (by omega), hL e.on (by omega)]
      simp [h3]⟩
    unfold Region.ready at hmem
    exact (List.mem_filter.1 hmem).2

theorem seqB_of {h : Nat} (hO : Order ops h pre) : ∀ (g k : Nat) (L : Array Bool), k + g = ops.size → h ≤ k → L.size = ops.size → (∀ j, j < ops.size → L.getD j true = decide (j < k)) → Region.seqB .any ops g k L = true
  | 0, k, L, hk, hhk, hsz, hL => by
    simp only [Region.seqB, List.isEmpty_iff]
    have : ∀ i, i ∉ Region.ready .any ops L := fun i hi => by
      obtain ⟨hun, o, ho, _⟩ := mem_ready.1 hi
      have his : i < ops.size := (Array.getElem?_eq_some_iff.1 ho).1
      rw [hL i his] at hun
      have := of_decide_eq_false hun
      omega
    exact List.eq_nil_iff_forall_not_mem.2 this
  | g + 1, k, L, hk, hhk, hsz, hL => by
    simp only [Region.seqB, Bool.and_eq_true, decide_eq_true_eq]
    refine ⟨ready_one hO (by omega) hhk hsz hL, seqB_of hO g (k + 1) _ (by omega) (by omega) (by simp [hsz]) fun j hj => ?_⟩
    by_cases e : k = j
    · subst e
      rw [getD_in' (by simp [hsz]; omega), getD_set_true' (by omega)]
      simp
    · rw [getD_set_ne true e, hL j hj]
      by_cases h1 : j < k
      · simp [h1, show j < k + 1 by omega]
      · simp [h1, show ¬ j < k + 1 by omega]

theorem dr_any {nt' h : Nat} {R : List Rw} {T0 : Tg} {w0 : World} {Q : Exit → Act → World → Prop} {tl : List Oper} (hB : TbOk P B) (hR : Built P B e0 m0 ops nt0 h nt' R) (he0 : ∀ r ∈ R, lkp e0 r.dst = none)
    (hO : Order ops h pre) (hn : ops.size = h + tl.length) (htl : ∀ k, tl[k]? = ops[h + k]?) (hend : ∀ L a w T, DInv B wr e0 m0 nt0 nt' R T0 w0 L a w T → Cov L (2 ^ h - 1) → wpList P ops Q tl a w) :
    ∀ (f : Nat) (L : Array Bool) (a : Act) (w : World) (T : Tg), left L h + tl.length = f → L.size = ops.size → Cov L pre → Closed ops L → (∀ t, h ≤ t → t < ops.size → L.getD t true = false) → DInv B wr e0 m0 nt0 nt' R T0 w0 L a w T → wpAny P .any ops Q f L a w := by
  intro f
  induction f with
  | zero =>
    intro L a w T hf hsz hcp hcl htail hinv
    have hl0 : left L h = 0 := by omega
    have hall := left_zero hl0
    have hnil : tl = [] := List.eq_nil_of_length_eq_zero (by omega)
    have hcov : Cov L (2 ^ h - 1) := by
      intro j hj
      rw [Nat.testBit_two_pow_sub_one] at hj
      have hj := of_decide_eq_true hj
      rw [← getD_in' (by omega)]; exact hall j hj
    have H := hend L a w T hinv hcov
    rw [hnil] at H
    refine ⟨List.eq_nil_iff_forall_not_mem.2 fun i hi => ?_, H⟩
    obtain ⟨hun, o, ho, _⟩ := mem_ready.1 hi
    have his : i < ops.size := (Array.getElem?_eq_some_iff.1 ho).1
    rw [hall i (by rw [hnil] at hn; simp at hn; omega)] at hun
    cases hun
  | succ f ih =>
    intro L a w T hf hsz hcp hcl htail hinv
    by_cases hl0 : left L h = 0
    · have hall := left_zero hl0
      have hcov : Cov L (2 ^ h - 1) := by
        intro j hj
        rw [Nat.testBit_two_pow_sub_one] at hj
        have hj := of_decide_eq_true hj
        rw [← getD_in' (by omega)]; exact hall j hj
      have H := hend L a w T hinv hcov
      have hseq := seqB_of hO tl.length h L (by omega) (Nat.le_refl _) hsz (fun j hj => by
        by_cases hjh : j < h
        · rw [hall j hjh]; simp [hjh]
        · rw [htail j (by omega) hj]; simp [hjh])
      have := wpAny_of_seq tl h L a w htl hseq H
      rwa [show tl.length = f + 1 by omega] at this
    · obtain ⟨i0, hi0, hun0⟩ := left_pos hl0
      refine ⟨fun h0 => absurd h0 (ready_ne hO hsz i0 i0 (Nat.le_refl _) (by omega) hun0), fun i hi => ?_⟩
      obtain ⟨hun, o, ho, hall⟩ := mem_ready.1 hi
      have his : i < ops.size := (Array.getElem?_eq_some_iff.1 ho).1
      have hih : i < h := by
        apply Classical.byContradiction
        intro hge
        have := hO.tail i o (by omega) ho L hcl hcp (fun e' he' hb' => hall e' (by simpa using he') hb') i0 (by omega)
        rw [getD_both hun0] at this
        cases this
      refine hinv.step hB hR he0 hcl hsz hi hih fun a' w' T' hinv' => ?_
      refine ih _ a' w' T' ?_ (by simp [hsz]) (fun j hj => getD_set_true (hcp j hj)) (closed_set hcl hi) (fun t ht ht' => by rw [getD_set_ne true (by omega)]; exact htail t ht ht') hinv'
      have := left_set (by omega : i < L.size) hun (h := h)
      rw [if_pos hih] at this
      omega

end
end Go.Proofs.Ytdaheccfeihpgaa.Nm

/-
  The run of a function's code.
-/
namespace Go.Proofs.Ytdaheccfeihpgaa.Nm
open Go Go.RowKit

structure SS where
  env : Env
  m : Mem
  nt : Nat

def wrB (B : Tb) (t : Nat) : Bool := Nat.ble B.base t || has B.outs t

structure WV (B : Tb) (T0 : Tg) (w0 : World) (T : Tg) (w : World) (s : SS) : Prop where
  le : T0.le T
  mok : MOk (wrB B) T w s.m
  free : ∀ t, s.nt ≤ t → T t = none
  base : B.base ≤ s.nt
  own : ∀ t b, T t = some b → B.base ≤ t → w0.heap.size ≤ b.blk
  old : ∀ t b, T t = some b → t < B.base → T0 t = some b
  kp : Kp (Blks T0 B.outs) w0 w

theorem MOk.drew {wr : Nat → Bool} {T : Tg} {w : World} {m : Mem} (h : MOk wr T w m) : MOk wr T w.drew m := ⟨h.sep, h.lt, h.at_⟩
theorem WV.drew {B : Tb} {T0 T : Tg} {w0 w : World} {s : SS} (h : WV B T0 w0 T w s) : WV B T0 w0 T w.drew s :=
  ⟨h.le, h.mok.drew, h.free, h.base, h.own, h.old, ⟨h.kp.os, h.kp.tape, h.kp.output, h.kp.size, h.kp.block⟩⟩

/-! ### One operation -/
def gen (o : Op) (v : V) (K : V → Prop) : Prop :=
  match v with
  | .s (.sym k n) => match o with
    | .binOp _ _ _ _ _ => ∀ z, k.wrap z = z → z = n → K (.s (.sym k z))
    | .convert _ _ _ => ∀ z, k.wrap z = z → z = n → K (.s (.sym k z))
    | _ => K v
  | v => K v

theorem gen_ok {o : Op} {v : V} {K : V → Prop} {T : Tg} {y : Value} (h : gen o v K) (hv : v.R T y) : K v := by
  unfold gen at h
  split at h
  · rename_i k n
    rw [V.R] at hv
    split at h
    · exact h n hv.2 rfl
    · exact h n hv.2 rfl
    · exact h
  · exact h

/-- The content of a block behind a store. -/
def stP (B : Tb) (env : Env) (m : Mem) (t : TypeId) (x y : Operand) : Option (Nat × List Pc) :=
  match evS env x with
  | some (.p tg o) => match lkp m tg with
    | some l => bif has B.one t then match evS env y with
        | some z => match wr1 l o z with
          | some l' => some (tg, l')
          | none => none
        | none => none
      else match lkp B.agg t with
        | some n => match evV env y with
          | some v => match v.pcs with
            | some q => bif Nat.beq (widthL q) n then match wrN l o q with
                | some l' => some (tg, l')
                | none => none
              else none
            | none => none
          | none => none
        | none => none
    | none => none
  | _ => none

/-- A copy from slice to slice, of the same length. -/
def cpP (B : Tb) (env : Env) (m : Mem) (args : List Operand) (tys : List TypeId) : Option (Nat × List Pc × Nat) := match args, tys with
  | [x, y], [t, _] => match evS env x, evS env y with
    | some s, some r => match slp s, slp r with
      | some (td, od, n), some (ts, os, n') => match lkp m td, lkp m ts with
        | some l, some l2 => match rdN l2 os n with
          | some q => match wrN l od q with
            | some l' => match lkp B.slc t with
              | some 1 => bif Nat.beq n n' && Nat.ble n 1000 then some (td, l', n) else none
              | _ => none
            | none => none
          | none => none
        | _, _ => none
      | _, _ => none
    | _, _ => none
  | _, _ => none

/-- An appending where there is room. -/
def apP (B : Tb) (env : Env) (m : Mem) (args : List Operand) (tys : List TypeId) : Option (Nat × List Pc × Sc) := match args, tys with
  | [x, y], [t, t'] => match evS env x, evS env y with
    | some (.sl td od n0 c), some r => match slp r with
      | some (ts, os, n) => bif Nat.ble (n0 + n) c && (Nat.blt 0 n && (Nat.beq t t' && has B.apd t)) then match lkp m td, lkp m ts with
        | some l, some l2 => match rdN l2 os n with
          | some q => match wrN l (od + n0) q with
            | some l' => some (td, l', .sl td od (n0 + n) c)
            | none => none
          | none => none
        | _, _ => none
        else none
      | none => none
    | _, _ => none
  | _, _ => none

def exDet (B : Tb) (op : Op) (dst : Option Tmp) (s : SS) (K : SS → Prop) : Prop :=
  match dst with
  | some d => obind (dq B s.env s.m s.nt op) fun r => onb (Nat.blt d B.n) (gen op r.1 fun v => K ⟨(d, v) :: s.env, addF s.m s.nt r.2, s.nt + r.2.length⟩)
  | none => False

def allWr (B : Tb) : List Nat → Bool
  | [] => true
  | t :: r => wrB B t && allWr B r

def exCallK (B : Tb) (sp : KSpec) (args : List Operand) (dst : Option Tmp) (s : SS) (K : SS → Prop) : Prop :=
  match dst with
  | some d => obind (evL s.env args) fun vs => onb (Nat.blt d B.n && allWr B (sp.outs vs s.m)) (sp.run vs s.m s.nt fun v m' nt' => K ⟨(d, v) :: s.env, m', nt'⟩)
  | none => False

def exOp (B : Tb) (op : Op) (dst : Option Tmp) (s : SS) (K : SS → Prop) : Prop :=
  match op with
  | .store t x y => match dst with
    | none => obind (stP B s.env s.m t x y) fun r => onb (wrB B r.1) (K ⟨s.env, upd s.m r.1 r.2, s.nt⟩)
    | some _ => False
  | .call ⟨.builtin .copy, args, tys⟩ => match dst with
    | some d => obind (cpP B s.env s.m args.toList tys.toList) fun r => onb (wrB B r.1 && Nat.blt d B.n) (K ⟨(d, .s (.lit .i64 (.ofNat r.2.2))) :: s.env, upd s.m r.1 r.2.1, s.nt⟩)
    | none => False
  | .call ⟨.builtin .append, args, tys⟩ => match apP B s.env s.m args.toList tys.toList with
    | some r => match dst with
      | some d => onb (wrB B r.1 && Nat.blt d B.n) (K ⟨(d, .s r.2.2) :: s.env, upd s.m r.1 r.2.1, s.nt⟩)
      | none => False
    | none => exDet B (.call ⟨.builtin .append, args, tys⟩) dst s K
  | .call ⟨.value (.func f), args, tys⟩ => match lkp B.ks f with
    | some sp => exCallK B sp args.toList dst s K
    | none => exDet B (.call ⟨.value (.func f), args, tys⟩) dst s K
  | op => exDet B op dst s K

section
variable {P : Program} {B : Tb} {T0 : Tg} {w0 : World}

/-- What is to be shown of a state that the run reaches. -/
abbrev Nx (B : Tb) (T0 : Tg) (w0 : World) (K : SS → Prop) (N : Act → World → Prop) : Prop := ∀ s a w T, FrV T B.n a s.env → WV B T0 w0 T w s → K s → N a w

theorem FrV.put {T T' : Tg} {a : Act} {env : Env} (hf : FrV T B.n a env) (hT : T.le T') {d : Nat} (hd : d < B.n) {v : V} {y : Value} (hv : v.R T' y) : FrV T' B.n (a.put (some d) y) ((d, v) :: env) := by
  refine ⟨by simp [Act.put, hf.size], hf.defers, fun i u h => ?_⟩
  rcases lkp_cons h with ⟨rfl, rfl⟩ | h'
  · rw [getD_put hf.size, if_pos ⟨rfl, hd⟩]; exact hv
  · by_cases e : d = i
    · subst e
      simp only [lkp, Nat.beq_refl, cond_true, Option.some.injEq] at h
      subst h
      rw [getD_put hf.size, if_pos ⟨rfl, hd⟩]; exact hv
    · rw [getD_put hf.size, if_neg (fun h => e h.1)]
      exact (hf.get i u h').mono hT

theorem WV.grow {T T' : Tg} {w w' : World} {s : SS} (h : WV B T0 w0 T w s) {env : Env} {fr : List (List Pc)} (hon : OnlyNew T T' s.nt fr.length) (hm : MOk (wrB B) T' w' (addF s.m s.nt fr)) (hb : Below w.heap.size w w') (hn : Newer T T' w) :
    WV B T0 w0 T' w' ⟨env, addF s.m s.nt fr, s.nt + fr.length⟩ := by
  have hnone : ∀ t b, T' t = some b → T t = none → s.nt ≤ t := by
    intro t b h1 h2
    apply Classical.byContradiction
    intro hlt
    have := hon.2 t h2 (by omega)
    rw [h1] at this; cases this
  have hsame : ∀ t b c, T' t = some b → T t = some c → c = b := by
    intro t b c h1 h2
    have := hon.1 _ _ h2
    rw [h1] at this
    exact (Option.some.inj this).symm
  refine ⟨Tg.le_trans h.le hon.1, hm, fun t ht => hon.2 t (h.free t (by simp at ht; omega)) (by simp at ht; omega), by have := h.base; simp; omega, ?_, ?_, ?_⟩
  · intro t b h1 h2
    cases hT : T t with
    | none => exact Nat.le_trans h.kp.size (hn t b hT h1)
    | some c => have := hsame t b c h1 hT; subst this; exact h.own t c hT h2
  · intro t b h1 h2
    cases hT : T t with
    | none => have := hnone t b h1 hT; have := h.base; omega
    | some c => have := hsame t b c h1 hT; subst this; exact h.old t c hT h2
  · exact h.kp.trans (Kp.of_below hb (fun _ => False)) fun _ _ h => h.elim

theorem exDet_ok (hB : TbOk P B) {T : Tg} {a : Act} {w : World} {s : SS} {op : Op} {dst : Option Tmp} {K : SS → Prop} {N : Act → World → Prop} {Q : Exit → Act → World → Prop} (hf : FrV T B.n a s.env) (hw : WV B T0 w0 T w s) (h : exDet B op dst s K) (hN : Nx B T0 w0 K N)
    (ty : TypeId) (pos : String) (after : Array Edge) (g : Option (Nat × Bool)) : (⟨dst, op, ty, pos, after, g⟩ : Oper).wp P a w N Q := by
  unfold exDet at h
  split at h
  · rename_i d
    obtain ⟨⟨v, fr⟩, hdq, h⟩ := obind_some h
    obtain ⟨hd, h⟩ := onb_true h
    have hd : d < B.n := by simpa [Nat.blt_eq] using hd
    refine dq_ok hB hf hw.mok hdq (fun k _ => hw.free _ (by omega)) (some d) ty pos after g N Q fun y w' hG => ?_
    obtain ⟨T', h1, h2, h3, h4, h5⟩ := hG
    exact hN _ _ _ T' (hf.put h1.1 hd h2) (hw.grow h1 h3 h4 h5) (gen_ok h h2)
  · exact h.elim

theorem allWr_ok {l : List Nat} (h : allWr B l = true) : ∀ t ∈ l, wrB B t = true := by
  induction l with
  | nil => intro t ht; cases ht
  | cons x r ih =>
    simp only [allWr, Bool.and_eq_true] at h
    intro t ht
    simp only [List.mem_cons] at ht
    rcases ht with rfl | ht
    · exact h.1
    · exact ih h.2 t ht

theorem has_mem {l : List Nat} {t : Nat} (h : has l t = true) : t ∈ l := by
  induction l with
  | nil => cases h
  | cons x r ih =>
    simp only [has, Bool.or_eq_true] at h
    rcases h with h | h
    · have := Nat.eq_of_beq_eq_true h; subst this; exact List.mem_cons_self ..
    · exact List.mem_cons_of_mem _ (ih h)

/-- A block that may be written is one of the run's own, or one of those named. -/
theorem WV.wr {T : Tg} {w : World} {s : SS} (h : WV B T0 w0 T w s) {t : Nat} {b : Loc} (ht : wrB B t = true) (hb : T t = some b) (hlt : b.blk < w0.heap.size) : Blks T0 B.outs b.blk := by
  by_cases hge : B.base ≤ t
  · have := h.own t b hb hge; omega
  · unfold wrB at ht
    rw [Bool.or_eq_true] at ht
    rcases ht with ht | ht
    · exact absurd (Nat.le_of_ble_eq_true ht) hge
    · exact ⟨t, has_mem ht, b, h.old t b hb (by omega), rfl⟩

theorem exCallK_ok {T : Tg} {a : Act} {w : World} {s : SS} {f : Nat} {sp : KSpec} (hsp : KSOk P f sp) {args : List Operand} {tys : Array TypeId} {dst : Option Tmp} {K : SS → Prop} {N : Act → World → Prop} {Q : Exit → Act → World → Prop} (hf : FrV T B.n a s.env) (hw : WV B T0 w0 T w s)
    (h : exCallK B sp args dst s K) (hN : Nx B T0 w0 K N) (ty : TypeId) (pos : String) (after : Array Edge) (g : Option (Nat × Bool)) : (⟨dst, .call ⟨.value (.func f), args.toArray, tys⟩, ty, pos, after, g⟩ : Oper).wp P a w N Q := by
  unfold exCallK at h
  split at h
  · rename_i d
    obtain ⟨vs, hvs, h⟩ := obind_some h
    obtain ⟨hd, h⟩ := onb_true h
    rw [Bool.and_eq_true] at hd
    have hdn : d < B.n := by simpa [Nat.blt_eq] using hd.1
    have houts := allWr_ok hd.2
    unfold Oper.wp
    rw [exec_call hsp.enter]
    refine (hsp.run (wrB B) T w s.m s.nt vs _ _ h hw.mok (evL_ok hf hvs) hw.free houts).mono fun e w' hh => ?_
    obtain ⟨T', y, v, m', nt', h1, h2, h3, h4, rfl, h6, h7, h8, h9, h10⟩ := hh
    have hsame : ∀ t b c, T' t = some b → T t = some c → c = b := by
      intro t b c e1 e2
      have := h1 _ _ e2
      rw [e1] at this
      exact (Option.some.inj this).symm
    refine hN _ _ _ T' (hf.put h1 hdn h6) ⟨Tg.le_trans hw.le h1, h7, h4, by have := hw.base; simp; omega, ?_, ?_, ?_⟩ h10
    · intro t b e1 e2
      cases hT : T t with
      | none => exact Nat.le_trans hw.kp.size (h9 t b hT e1)
      | some c => have := hsame t b c e1 hT; subst this; exact hw.own t c hT e2
    · intro t b e1 e2
      cases hT : T t with
      | none =>
        have := h3 t hT (by have := hw.base; omega)
        rw [e1] at this; cases this
      | some c => have := hsame t b c e1 hT; subst this; exact hw.old t c hT e2
    · refine hw.kp.trans h8 fun i hi hB => ?_
      obtain ⟨t, ht, b, hb, rfl⟩ := hB
      exact hw.wr (houts t ht) hb hi
  · exact h.elim

theorem storeCells_fz (g o : Nat) (t : TypeId) (fz : Nat × Nat) : ∀ (vs : List Value) (i : Nat) (cur : Array Value) (w : World), w.heap[g]? = some (.cells cur t fz) → NF fz (o + i) vs.length → o + i + vs.length ≤ cur.size → (∀ v ∈ vs, v.oneCell' = true) →
    (storeCells ⟨g, o, none⟩ vs i).run P w = .ok () (w.setRow g (cur.toList.take (o + i) ++ vs ++ cur.toList.drop (o + i + vs.length)).toArray)
  | [], i, cur, w, hg, _, _, _ => by
    simp only [storeCells, List.append_nil, List.length_nil, Nat.add_zero, List.take_append_drop, Array.toArray_toList]
    rw [setRow_self w g cur t fz hg]
    rfl
  | v :: rest, i, cur, w, hg, hnf, hl, h1 => by
    have hi : o + i < cur.size := by simp at hl; omega
    have hadd : (⟨g, o, none⟩ : Addr).add i = ⟨g, o + i, none⟩ := by unfold Addr.add; split <;> simp_all
    have hcell : w.cell? ⟨g, o + i, none⟩ = some cur[o + i] := by simp [World.cell?, hg, hi]
    have hfro : w.frozen? ⟨g, o + i, none⟩ = false := by
      have := hnf (o + i) (by omega) (by simp)
      unfold World.frozen?
      rw [hg]
      simp only [Bool.and_eq_false_iff, decide_eq_false_iff_not]
      omega
    have hst : (store ((⟨g, o, none⟩ : Addr).add i) v).run P w = .ok () (w.setRow g (cur.setIfInBounds (o + i) v)) := by
      rw [hadd, run_store P w _ v _ (h1 v (by simp)), hcell]
      simp [hfro, setCell_eq_setRow w g (o + i) cur t fz v hg]
    have ih := storeCells_fz g o t fz rest (i + 1) (cur.setIfInBounds (o + i) v) (w.setRow g (cur.setIfInBounds (o + i) v)) (setRow_heap w g cur _ t _ hg) (hnf.sub (by omega) (by simp; omega)) (by simp at hl ⊢; omega) (fun x hx => h1 x (by simp [hx]))
    simp only [storeCells, Sem.run_bind, hst, Result.andThen_ok, ih, setRow_setRow]
    congr 3
    have e := list_seg_step cur.toList (o + i) v rest (by simp at hl ⊢; omega)
    simpa [Array.toList_setIfInBounds, Nat.add_assoc] using e

theorem BlockOk.put {T : Tg} {w : World} {tg : Nat} {l l' : List Pc} (h : BlockOk T w tg l) {b : Loc} (hb : T tg = some b) {o : Nat} {ys : List Value}
    (hone : ∀ x ∈ ys, x.oneCell' = true) (hle : o + ys.length ≤ (flat l).length) (hl : ∀ xs, PR T l xs → PR T l' (xs.take o ++ ys ++ xs.drop (o + ys.length))) :
    ∃ w', (storeCells ⟨b.blk, b.off + o, none⟩ ys).run P w = .ok () w' ∧ BlockOk T w' tg l' ∧ w'.heap.size = w.heap.size ∧ (∀ k, k ≠ b.blk → w'.heap[k]? = w.heap[k]?) ∧ w'.os = w.os ∧ w'.tape = w.tape ∧ w'.output = w.output := by
  obtain ⟨b', c, ty, pre, xs, rest, h1, ⟨fz, h2, hnf⟩, h3, hp, h4⟩ := h
  rw [hb] at h1
  cases h1
  have hxl : xs.length = (flat l).length := h4.1.length
  have hcl : c.size = pre.length + (xs.length + rest.length) := by rw [← Array.length_toList, h3]; simp
  have hst := storeCells_fz (P := P) b.blk (b.off + o) ty fz ys 0 c w h2 (hnf.sub (by omega) (by omega)) (by omega) hone
  refine ⟨w.setRow b.blk (c.toList.take (b.off + o + 0) ++ ys ++ c.toList.drop (b.off + o + 0 + ys.length)).toArray, hst, ?_, setRow_size _ _ _, fun k hk => setRow_other _ _ _ _ hk, setRow_os _ _ _, setRow_tape _ _ _, setRow_output _ _ _⟩
  refine ⟨b, _, ty, pre, xs.take o ++ ys ++ xs.drop (o + ys.length), rest, hb, ⟨fz, setRow_heap _ _ _ _ _ _ h2, hnf.sub (Nat.le_refl _) (by simp; omega)⟩, ?_, hp, hl xs h4⟩
  simp only [Nat.add_zero]
  rw [h3, ← hp]
  have e1 : (pre ++ (xs ++ rest)).take (pre.length + o) = pre ++ xs.take o := by
    rw [List.take_append, List.take_append]
    simp [show o - xs.length = 0 by omega, List.take_of_length_le]
  have e2 : (pre ++ (xs ++ rest)).drop (pre.length + o + ys.length) = xs.drop (o + ys.length) ++ rest := by
    rw [List.drop_append, List.drop_append]
    simp [show pre.length + o + ys.length - pre.length = o + ys.length by omega, show o + ys.length - xs.length = 0 by omega, List.drop_of_length_le (show pre.length ≤ pre.length + o + ys.length by omega)]
  rw [e1, e2]
  simp

theorem BlockOk.store {T : Tg} {w : World} {tg : Nat} {l l' : List Pc} (h : BlockOk T w tg l) {b : Loc} (hb : T tg = some b) {o : Nat} {ys : List Value} {s : Nat} {t : TypeId} {y : Value} (hsz : (sizeOf t).run P w = .ok s w) (hys : y.cells.toList = ys) (hlen : ys.length = s)
    (hone : ∀ x ∈ ys, x.oneCell' = true) (hle : o + ys.length ≤ (flat l).length) (hl : ∀ xs, PR T l xs → PR T l' (xs.take o ++ ys ++ xs.drop (o + ys.length))) :
    ∃ w', (storeVar t ⟨b.blk, b.off + o, none⟩ y).run P w = .ok () w' ∧ BlockOk T w' tg l' ∧ w'.heap.size = w.heap.size ∧ (∀ k, k ≠ b.blk → w'.heap[k]? = w.heap[k]?) ∧ w'.os = w.os ∧ w'.tape = w.tape ∧ w'.output = w.output := by
  obtain ⟨w', h1, h2⟩ := BlockOk.put (P := P) h hb hone hle hl
  refine ⟨w', ?_, h2⟩
  unfold storeVar
  have hcs : y.cells.size = s := by rw [← Array.length_toList, hys, hlen]
  simp only [Sem.run_bind, hsz, Result.andThen_ok, hcs, ne_eq, not_true_eq_false, if_false, hys]
  exact h1

theorem cpP_ok (hB : TbOk P B) {T : Tg} {a : Act} {w : World} {s : SS} (hf : FrV T B.n a s.env) (hw : WV B T0 w0 T w s) {args : List Operand} {tys : List TypeId} {td n : Nat} {l' : List Pc} (h : cpP B s.env s.m args tys = some (td, l', n)) (d : Option Tmp) (ty : TypeId) (pos : String) (after : Array Edge) (g : Option (Nat × Bool)) :
    ∃ b w', T td = some b ∧ (execOp a.eval ⟨d, .call ⟨.builtin .copy, args.toArray, tys.toArray⟩, ty, pos, after, g⟩).run P w = .ok (.value (.int .i64 (n : Int))) w' ∧ IntKind.i64.wrap (n : Int) = n ∧ BlockOk T w' td l' ∧ w'.heap.size = w.heap.size ∧ (∀ k, k ≠ b.blk → w'.heap[k]? = w.heap[k]?) ∧ w'.os = w.os ∧ w'.tape = w.tape ∧ w'.output = w.output := by
  unfold cpP at h
  split at h
  · rename_i x y t _
    split at h
    · rename_i sx sy hsx hsy
      split at h
      · rename_i td0 od n0 ts os n1 h1 h2
        obtain ⟨b, c, hb, hx⟩ := slp_ok h1 (evS_ok hf hsx)
        obtain ⟨b2, c2, hb2, hy⟩ := slp_ok h2 (evS_ok hf hsy)
        split at h
        · rename_i l l2 hl hl2
          split at h
          · rename_i q hq
            split at h
            · rename_i l1 hwr
              split at h
              · rename_i hslc
                cases hc : Nat.beq n0 n1 && Nat.ble n0 1000 with
                | false => rw [hc] at h; cases h
                | true =>
                  rw [hc] at h
                  simp only [cond_true, Option.some.injEq, Prod.mk.injEq] at h
                  obtain ⟨rfl, rfl, rfl⟩ := h
                  simp only [Bool.and_eq_true, Nat.ble_eq, Nat.beq_eq] at hc
                  obtain ⟨rfl, hle⟩ := hc
                  obtain ⟨e, hu, hsz⟩ := hB.slc t 1 hslc
                  obtain ⟨xs, hp, hlen, hcell⟩ := (hw.mok.at_ ts l2 hl2).range hb2 hq
                  obtain ⟨_, k2, _⟩ := wrN_ok hwr
                  obtain ⟨w', g1, g2⟩ := BlockOk.put (P := P) (l' := l1) (hw.mok.at_ td0 l hl) hb (o := od) (ys := xs) hp.1.one (by rw [hp.1.length]; exact k2) (fun zs hzs => hzs.wrN hp hwr)
                  have hload : (loadCells ⟨b2.blk, b2.off + os, none⟩ n0).run P w = .ok xs.toArray w := by
                    have := run_loadCells_list (P := P) w ⟨b2.blk, b2.off + os, none⟩ xs (fun j v hj => by rw [addr_add]; exact hcell j v hj)
                    rwa [hlen] at this
                  refine ⟨b, w', hb, ?_, by rw [IntKind.wrap_i64]; omega, g2⟩
                  simp only [execOp, resolve, invoke, builtin, Builtin.copy_, List.map_toArray, List.map_cons, List.map_nil, hx, hy, Sem.run_bind, Sem.run_pure, Result.andThen_ok]
                  simp [run_underlying hu, Builtin.lenOf, Builtin.firstCells, hsz, hload, g1, goInt, Sem.run_bind]
              · cases h
            · cases h
          · cases h
        · cases h
      · cases h
    · cases h
  · cases h

theorem apP_ok (hB : TbOk P B) {T : Tg} {a : Act} {w : World} {s : SS} (hf : FrV T B.n a s.env) (hw : WV B T0 w0 T w s) {args : List Operand} {tys : List TypeId} {td : Nat} {l' : List Pc} {z : Sc} (h : apP B s.env s.m args tys = some (td, l', z)) (d : Option Tmp) (ty : TypeId) (pos : String) (after : Array Edge) (g : Option (Nat × Bool)) :
    ∃ b v w', T td = some b ∧ (execOp a.eval ⟨d, .call ⟨.builtin .append, args.toArray, tys.toArray⟩, ty, pos, after, g⟩).run P w = .ok (.value v) w' ∧ z.R T v ∧ BlockOk T w' td l' ∧ w'.heap.size = w.heap.size ∧ (∀ k, k ≠ b.blk → w'.heap[k]? = w.heap[k]?) ∧ w'.os = w.os ∧ w'.tape = w.tape ∧ w'.output = w.output := by
  unfold apP at h
  split at h
  · rename_i x y t t'
    split at h
    · rename_i td0 od n0 c r hsx hsy
      obtain ⟨b, hb, hx⟩ := evS_ok hf hsx
      split at h
      · rename_i ts os n h2
        obtain ⟨b2, c2, hb2, hy⟩ := slp_ok h2 (evS_ok hf hsy)
        cases hc : Nat.ble (n0 + n) c && (Nat.blt 0 n && (Nat.beq t t' && has B.apd t)) with
        | false => rw [hc] at h; cases h
        | true =>
          rw [hc] at h
          simp only [cond_true] at h
          simp only [Bool.and_eq_true, Nat.ble_eq, Nat.blt_eq, Nat.beq_eq] at hc
          obtain ⟨hle, hpos, rfl, hap⟩ := hc
          split at h
          · rename_i l l2 hl hl2
            split at h
            · rename_i q hq
              split at h
              · rename_i l1 hwr
                simp only [Option.some.injEq, Prod.mk.injEq] at h
                obtain ⟨rfl, rfl, rfl⟩ := h
                obtain ⟨e, i, zv, hu, hi, hz, hsz, hby, hzs, _⟩ := hB.apd t hap
                obtain ⟨xs, hp, hlen, hcell⟩ := (hw.mok.at_ ts l2 hl2).range hb2 hq
                obtain ⟨_, k2, _⟩ := wrN_ok hwr
                obtain ⟨w', g1, g2⟩ := BlockOk.put (P := P) (l' := l1) (hw.mok.at_ td0 l hl) hb (o := od + n0) (ys := xs) hp.1.one (by rw [hp.1.length]; exact k2) (fun zs hzs => hzs.wrN hp hwr)
                have hload : (Builtin.firstCells i.size n (.slice (some ⟨b2.blk, b2.off + os, none⟩) n c2)).run P w = .ok xs.toArray w :=
                  run_firstCells_some (P := P) w i.size n ⟨b2.blk, b2.off + os, none⟩ n c2 xs (by rw [hlen, hsz, Nat.mul_one]) (fun j v hj => by rw [addr_add]; exact hcell j v hj)
                refine ⟨b, .slice (some ⟨b.blk, b.off + od, none⟩) (n0 + n) c, w', hb, ?_, ⟨b, hb, rfl⟩, g2⟩
                have e1 : (⟨b.blk, b.off + od, none⟩ : Addr).add (n0 * i.size) = ⟨b.blk, b.off + (od + n0), none⟩ := by rw [addr_add, hsz, Nat.mul_one, Nat.add_assoc]
                have hap2 : (Builtin.append_ #[t, t] ty #[.slice (some ⟨b.blk, b.off + od, none⟩) n0 c, .slice (some ⟨b2.blk, b2.off + os, none⟩) n c2]).run P w = .ok (.slice (some ⟨b.blk, b.off + od, none⟩) (n0 + n) c) w' := by
                  simp [Builtin.append_, run_underlying hu, sizeOf, typeInfo, hi, Builtin.lenOf, hle, hload, e1, g1]
                simp only [execOp, resolve, invoke, builtin, List.map_toArray, List.map_cons, List.map_nil, hx, hy, Sem.run_bind, Sem.run_pure, Result.andThen_ok, hap2]
              · cases h
            · cases h
          · cases h
      · cases h
    · cases h
  · cases h

theorem exOp_ok (hB : TbOk P B) {T : Tg} {a : Act} {w : World} {s : SS} {op : Op} {dst : Option Tmp} {K : SS → Prop} {N : Act → World → Prop} {Q : Exit → Act → World → Prop} (hf : FrV T B.n a s.env) (hw : WV B T0 w0 T w s) (h : exOp B op dst s K) (hN : Nx B T0 w0 K N)
    (ty : TypeId) (pos : String) (after : Array Edge) (g : Option (Nat × Bool)) : (⟨dst, op, ty, pos, after, g⟩ : Oper).wp P a w N Q := by
  unfold exOp at h
  split at h
  · rename_i t x y
    split at h
    · obtain ⟨⟨tg, l'⟩, hst, h⟩ := obind_some h
      obtain ⟨hwr, h⟩ := onb_true h
      simp only at hwr h
      -- the store itself
      have key : ∃ b o w', T tg = some b ∧ a.eval x = .pointer (some ⟨b.blk, b.off + o, none⟩) ∧ (storeVar t ⟨b.blk, b.off + o, none⟩ (a.eval y)).run P w = .ok () w' ∧ BlockOk T w' tg l' ∧ w'.heap.size = w.heap.size ∧ (∀ k, k ≠ b.blk → w'.heap[k]? = w.heap[k]?) ∧ w'.os = w.os ∧ w'.tape = w.tape ∧ w'.output = w.output := by
        unfold stP at hst
        split at hst
        · rename_i tg' o hx
          obtain ⟨b, hb, hx⟩ := evS_ok hf hx
          split at hst
          · rename_i l hl
            have hbl := hw.mok.at_ _ _ hl
            cases h1 : has B.one t with
            | true =>
              rw [h1] at hst
              simp only [cond_true] at hst
              split at hst
              · rename_i z hz
                have hz := evS_ok hf hz
                split at hst
                · rename_i l1 hwr1
                  simp only [Option.some.injEq, Prod.mk.injEq] at hst
                  obtain ⟨rfl, rfl⟩ := hst
                  obtain ⟨k1, k2, k3⟩ := wr1_ok hwr1
                  obtain ⟨ho1, ho2⟩ := hz.one
                  obtain ⟨w', g1, g2⟩ := BlockOk.store (P := P) (l' := l1) hbl hb (o := o) (ys := [a.eval y]) (s := 1) (t := t) (y := a.eval y) (hB.one t h1 w).2 (by rw [ho2]) rfl (by intro v hv; simp only [List.mem_cons, List.not_mem_nil, or_false] at hv; subst hv; exact ho1) (by simp; omega)
                    (fun xs hxs => by
                      refine ⟨?_, k3 hxs.2⟩
                      rw [k1]
                      have hlen := hxs.1.length
                      have := hxs.1.set (i := o) hz
                      have e : xs.set o (a.eval y) = xs.take o ++ [a.eval y] ++ xs.drop (o + [a.eval y].length) := by
                        rw [List.set_eq_take_append_cons_drop, if_pos (by omega)]; simp
                      rwa [e] at this)
                  exact ⟨b, o, w', hb, hx, g1, g2⟩
                · cases hst
              · cases hst
            | false =>
              rw [h1] at hst
              simp only [cond_false] at hst
              split at hst
              · rename_i n hn
                split at hst
                · rename_i v hv
                  have hv := evV_ok hf hv
                  split at hst
                  · rename_i q hq
                    have hpq := hv.pcs hq
                    cases h2 : Nat.beq (widthL q) n with
                    | false => rw [h2] at hst; cases hst
                    | true =>
                      rw [h2] at hst
                      have h2 := Nat.eq_of_beq_eq_true h2
                      simp only [cond_true] at hst
                      split at hst
                      · rename_i l1 hwrn
                        simp only [Option.some.injEq, Prod.mk.injEq] at hst
                        obtain ⟨rfl, rfl⟩ := hst
                        obtain ⟨_, k2, _⟩ := wrN_ok hwrn
                        obtain ⟨w', g1, g2⟩ := BlockOk.store (P := P) (l' := l1) hbl hb (o := o) (ys := (a.eval y).cells.toList) (s := n) (t := t) (y := a.eval y) (hB.agg t n hn w).2 rfl (by rw [hpq.1.length, ← widthL_ok, h2]) hpq.1.one (by rw [hpq.1.length]; exact k2) (fun xs hxs => hxs.wrN hpq hwrn)
                        exact ⟨b, o, w', hb, hx, g1, g2⟩
                      · cases hst
                  · cases hst
                · cases hst
              · cases hst
          · cases hst
        · cases hst
      obtain ⟨b, o, w', hb, hx, hrun, hbl, hsz, hoth, e1, e2, e3⟩ := key
      have hex : (execOp a.eval ⟨none, .store t x y, ty, pos, after, g⟩).run P w = .ok .skip w' := by
        simp only [execOp, hx, Instr.storeAt, Instr.sureAddr, Sem.run_bind, Sem.run_pure, Result.andThen_ok, hrun]
      unfold Oper.wp
      rw [hex]
      refine hN ⟨s.env, upd s.m tg l', s.nt⟩ _ _ T hf ⟨hw.le, hw.mok.write hwr hb (by omega) (fun k _ hk => hoth k hk) hbl, hw.free, hw.base, hw.own, hw.old, ?_⟩ h
      refine hw.kp.trans (W' := fun k => k = b.blk) ⟨e1, e2, e3, by omega, fun k _ hk => hoth k hk⟩ fun i hi hk => ?_
      subst hk
      exact hw.wr hwr hb hi
    · exact h.elim
  · rename_i args tys
    split at h
    · rename_i d
      obtain ⟨⟨td, l', n⟩, hcp, h⟩ := obind_some h
      obtain ⟨hwr, h⟩ := onb_true h
      rw [Bool.and_eq_true] at hwr
      simp only at hwr h
      have hd : d < B.n := by simpa [Nat.blt_eq] using hwr.2
      obtain ⟨b, w', hb, hrun, hwrap, hbl, hsz, hoth, e1, e2, e3⟩ := cpP_ok hB hf hw hcp (some d) ty pos after g
      have hrun' : (execOp a.eval ⟨some d, .call ⟨.builtin .copy, args, tys⟩, ty, pos, after, g⟩).run P w = .ok (.value (.int .i64 (n : Int))) w' := by simpa using hrun
      unfold Oper.wp
      rw [hrun']
      refine hN ⟨(d, .s (.lit .i64 (.ofNat n))) :: s.env, upd s.m td l', s.nt⟩ _ _ T (hf.put (Tg.le_refl T) hd (by rw [V.R]; exact ⟨rfl, hwrap⟩)) ⟨hw.le, hw.mok.write hwr.1 hb (by omega) (fun k _ hk => hoth k hk) hbl, hw.free, hw.base, hw.own, hw.old, ?_⟩ h
      refine hw.kp.trans (W' := fun k => k = b.blk) ⟨e1, e2, e3, by omega, fun k _ hk => hoth k hk⟩ fun i hi hk => ?_
      subst hk
      exact hw.wr hwr.1 hb hi
    · exact h.elim
  · rename_i args tys
    split at h
    · rename_i r hap
      obtain ⟨td, l', z⟩ := r
      split at h
      · rename_i d
        obtain ⟨hwr, h⟩ := onb_true h
        rw [Bool.and_eq_true] at hwr
        simp only at hwr h
        have hd : d < B.n := by simpa [Nat.blt_eq] using hwr.2
        obtain ⟨b, v, w', hb, hrun, hz, hbl, hsz, hoth, e1, e2, e3⟩ := apP_ok hB hf hw hap (some d) ty pos after g
        have hrun' : (execOp a.eval ⟨some d, .call ⟨.builtin .append, args, tys⟩, ty, pos, after, g⟩).run P w = .ok (.value v) w' := by simpa using hrun
        unfold Oper.wp
        rw [hrun']
        refine hN ⟨(d, .s z) :: s.env, upd s.m td l', s.nt⟩ _ _ T (hf.put (Tg.le_refl T) hd (by rw [V.R]; exact hz)) ⟨hw.le, hw.mok.write hwr.1 hb (by omega) (fun k _ hk => hoth k hk) hbl, hw.free, hw.base, hw.own, hw.old, ?_⟩ h
        refine hw.kp.trans (W' := fun k => k = b.blk) ⟨e1, e2, e3, by omega, fun k _ hk => hoth k hk⟩ fun i hi hk => ?_
        subst hk
        exact hw.wr hwr.1 hb hi
      · exact h.elim
    · exact exDet_ok hB hf hw h hN ty pos after g
  · rename_i f args tys
    split at h
    · rename_i sp hsp
      simpa using exCallK_ok (tys := tys) (hB.ks f sp hsp) hf hw h hN ty pos after g
    · exact exDet_ok hB hf hw h hN ty pos after g
  · exact exDet_ok hB hf hw h hN ty pos after g

end
end Go.Proofs.Ytdaheccfeihpgaa.Nm

/-
  Operations that look at no memory may be taken ahead.
-/
namespace Go.Proofs.Ytdaheccfeihpgaa.Nm
open Go Go.RowKit

def isLight : Op → Bool
  | .move _ => true
  | .binOp .add _ _ _ _ => true
  | .binOp .sub _ _ _ _ => true
  | .call ⟨.builtin .len, _, _⟩ => true
  | _ => false

section
variable {P : Program} {B : Tb} {wr : Nat → Bool} {e0 : Env} {m0 : Mem} {ops : Array Oper} {nt0 : Nat}

theorem light_bin {T : Tg} {a : Act} {env : Env} (hf : FrV T B.n a env) {op : BinOp} (hop : op = .add ∨ op = .sub) {t ty : TypeId} {x y : Operand} {v : V} {fr : List (List Pc)} (h : dqBin B env op t x y = some (v, fr)) :
    fr = [] ∧ ∃ z, (∀ d ty' pos after g w, (execOp a.eval ⟨d, .binOp op t x y ty, ty', pos, after, g⟩).run P w = .ok (.value z) w) ∧ v.R T z := by
  unfold dqBin at h
  split at h
  · rename_i s r hs0 hr0
    have hs := evS_ok hf hs0
    have hr := evS_ok hf hr0
    split at h
    · rename_i z hz
      simp only [Option.some.injEq, Prod.mk.injEq] at h
      obtain ⟨rfl, rfl⟩ := h
      have key : ∀ w, ∃ u, (do eqGuard op t x y (a.eval x) (a.eval y); binOp op t (a.eval x) (a.eval y) : Sem Value).run P w = .ok u w ∧ z.R T u := fun w => dqInt_ok (P := P) (w := w) hs hr hz t x y
      obtain ⟨u0, _, hr0⟩ := key default
      refine ⟨rfl, u0, fun d ty' pos after g w => ?_, by rw [V.R]; exact hr0⟩
      obtain ⟨u, hu, hr1⟩ := key w
      have : u = u0 := by
        have hnb := dqInt_nb hz
        cases z <;> first
          | (cases hnb; done)
          | (rw [hr0.1, hr1.1])
          | (have e0 : u0 = _ := hr0; have e1 : u = _ := hr1; rw [e0, e1])
          | (obtain ⟨b0, t0, e0⟩ := hr0; obtain ⟨b1, t1, e1⟩ := hr1; rw [t0] at t1; cases t1; first | rw [e0, e1] | rw [e0.1, e1.1])
      subst this
      simp only [execOp, Sem.run_bind] at hu ⊢
      rw [hu]
      rfl
    · rcases hop with rfl | rfl <;> (split at h <;> (first | (cases h; done) | (revert h; cases has B.ifs t <;> cases has B.bos t <;> cases lkp B.slc t <;> simp)))
  · cases h

theorem light_len (hB : TbOk P B) {T : Tg} {a : Act} {env : Env} (hf : FrV T B.n a env) {args : List Operand} {tys : List TypeId} {v : V} {fr : List (List Pc)} (h : dqLen B env args tys = some (v, fr)) :
    fr = [] ∧ ∃ z, (∀ d ty' pos after g w, (execOp a.eval ⟨d, .call ⟨.builtin .len, args.toArray, tys.toArray⟩, ty', pos, after, g⟩).run P w = .ok (.value z) w) ∧ v.R T z := by
  unfold dqLen at h
  split at h
  · rename_i x t
    split at h
    · rename_i n hn
      obtain ⟨e, hu, _⟩ := hB.slc t n hn
      split at h
      · rename_i hs
        have hx : a.eval x = .slice none 0 0 := evS_ok hf hs
        simp only [Option.some.injEq, Prod.mk.injEq] at h
        obtain ⟨rfl, rfl⟩ := h
        refine ⟨rfl, .int .i64 0, fun d ty pos after g w => ?_, by rw [V.R]; exact ⟨rfl, by decide⟩⟩
        simp [execOp, resolve, invoke, builtin, Builtin.len_, hx, run_underlying hu, goInt]
      · rename_i t n hs
        obtain ⟨b, _, c, hx, hlt⟩ := evS_ok hf hs
        simp only [Option.some.injEq, Prod.mk.injEq] at h
        obtain ⟨rfl, rfl⟩ := h
        refine ⟨rfl, .int .i64 (n : Int), fun d ty pos after g w => ?_, by rw [V.R]; exact ⟨rfl, by rw [IntKind.wrap_i64]; omega⟩⟩
        simp [execOp, resolve, invoke, builtin, Builtin.len_, hx, run_underlying hu, goInt]
      · rename_i n hs
        obtain ⟨p, c, hx, hlt⟩ := evS_ok hf hs
        simp only [Option.some.injEq, Prod.mk.injEq] at h
        obtain ⟨rfl, rfl⟩ := h
        refine ⟨rfl, .int .i64 (n : Int), fun d ty pos after g w => ?_, by rw [V.R]; exact ⟨rfl, by rw [IntKind.wrap_i64]; omega⟩⟩
        simp [execOp, resolve, invoke, builtin, Builtin.len_, hx, run_underlying hu, goInt]
      · rename_i s hs0 hs1 hs2 hs
        split at h
        · rename_i tg o l hsl
          obtain ⟨b, c, hb, hx⟩ := slp_ok hsl (evS_ok hf hs)
          cases hlt : Nat.blt l 9223372036854775808 with
          | false => rw [hlt] at h; cases h
          | true =>
            rw [hlt] at h
            have hlt : l < 9223372036854775808 := by simpa [Nat.blt_eq] using hlt
            simp only [cond_true, Option.some.injEq, Prod.mk.injEq] at h
            obtain ⟨rfl, rfl⟩ := h
            refine ⟨rfl, .int .i64 (l : Int), fun d ty pos after g w => ?_, ?_⟩
            · simp [execOp, resolve, invoke, builtin, Builtin.len_, hx, run_underlying hu, goInt]
            · rw [V.R]; exact ⟨rfl, by rw [IntKind.wrap_i64]; omega⟩
        · cases h
      · cases h
    · cases h
  · cases h

theorem light_ok (hB : TbOk P B) {T : Tg} {a : Act} {env : Env} {m : Mem} {nt : Nat} (hf : FrV T B.n a env) {o : Op} (hl : isLight o = true) {v : V} {fr : List (List Pc)} (h : dq B env m nt o = some (v, fr)) :
    fr = [] ∧ ∃ z, (∀ d ty' pos after g w, (execOp a.eval ⟨d, o, ty', pos, after, g⟩).run P w = .ok (.value z) w) ∧ v.R T z := by
  unfold isLight at hl
  split at hl
  · rename_i x
    simp only [dq, dqMove] at h
    split at h
    · rename_i u hu
      simp only [Option.some.injEq, Prod.mk.injEq] at h
      obtain ⟨rfl, rfl⟩ := h
      exact ⟨rfl, a.eval x, fun d ty' pos after g w => rfl, evV_ok hf hu⟩
    · cases h
  · exact light_bin hf (.inl rfl) h
  · exact light_bin hf (.inr rfl) h
  · simp only [dq] at h
    unfold dqLen2 at h
    split at h
    · rename_i r hr
      cases h
      simpa using dqLenS_does (P := P) hB hf hr
    · simpa using light_len hB hf h
  · cases hl

/-- An operation that looks at no memory has come up. -/
theorem DInv.put {nt' h i : Nat} {R : List Rw} {T0 T : Tg} {w0 w : World} {L : Array Bool} {a : Act} (hR : Built P B e0 m0 ops nt0 h nt' R) (he0 : ∀ r ∈ R, lkp e0 r.dst = none) (hinv : DInv B wr e0 m0 nt0 nt' R T0 w0 L a w T) {r : Rw} (hr : r ∈ R) (hidx : r.idx = i) (hdn : r.dst < B.n)
    (hun : L.getD i false = false) (hin : i < L.size) (hfr : r.fr = []) {y : Value} (hv : ∀ v, r.v = some v → v.R T y) : DInv B wr e0 m0 nt0 nt' R T0 w0 (L.setIfInBounds i true) (a.put (some r.dst) y) w T := by
  have hget : ∀ j, (L.setIfInBounds i true).getD j false = true → j = i ∨ L.getD j false = true := by
    intro j hj
    by_cases e : i = j
    · exact .inl e.symm
    · rw [getD_set_ne false e] at hj; exact .inr hj
  refine ⟨hinv.le, by simp [Act.put, hinv.asz], hinv.defers, ?_, ?_, ?_, ?_, hinv.hi, hinv.m0, hinv.bel, hinv.newer, hinv.low⟩
  · intro j v hj
    rw [getD_put hinv.asz, if_neg (by
      rintro ⟨rfl, _⟩
      rw [he0 r hr] at hj; cases hj)]
    exact hinv.e0 j v hj
  · intro r' hr' hl v hv'
    rcases hget _ hl with e | hl
    · have := (hR.apart r' hr' r hr).1 (by rw [e, hidx])
      subst this
      rw [getD_put hinv.asz, if_pos ⟨rfl, hdn⟩]
      exact hv v hv'
    · have hne : r'.idx ≠ r.idx := by intro e; rw [e, hidx, hun] at hl; cases hl
      rw [getD_put hinv.asz, if_neg (by
        rintro ⟨e, _⟩
        exact (hR.apart r' hr' r hr).2.2 hne e.symm)]
      exact hinv.val r' hr' hl v hv'
  · intro r' hr' hl k l hk
    rcases hget _ hl with e | hl
    · have := (hR.apart r' hr' r hr).1 (by rw [e, hidx])
      subst this
      rw [hfr] at hk; cases hk
    · exact hinv.blk r' hr' hl k l hk
  · intro r' hr' hl k hk
    have hne : i ≠ r'.idx := by
      rintro rfl
      rw [getD_set_true' hin] at hl
      cases hl
    rw [getD_set_ne false hne] at hl
    exact hinv.unl r' hr' hl k hk

/-- The operations that are taken ahead: each may come up, looks at no memory, and is in nobody's way. -/
def preChk (ops : Array Oper) (h : Nat) : Array Bool → List Nat → Bool
  | _, [] => true
  | L, i :: r => Nat.blt i h && ((Region.ready .any ops L).contains i && (Region.free .any ops L i && ((match ops[i]? with
      | some o => isLight o.op && o.guard.isNone
      | none => false) && preChk ops h (L.setIfInBounds i true) r)))

def setAll : Array Bool → List Nat → Array Bool
  | L, [] => L
  | L, i :: r => setAll (L.setIfInBounds i true) r

theorem setAll_size : ∀ (l : List Nat) (L : Array Bool), (setAll L l).size = L.size
  | [], L => rfl
  | i :: r, L => by rw [setAll, setAll_size r]; simp

theorem setAll_mem : ∀ (l : List Nat) (L : Array Bool) (j : Nat), (j ∈ l ∨ L.getD j false = true) → j < L.size → (setAll L l).getD j false = true
  | [], L, j, h, _ => by rcases h with h | h; cases h; exact h
  | i :: r, L, j, h, hj => by
    rw [setAll]
    refine setAll_mem r _ j ?_ (by simpa using hj)
    rcases h with h | h
    · simp only [List.mem_cons] at h
      rcases h with rfl | h
      · exact .inr (getD_set_true' hj)
      · exact .inl h
    · exact .inr (getD_set_true h)

theorem pre_any {nt' h : Nat} {R : List Rw} {T0 T : Tg} {w0 w : World} {Q : Exit → Act → World → Prop} (hB : TbOk P B) (hR : Built P B e0 m0 ops nt0 h nt' R) (he0 : ∀ r ∈ R, lkp e0 r.dst = none) (hsel : Region.noSelect ops = true) (hh : h ≤ ops.size)
    (hP : ∀ c a d v w, Q (.panic c) (a.put d v) w → Q (.panic c) a w) (tl f : Nat) : ∀ (l : List Nat) (L : Array Bool) (a : Act), preChk ops h L l = true → L.size = ops.size → Closed ops L → (∀ t, h ≤ t → t < ops.size → L.getD t true = false) →
    DInv B wr e0 m0 nt0 nt' R T0 w0 L a w T → left L h + tl = f + l.length → (∀ a', Closed ops (setAll L l) → (∀ t, h ≤ t → t < ops.size → (setAll L l).getD t true = false) → DInv B wr e0 m0 nt0 nt' R T0 w0 (setAll L l) a' w T → left (setAll L l) h + tl = f → wpAny P .any ops Q f (setAll L l) a' w) →
    wpAny P .any ops Q (f + l.length) L a w
  | [], L, a, _, hsz, hcl, ht, hinv, hleft, hK => hK a hcl ht hinv hleft
  | i :: r, L, a, hchk, hsz, hcl, ht, hinv, hleft, hK => by
    simp only [preChk, Bool.and_eq_true, Nat.blt_eq] at hchk
    obtain ⟨hih, hrdy, hfree, hlight, hrest⟩ := hchk
    have hmem : i ∈ Region.ready .any ops L := by simpa using hrdy
    obtain ⟨hun, o, ho, hall⟩ := mem_ready.1 hmem
    rw [ho] at hlight
    simp only [Bool.and_eq_true, Option.isNone_iff_eq_none] at hlight
    obtain ⟨rw, hr, hidx⟩ := hR.idx i hih
    obtain ⟨pre, suf, hRe, ⟨hbs, o', ho', hd, hdn, hnd, hel, hmask, v0, hres, hweak⟩, _, _, _⟩ := hR.mem rw hr
    have hsuf : ∀ r' ∈ suf, r' ∈ R := fun r' h' => by rw [hRe]; simp [h']
    rw [hidx] at ho'
    have : o' = o := Option.some.inj (ho'.symm.trans ho)
    subst this
    have hcov : Cov L rw.mask := by
      rw [hmask]
      exact cov_mask (fun r' h' => hR.cov hcl r' (hsuf r' h')) fun e he hb => hall e (by simpa using he) hb
    have hfrv := hinv.frv hcov hsuf
    rcases hres with hres | ⟨⟨f', args', tys', hop⟩, _⟩
    case inr =>
      have := hlight.1
      rw [hop] at this
      cases this
    unfold opRes at hres
    rw [hlight.2] at hres
    simp only at hres
    split at hres
    · rename_i v fr hdq
      simp only [Option.some.injEq, Prod.mk.injEq] at hres
      obtain ⟨h1, z, h2, h3⟩ := light_ok (P := P) hB hfrv hlight.1 hdq
      have hin : i < L.size := by rw [hsz]; omega
      have hLi : L.getD i false = false := getD_both hun
      have hinv' := hinv.put hR he0 hr hidx hdn hLi hin (by rw [← hres.2, h1]) (y := z) (fun v' hv' => by obtain ⟨u', e1, e2⟩ := hweak _ hv'; rw [← hres.1] at e1; cases e1; exact e2 _ _ h3)
      have hls := left_set hin hun (h := h)
      rw [if_pos hih] at hls
      show wpAny P .any ops Q (f + (r.length + 1)) L a w
      rw [← Nat.add_assoc]
      refine wpAny_take (v := z) ho hsel hfree hrdy (fun c a w hq => hP c a _ _ w hq) (.inl ⟨wanted_none hlight.2 ops a, fun w => ?_⟩) ?_
      · obtain ⟨dst, op, ty, pos, after, g⟩ := o'
        exact h2 dst ty pos after g w
      · rw [hd]
        refine pre_any hB hR he0 hsel hh hP tl f r _ _ hrest (by simp [hsz]) (closed_set hcl hmem) (fun t ht1 ht2 => by rw [getD_set_ne true (by omega)]; exact ht t ht1 ht2) hinv' (by simp only [List.length_cons] at hleft; omega) fun a' g1 g2 g3 g4 => hK a' g1 g2 g3 g4
    · cases hres

end
end Go.Proofs.Ytdaheccfeihpgaa.Nm

