import PyProof.Rows.All
import Wide.All
import OpenK.AllK
import Wide.FinOn
import PySem.Challenge.RW_bc0030_01
set_option Elab.async false
set_option maxRecDepth 100000
set_option maxHeartbeats 8000000

section
namespace Rs

def Hom (f : Nat → Nat) : Prop := ∀ a b, f (a ^^^ b) = f a ^^^ f b

theorem Hom.zero {f : Nat → Nat} (h : Hom f) : f 0 = 0 := by
  have e := h 0 0
  simpa using e
theorem Hom.comp {f g : Nat → Nat} (hf : Hom f) (hg : Hom g) : Hom (fun x => f (g x)) := fun a b => by
  show f (g (a ^^^ b)) = _
  rw [hg, hf]
theorem Hom.xor {f g : Nat → Nat} (hf : Hom f) (hg : Hom g) : Hom (fun x => f x ^^^ g x) := fun a b => by
  show f (a ^^^ b) ^^^ g (a ^^^ b) = _
  rw [hf, hg]
  show (f a ^^^ f b) ^^^ (g a ^^^ g b) = (f a ^^^ g a) ^^^ (f b ^^^ g b)
  ac_rfl
theorem hom_id : Hom (fun x => x) := fun _ _ => rfl
theorem hom_zero : Hom (fun _ => 0) := fun _ _ => (Nat.xor_self 0).symm
theorem hom_bit (i g : Nat) : Hom (fun x => if x.testBit i then g else 0) := fun a b => by
  show (if (a ^^^ b).testBit i then g else 0) = _
  rw [Nat.testBit_xor]
  show _ = (if a.testBit i then g else 0) ^^^ (if b.testBit i then g else 0)
  cases a.testBit i <;> cases b.testBit i <;> simp
theorem hom_shl (k : Nat) : Hom (fun x => x <<< k) := fun _ _ => Nat.shiftLeft_xor_distrib
theorem hom_shr (k : Nat) : Hom (fun x => x >>> k) := fun _ _ => Nat.shiftRight_xor_distrib
theorem hom_and (k : Nat) : Hom (fun x => x &&& k) := fun _ _ => Nat.and_xor_distrib_right

theorem xor_cancel (a b : Nat) : (a ^^^ b) ^^^ b = a := by rw [Nat.xor_assoc, Nat.xor_self, Nat.xor_zero]
theorem top_bit {n c : Nat} (h : ¬ c < 2 ^ n) (h' : c < 2 ^ (n + 1)) : c ^^^ 2 ^ n < 2 ^ n := by
  refine Nat.lt_pow_two_of_testBit _ fun i hi => ?_
  rw [Nat.testBit_xor, Nat.testBit_two_pow]
  by_cases e : n = i
  · subst e
    have : c.testBit n = true := Nat.testBit_of_two_pow_le_and_two_pow_add_one_gt (by omega) h'
    simp [this]
  · have : c.testBit i = false := Nat.testBit_lt_two_pow (Nat.lt_of_lt_of_le h' (Nat.pow_le_pow_right (by decide) (by omega)))
    simp [this, e]
theorem hom_ext {f g : Nat → Nat} (hf : Hom f) (hg : Hom g) : ∀ (n : Nat), (∀ i, i < n → f (2 ^ i) = g (2 ^ i)) → ∀ c, c < 2 ^ n → f c = g c
  | 0, _, c, hc => by
    have : c = 0 := by simpa using hc
    subst this
    rw [hf.zero, hg.zero]
  | n + 1, h, c, hc => by
    by_cases hlt : c < 2 ^ n
    · exact hom_ext hf hg n (fun i hi => h i (Nat.lt_succ_of_lt hi)) c hlt
    · have e := xor_cancel c (2 ^ n)
      rw [← e, hf, hg, hom_ext hf hg n (fun i hi => h i (Nat.lt_succ_of_lt hi)) _ (top_bit hlt hc), h n (Nat.lt_succ_self n)]

/-- times the generator a (a ** 10 = a ** 3 + 1), on every natural number -/
def T (a : Nat) : Nat := (a <<< 1) ^^^ (if a.testBit 9 then 1033 else 0)
theorem hom_T : Hom T := (hom_shl 1).xor (hom_bit 9 1033)
theorem T_eq {a : Nat} (h : a < 1024) : T a = if a < 512 then a * 2 else (a * 2) ^^^ 1033 := by
  unfold T
  rw [Nat.shiftLeft_eq]
  by_cases hlt : a < 512
  · have : a.testBit 9 = false := Nat.testBit_lt_two_pow (by simpa using hlt)
    simp [this, hlt]
  · have : a.testBit 9 = true := Nat.testBit_of_two_pow_le_and_two_pow_add_one_gt (by omega) (by omega)
    simp [this, hlt]
theorem T_lt {a : Nat} (h : a < 1024) : T a < 1024 := by
  rw [T_eq h]
  split
  · omega
  · show a * 2 ^^^ 1033 < 2 ^ 10
    have e : a * 2 ^^^ 1033 = (a * 2 ^^^ 2 ^ 10) ^^^ 9 := by
      have : (1033 : Nat) = 2 ^ 10 ^^^ 9 := by decide
      rw [this, Nat.xor_assoc]
    rw [e]
    exact Nat.xor_lt_two_pow (top_bit (by omega) (by omega)) (by decide)
def P : Nat → Nat → Nat
  | 0, a => a
  | k + 1, a => T (P k a)
theorem hom_P : ∀ k, Hom (P k)
  | 0 => hom_id
  | k + 1 => hom_T.comp (hom_P k)
theorem P_lt : ∀ k {a : Nat}, a < 1024 → P k a < 1024
  | 0, _, h => h
  | k + 1, _, h => T_lt (P_lt k h)
theorem P_add : ∀ j k a, P (j + k) a = P j (P k a)
  | 0, k, a => by simp [P]
  | j + 1, k, a => by rw [Nat.succ_add]; show T (P (j + k) a) = T (P j (P k a)); rw [P_add j k a]
theorem P_succ' (k a : Nat) : P (k + 1) a = P k (T a) := P_add k 1 a

/-- the product of two numbers of the field: b's bits over the powers of a -/
def mulN : Nat → Nat → Nat → Nat
  | 0, _, _ => 0
  | n + 1, a, b => (if b.testBit 0 then a else 0) ^^^ mulN n (T a) (b >>> 1)
theorem hom_mul_left : ∀ n, ∀ b, Hom (fun a => mulN n a b)
  | 0, _ => hom_zero
  | n + 1, b => by
    refine Hom.xor (f := fun a => if b.testBit 0 then a else 0) (g := fun a => mulN n (T a) (b >>> 1)) ?_ ((hom_mul_left n (b >>> 1)).comp hom_T)
    cases b.testBit 0
    · exact hom_zero
    · exact hom_id
theorem hom_mul_right : ∀ n a, Hom (fun b => mulN n a b)
  | 0, _ => hom_zero
  | n + 1, a => Hom.xor (f := fun b => if b.testBit 0 then a else 0) (g := fun b => mulN n (T a) (b >>> 1)) (hom_bit 0 a) ((hom_mul_right n (T a)).comp (hom_shr 1))
theorem mulN_lt : ∀ n a b, a < 1024 → mulN n a b < 1024
  | 0, _, _, _ => by show 0 < 1024; decide
  | n + 1, a, b, h => by
    show (if b.testBit 0 then a else 0) ^^^ mulN n (T a) (b >>> 1) < 2 ^ 10
    refine Nat.xor_lt_two_pow ?_ (mulN_lt n (T a) _ (T_lt h))
    split
    · exact h
    · decide
abbrev mul (a b : Nat) : Nat := mulN 10 a b

def basis10 (p : Nat → Bool) : Bool := (List.range 10).all fun i => p (2 ^ i)
theorem basis10_of {p : Nat → Bool} (h : basis10 p = true) : ∀ i, i < 10 → p (2 ^ i) = true := fun i hi => List.all_eq_true.mp h i (List.mem_range.mpr hi)

theorem ext10 {f g : Nat → Nat} (hf : Hom f) (hg : Hom g) (h : basis10 (fun x => f x == g x) = true) : ∀ c, c < 1024 → f c = g c :=
  fun c hc => hom_ext hf hg 10 (fun i hi => beq_iff_eq.mp (basis10_of h i hi)) c hc

/-- the product's right factor moves through T -/
theorem mul_T {a b : Nat} (ha : a < 1024) (hb : b < 1024) : mul a (T b) = T (mul a b) := by
  have key : ∀ i, i < 10 → ∀ b, b < 1024 → mul (2 ^ i) (T b) = T (mul (2 ^ i) b) := by
    intro i hi
    have h : basis10 (fun x => basis10 fun y => mul x (T y) == T (mul x y)) = true := by decide +kernel
    have h2 := basis10_of h i hi
    exact ext10 ((hom_mul_right 10 (2 ^ i)).comp hom_T) (hom_T.comp (hom_mul_right 10 (2 ^ i))) h2
  exact hom_ext (hom_mul_left 10 (T b)) (hom_T.comp (hom_mul_left 10 b)) 10 (fun i hi => key i hi b hb) a ha
theorem mul_P {a b : Nat} (ha : a < 1024) (hb : b < 1024) : ∀ k, mul a (P k b) = P k (mul a b)
  | 0 => rfl
  | k + 1 => by
    show mul a (T (P k b)) = T (P k (mul a b))
    rw [mul_T ha (P_lt k hb), mul_P ha hb k]

def invs : List Nat := [1016, 687, 589, 478, 133, 359, 8, 928, 368, 129, 214, 632, 738, 64]
theorem T_inj {x : Nat} (h : x < 1024) (e : T x = 0) : x = 0 := by
  have k : mul (T x) 516 = x := ext10 (f := fun x => mul (T x) 516) (g := fun x => x) ((hom_mul_left 10 516).comp hom_T) hom_id (by decide +kernel) x h
  rw [← k, e]
  exact (hom_mul_left 10 516).zero
theorem P_inj : ∀ k {x : Nat}, x < 1024 → P k x = 0 → x = 0
  | 0, _, _, e => e
  | k + 1, _, h, e => P_inj k h (T_inj (P_lt k h) e)
theorem P_fix {d x : Nat} (hd : d < 14) (h : x < 1024) (e : P (d + 1) x ^^^ x = 0) : x = 0 := by
  have tab : ((List.range 14).all fun d => basis10 fun x => mul (P (d + 1) x ^^^ x) (invs.getD d 0) == x) = true := by decide +kernel
  have k : mul (P (d + 1) x ^^^ x) (invs.getD d 0) = x :=
    ext10 (f := fun x => mul (P (d + 1) x ^^^ x) (invs.getD d 0)) (g := fun x => x) ((hom_mul_left 10 _).comp ((hom_P (d + 1)).xor hom_id)) hom_id (List.all_eq_true.mp tab d (List.mem_range.mpr hd)) x h
  rw [← k, e]
  exact (hom_mul_left 10 _).zero
theorem P_apart {i j x : Nat} (hi : i < 15) (hj : j < 15) (hne : i ≠ j) (h : x < 1024) (e : P j x ^^^ P i x = 0) : x = 0 := by
  have go : ∀ {i j : Nat}, i < j → j < 15 → P j x ^^^ P i x = 0 → x = 0 := by
    intro i j hij hj e
    obtain ⟨d, rfl⟩ : ∃ d, j = i + (d + 1) := ⟨j - i - 1, by omega⟩
    rw [P_add, ← hom_P i] at e
    exact P_fix (d := d) (by omega) h (P_inj i (by
      have := Nat.xor_lt_two_pow (n := 10) (P_lt (d + 1) h) h
      exact this) e)
  rcases Nat.lt_or_gt_of_ne hne with hlt | hgt
  · exact go hlt hj e
  · exact go hgt hi (by rw [Nat.xor_comm]; exact e)

/-- the sum over the places below n -/
def sumX : Nat → (Nat → Nat) → Nat
  | 0, _ => 0
  | n + 1, f => sumX n f ^^^ f n
theorem sumX_congr {f g : Nat → Nat} : ∀ n, (∀ j, j < n → f j = g j) → sumX n f = sumX n g
  | 0, _ => rfl
  | n + 1, h => by
    show sumX n f ^^^ f n = sumX n g ^^^ g n
    rw [sumX_congr n fun j hj => h j (Nat.lt_succ_of_lt hj), h n (Nat.lt_succ_self n)]
theorem sumX_xor (f g : Nat → Nat) : ∀ n, sumX n (fun j => f j ^^^ g j) = sumX n f ^^^ sumX n g
  | 0 => (Nat.xor_self 0).symm
  | n + 1 => by
    show sumX n (fun j => f j ^^^ g j) ^^^ (f n ^^^ g n) = (sumX n f ^^^ f n) ^^^ (sumX n g ^^^ g n)
    rw [sumX_xor f g n]
    ac_rfl
theorem sumX_hom {L : Nat → Nat} (hL : Hom L) (f : Nat → Nat) : ∀ n, L (sumX n f) = sumX n fun j => L (f j)
  | 0 => hL.zero
  | n + 1 => by
    show L (sumX n f ^^^ f n) = _
    rw [hL, sumX_hom hL f n]
    rfl
theorem sumX_zero {f : Nat → Nat} {n : Nat} (h : ∀ j, j < n → f j = 0) : sumX n f = 0 := by
  rw [sumX_congr n (g := fun _ => 0) h]
  induction n with
  | zero => rfl
  | succ n ih => show sumX n _ ^^^ 0 = 0; rw [ih fun j hj => h j (Nat.lt_succ_of_lt hj)]; rfl
theorem sumX_one {f : Nat → Nat} {i : Nat} : ∀ n, i < n → (∀ j, j < n → j ≠ i → f j = 0) → sumX n f = f i
  | n + 1, hi, h => by
    show sumX n f ^^^ f n = f i
    by_cases e : i = n
    · subst e
      rw [sumX_zero fun j hj => h j (Nat.lt_succ_of_lt hj) (Nat.ne_of_lt hj), Nat.zero_xor]
    · rw [h n (Nat.lt_succ_self n) (Ne.symm e), Nat.xor_zero]
      exact sumX_one n (by omega) fun j hj => h j (Nat.lt_succ_of_lt hj)
theorem sumX_shift (f : Nat → Nat) : ∀ n, sumX (n + 1) f = f 0 ^^^ sumX n fun j => f (j + 1)
  | 0 => by show 0 ^^^ f 0 = f 0 ^^^ 0; rw [Nat.xor_comm]
  | n + 1 => by
    show sumX (n + 1) f ^^^ f (n + 1) = f 0 ^^^ (sumX n (fun j => f (j + 1)) ^^^ f (n + 1))
    rw [sumX_shift f n, Nat.xor_assoc]

/-- a word whose letters differ from nought at r known places of fifteen and whose r next syndromes are nought is nought -/
theorem none_of {n : Nat} (hn : n ≤ 15) : ∀ (l : List Nat) (a : Nat) (f : Nat → Nat), (∀ j, j < n → f j < 1024) → (∀ i ∈ l, i < n) → (∀ j, j < n → f j ≠ 0 → j ∈ l) →
    (∀ m, m < l.length → sumX n (fun j => P ((a + m) * j) (f j)) = 0) → ∀ j, j < n → f j = 0
  | [], _, f, _, _, hc, _, j, hj => by
    by_cases e : f j = 0
    · exact e
    · exact absurd (hc j hj e) (by simp)
  | i :: l, a, f, hf, hl, hc, hs, j, hj => by
    have hi : i < n := hl i (by simp)
    have ih := none_of hn l a (fun j => P j (f j) ^^^ P i (f j))
      (fun j hj => Nat.xor_lt_two_pow (n := 10) (P_lt j (hf j hj)) (P_lt i (hf j hj)))
      (fun k hk => hl k (by simp [hk]))
      (fun j hj hne => by
        by_cases e : j = i
        · subst e; exact absurd (Nat.xor_self _) hne
        · have : f j ≠ 0 := fun q => hne (by rw [q, (hom_P j).zero, (hom_P i).zero]; rfl)
          rcases List.mem_cons.mp (hc j hj this) with q | q
          · exact absurd q e
          · exact q)
      (fun m hm => by
        have h1 := hs (m + 1) (by simp; omega)
        have h0 := hs m (by simp; omega)
        have e : sumX n (fun j => P ((a + m) * j) (P j (f j) ^^^ P i (f j))) = sumX n (fun j => P ((a + (m + 1)) * j) (f j)) ^^^ P i (sumX n fun j => P ((a + m) * j) (f j)) := by
          rw [sumX_hom (hom_P i), ← sumX_xor]
          refine sumX_congr n fun j _ => ?_
          show P ((a + m) * j) (P j (f j) ^^^ P i (f j)) = P ((a + (m + 1)) * j) (f j) ^^^ P i (P ((a + m) * j) (f j))
          rw [hom_P, ← P_add, ← P_add, ← P_add, show (a + m) * j + j = (a + (m + 1)) * j by rw [← Nat.add_assoc, Nat.succ_mul], Nat.add_comm ((a + m) * j) i]
        rw [e, h1, h0, (hom_P i).zero]; rfl)
    have rest : ∀ j, j < n → j ≠ i → f j = 0 := fun j hj hne => P_apart (by omega) (by omega) (Ne.symm hne) (hf j hj) (ih j hj)
    by_cases e : j = i
    · subst e
      have h0 := hs 0 (by simp)
      rw [sumX_one n hj fun k hk hne => by rw [rest k hk hne, (hom_P _).zero]] at h0
      exact P_inj _ (hf j hj) h0
    · exact rest j hj e

end Rs
end

section
namespace Rs
theorem xor_add (n : Nat) : ∀ a b : Nat, a ≤ n → (a ^^^ b) + 2 * (a &&& b) = a + b := by
  induction n with
  | zero => intro a b h; have : a = 0 := by omega
            subst this; simp
  | succ n ih =>
    intro a b h
    have i := ih (a / 2) (b / 2) (by omega)
    have h1 : (a ^^^ b) / 2 = a / 2 ^^^ b / 2 := Nat.xor_div_two
    have h2 : (a &&& b) / 2 = a / 2 &&& b / 2 := Nat.and_div_two
    have h3 := @Nat.xor_mod_two_eq_one a b
    have h4 := @Nat.and_mod_two_eq_one a b
    rw [← h1, ← h2] at i
    omega
end Rs
end

section
open PySem PySem.W PyProof.Rows
open_top hd for PySem.Challenge.rw_bc0030_01
end

section
open PySem PySem.W PyProof.Rows
namespace Mine
local macro_rules | `(tactic| k_mem) => `(tactic| assumption)
local macro_rules | `(tactic| walk_at "mine go") => `(tactic| ((fail_if_success (with_reducible show wpAny _ _ (exec (Stmt.For _ _ _ _ _) _) _ _ _)); (fail_if_success (with_reducible show InvEndN _ _ _ _ _ _ _)); first | (k_unfold; (try dsimp only)) | (k_end; wrow_close) | walk1))
local macro_rules | `(tactic| walk_at "mine steps") => `(tactic| repeat' (first | walk_at "mine go" | (dsimp only; walk_at "mine go")))

def genI (i : Int) : Int := [14737472, 29474944, 58949888, 117899776, 235798537, 470557714, 940076068, 814808136, 565311632, 66318624].getD i.toNat 0
/-- one turn of the inner loop -/
def inI (b c i : Int) : Int := Builtin.bitXor c (if Builtin.bitAnd (b.fdiv (2 ^ i.toNat)) 1 = 0 then 0 else genI i)
/-- one turn of the outer loop -/
def stI (c v : Int) : Int := (rangeKs 0 10).foldl (inI (c.fdiv (2 ^ Int.toNat 20))) (Builtin.bitXor (Builtin.bitAnd c 1048575 * 2 ^ Int.toNat 10) v)
def pmI (ns : List Int) : Int := ns.foldl stI 1

section
variable {prog : Program} {w : World} {A : Around} {E : Value → Shared → Prop} {s : Shared} {env : Env} {h₀ : Heap} {x : Str} {body : List Stmt} {Q : Flow → Shared → Prop} {m₀ : Str → Option Value} {news : List (Addr × Obj)}
/-- a loop over a list of the ledger whose turns change one int name, and others that are forgotten -/
theorem loopL {l : Addr} {vs : List Value} {ns : List Int} {nn : Nat} {a₀ : Int} {t₀ : Tok} (y : Str) (stored : List Str) (P : List Int → Int → Prop)
    (F : Fr h₀ env.locals s.heap m₀) (N : News h₀ env.locals s.heap news) (hh : A.handled = none) (hl : (l, listOf vs.toArray nn) ∈ news) (hi : IntsAre vs ns) (hk : m₀ y = some (.int a₀ t₀)) (hp : P [] a₀)
    (turn : ∀ (a : Int) (ta : Tok) pre n t (u : Str → Option Value) h tk own, P pre a →
      Fr h₀ env.locals h (fun z => if z = x then some (.int n t) else kstB (fun z => if stored.contains z then u z else m₀ z) [(y, .int a ta)] z) → News h₀ env.locals h (news ++ own) →
      wpAny (model prog w) A (execs body env) (InvPostN h₀ env.locals (KstS (fun _ : Int × Tok => news) (fun c => [(y, .int c.1 c.2)]) (fun _ => True) x stored m₀ (fun pre c => P pre c.1) (pre ++ [n])) own (news.map (·.1)) { s with heap := h, toks := tk } Q) E { s with heap := h, toks := tk })
    (done : ∀ (a : Int) (ta : Tok) (u : Str → Option Value) h tk, P ns a → Fr h₀ env.locals h (fun z => if z = x then u z else kstB (fun z => if stored.contains z then u z else m₀ z) [(y, .int a ta)] z) → News h₀ env.locals h news → Q .next { s with heap := h, toks := tk }) :
    wpAny (model prog w) A (pyIter (.ref l)) (fun it s₂ => LoopAtV prog w A h₀ env x body Q E it s₂) E s :=
  kst_listL (fun _ => news) (fun c => [(y, .int c.1 c.2)]) (fun _ => True) stored (fun pre c => P pre c.1) (a₀, t₀) hh (fun _ => hl) hi F N trivial (fun p hp => by rcases List.mem_singleton.mp hp with rfl; exact hk) hp
    (fun c pre post n t u h tk own _ _ _ _ hP F' N' => turn c.1 c.2 pre n t u h tk own hP F' N') fun c u h tk _ hP F' N' => done c.1 c.2 u h tk hP F' N'
theorem loopR {r : Addr} {b₀ : Int} {t₀ u₀ v₀ : Tok} {n : Nat} {a₀ : Int} {ta₀ : Tok} (y : Str) (stored : List Str) (P : List Int → Int → Prop)
    (F : Fr h₀ env.locals s.heap m₀) (N : News h₀ env.locals s.heap news) (hh : A.handled = none) (hr : IsRange s.heap r 0 b₀ 1 t₀ u₀ v₀) (hsmall : Builtin.Range.small 0 b₀ 1 = true) (hn : Builtin.Range.rangeSize 0 b₀ 1 = (n : Int)) (hk : m₀ y = some (.int a₀ ta₀)) (hp : P [] a₀)
    (turn : ∀ (a : Int) (ta : Tok) (pre : List Int) (k : Int) t (u : Str → Option Value) h tk own, 0 ≤ k → k < n → P pre a →
      Fr h₀ env.locals h (fun z => if z = x then some (.int k t) else kstB (fun z => if stored.contains z then u z else m₀ z) [(y, .int a ta)] z) → News h₀ env.locals h (news ++ own) →
      wpAny (model prog w) A (execs body env) (InvPostN h₀ env.locals (KstS (fun _ : Int × Tok => news) (fun c => [(y, .int c.1 c.2)]) (fun _ => True) x stored m₀ (fun pre c => P pre c.1) (pre ++ [k])) own (news.map (·.1)) { s with heap := h, toks := tk } Q) E { s with heap := h, toks := tk })
    (done : ∀ (a : Int) (ta : Tok) (u : Str → Option Value) h tk, P (rangeKs 0 n) a → Fr h₀ env.locals h (fun z => if z = x then u z else kstB (fun z => if stored.contains z then u z else m₀ z) [(y, .int a ta)] z) → News h₀ env.locals h news → Q .next { s with heap := h, toks := tk }) :
    wpAny (model prog w) A (pyIter (.ref r)) (fun it s₂ => LoopAtV prog w A h₀ env x body Q E it s₂) E s :=
  kst_range (fun _ => news) (fun c => [(y, .int c.1 c.2)]) (fun _ => True) stored (fun pre c => P pre c.1) (a₀, ta₀) hh hr hsmall hn F N trivial (fun p hp => by rcases List.mem_singleton.mp hp with rfl; exact hk) hp
    (fun c pre k t u h tk own hk hlt _ _ hP F' N' => turn c.1 c.2 pre k t u h tk own (by omega) (by omega) hP F' N') fun c u h tk _ hP F' N' => done c.1 c.2 u h tk hP F' N'
end

theorem mask_small (c : Int) : (Builtin.bitAnd c 1048575).natAbs < 2 ^ 64 := by
  have e : (1048575 : Int) = 2 ^ 20 - 1 := by decide
  rw [e, kbt_mask]
  omega
theorem gen_item {prog : Program} {w : World} {A : Around} {E : Value → Shared → Prop} {s : Shared} {value slice : PySem.Expr} {D : Addr} {t0 t1 t2 t3 t4 t5 t6 t7 t8 t9 : Tok} {h₀ : Heap} {L : Addr} {news : List (Addr × Obj)} {k : Int} {u : Tok} {Q : Value → Shared → Prop}
    (N : News h₀ L s.heap news) (hD : (D, ({ cls := .type "tuple", data := .seq #[.int 14737472 t0, .int 29474944 t1, .int 58949888 t2, .int 117899776 t3, .int 235798537 t4, .int 470557714 t5, .int 940076068 t6, .int 814808136 t7, .int 565311632 t8, .int 66318624 t9] } : Obj)) ∈ news)
    (h0 : 0 ≤ k) (h1 : k < 10) (h : ∀ t, Q (.int (genI k) t) s)
    (hs : subscripted slice false (.ref D) (.int k u) = operate [.ref D, .int k u] (getItem (.ref D) (.int k u)) := by with_unfolding_all rfl) :
    wpAny (model prog w) A (subscriptTail value slice (.ref D) (.int k u)) Q E s := by
  have ht : IsTup s.heap D [Value.int 14737472 t0, .int 29474944 t1, .int 58949888 t2, .int 117899776 t3, .int 235798537 t4, .int 470557714 t5, .int 940076068 t6, .int 814808136 t7, .int 565311632 t8, .int 66318624 t9].toArray := News.isTup N hD
  have hk : k = 0 ∨ k = 1 ∨ k = 2 ∨ k = 3 ∨ k = 4 ∨ k = 5 ∨ k = 6 ∨ k = 7 ∨ k = 8 ∨ k = 9 := by omega
  rcases hk with rfl | rfl | rfl | rfl | rfl | rfl | rfl | rfl | rfl | rfl
  all_goals exact item_tupleT ht (by decide) (by decide) rfl rfl (h _) hs
local macro_rules | `(tactic| walk_at "binaryOp LShift int int") => `(tactic| (refine lshift_int_small (by decide) (by decide) (mask_small _) ?_))
theorem mine_end {h₀ : Heap} {x y : Str} {a : Int} {t : Tok} {news : List (Addr × Obj)} {stored : List Str} {m₀ : Str → Option Value} {P : List Int → Int × Tok → Prop} {pre : List Int} {L : Addr} {m' : Str → Option Value} {own news' : List (Addr × Obj)} {adr : List Addr} {s₁ : Shared} {h' : Heap} {tk : Nat}
    (F : Fr h₀ L h' m') (N : News h₀ L h' news') (hn : ∀ p ∈ news, p ∈ news') (ho : ∀ p ∈ own, p ∈ news') (ha : news.map (·.1) = adr) (hk : m' y = some (.int a t))
    (hr : ∀ z, z ≠ x → z ≠ y → stored.contains z = false → m' z = m₀ z) (hp : P pre (a, t)) :
    InvEndN h₀ L (KstS (fun _ : Int × Tok => news) (fun c => [(y, .int c.1 c.2)]) (fun _ => True) x stored m₀ P pre) own adr s₁ { s₁ with heap := h', toks := tk } :=
  kst_end (a, t) F N hn ho ha trivial (fun p hp => by rcases List.mem_singleton.mp hp with rfl; exact hk) (fun z h1 h2 h3 => hr z h1 (h2 _ (.head _)) h3) hp
local macro_rules | `(tactic| walk_at "subscriptTail Name Name ref int") => `(tactic| (k_here; (rename News _ _ _ _ => N'); refine gen_item N' (List.Mem.head _) (by assumption) (by assumption) ?_; intro tg'))

theorem polymod_call {w : World} {mean : ExcName → Option Value} {mg mb : Str → Option Value} (dp un : Nat) (gd : Option (List Code)) (cn : Str) (cs : Scope) (a : Addr) (ccd : Value) (cl : List (Str × Addr)) (outer : List Env) (A₀ : Around) (base h₀ : Heap) (L : Addr) (m : Str → Option Value) (s : Shared) (Q E : Value → Shared → Prop)
    (news : List (Addr × Obj)) (l : Addr) (vs : List Value) (k : Nat) (ns : List Int)
    (B : Below A₀ base outer h₀) (F : Fr h₀ L s.heap m) (X : (hd.heap_39 w.params).In h₀) (N : News h₀ L s.heap news) (T : Top hd.view_39 (looseW hd.view_39 []) mean mg mb h₀) (hk : cs.kind = .function)
    (hm : (l, ({ cls := .type "list", data := .seq vs.toArray k } : Obj)) ∈ news) (hi : IntsAre vs ns)
    (hdp : dp + 1 < recursionLimit) (hun : un + 8 < cLine)
    (hret : ∀ (t : Tok) (h' : Heap) (tk' : Nat), Fr h₀ L h' m → News h₀ L h' news → Q (.int (pmI ns) t) { s with heap := h', toks := tk' }) :
    wpAny (model PySem.Challenge.rw_bc0030_01.row.prog w) (ktrTop dp un gd cn cs L a ccd cl outer) (call (.ref 21) [.ref l]) Q E s := by
  revert X
  k_fill
  intro X
  refine wpAny_call ?_
  k_dflt cell_enter
  k_steps
  rename Fr _ _ _ _ => F1
  rename News _ _ _ _ => N1
  with_unfolding_all refine' For_invVF F1 ?k1 ?k2 ?_; (case k1 => exact rfl); (case k2 => exact rfl)
  refine ld F1 rfl ?_
  with_unfolding_all refine loopL "chk" ["b", "i"] (fun pre c => c = pmI pre) F1 N1 rfl (List.Mem.tail _ hm) hi rfl rfl ?turn ?done
  case turn =>
    intro c ta pre n t u h tk own hc F2 N2
    clear N1 F1
    walk_at "mine steps"
    rename Fr _ _ _ _ => F3
    rename News _ _ _ _ => N3
    with_unfolding_all refine' For_invVF F3 ?k1 ?k2 ?_; (case k1 => exact rfl); (case k2 => exact rfl)
    iterate 7 walk1
    rename IsRange _ _ _ _ _ _ _ _ => R4
    rename Fr _ _ _ _ => F4
    rename News _ _ _ _ => N4
    with_unfolding_all refine loopR "chk" ["i"] (fun pre a => a = pre.foldl (inI (c.fdiv (2 ^ Int.toNat 20))) (Builtin.bitXor (Builtin.bitAnd c 1048575 * 2 ^ Int.toNat 10) n)) F4 N4 rfl R4 (by decide) (rangeSize_nat _ _) rfl rfl ?turn2 ?done2
    case turn2 =>
      intro a2 ta2 pre2 k2 t2 u2 h2 tk2 own2 hk0 hk1 ha2 F5 N5
      clear F4 N4 F2 N2
      walk_at "mine steps"
      · ((rename Fr _ _ _ _ => fE'); (rename News _ _ _ _ => nE'); (with_unfolding_all refine' mine_end (y := Str.ofString "chk") fE' nE' (fun p hp => List.mem_append_left _ hp) (fun p hp => List.mem_append_right _ hp) rfl rfl (fun z h1 h2 h3 => ?_) ?_); focus (first | rfl | (simp [h1]; done) | (simp [h1, h2]; done) | (simp only [List.contains_cons, List.contains_nil, Bool.or_false, Bool.or_eq_false_iff, beq_eq_false_iff_ne, ne_eq] at h3; simp [h1, h2, h3, kstB]; done) | fail "e5"))
        subst ha2
        rename Builtin.bitAnd _ _ ≠ 0 => hne
        show _ = (pre2 ++ [k2]).foldl _ _
        rw [List.foldl_append, List.foldl_cons, List.foldl_nil]
        unfold inI
        rw [if_neg hne]
      · ((rename Fr _ _ _ _ => fE'); (rename News _ _ _ _ => nE'); (with_unfolding_all refine' mine_end (y := Str.ofString "chk") fE' nE' (fun p hp => List.mem_append_left _ hp) (fun p hp => List.mem_append_right _ hp) rfl rfl (fun z h1 h2 h3 => ?_) ?_); focus (first | rfl | (simp [h1]; done) | (simp [h1, h2]; done) | (simp only [List.contains_cons, List.contains_nil, Bool.or_false, Bool.or_eq_false_iff, beq_eq_false_iff_ne, ne_eq] at h3; simp [h1, h2, h3, kstB]; done) | fail "e5"))
        subst ha2
        rename Builtin.bitAnd _ _ = 0 => hne
        show _ = (pre2 ++ [k2]).foldl _ _
        rw [List.foldl_append, List.foldl_cons, List.foldl_nil]
        unfold inI
        rw [if_pos hne]
    case done2 =>
      intro a2 ta2 u2 h2 tk2 ha2 F5 N5
      clear F4 N4 F2 N2
      walk_at "mine steps"
      ((rename Fr _ _ _ _ => fE'); (rename News _ _ _ _ => nE'); (with_unfolding_all refine' mine_end (y := Str.ofString "chk") fE' nE' (fun p hp => List.mem_append_left _ hp) (fun p hp => List.mem_append_right _ hp) rfl rfl (fun z h1 h2 h3 => ?_) ?_); focus (first | rfl | (simp [h1]; done) | (simp [h1, h2]; done) | (simp only [List.contains_cons, List.contains_nil, Bool.or_false, Bool.or_eq_false_iff, beq_eq_false_iff_ne, ne_eq] at h3; simp [h1, h2, h3, kstB]; done) | fail "e5"))
      subst ha2 hc
      show _ = pmI (pre ++ [n])
      unfold pmI
      rw [List.foldl_append, List.foldl_cons, List.foldl_nil]
      rfl
  case done =>
    intro c ta u h tk hc F2 N2
    clear N1 F1
    walk_at "mine steps"
    subst hc
    rename News _ _ _ _ => N3
    exact hret _ _ _ (by assumption) (fun p hp => N3 p (List.Mem.tail _ hp))
end Mine
end

section
open PySem PySem.W PyProof.Rows
namespace Mine
open Rs
local macro_rules | `(tactic| k_mem) => `(tactic| assumption)
local macro_rules | `(tactic| walk_at "mine go") => `(tactic| ((fail_if_success (with_reducible show wpAny _ _ (exec (Stmt.While _ _ _ _) _) _ _ _)); (fail_if_success (with_reducible show KswEnd _ _ _ _ _ _ _ _ _ _ _ _)); first | (k_unfold; (try dsimp only)) | (k_end; wrow_close) | walk1))
local macro_rules | `(tactic| walk_at "mine steps") => `(tactic| repeat' (first | walk_at "mine go" | (dsimp only; walk_at "mine go")))

theorem bitXor_nat (a b : Nat) : Builtin.bitXor (a : Int) (b : Int) = ((a ^^^ b : Nat) : Int) := by
  rw [bitXor_and, bitAnd_pp (Int.natCast_nonneg a) (Int.natCast_nonneg b)]
  have h := xor_add a a b (Nat.le_refl _)
  simp only [Int.toNat_natCast]
  omega
theorem fdiv_nat (a b : Nat) : Int.fdiv (a : Int) (b : Int) = ((a / b : Nat) : Int) := by
  rw [Int.fdiv_eq_ediv_of_nonneg _ (Int.natCast_nonneg b)]; rfl
theorem fmod_nat (a b : Nat) : Int.fmod (a : Int) (b : Int) = ((a % b : Nat) : Int) := by
  rw [Int.fmod_eq_emod_of_nonneg _ (Int.natCast_nonneg b)]; rfl

/-- what holds between the turns of _law_times: product, a, b -/
def TimesAt (r : Nat) (c : Int × Int × Int) : Prop := ∃ n p a b : Nat, c = ((p : Int), (a : Int), (b : Int)) ∧ a < 1024 ∧ b < 2 ^ n ∧ n ≤ 10 ∧ p ^^^ mulN n a b = r

theorem mulN_zero : ∀ n a, mulN n a 0 = 0
  | 0, _ => rfl
  | n + 1, a => by
    show (if (0 : Nat).testBit 0 then a else 0) ^^^ mulN n (T a) (0 >>> 1) = 0
    rw [Nat.zero_shiftRight, mulN_zero n (T a)]
    simp
theorem times_step {n p a b r : Nat} (ha : a < 1024) (hb : b < 2 ^ n) (hn : n ≤ 10) (hr : p ^^^ mulN n a b = r) (h0 : 0 < b) {p' a' b' : Int}
    (hp : p' = if b % 2 = 1 then ((p ^^^ a : Nat) : Int) else p) (ha' : a' = ((if a < 512 then a * 2 else a * 2 ^^^ 1033 : Nat) : Int)) (hb' : b' = ((b / 2 : Nat) : Int)) : TimesAt r (p', a', b') := by
  cases n with
  | zero => simp at hb; omega
  | succ n =>
    rw [Nat.pow_succ] at hb
    refine ⟨n, if b % 2 = 1 then p ^^^ a else p, T a, b / 2, ?_, T_lt ha, by omega, by omega, ?_⟩
    · rw [hp, ha', hb', T_eq ha]
      split <;> rfl
    · have e : mulN (n + 1) a b = (if b.testBit 0 then a else 0) ^^^ mulN n (T a) (b >>> 1) := rfl
      have e2 : b >>> 1 = b / 2 := by rw [Nat.shiftRight_eq_div_pow]
      have e3 : b.testBit 0 = decide (b % 2 = 1) := by rw [Nat.testBit_zero]
      rw [e, e2, e3] at hr
      rw [← hr]
      by_cases h : b % 2 = 1
      · simp only [h, if_true, decide_true, Nat.xor_assoc]
      · simp only [h, if_false, decide_false, Bool.false_eq_true, Nat.zero_xor]
theorem times_done {n p a b r : Nat} (hr : p ^^^ mulN n a b = r) (h0 : ¬ (0 : Int) < (b : Int)) : p = r := by
  have : b = 0 := by omega
  subst this
  rw [mulN_zero] at hr
  simpa using hr

section
variable {prog : Program} {w : World} {A : Around} {E : Value → Shared → Prop} {Q : Flow → Shared → Prop} {s : Shared} {env : Env} {h₀ : Heap} {L : Addr} {news : List (Addr × Obj)}
abbrev S6 := (Int × Int × Int) × Tok × Tok × Tok
theorem loopW {test : PySem.Expr} {body : List Stmt} {pos : Pos} {m₀ : Str → Option Value} {x y z : Str} {a b c : Int} {ta tb tc : Tok} (P : Int × Int × Int → Prop) (μ : Int × Int × Int → Nat)
    (F : Fr h₀ L s.heap m₀) (N : News h₀ L s.heap news) (hx : m₀ x = some (.int a ta)) (hy : m₀ y = some (.int b tb)) (hz : m₀ z = some (.int c tc)) (hp : P (a, b, c))
    (turn : ∀ (a b c : Int) (ta tb tc : Tok) (u : Str → Option Value) h tk, P (a, b, c) → Fr h₀ L h (kstB (fun q => if ([] : List Str).contains q then u q else m₀ q) [(x, .int a ta), (y, .int b tb), (z, .int c tc)]) → News h₀ L h news →
      wpAny (model prog w) A (isTrue test env (eval test env)) (fun t s₂ =>
        if t = true then wpAny (model prog w) A (execs body env) (KswPost h₀ L s (fun _ : S6 => news) (fun q => [(x, .int q.1.1 q.2.1), (y, .int q.1.2.1 q.2.2.1), (z, .int q.1.2.2 q.2.2.2)]) (fun _ => True) [] m₀ (fun q => P q.1) (fun q => μ q.1) Q ((a, b, c), ta, tb, tc)) E s₂ else Q .next s₂) E { s with heap := h, toks := tk })
    (hE : PassesOwn (model prog w) A env E := by passes_own) :
    wpAny (model prog w) A (exec (.While test body [] pos) env) Q E s :=
  ksw_while (fun _ : S6 => news) (fun q => [(x, .int q.1.1 q.2.1), (y, .int q.1.2.1 q.2.2.1), (z, .int q.1.2.2 q.2.2.2)]) (fun _ => True) [] (fun q => P q.1) (fun q => μ q.1) ((a, b, c), ta, tb, tc) F N trivial
    (fun p hp => by
      rcases List.mem_cons.mp hp with rfl | hp
      · exact hx
      · rcases List.mem_cons.mp hp with rfl | hp
        · exact hy
        · rcases List.mem_singleton.mp hp with rfl
          exact hz) hp
    (fun q u h tk _ hP F' N' => turn q.1.1 q.1.2.1 q.1.2.2 q.2.1 q.2.2.1 q.2.2.2 u h tk hP F' N') hE
theorem loopW_end {x y z : Str} {a b c : Int} {ta tb tc : Tok} {stored : List Str} {m₀ m' : Str → Option Value} {P : S6 → Prop} {μ : S6 → Nat} {c₀ : S6} {h' : Heap} {tk : Nat} {news' : List (Addr × Obj)}
    (F : Fr h₀ L h' m') (N : News h₀ L h' news') (hn : ∀ p ∈ news, p ∈ news') (hx : m' x = some (.int a ta)) (hy : m' y = some (.int b tb)) (hz : m' z = some (.int c tc)) (hr : ∀ q, q ≠ x → q ≠ y → q ≠ z → m' q = m₀ q)
    (hp : P ((a, b, c), ta, tb, tc)) (hm : μ ((a, b, c), ta, tb, tc) < μ c₀) :
    KswEnd h₀ L s (fun _ : S6 => news) (fun q => [(x, .int q.1.1 q.2.1), (y, .int q.1.2.1 q.2.2.1), (z, .int q.1.2.2 q.2.2.2)]) (fun _ => True) stored m₀ P μ c₀ { s with heap := h', toks := tk } :=
  ksw_end ((a, b, c), ta, tb, tc) F N hn trivial
    (fun p hp => by
      rcases List.mem_cons.mp hp with rfl | hp
      · exact hx
      · rcases List.mem_cons.mp hp with rfl | hp
        · exact hy
        · rcases List.mem_singleton.mp hp with rfl
          exact hz) (fun q h1 _ => hr q (h1 _ (.head _)) (h1 _ (.tail _ (.head _))) (h1 _ (.tail _ (.tail _ (.head _))))) hp hm
end

theorem times_call {w : World} {mean : ExcName → Option Value} {mg mb : Str → Option Value} (dp un : Nat) (gd : Option (List Code)) (cn : Str) (cs : Scope) (a : Addr) (ccd : Value) (cl : List (Str × Addr)) (outer : List Env) (A₀ : Around) (base h₀ : Heap) (L : Addr) (m : Str → Option Value) (s : Shared) (Q E : Value → Shared → Prop)
    (news : List (Addr × Obj)) (x y : Nat) (tx ty : Tok)
    (B : Below A₀ base outer h₀) (F : Fr h₀ L s.heap m) (X : (hd.heap_39 w.params).In h₀) (N : News h₀ L s.heap news) (T : Top hd.view_39 (looseW hd.view_39 []) mean mg mb h₀) (hk : cs.kind = .function)
    (hx : x < 1024) (hy : y < 1024)
    (hdp : dp + 1 < recursionLimit) (hun : un + 8 < cLine)
    (hret : ∀ (t : Tok) (h' : Heap) (tk' : Nat), Fr h₀ L h' m → News h₀ L h' news → Q (.int (mul x y : Nat) t) { s with heap := h', toks := tk' }) :
    wpAny (model PySem.Challenge.rw_bc0030_01.row.prog w) (ktrTop dp un gd cn cs L a ccd cl outer) (call (.ref 40) [.int x tx, .int y ty]) Q E s := by
  revert X
  k_fill
  intro X
  refine wpAny_call ?_
  k_dflt cell_enter
  walk_at "mine steps"
  rename Fr _ _ _ _ => F1
  rename News _ _ _ _ => N1
  with_unfolding_all refine loopW (x := Str.ofString "product") (y := Str.ofString "a") (z := Str.ofString "b") (TimesAt (mul x y)) (fun q => q.2.2.toNat) F1 N1 rfl rfl rfl ⟨10, 0, x, y, rfl, hx, hy, Nat.le_refl _, Nat.zero_xor _⟩ ?turn
  case turn =>
    rintro a1 b1 c1 ta tb tc u h tk ⟨n, p, a, b, hq, ha, hb, hn, hr⟩ F2 N2
    obtain ⟨rfl, rfl, rfl⟩ : a1 = (p : Int) ∧ b1 = (a : Int) ∧ c1 = (b : Int) := by
      simpa using hq
    clear hq F1 N1
    have ha' : (a : Int) < 1024 := by omega
    have ha0 : (0 : Int) ≤ a := by omega
    have two : ((b : Int)).fmod 2 = ((b % 2 : Nat) : Int) := fmod_nat b 2
    have half : ((b : Int)).fdiv 2 = ((b / 2 : Nat) : Int) := fdiv_nat b 2
    walk_at "mine steps"
    all_goals try (
      (with_reducible rename (0 : Int) < (b : Int) => hb0)
      rename Fr _ _ _ _ => fE'
      rename News _ _ _ _ => nE'
      (with_unfolding_all refine' loopW_end (x := Str.ofString "product") (y := Str.ofString "a") (z := Str.ofString "b") fE' nE' (fun p hp => List.Mem.tail _ hp) rfl rfl rfl (fun q h1 h2 h3 => ?_) (times_step ha hb hn hr (by omega) ?_ ?_ ?_) ?_)
      focus (simp [h1, h2, h3, kstB])
      focus (first | ((with_reducible rename ((b : Int)).fmod 2 = 1 => hm); rw [if_pos (by omega)]; exact bitXor_nat p a) | ((with_reducible rename ¬ ((b : Int)).fmod 2 = 1 => hm); rw [if_neg (by omega)]))
      focus (first | ((with_reducible rename (a : Int) < 512 => hm); rw [if_pos (by omega)]; push_cast; rfl) | ((with_reducible rename ¬ (a : Int) < 512 => hm); rw [if_neg (by omega)]; exact bitXor_nat (a * 2) 1033))
      focus (exact half)
      focus (show Int.toNat (Int.fdiv (b : Int) 2) < Int.toNat (b : Int); omega))
    · (with_reducible rename ¬ (0 : Int) < (b : Int) => hb0)
      rw [times_done hr hb0]
      exact hret _ _ _ (by assumption) (by assumption)
end Mine
end

section
open PySem PySem.W PyProof.Rows
namespace Mine
open PySem.W.KBw

section
variable {prog : Program} {w : World} {A : Around} {E : Value → Shared → Prop} {s : Shared}
theorem bytes_len_lookup : typeLookup (.type "bytes") "__len__" = pure (some (.builtin "bytes.__len__")) := by rw [typeLookup_type, builtinLookup_eq_fast]; kernel_rfl

theorem extend_bytes {R : Result → Shared → Prop} (hh : A.handled = none) (x : Array UInt8) (t : Tok) (S : Addr) (res : Value) (c₀ : Nat) (hS : s.heap.get? S = some { cls := .type "list", data := .seq #[] c₀ })
    (hR : ∀ h' tk acc' c', (∀ b o, b ≠ S → s.heap.get? b = some o → h'.get? b = some o) → h'.get? S = some { cls := .type "list", dict := none, data := .seq acc' c', slots := #[] } →
      ItemsOf (fun i v => ∃ c u, x[i]? = some c ∧ v = .int (c.toNat : Int) u) acc' x.size → R (.ok (.ret res)) { s with heap := h', toks := tk }) (hn : x.size ≤ sizeLine) :
    wpAny (model prog w) A.in1 (Builtin.List.listExtendWith (.ref S) (.bytes x t) res)
      (fun fin s' => match fin with | .done f => R (.ok f) s' | .again c' => c'.quiet = true ∧ codeAny (model prog w) A c' R s') (fun e s' => R (.error e) s') s := by
  have hSI : S ≠ s.heap.objs.size := Nat.ne_of_lt (Heap.lt_size hS)
  have hSf : S ∉ [s.heap.objs.size] := fun hm => hSI (List.mem_singleton.mp hm)
  unfold Builtin.List.listExtendWith
  refine wpAny_bind (wpAny_typeOf (T := "bytes") (v := .bytes x t) (typeIs_bytes s x t) ?_)
  have h1 : Builtin.List.listSameRef (.ref S) (.bytes x t) = false := rfl
  have h2 : (Value.type "bytes" == Value.type "list") = false := by decide
  have h3 : (Value.type "bytes" == Value.type "tuple") = false := by decide
  simp only [h1, h2, h3, Bool.or_false, Bool.false_eq_true, if_false]
  refine wpAny_bind (pyIter_bytes ?_)
  refine wpAny_bind (wpAny_holding ?_)
  unfold Builtin.List.listLengthHint
  refine wpAny_bind (wpAny_specialOf (T := "bytes") (v := .bytes x t) (typeIs_bytes _ x t) bytes_len_lookup ?_)
  wp_delta
  refine wpAny_bind (wpAny_isInstance (T := "bytes") (v := .bytes x t) (b := true) (typeIs_bytes _ x t) (by rw [isSubtype_type]; kernel_rfl) ?_)
  show wpAny _ _ (typeOf (Value.bytes x t) >>= _) _ _ _
  refine wpAny_bind (wpAny_typeOf (T := "bytes") (v := .bytes x t) (typeIs_bytes _ x t) ?_)
  refine wpAny_pure ?_
  rw [if_neg (by decide)]
  refine wpAny_pure ⟨plainId_quiet F.plain_extend_loop _, codeAny_extend_loopS (walks (A := A.in1) hh s.heap.objs.size x t).toS hn _ hSf _ x.size 0 _ _ _ rfl (Nat.zero_le _) ⟨_, Heap.get?_push_size _ rfl, rfl, rfl⟩ (Heap.get?_push_of_some _ hS) (ItemsOf.nil _) fun s' acc' c' hm hS' hacc => ?_⟩
  rw [Moved.eq_with hm]
  refine hR s'.heap s'.toks acc' c' (fun b ob hb e => hm.heap b ob (fun hmem => ?_) (Heap.get?_push_of_some _ e)) hS' hacc
  rcases List.mem_cons.mp hmem with e' | hmem
  · exact hb e'
  · exact absurd (Heap.lt_size e) (by rw [List.mem_singleton.mp hmem]; exact Nat.lt_irrefl _)

theorem list_init_bytes {R : Result → Shared → Prop} (hh : A.handled = none) (x : Array UInt8) (t : Tok) (S : Addr) (hS : s.heap.get? S = some { cls := .type "list", data := .seq #[] })
    (hR : ∀ h' tk acc' c', (∀ b o, b ≠ S → s.heap.get? b = some o → h'.get? b = some o) → h'.get? S = some { cls := .type "list", dict := none, data := .seq acc' c', slots := #[] } →
      ItemsOf (fun i v => ∃ c u, x[i]? = some c ∧ v = .int (c.toNat : Int) u) acc' x.size → R (.ok (.ret .none)) { s with heap := h', toks := tk }) (hn : x.size ≤ sizeLine) :
    wpAny (model prog w) A.in1 (Builtin.«list.__init__» ⟨[.ref S, .bytes x t], []⟩)
      (fun fin s' => match fin with | .done f => R (.ok f) s' | .again c' => c'.quiet = true ∧ codeAny (model prog w) A c' R s') (fun e s' => R (.error e) s') s := by
  show wpAny _ _ (do let old ← Builtin.List.listItems (.ref S); Builtin.List.listUpdate (.ref S) (fun _ => #[]); letGo old.toList.reverse; Builtin.List.listExtendWith (.ref S) (.bytes x t) .none) _ _ s
  refine wpAny_bind ?_
  unfold Builtin.List.listItems
  refine wpAny_bind (wpAny_seqItems hS rfl (wpAny_pure ?_))
  show wpAny _ _ (updateSeq S (fun _ => #[]) >>= fun _ => letGo (#[] : Array Value).toList.reverse >>= fun _ => Builtin.List.listExtendWith (.ref S) (.bytes x t) .none) _ _ s
  refine wpAny_bind (wpAny_updateSeq hS rfl ?_)
  have hS₂ := Heap.get?_update_self (Obj.mapSeq (fun _ => (#[] : Array Value))) hS rfl
  have oth : ∀ b o, b ≠ S → s.heap.get? b = some o → (s.heap.update S (Obj.mapSeq (fun _ => (#[] : Array Value)))).get? b = some o :=
    fun b o hb e => (Heap.get?_update_other _ _ (Ne.symm hb)).trans e
  refine wpAny_bind (wpAny_letGo ?_)
  refine extend_bytes (hn := hn) hh x t S .none _ hS₂ fun h' tk acc' c' hk hS' hacc => ?_
  exact hR h' tk acc' c' (fun b o hb e => hk b o hb (oth b o hb e)) hS' hacc

theorem call_list_bytes {Q : Value → Shared → Prop} (hh : A.handled = none) (x : Array UInt8) (t : Tok)
    (hQ : ∀ h' tk acc' c', (∀ b o, s.heap.get? b = some o → h'.get? b = some o) →
      h'.get? s.heap.objs.size = some { cls := .type "list", dict := none, data := .seq acc' c', slots := #[] } → ItemsOf (fun i v => ∃ c u, x[i]? = some c ∧ v = .int (c.toNat : Int) u) acc' x.size → Q (.ref s.heap.objs.size) { s with heap := h', toks := tk }) (hn : x.size ≤ sizeLine) :
    wpAny (model prog w) A (call (.type "list") [.bytes x t]) Q E s := by
  refine callType_codes (Q₁ := fun obj s₁ => obj = .ref s.heap.objs.size ∧ s₁ = { s with heap := s.heap.push { cls := .type "list", data := .seq #[] } }) F.called_list (F.typeCall_list_1 _) F.entry_list_init
    (code_list_new _ ⟨rfl, rfl⟩) fun obj s₁ h₁ => ?_
  obtain ⟨rfl, rfl⟩ := h₁
  have hS : (s.heap.push { cls := .type "list", data := .seq #[] }).get? s.heap.objs.size = some { cls := .type "list", data := .seq #[] } := Heap.get?_push_size _ rfl
  refine ⟨⟨_, hS, rfl⟩, F.args_list_init_2 _ _, list_init_bytes (A := A.in1) (hn := hn) hh x t _ hS fun h' tk acc' c' hk hS' hacc => ?_⟩
  exact ⟨rfl, hQ h' tk acc' c' (fun b o e => hk b o (Nat.ne_of_lt (Heap.lt_size e)) (Heap.get?_push_of_some _ e)) hS' hacc⟩

theorem intsAre_of_get : ∀ (vs : List Value) (ns : List Int), vs.length = ns.length → (∀ (j : Nat) (v : Value), vs[j]? = some v → ∃ (k : Int) (t : Tok), ns[j]? = some k ∧ v = Value.int k t) → IntsAre vs ns
  | [], [], _, _ => .nil
  | [], _ :: _, h, _ => by simp at h
  | _ :: _, [], h, _ => by simp at h
  | v :: vs, n :: ns, h, hv => by
    obtain ⟨k, t, hk, rfl⟩ := hv 0 v rfl
    simp only [List.getElem?_cons_zero, Option.some.injEq] at hk
    subst hk
    exact .cons n t (intsAre_of_get vs ns (by simpa using h) fun j v hj => by simpa using hv (j + 1) v (by simpa using hj))

/-- list(octets), onto the ledger -/
theorem list_bytesN {h₀ : Heap} {L : Addr} {m : Str → Option Value} {news : List (Addr × Obj)} {x : Array UInt8} {t : Tok} {Q : Value → Shared → Prop} (hh : A.handled = none) (F : Fr h₀ L s.heap m) (N : News h₀ L s.heap news) (hn : x.size ≤ 1000)
    (hQ : ∀ D h' tk (its : List Value) k, Fr h₀ L h' m → News h₀ L h' ((D, listOf its.toArray k) :: news) → IntsAre its (bInts x) → (∀ p ∈ news, p.1 < D) → Q (.ref D) { s with heap := h', toks := tk }) :
    wpAny (model prog w) A (call (.type "list") [.bytes x t]) Q E s := by
  refine call_list_bytes hh x t (fun h' tk acc' c' hk hD hacc => ?_) (by rw [sizeLine_eq]; omega)
  refine hQ s.heap.objs.size h' tk acc'.toList c' (F.keeps hk) (fun p hp => ?_) ?_ fun p hp => Heap.lt_size (N p hp).1
  · rcases List.mem_cons.mp hp with rfl | hp
    · refine ⟨by simpa using hD, Nat.ne_of_gt F.ns.lt, ?_⟩
      cases e : h₀.get? s.heap.objs.size with
      | none => rfl
      | some o => exact absurd (Heap.lt_size (F.keep _ _ e)) (Nat.lt_irrefl _)
    · exact ⟨hk _ _ (N p hp).1, (N p hp).2⟩
  · refine intsAre_of_get _ _ (by rw [ints_length, ← hacc.1]; simp) fun j v hj => ?_
    obtain ⟨c, u, hc, rfl⟩ := hacc.2 j v (by simpa using hj)
    exact ⟨_, u, ints_get hc, rfl⟩
end
end Mine
end

section
open PySem PySem.W PyProof.Rows
namespace Mine
section
variable {prog : Program} {w : World} {A : Around} {E : Value → Shared → Prop} {s : Shared} {h₀ : Heap} {L : Addr} {m : Str → Option Value} {news : List (Addr × Obj)}

theorem isList_of {D : Addr} {its : List Value} {k : Nat} (N : News h₀ L s.heap news) (hD : (D, listOf its.toArray k) ∈ news) : s.heap.IsList D its.toArray := ⟨_, (N _ hD).1, rfl, k, rfl⟩
theorem below_size (N : News h₀ L s.heap news) : ∀ p ∈ news, p.1 < s.heap.objs.size := fun p hp => Heap.lt_size (N p hp).1

abbrev LedQ (h₀ : Heap) (L : Addr) (m : Str → Option Value) (news : List (Addr × Obj)) (s : Shared) (ns : List Int) (Q : Value → Shared → Prop) : Prop :=
  ∀ (D : Addr) (h' : Heap) (tk' : Nat) (its : List Value) (k : Nat), Fr h₀ L h' m → News h₀ L h' ((D, listOf its.toArray k) :: news) → IntsAre its ns → (∀ p ∈ news, p.1 < D) → Q (.ref D) { s with heap := h', toks := tk' }

theorem copyN {a : Addr} {i1 : List Value} {k1 : Nat} {n1 : List Int} {Q : Value → Shared → Prop} (F : Fr h₀ L s.heap m) (N : News h₀ L s.heap news) (hD : (a, listOf i1.toArray k1) ∈ news) (hi : IntsAre i1 n1) (hn : n1.length ≤ 1000)
    (hQ : LedQ h₀ L m news s n1 Q) : wpAny (model prog w) A (call (.type "list") [.ref a]) Q E s :=
  list_copyK F N (isList_of N hD) (fun D c h' F' N' l1 => hQ D h' s.toks i1 c F' N' hi l1) (by have := hi.length; rw [List.size_toArray, sizeLine_eq]; omega)

theorem addN {a b : Addr} {i1 i2 : List Value} {k1 k2 : Nat} {n1 n2 : List Int} {Q : Value → Shared → Prop} (F : Fr h₀ L s.heap m) (N : News h₀ L s.heap news) (hD : (a, listOf i1.toArray k1) ∈ news) (hi : IntsAre i1 n1) (hD2 : (b, listOf i2.toArray k2) ∈ news) (hi2 : IntsAre i2 n2)
    (hn : n1.length + n2.length ≤ 1000) (hQ : LedQ h₀ L m news s (n1 ++ n2) Q) : wpAny (model prog w) A (binaryOp .Add (.ref a) (.ref b)) Q E s :=
  add_arrays_ints F N (isList_of N hD) (isList_of N hD2) hi hi2 (fun h' F' N' hi' => hQ _ h' s.toks _ _ F' N' hi' (below_size N)) (by rw [sizeLine_eq]; omega)

theorem foldl_zeros (t : Tok) : ∀ (n : Nat) (acc : Array Value), List.foldl (fun x1 x2 => x1 ++ x2) acc (List.replicate n #[Value.int 0 t]) = acc ++ (List.replicate n (Value.int 0 t)).toArray
  | 0, acc => by simp
  | n + 1, acc => by
    rw [List.replicate_succ, List.foldl_cons, foldl_zeros t n]
    apply Array.ext'
    simp [List.replicate_succ]
theorem ints_zeros (t : Tok) : ∀ n, IntsAre (List.replicate n (Value.int 0 t)) (List.replicate n 0)
  | 0 => .nil
  | n + 1 => .cons 0 t (ints_zeros t n)
/-- [0] * n -/
theorem mulN0 {a : Addr} {t u : Tok} {k : Nat} {x : Int} {Q : Value → Shared → Prop} (F : Fr h₀ L s.heap m) (N : News h₀ L s.heap news) (hD : (a, listOf [Value.int 0 t].toArray k) ∈ news) (h0 : 0 ≤ x) (hx : x ≤ 1000)
    (hQ : LedQ h₀ L m news s (List.replicate x.toNat 0) Q) : wpAny (model prog w) A (binaryOp .Mult (.ref a) (.int x u)) Q E s := by
  refine mul_list F N (N _ hD).1 (by omega) (by omega) (by show 1 * x.toNat ≤ 2 ^ 24; omega) fun h' F' N' => ?_
  have e : List.foldl (fun x1 x2 => x1 ++ x2) #[] (List.replicate (if [Value.int 0 t].toArray.isEmpty = true then 0 else x.toNat) [Value.int 0 t].toArray) = (List.replicate x.toNat (Value.int 0 t)).toArray := by
    show List.foldl (fun x1 x2 => x1 ++ x2) #[] (List.replicate x.toNat #[Value.int 0 t]) = _
    rw [foldl_zeros]; simp
  rw [e] at N'
  exact hQ _ h' s.toks _ _ F' N' (ints_zeros t _) (below_size N)
end
end Mine
end

section
open PySem PySem.W PyProof.Rows
namespace Mine
open PyProof.Rows.LCg (NsObj lst ns_obj lst_snoc)

/-- the names of a clause's target, bound -/
def Bound (x : List Str) (vals : List Value) (mC : Str → Option Value) : Prop := x.map mC = vals.map some

/-- an iterator, drawn from and stored into a clause's target, turn by turn -/
structure Draw (prog : Program) (w : World) (A : Around) (target : PySem.Expr) (x : List Str) (I : Addr) (fp wr : List Addr) (n : Nat) (B : Nat → List Value → Prop) (St : Nat → Heap → Prop) : Prop where
  sub : ∀ b ∈ wr, b ∈ fp
  frame : ∀ i h h', St i h → (∀ b ∈ fp, ∀ o, h.get? b = some o → h'.get? b = some o) → St i h'
  full : ∀ i h, St i h → ∀ b ∈ fp, ∃ o, h.get? b = some o
  item : ∀ i (s : Shared) (env : Env) (mC : Str → Option Value) (Q : Shared → Prop) (R₀ : Shared → Prop) (E : Value → Shared → Prop), i < n → St i s.heap → (∀ y ∈ x, env.kindOf y = some .local) →
    (env.scope.kind == .class || (env.scope.kind == .module && env.locals != env.globals)) = false → s.heap.Ns env.locals mC → env.locals ∉ fp →
    (∀ vals mC' h' tk, B i vals → St (i + 1) h' → h'.Ns env.locals mC' → Bound x vals mC' → (∀ b o, b ∉ wr → b ≠ env.locals → s.heap.get? b = some o → h'.get? b = some o) → Q { s with heap := h', toks := tk }) →
    wpAny (model prog w) A (pyNext (.ref I)) (fun r s₁ => match r with
      | none => R₀ s₁
      | some v => wpAny (model prog w) A (letOwnedTupleGo target (.ref I) v) (fun _ s₁' => wpAny (model prog w) A (assign target env v) (fun _ s₂ => Q s₂) E s₁') E s₁) E s
  done : ∀ (s : Shared) (Q : Option Value → Shared → Prop) (E : Value → Shared → Prop), St n s.heap →
    (∀ h' tk, (∀ b o, b ∉ wr → s.heap.get? b = some o → h'.get? b = some o) → Q none { s with heap := h', toks := tk }) → wpAny (model prog w) A (pyNext (.ref I)) Q E s
  self : ∀ i (s : Shared) (Q : Value → Shared → Prop) (E : Value → Shared → Prop), St i s.heap → Q (.ref I) s → wpAny (model prog w) A (pyIter (.ref I)) Q E s

section
variable {prog : Program} {w : World} {A : Around} {E : Value → Shared → Prop} {s : Shared} {h₀ : Heap} {L : Addr} {m : Str → Option Value} {env : Env}

theorem loop_any {elt iter target : PySem.Expr} {ifs : List PySem.Expr} {scope : Scope} {pos : Pos} {it acc : Value} {env : Env} {R : Result → Shared → Prop} (I : Nat → Shared → Prop)
    (turn : ∀ n s, I n s → wpAny (model prog w) A (pyNext it) (fun r s₁ => match r with
      | none => R (.ok .next) s₁
      | some v => wpAny (model prog w) A (letOwnedTupleGo target it v) (fun _ s₁' => wpAny (model prog w) A (assign target env v) (fun _ s₂ =>
          wpAny (model prog w) A (forIn ifs true fun c r => if r = true then do let ok ← isTrue c env (eval c env); pure (ForInStep.yield ok) else pure (ForInStep.yield r)) (fun ok s₃ =>
            if ok = true then wpAny (model prog w) A (eval elt env) (fun x s₄ =>
              wpAny (model prog w) A (call (.builtin "list.append") [acc, x]) (fun _ s₅ => ∃ m, m < n ∧ I m s₅) (notedBy (model prog w) A env fun e s' => R (.error e) s') s₄) (notedBy (model prog w) A env fun e s' => R (.error e) s') s₃
            else ∃ m, m < n ∧ I m s₃) (notedBy (model prog w) A env fun e s' => R (.error e) s') s₂)
          (notedBy (model prog w) A env fun e s' => R (.error e) s') s₁') (notedBy (model prog w) A env fun e s' => R (.error e) s') s₁) (notedBy (model prog w) A env fun e s' => R (.error e) s') s)
    (n : Nat) (h : I n s) : codeAny (model prog w) A (.compLoop (.ListComp elt [⟨target, iter, ifs, 0⟩] scope pos) 0 it acc env) R s := by
  refine codeAny_loop rfl I (fun n s hI => ?_) n h
  show wpAny _ A ((compTurn (.ListComp elt [⟨target, iter, ifs, 0⟩] scope pos) 0 it acc env).onRaise (fun x => do noteFrame x env; theTreesLotGoes x)) _ _ s
  refine wpAny_noted ?_
  rw [compTurn_list]
  refine wpAny_bind (wpAny_standAt (wpAny_bind (wpAny_mono (turn n s hI) (fun r s₁ h₁ => ?_) fun _ _ h' => h')))
  cases r with
  | none => exact wpAny_pure h₁
  | some v =>
    refine wpAny_bind (wpAny_mono h₁ (fun _ s₁' h₁' => ?_) fun _ _ h' => h')
    refine wpAny_bind (wpAny_mono h₁' (fun _ s₂ h₂ => wpAny_bind (wpAny_mono h₂ (fun ok s₃ h₃ => ?_) fun _ _ h' => h')) fun _ _ h' => h')
    cases ok with
    | false => exact wpAny_pure ⟨rfl, h₃⟩
    | true =>
      exact wpAny_bind (wpAny_bind (wpAny_mono h₃ (fun x s₄ h₄ => wpAny_bind (wpAny_mono h₄ (fun _ s₅ h₅ => wpAny_pure (wpAny_pure ⟨rfl, h₅⟩)) fun _ _ h' => h')) fun _ _ h' => h'))

def OffC (wr : List Addr) (C D : Addr) (news : List (Addr × Obj)) : Prop := ∀ p ∈ news, p.1 ≠ C ∧ p.1 ≠ D ∧ p.1 ∉ wr

/-- the end of an element: all that is told is as it was, the ledger may have grown -/
def EndC (h₀ : Heap) (L : Addr) (m : Str → Option Value) (s₁ : Shared) (led : List (Addr × Obj)) (wr : List Addr) (C D : Addr) (rest : List (Addr × Obj) → Prop) (s₂ : Shared) : Prop :=
  ∃ h' tk news', s₂ = { s₁ with heap := h', toks := tk } ∧ Fr h₀ L h' m ∧ News h₀ L h' (led ++ news') ∧ OffC wr C D news' ∧ rest news'

def Rest (prog : Program) (w : World) (A : Around) (h₀ : Heap) (L : Addr) (m : Str → Option Value) (env : Env) (elt : PySem.Expr) (ifs : List PySem.Expr) (x : List Str) (scope : Scope) (cl : List (Str × Addr)) (s : Shared) (wr : List Addr) (B : Nat → List Value → Prop)
    (Fin : List Value → List (Addr × Obj) → Prop) : Nat → Nat → List Value → List (Addr × Obj) → Prop
  | 0, _, ys, news => Fin ys news
  | k + 1, i, ys, news => ∀ vals own C oC D mC h tk (E' : Value → Shared → Prop), B i vals → NsObj oC mC → Bound x vals mC → Fr h₀ L h m → News h₀ L h ((C, oC) :: (D, lst ys) :: (news ++ own)) → OffC wr C D news → C ≠ D →
      (∀ q ∈ own, q.1 ≠ C ∧ q.1 ≠ D) → (∀ b ∈ wr, ∃ o, (b, o) ∈ own) →
      wpAny (model prog w) A (forIn ifs true fun c r => if r = true then do let ok ← isTrue c (compEnvC scope cl C env) (eval c (compEnvC scope cl C env)); pure (ForInStep.yield ok) else pure (ForInStep.yield r)) (fun ok s₃ =>
        if ok = true then wpAny (model prog w) A (eval elt (compEnvC scope cl C env)) (fun y => EndC h₀ L m { s with heap := h, toks := tk } ((C, oC) :: (D, lst ys) :: own) wr C D (fun news' => Rest prog w A h₀ L m env elt ifs x scope cl s wr B Fin k (i + 1) (ys ++ [y]) news')) E' s₃
        else EndC h₀ L m { s with heap := h, toks := tk } ((C, oC) :: (D, lst ys) :: own) wr C D (fun news' => Rest prog w A h₀ L m env elt ifs x scope cl s wr B Fin k (i + 1) ys news') s₃) E' { s with heap := h, toks := tk }

def ownOf (h₀ h : Heap) (fp : List Addr) : List (Addr × Obj) := fp.filterMap fun b => match h₀.get? b, h.get? b with
  | none, some o => some (b, o)
  | _, _ => none
theorem mem_ownOf {h₀ h : Heap} {fp : List Addr} {p : Addr × Obj} : p ∈ ownOf h₀ h fp ↔ p.1 ∈ fp ∧ h₀.get? p.1 = none ∧ h.get? p.1 = some p.2 := by
  unfold ownOf
  rw [List.mem_filterMap]
  constructor
  · rintro ⟨b, hb, e⟩
    cases h1 : h₀.get? b with
    | some o => rw [h1] at e; simp at e
    | none =>
      cases h2 : h.get? b with
      | none => rw [h1, h2] at e; simp at e
      | some o =>
        rw [h1, h2] at e
        simp only [Option.some.injEq] at e
        subst e
        exact ⟨hb, h1, h2⟩
  · rintro ⟨hb, h1, h2⟩
    exact ⟨p.1, hb, by rw [h1, h2]⟩

theorem block_any {elt iter target : PySem.Expr} {ifs : List PySem.Expr} {x : List Str} {scope : Scope} {cl : List (Str × Addr)} {pos : Pos} {s₂ : Shared} {I : Addr} {fp wr : List Addr} {n : Nat} {B : Nat → List Value → Prop} {St : Nat → Heap → Prop} {news : List (Addr × Obj)}
    {Fin : List Value → List (Addr × Obj) → Prop} {RR : Value → Addr → Result → Shared → Prop}
    (W : Draw prog w A target x I fp wr n B St) (hsz : n ≤ sizeLine)
    (hcell : ∀ y ∈ scope.names, y.2 ≠ .cell) (hkind : scope.kind = .function) (hx : ∀ y ∈ x, scope.names.lookup y = some .local) (hst : St 0 s₂.heap) (hfp : ∀ b ∈ fp, ∃ o, s₂.heap.get? b = some o)
    (F : Fr h₀ L s₂.heap m) (N : News h₀ L s₂.heap news) (hL : L ∉ fp) (hwr : ∀ b ∈ wr, h₀.get? b = none) (off : ∀ p ∈ news, p.1 ∉ wr)
    (R : Rest prog w A h₀ L m env elt ifs x scope cl s₂ wr B Fin n 0 [] news)
    (hRR : ∀ D C h tk m' ys news', Fr h₀ L h m → News h₀ L h ((D, lst ys) :: news') → (∀ p ∈ news', p.1 ≠ D) → h.Ns C m' → h₀.get? C = none → h₀.get? D = none → C ≠ L → D ≠ L → C ≠ D → (∀ p ∈ news', p.1 ≠ C) → (∀ p ∈ news, p.1 < D) → Fin ys news' → RR (.ref D) C (.ok .next) { s₂ with heap := h, toks := tk }) :
    wpAny (model prog w) A (newList []) (fun acc s₃ => wpAny (model prog w) A (newFunctionEnv scope env.globals cl [] env.qual none .none (some env)) (fun cenv s₄ =>
      codeAny (model prog w) A (.compStart (.ListComp elt [⟨target, iter, ifs, 0⟩] scope pos) 0 (.ref I) acc { cenv with scope := relabel scope env }) (RR acc cenv.locals) s₄) E s₃) E s₂ := by
  refine wpAny_newObj_type (wpAny_newFunctionEnv hcell (by intro y hy; simp at hy) (fun h₁ hns₁ hsb₁ => ?_) hkind)
  dsimp only at hns₁ hsb₁ ⊢
  generalize hH2 : s₂.heap.push { cls := .type "list", dict := none, data := .seq ([] : List Value).toArray } = H2 at hns₁ hsb₁ ⊢
  have hC : H2.objs.size = s₂.heap.objs.size + 1 := by rw [← hH2, Heap.size_push]
  have hDC : s₂.heap.objs.size ≠ H2.objs.size := by rw [hC]; exact Nat.ne_of_lt (Nat.lt_succ_self _)
  have below : ∀ b, b < s₂.heap.objs.size → b ≠ H2.objs.size ∧ b ≠ s₂.heap.objs.size := fun b hb => ⟨by rw [hC]; exact Nat.ne_of_lt (Nat.lt_succ_of_lt hb), Nat.ne_of_lt hb⟩
  have hlt : ∀ b ∈ fp, b < s₂.heap.objs.size := fun b hb => let ⟨_, e⟩ := hfp b hb; Heap.lt_size e
  have hDf : s₂.heap.objs.size ∉ fp := fun hm => Nat.lt_irrefl _ (hlt _ hm)
  have hCf : H2.objs.size ∉ fp := fun hm => by have := hlt _ hm; rw [hC] at this; exact Nat.lt_irrefl _ (Nat.lt_of_succ_lt this)
  have old : ∀ b o, s₂.heap.get? b = some o → h₁.get? b = some o := fun b o e => hsb₁.extBut b o (below b (Heap.lt_size e)).1 (Heap.get?_push_of_some _ (hH2 ▸ Heap.get?_push_of_some _ e))
  have hacc : h₁.get? s₂.heap.objs.size = some (lst []) := hsb₁.extBut _ _ hDC (Heap.get?_push_of_some _ (hH2 ▸ Heap.get?_push_size _ rfl))
  have hst₁ : St 0 h₁ := W.frame _ _ _ hst fun b _ o e => old b o e
  have fresh₀ : ∀ a, s₂.heap.objs.size ≤ a → h₀.get? a = none := fun a ha => by
    cases e : h₀.get? a with
    | none => rfl
    | some o' => exact absurd (Heap.lt_size (F.keep a o' e)) (Nat.not_lt.mpr ha)
  have hD₀ : h₀.get? s₂.heap.objs.size = none := fresh₀ _ (Nat.le_refl _)
  have hC₀ : h₀.get? H2.objs.size = none := fresh₀ _ (by rw [hC]; exact Nat.le_succ _)
  have hLlt : L < s₂.heap.objs.size := F.ns.lt
  have hDL : s₂.heap.objs.size ≠ L := Ne.symm (below L hLlt).2
  have hCL : H2.objs.size ≠ L := Ne.symm (below L hLlt).1
  have off₀ : OffC wr H2.objs.size s₂.heap.objs.size news := fun p hp => ⟨(below _ (Heap.lt_size (N p hp).1)).1, (below _ (Heap.lt_size (N p hp).1)).2, off p hp⟩
  have loop : ∀ s₃ : Shared, s₃ = { s₂ with heap := h₁, toks := s₂.toks + ([] : List (Str × Value)).length } →
      codeAny (model prog w) A (.compLoop (.ListComp elt [⟨target, iter, ifs, 0⟩] scope pos) 0 (.ref I) (.ref s₂.heap.objs.size) (compEnvC scope cl H2.objs.size env))
        (RR (.ref s₂.heap.objs.size) H2.objs.size) s₃ := by
    rintro s₃ rfl
    refine loop_any
      (fun k s' => ∃ h' tk i ys m' news', s' = { s₂ with heap := h', toks := tk } ∧ i ≤ n ∧ k = n + 1 - i ∧ ys.length ≤ i ∧ St i h' ∧ (∀ b ∈ fp, ∃ o, h'.get? b = some o) ∧ Fr h₀ L h' m ∧ h'.Ns H2.objs.size m' ∧ News h₀ L h' ((s₂.heap.objs.size, lst ys) :: news') ∧
        OffC wr H2.objs.size s₂.heap.objs.size news' ∧ Rest prog w A h₀ L m env elt ifs x scope cl s₂ wr B Fin (n - i) i ys news') ?_ (n + 1)
      ⟨h₁, _, 0, [], _, news, rfl, Nat.zero_le _, rfl, Nat.le_refl _, hst₁, (fun b hb => let ⟨o, e⟩ := hfp b hb; ⟨o, old b o e⟩), F.keeps old, hns₁, fun p hp => ?_, off₀, R⟩
    · rintro k s' ⟨h', tk, i, ys, m', news', rfl, hi, rfl, hyl, hst', hfp', F', hn', N', off', R'⟩
      by_cases hlt : i < n
      · obtain ⟨j, hj⟩ : ∃ j, n - i = j + 1 := ⟨n - i - 1, by omega⟩
        rw [hj] at R'
        refine W.item i _ (compEnvC scope cl H2.objs.size env) m' _ _ _ hlt hst' (fun y hy => lookup_relabel_local (hx y hy)) (by simp [compEnvC, relabel, hkind]) hn' hCf fun vals mC' h₃ tk₃ hB hst₃ hn₃ hb₃ hk₃ => ?_
        have hk₃' : ∀ b o, b ∉ wr → b ≠ H2.objs.size → h'.get? b = some o → h₃.get? b = some o := hk₃
        obtain ⟨oC, heC, hoC⟩ := ns_obj hn₃
        have F₃ : Fr h₀ L h₃ m := ⟨F'.ns.at' fun o e => hk₃' L o (fun hm => hL (W.sub _ hm)) (Ne.symm hCL) e, fun b o e => hk₃' b o (fun hm => by rw [hwr b hm] at e; cases e) (fun q => by rw [q, hC₀] at e; cases e) (F'.keep b o e), F'.above⟩
        have N₃ : News h₀ L h₃ ((H2.objs.size, oC) :: (s₂.heap.objs.size, lst ys) :: (news' ++ ownOf h₀ h₃ fp)) := fun p hp => by
          rcases List.mem_cons.mp hp with rfl | hp
          · exact ⟨heC, hCL, hC₀⟩
          · rcases List.mem_cons.mp hp with rfl | hp
            · have z := N' _ (List.mem_cons_self)
              exact ⟨hk₃' _ _ (fun hm => hDf (W.sub _ hm)) hDC z.1, z.2⟩
            · rcases List.mem_append.mp hp with hp | hp
              · have z := N' p (List.mem_cons_of_mem _ hp)
                exact ⟨hk₃' _ _ (off' p hp).2.2 (off' p hp).1 z.1, z.2⟩
              · obtain ⟨a1, a2, a3⟩ := mem_ownOf.mp hp
                exact ⟨a3, fun q => hL (q ▸ a1), a2⟩
        have ownOff : ∀ q ∈ ownOf h₀ h₃ fp, q.1 ≠ H2.objs.size ∧ q.1 ≠ s₂.heap.objs.size := fun q hq => ⟨fun e => hCf (e ▸ (mem_ownOf.mp hq).1), fun e => hDf (e ▸ (mem_ownOf.mp hq).1)⟩
        have next : ∀ (h₄ : Heap) (tk₄ : Nat) (news₄ : List (Addr × Obj)), Fr h₀ L h₄ m → News h₀ L h₄ (((H2.objs.size, oC) :: (s₂.heap.objs.size, lst ys) :: ownOf h₀ h₃ fp) ++ news₄) → (∀ b ∈ fp, ∀ o, h₃.get? b = some o → h₄.get? b = some o) := by
          intro h₄ tk₄ news₄ F₄ N₄ b hb o e
          cases q : h₀.get? b with
          | some o' =>
            have h3 := F₃.keep b o' q
            rw [e] at h3
            cases h3
            exact F₄.keep b _ q
          | none => exact (N₄ (b, o) (List.mem_append_left _ (List.mem_cons_of_mem _ (List.mem_cons_of_mem _ (mem_ownOf.mpr ⟨hb, q, e⟩))))).1
        have hfp₃ : ∀ b ∈ fp, ∃ o, h₃.get? b = some o := W.full i.succ h₃ hst₃
        refine wpAny_mono (R' vals (ownOf h₀ h₃ fp) H2.objs.size oC s₂.heap.objs.size mC' h₃ _ _ hB hoC hb₃ F₃ N₃ off' (Ne.symm hDC) ownOff (fun b hb => let ⟨o, e⟩ := hfp₃ b (W.sub b hb); ⟨o, mem_ownOf.mpr ⟨W.sub b hb, hwr b hb, e⟩⟩)) (fun ok s₄ h₄ => ?_) fun _ _ e => e
        cases ok with
        | false =>
          simp only [Bool.false_eq_true, if_false] at h₄ ⊢
          obtain ⟨h₄, tk₄, news₄, rfl, F₄, N₄, off₄, R₄⟩ := h₄
          have nx := next h₄ tk₄ news₄ F₄ N₄
          refine ⟨n + 1 - (i + 1), by omega, h₄, tk₄, i + 1, ys, _, news₄, rfl, hlt, rfl, by omega, W.frame _ _ _ hst₃ nx, fun b hb => ?_, F₄, hoC.ns (N₄ _ List.mem_cons_self).1, fun p hp => ?_, off₄, ?_⟩
          · obtain ⟨o, e⟩ := hfp₃ b hb
            exact ⟨o, nx b hb o e⟩
          · rcases List.mem_cons.mp hp with rfl | hp
            · exact N₄ _ (List.mem_cons_of_mem _ List.mem_cons_self)
            · exact N₄ p (List.mem_append_right _ hp)
          · rw [show n - (i + 1) = j by omega]
            exact R₄
        | true =>
          simp only [if_true] at h₄ ⊢
          refine wpAny_mono h₄ (fun y s₅ h₅ => ?_) fun _ _ e => e
          obtain ⟨h₄, tk₄, news₄, rfl, F₄, N₄, off₄, R₄⟩ := h₅
          have nx := next h₄ tk₄ news₄ F₄ N₄
          have zC := (N₄ (H2.objs.size, oC) List.mem_cons_self).1
          have zD := (N₄ (s₂.heap.objs.size, lst ys) (List.mem_cons_of_mem _ List.mem_cons_self)).1
          refine append_at (hsz := by show ys.toArray.size ≤ sizeLine; rw [List.size_toArray]; exact Nat.le_trans hyl (Nat.le_trans hi hsz)) zD fun h₅ hs₅ hD₅ => ?_
          refine ⟨n + 1 - (i + 1), by omega, h₅, tk₄, i + 1, ys ++ [y], _, news₄, rfl, hlt, rfl, by rw [List.length_append, List.length_singleton]; omega, W.frame _ _ _ (W.frame _ _ _ hst₃ nx) fun b hb o e => hs₅.extBut b o (fun q => hDf (q ▸ hb)) e, fun b hb => ?_, F₄.change hs₅ hDL hD₀,
            (hoC.ns zC).sameBut hs₅ (Ne.symm hDC), fun p hp => ?_, off₄, ?_⟩
          · obtain ⟨o, e⟩ := hfp₃ b hb
            exact ⟨o, hs₅.extBut b o (fun q => hDf (q ▸ hb)) (nx b hb o e)⟩
          · rcases List.mem_cons.mp hp with rfl | hp
            · exact ⟨hD₅.trans (congrArg some (lst_snoc ys y)), hDL, hD₀⟩
            · have z := N₄ p (List.mem_append_right _ hp)
              exact ⟨hs₅.extBut _ _ (off₄ p hp).2.1 z.1, z.2⟩
          · rw [show n - (i + 1) = j by omega]
            exact R₄
      · obtain rfl : i = n := Nat.le_antisymm hi (Nat.not_lt.mp hlt)
        rw [Nat.sub_self] at R'
        refine W.done _ _ _ hst' fun h₂ tk₂ hk₂ => ?_
        exact hRR _ _ h₂ tk₂ _ ys news' ⟨F'.ns.at' fun o e => hk₂ L o (fun hm => hL (W.sub _ hm)) e, fun b o e => hk₂ b o (fun hm => by rw [hwr b hm] at e; cases e) (F'.keep b o e), F'.above⟩
          (fun p hp => by
            rcases List.mem_cons.mp hp with rfl | hp
            · have z := N' _ (List.mem_cons_self)
              exact ⟨hk₂ _ _ (fun hm => hDf (W.sub _ hm)) z.1, z.2⟩
            · have z := N' p (List.mem_cons_of_mem _ hp)
              exact ⟨hk₂ _ _ (off' p hp).2.2 z.1, z.2⟩) (fun p hp => (off' p hp).2.1) (hn'.at' fun o e => hk₂ _ o (fun hm => hCf (W.sub _ hm)) e) hC₀ hD₀ hCL hDL (Ne.symm hDC) (fun p hp => (off' p hp).1) (fun p hp => Heap.lt_size (N p hp).1) R'
    · rcases List.mem_cons.mp hp with rfl | hp
      · exact ⟨hacc, hDL, hD₀⟩
      · exact ⟨old _ _ (N p hp).1, (N p hp).2⟩
  exact codeAny_compStart_list (loop _ rfl) (W.self 0 _ _ _ hst₁ (loop _ rfl))
end
end Mine
end

section
open PySem PySem.W PyProof.Rows
namespace Mine
open PyProof.Rows.LCg (NsObj lst ns_obj lst_snoc)

section
variable {prog : Program} {w : World} {A : Around} {E : Value → Shared → Prop} {s : Shared}
open AutoSeq1 (wpAny_loadPart')

theorem sub_ri_reversed : isSubtype (.type "range_iterator") (.type "reversed") = pure false := by rw [isSubtype_type]; kernel_rfl
abbrev revRange3 : Obj := { cls := .type "range_iterator", data := .fields #[rawInt 2, rawInt 3, rawInt (-1)] }
theorem call_range3_reversed {r : Addr} {t u v : Tok} {Q : Value → Shared → Prop} (hr : IsRange s.heap r 0 3 1 t u v)
    (h : Q (.ref s.heap.objs.size) { s with heap := s.heap.push revRange3 }) : wpAny (model prog w) A (call (.builtin "range.__reversed__") [.ref r]) Q E s := by
  have hT : s.TypeIs (.ref r) "range" := ⟨_, hr, rfl⟩
  refine wpAny_call_entry F.slot_range_reversed hT F.entry_range_reversed ?_ (F.args_range_reversed_1 _)
  obtain ⟨hp, g, d, tk, os⟩ := s
  wp_walk using wpAny_loadPart' hr
  rw [if_pos (by decide)]
  wp_walk
  exact ⟨_, rfl, h⟩
theorem code_reversed_range3 {r : Addr} {t u v : Tok} {Q₁ : Value → Shared → Prop} (hr : IsRange s.heap r 0 3 1 t u v)
    (h : Q₁ (.ref s.heap.objs.size) { s with heap := s.heap.push revRange3 }) :
    codeAny (model prog w) A (.call (.builtin "reversed.__new__") ⟨[.type "reversed", .ref r], []⟩) (wants Q₁ E) s := by
  have hT : s.TypeIs (.ref r) "range" := ⟨_, hr, rfl⟩
  refine codeAny_of_tree ?_
  show wpAny _ A.in1 (do checkBuiltinCall "reversed.__new__" ⟨[.type "reversed", .ref r], []⟩; again (.builtin "reversed.__new__" ⟨[.type "reversed", .ref r], []⟩)) _ _ s
  refine wpAny_bind (wpAny_of_eq (F.newCall_reversed_1 _) (wpAny_pure ⟨plainId_quiet F.plain_reversed_new _, codeAny_builtin F.entry_reversed_new ?_⟩))
  rw [Around.under_plainId F.plain_reversed_new _]
  unfold Builtin.«reversed.__new__»
  refine wpAny_bind (wpAny_of_eq (newClass_reversed _) ?_)
  try dsimp only
  refine wpAny_bind (wpAny_of_eq (a := ()) (by first | rfl | kernel_rfl) ?_)
  refine wpAny_bind (wpAny_of_eq (a := ()) (by first | rfl | kernel_rfl) ?_)
  try dsimp only
  refine wpAny_bind (wpAny_specialOf hT F.slot_range_reversed.lookup ?_)
  try dsimp only
  refine wpAny_bind (wpAny_of_eq (F.slot_range_reversed.bind _) ?_)
  try dsimp only
  first
  | rw [if_neg (show ¬ ((Value.builtin "range.__reversed__" == Value.none) = true) from Bool.false_ne_true)]
  | (show wpAny _ _ (if (Value.builtin "range.__reversed__" == Value.none) = true then _ else _) _ _ _; rw [if_neg (show ¬ ((Value.builtin "range.__reversed__" == Value.none) = true) from Bool.false_ne_true)])
  refine wpAny_bind (wpAny_rule ?_)
  refine wpAny_bind (m := runValue (.call (.builtin "range.__reversed__") ⟨[.ref r], []⟩)) (show wpAny _ _ (call (.builtin "range.__reversed__") [.ref r]) _ _ _ from call_range3_reversed hr ?_)
  first
  | exact wpAny_pure h
  | exact wpAny_bind (wpAny_pure (wpAny_pure h))
theorem call_reversed_range3 {r : Addr} {t u v : Tok} {Q : Value → Shared → Prop} (hr : IsRange s.heap r 0 3 1 t u v)
    (h : Q (.ref s.heap.objs.size) { s with heap := s.heap.push revRange3 }) : wpAny (model prog w) A (call (.type "reversed") [.ref r]) Q E s := by
  refine callType_other (U := "range_iterator") (Q₁ := fun obj s₁ => obj = .ref s.heap.objs.size ∧ s₁ = { s with heap := s.heap.push revRange3 }) (by decide +kernel) F.create_reversed ⟨_, _, F.mro_reversed⟩ F.made_reversed sub_ri_reversed (F.typeCall_reversed_1 _) (code_reversed_range3 hr ⟨rfl, rfl⟩) ?_
  rintro obj s₁ ⟨rfl, rfl⟩
  exact ⟨⟨_, Heap.get?_push_size _ rfl, rfl⟩, h⟩
/-- reversed(range(3)), onto the ledger -/
theorem reversed_range3N {h₀ : Heap} {L : Addr} {m : Str → Option Value} {news : List (Addr × Obj)} {r : Addr} {t u v : Tok} {Q : Value → Shared → Prop} (F : Fr h₀ L s.heap m) (N : News h₀ L s.heap news) (hr : IsRange s.heap r 0 3 1 t u v)
    (hQ : ∀ D h', Fr h₀ L h' m → News h₀ L h' ((D, revRange3) :: news) → (∀ p ∈ news, p.1 < D) → Q (.ref D) { s with heap := h' }) :
    wpAny (model prog w) A (call (.type "reversed") [.ref r]) Q E s :=
  call_reversed_range3 hr (hQ _ _ (F.push _) (N.push F _) fun p hp => Heap.lt_size (N p hp).1)
end
end Mine
end

section
open PySem PySem.W PyProof.Rows
namespace Mine
open PyProof.Rows.LCg (NsObj lst ns_obj lst_snoc)

section
variable {prog : Program} {w : World} {A : Around} {I : Addr} {fp wr : List Addr} {n : Nat}
theorem Draw.ofWalks {P : Nat → Value → Prop} {St : Nat → Heap → Prop} {x : Str} {px : Pos} (W : Walks prog w A I fp wr n P St) (hfull : ∀ i h, St i h → ∀ b ∈ fp, ∃ o, h.get? b = some o) :
    Draw prog w A (.Name x px) [x] I fp wr n (fun i vals => ∃ v, vals = [v] ∧ P i v) St where
  sub := W.sub
  frame := W.frame
  full := hfull
  item := fun i s env mC Q R₀ E hi hst hl hp hns hfp hQ => by
    refine W.item i s _ E hi hst fun v h' tk hP hst' hk => ?_
    show wpAny _ _ (pure ()) _ _ _
    refine wpAny_pure ?_
    refine wpAny_assign_Name (wpAny_storeName_local (hl x (by simp)) (hns.at' fun o e => hk _ o (fun hm => hfp (W.sub _ hm)) e) (fun h₂ hn₂ hs₂ => ?_) hp)
    exact hQ [v] _ h₂ _ ⟨v, rfl, hP⟩ (W.frame _ _ _ hst' fun b hb o e => hs₂.extBut b o (fun q => hfp (by have q' : b = env.locals := q; rw [← q']; exact hb)) e) hn₂ (by simp [Bound]) (fun b o h1 h2 e => hs₂.extBut b o h2 (hk b o h1 e))
  done := W.done
  self := W.self

theorem Draw.ofWalksU2 {Pt : Nat → Array Value → Prop} {St : Nat → Heap → Prop} {Mid : Nat → Addr → Heap → Prop} {a b : Str} {pa pb tp : Pos} {kk : Nat} (hh : A.handled = none) (W : WalksU prog w A I fp wr n Pt St Mid) (hfull : ∀ i h, St i h → ∀ b ∈ fp, ∃ o, h.get? b = some o)
    (h2 : ∀ i vals, Pt i vals → ∃ v1 v2, vals = #[v1, v2]) (hab : a ≠ b) :
    Draw prog w A (.Tuple [.Name a pa, .Name b pb] kk tp) [a, b] I fp wr n (fun i vals => Pt i vals.toArray) St where
  sub := W.sub
  frame := W.frame
  full := hfull
  item := fun i s env mC Q R₀ E hi hst hl hp hns hfp hQ => by
    refine W.item i s _ E hi hst fun T vals h' tk hP hT hM hk => ?_
    obtain ⟨v1, v2, rfl⟩ := h2 i vals hP
    refine W.go _ _ _ i T _ _ _ hM fun h₂ hst₂ hk₂ => ?_
    have hTw : T ∉ wr := W.apart _ _ _ hM
    have hT₂ : IsTup h₂ T #[v1, v2] := by
      obtain ⟨o, e, c, d⟩ := hT
      exact ⟨o, hk₂ _ _ hTw e, c, d⟩
    refine assign_Tuple_tuple hh hT₂ rfl rfl fun h₅ he => ?_
    have he' : ∀ b o, h₂.get? b = some o → h₅.get? b = some o := fun b o e => he b o (Nat.ne_of_lt (Heap.lt_size e)) e
    have k5 : ∀ b o, b ∉ wr → s.heap.get? b = some o → h₅.get? b = some o := fun b o hb e => he' b o (hk₂ b o hb (hk b o hb e))
    refine assignInOrder_cons (wpAny_assign_Name (wpAny_storeName_local (hl a (by simp)) (hns.at' fun o e => k5 _ o (fun hm => hfp (W.sub _ hm)) e) (fun h₆ hn₆ hs₆ => ?_) hp))
    refine assignInOrder_cons (wpAny_assign_Name (wpAny_storeName_local (hl b (by simp)) hn₆ (fun h₃ hn₃ hs₃ => ?_) hp))
    refine assignInOrder_nil ?_
    have old3 : ∀ b o, b ≠ env.locals → h₂.get? b = some o → h₃.get? b = some o := fun b o hb e => hs₃.extBut b o hb (hs₆.extBut b o hb (he' b o e))
    exact hQ [v1, v2] _ h₃ _ hP (W.frame _ _ _ hst₂ fun b hb o e => old3 b o (fun q => hfp (by rw [← q]; exact hb)) e) hn₃ (by simp [Bound, hab]) (fun b o h1 h2 e => old3 b o h2 (hk₂ b o h1 (hk b o h1 e)))
  done := W.done
  self := W.self

theorem Draw.ofWalksU3 {Pt : Nat → Array Value → Prop} {St : Nat → Heap → Prop} {Mid : Nat → Addr → Heap → Prop} {a b c : Str} {pa pb pc tp : Pos} {kk : Nat} (hh : A.handled = none) (W : WalksU prog w A I fp wr n Pt St Mid) (hfull : ∀ i h, St i h → ∀ b ∈ fp, ∃ o, h.get? b = some o)
    (h2 : ∀ i vals, Pt i vals → ∃ v1 v2 v3, vals = #[v1, v2, v3]) (hab : a ≠ b) (hac : a ≠ c) (hbc : b ≠ c) :
    Draw prog w A (.Tuple [.Name a pa, .Name b pb, .Name c pc] kk tp) [a, b, c] I fp wr n (fun i vals => Pt i vals.toArray) St where
  sub := W.sub
  frame := W.frame
  full := hfull
  item := fun i s env mC Q R₀ E hi hst hl hp hns hfp hQ => by
    refine W.item i s _ E hi hst fun T vals h' tk hP hT hM hk => ?_
    obtain ⟨v1, v2, v3, rfl⟩ := h2 i vals hP
    refine W.go _ _ _ i T _ _ _ hM fun h₂ hst₂ hk₂ => ?_
    have hTw : T ∉ wr := W.apart _ _ _ hM
    have hT₂ : IsTup h₂ T #[v1, v2, v3] := by
      obtain ⟨o, e, c, d⟩ := hT
      exact ⟨o, hk₂ _ _ hTw e, c, d⟩
    refine assign_Tuple_tuple hh hT₂ rfl rfl fun h₅ he => ?_
    have he' : ∀ b o, h₂.get? b = some o → h₅.get? b = some o := fun b o e => he b o (Nat.ne_of_lt (Heap.lt_size e)) e
    have k5 : ∀ b o, b ∉ wr → s.heap.get? b = some o → h₅.get? b = some o := fun b o hb e => he' b o (hk₂ b o hb (hk b o hb e))
    refine assignInOrder_cons (wpAny_assign_Name (wpAny_storeName_local (hl a (by simp)) (hns.at' fun o e => k5 _ o (fun hm => hfp (W.sub _ hm)) e) (fun h₆ hn₆ hs₆ => ?_) hp))
    refine assignInOrder_cons (wpAny_assign_Name (wpAny_storeName_local (hl b (by simp)) hn₆ (fun h₇ hn₇ hs₇ => ?_) hp))
    refine assignInOrder_cons (wpAny_assign_Name (wpAny_storeName_local (hl c (by simp)) hn₇ (fun h₃ hn₃ hs₃ => ?_) hp))
    refine assignInOrder_nil ?_
    have old3 : ∀ b o, b ≠ env.locals → h₂.get? b = some o → h₃.get? b = some o := fun b o hb e => hs₃.extBut b o hb (hs₇.extBut b o hb (hs₆.extBut b o hb (he' b o e)))
    exact hQ [v1, v2, v3] _ h₃ _ hP (W.frame _ _ _ hst₂ fun b hb o e => old3 b o (fun q => hfp (by rw [← q]; exact hb)) e) hn₃ (by simp [Bound, hab, hac, hbc]) (fun b o h1 h2 e => old3 b o h2 (hk₂ b o h1 (hk b o h1 e)))
  done := W.done
  self := W.self
end

section
variable {prog : Program} {w : World} {A : Around} {E : Value → Shared → Prop} {s : Shared} {h₀ : Heap} {L : Addr} {m : Str → Option Value} {env : Env}

/-- an iterator that a comprehension may run over: what it asks of the iterator, of the frame and of the turns -/
def Loops (prog : Program) (w : World) (A : Around) (h₀ : Heap) (L : Addr) (m : Str → Option Value) (env : Env) (target elt : PySem.Expr) (ifs : List PySem.Expr) (x : List Str) (scope : Scope) (cl : List (Str × Addr)) (Fin : Shared → List (Addr × Obj) → List Value → List (Addr × Obj) → Prop) (it : Value) (s₂ : Shared) : Prop :=
  ∃ I fp wr n B St news, it = .ref I ∧ Draw prog w A target x I fp wr n B St ∧ n ≤ sizeLine ∧ St 0 s₂.heap ∧ Fr h₀ L s₂.heap m ∧ News h₀ L s₂.heap news ∧ L ∉ fp ∧ (∀ b ∈ wr, h₀.get? b = none) ∧ (∀ p ∈ news, p.1 ∉ wr) ∧
    Rest prog w A h₀ L m env elt ifs x scope cl s₂ wr B (Fin s₂ news) n 0 [] news

def FinV (h₀ : Heap) (L : Addr) (m : Str → Option Value) (Q : Value → Shared → Prop) (s : Shared) (news₀ : List (Addr × Obj)) (ys : List Value) (news : List (Addr × Obj)) : Prop :=
  ∀ D h tk, Fr h₀ L h m → News h₀ L h ((D, lst ys) :: news) → (∀ p ∈ news, p.1 ≠ D) → (∀ p ∈ news₀, p.1 < D) → Q (.ref D) { s with heap := h, toks := tk }

theorem ListComp_any {target elt iter : PySem.Expr} {ifs : List PySem.Expr} {x : List Str} {scope : Scope} {cl : List (Str × Addr)} {pos : Pos} {Q : Value → Shared → Prop} (_F₀ : Fr h₀ L s.heap m)
    (hclos : closureFor scope env = pure cl) (hcell : ∀ y ∈ scope.names, y.2 ≠ .cell) (hkind : scope.kind = .function)
    (hnames : ∀ y ∈ scope.names, y.2 = .local → scope.names.lookup y.1 = some .local) (hx : ∀ y ∈ x, scope.names.lookup y = some .local)
    (h : wpAny (model prog w) A (eval iter env) (fun xv s₁ => wpAny (model prog w) A (pyIter xv) (Loops prog w A h₀ L m env target elt ifs x scope cl (FinV h₀ L m Q)) E s₁) E s)
    (hs : ∀ x, foldedSetIterable iter env x = pure x := by intro _; rfl) :
    wpAny (model prog w) A (eval (.ListComp elt [⟨target, iter, ifs, 0⟩] scope pos) env) Q E s := by
  rw [eval_ListComp]
  refine wpAny_comprehension_free (use := none) rfl hs hclos hkind hnames (wpAny_mono h (fun xv s₁ h₁ => wpAny_mono h₁ (fun it s₂ h₂ => ?_) fun _ _ e => e) fun _ _ e => e)
  obtain ⟨I, fp, wr, n, B, St, news, rfl, W, hsz, hst, F, N, hL, hwr, off, R⟩ := h₂
  refine block_any W hsz hcell hkind hx hst (W.full 0 _ hst) F N hL hwr off R ?_
  intro D C h tk m' ys news' F' N' o1 hn hC₀ hD₀ hCL hDL hCD offC low fin
  refine ⟨m', hn, fun h'' hs'' => fin D h'' tk (F'.change hs'' hCL hC₀) (fun p hp => ?_) o1 low⟩
  refine ⟨hs''.extBut _ _ ?_ (N' p hp).1, (N' p hp).2⟩
  rcases List.mem_cons.mp hp with rfl | hp
  · exact Ne.symm hCD
  · exact offC p hp

def FinS (h₀ : Heap) (L : Addr) (m : Str → Option Value) (y : Str) (Q : Flow → Shared → Prop) (s : Shared) (news₀ : List (Addr × Obj)) (ys : List Value) (news : List (Addr × Obj)) : Prop :=
  ∀ D h tk, Fr h₀ L h (fun z => if z = y then some (.ref D) else m z) → News h₀ L h ((D, lst ys) :: news) → (∀ p ∈ news, p.1 ≠ D) → (∀ p ∈ news₀, p.1 < D) → Q .next { s with heap := h, toks := tk }

theorem Assign_ListComp_any {target elt iter : PySem.Expr} {ifs : List PySem.Expr} {x : List Str} {y : Str} {py : Pos} {scope : Scope} {cl : List (Str × Addr)} {pos spos : Pos} {Q : Flow → Shared → Prop} (_F₀ : Fr h₀ L s.heap m) (hLe : env.locals = L)
    (hsw : swapsWith (.ListComp elt [⟨target, iter, ifs, 0⟩] scope pos) (some (.Name y py)) spos.line env = pure true)
    (hclos : closureFor scope env = pure cl) (hcell : ∀ z ∈ scope.names, z.2 ≠ .cell) (hkind : scope.kind = .function)
    (hnames : ∀ z ∈ scope.names, z.2 = .local → scope.names.lookup z.1 = some .local) (hx : ∀ y ∈ x, scope.names.lookup y = some .local)
    (hy : env.kindOf y = some .local) (hp : (env.scope.kind == .class || (env.scope.kind == .module && env.locals != env.globals)) = false)
    (h : wpAny (model prog w) A (eval iter env) (fun xv s₁ => wpAny (model prog w) A (pyIter xv) (Loops prog w A h₀ L m env target elt ifs x scope cl (FinS h₀ L m y Q)) E s₁) E s)
    (hs : ∀ x, foldedSetIterable iter env x = pure x := by intro _; rfl) :
    wpAny (model prog w) A (exec (.Assign [.Name y py] (.ListComp elt [⟨target, iter, ifs, 0⟩] scope pos) spos) env) Q E s := by
  subst hLe
  rw [exec_Assign_Name_used _ _ _ _ hsw]
  refine wpAny_bind (wpAny_standAt (wpAny_bind ?_))
  show wpAny _ A (do let _ ← comprehension (.ListComp elt [⟨target, iter, ifs, 0⟩] scope pos) scope env _ (newList []) false (eval iter env) (some (assign (.Name y py) env))) _ _ s
  refine wpAny_bind (wpAny_mono (wpAny_comprehension_free (use := some (assign (.Name y py) env)) (Q := fun _ s' => Q .next s') rfl hs hclos hkind hnames
    (wpAny_mono h (fun xv s₁ h₁ => wpAny_mono h₁ (fun it s₂ h₂ => ?_) fun _ _ e => e) fun _ _ e => e)) (fun _ s' hq => wpAny_pure (wpAny_pure hq)) fun _ _ e => e)
  obtain ⟨I, fp, wr, n, B, St, news, rfl, W, hsz, hst, F, N, hL, hwr, off, R⟩ := h₂
  refine block_any W hsz hcell hkind hx hst (W.full 0 _ hst) F N hL hwr off R ?_
  intro D C h' tk m' ys news' F' N' o1 hn hC₀ hD₀ hCL hDL hCD offC low fin
  show wpAny _ A (assign (.Name y py) env (.ref D)) _ _ _
  refine wpAny_assign_Name (wpAny_storeName_local hy F'.ns (fun h₂ hn₂ hs₂ => ?_) hp)
  have hL₀ : h₀.get? env.locals = none := Heap.get?_none_of_le F'.above
  have F₂ : Fr h₀ env.locals h₂ (fun z => if z = y then some (.ref D) else m z) := ⟨hn₂, fun b o e => hs₂.extBut b o (fun q => by rw [q, hL₀] at e; cases e) (F'.keep b o e), F'.above⟩
  refine ⟨m', hn.sameBut hs₂ hCL, fun h'' hs'' => fin D h'' _ (F₂.change hs'' hCL hC₀) (fun p hp => ?_) o1 low⟩
  have z : h₂.get? p.1 = some p.2 := hs₂.extBut _ _ (N' p hp).2.1 (N' p hp).1
  refine ⟨hs''.extBut _ _ ?_ z, (N' p hp).2⟩
  rcases List.mem_cons.mp hp with rfl | hp
  · exact Ne.symm hCD
  · exact offC p hp

/-- the end of an element that is an int -/
def EltEnd (h₀ : Heap) (L : Addr) (m : Str → Option Value) (s : Shared) (led : List (Addr × Obj)) (r : Int) (y : Value) (s' : Shared) : Prop :=
  ∃ h' tk' t, y = .int r t ∧ s' = { s with heap := h', toks := tk' } ∧ Fr h₀ L h' m ∧ News h₀ L h' led
theorem EltEnd.intro {led : List (Addr × Obj)} {r r' : Int} {t : Tok} {h' : Heap} {tk' : Nat} (F : Fr h₀ L h' m) (N : News h₀ L h' led) (e : r' = r) : EltEnd h₀ L m s led r (.int r' t) { s with heap := h', toks := tk' } := ⟨h', tk', t, by rw [e], rfl, F, N⟩

/-- the turns of a comprehension of ints that tests nothing and makes nothing that stays -/
theorem rest_ints {elt : PySem.Expr} {x : List Str} {scope : Scope} {cl : List (Str × Addr)} {wr : List Addr} {n : Nat} {B : Nat → List Value → Prop} {news : List (Addr × Obj)} {Fin : List Value → List (Addr × Obj) → Prop} (g : Nat → Int)
    (turn : ∀ i vals own C oC D mC ys h tk (E' : Value → Shared → Prop), i < n → B i vals → NsObj oC mC → Bound x vals mC → Fr h₀ L h m → News h₀ L h ((C, oC) :: (D, lst ys) :: (news ++ own)) →
      wpAny (model prog w) A (eval elt (compEnvC scope cl C env)) (EltEnd h₀ L m { s with heap := h, toks := tk } ((C, oC) :: (D, lst ys) :: (news ++ own)) (g i)) E' { s with heap := h, toks := tk })
    (fin : ∀ ys, IntsAre ys ((List.range n).map g) → Fin ys news) : Rest prog w A h₀ L m env elt [] x scope cl s wr B Fin n 0 [] news := by
  have key : ∀ (j i : Nat) (ys : List Value), i + j = n → IntsAre ys ((List.range i).map g) → Rest prog w A h₀ L m env elt [] x scope cl s wr B Fin j i ys news := by
    intro j
    induction j with
    | zero =>
      intro i ys hi hy
      have e : i = n := by omega
      subst e
      exact fin ys hy
    | succ j ih =>
      intro i ys hi hy vals own C oC D mC h tk E' hB hC hb F N off hCD hown _
      refine wpAny_tests_nil ?_
      simp only [if_true]
      refine wpAny_mono (turn i vals own C oC D mC ys h tk E' (by omega) hB hC hb F N) (fun y s₂ hq => ?_) fun _ _ e => e
      obtain ⟨h', tk', t, rfl, rfl, F', N'⟩ := hq
      refine ⟨h', tk', news, rfl, F', fun p hp => N' p ?_, off, ih (i + 1) _ (by omega) ?_⟩
      · simp only [List.cons_append, List.mem_cons, List.mem_append] at hp ⊢
        rcases hp with h | h | h | h
        · exact .inl h
        · exact .inr (.inl h)
        · exact .inr (.inr (.inr h))
        · exact .inr (.inr (.inl h))
      · rw [List.range_succ, List.map_append]
        exact IntsAre.append hy (.cons (g i) t .nil)
  exact key n 0 [] (by omega) .nil

/-- the turns of [1 for .. if test] -/
theorem rest_test {x : List Str} {scope : Scope} {cl : List (Str × Addr)} {wr : List Addr} {n : Nat} {B : Nat → List Value → Prop} {news : List (Addr × Obj)} {Fin : List Value → List (Addr × Obj) → Prop} {test : PySem.Expr} (pz : Nat → Bool)
    {elt : PySem.Expr} (g : Nat → Int)
    (turn : ∀ i vals own C oC D mC ys h tk (E' : Value → Shared → Prop), i < n → B i vals → NsObj oC mC → Bound x vals mC → Fr h₀ L h m → News h₀ L h ((C, oC) :: (D, lst ys) :: (news ++ own)) →
      wpAny (model prog w) A (isTrue test (compEnvC scope cl C env) (eval test (compEnvC scope cl C env))) (fun b s₃ => b = pz i ∧ ∃ h' tk', s₃ = { s with heap := h', toks := tk' } ∧ Fr h₀ L h' m ∧ News h₀ L h' ((C, oC) :: (D, lst ys) :: (news ++ own))) E' { s with heap := h, toks := tk })
    (elts : ∀ i vals own C oC D mC ys h tk (E' : Value → Shared → Prop), i < n → B i vals → NsObj oC mC → Bound x vals mC → Fr h₀ L h m → News h₀ L h ((C, oC) :: (D, lst ys) :: (news ++ own)) →
      wpAny (model prog w) A (eval elt (compEnvC scope cl C env)) (EltEnd h₀ L m { s with heap := h, toks := tk } ((C, oC) :: (D, lst ys) :: (news ++ own)) (g i)) E' { s with heap := h, toks := tk })
    (fin : ∀ ys, IntsAre ys (((List.range n).filter pz).map g) → Fin ys news) : Rest prog w A h₀ L m env elt [test] x scope cl s wr B Fin n 0 [] news := by
  have key : ∀ (j i : Nat) (ys : List Value), i + j = n → IntsAre ys (((List.range i).filter pz).map g) → Rest prog w A h₀ L m env elt [test] x scope cl s wr B Fin j i ys news := by
    intro j
    induction j with
    | zero =>
      intro i ys hi hy
      have e : i = n := by omega
      subst e
      exact fin ys hy
    | succ j ih =>
      intro i ys hi hy vals own C oC D mC h tk E' hB hC hb F N off hCD hown _
      have perm : ∀ {h' : Heap}, News h₀ L h' ((C, oC) :: (D, lst ys) :: (news ++ own)) → News h₀ L h' (((C, oC) :: (D, lst ys) :: own) ++ news) := fun N' p hp => N' p (by
        simp only [List.cons_append, List.mem_cons, List.mem_append] at hp ⊢
        rcases hp with h | h | h | h
        · exact .inl h
        · exact .inr (.inl h)
        · exact .inr (.inr (.inr h))
        · exact .inr (.inr (.inl h)))
      simp only [List.forIn_cons, List.forIn_nil, if_true]
      refine wpAny_bind (wpAny_bind (wpAny_mono (turn i vals own C oC D mC ys h tk E' (by omega) hB hC hb F N) (fun b s₃ hq => ?_) fun _ _ e => e))
      obtain ⟨rfl, h', tk', rfl, F', N'⟩ := hq
      refine wpAny_pure (wpAny_pure ?_)
      cases hz : pz i with
      | false =>
        simp only [Bool.false_eq_true, if_false]
        refine ⟨h', tk', news, rfl, F', perm N', off, ih (i + 1) _ (by omega) ?_⟩
        rw [List.range_succ, List.filter_append, List.map_append]
        simpa [hz] using hy
      | true =>
        simp only [if_true]
        refine wpAny_mono (elts i vals own C oC D mC ys h' tk' E' (by omega) hB hC hb F' N') (fun y s₂ hq => ?_) fun _ _ e => e
        obtain ⟨h'', tk'', t, rfl, rfl, F'', N''⟩ := hq
        refine ⟨h'', tk'', news, rfl, F'', perm N'', off, ih (i + 1) _ (by omega) ?_⟩
        rw [List.range_succ, List.filter_append, List.map_append]
        simpa [hz] using IntsAre.append hy (.cons (g i) t .nil)
  exact key n 0 [] (by omega) .nil
end
end Mine
end

section
open PySem PySem.W PyProof.Rows
namespace Mine
open PyProof.Rows.LCg (NsObj lst ns_obj lst_snoc)
open PySem.W.KBw (IsBytesIter iter_typeIs pyIter_bytes bInts ints_length ints_get)
open AutoSeq1 (wpAny_loadPart')

section
variable {prog : Program} {w : World} {A : Around} {E : Value → Shared → Prop} {s : Shared} {b : Array UInt8} {t : Tok}
theorem nextOf_bytes_item {it : Addr} {i : Nat} {c : UInt8} {Q : Value → Shared → Prop} (hit : IsBytesIter s.heap it b t i) (hx : b[i]? = some c)
    (hQ : ∀ h', IsBytesIter h' it b t (i + 1) → Heap.SameBut it s.heap h' → Q (.int (c.toNat : Int) s.toks) { s with heap := h', toks := s.toks + 1 }) :
    wpAny (model prog w) A (Builtin.SmallTypes.nextOf (.ref it)) Q E s := by
  obtain ⟨o, ho, hc, hd⟩ := id hit
  unfold Builtin.SmallTypes.nextOf
  refine wpAny_bind (wpAny_callSpecial?_slot (name := PySem.Str.ofString "__next__") (iter_typeIs hit) KBw.slot_next
    (wpAny_call_entry KBw.slot_next (iter_typeIs hit) KBw.entry_next ?_ (KBw.args_next _)))
  show wpAny _ _ (field (.ref it) 0 >>= _) _ _ s
  refine wpAny_bind (wpAny_field ho hd (x := .bytes b t) rfl ?_)
  show wpAny _ _ (if (Value.bytes b t == Value.none) = true then _ else _) _ _ s
  rw [if_neg (show ¬ ((Value.bytes b t == Value.none) = true) from Bool.false_ne_true)]
  show wpAny _ _ (field (.ref it) 1 >>= _) _ _ s
  refine wpAny_bind (wpAny_field ho hd (x := .int i 0) rfl ?_)
  refine wpAny_bind (wpAny_of_eq (a := b) rfl ?_)
  simp only [Int.toNat_natCast, hx]
  refine wpAny_bind (wpAny_setField ho hd (by simp) (wpAny_bind (wpAny_mkInt (wpAny_pure ⟨_, rfl, wpAny_pure (hQ _ ?_ (Heap.SameBut.update ..))⟩))))
  exact ⟨_, Heap.get?_update_self _ ho (Obj.isFreed_of_fields (Obj.data_mapFields hd _)), (Obj.cls_mapFields ..).trans hc, by
    rw [Obj.data_mapFields hd]; simp [rawInt]⟩

theorem nextOf_bytes_end {it : Addr} {i : Nat} {Q : Value → Shared → Prop} (hh : A.handled = none) (hit : IsBytesIter s.heap it b t i) (hx : b[i]? = none)
    (hE : ∀ h' e, Heap.ExtBut it s.heap h' → (∃ o, h'.get? e = some o ∧ o.cls = .type "StopIteration") → E (.ref e) { s with heap := h' }) :
    wpAny (model prog w) A (Builtin.SmallTypes.nextOf (.ref it)) Q E s := by
  obtain ⟨o, ho, hc, hd⟩ := id hit
  unfold Builtin.SmallTypes.nextOf
  refine wpAny_bind (wpAny_callSpecial?_slot (name := PySem.Str.ofString "__next__") (iter_typeIs hit) KBw.slot_next
    (wpAny_call_entry KBw.slot_next (iter_typeIs hit) KBw.entry_next ?_ (KBw.args_next _)))
  show wpAny _ _ (field (.ref it) 0 >>= _) _ _ s
  refine wpAny_bind (wpAny_field ho hd (x := .bytes b t) rfl ?_)
  show wpAny _ _ (if (Value.bytes b t == Value.none) = true then _ else _) _ _ s
  rw [if_neg (show ¬ ((Value.bytes b t == Value.none) = true) from Bool.false_ne_true)]
  show wpAny _ _ (field (.ref it) 1 >>= _) _ _ s
  refine wpAny_bind (wpAny_field ho hd (x := .int i 0) rfl ?_)
  refine wpAny_bind (wpAny_of_eq (a := b) rfl ?_)
  simp only [Int.toNat_natCast, hx]
  refine wpAny_bind (wpAny_rule (wpAny_bind (wpAny_setField ho hd (by simp) ?_)))
  show wpAny _ _ (newExc (.type "StopIteration") [] >>= _) _ _ _
  refine wpAny_bind ?_
  simp only [newExc, newTuple]
  refine wpAny_bind (wpAny_newObj_type ?_ (by size_fits))
  refine wpAny_bind (m := firstArgMember _ _) (wpAny_of_eq (a := Value.none) (by first | rfl | (simp only [firstArgMember]; rfl)) ?_)
  refine wpAny_newObj_type ?_ (by size_fits)
  simp only [raiseNew]
  refine wpAny_bind (wpAny_handled ?_)
  first | rw [show A.in1.handled = none from hh] | rw [hh]
  refine wpAny_bind (wpAny_pure (wpAny_throw ?_))
  exact hE _ _ (((Heap.SameBut.update ..).extBut.push _).push _) ⟨_, Heap.get?_push_size _ rfl, rfl⟩
end
theorem draws_bytes {prog : Program} {w : World} {A : Around} (hh : A.handled = none) (it : Addr) (b : Array UInt8) (t : Tok) :
    Draws prog w A it [it] b.size (fun i v => ∃ c u, b[i]? = some c ∧ v = .int (c.toNat : Int) u) (fun i h => IsBytesIter h it b t i) where
  live := fun _ _ st => let ⟨o, ho, _⟩ := st; ⟨o, ho⟩
  frame := fun _ _ _ st hk => let ⟨o, ho, r⟩ := st; ⟨o, hk it (by simp) o ho, r⟩
  item := fun i s Q E hi st hQ => by
    refine nextOf_bytes_item st (c := b[i]) (by simp [hi]) fun h' hit' hs' => ?_
    exact hQ _ h' (s.toks + 1) ⟨_, _, by simp [hi], rfl⟩ hit' hs'
  done := fun s Q E st hE => nextOf_bytes_end hh st (by simp) hE

theorem meets_enumerate_newB (x : Array UInt8) (t : Tok) :
    Meets (Builtin.«enumerate.__new__» ⟨[.type "enumerate", .bytes x t], []⟩) (fun _ R s =>
      R (.ok (.ret (.ref (s.heap.push { cls := .type "bytes_iterator", data := .fields #[.bytes x t, .int 0 0] }).objs.size)))
        { s with heap := (s.heap.push { cls := .type "bytes_iterator", data := .fields #[.bytes x t, .int 0 0] }).push { cls := .type "enumerate", data := .fields #[.none, .bool false, .ref s.heap.objs.size, rawInt 0, .none, .none] } }) :=
  .of_wp fun prog w A R s h => by
    obtain ⟨hp, g, d, tk, os⟩ := s
    have hsub := sub_enumerate
    wp_walk
    refine wpAny_stack_any fun st => wpAny_pure ?_
    split
    · rename_i c _ _ _ _ _
      cases (c == Value.type "enumerate")
      · wp_walk using pyIter_bytes
        exact ⟨_, rfl, h⟩
      · wp_walk using pyIter_bytes
        exact ⟨_, rfl, h⟩
    · wp_walk using pyIter_bytes
      exact ⟨_, rfl, h⟩
end Mine
end

section
open PySem PySem.W PyProof.Rows
namespace Mine
open PyProof.Rows.LCg (NsObj lst ns_obj lst_snoc)
open PySem.W.KBw (IsBytesIter iter_typeIs pyIter_bytes bInts ints_length ints_get)

/-- an iterator of tuples that stands ready, off the frame and the ledger -/
def Ready (prog : Program) (w : World) (A : Around) (h₀ : Heap) (L : Addr) (h : Heap) (news : List (Addr × Obj)) (z : Addr) (n : Nat) (Pt : Nat → Array Value → Prop) : Prop :=
  ∃ fp wr St Mid, WalksU prog w A z fp wr n Pt St Mid ∧ (∀ i h, St i h → ∀ b ∈ fp, ∃ o, h.get? b = some o) ∧ St 0 h ∧ L ∉ fp ∧ (∀ b ∈ wr, h₀.get? b = none) ∧ (∀ p ∈ news, p.1 ∉ wr)

section
variable {prog : Program} {w : World} {A : Around} {E : Value → Shared → Prop} {s : Shared} {h₀ : Heap} {L : Addr} {m : Str → Option Value} {news : List (Addr × Obj)}

theorem call_enumerate_bytes {x : Array UInt8} {t : Tok} {Q : Value → Shared → Prop}
    (h : ∀ h', IsEnum h' (s.heap.objs.size + 1) s.heap.objs.size 0 .none → IsBytesIter h' s.heap.objs.size x t 0 → h'.objs.size = s.heap.objs.size + 2 →
      (∀ b o, s.heap.get? b = some o → h'.get? b = some o) → Q (.ref (s.heap.objs.size + 1)) { s with heap := h' }) :
    wpAny (model prog w) A (call (.type "enumerate") [.bytes x t]) Q E s := by
  refine callType_new F.called_enumerate (by decide) (F.typeCall_enumerate_1 _) (F.newCall_enumerate_1 _) (fun obj => F.args_object_init_2 obj _) F.entry_enumerate_new
    (meets_enumerate_newB x t) ?_
  have hz : (s.heap.push { cls := .type "bytes_iterator", data := .fields #[.bytes x t, .int 0 0] }).objs.size = s.heap.objs.size + 1 := Heap.size_push ..
  show _ ∧ _
  rw [hz]
  have he : IsEnum ((s.heap.push { cls := .type "bytes_iterator", data := .fields #[.bytes x t, .int 0 0] }).push
      { cls := .type "enumerate", data := .fields #[.none, .bool false, .ref s.heap.objs.size, rawInt 0, .none, .none] }) (s.heap.objs.size + 1) s.heap.objs.size 0 .none := by
    have := Heap.get?_push_size (s.heap.push { cls := .type "bytes_iterator", data := .fields #[.bytes x t, .int 0 0] })
      (o := { cls := .type "enumerate", data := .fields #[.none, .bool false, .ref s.heap.objs.size, rawInt 0, .none, .none] }) rfl
    rw [hz] at this; exact this
  refine ⟨⟨_, he, rfl⟩, h _ he ⟨_, Heap.get?_push_of_some _ (Heap.get?_push_size _ rfl), rfl, rfl⟩ (by rw [Heap.size_push, hz]) fun b o y => Heap.get?_push_of_some _ (Heap.get?_push_of_some _ y)⟩

theorem fresh_none (F : Fr h₀ L s.heap m) (k : Nat) : h₀.get? (s.heap.objs.size + k) = none := by
  cases e : h₀.get? (s.heap.objs.size + k) with
  | none => rfl
  | some o => exact absurd (Heap.lt_size (F.keep _ _ e)) (Nat.not_lt.mpr (Nat.le_add_right _ k))

/-- enumerate(octets) -/
theorem enumerate_bytesN {x : Array UInt8} {t : Tok} {Q : Value → Shared → Prop} (hh : A.handled = none) (F : Fr h₀ L s.heap m) (N : News h₀ L s.heap news)
    (hQ : ∀ z h', Fr h₀ L h' m → News h₀ L h' news → Ready prog w A h₀ L h' news z x.size (fun i vals => ∃ u c u', x[i]? = some c ∧ vals = #[.int i u, .int (c.toNat : Int) u']) → Q (.ref z) { s with heap := h' }) :
    wpAny (model prog w) A (call (.type "enumerate") [.bytes x t]) Q E s := by
  refine call_enumerate_bytes fun h' he hb hsz hk => ?_
  have hL : L < s.heap.objs.size := F.ns.lt
  have W := (WalksT.enumerateD (draws_bytes (prog := prog) (w := w) (A := A.in1) hh s.heap.objs.size x t) (s.heap.objs.size + 1) (Nat.ne_of_gt (Nat.lt_succ_self _)) (by simp) (by simp)).toU
  refine hQ _ h' (F.keeps hk) (fun p hp => ⟨hk _ _ (N p hp).1, (N p hp).2⟩) ⟨_, _, _, _, ⟨W.sub, W.frame, fun i s Q E hi hst hq => W.item i s Q E hi hst fun T vals h' tk hP => hq T vals h' tk ?_, W.go, W.apart, W.done, W.self⟩, ?_, ⟨⟨_, he⟩, hb⟩, ?_, ?_, ?_⟩
  · obtain ⟨t1, v, ⟨c, u, hc, rfl⟩, rfl⟩ := hP
    exact ⟨t1, c, u, hc, rfl⟩
  · rintro i h ⟨⟨old, h1⟩, ⟨o, h2, _⟩⟩ b hb
    rcases List.mem_cons.mp hb with rfl | hb
    · exact ⟨_, h1⟩
    · rw [List.mem_singleton.mp hb]
      exact ⟨o, h2⟩
  · intro hm
    rcases List.mem_cons.mp hm with e | hm
    · exact absurd hL (by rw [e]; exact Nat.not_lt.mpr (Nat.le_add_right _ 1))
    · exact absurd hL (by rw [List.mem_singleton.mp hm]; exact Nat.lt_irrefl _)
  · intro b hb
    rcases List.mem_cons.mp hb with rfl | hb
    · exact fresh_none F 1
    · rw [List.mem_singleton.mp hb]
      exact fresh_none F 0
  · intro p hp hm
    have hlt := Heap.lt_size (N p hp).1
    rcases List.mem_cons.mp hm with e | hm
    · exact absurd hlt (by rw [e]; exact Nat.not_lt.mpr (Nat.le_add_right _ 1))
    · exact absurd hlt (by rw [List.mem_singleton.mp hm]; exact Nat.lt_irrefl _)

/-- zip of two lists of the ledger -/
theorem zip2N {a b : Addr} {i1 i2 : List Value} {k1 k2 : Nat} {Q : Value → Shared → Prop} (hh : A.handled = none) (F : Fr h₀ L s.heap m) (N : News h₀ L s.heap news) (hD : (a, listOf i1.toArray k1) ∈ news) (hD2 : (b, listOf i2.toArray k2) ∈ news)
    (hQ : ∀ z h', Fr h₀ L h' m → News h₀ L h' news → Ready prog w A h₀ L h' news z (min i1.length i2.length) (fun i vals => ∃ x y, i1[i]? = some x ∧ i2[i]? = some y ∧ vals = #[x, y]) → Q (.ref z) { s with heap := h' }) :
    wpAny (model prog w) A (call (.type "zip") [.ref a, .ref b]) Q E s := by
  have hl1 := isList_of N hD
  have hl2 := isList_of N hD2
  have a1 : a < s.heap.objs.size := Heap.lt_size (N _ hD).1
  have a2 : b < s.heap.objs.size := Heap.lt_size (N _ hD2).1
  have hL : L < s.heap.objs.size := F.ns.lt
  refine call_zip_2 hl1 hl2 fun h' hz hTI hTO hit1 hit2 hsz hk => ?_
  have W := (WalksT.zip2 (prog := prog) (w := w) hh _ _ _ _ _ a b (zipApart_new a1 a2) i1.toArray i2.toArray).toU
  simp only [List.size_toArray, List.getElem?_toArray] at W
  have up : ∀ k, L ≠ s.heap.objs.size + k := fun k e => Nat.ne_of_lt (Nat.lt_of_lt_of_le hL (Nat.le_add_right _ k)) e
  refine hQ _ h' (F.keeps hk) (fun p hp => ⟨hk _ _ (N p hp).1, (N p hp).2⟩) ⟨_, _, _, _, W, ?_, ⟨hz, hTI, ⟨_, _, hTO⟩, hit1, hit2, hl1.at fun o e => hk a o e, hl2.at fun o e => hk b o e⟩, ?_, ?_, ?_⟩
  · rintro i h ⟨z1, z2, ⟨_, _, z3⟩, ⟨o4, z4, _⟩, ⟨o5, z5, _⟩, ⟨o6, z6, _⟩, ⟨o7, z7, _⟩⟩ c hc
    simp only [List.mem_cons, List.not_mem_nil, or_false] at hc
    rcases hc with rfl | rfl | rfl | rfl | rfl | rfl | rfl
    · exact ⟨_, z1⟩
    · exact ⟨_, z2⟩
    · exact ⟨_, z3⟩
    · exact ⟨_, z4⟩
    · exact ⟨_, z5⟩
    · exact ⟨_, z6⟩
    · exact ⟨_, z7⟩
  · intro hm
    simp only [List.mem_cons, List.not_mem_nil, or_false] at hm
    rcases hm with e | e | e | e | e | e | e
    · exact up 4 e
    · exact up 2 e
    · exact up 3 e
    · exact up 0 e
    · exact up 1 e
    · exact (N _ hD).2.1 e.symm
    · exact (N _ hD2).2.1 e.symm
  · intro c hc
    simp only [List.mem_cons, List.not_mem_nil, or_false] at hc
    rcases hc with rfl | rfl | rfl | rfl
    · exact fresh_none F 4
    · exact fresh_none F 3
    · exact fresh_none F 0
    · exact fresh_none F 1
  · intro p hp hm
    have hlt := Heap.lt_size (N p hp).1
    have dn : ∀ k, p.1 ≠ s.heap.objs.size + k := fun k e => Nat.ne_of_lt (Nat.lt_of_lt_of_le hlt (Nat.le_add_right _ k)) e
    simp only [List.mem_cons, List.not_mem_nil, or_false] at hm
    rcases hm with e | e | e | e
    · exact dn 4 e
    · exact dn 3 e
    · exact dn 0 e
    · exact dn 1 e
end
end Mine
end

section
open PySem PySem.W PyProof.Rows
namespace Mine

abbrev IsTri (h : Heap) (T : Addr) (a b c : Value) : Prop := h.get? T = some { cls := .type "tuple", data := .seq #[a, b, c] }

/-- the places of a zip of three, apart from one another -/
structure Z3 (z TI TO i1 i2 i3 l1 l2 l3 : Addr) : Prop where
  TIz : TI ≠ z
  TOz : TO ≠ z
  i1z : i1 ≠ z
  i2z : i2 ≠ z
  i3z : i3 ≠ z
  TITO : TI ≠ TO
  TIi1 : TI ≠ i1
  TIi2 : TI ≠ i2
  TIi3 : TI ≠ i3
  TOi1 : TO ≠ i1
  TOi2 : TO ≠ i2
  TOi3 : TO ≠ i3
  i12 : i1 ≠ i2
  i13 : i1 ≠ i3
  i23 : i2 ≠ i3
  l1z : l1 ≠ z
  l1TO : l1 ≠ TO
  l1i1 : l1 ≠ i1
  l1i2 : l1 ≠ i2
  l1i3 : l1 ≠ i3
  l2z : l2 ≠ z
  l2TO : l2 ≠ TO
  l2i1 : l2 ≠ i1
  l2i2 : l2 ≠ i2
  l2i3 : l2 ≠ i3
  l3z : l3 ≠ z
  l3TO : l3 ≠ TO
  l3i1 : l3 ≠ i1
  l3i2 : l3 ≠ i2
  l3i3 : l3 ≠ i3

section
variable {prog : Program} {w : World} {A : Around} {E : Value → Shared → Prop} {s : Shared}

theorem updateSeq_tri {T : Addr} {a b c x : Value} {k : Nat} {Q : Unit → Shared → Prop} (hT : IsTri s.heap T a b c)
    (h : ∀ h', h'.get? T = some { cls := .type "tuple", data := .seq ((#[a, b, c] : Array Value).setIfInBounds k x) } → Heap.SameBut T s.heap h' → Q () { s with heap := h' }) :
    wpAny (model prog w) A (updateSeq T (·.setIfInBounds k x)) Q E s := by
  refine wpAny_updateSeq hT rfl (h _ ?_ (Heap.SameBut.update ..))
  rw [Heap.get?_update_self _ hT rfl]
  simp [Obj.mapSeq]

theorem zip3_next_item {z TI TO i1 i2 i3 l1 l2 l3 : Addr} {k : Nat} {xs ys zs : Array Value} {x y v a b c : Value} {Q : Value → Shared → Prop} (D : Z3 z TI TO i1 i2 i3 l1 l2 l3)
    (hz : IsZip s.heap z TI TO .none) (hTI : IsTri s.heap TI (.ref i1) (.ref i2) (.ref i3)) (hTO : IsTri s.heap TO a b c)
    (h1 : s.heap.IsListIter i1 l1 k) (h2 : s.heap.IsListIter i2 l2 k) (h3 : s.heap.IsListIter i3 l3 k) (hl1 : s.heap.IsList l1 xs) (hl2 : s.heap.IsList l2 ys) (hl3 : s.heap.IsList l3 zs) (hx : xs[k]? = some x) (hy : ys[k]? = some y) (hv : zs[k]? = some v)
    (hQ : ∀ h', IsZip h' z TI TO (rawInt s.heap.objs.size) → IsTri h' TO x y v → h'.IsListIter i1 l1 (k + 1) → h'.IsListIter i2 l2 (k + 1) → h'.IsListIter i3 l3 (k + 1) → IsTri h' s.heap.objs.size x y v → h'.objs.size = s.heap.objs.size + 1 →
      (∀ d o, d ≠ z → d ≠ TO → d ≠ i1 → d ≠ i2 → d ≠ i3 → s.heap.get? d = some o → h'.get? d = some o) → Q (.ref s.heap.objs.size) { s with heap := h' }) :
    wpAny (model prog w) A (Builtin.«zip.__next__» ⟨[.ref z], []⟩) (fun fin s' => ∃ v, fin = .done (.ret v) ∧ Q v s') E s := by
  show wpAny _ _ (field (.ref z) 2 >>= _) _ _ _
  refine wpAny_bind (wpAny_field hz rfl (x := .bool false) rfl ?_)
  show wpAny _ _ (field (.ref z) 3 >>= _) _ _ _
  refine wpAny_bind (wpAny_field hz rfl (x := .ref TI) rfl ?_)
  refine wpAny_bind (wpAny_seqItems hTI rfl ?_)
  show wpAny _ _ (Builtin.SmallTypes.ownedTupleIsFree (.ref z) >>= _) _ _ _
  refine wpAny_bind ?_
  unfold Builtin.SmallTypes.ownedTupleIsFree
  refine wpAny_bind (wpAny_field hz rfl (x := .none) rfl (wpAny_pure ?_))
  simp only [if_true]
  refine wpAny_bind (wpAny_rule ?_)
  refine wpAny_bind (wpAny_field hz rfl (x := .ref TO) rfl ?_)
  refine wpAny_bind (wpAny_setField_rec hz (by simp) fun h₁ hz₁ hs₁ => ?_)
  replace hz₁ : IsZip h₁ z TI TO .ellipsis := hz₁
  refine wpAny_bind ?_
  simp only [List.zipIdx_cons, List.zipIdx_nil, List.forIn_cons, List.forIn_nil]
  -- the first
  refine wpAny_bind (wpAny_bind (wpAny_onRaise ?_))
  show wpAny _ _ (Builtin.SmallTypes.nextOf (.ref i1) >>= _) _ _ _
  refine wpAny_bind (wpAny_nextOf_list_item (h1.extBut hs₁.extBut D.i1z) (hl1.extBut hs₁.extBut D.l1z) hx fun h₂ h1₂ hs₂ => wpAny_pure ?_)
  have hTO₂ : IsTri h₂ TO a b c := hs₂.extBut _ _ D.TOi1 (hs₁.extBut _ _ D.TOz hTO)
  refine wpAny_bind (wpAny_seqItems hTO₂ rfl ?_)
  refine wpAny_bind (updateSeq_tri hTO₂ fun h₃ hTO₃ hs₃ => ?_)
  replace hTO₃ : IsTri h₃ TO x b c := hTO₃
  refine wpAny_bind (wpAny_letGo (wpAny_pure ?_))
  -- the second
  refine wpAny_bind (wpAny_bind (wpAny_onRaise ?_))
  show wpAny _ _ (Builtin.SmallTypes.nextOf (.ref i2) >>= _) _ _ _
  refine wpAny_bind (wpAny_nextOf_list_item (((h2.extBut hs₁.extBut D.i2z).extBut hs₂.extBut D.i12.symm).extBut hs₃.extBut D.TOi2.symm)
    (((hl2.extBut hs₁.extBut D.l2z).extBut hs₂.extBut D.l2i1).extBut hs₃.extBut D.l2TO) hy fun h₄ h2₄ hs₄ => wpAny_pure ?_)
  have hTO₄ : IsTri h₄ TO x b c := hs₄.extBut _ _ D.TOi2 hTO₃
  refine wpAny_bind (wpAny_seqItems hTO₄ rfl ?_)
  refine wpAny_bind (updateSeq_tri hTO₄ fun h₅ hTO₅ hs₅ => ?_)
  replace hTO₅ : IsTri h₅ TO x y c := hTO₅
  refine wpAny_bind (wpAny_letGo (wpAny_pure ?_))
  -- the third
  refine wpAny_bind (wpAny_bind (wpAny_onRaise ?_))
  show wpAny _ _ (Builtin.SmallTypes.nextOf (.ref i3) >>= _) _ _ _
  refine wpAny_bind (wpAny_nextOf_list_item (((((h3.extBut hs₁.extBut D.i3z).extBut hs₂.extBut D.i13.symm).extBut hs₃.extBut D.TOi3.symm).extBut hs₄.extBut D.i23.symm).extBut hs₅.extBut D.TOi3.symm)
    (((((hl3.extBut hs₁.extBut D.l3z).extBut hs₂.extBut D.l3i1).extBut hs₃.extBut D.l3TO).extBut hs₄.extBut D.l3i2).extBut hs₅.extBut D.l3TO) hv fun h₆ h3₆ hs₆ => wpAny_pure ?_)
  have hTO₆ : IsTri h₆ TO x y c := hs₆.extBut _ _ D.TOi3 hTO₅
  refine wpAny_bind (wpAny_seqItems hTO₆ rfl ?_)
  refine wpAny_bind (updateSeq_tri hTO₆ fun h₇ hTO₇ hs₇ => ?_)
  replace hTO₇ : IsTri h₇ TO x y v := hTO₇
  refine wpAny_bind (wpAny_letGo (wpAny_pure (wpAny_pure ?_)))

  refine wpAny_bind (wpAny_seqItems hTO₇ rfl ?_)
  refine wpAny_bind (wpAny_newTuple ?_)
  have hsz : h₇.objs.size = s.heap.objs.size := by rw [hs₇.1, hs₆.1, hs₅.1, hs₄.1, hs₃.1, hs₂.1, hs₁.1]
  have hz₇ : IsZip h₇ z TI TO .ellipsis := hs₇.extBut _ _ D.TOz.symm (hs₆.extBut _ _ D.i3z.symm (hs₅.extBut _ _ D.TOz.symm (hs₄.extBut _ _ D.i2z.symm (hs₃.extBut _ _ D.TOz.symm (hs₂.extBut _ _ D.i1z.symm hz₁)))))
  have hk₇ : ∀ d o, d ≠ z → d ≠ TO → d ≠ i1 → d ≠ i2 → d ≠ i3 → s.heap.get? d = some o → h₇.get? d = some o := fun d o c1 c2 c3 c4 c5 e =>
    hs₇.extBut _ _ c2 (hs₆.extBut _ _ c5 (hs₅.extBut _ _ c2 (hs₄.extBut _ _ c4 (hs₃.extBut _ _ c2 (hs₂.extBut _ _ c3 (hs₁.extBut _ _ c1 e))))))
  have h1₇ : h₇.IsListIter i1 l1 (k + 1) := ((((h1₂.extBut hs₃.extBut D.TOi1.symm).extBut hs₄.extBut D.i12).extBut hs₅.extBut D.TOi1.symm).extBut hs₆.extBut D.i13).extBut hs₇.extBut D.TOi1.symm
  have h2₇ : h₇.IsListIter i2 l2 (k + 1) := ((h2₄.extBut hs₅.extBut D.TOi2.symm).extBut hs₆.extBut D.i23).extBut hs₇.extBut D.TOi2.symm
  have h3₇ : h₇.IsListIter i3 l3 (k + 1) := h3₆.extBut hs₇.extBut D.TOi3.symm
  have hzlt : z < h₇.objs.size := Heap.lt_size hz₇
  show wpAny _ _ (Builtin.SmallTypes.ownedTupleHandOut (.ref z) (.ref h₇.objs.size) >>= _) _ _ _
  refine wpAny_bind ?_
  unfold Builtin.SmallTypes.ownedTupleHandOut
  have hz₈ : IsZip (h₇.push { cls := .type "tuple", data := .seq #[x, y, v] }) z TI TO .ellipsis := Heap.get?_push_of_some _ hz₇
  refine wpAny_bind (wpAny_setField_rec hz₈ (by simp) fun h₉ hz₉ hs₉ => ?_)
  replace hz₉ : IsZip h₉ z TI TO (rawInt h₇.objs.size) := hz₉
  refine wpAny_setField_rec hz₉ (by simp) fun h₈ hz₁₀ hs₁₀ => ?_
  replace hz₁₀ : IsZip h₈ z TI TO (rawInt h₇.objs.size) := hz₁₀
  have up : ∀ d o, d ≠ z → h₇.get? d = some o → h₈.get? d = some o := fun d o c1 e => hs₁₀.extBut _ _ c1 (hs₉.extBut _ _ c1 (Heap.get?_push_of_some _ e))
  have hT₈ : IsTri h₈ h₇.objs.size x y v := hs₁₀.extBut _ _ (Nat.ne_of_gt hzlt) (hs₉.extBut _ _ (Nat.ne_of_gt hzlt) (Heap.get?_push_size _ rfl))
  have hz8 : h₈.objs.size = h₇.objs.size + 1 := by rw [hs₁₀.1, hs₉.1, Heap.size_push]
  rw [hsz] at hz₁₀ hT₈ hz8
  refine wpAny_pure ⟨_, rfl, ?_⟩
  show Q (.ref h₇.objs.size) _
  rw [hsz]
  exact hQ h₈ hz₁₀ (up _ _ D.TOz hTO₇) (h1₇.at fun o e => up _ o D.i1z e) (h2₇.at fun o e => up _ o D.i2z e) (h3₇.at fun o e => up _ o D.i3z e) hT₈ hz8 fun d o c1 c2 c3 c4 c5 e => up d o c1 (hk₇ d o c1 c2 c3 c4 c5 e)

theorem zip3_next_end {z TI TO i1 i2 i3 l1 l2 l3 : Addr} {k : Nat} {xs : Array Value} {a b c : Value} {Q : Fin → Shared → Prop} (hh : A.handled = none) (D : Z3 z TI TO i1 i2 i3 l1 l2 l3)
    (hz : IsZip s.heap z TI TO .none) (hTI : IsTri s.heap TI (.ref i1) (.ref i2) (.ref i3)) (hTO : IsTri s.heap TO a b c)
    (h1 : s.heap.IsListIter i1 l1 k) (hl1 : s.heap.IsList l1 xs) (hx : xs[k]? = none)
    (hE : ∀ h' e, (∀ d o, d ≠ z → d ≠ TO → d ≠ i1 → d ≠ i2 → d ≠ i3 → s.heap.get? d = some o → h'.get? d = some o) → (∃ o, h'.get? e = some o ∧ o.cls = .type "StopIteration") → E (.ref e) { s with heap := h' }) :
    wpAny (model prog w) A (Builtin.«zip.__next__» ⟨[.ref z], []⟩) Q E s := by
  show wpAny _ _ (field (.ref z) 2 >>= _) _ _ _
  refine wpAny_bind (wpAny_field hz rfl (x := .bool false) rfl ?_)
  show wpAny _ _ (field (.ref z) 3 >>= _) _ _ _
  refine wpAny_bind (wpAny_field hz rfl (x := .ref TI) rfl ?_)
  refine wpAny_bind (wpAny_seqItems hTI rfl ?_)
  show wpAny _ _ (Builtin.SmallTypes.ownedTupleIsFree (.ref z) >>= _) _ _ _
  refine wpAny_bind ?_
  unfold Builtin.SmallTypes.ownedTupleIsFree
  refine wpAny_bind (wpAny_field hz rfl (x := .none) rfl (wpAny_pure ?_))
  simp only [if_true]
  refine wpAny_bind (wpAny_rule ?_)
  refine wpAny_bind (wpAny_field hz rfl (x := .ref TO) rfl ?_)
  refine wpAny_bind (wpAny_setField_rec hz (by simp) fun h₁ hz₁ hs₁ => ?_)
  replace hz₁ : IsZip h₁ z TI TO .ellipsis := hz₁
  refine wpAny_bind ?_
  simp only [List.zipIdx_cons, List.zipIdx_nil, List.forIn_cons, List.forIn_nil]
  refine wpAny_bind (wpAny_bind (wpAny_onRaise ?_))
  show wpAny _ _ (Builtin.SmallTypes.nextOf (.ref i1) >>= _) _ _ _
  refine wpAny_bind (wpAny_nextOf_list_end hh (h1.extBut hs₁.extBut D.i1z) (hl1.extBut hs₁.extBut D.l1z) hx fun h₂ e hs₂ he => ?_)
  obtain ⟨oe, hoe, hce⟩ := he
  have hz₂ : IsZip h₂ z TI TO .ellipsis := hs₂ _ _ D.i1z.symm hz₁
  have hez : e ≠ z := fun x => by subst x; rw [hz₂] at hoe; cases hoe; simp at hce
  refine wpAny_setField_rec hz₂ (by simp) fun h₃ _ hs₃ => hE h₃ e (fun d o c1 _ c3 _ _ x => hs₃.extBut _ _ c1 (hs₂ _ _ c3 (hs₁.extBut _ _ c1 x))) ⟨oe, hs₃.extBut _ _ hez hoe, hce⟩

theorem pyNext_zip3_item {z TI TO i1 i2 i3 l1 l2 l3 : Addr} {k : Nat} {xs ys zs : Array Value} {x y v a b c : Value} {Q : Option Value → Shared → Prop} (D : Z3 z TI TO i1 i2 i3 l1 l2 l3)
    (hz : IsZip s.heap z TI TO .none) (hTI : IsTri s.heap TI (.ref i1) (.ref i2) (.ref i3)) (hTO : IsTri s.heap TO a b c)
    (h1 : s.heap.IsListIter i1 l1 k) (h2 : s.heap.IsListIter i2 l2 k) (h3 : s.heap.IsListIter i3 l3 k) (hl1 : s.heap.IsList l1 xs) (hl2 : s.heap.IsList l2 ys) (hl3 : s.heap.IsList l3 zs) (hx : xs[k]? = some x) (hy : ys[k]? = some y) (hv : zs[k]? = some v)
    (hQ : ∀ h', IsZip h' z TI TO (rawInt s.heap.objs.size) → IsTri h' TO x y v → h'.IsListIter i1 l1 (k + 1) → h'.IsListIter i2 l2 (k + 1) → h'.IsListIter i3 l3 (k + 1) → IsTri h' s.heap.objs.size x y v → h'.objs.size = s.heap.objs.size + 1 →
      (∀ d o, d ≠ z → d ≠ TO → d ≠ i1 → d ≠ i2 → d ≠ i3 → s.heap.get? d = some o → h'.get? d = some o) → Q (some (.ref s.heap.objs.size)) { s with heap := h' }) :
    wpAny (model prog w) A (pyNext (.ref z)) Q E s := by
  have hT : s.TypeIs (.ref z) "zip" := ⟨_, hz, rfl⟩
  unfold pyNext
  exact wpAny_bind (wpAny_attempt (wpAny_callSpecial?_slot (name := Str.ofString "__next__") hT F.slot_zip_next
    (wpAny_call_entry F.slot_zip_next hT F.entry_zip_next
      (zip3_next_item D hz hTI hTO h1 h2 h3 hl1 hl2 hl3 hx hy hv fun h' a1 a2 a3 a4 a5 a6 a7 a8 => wpAny_pure (hQ h' a1 a2 a3 a4 a5 a6 a7 a8)) (F.args_zip_next_1 _))))

theorem pyNext_zip3_end {z TI TO i1 i2 i3 l1 l2 l3 : Addr} {k : Nat} {xs : Array Value} {a b c : Value} {Q : Option Value → Shared → Prop} (hh : A.handled = none) (D : Z3 z TI TO i1 i2 i3 l1 l2 l3)
    (hz : IsZip s.heap z TI TO .none) (hTI : IsTri s.heap TI (.ref i1) (.ref i2) (.ref i3)) (hTO : IsTri s.heap TO a b c)
    (h1 : s.heap.IsListIter i1 l1 k) (hl1 : s.heap.IsList l1 xs) (hx : xs[k]? = none)
    (hQ : ∀ h', (∀ d o, d ≠ z → d ≠ TO → d ≠ i1 → d ≠ i2 → d ≠ i3 → s.heap.get? d = some o → h'.get? d = some o) → Q none { s with heap := h' }) : wpAny (model prog w) A (pyNext (.ref z)) Q E s := by
  have hT : s.TypeIs (.ref z) "zip" := ⟨_, hz, rfl⟩
  unfold pyNext
  refine wpAny_bind (wpAny_attempt (wpAny_callSpecial?_slot (name := Str.ofString "__next__") hT F.slot_zip_next
    (wpAny_call_entry F.slot_zip_next hT F.entry_zip_next (zip3_next_end hh D hz hTI hTO h1 hl1 hx fun h' e hk he => ?_) (F.args_zip_next_1 _))))
  obtain ⟨o, ho, hc⟩ := he
  refine wpAny_bind (wpAny_isInstance (T := "StopIteration") (b := true) ⟨o, ho, hc⟩ isSubtype_stop ?_)
  exact wpAny_pure (hQ _ hk)

theorem walks_zip3 (hh : A.handled = none) (z TI TO i1 i2 i3 l1 l2 l3 : Addr) (D : Z3 z TI TO i1 i2 i3 l1 l2 l3) (xs ys zs : Array Value) (hy : xs.size ≤ ys.size) (hv : xs.size ≤ zs.size) :
    WalksT prog w A z [z, TI, TO, i1, i2, i3, l1, l2, l3] [z, TO, i1, i2, i3] xs.size
      (fun i vals => ∃ x y v, xs[i]? = some x ∧ ys[i]? = some y ∧ zs[i]? = some v ∧ vals = #[x, y, v])
      (fun i h => IsZip h z TI TO .none ∧ IsTri h TI (.ref i1) (.ref i2) (.ref i3) ∧ (∃ a b c, IsTri h TO a b c) ∧ h.IsListIter i1 l1 i ∧ h.IsListIter i2 l2 i ∧ h.IsListIter i3 l3 i ∧ h.IsList l1 xs ∧ h.IsList l2 ys ∧ h.IsList l3 zs)
      (fun i T h => IsZip h z TI TO (rawInt T) ∧ IsTri h TI (.ref i1) (.ref i2) (.ref i3) ∧ (∃ a b c, IsTri h TO a b c) ∧ h.IsListIter i1 l1 (i + 1) ∧ h.IsListIter i2 l2 (i + 1) ∧ h.IsListIter i3 l3 (i + 1) ∧ h.IsList l1 xs ∧ h.IsList l2 ys ∧ h.IsList l3 zs ∧
        T ≠ z ∧ T ≠ TO ∧ T ≠ i1 ∧ T ≠ i2 ∧ T ≠ i3) where
  sub := fun c hc => by simp at hc ⊢; rcases hc with rfl | rfl | rfl | rfl | rfl <;> simp
  frame := fun i h h' hst hk => by
    obtain ⟨hz, hTI, ⟨a, b, c, hTO⟩, h1, h2, h3, hl1, hl2, hl3⟩ := hst
    exact ⟨hk z (by simp) _ hz, hk TI (by simp) _ hTI, ⟨a, b, c, hk TO (by simp) _ hTO⟩, h1.at fun o e => hk i1 (by simp) o e, h2.at fun o e => hk i2 (by simp) o e, h3.at fun o e => hk i3 (by simp) o e,
      hl1.at fun o e => hk l1 (by simp) o e, hl2.at fun o e => hk l2 (by simp) o e, hl3.at fun o e => hk l3 (by simp) o e⟩
  item := fun i s Q E hi hst hQ => by
    obtain ⟨hz, hTI, ⟨a, b, c, hTO⟩, h1, h2, h3, hl1, hl2, hl3⟩ := hst
    have hiy : i < ys.size := Nat.lt_of_lt_of_le hi hy
    have hiv : i < zs.size := Nat.lt_of_lt_of_le hi hv
    refine pyNext_zip3_item D hz hTI hTO h1 h2 h3 hl1 hl2 hl3 (Array.getElem?_eq_getElem hi) (Array.getElem?_eq_getElem hiy) (Array.getElem?_eq_getElem hiv) fun h' a1 a2 a3 a4 a5 a6 a7 hk => ?_
    have lt : ∀ {c o}, s.heap.get? c = some o → s.heap.objs.size ≠ c := fun e => Nat.ne_of_gt (Heap.lt_size e)
    exact hQ s.heap.objs.size #[xs[i], ys[i], zs[i]] h' s.toks ⟨_, _, _, Array.getElem?_eq_getElem hi, Array.getElem?_eq_getElem hiy, Array.getElem?_eq_getElem hiv, rfl⟩ (Nat.le_refl _) ⟨_, a6, rfl, _, rfl⟩
      ⟨a1, hk _ _ D.TIz D.TITO D.TIi1 D.TIi2 D.TIi3 hTI, ⟨_, _, _, a2⟩, a3, a4, a5, hl1.at fun o e => hk _ o D.l1z D.l1TO D.l1i1 D.l1i2 D.l1i3 e, hl2.at fun o e => hk _ o D.l2z D.l2TO D.l2i1 D.l2i2 D.l2i3 e, hl3.at fun o e => hk _ o D.l3z D.l3TO D.l3i1 D.l3i2 D.l3i3 e,
        lt hz, lt hTO, (by obtain ⟨_, e, _⟩ := h1; exact lt e), (by obtain ⟨_, e, _⟩ := h2; exact lt e), (by obtain ⟨_, e, _⟩ := h3; exact lt e)⟩
      fun c o hc e => hk c o (fun x => hc (by simp [x])) (fun x => hc (by simp [x])) (fun x => hc (by simp [x])) (fun x => hc (by simp [x])) (fun x => hc (by simp [x])) e
  go := fun elts k pos i T s Q E hm hQ => by
    obtain ⟨hz, hTI, ⟨a, b, c, hTO⟩, h1, h2, h3, hl1, hl2, hl3, _⟩ := hm
    refine wpAny_letOwnedTupleGo_zip hz fun h' hz' hs' => hQ h' ⟨hz', hs'.extBut _ _ D.TIz hTI, ⟨a, b, c, hs'.extBut _ _ D.TOz hTO⟩, h1.extBut hs'.extBut D.i1z, h2.extBut hs'.extBut D.i2z, h3.extBut hs'.extBut D.i3z,
      hl1.extBut hs'.extBut D.l1z, hl2.extBut hs'.extBut D.l2z, hl3.extBut hs'.extBut D.l3z⟩ fun c o hc e => hs'.extBut _ _ (fun x => hc (by simp [x])) e
  apart := fun i T h hm hT => by
    obtain ⟨_, _, _, _, _, _, _, _, _, t1, t2, t3, t4, t5⟩ := hm
    simp at hT
    rcases hT with rfl | rfl | rfl | rfl | rfl
    · exact t1 rfl
    · exact t2 rfl
    · exact t3 rfl
    · exact t4 rfl
    · exact t5 rfl
  done := fun s Q E hst hQ => by
    obtain ⟨hz, hTI, ⟨a, b, c, hTO⟩, h1, h2, h3, hl1, hl2, hl3⟩ := hst
    exact pyNext_zip3_end hh D hz hTI hTO h1 hl1 (Array.getElem?_eq_none (Nat.le_refl _)) fun h' hk => hQ h' s.toks fun c o hc e =>
      hk c o (fun x => hc (by simp [x])) (fun x => hc (by simp [x])) (fun x => hc (by simp [x])) (fun x => hc (by simp [x])) (fun x => hc (by simp [x])) e
  self := fun i s Q E hst hQ => wpAny_pyIter_zip hst.1 hQ
end

theorem typeCall_zip_3 (a b c : Value) : checkTypeCall "zip" ⟨[a, b, c], []⟩ = pure () := by kernel_rfl
theorem newCall_zip_3 (a b c : Value) : checkBuiltinCall "zip.__new__" ⟨[.type "zip", a, b, c], []⟩ = pure () := by kernel_rfl
theorem args_object_init_4 (a b c d : Value) : argsOk "object.__init__" ⟨[a, b, c, d], []⟩ := by
  unfold argsOk; rw [signature?_of (id := "object.__init__") (n := ['_', '_', 't', 'i', 'n', 'i', '_', '_']) (o := ['t', 'c', 'e', 'j', 'b', 'o']) (by kernel_rfl) PySem.F.owner_object]; kernel_rfl
abbrev z3H1 (h : Heap) (l1 : Addr) : Heap := h.push { cls := .type "list_iterator", data := .fields #[.ref l1, .int 0 0] }
abbrev z3H2 (h : Heap) (l1 l2 : Addr) : Heap := (z3H1 h l1).push { cls := .type "list_iterator", data := .fields #[.ref l2, .int 0 0] }
abbrev z3H3 (h : Heap) (l1 l2 l3 : Addr) : Heap := (z3H2 h l1 l2).push { cls := .type "list_iterator", data := .fields #[.ref l3, .int 0 0] }
abbrev z3H4 (h : Heap) (l1 l2 l3 : Addr) : Heap := (z3H3 h l1 l2 l3).push { cls := .type "tuple", data := .seq #[.ref h.objs.size, .ref (z3H1 h l1).objs.size, .ref (z3H2 h l1 l2).objs.size] }
abbrev z3H5 (h : Heap) (l1 l2 l3 : Addr) : Heap := (z3H4 h l1 l2 l3).push { cls := .type "tuple", data := .seq #[.none, .none, .none] }
abbrev z3H6 (h : Heap) (l1 l2 l3 : Addr) : Heap := (z3H5 h l1 l2 l3).push { cls := .type "zip", data := .fields #[.none, .bool false, .bool false, .ref (z3H3 h l1 l2 l3).objs.size, .ref (z3H4 h l1 l2 l3).objs.size] }

theorem meets_zip3_new (l1 l2 l3 : Addr) (xs ys zs : Array Value) :
    Meets (Builtin.«zip.__new__» ⟨[.type "zip", .ref l1, .ref l2, .ref l3], []⟩) (fun _ R s => s.heap.IsList l1 xs ∧ s.heap.IsList l2 ys ∧ s.heap.IsList l3 zs ∧
      R (.ok (.ret (.ref (z3H5 s.heap l1 l2 l3).objs.size))) { s with heap := z3H6 s.heap l1 l2 l3 }) :=
  .of_wp fun prog w A R s h => by
    obtain ⟨hp, g, d, tk, os⟩ := s; obtain ⟨hl1, hl2, hl3, h⟩ := h
    have hsub := sub_zip
    have hL1 : Heap.IsList (Shared.heap ⟨hp, g, d, tk, os⟩) l1 xs := hl1
    have hL2 : Heap.IsList (Shared.heap ⟨hp.push { cls := .type "list_iterator", data := .fields #[.ref l1, .int 0 0] }, g, d, tk, os⟩) l2 ys := Heap.IsList.push hl2 _
    have hL3 : Heap.IsList (Shared.heap ⟨(hp.push { cls := .type "list_iterator", data := .fields #[.ref l1, .int 0 0] }).push { cls := .type "list_iterator", data := .fields #[.ref l2, .int 0 0] }, g, d, tk, os⟩) l3 zs := Heap.IsList.push (Heap.IsList.push hl3 _) _
    wp_walk using wpAny_pyIter_list hL1, wpAny_pyIter_list hL2, wpAny_pyIter_list hL3
    exact ⟨_, rfl, h⟩
end Mine
end

section
open PySem PySem.W PyProof.Rows
namespace Mine
open PyProof.Rows.LCg (NsObj lst ns_obj lst_snoc)
open PySem.W.KBw (IsBytesIter iter_typeIs pyIter_bytes bInts ints_length ints_get)

section
variable {prog : Program} {w : World} {A : Around} {E : Value → Shared → Prop} {s : Shared} {h₀ : Heap} {L : Addr} {m : Str → Option Value} {news : List (Addr × Obj)} {env : Env}

theorem z3_new {n l1 l2 l3 : Nat} (h1 : l1 < n) (h2 : l2 < n) (h3 : l3 < n) : Z3 (n + 5) (n + 3) (n + 4) n (n + 1) (n + 2) l1 l2 l3 := by
  constructor <;> (show @Ne Nat _ _; omega)

/-- zip of three lists of the ledger, the first not the longest -/
theorem zip3N {a b c : Addr} {i1 i2 i3 : List Value} {k1 k2 k3 : Nat} {Q : Value → Shared → Prop} (hh : A.handled = none) (F : Fr h₀ L s.heap m) (N : News h₀ L s.heap news) (hD : (a, listOf i1.toArray k1) ∈ news) (hD2 : (b, listOf i2.toArray k2) ∈ news) (hD3 : (c, listOf i3.toArray k3) ∈ news)
    (hle2 : i1.length ≤ i2.length) (hle3 : i1.length ≤ i3.length)
    (hQ : ∀ z h', Fr h₀ L h' m → News h₀ L h' news → Ready prog w A h₀ L h' news z i1.length (fun i vals => ∃ x y v, i1[i]? = some x ∧ i2[i]? = some y ∧ i3[i]? = some v ∧ vals = #[x, y, v]) → Q (.ref z) { s with heap := h' }) :
    wpAny (model prog w) A (call (.type "zip") [.ref a, .ref b, .ref c]) Q E s := by
  have hl1 := isList_of N hD
  have hl2 := isList_of N hD2
  have hl3 := isList_of N hD3
  have a1 : a < s.heap.objs.size := Heap.lt_size (N _ hD).1
  have a2 : b < s.heap.objs.size := Heap.lt_size (N _ hD2).1
  have a3 : c < s.heap.objs.size := Heap.lt_size (N _ hD3).1
  have hL : L < s.heap.objs.size := F.ns.lt
  have call3 : ∀ {Q : Value → Shared → Prop}, (∀ h', IsZip h' (s.heap.objs.size + 5) (s.heap.objs.size + 3) (s.heap.objs.size + 4) .none → IsTri h' (s.heap.objs.size + 3) (.ref s.heap.objs.size) (.ref (s.heap.objs.size + 1)) (.ref (s.heap.objs.size + 2)) →
      IsTri h' (s.heap.objs.size + 4) .none .none .none → h'.IsListIter s.heap.objs.size a 0 → h'.IsListIter (s.heap.objs.size + 1) b 0 → h'.IsListIter (s.heap.objs.size + 2) c 0 →
      (∀ c o, s.heap.get? c = some o → h'.get? c = some o) → Q (.ref (s.heap.objs.size + 5)) { s with heap := h' }) → wpAny (model prog w) A (call (.type "zip") [.ref a, .ref b, .ref c]) Q E s := by
    intro Q h
    refine callType_new PySem.F.called_zip (by decide) (typeCall_zip_3 _ _ _) (newCall_zip_3 _ _ _) (fun obj => args_object_init_4 obj _ _ _) PySem.F.entry_zip_new
      (meets_zip3_new a b c i1.toArray i2.toArray i3.toArray) ⟨hl1, hl2, hl3, ?_⟩
    have z1 : (z3H1 s.heap a).objs.size = s.heap.objs.size + 1 := Heap.size_push ..
    have z2 : (z3H2 s.heap a b).objs.size = s.heap.objs.size + 2 := by rw [Heap.size_push, z1]
    have z3 : (z3H3 s.heap a b c).objs.size = s.heap.objs.size + 3 := by rw [Heap.size_push, z2]
    have z4 : (z3H4 s.heap a b c).objs.size = s.heap.objs.size + 4 := by rw [Heap.size_push, z3]
    have z5 : (z3H5 s.heap a b c).objs.size = s.heap.objs.size + 5 := by rw [Heap.size_push, z4]
    have g6 : (z3H6 s.heap a b c).get? (z3H5 s.heap a b c).objs.size = some _ := Heap.get?_push_size _ rfl
    have g5 : (z3H6 s.heap a b c).get? (z3H4 s.heap a b c).objs.size = some _ := Heap.get?_push_of_some _ (Heap.get?_push_size _ rfl)
    have g4 : (z3H6 s.heap a b c).get? (z3H3 s.heap a b c).objs.size = some _ := Heap.get?_push_of_some _ (Heap.get?_push_of_some _ (Heap.get?_push_size _ rfl))
    have g3 : (z3H6 s.heap a b c).get? (z3H2 s.heap a b).objs.size = some _ := Heap.get?_push_of_some _ (Heap.get?_push_of_some _ (Heap.get?_push_of_some _ (Heap.get?_push_size _ rfl)))
    have g2 : (z3H6 s.heap a b c).get? (z3H1 s.heap a).objs.size = some _ := Heap.get?_push_of_some _ (Heap.get?_push_of_some _ (Heap.get?_push_of_some _ (Heap.get?_push_of_some _ (Heap.get?_push_size _ rfl))))
    have g1 : (z3H6 s.heap a b c).get? s.heap.objs.size = some _ := Heap.get?_push_of_some _ (Heap.get?_push_of_some _ (Heap.get?_push_of_some _ (Heap.get?_push_of_some _ (Heap.get?_push_of_some _ (Heap.get?_push_size _ rfl)))))
    show _ ∧ _
    rw [z3, z4, z5] at g6
    rw [z4] at g5
    rw [z1, z2, z3] at g4
    rw [z2] at g3
    rw [z1] at g2
    rw [z5]
    exact ⟨⟨_, g6, rfl⟩, h _ g6 g4 g5 ⟨_, g1, rfl, rfl⟩ ⟨_, g2, rfl, rfl⟩ ⟨_, g3, rfl, rfl⟩ fun c o x =>
      Heap.get?_push_of_some _ (Heap.get?_push_of_some _ (Heap.get?_push_of_some _ (Heap.get?_push_of_some _ (Heap.get?_push_of_some _ (Heap.get?_push_of_some _ x)))))⟩
  refine call3 fun h' hz hTI hTO hit1 hit2 hit3 hk => ?_
  have W := (walks_zip3 (prog := prog) (w := w) hh _ _ _ _ _ _ a b c (z3_new a1 a2 a3) i1.toArray i2.toArray i3.toArray (by simpa using hle2) (by simpa using hle3)).toU
  simp only [List.size_toArray, List.getElem?_toArray] at W
  have up : ∀ k, L ≠ s.heap.objs.size + k := fun k e => Nat.ne_of_lt (Nat.lt_of_lt_of_le hL (Nat.le_add_right _ k)) e
  refine hQ _ h' (F.keeps hk) (fun p hp => ⟨hk _ _ (N p hp).1, (N p hp).2⟩) ⟨_, _, _, _, W, ?_, ⟨hz, hTI, ⟨_, _, _, hTO⟩, hit1, hit2, hit3, hl1.at fun o e => hk a o e, hl2.at fun o e => hk b o e, hl3.at fun o e => hk c o e⟩, ?_, ?_, ?_⟩
  · rintro i h ⟨z1, z2, ⟨_, _, _, z3⟩, ⟨o4, z4, _⟩, ⟨o5, z5, _⟩, ⟨o6, z6, _⟩, ⟨o7, z7, _⟩, ⟨o8, z8, _⟩, ⟨o9, z9, _⟩⟩ d hd
    simp only [List.mem_cons, List.not_mem_nil, or_false] at hd
    rcases hd with rfl | rfl | rfl | rfl | rfl | rfl | rfl | rfl | rfl
    · exact ⟨_, z1⟩
    · exact ⟨_, z2⟩
    · exact ⟨_, z3⟩
    · exact ⟨_, z4⟩
    · exact ⟨_, z5⟩
    · exact ⟨_, z6⟩
    · exact ⟨_, z7⟩
    · exact ⟨_, z8⟩
    · exact ⟨_, z9⟩
  · intro hm
    simp only [List.mem_cons, List.not_mem_nil, or_false] at hm
    rcases hm with e | e | e | e | e | e | e | e | e
    · exact up 5 e
    · exact up 3 e
    · exact up 4 e
    · exact up 0 e
    · exact up 1 e
    · exact up 2 e
    · exact (N _ hD).2.1 e.symm
    · exact (N _ hD2).2.1 e.symm
    · exact (N _ hD3).2.1 e.symm
  · intro d hd
    simp only [List.mem_cons, List.not_mem_nil, or_false] at hd
    rcases hd with rfl | rfl | rfl | rfl | rfl
    · exact fresh_none F 5
    · exact fresh_none F 4
    · exact fresh_none F 0
    · exact fresh_none F 1
    · exact fresh_none F 2
  · intro p hp hm
    have hlt := Heap.lt_size (N p hp).1
    have dn : ∀ k, p.1 ≠ s.heap.objs.size + k := fun k e => Nat.ne_of_lt (Nat.lt_of_lt_of_le hlt (Nat.le_add_right _ k)) e
    simp only [List.mem_cons, List.not_mem_nil, or_false] at hm
    rcases hm with e | e | e | e | e
    · exact dn 5 e
    · exact dn 4 e
    · exact dn 0 e
    · exact dn 1 e
    · exact dn 2 e

/-! ### sources of comprehensions -/
variable {elt : PySem.Expr} {scope : Scope} {cl : List (Str × Addr)} {Fin : Shared → List (Addr × Obj) → List Value → List (Addr × Obj) → Prop}

theorem ints_getV {vs : List Value} {ns : List Int} (h : IntsAre vs ns) {i : Nat} {v : Value} (hv : vs[i]? = some v) : ∃ k t, ns[i]? = some k ∧ v = .int k t := by
  induction h generalizing i with
  | nil => simp at hv
  | cons n t _ ih =>
    cases i with
    | zero => exact ⟨n, t, rfl, by simpa using hv.symm⟩
    | succ i => exact ih (by simpa using hv)

/-- a list of ints of the ledger -/
theorem iter_listI {x : Str} {px : Pos} {ax : Addr} {its : List Value} {k : Nat} {ns : List Int} (f : Int → Int) (hh : A.handled = none) (F : Fr h₀ L s.heap m) (N : News h₀ L s.heap news) (hD : (ax, listOf its.toArray k) ∈ news) (hi : IntsAre its ns) (hlen : ns.length ≤ 1000)
    (turn : ∀ a ta own C oC D mC ys h tk (E' : Value → Shared → Prop), a ∈ ns → NsObj oC mC → mC x = some (.int a ta) → Fr h₀ L h m → News h₀ L h ((C, oC) :: (D, lst ys) :: (news ++ own)) →
      wpAny (model prog w) A (eval elt (compEnvC scope cl C env)) (EltEnd h₀ L m { s with heap := h, toks := tk } ((C, oC) :: (D, lst ys) :: (news ++ own)) (f a)) E' { s with heap := h, toks := tk })
    (fin : ∀ h ys, IntsAre ys (ns.map f) → Fin { s with heap := h } news ys news) :
    wpAny (model prog w) A (pyIter (.ref ax)) (Loops prog w A h₀ L m env (.Name x px) elt [] [x] scope cl Fin) E s := by
  have hl := isList_of N hD
  have hlt : ax < s.heap.objs.size := Heap.lt_size (N _ hD).1
  refine wpAny_pyIter_list hl ?_
  have up : ∀ b o, s.heap.get? b = some o → (s.heap.push { cls := .type "list_iterator", data := .fields #[.ref ax, .int 0 0] }).get? b = some o := fun b o e => Heap.get?_push_of_some _ e
  refine ⟨s.heap.objs.size, _, _, _, _, _, news, rfl, Draw.ofWalks (Walks.list hh s.heap.objs.size ax (Nat.ne_of_lt hlt) its.toArray) ?_, ?_, ⟨⟨_, Heap.get?_push_size _ rfl, rfl, rfl⟩, hl.push _⟩, F.keeps up, N.grown up, ?_, ?_, ?_, ?_⟩
  · rintro i h ⟨⟨o1, e1, _⟩, ⟨o2, e2, _⟩⟩ b hb
    rcases List.mem_cons.mp hb with rfl | hb
    · exact ⟨_, e1⟩
    · rw [List.mem_singleton.mp hb]; exact ⟨_, e2⟩
  · rw [List.size_toArray, hi.length, sizeLine_eq]; omega
  · intro hm
    rcases List.mem_cons.mp hm with e | hm
    · exact Nat.ne_of_lt F.ns.lt e
    · exact (N _ hD).2.1 (List.mem_singleton.mp hm).symm
  · intro b hb
    rw [List.mem_singleton.mp hb]
    exact next_is_new F
  · intro p hp hm
    exact Nat.ne_of_lt (Heap.lt_size (N p hp).1) (List.mem_singleton.mp hm)
  · have hsz : its.toArray.size = ns.length := by rw [List.size_toArray, hi.length]
    rw [hsz]
    refine rest_ints (fun i => f (ns.getD i 0)) ?_ ?_
    · rintro i vals own C oC D mC ys h tk E' hi' ⟨v, rfl, hv⟩ hC hb F' N'
      obtain ⟨a, ta, ha, rfl⟩ := ints_getV hi (by simpa using hv)
      have e : ns.getD i 0 = a := by simp [ha]
      rw [e]
      exact turn a ta own C oC D mC ys h tk E' (List.mem_of_getElem? ha) hC (by simpa [Bound] using hb) F' N'
    · intro ys hy
      refine fin _ ys ?_
      have e : (List.range ns.length).map (fun i => f (ns.getD i 0)) = ns.map f := by
        apply List.ext_getElem?
        intro i
        simp only [List.getElem?_map]
        by_cases h : i < ns.length
        · simp [h]
        · simp [h]
      rw [← e]; exact hy

/-- range(b) -/
theorem iter_rangeI {x : Str} {px : Pos} {r : Addr} {b : Int} {t u v : Tok} {n : Nat} (g : Int → Int) (hh : A.handled = none) (F : Fr h₀ L s.heap m) (N : News h₀ L s.heap news) (hr : IsRange s.heap r 0 b 1 t u v) (hb : b = (n : Int)) (hn : n ≤ 1000)
    (turn : ∀ (k : Int) tk0 own C oC D mC ys h tk (E' : Value → Shared → Prop), 0 ≤ k → k < b → NsObj oC mC → mC x = some (.int k tk0) → Fr h₀ L h m → News h₀ L h ((C, oC) :: (D, lst ys) :: (news ++ own)) →
      wpAny (model prog w) A (eval elt (compEnvC scope cl C env)) (EltEnd h₀ L m { s with heap := h, toks := tk } ((C, oC) :: (D, lst ys) :: (news ++ own)) (g k)) E' { s with heap := h, toks := tk })
    (fin : ∀ h ys, IntsAre ys ((List.range n).map fun (i : Nat) => g (i : Int)) → Fin { s with heap := h } news ys news) :
    wpAny (model prog w) A (pyIter (.ref r)) (Loops prog w A h₀ L m env (.Name x px) elt [] [x] scope cl Fin) E s := by
  subst hb
  have hsz : Builtin.Range.rangeSize 0 (n : Int) 1 = (n : Int) := by
    have := rangeSize_nat 0 (n : Int)
    simpa using this
  have hsm : Builtin.Range.small 0 (n : Int) 1 = true := small_one (by omega) (by omega) (by omega) (by omega)
  refine wpAny_pyIter_range hr hsm ?_
  have up : ∀ (o' : Obj) b o, s.heap.get? b = some o → (s.heap.push o').get? b = some o := fun _ b o e => Heap.get?_push_of_some _ e
  refine ⟨s.heap.objs.size, _, _, n, _, _, news, rfl, Draw.ofWalks (Walks.range hh s.heap.objs.size 0 1 n) ?_, ?_, ?_, F.keeps (up _), N.grown (up _), ?_, ?_, ?_, ?_⟩
  · intro i h e b hb
    rw [List.mem_singleton.mp hb]; exact ⟨_, e⟩
  · rw [sizeLine_eq]; omega
  · show IsRangeIter _ _ _ _ _
    rw [hsz]; simpa using Heap.get?_push_size _ rfl
  · intro hm
    exact Nat.ne_of_lt F.ns.lt (List.mem_singleton.mp hm)
  · intro b hb
    rw [List.mem_singleton.mp hb]
    exact next_is_new F
  · intro p hp hm
    exact Nat.ne_of_lt (Heap.lt_size (N p hp).1) (List.mem_singleton.mp hm)
  · refine rest_ints (fun i => g (i : Int)) ?_ fun ys hy => fin _ ys hy
    rintro i vals own C oC D mC ys h tk E' hi' ⟨w, rfl, ⟨t0, rfl⟩⟩ hC hb F' N'
    have e : (0 : Int) + (i : Int) * 1 = (i : Int) := by omega
    rw [e] at hb
    exact turn (i : Int) t0 own C oC D mC ys h tk E' (by omega) (by omega) hC (by simpa [Bound] using hb) F' N'

/-- the iterator of reversed(range(3)), at the ledger's head; it leaves the ledger -/
theorem iter_rev3 {x : Str} {px : Pos} {I : Addr} (g : Int → Int) (hh : A.handled = none) (F : Fr h₀ L s.heap m) (N : News h₀ L s.heap ((I, revRange3) :: news)) (hap : ∀ p ∈ news, p.1 < I)
    (turn : ∀ (k : Int) tk0 own C oC D mC ys h tk (E' : Value → Shared → Prop), 0 ≤ k → k < 3 → NsObj oC mC → mC x = some (.int k tk0) → Fr h₀ L h m → News h₀ L h ((C, oC) :: (D, lst ys) :: (news ++ own)) →
      wpAny (model prog w) A (eval elt (compEnvC scope cl C env)) (EltEnd h₀ L m { s with heap := h, toks := tk } ((C, oC) :: (D, lst ys) :: (news ++ own)) (g k)) E' { s with heap := h, toks := tk })
    (fin : ∀ h ys, IntsAre ys [g 2, g 1, g 0] → Fin { s with heap := h } news ys news) :
    wpAny (model prog w) A (pyIter (.ref I)) (Loops prog w A h₀ L m env (.Name x px) elt [] [x] scope cl Fin) E s := by
  have hI := N (I, revRange3) (.head _)
  have W := Walks.range (prog := prog) (w := w) hh I 2 (-1) 3
  have st0 : IsRangeIter s.heap I (2 + ((0 : Nat) : Int) * (-1)) (((3 : Nat) : Int) - ((0 : Nat) : Int)) (-1) := hI.1
  refine W.self 0 s _ _ st0 ?_
  refine ⟨I, _, _, 3, _, _, news, rfl, Draw.ofWalks W ?_, ?_, st0, F, (fun p hp => N p (.tail _ hp)), ?_, ?_, ?_, ?_⟩
  · intro i h e b hb
    rw [List.mem_singleton.mp hb]; exact ⟨_, e⟩
  · rw [sizeLine_eq]; omega
  · intro hm
    exact hI.2.1 (List.mem_singleton.mp hm).symm
  · intro b hb
    rw [List.mem_singleton.mp hb]
    exact hI.2.2
  · intro p hp hm
    exact Nat.ne_of_lt (hap p hp) (List.mem_singleton.mp hm)
  · refine rest_ints (fun i => g (2 - (i : Int))) ?_ fun ys hy => fin _ ys (by
      have e : (List.range 3).map (fun (i : Nat) => g (2 - (i : Int))) = [g 2, g 1, g 0] := rfl
      rw [← e]; exact hy)
    rintro i vals own C oC D mC ys h tk E' hi' ⟨w, rfl, ⟨t0, rfl⟩⟩ hC hb F' N'
    have e : (2 : Int) + (i : Int) * (-1) = 2 - (i : Int) := by omega
    rw [e] at hb
    exact turn (2 - (i : Int)) t0 own C oC D mC ys h tk E' (by omega) (by omega) hC (by simpa [Bound] using hb) F' N'

/-- an iterator of pairs that stands ready -/
theorem iter_ready2 {x y : Str} {px py tp : Pos} {kk : Nat} {z : Addr} {n : Nat} {Pt : Nat → Array Value → Prop} (g : Nat → Int) (hh : A.handled = none) (F : Fr h₀ L s.heap m) (N : News h₀ L s.heap news) (R : Ready prog w A h₀ L s.heap news z n Pt) (hn : n ≤ 1000) (hxy : x ≠ y)
    (h2 : ∀ i vals, Pt i vals → ∃ v1 v2, vals = #[v1, v2])
    (turn : ∀ i v1 v2 own C oC D mC ys h tk (E' : Value → Shared → Prop), i < n → Pt i #[v1, v2] → NsObj oC mC → mC x = some v1 → mC y = some v2 → Fr h₀ L h m → News h₀ L h ((C, oC) :: (D, lst ys) :: (news ++ own)) →
      wpAny (model prog w) A (eval elt (compEnvC scope cl C env)) (EltEnd h₀ L m { s with heap := h, toks := tk } ((C, oC) :: (D, lst ys) :: (news ++ own)) (g i)) E' { s with heap := h, toks := tk })
    (fin : ∀ ys, IntsAre ys ((List.range n).map g) → Fin s news ys news) :
    wpAny (model prog w) A (pyIter (.ref z)) (Loops prog w A h₀ L m env (.Tuple [.Name x px, .Name y py] kk tp) elt [] [x, y] scope cl Fin) E s := by
  obtain ⟨fp, wr, St, Mid, W, hfull, hst, hL, hwr, off⟩ := R
  refine W.self 0 s _ _ hst ?_
  refine ⟨z, fp, wr, n, _, St, news, rfl, Draw.ofWalksU2 hh W hfull h2 hxy, (by rw [sizeLine_eq]; omega), hst, F, N, hL, hwr, off, rest_ints g ?_ fin⟩
  intro i vals own C oC D mC ys h tk E' hi hB hC hb F' N'
  obtain ⟨v1, v2, e⟩ := h2 i _ hB
  have e' : vals = [v1, v2] := by simpa using congrArg Array.toList e
  subst e'
  simp only [Bound, List.map_cons, List.map_nil, List.cons.injEq, and_true] at hb
  exact turn i v1 v2 own C oC D mC ys h tk E' hi hB hC hb.1 hb.2 F' N'

theorem iter_ready3 {x y u : Str} {px py pu tp : Pos} {kk : Nat} {z : Addr} {n : Nat} {Pt : Nat → Array Value → Prop} (g : Nat → Int) (hh : A.handled = none) (F : Fr h₀ L s.heap m) (N : News h₀ L s.heap news) (R : Ready prog w A h₀ L s.heap news z n Pt) (hn : n ≤ 1000) (hxy : x ≠ y) (hxu : x ≠ u) (hyu : y ≠ u)
    (h2 : ∀ i vals, Pt i vals → ∃ v1 v2 v3, vals = #[v1, v2, v3])
    (turn : ∀ i v1 v2 v3 own C oC D mC ys h tk (E' : Value → Shared → Prop), i < n → Pt i #[v1, v2, v3] → NsObj oC mC → mC x = some v1 → mC y = some v2 → mC u = some v3 → Fr h₀ L h m → News h₀ L h ((C, oC) :: (D, lst ys) :: (news ++ own)) →
      wpAny (model prog w) A (eval elt (compEnvC scope cl C env)) (EltEnd h₀ L m { s with heap := h, toks := tk } ((C, oC) :: (D, lst ys) :: (news ++ own)) (g i)) E' { s with heap := h, toks := tk })
    (fin : ∀ ys, IntsAre ys ((List.range n).map g) → Fin s news ys news) :
    wpAny (model prog w) A (pyIter (.ref z)) (Loops prog w A h₀ L m env (.Tuple [.Name x px, .Name y py, .Name u pu] kk tp) elt [] [x, y, u] scope cl Fin) E s := by
  obtain ⟨fp, wr, St, Mid, W, hfull, hst, hL, hwr, off⟩ := R
  refine W.self 0 s _ _ hst ?_
  refine ⟨z, fp, wr, n, _, St, news, rfl, Draw.ofWalksU3 hh W hfull h2 hxy hxu hyu, (by rw [sizeLine_eq]; omega), hst, F, N, hL, hwr, off, rest_ints g ?_ fin⟩
  intro i vals own C oC D mC ys h tk E' hi hB hC hb F' N'
  obtain ⟨v1, v2, v3, e⟩ := h2 i _ hB
  have e' : vals = [v1, v2, v3] := by simpa using congrArg Array.toList e
  subst e'
  simp only [Bound, List.map_cons, List.map_nil, List.cons.injEq, and_true] at hb
  exact turn i v1 v2 v3 own C oC D mC ys h tk E' hi hB hC hb.1 hb.2.1 hb.2.2 F' N'

/-- [.. for x, y in pairs if test] -/
theorem iter_ready2T {test : PySem.Expr} {x y : Str} {px py tp : Pos} {kk : Nat} {z : Addr} {n : Nat} {Pt : Nat → Array Value → Prop} (pz : Nat → Bool) (g : Nat → Int) (hh : A.handled = none) (F : Fr h₀ L s.heap m) (N : News h₀ L s.heap news) (R : Ready prog w A h₀ L s.heap news z n Pt) (hn : n ≤ 1000) (hxy : x ≠ y)
    (h2 : ∀ i vals, Pt i vals → ∃ v1 v2, vals = #[v1, v2])
    (turn : ∀ i v1 v2 own C oC D mC ys h tk (E' : Value → Shared → Prop), i < n → Pt i #[v1, v2] → NsObj oC mC → mC x = some v1 → mC y = some v2 → Fr h₀ L h m → News h₀ L h ((C, oC) :: (D, lst ys) :: (news ++ own)) →
      wpAny (model prog w) A (isTrue test (compEnvC scope cl C env) (eval test (compEnvC scope cl C env))) (fun b s₃ => b = pz i ∧ ∃ h' tk', s₃ = { s with heap := h', toks := tk' } ∧ Fr h₀ L h' m ∧ News h₀ L h' ((C, oC) :: (D, lst ys) :: (news ++ own))) E' { s with heap := h, toks := tk })
    (elts : ∀ i v1 v2 own C oC D mC ys h tk (E' : Value → Shared → Prop), i < n → Pt i #[v1, v2] → NsObj oC mC → mC x = some v1 → mC y = some v2 → Fr h₀ L h m → News h₀ L h ((C, oC) :: (D, lst ys) :: (news ++ own)) →
      wpAny (model prog w) A (eval elt (compEnvC scope cl C env)) (EltEnd h₀ L m { s with heap := h, toks := tk } ((C, oC) :: (D, lst ys) :: (news ++ own)) (g i)) E' { s with heap := h, toks := tk })
    (fin : ∀ ys, IntsAre ys (((List.range n).filter pz).map g) → Fin s news ys news) :
    wpAny (model prog w) A (pyIter (.ref z)) (Loops prog w A h₀ L m env (.Tuple [.Name x px, .Name y py] kk tp) elt [test] [x, y] scope cl Fin) E s := by
  obtain ⟨fp, wr, St, Mid, W, hfull, hst, hL, hwr, off⟩ := R
  refine W.self 0 s _ _ hst ?_
  refine ⟨z, fp, wr, n, _, St, news, rfl, Draw.ofWalksU2 hh W hfull h2 hxy, (by rw [sizeLine_eq]; omega), hst, F, N, hL, hwr, off, rest_test pz g ?_ ?_ fin⟩
  · intro i vals own C oC D mC ys h tk E' hi hB hC hb F' N'
    obtain ⟨v1, v2, e⟩ := h2 i _ hB
    have e' : vals = [v1, v2] := by simpa using congrArg Array.toList e
    subst e'
    simp only [Bound, List.map_cons, List.map_nil, List.cons.injEq, and_true] at hb
    exact turn i v1 v2 own C oC D mC ys h tk E' hi hB hC hb.1 hb.2 F' N'
  · intro i vals own C oC D mC ys h tk E' hi hB hC hb F' N'
    obtain ⟨v1, v2, e⟩ := h2 i _ hB
    have e' : vals = [v1, v2] := by simpa using congrArg Array.toList e
    subst e'
    simp only [Bound, List.map_cons, List.map_nil, List.cons.injEq, and_true] at hb
    exact elts i v1 v2 own C oC D mC ys h tk E' hi hB hC hb.1 hb.2 F' N'
end
end Mine
end

section
open PySem PySem.W PyProof.Rows
namespace Mine
section
variable {prog : Program} {w : World} {A : Around} {E : Value → Shared → Prop} {s : Shared} {h₀ : Heap} {L : Addr} {m : Str → Option Value} {news : List (Addr × Obj)}

theorem sliceN {value slice : PySem.Expr} {l : Addr} {its : List Value} {k : Nat} {ns ms : List Int} {vl vu : Value} {lo hi : Option Int} {Q : Value → Shared → Prop} (F : Fr h₀ L s.heap m) (N : News h₀ L s.heap news) (hD : (l, listOf its.toArray k) ∈ news) (hi' : IntsAre its ns) (pl : IsPart vl lo) (pu : IsPart vu hi)
    (hres : (ns.drop (kms_lo lo ns.length)).take (kms_hi hi ns.length - kms_lo lo ns.length) = ms) (hn : ns.length ≤ 1000) (hQ : LedQ h₀ L m news s ms Q)
    (hs : subscripted slice false (.ref l) (.ref s.heap.objs.size) = operate [.ref s.heap.objs.size, .ref l] (getItem (.ref l) (.ref s.heap.objs.size))) (ht : ∀ r, letTemporaryGo value (.ref l) r = pure ()) :
    wpAny (model prog w) A (subscriptTail value slice (.ref l) (.ref s.heap.objs.size)) Q E { s with heap := s.heap.push { cls := .type "slice", data := .fields #[vl, vu, .none] } } := by
  refine kmk_slice F N (isList_of N hD) pl pu (fun D h' F' N' l1 => hQ D h' s.toks (slicePick its.toArray lo hi none).toList 0 F' ?_ ?_ l1) hs ht ?_
  · rw [Array.toArray_toList]; exact N'
  · rw [← hres]; exact kssn_any hi'
  · rw [List.size_toArray, hi'.length, sizeLine_eq]; omega

theorem res_to {ns : List Int} {b : Nat} : (ns.drop (kms_lo none ns.length)).take (kms_hi (some (b : Int)) ns.length - kms_lo none ns.length) = ns.take b := by
  have e : kms_hi (some (b : Int)) ns.length = min b ns.length := by
    unfold kms_hi
    simp only [Int.toNat_natCast]
    rw [if_neg (by omega)]
  rw [e]
  show (ns.drop 0).take (min b ns.length - 0) = _
  rw [List.drop_zero, Nat.sub_zero]
  by_cases h : b ≤ ns.length
  · rw [Nat.min_eq_left h]
  · rw [Nat.min_eq_right (by omega), List.take_length, List.take_of_length_le (by omega)]
theorem res_from {ns : List Int} {b : Nat} : (ns.drop (kms_lo (some (b : Int)) ns.length)).take (kms_hi none ns.length - kms_lo (some (b : Int)) ns.length) = ns.drop b := by
  have e : kms_lo (some (b : Int)) ns.length = min b ns.length := by
    unfold kms_lo
    simp only [Int.toNat_natCast]
    rw [if_neg (by omega)]
  rw [e]
  show (ns.drop (min b ns.length)).take (ns.length - min b ns.length) = _
  by_cases h : b ≤ ns.length
  · rw [Nat.min_eq_left h, List.take_of_length_le (by simp)]
  · rw [Nat.min_eq_right (by omega), List.drop_length, List.drop_of_length_le (by omega)]
    simp
theorem res_to3 {ns : List Int} : (ns.drop (kms_lo none ns.length)).take (kms_hi (some (-3)) ns.length - kms_lo none ns.length) = ns.take (ns.length - 3) := rfl
theorem res_from3 {ns : List Int} : (ns.drop (kms_lo (some (-3)) ns.length)).take (kms_hi none ns.length - kms_lo (some (-3)) ns.length) = ns.drop (ns.length - 3) := by
  show (ns.drop (ns.length - 3)).take (ns.length - (ns.length - 3)) = _
  rw [List.take_of_length_le (by simp)]

theorem told_item {value slice : PySem.Expr} {l : Addr} {its : List Value} {k : Nat} {t : Nat → Nat} {j : Int} {u : Tok} {Q : Value → Shared → Prop} (N : News h₀ L s.heap news) (hD : (l, listOf its.toArray k) ∈ news) (hi : IntsAre its ((List.range 24).map fun i => (t i : Int)))
    (h0 : 0 ≤ j) (h1 : j < 24) (h : ∀ tk, Q (.int (t j.toNat : Int) tk) s)
    (hs : subscripted slice false (.ref l) (.int j u) = operate [.ref l, .int j u] (getItem (.ref l) (.int j u))) (hg : ∀ r, letTemporaryGo value (.ref l) r = pure ()) :
    wpAny (model prog w) A (subscriptTail value slice (.ref l) (.int j u)) Q E s := by
  refine item_list_ints (isList_of N hD) hi h0 (by simp; omega) (by omega) (fun tk => ?_) hs hg
  have e : ((List.range 24).map fun i => (t i : Int)).getD j.toNat 0 = (t j.toNat : Int) := by
    have : j.toNat < 24 := by omega
    simp [List.getD_eq_getElem?_getD, this]
  rw [e]
  exact h tk

theorem slice_toN {value slice : PySem.Expr} {l : Addr} {its : List Value} {k : Nat} {ns : List Int} {x : Int} {u : Tok} {b : Nat} {Q : Value → Shared → Prop} (hb : x = (b : Int)) (F : Fr h₀ L s.heap m) (N : News h₀ L s.heap news) (hD : (l, listOf its.toArray k) ∈ news) (hi' : IntsAre its ns)
    (hn : ns.length ≤ 1000) (hQ : LedQ h₀ L m news s (ns.take b) Q)
    (hs : subscripted slice false (.ref l) (.ref s.heap.objs.size) = operate [.ref s.heap.objs.size, .ref l] (getItem (.ref l) (.ref s.heap.objs.size))) (ht : ∀ r, letTemporaryGo value (.ref l) r = pure ()) :
    wpAny (model prog w) A (subscriptTail value slice (.ref l) (.ref s.heap.objs.size)) Q E { s with heap := s.heap.push { cls := .type "slice", data := .fields #[.none, .int x u, .none] } } := by
  subst hb
  exact sliceN F N hD hi' .none (.int _ _) res_to hn hQ hs ht
theorem slice_fromN {value slice : PySem.Expr} {l : Addr} {its : List Value} {k : Nat} {ns : List Int} {x : Int} {u : Tok} {b : Nat} {Q : Value → Shared → Prop} (hb : x = (b : Int)) (F : Fr h₀ L s.heap m) (N : News h₀ L s.heap news) (hD : (l, listOf its.toArray k) ∈ news) (hi' : IntsAre its ns)
    (hn : ns.length ≤ 1000) (hQ : LedQ h₀ L m news s (ns.drop b) Q)
    (hs : subscripted slice false (.ref l) (.ref s.heap.objs.size) = operate [.ref s.heap.objs.size, .ref l] (getItem (.ref l) (.ref s.heap.objs.size))) (ht : ∀ r, letTemporaryGo value (.ref l) r = pure ()) :
    wpAny (model prog w) A (subscriptTail value slice (.ref l) (.ref s.heap.objs.size)) Q E { s with heap := s.heap.push { cls := .type "slice", data := .fields #[.int x u, .none, .none] } } := by
  subst hb
  exact sliceN F N hD hi' (.int _ _) .none res_from hn hQ hs ht
theorem slice_to3N {value slice : PySem.Expr} {l : Addr} {its : List Value} {k : Nat} {ns : List Int} {u : Tok} {Q : Value → Shared → Prop} (F : Fr h₀ L s.heap m) (N : News h₀ L s.heap news) (hD : (l, listOf its.toArray k) ∈ news) (hi' : IntsAre its ns)
    (hn : ns.length ≤ 1000) (hQ : LedQ h₀ L m news s (ns.take (ns.length - 3)) Q)
    (hs : subscripted slice false (.ref l) (.ref s.heap.objs.size) = operate [.ref s.heap.objs.size, .ref l] (getItem (.ref l) (.ref s.heap.objs.size))) (ht : ∀ r, letTemporaryGo value (.ref l) r = pure ()) :
    wpAny (model prog w) A (subscriptTail value slice (.ref l) (.ref s.heap.objs.size)) Q E { s with heap := s.heap.push { cls := .type "slice", data := .fields #[.none, .int (-3) u, .none] } } :=
  sliceN F N hD hi' .none (.int _ _) res_to3 hn hQ hs ht
theorem slice_from3N {value slice : PySem.Expr} {l : Addr} {its : List Value} {k : Nat} {ns : List Int} {u : Tok} {Q : Value → Shared → Prop} (F : Fr h₀ L s.heap m) (N : News h₀ L s.heap news) (hD : (l, listOf its.toArray k) ∈ news) (hi' : IntsAre its ns)
    (hn : ns.length ≤ 1000) (hQ : LedQ h₀ L m news s (ns.drop (ns.length - 3)) Q)
    (hs : subscripted slice false (.ref l) (.ref s.heap.objs.size) = operate [.ref s.heap.objs.size, .ref l] (getItem (.ref l) (.ref s.heap.objs.size))) (ht : ∀ r, letTemporaryGo value (.ref l) r = pure ()) :
    wpAny (model prog w) A (subscriptTail value slice (.ref l) (.ref s.heap.objs.size)) Q E { s with heap := s.heap.push { cls := .type "slice", data := .fields #[.int (-3) u, .none, .none] } } :=
  sliceN F N hD hi' (.int _ _) .none res_from3 hn hQ hs ht

theorem bytes_back : ∀ {ns : List Int}, (∀ n ∈ ns, 0 ≤ n ∧ n < 256) → KBw.bInts (ns.map fun n => n.toNat.toUInt8).toArray = ns
  | [], _ => rfl
  | n :: r, h => by
    have ih := bytes_back (ns := r) fun x hx => h x (.tail _ hx)
    have h1 := byte_back (h n (.head _)).1 (h n (.head _)).2
    rw [KBw.ints_list] at ih ⊢
    simp only [List.map_cons]
    rw [ih, h1]
/-- bytes(a list of octets) -/
theorem bytesN {l : Addr} {its : List Value} {k : Nat} {ns : List Int} {Q : Value → Shared → Prop} (hh : A.handled = none) (F : Fr h₀ L s.heap m) (N : News h₀ L s.heap news) (hD : (l, listOf its.toArray k) ∈ news) (hi : IntsAre its ns) (hr : ∀ n ∈ ns, 0 ≤ n ∧ n < 256) (hn : ns.length ≤ 1000)
    (hQ : ∀ (bs : Array UInt8) h' tb tk', Fr h₀ L h' m → News h₀ L h' news → KBw.bInts bs = ns → bs.size = ns.length → Q (.bytes bs tb) { s with heap := h', toks := tk' }) :
    wpAny (model prog w) A (call (.type "bytes") [.ref l]) Q E s :=
  bytes_K F N (isList_of N hD) hi hr (by rw [hi.length, sizeLine_eq]; omega) hh fun h' t k F' N' _ => hQ _ h' t k F' N' (bytes_back hr) (by simp)
end
end Mine
end

section
open PySem PySem.W PyProof.Rows
namespace Mine
open PyProof.Rows.LCg (NsObj lst ns_obj lst_snoc)
section
variable {prog : Program} {w : World} {A : Around} {E : Value → Shared → Prop} {s : Shared} {h₀ : Heap} {L : Addr} {m : Str → Option Value} {news : List (Addr × Obj)} {env : Env} {elt : PySem.Expr} {scope : Scope} {cl : List (Str × Addr)} {Fin : Shared → List (Addr × Obj) → List Value → List (Addr × Obj) → Prop}

/-- [.. for x in (a, b)], the element a new list of ints -/
theorem iter_two {x : Str} {px : Pos} {T a b : Addr} {o : Obj} (res : Addr → List Int) (hh : A.handled = none) (F : Fr h₀ L s.heap m) (N : News h₀ L s.heap news) (hT : (T, o) ∈ news) (ho : o = { cls := .type "tuple", data := .seq #[.ref a, .ref b] })
    (turn : ∀ (lr : Addr) (news1 own : List (Addr × Obj)) C oC D mC ys h tk (E' : Value → Shared → Prop), (lr = a ∨ lr = b) → (∀ p ∈ news, p ∈ news1) → NsObj oC mC → mC x = some (.ref lr) → Fr h₀ L h m → News h₀ L h ((C, oC) :: (D, lst ys) :: (news1 ++ own)) →
      wpAny (model prog w) A (eval elt (compEnvC scope cl C env)) (fun y s' => ∃ h' tk' R its k, y = .ref R ∧ s' = { s with heap := h', toks := tk' } ∧ Fr h₀ L h' m ∧ News h₀ L h' ((R, listOf its.toArray k) :: (C, oC) :: (D, lst ys) :: (news1 ++ own)) ∧ IntsAre its (res lr) ∧
        (∀ p ∈ (C, oC) :: (D, lst ys) :: (news1 ++ own), p.1 < R)) E' { s with heap := h, toks := tk })
    (fin : ∀ h r1 r2 i1 i2 k1 k2, IntsAre i1 (res a) → IntsAre i2 (res b) → (∀ p ∈ news, p.1 < r1) → (∀ p ∈ news, p.1 < r2) → @LT.lt Nat _ r1 r2 → Fin { s with heap := h } news [.ref r1, .ref r2] ((r2, listOf i2.toArray k2) :: (r1, listOf i1.toArray k1) :: news)) :
    wpAny (model prog w) A (pyIter (.ref T)) (Loops prog w A h₀ L m env (.Name x px) elt [] [x] scope cl Fin) E s := by
  subst ho
  have hI := N _ hT
  have ht : s.heap.IsTuple T #[.ref a, .ref b] := ⟨_, hI.1, rfl, _, rfl⟩
  refine wpAny_pyIter_tuple ht ?_
  have up : ∀ b o, s.heap.get? b = some o → (s.heap.push { cls := .type "tuple_iterator", data := .fields #[.ref T, .int 0 0] }).get? b = some o := fun b o e => Heap.get?_push_of_some _ e
  have hTlt : T < s.heap.objs.size := Heap.lt_size hI.1
  refine ⟨s.heap.objs.size, _, _, 2, _, _, news, rfl, Draw.ofWalks (Walks.tuple hh s.heap.objs.size T (Nat.ne_of_lt hTlt) #[.ref a, .ref b]) ?_, ?_, ⟨⟨_, Heap.get?_push_size _ rfl, rfl, rfl⟩, ?_⟩, F.keeps up, N.grown up, ?_, ?_, ?_, ?_⟩
  · rintro i h ⟨⟨o1, e1, _⟩, ⟨o2, e2, _⟩⟩ c hc
    rcases List.mem_cons.mp hc with rfl | hc
    · exact ⟨_, e1⟩
    · rw [List.mem_singleton.mp hc]; exact ⟨_, e2⟩
  · rw [sizeLine_eq]; omega
  · obtain ⟨o', e, r⟩ := ht
    exact ⟨o', up _ _ e, r⟩
  · intro hm
    rcases List.mem_cons.mp hm with e | hm
    · exact Nat.ne_of_lt F.ns.lt e
    · exact hI.2.1 (List.mem_singleton.mp hm).symm
  · intro c hc
    rw [List.mem_singleton.mp hc]
    exact next_is_new F
  · intro p hp hm
    exact Nat.ne_of_lt (Heap.lt_size (N p hp).1) (List.mem_singleton.mp hm)
  · intro vals own C oC D mC h tk E' hB hC hb F1 N1 off1 hCD1 hown1 hw1
    obtain ⟨v, rfl, hv⟩ := hB
    have hv : v = .ref a := by simpa using hv.symm
    subst hv
    refine wpAny_tests_nil ?_
    simp only [if_true]
    refine wpAny_mono (turn a news own C oC D mC [] h tk E' (.inl rfl) (fun p hp => hp) hC (by simpa [Bound] using hb) F1 N1) (fun y s₂ hq => ?_) fun _ _ e => e
    obtain ⟨h', tk', R1, i1, k1, rfl, rfl, F2, N2, hi1, l1⟩ := hq
    refine ⟨h', tk', (R1, listOf i1.toArray k1) :: news, rfl, F2, fun p hp => N2 p ?_, ?_, ?_⟩
    · simp only [List.cons_append, List.mem_cons, List.mem_append] at hp ⊢
      rcases hp with h | h | h | h | h
      · exact .inr (.inl h)
      · exact .inr (.inr (.inl h))
      · exact .inr (.inr (.inr (.inr h)))
      · exact .inl h
      · exact .inr (.inr (.inr (.inl h)))
    · intro p hp
      rcases List.mem_cons.mp hp with rfl | hp
      · refine ⟨Nat.ne_of_gt (l1 _ (.head _)), Nat.ne_of_gt (l1 _ (.tail _ (.head _))), fun hm => ?_⟩
        obtain ⟨o1, ho1⟩ := hw1 _ hm
        exact Nat.lt_irrefl _ (l1 _ (.tail _ (.tail _ (List.mem_append_right _ ho1))))
      · exact off1 p hp
    · intro vals own C oC D mC h tk E' hB hC hb F1 N1 off1 hCD1 hown1 hw1
      obtain ⟨v, rfl, hv⟩ := hB
      have hv : v = .ref b := by simpa using hv.symm
      subst hv
      refine wpAny_tests_nil ?_
      simp only [if_true]
      refine wpAny_mono (turn b ((R1, listOf i1.toArray k1) :: news) own C oC D mC ([] ++ [.ref R1]) h tk E' (.inr rfl) (fun p hp => .tail _ hp) hC (by simpa [Bound] using hb) F1 N1) (fun y s₂ hq => ?_) fun _ _ e => e
      obtain ⟨h', tk', R2, i2, k2, rfl, rfl, F2, N2, hi2, l2⟩ := hq
      refine ⟨h', tk', (R2, listOf i2.toArray k2) :: (R1, listOf i1.toArray k1) :: news, rfl, F2, fun p hp => N2 p ?_, ?_, ?_⟩
      · simp only [List.cons_append, List.mem_cons, List.mem_append] at hp ⊢
        rcases hp with h | h | h | h | h | h
        · exact .inr (.inl h)
        · exact .inr (.inr (.inl h))
        · exact .inr (.inr (.inr (.inr (.inr h))))
        · exact .inl h
        · exact .inr (.inr (.inr (.inl h)))
        · exact .inr (.inr (.inr (.inr (.inl h))))
      · intro p hp
        rcases List.mem_cons.mp hp with rfl | hp
        · refine ⟨Nat.ne_of_gt (l2 _ (.head _)), Nat.ne_of_gt (l2 _ (.tail _ (.head _))), fun hm => ?_⟩
          obtain ⟨o1, ho1⟩ := hw1 _ hm
          exact Nat.lt_irrefl _ (l2 _ (.tail _ (.tail _ (List.mem_append_right _ ho1))))
        · exact off1 p hp
      · exact fin _ R1 R2 i1 i2 k1 k2 hi1 hi2 (fun p hp => l1 p (.tail _ (.tail _ (List.mem_append_left _ hp)))) (fun p hp => l2 p (.tail _ (.tail _ (List.mem_append_left _ (.tail _ hp))))) (l2 _ (.tail _ (.tail _ (.head _))))
end
end Mine
end

section
open PySem PySem.W PyProof.Rows
namespace Mine
open Rs
open PyProof.Rows.LCg (NsObj lst ns_obj lst_snoc)
local macro_rules | `(tactic| k_mem) => `(tactic| assumption)
theorem ne_of_all {L d : Addr} {news : List (Addr × Obj)} (h : ∀ p ∈ news, p.1 < L) (hle : @LE.le Nat _ L d) : ∀ p ∈ news, p.1 ≠ d := fun p hp => Nat.ne_of_lt (Nat.lt_of_lt_of_le (h p hp) hle)
local macro_rules | `(tactic| k_all) => `(tactic| (refine' ne_of_all (by assumption) ?_; omega))
local macro_rules | `(tactic| walk_at "mine go") => `(tactic| ((fail_if_success (with_reducible show wpAny _ _ (eval (Expr.ListComp _ _ _ _) _) _ _ _)); first | (k_unfold; (try dsimp only)) | (k_end; wrow_close) | walk1))
local macro_rules | `(tactic| walk_at "call type:list") => `(tactic| (k_here; (with_reducible show wpAny _ _ (call (Value.type _) [Value.bytes _ _]) _ _ _); k_dflt (refine' list_bytesN ?hh ?F ?N ?n ?_; (case hh => rfl); (case F => k_asm); (case N => k_asm); (case n => omega)); intro D' h' tk' its' k' F' N' hi' l1'; (try k_lt l1')))
local macro_rules | `(tactic| walk_at "call type:list") => `(tactic| (k_here; (with_reducible show wpAny _ _ (call (Value.type _) [Value.ref _]) _ _ _); k_dflt (refine' copyN ?F ?N ?hD ?hi ?hn ?_; (case F => k_asm); (case N => k_asm); (case hD => k_mem); (case hi => l_ints); (case hn => (try simp only [List.length_append, List.length_replicate, KBw.ints_length]); omega)); intro D' h' tk' its' k' F' N' hi' l1'; (try k_lt l1')))
local macro_rules | `(tactic| walk_at "binaryOp Add ref ref") => `(tactic| (k_here; k_dflt (refine' addN ?F ?N ?hD ?hi ?hD2 ?hi2 ?hn ?_; (case F => k_asm); (case N => k_asm); (case hD => k_mem); (case hi => l_ints); (case hD2 => k_mem); (case hi2 => l_ints); (case hn => (try simp only [List.length_append, List.length_replicate, KBw.ints_length]); omega)); intro D' h' tk' its' k' F' N' hi' l1'; (try k_lt l1')))
local macro_rules | `(tactic| walk_at "binaryOp Mult ref int") => `(tactic| (k_here; k_dflt (refine' mulN0 ?F ?N ?hD ?h0 ?hx ?_; (case F => k_asm); (case N => k_asm); (case hD => k_mem); (case h0 => first | decide | omega); (case hx => first | decide | omega)); intro D' h' tk' its' k' F' N' hi' l1'; (try k_lt l1')))
local macro_rules | `(tactic| walk_at "call ref") => `(tactic| (k_here; k_dflt (refine' polymod_call _ _ _ _ _ _ _ _ _ _ _ _ _ _ _ _ _ _ _ _ _ _ ?B ?F ?X ?N ?T ?hk ?hm ?hi ?hd ?hu ?hr; (case B => k_asm); (case F => k_asm); (case X => k_asm); (case N => k_asm); (case T => k_asm); (case hk => first | exact rfl | assumption); (case hm => k_mem); (case hi => assumption); (case hd => ktr_room); (case hu => ktr_units)); intro t' h' tk' F' N'))
local macro_rules | `(tactic| walk_at "mine steps") => `(tactic| repeat' (first | walk_at "mine go" | (dsimp only; walk_at "mine go")))
local macro_rules | `(tactic| walk_at "mine enterC") => `(tactic|   (refine' code_defC ?k1 ?k2 ?k3 ?k4 ?k5 ?kA ?kF ?kK ?k6 ?k7 ?k8 ?k9 ?kB ?kD ?_ ?c2 ?c3 ?c4; (case kA => exact rfl); (case kF => exact rfl); (case kK => assumption); (case k1 => k_asm); (case k2 => k_asm); (case k3 => k_asm); (case k4 => k_asm); (case k5 => k_asm); (case k6 => k_is); (case k7 => k_is); (case k8 => ktr_room); (case k9 => exact BindsTo.of_eq rfl); (case kB => exact rfl); (case kD => decide +kernel); (case c2 => exact rfl); (case c3 => exact rfl); (case c4 => exact rfl); k_whole; intro g' L' h' tk' cells' FG' F' N' Y' B' X' T' l1; (try k_lt l1); k_cells Y'; (try simp only [List.cons_append, List.nil_append] at N'); (try dsimp only); (try k_lift B'); (try k_fold)))

/-- a checksum as the walk reckons it -/
def ckP (bs ns : List Int) : Int := Builtin.bitXor (pmI (bs ++ ns ++ List.replicate (Int.toNat 3) 0)) 1
def ckD (P i : Int) : Int := Builtin.bitAnd (P.fdiv (2 ^ (10 * i).toNat)) 1023
def ckI (bs ns : List Int) : List Int := [ckD (ckP bs ns) 2, ckD (ckP bs ns) 1, ckD (ckP bs ns) 0]

theorem create_call {w : World} {mean : ExcName → Option Value} {mg mb : Str → Option Value} (dp un : Nat) (gd : Option (List Code)) (cn : Str) (cs : Scope) (a : Addr) (ccd : Value) (cl : List (Str × Addr)) (outer : List Env) (A₀ : Around) (base h₀ : Heap) (L : Addr) (m : Str → Option Value) (s : Shared) (Q E : Value → Shared → Prop)
    (news : List (Addr × Obj)) (l : Addr) (vs : List Value) (k : Nat) (ns : List Int) (bs : Array UInt8) (tb : Tok)
    (B : Below A₀ base outer h₀) (F : Fr h₀ L s.heap m) (X : (hd.heap_39 w.params).In h₀) (N : News h₀ L s.heap news) (T : Top hd.view_39 (looseW hd.view_39 []) mean mg mb h₀) (hk : cs.kind = .function)
    (hm : (l, ({ cls := .type "list", data := .seq vs.toArray k } : Obj)) ∈ news) (hi : IntsAre vs ns) (hlen : ns.length ≤ 100) (hbs : bs.size ≤ 10)
    (hdp : dp + 2 < recursionLimit) (hun : un + 20 < cLine)
    (hret : LedQ h₀ L m news s (ckI (KBw.bInts bs) ns) Q) :
    wpAny (model PySem.Challenge.rw_bc0030_01.row.prog w) (ktrTop dp un gd cn cs L a ccd cl outer) (call (.ref 26) [.ref l, .bytes bs tb]) Q E s := by
  revert X
  k_fill
  intro X
  refine wpAny_call ?_
  k_dflt walk_at "mine enterC"
  walk_at "mine steps"
  rename Fr _ _ _ _ => F1
  rename News _ _ _ _ => N1
  with_unfolding_all refine' ListComp_any (x := [Str.ofString "i"]) F1 ?e1 ?e2 ?e3 ?e4 ?e5 ?_ (by intro _; rfl)
  case e1 => rfl
  case e2 => decide
  case e3 => rfl
  case e4 => decide
  case e5 => decide
  walk_at "mine steps"
  skip
  rename Fr _ _ _ _ => F1
  rename News _ _ _ _ => N1
  rename IsRange _ _ _ _ _ _ _ _ => R1
  with_unfolding_all refine reversed_range3N F1 N1 R1 ?_
  intro D9 h9 F9 N9 l9
  with_unfolding_all refine iter_rev3 (ckD (ckP (KBw.bInts bs) ns)) rfl F9 N9 l9 ?turn ?fin
  case turn =>
    intro k2 tk0 own C oC D mC ys h tk E' hk0 hk1 hC hb F2 N2
    clear F1 N1 F9 N9
    walk_at "mine steps"
    exact EltEnd.intro F2 N2 rfl
  case fin =>
    intro h ys hy D h' tk F2 N2 ne lt
    refine leaveK_ F2 N2 fun kF kN => ?_
    refine hret D h' tk ys ys.length kF (fun p hp => kN p ?_) hy ?_
    · rcases List.mem_cons.mp hp with rfl | hp
      · exact .head _
      · repeat' (first | exact hp | apply List.Mem.tail)
    · intro p hp
      refine lt p ?_
      repeat' (first | exact hp | apply List.Mem.tail)
end Mine
end

section
open PySem PySem.W PyProof.Rows
namespace Mine
open Rs
open PyProof.Rows.LCg (NsObj lst ns_obj lst_snoc)
local macro_rules | `(tactic| k_mem) => `(tactic| assumption)
local macro_rules | `(tactic| walk_at "mine go") => `(tactic| ((fail_if_success (with_reducible show wpAny _ _ (eval (Expr.ListComp _ _ _ _) _) _ _ _)); first | (k_unfold; (try dsimp only)) | (k_end; wrow_close) | walk1))
local macro_rules | `(tactic| walk_at "call type:list") => `(tactic| (k_here; (with_reducible show wpAny _ _ (call (Value.type _) [Value.bytes _ _]) _ _ _); k_dflt (refine' list_bytesN ?hh ?F ?N ?n ?_; (case hh => rfl); (case F => k_asm); (case N => k_asm); (case n => omega)); intro D' h' tk' its' k' F' N' hi' l1'; (try k_lt l1')))
local macro_rules | `(tactic| walk_at "call type:list") => `(tactic| (k_here; (with_reducible show wpAny _ _ (call (Value.type _) [Value.ref _]) _ _ _); k_dflt (refine' copyN ?F ?N ?hD ?hi ?hn ?_; (case F => k_asm); (case N => k_asm); (case hD => k_mem); (case hi => l_ints); (case hn => (try simp only [List.length_append, List.length_replicate, KBw.ints_length]); omega)); intro D' h' tk' its' k' F' N' hi' l1'; (try k_lt l1')))
local macro_rules | `(tactic| walk_at "binaryOp Add ref ref") => `(tactic| (k_here; k_dflt (refine' addN ?F ?N ?hD ?hi ?hD2 ?hi2 ?hn ?_; (case F => k_asm); (case N => k_asm); (case hD => k_mem); (case hi => l_ints); (case hD2 => k_mem); (case hi2 => l_ints); (case hn => (try simp only [List.length_append, List.length_replicate, KBw.ints_length]); omega)); intro D' h' tk' its' k' F' N' hi' l1'; (try k_lt l1')))
local macro_rules | `(tactic| walk_at "binaryOp Mult ref int") => `(tactic| (k_here; k_dflt (refine' mulN0 ?F ?N ?hD ?h0 ?hx ?_; (case F => k_asm); (case N => k_asm); (case hD => k_mem); (case h0 => first | decide | omega); (case hx => first | decide | omega)); intro D' h' tk' its' k' F' N' hi' l1'; (try k_lt l1')))
local macro_rules | `(tactic| walk_at "call ref") => `(tactic| (k_here; k_dflt (refine' polymod_call _ _ _ _ _ _ _ _ _ _ _ _ _ _ _ _ _ _ _ _ _ _ ?B ?F ?X ?N ?T ?hk ?hm ?hi ?hd ?hu ?hr; (case B => k_asm); (case F => k_asm); (case X => k_asm); (case N => k_asm); (case T => k_asm); (case hk => first | exact rfl | assumption); (case hm => k_mem); (case hi => assumption); (case hd => ktr_room); (case hu => ktr_units)); intro t' h' tk' F' N'))
local macro_rules | `(tactic| walk_at "mine steps") => `(tactic| repeat' (first | walk_at "mine go" | (dsimp only; walk_at "mine go")))


theorem verify_call {w : World} {mean : ExcName → Option Value} {mg mb : Str → Option Value} (dp un : Nat) (gd : Option (List Code)) (cn : Str) (cs : Scope) (a : Addr) (ccd : Value) (cl : List (Str × Addr)) (outer : List Env) (A₀ : Around) (base h₀ : Heap) (L : Addr) (m : Str → Option Value) (s : Shared) (Q E : Value → Shared → Prop)
    (news : List (Addr × Obj)) (l : Addr) (vs : List Value) (k : Nat) (ns : List Int) (bs : Array UInt8) (tb : Tok)
    (B : Below A₀ base outer h₀) (F : Fr h₀ L s.heap m) (X : (hd.heap_39 w.params).In h₀) (N : News h₀ L s.heap news) (T : Top hd.view_39 (looseW hd.view_39 []) mean mg mb h₀) (hk : cs.kind = .function)
    (hm : (l, ({ cls := .type "list", data := .seq vs.toArray k } : Obj)) ∈ news) (hi : IntsAre vs ns) (hlen : ns.length ≤ 100) (hbs : bs.size ≤ 10)
    (hdp : dp + 2 < recursionLimit) (hun : un + 20 < cLine)
    (hret : ∀ (h' : Heap) (tk' : Nat), Fr h₀ L h' m → News h₀ L h' news → Q (.bool (pmI (KBw.bInts bs ++ ns) == 1)) { s with heap := h', toks := tk' }) :
    wpAny (model PySem.Challenge.rw_bc0030_01.row.prog w) (ktrTop dp un gd cn cs L a ccd cl outer) (call (.ref 33) [.ref l, .bytes bs tb]) Q E s := by
  revert X
  k_fill
  intro X
  refine wpAny_call ?_
  k_dflt cell_enter
  walk_at "mine steps"
  rename News _ _ _ _ => kN9
  refine hret _ _ (by assumption) (fun p hp => kN9 p ?_)
  repeat' (first | exact hp | apply List.Mem.tail)
end Mine
end

section
open PySem PySem.W PyProof.Rows
namespace Mine
open Rs

def lawFn : Scope × List Stmt := match PySem.Challenge.pw_bc0030_01.main.body with
  | [_, _, _, _, _, _, _, Stmt.FunctionDef _ _ b _ _ _ sc _ _ _] => (sc, b)
  | _ => default
abbrev lawEnv (L fa : Addr) (cdv : Value) : Env := envOfC (Str.ofString "law") lawFn.1 L fa cdv
abbrev lawA (L fa : Addr) (cdv : Value) : Around := callerA.deeper (lawEnv L fa cdv)

/-- the law from its n-th statement on -/
abbrev LawFrom (n : Nat) (w : World) (L fa : Addr) (cdv : Value) (Q : Flow → Shared → Prop) (E : Value → Shared → Prop) (s : Shared) : Prop :=
  wpAny (model PySem.Challenge.rw_bc0030_01.row.prog w) (lawA L fa cdv) (execs (lawFn.2.drop n) (lawEnv L fa cdv)) Q E s

local macro_rules | `(tactic| walk_at "mine go") => `(tactic| (first | (k_unfold; (try dsimp only)) | (k_end; wrow_close) | walk1))
local macro_rules | `(tactic| walk_at "mine stop") => `(tactic| (fail_if_success (with_reducible show wpAny _ _ (execs _ _) _ _ _)))
local macro_rules | `(tactic| walk_at "mine steps") => `(tactic| repeat' (walk_at "mine stop"; first | walk_at "mine go" | (dsimp only; walk_at "mine go")))

local macro_rules | `(tactic| walk_at "eval Name") => `(tactic| (k_here; k_dflt (refine' nameX_L ?F ?v ?_ ?a ?b; (case F => k_asm); (case a => rfl); (case b => rfl); (case v => assumption); k_whole)))
abbrev Over (L D : Addr) : Prop := @LT.lt Nat _ (L + 1 + 1 + 1 + 1) D
abbrev cells4 (L : Addr) (oB oS oT oN : Obj) (r : List (Addr × Obj)) : List (Addr × Obj) := (L + 1 + 1 + 1 + 1, oB) :: (L + 1 + 1 + 1, oS) :: (L + 1 + 1, oT) :: (L + 1, oN) :: r

theorem piece0 {w : World} {mean : ExcName → Option Value} {mg mb : Str → Option Value} {base : Heap} {L fa : Addr} {cdv : Value} {Q : Flow → Shared → Prop} {E : Value → Shared → Prop} {s : Shared} {m : Str → Option Value} {oB oS oT oN : Obj} {lx : Addr} {vs : List Value} {ns : List Int}
    (B : Below callerA base [] base) (X : (hd.heap_39 w.params).In base) (T : Top hd.view_39 (looseW hd.view_39 []) mean mg mb base) (F : Fr base L s.heap m) (N : News base L s.heap (cells4 L oB oS oT oN [])) (dN : oN.data = .cell none)
    (hs : m (Str.ofString "script") = some (.ref lx)) (hl : base.IsList lx vs.toArray) (hi : IntsAre vs ns) (hn : ns.length ≤ 63)
    (K : ∀ h tk oN' ln vs' ns' extra, ns' ≠ [] → ns'.length ≤ 63 → Fr base L h m → News base L h (cells4 L oB oS oT oN' extra) → oN'.data = .cell (some (.ref ln)) → IntsAre vs' ns' →
      (∀ h', (∀ b o, base.get? b = some o → h'.get? b = some o) → News base L h' extra → h'.IsList ln vs'.toArray) → LawFrom 1 w L fa cdv Q E { s with heap := h, toks := tk }) :
    LawFrom 0 w L fa cdv Q E s := by
  revert X
  k_fill
  intro X
  unfold LawFrom lawA lawEnv
  dsimp only [lawFn, PySem.Challenge.pw_bc0030_01]
  simp only [List.drop_zero]
  walk1
  walk_at "mine steps"
  · rename 0 < ns.length => hp
    rename Fr _ _ _ _ => F9
    rename News _ _ _ _ => N9
    exact K _ _ _ lx vs ns [] (fun e => by rw [e] at hp; exact absurd hp (Nat.lt_irrefl _)) hn F9 N9 (by assumption) hi (fun h' hk _ => hl.at fun o e => hk _ o e)
  · rename Fr _ _ _ _ => F9
    rename News _ _ _ _ => N9
    (with_reducible rename Obj.data _ = Data.cell _ => d9)
    rename_i l9 _ _ _ o9
    refine K _ _ o9 l9 [Value.int 0 (s.toks + 1 + 1)] [0] [(l9, W.listOf #[Value.int 0 (s.toks + 1 + 1)] 0)] (by simp) (by simp) F9 (fun p hp => N9 p ?_) d9 (.cons 0 _ .nil) (fun h' _ N' => ⟨_, (N' _ (.head _)).1, rfl, 0, rfl⟩)
    rcases List.mem_cons.mp hp with rfl | hp
    · exact .tail _ (.head _)
    rcases List.mem_cons.mp hp with rfl | hp
    · exact .tail _ (.tail _ (.head _))
    rcases List.mem_cons.mp hp with rfl | hp
    · exact .tail _ (.tail _ (.tail _ (.head _)))
    rcases List.mem_cons.mp hp with rfl | hp
    · exact .tail _ (.tail _ (.tail _ (.tail _ (.head _))))
    · rcases List.mem_singleton.mp hp with rfl
      exact .head _
end Mine
end

section
open PySem PySem.W PyProof.Rows
namespace Mine
open Rs
open PyProof.Rows.LCg (NsObj lst ns_obj lst_snoc)
local macro_rules | `(tactic| k_mem) => `(tactic| assumption)
local macro_rules | `(tactic| k_all) => `(tactic| (refine' ne_of_all (by assumption) ?_; omega))
local macro_rules | `(tactic| walk_at "mine go") => `(tactic| (first | (k_unfold; (try dsimp only)) | (k_end; wrow_close) | walk1))
local macro_rules | `(tactic| walk_at "mine stop") => `(tactic| ((fail_if_success (with_reducible show wpAny _ _ (execs _ _) _ _ _)); (fail_if_success (with_reducible show wpAny _ _ (eval (Expr.ListComp _ _ _ _) _) _ _ _)); (fail_if_success (with_reducible show wpAny _ _ (pyIter _) _ _ _))))
local macro_rules | `(tactic| walk_at "mine steps") => `(tactic| repeat' (walk_at "mine stop"; first | walk_at "mine go" | (dsimp only; walk_at "mine go")))
local macro_rules | `(tactic| walk_at "eval Name") => `(tactic| (k_here; k_dflt (refine' nameX_L ?F ?v ?_ ?a ?b; (case F => k_asm); (case a => rfl); (case b => rfl); (case v => assumption); k_whole)))
local macro_rules | `(tactic| walk_at "binaryOp Add ref ref") => `(tactic| (k_here; k_dflt (refine' addN ?F ?N ?hD ?hi ?hD2 ?hi2 ?hn ?_; (case F => k_asm); (case N => k_asm); (case hD => k_mem); (case hi => l_ints); (case hD2 => k_mem); (case hi2 => l_ints); (case hn => (try simp only [List.length_append, List.length_replicate, KBw.ints_length, List.length_map, List.length_range, List.length_take]); omega)); intro D' h' tk' its' k' F' N' hi' l1'; (try k_lt l1')))
local macro_rules | `(tactic| walk_at "binaryOp Mult ref int") => `(tactic| (k_here; k_dflt (refine' mulN0 ?F ?N ?hD ?h0 ?hx ?_; (case F => k_asm); (case N => k_asm); (case hD => k_mem); (case h0 => first | decide | omega); (case hx => first | decide | omega)); intro D' h' tk' its' k' F' N' hi' l1'; (try k_lt l1')))

def toldN (ns : List Int) (k : Nat) : Nat := (ns.getD (k % ns.length) 0).natAbs / 1024 ^ (k / ns.length) + 7 * k

theorem told_val {ns : List Int} {k : Int} (h0 : 0 ≤ k) :
    (if ns.getD (k.fmod (ns.length : Int)).toNat 0 < 0 then -ns.getD (k.fmod (ns.length : Int)).toNat 0 else ns.getD (k.fmod (ns.length : Int)).toNat 0).fdiv (1024 ^ (k.fdiv (ns.length : Int)).toNat) + 7 * k = (toldN ns k.toNat : Int) := by
  obtain ⟨i, rfl⟩ : ∃ i : Nat, k = (i : Int) := ⟨k.toNat, by omega⟩
  rw [fmod_nat, fdiv_nat]
  simp only [Int.toNat_natCast]
  unfold toldN
  generalize ns.getD (i % ns.length) 0 = x
  have e : (if x < 0 then -x else x) = (x.natAbs : Int) := by split <;> omega
  have e2 : (1024 : Int) ^ (i / ns.length) = ((1024 ^ (i / ns.length) : Nat) : Int) := by push_cast; rfl
  rw [e, e2, fdiv_nat]
  push_cast
  rfl
local macro_rules | `(tactic| walk_at "binaryOp Pow int int") => `(tactic| (refine pow_int_small (by assumption) (by assumption) (by decide) ?_))
local macro_rules | `(tactic| walk_at "binaryOp FloorDiv int int") => `(tactic| (refine floordiv_int (by assumption) ?_))

theorem piece1 {w : World} {mean : ExcName → Option Value} {mg mb : Str → Option Value} {base : Heap} {L fa : Addr} {cdv : Value} {Q : Flow → Shared → Prop} {E : Value → Shared → Prop} {s : Shared} {m : Str → Option Value} {oB oS oT oN : Obj} {ln : Addr} {vs : List Value} {ns : List Int} {extra : List (Addr × Obj)}
    (B : Below callerA base [] base) (X : (hd.heap_39 w.params).In base) (T : Top hd.view_39 (looseW hd.view_39 []) mean mg mb base) (F : Fr base L s.heap m) (N : News base L s.heap (cells4 L oB oS oT oN extra)) (dT : oT.data = .cell none) (dN : oN.data = .cell (some (.ref ln)))
    (hl : ∀ h', (∀ b o, base.get? b = some o → h'.get? b = some o) → News base L h' extra → h'.IsList ln vs.toArray) (hi : IntsAre vs ns) (hn : ns.length ≤ 63) (hne : ns ≠ [])
    (K : ∀ h tk oT' lt its k, Fr base L h m → News base L h (cells4 L oB oS oT' oN [(lt, listOf its.toArray k)]) → oT'.data = .cell (some (.ref lt)) → Over L lt → IntsAre its ((List.range 24).map fun i => (toldN ns i : Int)) → LawFrom 2 w L fa cdv Q E { s with heap := h, toks := tk }) :
    LawFrom 1 w L fa cdv Q E s := by
  unfold LawFrom lawA lawEnv
  revert X
  k_fill
  intro X
  dsimp only [lawFn, PySem.Challenge.pw_bc0030_01]
  simp only [List.drop_zero, List.drop_succ_cons]
  walk1
  with_unfolding_all refine wpAny_Assign_Name ?_ (by rfl)
  with_unfolding_all refine' ListComp_any (x := [Str.ofString "k"]) F ?e1 ?e2 ?e3 ?e4 ?e5 ?_ (by intro _; rfl)
  case e1 => rfl
  case e2 => decide
  case e3 => rfl
  case e4 => decide
  case e5 => decide
  walk_at "mine steps"
  rename Fr _ _ _ _ => F1
  rename News _ _ _ _ => N1
  rename IsRange _ _ _ _ _ _ _ _ => R1
  with_unfolding_all refine iter_rangeI (n := 24) (fun k => (toldN ns k.toNat : Int)) rfl F1 N1 R1 rfl (by omega) ?turn ?fin
  case turn =>
    intro k2 tk0 own C oC D mC ys h tk E' hk0 hk1 hC hb F2 N2
    have hL := hl h F2.keep (fun p hp => N2 p (by
      refine .tail _ (.tail _ (List.mem_append_left _ ?_))
      exact .tail _ (.tail _ (.tail _ (.tail _ hp)))))
    have hp : 0 < ns.length := by
      cases ns with
      | nil => exact absurd rfl hne
      | cons _ _ => exact Nat.succ_pos _
    have hq0 : 0 ≤ k2.fdiv (ns.length : Int) := Int.fdiv_nonneg hk0 (by omega)
    have hq1 : k2.fdiv (ns.length : Int) ≤ 1000000 := by
      have h1 := fdiv_nat k2.toNat ns.length
      rw [Int.toNat_of_nonneg hk0] at h1
      rw [h1]
      have := Nat.div_le_self k2.toNat ns.length
      omega
    have hpw : (1024 : Int) ^ (k2.fdiv (ns.length : Int)).toNat ≠ 0 := Int.ne_of_gt (Int.pow_pos (by decide))
    have hln : ((ns.length : Int)) ≠ 0 := by omega
    clear F1 N1
    walk_at "mine steps"
    exact EltEnd.intro F2 N2 (told_val hk0)
  case fin =>
    intro h ys hy D h' tk F2 N2 ne lt
    clear F1 N1
    simp only [List.forall_mem_cons] at ne
    obtain ⟨n1, n2, n3, n4, _⟩ := ne
    have d1 := neN n1
    have d2 := neN n2
    have d3 := neN n3
    have d4 := neN n4
    clear n1 n2 n3 n4
    have N3 : News base L h' ((D, lst ys) :: (L + 1 + 1 + 1 + 1, oB) :: (L + 1 + 1 + 1, oS) :: (L + 1 + 1, oT) :: (L + 1, oN) :: []) := fun p hp => N2 p (by
      simp only [List.mem_cons, List.not_mem_nil, or_false] at hp ⊢
      rcases hp with h | h | h | h | h <;> simp [h])
    clear N2
    walk_at "mine steps"
    rename Fr _ _ _ _ => F9
    rename News _ _ _ _ => N9
    (with_reducible rename Obj.data _ = Data.cell _ => d9)
    refine K _ _ _ D ys ys.length F9 (fun p hp => N9 p ?_) d9 (lt _ (.head _)) (by simpa using hy)
    simp only [List.mem_cons, List.not_mem_nil, or_false] at hp ⊢
    rcases hp with h | h | h | h | h <;> simp [h]
end Mine
end

section
open PySem PySem.W PyProof.Rows
namespace Mine
open Rs
open PyProof.Rows.LCg (NsObj lst ns_obj lst_snoc)
local macro_rules | `(tactic| k_mem) => `(tactic| assumption)
local macro_rules | `(tactic| k_all) => `(tactic| (refine' ne_of_all (by assumption) ?_; omega))
local macro_rules | `(tactic| walk_at "mine go") => `(tactic| (first | (k_unfold; (try dsimp only)) | (k_end; wrow_close) | walk1))
local macro_rules | `(tactic| walk_at "mine stop") => `(tactic| ((fail_if_success (with_reducible show wpAny _ _ (execs _ _) _ _ _)); (fail_if_success (with_reducible show wpAny _ _ (eval (Expr.ListComp _ _ _ _) _) _ _ _)); (fail_if_success (with_reducible show wpAny _ _ (pyIter _) _ _ _)); (fail_if_success (with_reducible show wpAny _ _ (subscriptTail _ (Expr.Slice _ _ _ _) _ _) _ _ _))))
local macro_rules | `(tactic| walk_at "mine steps") => `(tactic| repeat' (walk_at "mine stop"; first | walk_at "mine go" | (dsimp only; walk_at "mine go")))
local macro_rules | `(tactic| walk_at "eval Name") => `(tactic| (k_here; k_dflt (refine' nameX_L ?F ?v ?_ ?a ?b; (case F => k_asm); (case a => rfl); (case b => rfl); (case v => assumption); k_whole)))
local macro_rules | `(tactic| walk_at "binaryOp Add ref ref") => `(tactic| (k_here; k_dflt (refine' addN ?F ?N ?hD ?hi ?hD2 ?hi2 ?hn ?_; (case F => k_asm); (case N => k_asm); (case hD => k_mem); (case hi => l_ints); (case hD2 => k_mem); (case hi2 => l_ints); (case hn => (try simp only [List.length_append, List.length_replicate, KBw.ints_length, List.length_map, List.length_range, List.length_take]); omega)); intro D' h' tk' its' k' F' N' hi' l1'; (try k_lt l1')))
local macro_rules | `(tactic| walk_at "binaryOp Mult ref int") => `(tactic| (k_here; k_dflt (refine' mulN0 ?F ?N ?hD ?h0 ?hx ?_; (case F => k_asm); (case N => k_asm); (case hD => k_mem); (case h0 => first | decide | omega); (case hx => first | decide | omega)); intro D' h' tk' its' k' F' N' hi' l1'; (try k_lt l1')))
local macro_rules | `(tactic| walk_at "subscriptTail Name Constant ref int") => `(tactic| (k_here; k_dflt (refine' told_item ?N ?hD ?hi ?h0 ?h1 ?_ ?hs ?hg; (case N => k_asm); (case hD => k_mem); (case hi => assumption); (case h0 => decide); (case h1 => decide); (case hs => with_unfolding_all rfl); (case hg => intro _; with_unfolding_all rfl)); intro _))
local macro_rules | `(tactic| walk_at "subscriptTail Name BinOp ref int") => `(tactic| (k_here; k_dflt (refine' told_item ?N ?hD ?hi ?h0 ?h1 ?_ ?hs ?hg; (case N => k_asm); (case hD => k_mem); (case hi => assumption); (case h0 => omega); (case h1 => omega); (case hs => with_unfolding_all rfl); (case hg => intro _; with_unfolding_all rfl)); intro _))

theorem piece2 {w : World} {mean : ExcName → Option Value} {mg mb : Str → Option Value} {base : Heap} {L fa : Addr} {cdv : Value} {Q : Flow → Shared → Prop} {E : Value → Shared → Prop} {s : Shared} {m : Str → Option Value} {oB oS oT oN : Obj} {lt : Addr} {its : List Value} {k : Nat} {t : Nat → Nat}
    (B : Below callerA base [] base) (X : (hd.heap_39 w.params).In base) (T : Top hd.view_39 (looseW hd.view_39 []) mean mg mb base) (F : Fr base L s.heap m) (N : News base L s.heap (cells4 L oB oS oT oN [(lt, listOf its.toArray k)])) (dT : oT.data = .cell (some (.ref lt))) (dS : oS.data = .cell none)
    (hi : IntsAre its ((List.range 24).map fun i => (t i : Int)))
    (hlt : Over L lt)
    (K : ∀ h tk oS' bs tb, Fr base L h m → News base L h (cells4 L oB oS' oT oN [(lt, listOf its.toArray k)]) → oS'.data = .cell (some (.bytes bs tb)) → KBw.bInts bs = (List.range (t 3 % 4)).map (fun i => ((t i % 256 : Nat) : Int)) → bs.size = t 3 % 4 → LawFrom 3 w L fa cdv Q E { s with heap := h, toks := tk }) :
    LawFrom 2 w L fa cdv Q E s := by
  unfold LawFrom lawA lawEnv
  revert X
  k_fill
  intro X
  dsimp only [lawFn, PySem.Challenge.pw_bc0030_01]
  simp only [List.drop_zero, List.drop_succ_cons]
  walk1
  walk_at "mine steps"
  with_unfolding_all refine' ListComp_any (x := [Str.ofString "number"]) F ?e1 ?e2 ?e3 ?e4 ?e5 ?_ (by intro _; rfl)
  case e1 => rfl
  case e2 => decide
  case e3 => rfl
  case e4 => decide
  case e5 => decide
  walk_at "mine steps"
  with_unfolding_all refine' slice_toN (s := ⟨_, _, _, _, _⟩) (fmod_nat (t 3) 4) F N ?d1 hi ?d2 ?_ ?d3 ?d4
  case d1 => k_mem
  case d2 => simp
  case d3 => rfl
  case d4 => intro _; rfl
  intro D1 h1 tk1 its1 k1 F1 N1 hi1 l1
  have hb4 : t 3 % 4 < 4 := Nat.mod_lt _ (by decide)
  have e1 : (List.map (fun i => (t i : Int)) (List.range 24)).take (t 3 % 4) = (List.range (t 3 % 4)).map fun i => (t i : Int) := by
    rw [← List.map_take, List.take_range, Nat.min_eq_left (by omega)]
  rw [e1] at hi1
  with_unfolding_all refine iter_listI (fun a => a.fmod 256) rfl F1 N1 (.head _) hi1 ?len ?turn ?fin
  case len => simp; omega
  case turn =>
    intro a ta own C oC D mC ys h tk E' ha hC hb F2 N2
    clear F1 N1 F N
    walk_at "mine steps"
    exact EltEnd.intro F2 N2 rfl
  case fin =>
    intro h ys hy D h' tk F2 N2 ne lt2
    clear F1 N1 F N
    walk_at "mine steps"
    have e2 : ((List.range (t 3 % 4)).map fun i => (t i : Int)).map (fun a => a.fmod 256) = (List.range (t 3 % 4)).map fun i => ((t i % 256 : Nat) : Int) := by
      rw [List.map_map]
      refine List.map_congr_left fun i _ => ?_
      exact fmod_nat (t i) 256
    rw [e2] at hy
    with_unfolding_all refine bytesN rfl F2 N2 (.head _) hy ?r1 ?r2 ?_
    case r1 =>
      intro n hn
      obtain ⟨i, _, rfl⟩ := List.mem_map.mp hn
      have := Nat.mod_lt (t i) (show 0 < 256 by decide)
      omega
    case r2 => simp; omega
    intro bs h3 tb tk3 F3 N3 hbs hsz
    have N4 : News base L h3 ((L + 1 + 1 + 1 + 1, oB) :: (L + 1 + 1 + 1, oS) :: (L + 1 + 1, oT) :: (L + 1, oN) :: [(lt, listOf its.toArray k)]) := fun p hp => N3 p (by
      simp only [List.mem_cons, List.not_mem_nil, or_false] at hp ⊢
      rcases hp with h | h | h | h | h <;> simp [h])
    have l0 : L + 1 + 1 + 1 + 1 < lt := hlt
    clear N3 F2 N2
    walk_at "mine steps"
    rename Fr _ _ _ _ => F9
    rename News _ _ _ _ => N9
    (with_reducible rename Obj.data _ = Data.cell _ => d9)
    exact K _ _ _ bs tb F9 N9 d9 hbs (by simpa using hsz)
end Mine
end

section
open PySem PySem.W PyProof.Rows
namespace Mine
open Rs
open PyProof.Rows.LCg (NsObj lst ns_obj lst_snoc)
local macro_rules | `(tactic| k_mem) => `(tactic| assumption)
local macro_rules | `(tactic| k_all) => `(tactic| (refine' ne_of_all (by assumption) ?_; omega))
local macro_rules | `(tactic| walk_at "mine go") => `(tactic| (first | (k_unfold; (try dsimp only)) | (k_end; wrow_close) | walk1))
local macro_rules | `(tactic| walk_at "mine stop") => `(tactic| ((fail_if_success (with_reducible show wpAny _ _ (execs _ _) _ _ _)); (fail_if_success (with_reducible show wpAny _ _ (eval (Expr.ListComp _ _ _ _) _) _ _ _)); (fail_if_success (with_reducible show wpAny _ _ (pyIter _) _ _ _)); (fail_if_success (with_reducible show wpAny _ _ (subscriptTail _ (Expr.Slice _ _ _ _) _ _) _ _ _))))
local macro_rules | `(tactic| walk_at "mine steps") => `(tactic| repeat' (walk_at "mine stop"; first | walk_at "mine go" | (dsimp only; walk_at "mine go")))
local macro_rules | `(tactic| walk_at "eval Name") => `(tactic| (k_here; k_dflt (refine' nameX_L ?F ?v ?_ ?a ?b; (case F => k_asm); (case a => rfl); (case b => rfl); (case v => assumption); k_whole)))
local macro_rules | `(tactic| walk_at "binaryOp Add ref ref") => `(tactic| (k_here; k_dflt (refine' addN ?F ?N ?hD ?hi ?hD2 ?hi2 ?hn ?_; (case F => k_asm); (case N => k_asm); (case hD => k_mem); (case hi => l_ints); (case hD2 => k_mem); (case hi2 => l_ints); (case hn => (try simp only [List.length_append, List.length_replicate, KBw.ints_length, List.length_map, List.length_range, List.length_take]); omega)); intro D' h' tk' its' k' F' N' hi' l1'; (try k_lt l1')))
local macro_rules | `(tactic| walk_at "binaryOp Mult ref int") => `(tactic| (k_here; k_dflt (refine' mulN0 ?F ?N ?hD ?h0 ?hx ?_; (case F => k_asm); (case N => k_asm); (case hD => k_mem); (case h0 => first | decide | omega); (case hx => first | decide | omega)); intro D' h' tk' its' k' F' N' hi' l1'; (try k_lt l1')))
local macro_rules | `(tactic| walk_at "subscriptTail Name Constant ref int") => `(tactic| (k_here; k_dflt (refine' told_item ?N ?hD ?hi ?h0 ?h1 ?_ ?hs ?hg; (case N => k_asm); (case hD => k_mem); (case hi => assumption); (case h0 => decide); (case h1 => decide); (case hs => with_unfolding_all rfl); (case hg => intro _; with_unfolding_all rfl)); intro _))
local macro_rules | `(tactic| walk_at "subscriptTail Name BinOp ref int") => `(tactic| (k_here; k_dflt (refine' told_item ?N ?hD ?hi ?h0 ?h1 ?_ ?hs ?hg; (case N => k_asm); (case hD => k_mem); (case hi => assumption); (case h0 => omega); (case h1 => omega); (case hs => with_unfolding_all rfl); (case hg => intro _; with_unfolding_all rfl)); intro _))
local macro_rules | `(tactic| walk_at "binaryOp Mod int int") => `(tactic| (refine mod_int' (by assumption) ?_))

abbrev ofN (xs : List Nat) : List Int := xs.map fun (n : Nat) => (n : Int)
def szN (t : Nat → Nat) : Nat := 2 + t 4 % 8
def alN (t : Nat → Nat) : Nat := t 5 % szN t
def oneN (t : Nat → Nat) : List Nat := (List.range (szN t)).map fun k => t (6 + k) % 1024
def tailN (t : Nat → Nat) : List Nat := (List.range (szN t - alN t)).map fun k => (t (15 + k) + 5) % 1024
def otherN (t : Nat → Nat) : List Nat := (oneN t).take (alN t) ++ tailN t
theorem sz_lt (t : Nat → Nat) : szN t < 10 := by
  have := Nat.mod_lt (t 4) (show 0 < 8 by decide)
  unfold szN; omega
theorem sz_pos (t : Nat → Nat) : 2 ≤ szN t := by unfold szN; omega
theorem al_lt (t : Nat → Nat) : alN t < szN t := Nat.mod_lt _ (by have := sz_pos t; omega)

abbrev Base1 (base : Heap) (L : Addr) (h : Heap) (oB oS oT oN : Obj) (lt : Addr) (its : List Value) (k : Nat) (r : List (Addr × Obj)) : Prop :=
  News base L h (cells4 L oB oS oT oN ((lt, listOf its.toArray k) :: r))

theorem piece3 {w : World} {mean : ExcName → Option Value} {mg mb : Str → Option Value} {base : Heap} {L fa : Addr} {cdv : Value} {Q : Flow → Shared → Prop} {E : Value → Shared → Prop} {s : Shared} {m : Str → Option Value} {oB oS oT oN : Obj} {lt : Addr} {its : List Value} {k : Nat} {t : Nat → Nat}
    (B : Below callerA base [] base) (X : (hd.heap_39 w.params).In base) (T : Top hd.view_39 (looseW hd.view_39 []) mean mg mb base) (F : Fr base L s.heap m) (N : Base1 base L s.heap oB oS oT oN lt its k []) (dT : oT.data = .cell (some (.ref lt)))
    (hi : IntsAre its ((List.range 24).map fun i => (t i : Int)))
    (K : ∀ h tk t1 t2, Fr base L h (fun y => if y = Str.ofString "alike" then some (.int (alN t : Int) t2) else if y = Str.ofString "size" then some (.int (szN t : Int) t1) else m y) → Base1 base L h oB oS oT oN lt its k [] → LawFrom 5 w L fa cdv Q E { s with heap := h, toks := tk }) :
    LawFrom 3 w L fa cdv Q E s := by
  unfold LawFrom lawA lawEnv
  revert X
  k_fill
  intro X
  dsimp only [lawFn, PySem.Challenge.pw_bc0030_01]
  simp only [List.drop_zero, List.drop_succ_cons]
  walk1
  walk_at "mine steps"
  walk1
  have hsz0 : (2 + (t (Int.toNat 4) : Int).fmod 8) ≠ 0 := by
    have h8 : (t (Int.toNat 4) : Int).fmod 8 = ((t 4 % 8 : Nat) : Int) := fmod_nat (t 4) 8
    omega
  walk_at "mine steps"
  rename Fr _ _ _ _ => F9
  rename News _ _ _ _ => N9
  have e1 : (2 + (t (Int.toNat 4) : Int).fmod 8) = (szN t : Int) := by
    have h8 : (t (Int.toNat 4) : Int).fmod 8 = ((t 4 % 8 : Nat) : Int) := fmod_nat (t 4) 8
    unfold szN
    omega
  have e2 : (t (Int.toNat 5) : Int).fmod (2 + (t (Int.toNat 4) : Int).fmod 8) = (alN t : Int) := by
    rw [e1, fmod_nat]; rfl
  rw [e2, e1] at F9
  exact K _ _ _ _ F9 N9
end Mine
end

section
open PySem PySem.W PyProof.Rows
namespace Mine
open Rs
open PyProof.Rows.LCg (NsObj lst ns_obj lst_snoc)
local macro_rules | `(tactic| k_mem) => `(tactic| assumption)
local macro_rules | `(tactic| k_all) => `(tactic| (refine' ne_of_all (by assumption) ?_; omega))
local macro_rules | `(tactic| walk_at "mine go") => `(tactic| (first | (k_unfold; (try dsimp only)) | (k_end; wrow_close) | walk1))
local macro_rules | `(tactic| walk_at "mine stop") => `(tactic| ((fail_if_success (with_reducible show wpAny _ _ (execs _ _) _ _ _)); (fail_if_success (with_reducible show wpAny _ _ (eval (Expr.ListComp _ _ _ _) _) _ _ _)); (fail_if_success (with_reducible show wpAny _ _ (pyIter _) _ _ _)); (fail_if_success (with_reducible show wpAny _ _ (binaryOp Operator.Add (Value.ref _) (Value.ref _)) _ _ _)); (fail_if_success (with_reducible show wpAny _ _ (subscriptTail _ (Expr.Slice _ _ _ _) _ _) _ _ _))))
local macro_rules | `(tactic| walk_at "mine steps") => `(tactic| repeat' (walk_at "mine stop"; first | walk_at "mine go" | (dsimp only; walk_at "mine go")))
local macro_rules | `(tactic| walk_at "eval Name") => `(tactic| (k_here; k_dflt (refine' nameX_L ?F ?v ?_ ?a ?b; (case F => k_asm); (case a => rfl); (case b => rfl); (case v => assumption); k_whole)))
local macro_rules | `(tactic| walk_at "binaryOp Add ref ref") => `(tactic| (k_here; k_dflt (refine' addN ?F ?N ?hD ?hi ?hD2 ?hi2 ?hn ?_; (case F => k_asm); (case N => k_asm); (case hD => k_mem); (case hi => l_ints); (case hD2 => k_mem); (case hi2 => l_ints); (case hn => (try simp only [List.length_append, List.length_replicate, KBw.ints_length, List.length_map, List.length_range, List.length_take]); omega)); intro D' h' tk' its' k' F' N' hi' l1'; (try k_lt l1')))
local macro_rules | `(tactic| walk_at "binaryOp Mult ref int") => `(tactic| (k_here; k_dflt (refine' mulN0 ?F ?N ?hD ?h0 ?hx ?_; (case F => k_asm); (case N => k_asm); (case hD => k_mem); (case h0 => first | decide | omega); (case hx => first | decide | omega)); intro D' h' tk' its' k' F' N' hi' l1'; (try k_lt l1')))
local macro_rules | `(tactic| walk_at "subscriptTail Name Constant ref int") => `(tactic| (k_here; k_dflt (refine' told_item ?N ?hD ?hi ?h0 ?h1 ?_ ?hs ?hg; (case N => k_asm); (case hD => k_mem); (case hi => assumption); (case h0 => decide); (case h1 => decide); (case hs => with_unfolding_all rfl); (case hg => intro _; with_unfolding_all rfl)); intro _))
local macro_rules | `(tactic| walk_at "subscriptTail Name BinOp ref int") => `(tactic| (k_here; k_dflt (refine' told_item ?N ?hD ?hi ?h0 ?h1 ?_ ?hs ?hg; (case N => k_asm); (case hD => k_mem); (case hi => assumption); (case h0 => omega); (case h1 => omega); (case hs => with_unfolding_all rfl); (case hg => intro _; with_unfolding_all rfl)); intro _))
local macro_rules | `(tactic| walk_at "binaryOp Mod int int") => `(tactic| (refine mod_int' (by assumption) ?_))
local macro_rules | `(tactic| walk_at "call ref") => `(tactic| (k_here; k_dflt ((refine' create_call _ _ _ _ _ _ _ _ _ _ _ _ _ _ _ _ _ _ _ _ _ _ _ _ ?B ?F ?X ?N ?T ?hk ?hm ?hi ?hl ?hb ?hd ?hu ?hr; (case B => k_asm); (case F => k_asm); (case X => k_asm); (case N => k_asm); (case T => k_asm); (case hk => first | exact rfl | assumption); (case hm => k_mem); (case hi => assumption); (case hl => assumption); (case hb => assumption); (case hd => ktr_room); (case hu => ktr_units))); intro D' h' tk' its' k' F' N' hi' l1'))
local macro_rules | `(tactic| walk_at "call ref") => `(tactic| (k_here; k_dflt ((refine' verify_call _ _ _ _ _ _ _ _ _ _ _ _ _ _ _ _ _ _ _ _ _ _ _ _ ?B ?F ?X ?N ?T ?hk ?hm ?hi ?hl ?hb ?hd ?hu ?hr; (case B => k_asm); (case F => k_asm); (case X => k_asm); (case N => k_asm); (case T => k_asm); (case hk => first | exact rfl | assumption); (case hm => k_mem); (case hi => assumption); (case hl => assumption); (case hb => assumption); (case hd => ktr_room); (case hu => ktr_units))); intro h' tk' F' N'))
local macro_rules | `(tactic| walk_at "call type:zip") => `(tactic| (k_here; k_dflt (refine' zip2N ?hh ?F ?N ?h1 ?h2 ?_; (case hh => exact rfl); (case F => k_asm); (case N => k_asm); (case h1 => k_mem); (case h2 => k_mem)); intro z' h' F' N' R'))

theorem piece5 {w : World} {mean : ExcName → Option Value} {mg mb : Str → Option Value} {base : Heap} {L fa : Addr} {cdv : Value} {Q : Flow → Shared → Prop} {E : Value → Shared → Prop} {s : Shared} {m : Str → Option Value} {oB oS oT oN : Obj} {lt : Addr} {its : List Value} {k : Nat} {t : Nat → Nat}
    (B : Below callerA base [] base) (X : (hd.heap_39 w.params).In base) (T : Top hd.view_39 (looseW hd.view_39 []) mean mg mb base) (F : Fr base L s.heap m) {tz : Tok} (N : Base1 base L s.heap oB oS oT oN lt its k []) (dT : oT.data = .cell (some (.ref lt)))
    (hi : IntsAre its ((List.range 24).map fun i => (t i : Int))) (hsz : m (Str.ofString "size") = some (.int (szN t : Int) tz))
    (K : ∀ h tk D i1 k1, Fr base L h (fun z => if z = Str.ofString "one" then some (.ref D) else m z) → Base1 base L h oB oS oT oN lt its k [(D, listOf i1.toArray k1)] → Over L D → IntsAre i1 (ofN (oneN t)) → LawFrom 6 w L fa cdv Q E { s with heap := h, toks := tk }) :
    LawFrom 5 w L fa cdv Q E s := by
  unfold LawFrom lawA lawEnv
  revert X
  k_fill
  intro X
  dsimp only [lawFn, PySem.Challenge.pw_bc0030_01]
  simp only [List.drop_zero, List.drop_succ_cons]
  walk1
  with_unfolding_all refine' Assign_ListComp_any (x := [Str.ofString "k"]) F ?e0 ?e00 ?e1 ?e2 ?e3 ?e4 ?e5 ?e6 ?e7 ?_ (by intro _; rfl)
  case e0 => rfl
  case e00 => rfl
  case e1 => rfl
  case e2 => decide
  case e3 => rfl
  case e4 => decide
  case e5 => decide
  case e6 => rfl
  case e7 => rfl
  walk_at "mine steps"
  rename Fr _ _ _ _ => F1
  rename News _ _ _ _ => N1
  rename IsRange _ _ _ _ _ _ _ _ => R1
  have s1 := sz_lt t
  with_unfolding_all refine iter_rangeI (n := szN t) (fun k => ((t (6 + k).toNat % 1024 : Nat) : Int)) rfl F1 N1 R1 rfl (by omega) ?turn ?fin
  case turn =>
    intro k2 tk0 own C oC D mC ys h tk E' hk0 hk1 hC hb F2 N2
    clear F1 N1
    walk_at "mine steps"
    exact EltEnd.intro F2 N2 (fmod_nat _ 1024)
  case fin =>
    intro h ys hy D h' tk F2 N2 ne lt2
    have e : (List.range (szN t)).map (fun (i : Nat) => ((t (6 + (i : Int)).toNat % 1024 : Nat) : Int)) = ofN (oneN t) := by
      unfold oneN ofN
      rw [List.map_map]
      refine List.map_congr_left fun i _ => ?_
      have : (6 + (i : Int)).toNat = 6 + i := by omega
      rw [this]; rfl
    rw [e] at hy
    exact K _ _ D ys ys.length F2 (fun p hp => N2 p (by
      simp only [List.mem_cons, List.not_mem_nil, or_false] at hp ⊢
      rcases hp with h | h | h | h | h | h <;> simp [h])) (lt2 _ (.head _)) hy

theorem piece6 {w : World} {mean : ExcName → Option Value} {mg mb : Str → Option Value} {base : Heap} {L fa : Addr} {cdv : Value} {Q : Flow → Shared → Prop} {E : Value → Shared → Prop} {s : Shared} {m : Str → Option Value} {oB oS oT oN : Obj} {lt : Addr} {its : List Value} {k : Nat} {t : Nat → Nat}
    (B : Below callerA base [] base) (X : (hd.heap_39 w.params).In base) (T : Top hd.view_39 (looseW hd.view_39 []) mean mg mb base) (F : Fr base L s.heap m) {tz ta : Tok} {l1 : Addr} {i1 : List Value} {k1 : Nat} (N : Base1 base L s.heap oB oS oT oN lt its k [(l1, listOf i1.toArray k1)]) (dT : oT.data = .cell (some (.ref lt)))
    (hi : IntsAre its ((List.range 24).map fun i => (t i : Int))) (hsz : m (Str.ofString "size") = some (.int (szN t : Int) tz)) (hal : m (Str.ofString "alike") = some (.int (alN t : Int) ta)) (hone : m (Str.ofString "one") = some (.ref l1)) (hi1 : IntsAre i1 (ofN (oneN t)))
    (K : ∀ h tk D i2 k2, Fr base L h (fun z => if z = Str.ofString "other" then some (.ref D) else m z) → Base1 base L h oB oS oT oN lt its k [(l1, listOf i1.toArray k1), (D, listOf i2.toArray k2)] → Over L D → @LT.lt Nat _ l1 D → IntsAre i2 (ofN (otherN t)) → LawFrom 7 w L fa cdv Q E { s with heap := h, toks := tk }) :
    LawFrom 6 w L fa cdv Q E s := by
  unfold LawFrom lawA lawEnv
  revert X
  k_fill
  intro X
  dsimp only [lawFn, PySem.Challenge.pw_bc0030_01]
  simp only [List.drop_zero, List.drop_succ_cons]
  walk1
  walk_at "mine steps"
  have s1 := sz_lt t
  have s2 := al_lt t
  have hlen : (ofN (oneN t)).length ≤ 1000 := by simp [oneN]; omega
  with_unfolding_all refine' slice_toN (s := ⟨_, _, _, _, _⟩) (b := alN t) rfl F N ?d1 hi1 hlen ?_ ?d3 ?d4
  case d1 => exact .tail _ (.tail _ (.tail _ (.tail _ (.tail _ (.head _)))))
  case d3 => rfl
  case d4 => intro _; rfl
  intro D1 h1 tk1 its1 k1' F1 N1 hi11 l11
  have keep : IntsAre its1 ((ofN (oneN t)).take (alN t)) ∧ True := ⟨hi11, trivial⟩
  walk_at "mine steps"
  with_unfolding_all refine' ListComp_any (x := [Str.ofString "k"]) F1 ?e1 ?e2 ?e3 ?e4 ?e5 ?_ (by intro _; rfl)
  case e1 => rfl
  case e2 => decide
  case e3 => rfl
  case e4 => decide
  case e5 => decide
  walk_at "mine steps"
  rename Fr _ _ _ _ => F3
  rename News _ _ _ _ => N3
  rename IsRange _ _ _ _ _ _ _ _ => R1
  with_unfolding_all refine iter_rangeI (n := szN t - alN t) (fun k => (((t (15 + k).toNat + 5) % 1024 : Nat) : Int)) rfl F3 N3 R1 (by omega) (by omega) ?turn ?fin
  case turn =>
    intro k2 tk0 own C oC D mC ys h tk E' hk0 hk1 hC hb F2 N2
    clear F3 N3 F N
    walk_at "mine steps"
    exact EltEnd.intro F2 N2 (fmod_nat (t (15 + k2).toNat + 5) 1024)
  case fin =>
    intro h ys hy D h' tk F2 N2 ne lt2
    have e : (List.range (szN t - alN t)).map (fun (i : Nat) => (((t (15 + (i : Int)).toNat + 5) % 1024 : Nat) : Int)) = ofN (tailN t) := by
      unfold tailN ofN
      rw [List.map_map]
      refine List.map_congr_left fun i _ => ?_
      have : (15 + (i : Int)).toNat = 15 + i := by omega
      rw [this]; rfl
    rw [e] at hy
    have hl1 : ((ofN (oneN t)).take (alN t)).length ≤ 100 := by
      simp [oneN]; omega
    have hl2 : (ofN (tailN t)).length ≤ 100 := by simp [tailN]; omega
    clear F3 N3 F N
    with_unfolding_all refine addN F2 N2 (.tail _ (.head _)) keep.1 (.head _) hy (by omega) ?_
    intro D4 h4 tk4 its4 k4 F4 N4 hi4 l4
    have N5 : Base1 base L h4 oB oS oT oN lt its k [(l1, listOf i1.toArray k1), (D4, listOf its4.toArray k4)] := fun p hp => N4 p (by
      simp only [List.mem_cons, List.not_mem_nil, or_false] at hp ⊢
      rcases hp with h | h | h | h | h | h | h <;> simp [h])
    have o4 : Over L D4 := l4 _ (.tail _ (.tail _ (.head _)))
    have lt14 : @LT.lt Nat _ l1 D4 := l4 (l1, listOf i1.toArray k1) (by simp)
    clear N4 F2 N2
    walk_at "mine steps"
    rename Fr _ _ _ _ => F9
    rename News _ _ _ _ => N9
    refine K _ _ D4 its4 k4 F9 N9 o4 lt14 ?_
    have e2 : (ofN (oneN t)).take (alN t) ++ ofN (tailN t) = ofN (otherN t) := by
      unfold otherN ofN
      rw [List.map_append, List.map_take]
    rw [← e2]; exact hi4
end Mine
end

section
open PySem PySem.W PyProof.Rows
namespace Mine
open Rs
open PyProof.Rows.LCg (NsObj lst ns_obj lst_snoc)
local macro_rules | `(tactic| k_mem) => `(tactic| assumption)
local macro_rules | `(tactic| k_all) => `(tactic| (refine' ne_of_all (by assumption) ?_; omega))
local macro_rules | `(tactic| walk_at "mine go") => `(tactic| (first | (k_unfold; (try dsimp only)) | (k_end; wrow_close) | walk1))
local macro_rules | `(tactic| walk_at "mine stop") => `(tactic| ((fail_if_success (with_reducible show wpAny _ _ (execs _ _) _ _ _)); (fail_if_success (with_reducible show wpAny _ _ (eval (Expr.ListComp _ _ _ _) _) _ _ _)); (fail_if_success (with_reducible show wpAny _ _ (pyIter _) _ _ _)); (fail_if_success (with_reducible show wpAny _ _ (binaryOp Operator.Add (Value.ref _) (Value.ref _)) _ _ _)); (fail_if_success (with_reducible show wpAny _ _ (subscriptTail _ (Expr.Slice _ _ _ _) _ _) _ _ _))))
local macro_rules | `(tactic| walk_at "mine steps") => `(tactic| repeat' (walk_at "mine stop"; first | walk_at "mine go" | (dsimp only; walk_at "mine go")))
local macro_rules | `(tactic| walk_at "eval Name") => `(tactic| (k_here; k_dflt (refine' nameX_L ?F ?v ?_ ?a ?b; (case F => k_asm); (case a => rfl); (case b => rfl); (case v => assumption); k_whole)))
local macro_rules | `(tactic| walk_at "binaryOp Add ref ref") => `(tactic| (k_here; k_dflt (refine' addN ?F ?N ?hD ?hi ?hD2 ?hi2 ?hn ?_; (case F => k_asm); (case N => k_asm); (case hD => k_mem); (case hi => l_ints); (case hD2 => k_mem); (case hi2 => l_ints); (case hn => (try simp only [List.length_append, List.length_replicate, KBw.ints_length, List.length_map, List.length_range, List.length_take]); omega)); intro D' h' tk' its' k' F' N' hi' l1'; (try k_lt l1')))
local macro_rules | `(tactic| walk_at "binaryOp Mult ref int") => `(tactic| (k_here; k_dflt (refine' mulN0 ?F ?N ?hD ?h0 ?hx ?_; (case F => k_asm); (case N => k_asm); (case hD => k_mem); (case h0 => first | decide | omega); (case hx => first | decide | omega)); intro D' h' tk' its' k' F' N' hi' l1'; (try k_lt l1')))
local macro_rules | `(tactic| walk_at "subscriptTail Name Constant ref int") => `(tactic| (k_here; k_dflt (refine' told_item ?N ?hD ?hi ?h0 ?h1 ?_ ?hs ?hg; (case N => k_asm); (case hD => k_mem); (case hi => assumption); (case h0 => decide); (case h1 => decide); (case hs => with_unfolding_all rfl); (case hg => intro _; with_unfolding_all rfl)); intro _))
local macro_rules | `(tactic| walk_at "subscriptTail Name BinOp ref int") => `(tactic| (k_here; k_dflt (refine' told_item ?N ?hD ?hi ?h0 ?h1 ?_ ?hs ?hg; (case N => k_asm); (case hD => k_mem); (case hi => assumption); (case h0 => omega); (case h1 => omega); (case hs => with_unfolding_all rfl); (case hg => intro _; with_unfolding_all rfl)); intro _))
local macro_rules | `(tactic| walk_at "binaryOp Mod int int") => `(tactic| (refine mod_int' (by assumption) ?_))
local macro_rules | `(tactic| walk_at "call ref") => `(tactic| (k_here; k_dflt ((refine' create_call _ _ _ _ _ _ _ _ _ _ _ _ _ _ _ _ _ _ _ _ _ _ _ _ ?B ?F ?X ?N ?T ?hk ?hm ?hi ?hl ?hb ?hd ?hu ?hr; (case B => k_asm); (case F => k_asm); (case X => k_asm); (case N => k_asm); (case T => k_asm); (case hk => first | exact rfl | assumption); (case hm => k_mem); (case hi => assumption); (case hl => assumption); (case hb => assumption); (case hd => ktr_room); (case hu => ktr_units))); intro D' h' tk' its' k' F' N' hi' l1'))
local macro_rules | `(tactic| walk_at "call ref") => `(tactic| (k_here; k_dflt ((refine' verify_call _ _ _ _ _ _ _ _ _ _ _ _ _ _ _ _ _ _ _ _ _ _ _ _ ?B ?F ?X ?N ?T ?hk ?hm ?hi ?hl ?hb ?hd ?hu ?hr; (case B => k_asm); (case F => k_asm); (case X => k_asm); (case N => k_asm); (case T => k_asm); (case hk => first | exact rfl | assumption); (case hm => k_mem); (case hi => assumption); (case hl => assumption); (case hb => assumption); (case hd => ktr_room); (case hu => ktr_units))); intro h' tk' F' N'))

def strN (t : Nat → Nat) : List Nat := (List.range (t 3 % 4)).map fun i => t i % 256
theorem one_len (t : Nat → Nat) : (oneN t).length = szN t := by simp [oneN]
theorem other_len (t : Nat → Nat) : (otherN t).length = szN t := by
  have := al_lt t
  simp [otherN, tailN, oneN]
  omega
def rowI (t : Nat → Nat) (xs : List Nat) : List Int := ofN xs ++ ckI (ofN (strN t)) (ofN xs)
theorem ofN_len (xs : List Nat) : (ofN xs).length = xs.length := by simp

theorem piece7 {w : World} {mean : ExcName → Option Value} {mg mb : Str → Option Value} {base : Heap} {L fa : Addr} {cdv : Value} {Q : Flow → Shared → Prop} {E : Value → Shared → Prop} {s : Shared} {m : Str → Option Value} {oB oS oT oN : Obj} {lt : Addr} {its : List Value} {k : Nat} {t : Nat → Nat}
    (B : Below callerA base [] base) (X : (hd.heap_39 w.params).In base) (T : Top hd.view_39 (looseW hd.view_39 []) mean mg mb base) (F : Fr base L s.heap m) {l1 l2 : Addr} {i1 i2 : List Value} {k1 k2 : Nat} {bs : Array UInt8} {tb : Tok} (N : Base1 base L s.heap oB oS oT oN lt its k [(l1, listOf i1.toArray k1), (l2, listOf i2.toArray k2)]) (dS : oS.data = .cell (some (.bytes bs tb))) (hbs : KBw.bInts bs = ofN (strN t)) (hbz : bs.size ≤ 10)
    (hone : m (Str.ofString "one") = some (.ref l1)) (hother : m (Str.ofString "other") = some (.ref l2)) (hi1 : IntsAre i1 (ofN (oneN t))) (hi2 : IntsAre i2 (ofN (otherN t))) (hne : @LT.lt Nat _ l1 l2)
    (K : ∀ h tk D3 i3 k3 D4 i4 k4, Fr base L h (fun z => if z = Str.ofString "second" then some (.ref D4) else if z = Str.ofString "first" then some (.ref D3) else m z) → Base1 base L h oB oS oT oN lt its k [(l1, listOf i1.toArray k1), (l2, listOf i2.toArray k2), (D3, listOf i3.toArray k3), (D4, listOf i4.toArray k4)] → Over L D3 → Over L D4 →
      IntsAre i3 (rowI t (oneN t)) → IntsAre i4 (rowI t (otherN t)) → LawFrom 8 w L fa cdv Q E { s with heap := h, toks := tk }) :
    LawFrom 7 w L fa cdv Q E s := by
  unfold LawFrom lawA lawEnv
  revert X
  k_fill
  intro X
  dsimp only [lawFn, PySem.Challenge.pw_bc0030_01]
  simp only [List.drop_zero, List.drop_succ_cons]
  walk1
  walk_at "mine steps"
  with_unfolding_all refine' ListComp_any (x := [Str.ofString "row"]) F ?e1 ?e2 ?e3 ?e4 ?e5 ?_ (by intro _; rfl)
  case e1 => rfl
  case e2 => decide
  case e3 => rfl
  case e4 => decide
  case e5 => decide
  walk_at "mine steps"
  rename Fr _ _ _ _ => F3
  rename News _ _ _ _ => N3
  have s1 := sz_lt t
  have hx1 : (ofN (oneN t)).length ≤ 100 := by rw [ofN_len, one_len]; omega
  have hx2 : (ofN (otherN t)).length ≤ 100 := by rw [ofN_len, other_len]; omega
  with_unfolding_all refine iter_two (fun lr => if lr = l1 then rowI t (oneN t) else rowI t (otherN t)) rfl F3 N3 (.head _) rfl ?turn ?fin
  case turn =>
    intro lr news1 own C oC D mC ys h tk E' hlr hsub hC hb F2 N2
    have hS : ((L + 1 + 1 + 1, oS) : Addr × Obj) ∈ (C, oC) :: (D, lst ys) :: (news1 ++ own) := .tail _ (.tail _ (List.mem_append_left _ (hsub _ (by
      exact .tail _ (.tail _ (.head _))))))
    obtain ⟨xs, ir, kr, hm, hir, hlen, hres⟩ : ∃ (xs : List Nat) (ir : List Value) (kr : Nat), (lr, listOf ir.toArray kr) ∈ (C, oC) :: (D, lst ys) :: (news1 ++ own) ∧ IntsAre ir (ofN xs) ∧ (ofN xs).length ≤ 100 ∧ (if lr = l1 then rowI t (oneN t) else rowI t (otherN t)) = rowI t xs := by
      rcases hlr with rfl | rfl
      · exact ⟨oneN t, i1, k1, .tail _ (.tail _ (List.mem_append_left _ (hsub _ (by
          exact .tail _ (.tail _ (.tail _ (.tail _ (.tail _ (.tail _ (.head _)))))))))), hi1, hx1, if_pos rfl⟩
      · exact ⟨otherN t, i2, k2, .tail _ (.tail _ (List.mem_append_left _ (hsub _ (by
          exact .tail _ (.tail _ (.tail _ (.tail _ (.tail _ (.tail _ (.tail _ (.head _))))))))))), hi2, hx2, if_neg (Nat.ne_of_gt hne)⟩
    rw [hres]
    clear F3 N3 hsub hlr
    walk_at "mine steps"
    rename Fr _ _ _ _ => F5
    rename News _ _ _ _ => N5
    rename IntsAre _ (ckI _ _) => hi5
    rename ∀ p ∈ _, _ => l5
    rw [hbs] at hi5
    have hck : (ckI (ofN (strN t)) (ofN xs)).length = 3 := rfl
    with_unfolding_all refine addN F5 N5 (.tail _ hm) hir (.head _) hi5 (by omega) ?_
    intro D6 h6 tk6 its6 k6 F6 N6 hi6 l6
    k_unfold
    try dsimp only
    exact ⟨h6, tk6, D6, its6, k6, rfl, rfl, F6, (fun p hp => N6 p (by
      rcases List.mem_cons.mp hp with rfl | hp
      · exact .head _
      · exact .tail _ (.tail _ hp))), hi6, fun p hp => l6 p (.tail _ hp)⟩
  case fin =>
    intro h r1 r2 j1 j2 q1 q2 hr1 hr2 lt1 lt2 lt12
    rw [if_pos rfl] at hr1
    rw [if_neg (Nat.ne_of_gt hne)] at hr2
    intro D h' tk F2 N2 ne lt3
    have o1 : Over L r1 := lt1 _ (.tail _ (.head _))
    have o2 : Over L r2 := lt2 _ (.tail _ (.head _))
    clear F3 N3
    walk_at "mine steps"
    rename Fr _ _ _ _ => F9
    rename News _ _ _ _ => N9
    exact K _ _ r1 j1 q1 r2 j2 q2 F9 (fun p hp => N9 p (by
      simp only [List.mem_cons, List.not_mem_nil, or_false] at hp ⊢
      rcases hp with h | h | h | h | h | h | h | h | h <;> simp [h])) o1 o2 hr1 hr2
end Mine
end

section
open PySem PySem.W PyProof.Rows
namespace Mine
open Rs
open PyProof.Rows.LCg (NsObj lst ns_obj lst_snoc)
local macro_rules | `(tactic| k_mem) => `(tactic| assumption)
local macro_rules | `(tactic| k_all) => `(tactic| (refine' ne_of_all (by assumption) ?_; omega))
local macro_rules | `(tactic| walk_at "mine go") => `(tactic| (first | (k_unfold; (try dsimp only)) | (k_end; wrow_close) | walk1))
local macro_rules | `(tactic| walk_at "mine stop") => `(tactic| ((fail_if_success (with_reducible show wpAny _ _ (execs _ _) _ _ _)); (fail_if_success (with_reducible show wpAny _ _ (eval (Expr.ListComp _ _ _ _) _) _ _ _)); (fail_if_success (with_reducible show wpAny _ _ (pyIter _) _ _ _)); (fail_if_success (with_reducible show wpAny _ _ (binaryOp Operator.Add (Value.ref _) (Value.ref _)) _ _ _)); (fail_if_success (with_reducible show wpAny _ _ (subscriptTail _ (Expr.Slice _ _ _ _) _ _) _ _ _))))
local macro_rules | `(tactic| walk_at "mine steps") => `(tactic| repeat' (walk_at "mine stop"; first | walk_at "mine go" | (dsimp only; walk_at "mine go")))
local macro_rules | `(tactic| walk_at "eval Name") => `(tactic| (k_here; k_dflt (refine' nameX_L ?F ?v ?_ ?a ?b; (case F => k_asm); (case a => rfl); (case b => rfl); (case v => assumption); k_whole)))
local macro_rules | `(tactic| walk_at "binaryOp Add ref ref") => `(tactic| (k_here; k_dflt (refine' addN ?F ?N ?hD ?hi ?hD2 ?hi2 ?hn ?_; (case F => k_asm); (case N => k_asm); (case hD => k_mem); (case hi => l_ints); (case hD2 => k_mem); (case hi2 => l_ints); (case hn => (try simp only [List.length_append, List.length_replicate, KBw.ints_length, List.length_map, List.length_range, List.length_take]); omega)); intro D' h' tk' its' k' F' N' hi' l1'; (try k_lt l1')))
local macro_rules | `(tactic| walk_at "binaryOp Mult ref int") => `(tactic| (k_here; k_dflt (refine' mulN0 ?F ?N ?hD ?h0 ?hx ?_; (case F => k_asm); (case N => k_asm); (case hD => k_mem); (case h0 => first | decide | omega); (case hx => first | decide | omega)); intro D' h' tk' its' k' F' N' hi' l1'; (try k_lt l1')))
local macro_rules | `(tactic| walk_at "subscriptTail Name Constant ref int") => `(tactic| (k_here; k_dflt (refine' told_item ?N ?hD ?hi ?h0 ?h1 ?_ ?hs ?hg; (case N => k_asm); (case hD => k_mem); (case hi => assumption); (case h0 => decide); (case h1 => decide); (case hs => with_unfolding_all rfl); (case hg => intro _; with_unfolding_all rfl)); intro _))
local macro_rules | `(tactic| walk_at "subscriptTail Name BinOp ref int") => `(tactic| (k_here; k_dflt (refine' told_item ?N ?hD ?hi ?h0 ?h1 ?_ ?hs ?hg; (case N => k_asm); (case hD => k_mem); (case hi => assumption); (case h0 => omega); (case h1 => omega); (case hs => with_unfolding_all rfl); (case hg => intro _; with_unfolding_all rfl)); intro _))
local macro_rules | `(tactic| walk_at "binaryOp Mod int int") => `(tactic| (refine mod_int' (by assumption) ?_))
local macro_rules | `(tactic| walk_at "call ref") => `(tactic| (k_here; k_dflt ((refine' create_call _ _ _ _ _ _ _ _ _ _ _ _ _ _ _ _ _ _ _ _ _ _ _ _ ?B ?F ?X ?N ?T ?hk ?hm ?hi ?hl ?hb ?hd ?hu ?hr; (case B => k_asm); (case F => k_asm); (case X => k_asm); (case N => k_asm); (case T => k_asm); (case hk => first | exact rfl | assumption); (case hm => k_mem); (case hi => assumption); (case hl => assumption); (case hb => assumption); (case hd => ktr_room); (case hu => ktr_units))); intro D' h' tk' its' k' F' N' hi' l1'))
local macro_rules | `(tactic| walk_at "call ref") => `(tactic| (k_here; k_dflt ((refine' verify_call _ _ _ _ _ _ _ _ _ _ _ _ _ _ _ _ _ _ _ _ _ _ _ _ ?B ?F ?X ?N ?T ?hk ?hm ?hi ?hl ?hb ?hd ?hu ?hr; (case B => k_asm); (case F => k_asm); (case X => k_asm); (case N => k_asm); (case T => k_asm); (case hk => first | exact rfl | assumption); (case hm => k_mem); (case hi => assumption); (case hl => assumption); (case hb => assumption); (case hd => ktr_room); (case hu => ktr_units))); intro h' tk' F' N'))
local macro_rules | `(tactic| walk_at "call type:zip") => `(tactic| (k_here; k_dflt (refine' zip2N ?hh ?F ?N ?h1 ?h2 ?_; (case hh => exact rfl); (case F => k_asm); (case N => k_asm); (case h1 => k_mem); (case h2 => k_mem)); intro z' h' F' N' R'))

theorem ofN_get {xs : List Nat} {i : Nat} {a : Int} (h : (ofN xs)[i]? = some a) : a = ((xs.getD i 0 : Nat) : Int) := by
  rw [List.getElem?_map] at h
  cases e : xs[i]? with
  | none => rw [e] at h; simp at h
  | some x =>
    rw [e] at h
    simp only [Option.map_some, Option.some.injEq] at h
    rw [← h, List.getD_eq_getElem?_getD, e]
    rfl

theorem sum_ones {α : Type} (l : List α) : (List.map (fun _ => (1 : Int)) l).sum = (l.length : Int) := by
  induction l with
  | nil => rfl
  | cons x l ih => simp only [List.map_cons, List.sum_cons, List.length_cons, ih]; push_cast; omega

theorem piece8 {w : World} {mean : ExcName → Option Value} {mg mb : Str → Option Value} {base : Heap} {L fa : Addr} {cdv : Value} {Q : Flow → Shared → Prop} {E : Value → Shared → Prop} {s : Shared} {m : Str → Option Value} {oB oS oT oN : Obj} {lt : Addr} {its : List Value} {k : Nat} {t : Nat → Nat}
    (B : Below callerA base [] base) (X : (hd.heap_39 w.params).In base) (T : Top hd.view_39 (looseW hd.view_39 []) mean mg mb base) (F : Fr base L s.heap m) {l1 l2 l3 l4 : Addr} {i1 i2 i3 i4 : List Value} {k1 k2 k3 k4 : Nat} {A1 A2 : List Nat} (N : Base1 base L s.heap oB oS oT oN lt its k [(l1, listOf i1.toArray k1), (l2, listOf i2.toArray k2), (l3, listOf i3.toArray k3), (l4, listOf i4.toArray k4)])
    (hfirst : m (Str.ofString "first") = some (.ref l3)) (hsecond : m (Str.ofString "second") = some (.ref l4)) (hi3 : IntsAre i3 (ofN A1)) (hi4 : IntsAre i4 (ofN A2)) (hlen : A1.length = A2.length) (hlt : A1.length ≤ 100)
    (hcount : ([1, 2, 3] : List Int).any (· == (((List.range A1.length).filter fun i => A1.getD i 0 != A2.getD i 0).length : Int)) = false)
    (K : ∀ h tk, Fr base L h m → Base1 base L h oB oS oT oN lt its k [(l1, listOf i1.toArray k1), (l2, listOf i2.toArray k2), (l3, listOf i3.toArray k3), (l4, listOf i4.toArray k4)] → LawFrom 9 w L fa cdv Q E { s with heap := h, toks := tk }) :
    LawFrom 8 w L fa cdv Q E s := by
  unfold LawFrom lawA lawEnv
  revert X
  k_fill
  intro X
  dsimp only [lawFn, PySem.Challenge.pw_bc0030_01]
  simp only [List.drop_zero, List.drop_succ_cons]
  walk1
  walk_at "mine steps"
  with_unfolding_all refine' ListComp_any (x := [Str.ofString "a", Str.ofString "b"]) F ?e1 ?e2 ?e3 ?e4 ?e5 ?_ (by intro _; rfl)
  case e1 => rfl
  case e2 => decide
  case e3 => rfl
  case e4 => decide
  case e5 => decide
  walk_at "mine steps"
  rename Fr _ _ _ _ => F3
  rename News _ _ _ _ => N3
  rename Ready _ _ _ _ _ _ _ _ _ _ => R3
  have e3 : i3.length = A1.length := by rw [hi3.length]; simp
  have e4 : i4.length = A2.length := by rw [hi4.length]; simp
  have em : min i3.length i4.length = A1.length := by omega
  rw [em] at R3
  with_unfolding_all refine iter_ready2T (fun i => A1.getD i 0 != A2.getD i 0) (fun _ => 1) rfl F3 N3 R3 (by omega) (by decide) ?h2 ?turn ?elts ?fin
  case h2 =>
    rintro i vals ⟨x, y, _, _, e⟩
    exact ⟨x, y, e⟩
  case turn =>
    rintro i v1 v2 own C oC D mC ys h tk E' hlt1 ⟨x, y, hx, hy, e⟩ hC ha hb F2 N2
    obtain ⟨rfl, rfl⟩ : v1 = x ∧ v2 = y := by simpa using e
    obtain ⟨a, ta, ha1, rfl⟩ := ints_getV hi3 hx
    obtain ⟨b, tb, hb1, rfl⟩ := ints_getV hi4 hy
    have ea := ofN_get ha1
    have eb := ofN_get hb1
    clear F3 N3
    walk_at "mine steps"
    · subst ea eb
      rw [Bool.eq_iff_iff]
      simp only [bne_iff_ne, ne_eq, Int.natCast_inj, decide_eq_true_eq]
    · exact F2
    · exact N2
  case elts =>
    rintro i v1 v2 own C oC D mC ys h tk E' hlt1 ⟨x, y, hx, hy, e⟩ hC ha hb F2 N2
    clear F3 N3
    walk_at "mine steps"
    exact EltEnd.intro F2 N2 rfl
  case fin =>
    intro ys hy D h' tk F2 N2 ne lt2
    clear F3 N3
    walk_at "mine steps"
    · exfalso
      rename List.any _ _ = true => hc
      rw [sum_ones, hcount] at hc
      exact Bool.noConfusion hc
    · rename Fr _ _ _ _ => F9
      rename News _ _ _ _ => N9
      walk1
      walk1
      walk_at "mine steps"

      exact K _ _ F9 (fun p hp => N9 p (by
        simp only [List.mem_cons, List.not_mem_nil, or_false] at hp ⊢
        rcases hp with h | h | h | h | h | h | h | h | h <;> simp [h]))
end Mine
end

section
open PySem PySem.W PyProof.Rows
namespace Mine
open Rs
open PyProof.Rows.LCg (NsObj lst ns_obj lst_snoc)
local macro_rules | `(tactic| k_mem) => `(tactic| assumption)
local macro_rules | `(tactic| k_all) => `(tactic| (refine' ne_of_all (by assumption) ?_; omega))
local macro_rules | `(tactic| walk_at "mine go") => `(tactic| (first | (k_unfold; (try dsimp only)) | (k_end; wrow_close) | walk1))
local macro_rules | `(tactic| walk_at "mine stop") => `(tactic| ((fail_if_success (with_reducible show wpAny _ _ (execs _ _) _ _ _)); (fail_if_success (with_reducible show wpAny _ _ (eval (Expr.ListComp _ _ _ _) _) _ _ _)); (fail_if_success (with_reducible show wpAny _ _ (pyIter _) _ _ _)); (fail_if_success (with_reducible show wpAny _ _ (binaryOp Operator.Add (Value.ref _) (Value.ref _)) _ _ _)); (fail_if_success (with_reducible show wpAny _ _ (subscriptTail _ (Expr.Slice _ _ _ _) _ _) _ _ _))))
local macro_rules | `(tactic| walk_at "mine steps") => `(tactic| repeat' (walk_at "mine stop"; first | walk_at "mine go" | (dsimp only; walk_at "mine go")))
local macro_rules | `(tactic| walk_at "eval Name") => `(tactic| (k_here; k_dflt (refine' nameX_L ?F ?v ?_ ?a ?b; (case F => k_asm); (case a => rfl); (case b => rfl); (case v => assumption); k_whole)))
local macro_rules | `(tactic| walk_at "binaryOp Add ref ref") => `(tactic| (k_here; k_dflt (refine' addN ?F ?N ?hD ?hi ?hD2 ?hi2 ?hn ?_; (case F => k_asm); (case N => k_asm); (case hD => k_mem); (case hi => l_ints); (case hD2 => k_mem); (case hi2 => l_ints); (case hn => (try simp only [List.length_append, List.length_replicate, KBw.ints_length, List.length_map, List.length_range, List.length_take]); omega)); intro D' h' tk' its' k' F' N' hi' l1'; (try k_lt l1')))
local macro_rules | `(tactic| walk_at "binaryOp Mult ref int") => `(tactic| (k_here; k_dflt (refine' mulN0 ?F ?N ?hD ?h0 ?hx ?_; (case F => k_asm); (case N => k_asm); (case hD => k_mem); (case h0 => first | decide | omega); (case hx => first | decide | omega)); intro D' h' tk' its' k' F' N' hi' l1'; (try k_lt l1')))
local macro_rules | `(tactic| walk_at "subscriptTail Name Constant ref int") => `(tactic| (k_here; k_dflt (refine' told_item ?N ?hD ?hi ?h0 ?h1 ?_ ?hs ?hg; (case N => k_asm); (case hD => k_mem); (case hi => assumption); (case h0 => decide); (case h1 => decide); (case hs => with_unfolding_all rfl); (case hg => intro _; with_unfolding_all rfl)); intro _))
local macro_rules | `(tactic| walk_at "subscriptTail Name BinOp ref int") => `(tactic| (k_here; k_dflt (refine' told_item ?N ?hD ?hi ?h0 ?h1 ?_ ?hs ?hg; (case N => k_asm); (case hD => k_mem); (case hi => assumption); (case h0 => omega); (case h1 => omega); (case hs => with_unfolding_all rfl); (case hg => intro _; with_unfolding_all rfl)); intro _))
local macro_rules | `(tactic| walk_at "binaryOp Mod int int") => `(tactic| (refine mod_int' (by assumption) ?_))
local macro_rules | `(tactic| walk_at "call ref") => `(tactic| (k_here; k_dflt ((refine' create_call _ _ _ _ _ _ _ _ _ _ _ _ _ _ _ _ _ _ _ _ _ _ _ _ ?B ?F ?X ?N ?T ?hk ?hm ?hi ?hl ?hb ?hd ?hu ?hr; (case B => k_asm); (case F => k_asm); (case X => k_asm); (case N => k_asm); (case T => k_asm); (case hk => first | exact rfl | assumption); (case hm => k_mem); (case hi => assumption); (case hl => assumption); (case hb => assumption); (case hd => ktr_room); (case hu => ktr_units))); intro D' h' tk' its' k' F' N' hi' l1'))
local macro_rules | `(tactic| walk_at "call ref") => `(tactic| (k_here; k_dflt ((refine' verify_call _ _ _ _ _ _ _ _ _ _ _ _ _ _ _ _ _ _ _ _ _ _ _ _ ?B ?F ?X ?N ?T ?hk ?hm ?hi ?hl ?hb ?hd ?hu ?hr; (case B => k_asm); (case F => k_asm); (case X => k_asm); (case N => k_asm); (case T => k_asm); (case hk => first | exact rfl | assumption); (case hm => k_mem); (case hi => assumption); (case hl => assumption); (case hb => assumption); (case hd => ktr_room); (case hu => ktr_units))); intro h' tk' F' N'))
local macro_rules | `(tactic| walk_at "call type:zip") => `(tactic| (k_here; k_dflt (refine' zip2N ?hh ?F ?N ?h1 ?h2 ?_; (case hh => exact rfl); (case F => k_asm); (case N => k_asm); (case h1 => k_mem); (case h2 => k_mem)); intro z' h' F' N' R'))

def byN (t : Nat → Nat) : Nat := 1 + t 0 % 1023
def mvN (t : Nat → Nat) : Nat := t 1 % (alN t + 1)
theorem by_lt (t : Nat → Nat) : byN t < 1024 := by
  have := Nat.mod_lt (t 0) (show 0 < 1023 by decide)
  unfold byN; omega
theorem mv_le (t : Nat → Nat) : mvN t ≤ alN t := by
  have := Nat.mod_lt (t 1) (show 0 < alN t + 1 by omega)
  unfold mvN; omega

theorem piece9 {w : World} {mean : ExcName → Option Value} {mg mb : Str → Option Value} {base : Heap} {L fa : Addr} {cdv : Value} {Q : Flow → Shared → Prop} {E : Value → Shared → Prop} {s : Shared} {m : Str → Option Value} {oB oS oT oN : Obj} {lt : Addr} {its : List Value} {k : Nat} {t : Nat → Nat}
    (B : Below callerA base [] base) (X : (hd.heap_39 w.params).In base) (T : Top hd.view_39 (looseW hd.view_39 []) mean mg mb base) (F : Fr base L s.heap m) {l1 l2 l3 l4 : Addr} {i1 i2 i3 i4 : List Value} {k1 k2 k3 k4 : Nat} (N : Base1 base L s.heap oB oS oT oN lt its k [(l1, listOf i1.toArray k1), (l2, listOf i2.toArray k2), (l3, listOf i3.toArray k3), (l4, listOf i4.toArray k4)]) {ta : Tok}
    (dT : oT.data = .cell (some (.ref lt))) (dB : oB.data = .cell none) (o0 : Over L lt) (o1 : Over L l1) (o2 : Over L l2) (o3 : Over L l3) (o4 : Over L l4)
    (hi : IntsAre its ((List.range 24).map fun i => (t i : Int))) (hal : m (Str.ofString "alike") = some (.int (alN t : Int) ta))
    (K : ∀ h tk oB' tb tm, Fr base L h (fun z => if z = Str.ofString "moved" then some (.int (mvN t : Int) tm) else m z) → Base1 base L h oB' oS oT oN lt its k [(l1, listOf i1.toArray k1), (l2, listOf i2.toArray k2), (l3, listOf i3.toArray k3), (l4, listOf i4.toArray k4)] → oB'.data = .cell (some (.int (byN t : Int) tb)) → LawFrom 10 w L fa cdv Q E { s with heap := h, toks := tk }) :
    LawFrom 9 w L fa cdv Q E s := by
  unfold LawFrom lawA lawEnv
  revert X
  k_fill
  intro X
  dsimp only [lawFn, PySem.Challenge.pw_bc0030_01]
  simp only [List.drop_zero, List.drop_succ_cons]
  have p0 : L + 1 + 1 + 1 + 1 < lt := o0
  have p1 : L + 1 + 1 + 1 + 1 < l1 := o1
  have p2 : L + 1 + 1 + 1 + 1 < l2 := o2
  have p3 : L + 1 + 1 + 1 + 1 < l3 := o3
  have p4 : L + 1 + 1 + 1 + 1 < l4 := o4
  have hm0 : ((alN t : Int) + 1) ≠ 0 := by omega
  have N0 : News base L s.heap ((L + 1 + 1 + 1 + 1, oB) :: (L + 1 + 1 + 1, oS) :: (L + 1 + 1, oT) :: (L + 1, oN) :: (lt, listOf its.toArray k) :: [(l1, listOf i1.toArray k1), (l2, listOf i2.toArray k2), (l3, listOf i3.toArray k3), (l4, listOf i4.toArray k4)]) := N
  clear N
  walk1
  walk_at "mine steps"
  rename Fr _ _ _ _ => F9
  rename News _ _ _ _ => N9
  (with_reducible rename Obj.data _ = Data.cell _ => d9)
  have e1 : 1 + (t (Int.toNat 0) : Int).fmod 1023 = (byN t : Int) := by
    have h8 : (t (Int.toNat 0) : Int).fmod 1023 = ((t 0 % 1023 : Nat) : Int) := fmod_nat (t 0) 1023
    unfold byN
    omega
  have e2 : (t (Int.toNat 1) : Int).fmod ((alN t : Int) + 1) = (mvN t : Int) := by
    have h8 : (t 1 : Int).fmod ((alN t + 1 : Nat) : Int) = ((t 1 % (alN t + 1) : Nat) : Int) := fmod_nat (t 1) (alN t + 1)
    exact h8
  rw [e1] at d9
  rw [e2] at F9
  exact K _ _ _ _ _ F9 (fun p hp => N9 p (by
      simp only [List.mem_cons, List.not_mem_nil, or_false] at hp ⊢
      rcases hp with h | h | h | h | h | h | h | h | h <;> simp [h])) d9
end Mine
end

section
open PySem PySem.W PyProof.Rows
namespace Mine
open Rs
open PyProof.Rows.LCg (NsObj lst ns_obj lst_snoc)
local macro_rules | `(tactic| k_mem) => `(tactic| assumption)
local macro_rules | `(tactic| k_all) => `(tactic| (refine' ne_of_all (by assumption) ?_; omega))
local macro_rules | `(tactic| walk_at "mine go") => `(tactic| (first | (k_unfold; (try dsimp only)) | (k_end; wrow_close) | walk1))
local macro_rules | `(tactic| walk_at "mine stop") => `(tactic| ((fail_if_success (with_reducible show wpAny _ _ (execs _ _) _ _ _)); (fail_if_success (with_reducible show wpAny _ _ (eval (Expr.ListComp _ _ _ _) _) _ _ _)); (fail_if_success (with_reducible show wpAny _ _ (pyIter _) _ _ _)); (fail_if_success (with_reducible show wpAny _ _ (binaryOp Operator.Add (Value.ref _) (Value.ref _)) _ _ _)); (fail_if_success (with_reducible show wpAny _ _ (subscriptTail _ (Expr.Slice _ _ _ _) _ _) _ _ _))))
local macro_rules | `(tactic| walk_at "mine steps") => `(tactic| repeat' (walk_at "mine stop"; first | walk_at "mine go" | (dsimp only; walk_at "mine go")))
local macro_rules | `(tactic| walk_at "eval Name") => `(tactic| (k_here; k_dflt (refine' nameX_L ?F ?v ?_ ?a ?b; (case F => k_asm); (case a => rfl); (case b => rfl); (case v => assumption); k_whole)))
local macro_rules | `(tactic| walk_at "binaryOp Add ref ref") => `(tactic| (k_here; k_dflt (refine' addN ?F ?N ?hD ?hi ?hD2 ?hi2 ?hn ?_; (case F => k_asm); (case N => k_asm); (case hD => k_mem); (case hi => l_ints); (case hD2 => k_mem); (case hi2 => l_ints); (case hn => (try simp only [List.length_append, List.length_replicate, KBw.ints_length, List.length_map, List.length_range, List.length_take]); omega)); intro D' h' tk' its' k' F' N' hi' l1'; (try k_lt l1')))
local macro_rules | `(tactic| walk_at "binaryOp Mult ref int") => `(tactic| (k_here; k_dflt (refine' mulN0 ?F ?N ?hD ?h0 ?hx ?_; (case F => k_asm); (case N => k_asm); (case hD => k_mem); (case h0 => first | decide | omega); (case hx => first | decide | omega)); intro D' h' tk' its' k' F' N' hi' l1'; (try k_lt l1')))
local macro_rules | `(tactic| walk_at "subscriptTail Name Constant ref int") => `(tactic| (k_here; k_dflt (refine' told_item ?N ?hD ?hi ?h0 ?h1 ?_ ?hs ?hg; (case N => k_asm); (case hD => k_mem); (case hi => assumption); (case h0 => decide); (case h1 => decide); (case hs => with_unfolding_all rfl); (case hg => intro _; with_unfolding_all rfl)); intro _))
local macro_rules | `(tactic| walk_at "subscriptTail Name BinOp ref int") => `(tactic| (k_here; k_dflt (refine' told_item ?N ?hD ?hi ?h0 ?h1 ?_ ?hs ?hg; (case N => k_asm); (case hD => k_mem); (case hi => assumption); (case h0 => omega); (case h1 => omega); (case hs => with_unfolding_all rfl); (case hg => intro _; with_unfolding_all rfl)); intro _))
local macro_rules | `(tactic| walk_at "binaryOp Mod int int") => `(tactic| (refine mod_int' (by assumption) ?_))
local macro_rules | `(tactic| walk_at "call ref") => `(tactic| (k_here; k_dflt ((refine' create_call _ _ _ _ _ _ _ _ _ _ _ _ _ _ _ _ _ _ _ _ _ _ _ _ ?B ?F ?X ?N ?T ?hk ?hm ?hi ?hl ?hb ?hd ?hu ?hr; (case B => k_asm); (case F => k_asm); (case X => k_asm); (case N => k_asm); (case T => k_asm); (case hk => first | exact rfl | assumption); (case hm => k_mem); (case hi => assumption); (case hl => assumption); (case hb => assumption); (case hd => ktr_room); (case hu => ktr_units))); intro D' h' tk' its' k' F' N' hi' l1'))
local macro_rules | `(tactic| walk_at "call ref") => `(tactic| (k_here; k_dflt ((refine' verify_call _ _ _ _ _ _ _ _ _ _ _ _ _ _ _ _ _ _ _ _ _ _ _ _ ?B ?F ?X ?N ?T ?hk ?hm ?hi ?hl ?hb ?hd ?hu ?hr; (case B => k_asm); (case F => k_asm); (case X => k_asm); (case N => k_asm); (case T => k_asm); (case hk => first | exact rfl | assumption); (case hm => k_mem); (case hi => assumption); (case hl => assumption); (case hb => assumption); (case hd => ktr_room); (case hu => ktr_units))); intro h' tk' F' N'))
local macro_rules | `(tactic| walk_at "call type:zip") => `(tactic| (k_here; k_dflt (refine' zip2N ?hh ?F ?N ?h1 ?h2 ?_; (case hh => exact rfl); (case F => k_asm); (case N => k_asm); (case h1 => k_mem); (case h2 => k_mem)); intro z' h' F' N' R'))

def xorN (A1 A2 : List Nat) : List Nat := (List.range A1.length).map fun i => A1.getD i 0 ^^^ A2.getD i 0
def partN (v : Nat) (A1 A2 : List Nat) : List Nat := (xorN A1 A2).drop v ++ List.replicate v 0
theorem xorN_len (A1 A2 : List Nat) : (xorN A1 A2).length = A1.length := by simp [xorN]
theorem map_ofN (n : Nat) (g : Nat → Nat) : (List.range n).map (fun i => (g i : Int)) = ofN ((List.range n).map g) := by
  unfold ofN; rw [List.map_map]; rfl
theorem ofN_drop (v : Nat) (xs : List Nat) : (ofN xs).drop v = ofN (xs.drop v) := by unfold ofN; rw [List.map_drop]
theorem ofN_take (v : Nat) (xs : List Nat) : (ofN xs).take v = ofN (xs.take v) := by unfold ofN; rw [List.map_take]
theorem ofN_app (xs ys : List Nat) : ofN xs ++ ofN ys = ofN (xs ++ ys) := by unfold ofN; rw [List.map_append]
theorem ofN_rep (v : Nat) : List.replicate v (0 : Int) = ofN (List.replicate v 0) := by unfold ofN; rw [List.map_replicate]; rfl

theorem piece10 {w : World} {mean : ExcName → Option Value} {mg mb : Str → Option Value} {base : Heap} {L fa : Addr} {cdv : Value} {Q : Flow → Shared → Prop} {E : Value → Shared → Prop} {s : Shared} {m : Str → Option Value} {oB oS oT oN : Obj} {lt : Addr} {its : List Value} {k : Nat} {t : Nat → Nat}
    (B : Below callerA base [] base) (X : (hd.heap_39 w.params).In base) (T : Top hd.view_39 (looseW hd.view_39 []) mean mg mb base) (F : Fr base L s.heap m) {l1 l2 l3 l4 : Addr} {i1 i2 i3 i4 : List Value} {k1 k2 k3 k4 : Nat} (N : Base1 base L s.heap oB oS oT oN lt its k [(l1, listOf i1.toArray k1), (l2, listOf i2.toArray k2), (l3, listOf i3.toArray k3), (l4, listOf i4.toArray k4)]) {A1 A2 : List Nat} {tm : Tok}
    (hfirst : m (Str.ofString "first") = some (.ref l3)) (hsecond : m (Str.ofString "second") = some (.ref l4)) (hi3 : IntsAre i3 (ofN A1)) (hi4 : IntsAre i4 (ofN A2)) (hlen : A1.length = A2.length) (hlt : A1.length ≤ 100)
    (hmv : m (Str.ofString "moved") = some (.int (mvN t : Int) tm)) (hmv2 : mvN t ≤ 100)
    (K : ∀ h tk D i5 k5, Fr base L h (fun z => if z = Str.ofString "parted" then some (.ref D) else m z) → Base1 base L h oB oS oT oN lt its k [(l1, listOf i1.toArray k1), (l2, listOf i2.toArray k2), (l3, listOf i3.toArray k3), (l4, listOf i4.toArray k4), (D, listOf i5.toArray k5)] → IntsAre i5 (ofN (partN (mvN t) A1 A2)) → LawFrom 11 w L fa cdv Q E { s with heap := h, toks := tk }) :
    LawFrom 10 w L fa cdv Q E s := by
  unfold LawFrom lawA lawEnv
  revert X
  k_fill
  intro X
  dsimp only [lawFn, PySem.Challenge.pw_bc0030_01]
  simp only [List.drop_zero, List.drop_succ_cons]
  walk1
  walk_at "mine steps"
  with_unfolding_all refine' ListComp_any (x := [Str.ofString "a", Str.ofString "b"]) F ?e1 ?e2 ?e3 ?e4 ?e5 ?_ (by intro _; rfl)
  case e1 => rfl
  case e2 => decide
  case e3 => rfl
  case e4 => decide
  case e5 => decide
  walk_at "mine steps"
  rename Fr _ _ _ _ => F3
  rename News _ _ _ _ => N3
  rename Ready _ _ _ _ _ _ _ _ _ _ => R3
  have e3 : i3.length = A1.length := by rw [hi3.length]; simp
  have e4 : i4.length = A2.length := by rw [hi4.length]; simp
  have em : min i3.length i4.length = A1.length := by omega
  rw [em] at R3
  with_unfolding_all refine iter_ready2 (fun i => ((A1.getD i 0 ^^^ A2.getD i 0 : Nat) : Int)) rfl F3 N3 R3 (by omega) (by decide) ?h2 ?turn ?fin
  case h2 =>
    rintro i vals ⟨x, y, _, _, e⟩
    exact ⟨x, y, e⟩
  case turn =>
    rintro i v1 v2 own C oC D mC ys h tk E' hlt1 ⟨x, y, hx, hy, e⟩ hC ha hb F2 N2
    obtain ⟨rfl, rfl⟩ : v1 = x ∧ v2 = y := by simpa using e
    obtain ⟨a, ta, ha1, rfl⟩ := ints_getV hi3 hx
    obtain ⟨b, tb, hb1, rfl⟩ := ints_getV hi4 hy
    have ea := ofN_get ha1
    have eb := ofN_get hb1
    clear F3 N3
    walk_at "mine steps"
    refine EltEnd.intro F2 N2 ?_
    subst ea eb
    exact bitXor_nat _ _
  case fin =>
    intro ys hy D h' tk F2 N2 ne lt2
    rw [map_ofN A1.length fun i => A1.getD i 0 ^^^ A2.getD i 0] at hy
    have hy' : IntsAre ys (ofN (xorN A1 A2)) := hy
    have hyl : (ofN (xorN A1 A2)).length ≤ 1000 := by simp [xorN_len]; omega
    clear F3 N3 hy
    have N5 : Base1 base L h' oB oS oT oN lt its k ([(l1, listOf i1.toArray k1), (l2, listOf i2.toArray k2), (l3, listOf i3.toArray k3), (l4, listOf i4.toArray k4)] ++ [(D, listOf ys.toArray ys.length)]) := fun p hp => N2 p (by
      simp only [List.cons_append, List.nil_append, List.mem_cons, List.not_mem_nil, or_false] at hp ⊢
      rcases hp with h | h | h | h | h | h | h | h | h | h <;> simp [h])
    clear N2
    walk_at "mine steps"
    refine kba_turn (value' := PySem.Expr.Name (PySem.Str.ofString "_") ⟨0, 0, 0, 0⟩) (fun _ => rfl) ?_
    with_unfolding_all refine' slice_fromN (s := ⟨_, _, _, _, _⟩) (b := mvN t) (k := ys.length) rfl F2 N5 ?d1 hy' hyl ?_ ?d3 ?d4
    case d1 => simp
    case d3 => rfl
    case d4 => intro _; rfl
    intro D1 h1 tk1 its1 k1' F1 N1 hi11 l11
    clear F2 N5
    walk_at "mine steps"
    rename Fr _ _ _ _ => F6
    rename News _ _ _ _ => N6
    (with_reducible rename IntsAre _ (List.replicate _ _) => hi6)
    rw [ofN_drop] at hi11
    have hl1 : (ofN ((xorN A1 A2).drop (mvN t))).length ≤ 100 := by simp [xorN_len]; omega
    have hl2 : (List.replicate (Int.toNat (mvN t)) (0 : Int)).length ≤ 100 := by simp; omega
    with_unfolding_all refine addN (k1 := k1') F6 N6 ?d5 hi11 (.head _) hi6 (by omega) ?_
    case d5 => simp
    intro D9 h4 tk4 its9 kk9 F4 N4 hi4' l4'
    clear F6
    have N7 : Base1 base L h4 oB oS oT oN lt its k ([(l1, listOf i1.toArray k1), (l2, listOf i2.toArray k2), (l3, listOf i3.toArray k3), (l4, listOf i4.toArray k4), (D9, listOf its9.toArray kk9)]) := fun p hp => N4 p (by
      simp only [List.cons_append, List.nil_append, List.mem_cons, List.not_mem_nil, or_false] at hp ⊢
      rcases hp with h | h | h | h | h | h | h | h | h | h <;> simp [h])
    clear N4 N6
    walk_at "mine steps"
    rename Fr _ _ _ _ => F9
    rename News _ _ _ _ => N9
    refine K _ _ D9 its9 kk9 F9 N9 ?_
    have e2 : ofN ((xorN A1 A2).drop (mvN t)) ++ List.replicate (Int.toNat (mvN t)) (0 : Int) = ofN (partN (mvN t) A1 A2) := by
      unfold partN
      rw [← ofN_app, ← ofN_rep]; rfl
    rw [← e2]; exact hi4'
end Mine
end

section
open PySem PySem.W PyProof.Rows
namespace Mine
open Rs
open PyProof.Rows.LCg (NsObj lst ns_obj lst_snoc)
local macro_rules | `(tactic| k_mem) => `(tactic| assumption)
local macro_rules | `(tactic| k_all) => `(tactic| (refine' ne_of_all (by assumption) ?_; omega))
local macro_rules | `(tactic| walk_at "mine go") => `(tactic| (first | (k_unfold; (try dsimp only)) | (k_end; wrow_close) | walk1))
local macro_rules | `(tactic| walk_at "mine stop") => `(tactic| ((fail_if_success (with_reducible show wpAny _ _ (execs _ _) _ _ _)); (fail_if_success (with_reducible show wpAny _ _ (eval (Expr.ListComp _ _ _ _) _) _ _ _)); (fail_if_success (with_reducible show wpAny _ _ (pyIter _) _ _ _)); (fail_if_success (with_reducible show wpAny _ _ (binaryOp Operator.Add (Value.ref _) (Value.ref _)) _ _ _)); (fail_if_success (with_reducible show wpAny _ _ (subscriptTail _ (Expr.Slice _ _ _ _) _ _) _ _ _))))
local macro_rules | `(tactic| walk_at "mine steps") => `(tactic| repeat' (walk_at "mine stop"; first | walk_at "mine go" | (dsimp only; walk_at "mine go")))
local macro_rules | `(tactic| walk_at "eval Name") => `(tactic| (k_here; k_dflt (refine' nameX_L ?F ?v ?_ ?a ?b; (case F => k_asm); (case a => rfl); (case b => rfl); (case v => assumption); k_whole)))
local macro_rules | `(tactic| walk_at "binaryOp Add ref ref") => `(tactic| (k_here; k_dflt (refine' addN ?F ?N ?hD ?hi ?hD2 ?hi2 ?hn ?_; (case F => k_asm); (case N => k_asm); (case hD => k_mem); (case hi => l_ints); (case hD2 => k_mem); (case hi2 => l_ints); (case hn => (try simp only [List.length_append, List.length_replicate, KBw.ints_length, List.length_map, List.length_range, List.length_take]); omega)); intro D' h' tk' its' k' F' N' hi' l1'; (try k_lt l1')))
local macro_rules | `(tactic| walk_at "binaryOp Mult ref int") => `(tactic| (k_here; k_dflt (refine' mulN0 ?F ?N ?hD ?h0 ?hx ?_; (case F => k_asm); (case N => k_asm); (case hD => k_mem); (case h0 => first | decide | omega); (case hx => first | decide | omega)); intro D' h' tk' its' k' F' N' hi' l1'; (try k_lt l1')))
local macro_rules | `(tactic| walk_at "subscriptTail Name Constant ref int") => `(tactic| (k_here; k_dflt (refine' told_item ?N ?hD ?hi ?h0 ?h1 ?_ ?hs ?hg; (case N => k_asm); (case hD => k_mem); (case hi => assumption); (case h0 => decide); (case h1 => decide); (case hs => with_unfolding_all rfl); (case hg => intro _; with_unfolding_all rfl)); intro _))
local macro_rules | `(tactic| walk_at "subscriptTail Name BinOp ref int") => `(tactic| (k_here; k_dflt (refine' told_item ?N ?hD ?hi ?h0 ?h1 ?_ ?hs ?hg; (case N => k_asm); (case hD => k_mem); (case hi => assumption); (case h0 => omega); (case h1 => omega); (case hs => with_unfolding_all rfl); (case hg => intro _; with_unfolding_all rfl)); intro _))
local macro_rules | `(tactic| walk_at "binaryOp Mod int int") => `(tactic| (refine mod_int' (by assumption) ?_))
local macro_rules | `(tactic| walk_at "call ref") => `(tactic| (k_here; k_dflt ((refine' create_call _ _ _ _ _ _ _ _ _ _ _ _ _ _ _ _ _ _ _ _ _ _ _ _ ?B ?F ?X ?N ?T ?hk ?hm ?hi ?hl ?hb ?hd ?hu ?hr; (case B => k_asm); (case F => k_asm); (case X => k_asm); (case N => k_asm); (case T => k_asm); (case hk => first | exact rfl | assumption); (case hm => k_mem); (case hi => assumption); (case hl => assumption); (case hb => assumption); (case hd => ktr_room); (case hu => ktr_units))); intro D' h' tk' its' k' F' N' hi' l1'))
local macro_rules | `(tactic| walk_at "call ref") => `(tactic| (k_here; k_dflt ((refine' verify_call _ _ _ _ _ _ _ _ _ _ _ _ _ _ _ _ _ _ _ _ _ _ _ _ ?B ?F ?X ?N ?T ?hk ?hm ?hi ?hl ?hb ?hd ?hu ?hr; (case B => k_asm); (case F => k_asm); (case X => k_asm); (case N => k_asm); (case T => k_asm); (case hk => first | exact rfl | assumption); (case hm => k_mem); (case hi => assumption); (case hl => assumption); (case hb => assumption); (case hd => ktr_room); (case hu => ktr_units))); intro h' tk' F' N'))
local macro_rules | `(tactic| walk_at "call type:zip") => `(tactic| (k_here; k_dflt (refine' zip2N ?hh ?F ?N ?h1 ?h2 ?_; (case hh => exact rfl); (case F => k_asm); (case N => k_asm); (case h1 => k_mem); (case h2 => k_mem)); intro z' h' F' N' R'))
local macro_rules | `(tactic| walk_at "call ref") => `(tactic| (k_here; k_dflt ((refine' times_call _ _ _ _ _ _ _ _ _ _ _ _ _ _ _ _ _ _ _ _ _ _ ?B ?F ?X ?N ?T ?hk ?hx ?hy ?hd ?hu ?hr; (case B => k_asm); (case F => k_asm); (case X => k_asm); (case N => k_asm); (case T => k_asm); (case hk => first | exact rfl | assumption); (case hx => assumption); (case hy => assumption); (case hd => ktr_room); (case hu => ktr_units))); intro t' h' tk' F' N'))

def madeN (v : Nat) (A2 A5 : List Nat) : List Nat := (List.range A2.length).map fun i => A2.getD i 0 ^^^ mul v (A5.getD i 0)
theorem madeN_len (v : Nat) (A1 A2 : List Nat) : (madeN v A1 A2).length = A1.length := by simp [madeN]
theorem getD_all {P : Nat → Prop} {xs : List Nat} (h : ∀ x ∈ xs, P x) (h0 : P 0) (i : Nat) : P (xs.getD i 0) := by
  rw [List.getD_eq_getElem?_getD]
  cases e : xs[i]? with
  | none => exact h0
  | some x => exact h x (List.mem_of_getElem? e)

theorem piece11 {w : World} {mean : ExcName → Option Value} {mg mb : Str → Option Value} {base : Heap} {L fa : Addr} {cdv : Value} {Q : Flow → Shared → Prop} {E : Value → Shared → Prop} {s : Shared} {m : Str → Option Value} {oB oS oT oN : Obj} {lt : Addr} {its : List Value} {k : Nat} {t : Nat → Nat}
    (B : Below callerA base [] base) (X : (hd.heap_39 w.params).In base) (T : Top hd.view_39 (looseW hd.view_39 []) mean mg mb base) (F : Fr base L s.heap m) {l1 l2 l3 l4 l5 : Addr} {i1 i2 i3 i4 i5 : List Value} {k1 k2 k3 k4 k5 : Nat} (N : Base1 base L s.heap oB oS oT oN lt its k [(l1, listOf i1.toArray k1), (l2, listOf i2.toArray k2), (l3, listOf i3.toArray k3), (l4, listOf i4.toArray k4), (l5, listOf i5.toArray k5)]) {A2 A5 : List Nat} {tb : Tok}
    (dB : oB.data = .cell (some (.int (byN t : Int) tb))) (hsecond : m (Str.ofString "second") = some (.ref l4)) (hparted : m (Str.ofString "parted") = some (.ref l5)) (hi4 : IntsAre i4 (ofN A2)) (hi5 : IntsAre i5 (ofN A5)) (hlen : A2.length = A5.length) (hlt : A2.length ≤ 100) (h1024 : ∀ x ∈ A5, x < 1024)
    (K : ∀ h tk D i6 k6, Fr base L h (fun z => if z = Str.ofString "made" then some (.ref D) else m z) → Base1 base L h oB oS oT oN lt its k [(l1, listOf i1.toArray k1), (l2, listOf i2.toArray k2), (l3, listOf i3.toArray k3), (l4, listOf i4.toArray k4), (D, listOf i6.toArray k6)] → Over L D → @LT.lt Nat _ lt D → IntsAre i6 (ofN (madeN (byN t) A2 A5)) → LawFrom 12 w L fa cdv Q E { s with heap := h, toks := tk }) :
    LawFrom 11 w L fa cdv Q E s := by
  unfold LawFrom lawA lawEnv
  revert X
  k_fill
  intro X
  dsimp only [lawFn, PySem.Challenge.pw_bc0030_01]
  simp only [List.drop_zero, List.drop_succ_cons]
  have hby := by_lt t
  walk1
  with_unfolding_all refine' Assign_ListComp_any (x := [Str.ofString "a", Str.ofString "b"]) F ?e0 ?e00 ?e1 ?e2 ?e3 ?e4 ?e5 ?e6 ?e7 ?_ (by intro _; rfl)
  case e0 => rfl
  case e00 => rfl
  case e1 => rfl
  case e2 => decide
  case e3 => rfl
  case e4 => decide
  case e5 => decide
  case e6 => rfl
  case e7 => rfl
  walk_at "mine steps"
  rename Fr _ _ _ _ => F3
  rename News _ _ _ _ => N3
  rename Ready _ _ _ _ _ _ _ _ _ _ => R3
  have e3 : i4.length = A2.length := by rw [hi4.length]; simp
  have e4 : i5.length = A5.length := by rw [hi5.length]; simp
  have em : min i4.length i5.length = A2.length := by omega
  rw [em] at R3
  with_unfolding_all refine iter_ready2 (fun i => ((A2.getD i 0 ^^^ mul (byN t) (A5.getD i 0) : Nat) : Int)) rfl F3 N3 R3 (by omega) (by decide) ?h2 ?turn ?fin
  case h2 =>
    rintro i vals ⟨x, y, _, _, e⟩
    exact ⟨x, y, e⟩
  case turn =>
    rintro i v1 v2 own C oC D mC ys h tk E' hlt1 ⟨x, y, hx, hy, e⟩ hC ha hb F2 N2
    obtain ⟨rfl, rfl⟩ : v1 = x ∧ v2 = y := by simpa using e
    obtain ⟨a, ta, ha1, rfl⟩ := ints_getV hi4 hx
    obtain ⟨b, tb2, hb1, rfl⟩ := ints_getV hi5 hy
    have ea := ofN_get ha1
    have eb := ofN_get hb1
    subst ea eb
    have hb5 : A5.getD i 0 < 1024 := getD_all (P := (· < 1024)) h1024 (by decide) i
    clear F3 N3
    walk_at "mine steps"
    rename Fr _ _ _ _ => F8
    rename News _ _ _ _ => N8
    exact EltEnd.intro F8 N8 (bitXor_nat _ _)
  case fin =>
    intro ys hy D h' tk F2 N2 ne lt2
    rw [map_ofN A2.length fun i => A2.getD i 0 ^^^ mul (byN t) (A5.getD i 0)] at hy
    exact K _ _ D ys ys.length F2 (fun p hp => N2 p (by
      simp only [List.mem_cons, List.not_mem_nil, or_false] at hp ⊢
      rcases hp with h | h | h | h | h | h | h | h | h | h <;> simp [h])) (lt2 _ (.head _)) (lt2 (lt, listOf its.toArray k) (by simp)) hy
end Mine
end

section
open PySem PySem.W PyProof.Rows
namespace Mine
open Rs
open PyProof.Rows.LCg (NsObj lst ns_obj lst_snoc)
local macro_rules | `(tactic| k_mem) => `(tactic| assumption)
local macro_rules | `(tactic| k_all) => `(tactic| (refine' ne_of_all (by assumption) ?_; omega))
local macro_rules | `(tactic| walk_at "mine go") => `(tactic| (first | (k_unfold; (try dsimp only)) | (k_end; wrow_close) | walk1))
local macro_rules | `(tactic| walk_at "mine stop") => `(tactic| ((fail_if_success (with_reducible show wpAny _ _ (execs _ _) _ _ _)); (fail_if_success (with_reducible show wpAny _ _ (eval (Expr.ListComp _ _ _ _) _) _ _ _)); (fail_if_success (with_reducible show wpAny _ _ (pyIter _) _ _ _)); (fail_if_success (with_reducible show wpAny _ _ (binaryOp Operator.Add (Value.ref _) (Value.ref _)) _ _ _)); (fail_if_success (with_reducible show wpAny _ _ (subscriptTail _ (Expr.Slice _ _ _ _) _ _) _ _ _))))
local macro_rules | `(tactic| walk_at "mine steps") => `(tactic| repeat' (walk_at "mine stop"; first | walk_at "mine go" | (dsimp only; walk_at "mine go")))
local macro_rules | `(tactic| walk_at "eval Name") => `(tactic| (k_here; k_dflt (refine' nameX_L ?F ?v ?_ ?a ?b; (case F => k_asm); (case a => rfl); (case b => rfl); (case v => assumption); k_whole)))
local macro_rules | `(tactic| walk_at "binaryOp Add ref ref") => `(tactic| (k_here; k_dflt (refine' addN ?F ?N ?hD ?hi ?hD2 ?hi2 ?hn ?_; (case F => k_asm); (case N => k_asm); (case hD => k_mem); (case hi => l_ints); (case hD2 => k_mem); (case hi2 => l_ints); (case hn => (try simp only [List.length_append, List.length_replicate, KBw.ints_length, List.length_map, List.length_range, List.length_take]); omega)); intro D' h' tk' its' k' F' N' hi' l1'; (try k_lt l1')))
local macro_rules | `(tactic| walk_at "binaryOp Mult ref int") => `(tactic| (k_here; k_dflt (refine' mulN0 ?F ?N ?hD ?h0 ?hx ?_; (case F => k_asm); (case N => k_asm); (case hD => k_mem); (case h0 => first | decide | omega); (case hx => first | decide | omega)); intro D' h' tk' its' k' F' N' hi' l1'; (try k_lt l1')))
local macro_rules | `(tactic| walk_at "subscriptTail Name Constant ref int") => `(tactic| (k_here; k_dflt (refine' told_item ?N ?hD ?hi ?h0 ?h1 ?_ ?hs ?hg; (case N => k_asm); (case hD => k_mem); (case hi => assumption); (case h0 => decide); (case h1 => decide); (case hs => with_unfolding_all rfl); (case hg => intro _; with_unfolding_all rfl)); intro _))
local macro_rules | `(tactic| walk_at "subscriptTail Name BinOp ref int") => `(tactic| (k_here; k_dflt (refine' told_item ?N ?hD ?hi ?h0 ?h1 ?_ ?hs ?hg; (case N => k_asm); (case hD => k_mem); (case hi => assumption); (case h0 => omega); (case h1 => omega); (case hs => with_unfolding_all rfl); (case hg => intro _; with_unfolding_all rfl)); intro _))
local macro_rules | `(tactic| walk_at "binaryOp Mod int int") => `(tactic| (refine mod_int' (by assumption) ?_))
local macro_rules | `(tactic| walk_at "call ref") => `(tactic| (k_here; k_dflt ((refine' create_call _ _ _ _ _ _ _ _ _ _ _ _ _ _ _ _ _ _ _ _ _ _ _ _ ?B ?F ?X ?N ?T ?hk ?hm ?hi ?hl ?hb ?hd ?hu ?hr; (case B => k_asm); (case F => k_asm); (case X => k_asm); (case N => k_asm); (case T => k_asm); (case hk => first | exact rfl | assumption); (case hm => k_mem); (case hi => assumption); (case hl => assumption); (case hb => assumption); (case hd => ktr_room); (case hu => ktr_units))); intro D' h' tk' its' k' F' N' hi' l1'))
local macro_rules | `(tactic| walk_at "call ref") => `(tactic| (k_here; k_dflt ((refine' verify_call _ _ _ _ _ _ _ _ _ _ _ _ _ _ _ _ _ _ _ _ _ _ _ _ ?B ?F ?X ?N ?T ?hk ?hm ?hi ?hl ?hb ?hd ?hu ?hr; (case B => k_asm); (case F => k_asm); (case X => k_asm); (case N => k_asm); (case T => k_asm); (case hk => first | exact rfl | assumption); (case hm => k_mem); (case hi => assumption); (case hl => assumption); (case hb => assumption); (case hd => ktr_room); (case hu => ktr_units))); intro h' tk' F' N'))
local macro_rules | `(tactic| walk_at "call type:zip") => `(tactic| (k_here; k_dflt (refine' zip2N ?hh ?F ?N ?h1 ?h2 ?_; (case hh => exact rfl); (case F => k_asm); (case N => k_asm); (case h1 => k_mem); (case h2 => k_mem)); intro z' h' F' N' R'))
local macro_rules | `(tactic| walk_at "call ref") => `(tactic| (k_here; k_dflt ((refine' times_call _ _ _ _ _ _ _ _ _ _ _ _ _ _ _ _ _ _ _ _ _ _ ?B ?F ?X ?N ?T ?hk ?hx ?hy ?hd ?hu ?hr; (case B => k_asm); (case F => k_asm); (case X => k_asm); (case N => k_asm); (case T => k_asm); (case hk => first | exact rfl | assumption); (case hx => assumption); (case hy => assumption); (case hd => ktr_room); (case hu => ktr_units))); intro t' h' tk' F' N'))

theorem piece12 {w : World} {mean : ExcName → Option Value} {mg mb : Str → Option Value} {base : Heap} {L fa : Addr} {cdv : Value} {Q : Flow → Shared → Prop} {E : Value → Shared → Prop} {s : Shared} {m : Str → Option Value} {oB oS oT oN : Obj} {lt : Addr} {its : List Value} {k : Nat} {t : Nat → Nat}
    (B : Below callerA base [] base) (X : (hd.heap_39 w.params).In base) (T : Top hd.view_39 (looseW hd.view_39 []) mean mg mb base) (F : Fr base L s.heap m) {l1 l2 l3 l4 l5 : Addr} {i1 i2 i3 i4 i5 : List Value} {k1 k2 k3 k4 k5 : Nat} (N : Base1 base L s.heap oB oS oT oN lt its k [(l1, listOf i1.toArray k1), (l2, listOf i2.toArray k2), (l3, listOf i3.toArray k3), (l4, listOf i4.toArray k4), (l5, listOf i5.toArray k5)]) {bs : Array UInt8} {tbs : Tok} (dS : oS.data = .cell (some (.bytes bs tbs))) (hbs10 : bs.size ≤ 10) {M : List Nat}
    (hmade : m (Str.ofString "made") = some (.ref l5)) (hi5 : IntsAre i5 (ofN M)) (hlt : (ofN M).length ≤ 100) (hv : (pmI (KBw.bInts bs ++ ofN M) == 1) = true)
    (K : ∀ h tk, Fr base L h (fun z => if z = Str.ofString "taken" then some (.bool true) else m z) → Base1 base L h oB oS oT oN lt its k [(l1, listOf i1.toArray k1), (l2, listOf i2.toArray k2), (l3, listOf i3.toArray k3), (l4, listOf i4.toArray k4), (l5, listOf i5.toArray k5)] → LawFrom 13 w L fa cdv Q E { s with heap := h, toks := tk }) :
    LawFrom 12 w L fa cdv Q E s := by
  unfold LawFrom lawA lawEnv
  revert X
  k_fill
  intro X
  dsimp only [lawFn, PySem.Challenge.pw_bc0030_01]
  simp only [List.drop_zero, List.drop_succ_cons]
  walk1
  walk_at "mine steps"
  rename Fr _ _ _ _ => F9
  rename News _ _ _ _ => N9
  rw [hv] at F9
  exact K _ _ F9 (fun p hp => N9 p (by
      simp only [List.mem_cons, List.not_mem_nil, or_false] at hp ⊢
      rcases hp with h | h | h | h | h | h | h | h | h | h <;> simp [h]))

theorem piece13 {w : World} {mean : ExcName → Option Value} {mg mb : Str → Option Value} {base : Heap} {L fa : Addr} {cdv : Value} {Q : Flow → Shared → Prop} {E : Value → Shared → Prop} {s : Shared} {m : Str → Option Value} {oB oS oT oN : Obj} {lt : Addr} {its : List Value} {k : Nat} {t : Nat → Nat}
    (B : Below callerA base [] base) (X : (hd.heap_39 w.params).In base) (T : Top hd.view_39 (looseW hd.view_39 []) mean mg mb base) (F : Fr base L s.heap m) {l1 l2 l3 l4 l5 : Addr} {i1 i2 i3 i4 i5 : List Value} {k1 k2 k3 k4 k5 : Nat} (N : Base1 base L s.heap oB oS oT oN lt its k [(l1, listOf i1.toArray k1), (l2, listOf i2.toArray k2), (l3, listOf i3.toArray k3), (l4, listOf i4.toArray k4), (l5, listOf i5.toArray k5)]) {bs : Array UInt8} {tbs : Tok} (dS : oS.data = .cell (some (.bytes bs tbs))) (hbs10 : bs.size ≤ 10) {A1 : List Nat}
    (htaken : m (Str.ofString "taken") = some (.bool true)) (hfirst : m (Str.ofString "first") = some (.ref l3)) (hi3 : IntsAre i3 (ofN A1)) (hlt : (ofN A1).length ≤ 100) (hv : (pmI (KBw.bInts bs ++ ofN A1) == 1) = true)
    (K : ∀ h tk, Fr base L h m → Base1 base L h oB oS oT oN lt its k [(l1, listOf i1.toArray k1), (l2, listOf i2.toArray k2), (l3, listOf i3.toArray k3), (l4, listOf i4.toArray k4), (l5, listOf i5.toArray k5)] → LawFrom 14 w L fa cdv Q E { s with heap := h, toks := tk }) :
    LawFrom 13 w L fa cdv Q E s := by
  unfold LawFrom lawA lawEnv
  revert X
  k_fill
  intro X
  dsimp only [lawFn, PySem.Challenge.pw_bc0030_01]
  simp only [List.drop_zero, List.drop_succ_cons]
  walk1
  walk_at "mine steps"
  rename Fr _ _ _ _ => F9
  rename News _ _ _ _ => N9
  walk1
  exact K _ _ F9 (fun p hp => N9 p (by
      simp only [List.mem_cons, List.not_mem_nil, or_false] at hp ⊢
      rcases hp with h | h | h | h | h | h | h | h | h | h <;> simp [h]))
end Mine
end

section
open PySem PySem.W PyProof.Rows
namespace Mine
open Rs
open PyProof.Rows.LCg (NsObj lst ns_obj lst_snoc)
local macro_rules | `(tactic| k_mem) => `(tactic| assumption)
local macro_rules | `(tactic| k_all) => `(tactic| (refine' ne_of_all (by assumption) ?_; omega))
local macro_rules | `(tactic| walk_at "mine go") => `(tactic| (first | (k_unfold; (try dsimp only)) | (k_end; wrow_close) | walk1))
local macro_rules | `(tactic| walk_at "mine stop") => `(tactic| ((fail_if_success (with_reducible show wpAny _ _ (execs _ _) _ _ _)); (fail_if_success (with_reducible show wpAny _ _ (eval (Expr.ListComp _ _ _ _) _) _ _ _)); (fail_if_success (with_reducible show wpAny _ _ (pyIter _) _ _ _)); (fail_if_success (with_reducible show wpAny _ _ (binaryOp Operator.Add (Value.ref _) (Value.ref _)) _ _ _)); (fail_if_success (with_reducible show wpAny _ _ (subscriptTail _ (Expr.Slice _ _ _ _) _ _) _ _ _))))
local macro_rules | `(tactic| walk_at "mine steps") => `(tactic| repeat' (walk_at "mine stop"; first | walk_at "mine go" | (dsimp only; walk_at "mine go")))
local macro_rules | `(tactic| walk_at "eval Name") => `(tactic| (k_here; k_dflt (refine' nameX_L ?F ?v ?_ ?a ?b; (case F => k_asm); (case a => rfl); (case b => rfl); (case v => assumption); k_whole)))
local macro_rules | `(tactic| walk_at "binaryOp Add ref ref") => `(tactic| (k_here; k_dflt (refine' addN ?F ?N ?hD ?hi ?hD2 ?hi2 ?hn ?_; (case F => k_asm); (case N => k_asm); (case hD => k_mem); (case hi => l_ints); (case hD2 => k_mem); (case hi2 => l_ints); (case hn => (try simp only [List.length_append, List.length_replicate, KBw.ints_length, List.length_map, List.length_range, List.length_take]); omega)); intro D' h' tk' its' k' F' N' hi' l1'; (try k_lt l1')))
local macro_rules | `(tactic| walk_at "binaryOp Mult ref int") => `(tactic| (k_here; k_dflt (refine' mulN0 ?F ?N ?hD ?h0 ?hx ?_; (case F => k_asm); (case N => k_asm); (case hD => k_mem); (case h0 => first | decide | omega); (case hx => first | decide | omega)); intro D' h' tk' its' k' F' N' hi' l1'; (try k_lt l1')))
local macro_rules | `(tactic| walk_at "subscriptTail Name Constant ref int") => `(tactic| (k_here; k_dflt (refine' told_item ?N ?hD ?hi ?h0 ?h1 ?_ ?hs ?hg; (case N => k_asm); (case hD => k_mem); (case hi => assumption); (case h0 => decide); (case h1 => decide); (case hs => with_unfolding_all rfl); (case hg => intro _; with_unfolding_all rfl)); intro _))
local macro_rules | `(tactic| walk_at "subscriptTail Name BinOp ref int") => `(tactic| (k_here; k_dflt (refine' told_item ?N ?hD ?hi ?h0 ?h1 ?_ ?hs ?hg; (case N => k_asm); (case hD => k_mem); (case hi => assumption); (case h0 => omega); (case h1 => omega); (case hs => with_unfolding_all rfl); (case hg => intro _; with_unfolding_all rfl)); intro _))
local macro_rules | `(tactic| walk_at "binaryOp Mod int int") => `(tactic| (refine mod_int' (by assumption) ?_))
local macro_rules | `(tactic| walk_at "call ref") => `(tactic| (k_here; k_dflt ((refine' create_call _ _ _ _ _ _ _ _ _ _ _ _ _ _ _ _ _ _ _ _ _ _ _ _ ?B ?F ?X ?N ?T ?hk ?hm ?hi ?hl ?hb ?hd ?hu ?hr; (case B => k_asm); (case F => k_asm); (case X => k_asm); (case N => k_asm); (case T => k_asm); (case hk => first | exact rfl | assumption); (case hm => k_mem); (case hi => assumption); (case hl => assumption); (case hb => assumption); (case hd => ktr_room); (case hu => ktr_units))); intro D' h' tk' its' k' F' N' hi' l1'))
local macro_rules | `(tactic| walk_at "call ref") => `(tactic| (k_here; k_dflt ((refine' verify_call _ _ _ _ _ _ _ _ _ _ _ _ _ _ _ _ _ _ _ _ _ _ _ _ ?B ?F ?X ?N ?T ?hk ?hm ?hi ?hl ?hb ?hd ?hu ?hr; (case B => k_asm); (case F => k_asm); (case X => k_asm); (case N => k_asm); (case T => k_asm); (case hk => first | exact rfl | assumption); (case hm => k_mem); (case hi => assumption); (case hl => assumption); (case hb => assumption); (case hd => ktr_room); (case hu => ktr_units))); intro h' tk' F' N'))
local macro_rules | `(tactic| walk_at "call type:zip") => `(tactic| (k_here; k_dflt (refine' zip2N ?hh ?F ?N ?h1 ?h2 ?_; (case hh => exact rfl); (case F => k_asm); (case N => k_asm); (case h1 => k_mem); (case h2 => k_mem)); intro z' h' F' N' R'))
local macro_rules | `(tactic| walk_at "call ref") => `(tactic| (k_here; k_dflt ((refine' times_call _ _ _ _ _ _ _ _ _ _ _ _ _ _ _ _ _ _ _ _ _ _ ?B ?F ?X ?N ?T ?hk ?hx ?hy ?hd ?hu ?hr; (case B => k_asm); (case F => k_asm); (case X => k_asm); (case N => k_asm); (case T => k_asm); (case hk => first | exact rfl | assumption); (case hx => assumption); (case hy => assumption); (case hd => ktr_room); (case hu => ktr_units))); intro t' h' tk' F' N'))

def turnN (t : Nat → Nat) (S : List Nat) : List Nat := (List.range S.length).map fun i => S.getD i 0 ^^^ (if i = t 1 % S.length then 1 + t 2 % 255 else 0)

theorem bInts_get {bs : Array UInt8} {S : List Nat} (h : KBw.bInts bs = ofN S) {i : Nat} {c : UInt8} (e : bs[i]? = some c) : (c.toNat : Int) = ((S.getD i 0 : Nat) : Int) := by
  refine ofN_get (i := i) ?_
  rw [← h]
  unfold KBw.bInts
  rw [List.getElem?_map, Array.getElem?_toList, e]
  rfl

theorem piece14 {w : World} {mean : ExcName → Option Value} {mg mb : Str → Option Value} {base : Heap} {L fa : Addr} {cdv : Value} {Q : Flow → Shared → Prop} {E : Value → Shared → Prop} {s : Shared} {m : Str → Option Value} {oB oS oT oN : Obj} {lt : Addr} {its : List Value} {k : Nat} {t : Nat → Nat}
    (B : Below callerA base [] base) (X : (hd.heap_39 w.params).In base) (T : Top hd.view_39 (looseW hd.view_39 []) mean mg mb base) (F : Fr base L s.heap m) {l1 l2 l3 l4 l5 : Addr} {i1 i2 i3 i4 i5 : List Value} {k1 k2 k3 k4 k5 : Nat} (N : Base1 base L s.heap oB oS oT oN lt its k [(l1, listOf i1.toArray k1), (l2, listOf i2.toArray k2), (l3, listOf i3.toArray k3), (l4, listOf i4.toArray k4), (l5, listOf i5.toArray k5)]) {bs : Array UInt8} {tbs : Tok} (dS : oS.data = .cell (some (.bytes bs tbs))) (hbs10 : bs.size ≤ 10) {S : List Nat} (hS : KBw.bInts bs = ofN S) (hsz : bs.size = S.length)
    (dT : oT.data = .cell (some (.ref lt))) (hi : IntsAre its ((List.range 24).map fun i => (t i : Int)))
    (K : ∀ h tk D i6 k6, Fr base L h (fun z => if z = Str.ofString "turned" then some (.ref D) else m z) → Base1 base L h oB oS oT oN lt its k [(l1, listOf i1.toArray k1), (l2, listOf i2.toArray k2), (l3, listOf i3.toArray k3), (l4, listOf i4.toArray k4), (l5, listOf i5.toArray k5), (D, listOf i6.toArray k6)] → IntsAre i6 (ofN (turnN t S)) → LawFrom 15 w L fa cdv Q E { s with heap := h, toks := tk }) :
    LawFrom 14 w L fa cdv Q E s := by
  unfold LawFrom lawA lawEnv
  revert X
  k_fill
  intro X
  dsimp only [lawFn, PySem.Challenge.pw_bc0030_01]
  simp only [List.drop_zero, List.drop_succ_cons]
  walk1
  with_unfolding_all refine' Assign_ListComp_any (x := [Str.ofString "k", Str.ofString "octet"]) F ?e0 ?e00 ?e1 ?e2 ?e3 ?e4 ?e5 ?e6 ?e7 ?_ (by intro _; rfl)
  case e0 => rfl
  case e00 => rfl
  case e1 => rfl
  case e2 => decide
  case e3 => rfl
  case e4 => decide
  case e5 => decide
  case e6 => rfl
  case e7 => rfl
  walk_at "mine steps"
  with_unfolding_all refine' enumerate_bytesN rfl F N ?_
  intro z h3 F3 N3 R3
  walk_at "mine steps"
  with_unfolding_all refine iter_ready2 (fun i => ((S.getD i 0 ^^^ (if i = t 1 % S.length then 1 + t 2 % 255 else 0) : Nat) : Int)) rfl F3 N3 R3 (by omega) (by decide) ?h2 ?turn ?fin
  case h2 =>
    rintro i vals ⟨u, c, u', _, e⟩
    exact ⟨_, _, e⟩
  case turn =>
    rintro i v1 v2 own C oC D mC ys h tk E' hlt1 ⟨u, c, u', hc, e⟩ hC ha hb F2 N2
    obtain ⟨rfl, rfl⟩ : v1 = .int i u ∧ v2 = .int (c.toNat : Int) u' := by simpa using e
    have ec := bInts_get hS hc
    rw [ec] at hb
    have hsz0 : (bs.size : Int) ≠ 0 := by omega
    clear F3 N3 F N
    walk_at "mine steps"
    · rename _ = Int.fmod _ _ => hcond
      have hcond' : i = t 1 % S.length := by
        have h8 := fmod_nat (t 1) S.length
        have h9 : (i : Int) = ((t 1 % S.length : Nat) : Int) := hcond.trans h8
        omega
      refine EltEnd.intro F2 N2 ?_
      rw [if_pos hcond']
      have h10 : (1 + (t (Int.toNat 2) : Int).fmod 255) = ((1 + t 2 % 255 : Nat) : Int) := by
        have h8 : (t (Int.toNat 2) : Int).fmod 255 = ((t 2 % 255 : Nat) : Int) := fmod_nat (t 2) 255
        omega
      rw [h10]
      exact bitXor_nat _ _
    · rename _ ≠ Int.fmod _ _ => hcond
      have hcond' : ¬ i = t 1 % S.length := by
        intro e
        have h8 := fmod_nat (t 1) S.length
        exact hcond (by rw [← e] at h8; exact h8.symm)
      refine EltEnd.intro F2 N2 ?_
      rw [if_neg hcond']
      exact bitXor_nat _ 0
  case fin =>
    intro ys hy D h' tk F2 N2 ne lt2
    rw [map_ofN bs.size fun i => S.getD i 0 ^^^ (if i = t 1 % S.length then 1 + t 2 % 255 else 0), hsz] at hy
    exact K _ _ D ys ys.length F2 (fun p hp => N2 p (by
      simp only [List.mem_cons, List.not_mem_nil, or_false] at hp ⊢
      rcases hp with h | h | h | h | h | h | h | h | h | h | h <;> simp [h])) hy
end Mine
end

section
open PySem PySem.W PyProof.Rows
namespace Mine
open Rs
open PyProof.Rows.LCg (NsObj lst ns_obj lst_snoc)
local macro_rules | `(tactic| k_mem) => `(tactic| assumption)
local macro_rules | `(tactic| k_all) => `(tactic| (refine' ne_of_all (by assumption) ?_; omega))
local macro_rules | `(tactic| walk_at "mine go") => `(tactic| (first | (k_unfold; (try dsimp only)) | (k_end; wrow_close) | walk1))
local macro_rules | `(tactic| walk_at "mine stop") => `(tactic| ((fail_if_success (with_reducible show wpAny _ _ (execs _ _) _ _ _)); (fail_if_success (with_reducible show wpAny _ _ (eval (Expr.ListComp _ _ _ _) _) _ _ _)); (fail_if_success (with_reducible show wpAny _ _ (pyIter _) _ _ _)); (fail_if_success (with_reducible show wpAny _ _ (binaryOp Operator.Add (Value.ref _) (Value.ref _)) _ _ _)); (fail_if_success (with_reducible show wpAny _ _ (subscriptTail _ (Expr.Slice _ _ _ _) _ _) _ _ _))))
local macro_rules | `(tactic| walk_at "mine steps") => `(tactic| repeat' (walk_at "mine stop"; first | walk_at "mine go" | (dsimp only; walk_at "mine go")))
local macro_rules | `(tactic| walk_at "eval Name") => `(tactic| (k_here; k_dflt (refine' nameX_L ?F ?v ?_ ?a ?b; (case F => k_asm); (case a => rfl); (case b => rfl); (case v => assumption); k_whole)))
local macro_rules | `(tactic| walk_at "binaryOp Add ref ref") => `(tactic| (k_here; k_dflt (refine' addN ?F ?N ?hD ?hi ?hD2 ?hi2 ?hn ?_; (case F => k_asm); (case N => k_asm); (case hD => k_mem); (case hi => l_ints); (case hD2 => k_mem); (case hi2 => l_ints); (case hn => (try simp only [List.length_append, List.length_replicate, KBw.ints_length, List.length_map, List.length_range, List.length_take]); omega)); intro D' h' tk' its' k' F' N' hi' l1'; (try k_lt l1')))
local macro_rules | `(tactic| walk_at "binaryOp Mult ref int") => `(tactic| (k_here; k_dflt (refine' mulN0 ?F ?N ?hD ?h0 ?hx ?_; (case F => k_asm); (case N => k_asm); (case hD => k_mem); (case h0 => first | decide | omega); (case hx => first | decide | omega)); intro D' h' tk' its' k' F' N' hi' l1'; (try k_lt l1')))
local macro_rules | `(tactic| walk_at "subscriptTail Name Constant ref int") => `(tactic| (k_here; k_dflt (refine' told_item ?N ?hD ?hi ?h0 ?h1 ?_ ?hs ?hg; (case N => k_asm); (case hD => k_mem); (case hi => assumption); (case h0 => decide); (case h1 => decide); (case hs => with_unfolding_all rfl); (case hg => intro _; with_unfolding_all rfl)); intro _))
local macro_rules | `(tactic| walk_at "subscriptTail Name BinOp ref int") => `(tactic| (k_here; k_dflt (refine' told_item ?N ?hD ?hi ?h0 ?h1 ?_ ?hs ?hg; (case N => k_asm); (case hD => k_mem); (case hi => assumption); (case h0 => omega); (case h1 => omega); (case hs => with_unfolding_all rfl); (case hg => intro _; with_unfolding_all rfl)); intro _))
local macro_rules | `(tactic| walk_at "binaryOp Mod int int") => `(tactic| (refine mod_int' (by assumption) ?_))
local macro_rules | `(tactic| walk_at "call ref") => `(tactic| (k_here; k_dflt ((refine' create_call _ _ _ _ _ _ _ _ _ _ _ _ _ _ _ _ _ _ _ _ _ _ _ _ ?B ?F ?X ?N ?T ?hk ?hm ?hi ?hl ?hb ?hd ?hu ?hr; (case B => k_asm); (case F => k_asm); (case X => k_asm); (case N => k_asm); (case T => k_asm); (case hk => first | exact rfl | assumption); (case hm => k_mem); (case hi => assumption); (case hl => assumption); (case hb => assumption); (case hd => ktr_room); (case hu => ktr_units))); intro D' h' tk' its' k' F' N' hi' l1'))
local macro_rules | `(tactic| walk_at "call ref") => `(tactic| (k_here; k_dflt ((refine' verify_call _ _ _ _ _ _ _ _ _ _ _ _ _ _ _ _ _ _ _ _ _ _ _ _ ?B ?F ?X ?N ?T ?hk ?hm ?hi ?hl ?hb ?hd ?hu ?hr; (case B => k_asm); (case F => k_asm); (case X => k_asm); (case N => k_asm); (case T => k_asm); (case hk => first | exact rfl | assumption); (case hm => k_mem); (case hi => assumption); (case hl => assumption); (case hb => assumption); (case hd => ktr_room); (case hu => ktr_units))); intro h' tk' F' N'))
local macro_rules | `(tactic| walk_at "call type:zip") => `(tactic| (k_here; k_dflt (refine' zip2N ?hh ?F ?N ?h1 ?h2 ?_; (case hh => exact rfl); (case F => k_asm); (case N => k_asm); (case h1 => k_mem); (case h2 => k_mem)); intro z' h' F' N' R'))
local macro_rules | `(tactic| walk_at "call ref") => `(tactic| (k_here; k_dflt ((refine' times_call _ _ _ _ _ _ _ _ _ _ _ _ _ _ _ _ _ _ _ _ _ _ ?B ?F ?X ?N ?T ?hk ?hx ?hy ?hd ?hu ?hr; (case B => k_asm); (case F => k_asm); (case X => k_asm); (case N => k_asm); (case T => k_asm); (case hk => first | exact rfl | assumption); (case hx => assumption); (case hy => assumption); (case hd => ktr_room); (case hu => ktr_units))); intro t' h' tk' F' N'))
local macro_rules | `(tactic| walk_at "call type:bytes") => `(tactic| (k_here; k_dflt (refine' bytesN ?hh ?F ?N ?hD ?hi ?hr ?hn ?_; (case hh => exact rfl); (case F => k_asm); (case N => k_asm); (case hD => k_mem); (case hi => assumption); (case hr => assumption); (case hn => omega)); intro bs' h' tb' tk' F' N' hbs' hsz'))
local macro_rules | `(tactic| walk_at "call ref") => `(tactic| (k_here; k_dflt ((refine' verify_call _ _ _ _ _ _ _ _ _ _ _ _ _ _ _ _ _ _ _ _ _ _ _ _ ?B ?F ?X ?N ?T ?hk ?hm ?hi ?hl ?hb ?hd ?hu ?hr; (case B => k_asm); (case F => k_asm); (case X => k_asm); (case N => k_asm); (case T => k_asm); (case hk => first | exact rfl | assumption); (case hm => k_mem); (case hi => assumption); (case hl => assumption); (case hb => omega); (case hd => ktr_room); (case hu => ktr_units))); intro h' tk' F' N'))

theorem piece15 {w : World} {mean : ExcName → Option Value} {mg mb : Str → Option Value} {base : Heap} {L fa : Addr} {cdv : Value} {Q : Flow → Shared → Prop} {E : Value → Shared → Prop} {s : Shared} {m : Str → Option Value} {oB oS oT oN : Obj} {lt : Addr} {its : List Value} {k : Nat} {t : Nat → Nat}
    (B : Below callerA base [] base) (X : (hd.heap_39 w.params).In base) (T : Top hd.view_39 (looseW hd.view_39 []) mean mg mb base) (F : Fr base L s.heap m) {l1 l2 l3 l4 l5 l6 : Addr} {i1 i2 i3 i4 i5 i6 : List Value} {k1 k2 k3 k4 k5 k6 : Nat} (N : Base1 base L s.heap oB oS oT oN lt its k [(l1, listOf i1.toArray k1), (l2, listOf i2.toArray k2), (l3, listOf i3.toArray k3), (l4, listOf i4.toArray k4), (l5, listOf i5.toArray k5), (l6, listOf i6.toArray k6)]) {bs : Array UInt8} {tbs : Tok} (dS : oS.data = .cell (some (.bytes bs tbs))) (hbs10 : bs.size ≤ 10) {M T' : List Nat} (h256 : ∀ n ∈ ofN T', 0 ≤ n ∧ n < 256) (hT10 : (ofN T').length ≤ 10)
    (hturned : m (Str.ofString "turned") = some (.ref l6)) (hi6 : IntsAre i6 (ofN T')) (hmade : m (Str.ofString "made") = some (.ref l5)) (hi5 : IntsAre i5 (ofN M)) (hlt : (ofN M).length ≤ 100) (hv : 0 < bs.size → (pmI (ofN T' ++ ofN M) == 1) = false)
    (K : ∀ h tk, Fr base L h m → Base1 base L h oB oS oT oN lt its k [(l1, listOf i1.toArray k1), (l2, listOf i2.toArray k2), (l3, listOf i3.toArray k3), (l4, listOf i4.toArray k4), (l5, listOf i5.toArray k5)] → LawFrom 16 w L fa cdv Q E { s with heap := h, toks := tk }) :
    LawFrom 15 w L fa cdv Q E s := by
  unfold LawFrom lawA lawEnv
  revert X
  k_fill
  intro X
  dsimp only [lawFn, PySem.Challenge.pw_bc0030_01]
  simp only [List.drop_zero, List.drop_succ_cons]
  walk1
  walk_at "mine steps"
  · exfalso
    rename KBw.bInts _ = ofN T' => hb'
    rename pmI _ = (1 : Int) => hq
    have hv' := hv (by omega)
    rw [hb'] at hq
    rw [hq] at hv'
    exact Bool.noConfusion hv'
  · rename Fr _ _ _ _ => F9
    rename News _ _ _ _ => N9
    walk1
    exact K _ _ F9 (fun p hp => N9 p (by
      simp only [List.mem_cons, List.not_mem_nil, or_false] at hp ⊢
      rcases hp with h | h | h | h | h | h | h | h | h | h <;> simp [h]))
  · walk1
    walk1
    exact K _ _ F (fun p hp => N p (by
      simp only [List.mem_cons, List.not_mem_nil, or_false] at hp ⊢
      rcases hp with h | h | h | h | h | h | h | h | h | h <;> simp [h]))
end Mine
end

section
open PySem PySem.W PyProof.Rows
namespace Mine
open Rs
open PyProof.Rows.LCg (NsObj lst ns_obj lst_snoc)
local macro_rules | `(tactic| k_mem) => `(tactic| assumption)
local macro_rules | `(tactic| k_all) => `(tactic| (refine' ne_of_all (by assumption) ?_; omega))
local macro_rules | `(tactic| walk_at "mine go") => `(tactic| (first | (k_unfold; (try dsimp only)) | (k_end; wrow_close) | walk1))
local macro_rules | `(tactic| walk_at "mine stop") => `(tactic| ((fail_if_success (with_reducible show wpAny _ _ (execs _ _) _ _ _)); (fail_if_success (with_reducible show wpAny _ _ (eval (Expr.ListComp _ _ _ _) _) _ _ _)); (fail_if_success (with_reducible show wpAny _ _ (pyIter _) _ _ _)); (fail_if_success (with_reducible show wpAny _ _ (binaryOp Operator.Add (Value.ref _) (Value.ref _)) _ _ _)); (fail_if_success (with_reducible show wpAny _ _ (subscriptTail _ (Expr.Slice _ _ _ _) _ _) _ _ _))))
local macro_rules | `(tactic| walk_at "mine steps") => `(tactic| repeat' (walk_at "mine stop"; first | walk_at "mine go" | (dsimp only; walk_at "mine go")))
local macro_rules | `(tactic| walk_at "eval Name") => `(tactic| (k_here; k_dflt (refine' nameX_L ?F ?v ?_ ?a ?b; (case F => k_asm); (case a => rfl); (case b => rfl); (case v => assumption); k_whole)))
local macro_rules | `(tactic| walk_at "binaryOp Add ref ref") => `(tactic| (k_here; k_dflt (refine' addN ?F ?N ?hD ?hi ?hD2 ?hi2 ?hn ?_; (case F => k_asm); (case N => k_asm); (case hD => k_mem); (case hi => l_ints); (case hD2 => k_mem); (case hi2 => l_ints); (case hn => (try simp only [List.length_append, List.length_replicate, KBw.ints_length, List.length_map, List.length_range, List.length_take]); omega)); intro D' h' tk' its' k' F' N' hi' l1'; (try k_lt l1')))
local macro_rules | `(tactic| walk_at "binaryOp Mult ref int") => `(tactic| (k_here; k_dflt (refine' mulN0 ?F ?N ?hD ?h0 ?hx ?_; (case F => k_asm); (case N => k_asm); (case hD => k_mem); (case h0 => first | decide | omega); (case hx => first | decide | omega)); intro D' h' tk' its' k' F' N' hi' l1'; (try k_lt l1')))
local macro_rules | `(tactic| walk_at "subscriptTail Name Constant ref int") => `(tactic| (k_here; k_dflt (refine' told_item ?N ?hD ?hi ?h0 ?h1 ?_ ?hs ?hg; (case N => k_asm); (case hD => k_mem); (case hi => assumption); (case h0 => decide); (case h1 => decide); (case hs => with_unfolding_all rfl); (case hg => intro _; with_unfolding_all rfl)); intro _))
local macro_rules | `(tactic| walk_at "subscriptTail Name BinOp ref int") => `(tactic| (k_here; k_dflt (refine' told_item ?N ?hD ?hi ?h0 ?h1 ?_ ?hs ?hg; (case N => k_asm); (case hD => k_mem); (case hi => assumption); (case h0 => omega); (case h1 => omega); (case hs => with_unfolding_all rfl); (case hg => intro _; with_unfolding_all rfl)); intro _))
local macro_rules | `(tactic| walk_at "binaryOp Mod int int") => `(tactic| (refine mod_int' (by assumption) ?_))
local macro_rules | `(tactic| walk_at "call ref") => `(tactic| (k_here; k_dflt ((refine' create_call _ _ _ _ _ _ _ _ _ _ _ _ _ _ _ _ _ _ _ _ _ _ _ _ ?B ?F ?X ?N ?T ?hk ?hm ?hi ?hl ?hb ?hd ?hu ?hr; (case B => k_asm); (case F => k_asm); (case X => k_asm); (case N => k_asm); (case T => k_asm); (case hk => first | exact rfl | assumption); (case hm => k_mem); (case hi => assumption); (case hl => assumption); (case hb => assumption); (case hd => ktr_room); (case hu => ktr_units))); intro D' h' tk' its' k' F' N' hi' l1'))
local macro_rules | `(tactic| walk_at "call ref") => `(tactic| (k_here; k_dflt ((refine' verify_call _ _ _ _ _ _ _ _ _ _ _ _ _ _ _ _ _ _ _ _ _ _ _ _ ?B ?F ?X ?N ?T ?hk ?hm ?hi ?hl ?hb ?hd ?hu ?hr; (case B => k_asm); (case F => k_asm); (case X => k_asm); (case N => k_asm); (case T => k_asm); (case hk => first | exact rfl | assumption); (case hm => k_mem); (case hi => assumption); (case hl => assumption); (case hb => assumption); (case hd => ktr_room); (case hu => ktr_units))); intro h' tk' F' N'))
local macro_rules | `(tactic| walk_at "call type:zip") => `(tactic| (k_here; k_dflt (refine' zip2N ?hh ?F ?N ?h1 ?h2 ?_; (case hh => exact rfl); (case F => k_asm); (case N => k_asm); (case h1 => k_mem); (case h2 => k_mem)); intro z' h' F' N' R'))
local macro_rules | `(tactic| walk_at "call ref") => `(tactic| (k_here; k_dflt ((refine' times_call _ _ _ _ _ _ _ _ _ _ _ _ _ _ _ _ _ _ _ _ _ _ ?B ?F ?X ?N ?T ?hk ?hx ?hy ?hd ?hu ?hr; (case B => k_asm); (case F => k_asm); (case X => k_asm); (case N => k_asm); (case T => k_asm); (case hk => first | exact rfl | assumption); (case hx => assumption); (case hy => assumption); (case hd => ktr_room); (case hu => ktr_units))); intro t' h' tk' F' N'))

theorem piece16 {w : World} {mean : ExcName → Option Value} {mg mb : Str → Option Value} {base : Heap} {L fa : Addr} {cdv : Value} {Q : Flow → Shared → Prop} {E : Value → Shared → Prop} {s : Shared} {m : Str → Option Value} {oB oS oT oN : Obj} {lt : Addr} {its : List Value} {k : Nat} {t : Nat → Nat}
    (B : Below callerA base [] base) (X : (hd.heap_39 w.params).In base) (T : Top hd.view_39 (looseW hd.view_39 []) mean mg mb base) (F : Fr base L s.heap m) {l1 l2 l3 l4 l5 : Addr} {i1 i2 i3 i4 i5 : List Value} {k1 k2 k3 k4 k5 : Nat} (N : Base1 base L s.heap oB oS oT oN lt its k [(l1, listOf i1.toArray k1), (l2, listOf i2.toArray k2), (l3, listOf i3.toArray k3), (l4, listOf i4.toArray k4), (l5, listOf i5.toArray k5)]) {bs : Array UInt8} {tbs : Tok} (dS : oS.data = .cell (some (.bytes bs tbs))) (hbs10 : bs.size ≤ 10) {M : List Nat} {tm : Tok} {v : Nat}
    (hmv : m (Str.ofString "moved") = some (.int (v : Int) tm)) (hmade : m (Str.ofString "made") = some (.ref l5)) (hi5 : IntsAre i5 (ofN M)) (hlt : (ofN M).length ≤ 100)
    (hv : v = 0 → ckI (KBw.bInts bs) ((ofN M).take ((ofN M).length - 3)) = (ofN M).drop ((ofN M).length - 3))
    (K : ∀ h tk, Fr base L h m → Base1 base L h oB oS oT oN lt its k [(l1, listOf i1.toArray k1), (l2, listOf i2.toArray k2), (l3, listOf i3.toArray k3), (l4, listOf i4.toArray k4), (l5, listOf i5.toArray k5)] → LawFrom 17 w L fa cdv Q E { s with heap := h, toks := tk }) :
    LawFrom 16 w L fa cdv Q E s := by
  unfold LawFrom lawA lawEnv
  revert X
  k_fill
  intro X
  dsimp only [lawFn, PySem.Challenge.pw_bc0030_01]
  simp only [List.drop_zero, List.drop_succ_cons]
  have hl3 : ((ofN M).take ((ofN M).length - 3)).length ≤ 100 := by simp only [List.length_take]; omega
  walk1
  walk_at "mine steps"
  · rename _ = (0 : Int) => hz
    have hv' := hv (by omega)
    with_unfolding_all refine' slice_to3N (s := ⟨_, _, _, _, _⟩) F N ?d1 hi5 (by omega) ?_ ?d3 ?d4
    case d1 => k_mem
    case d3 => rfl
    case d4 => intro _; rfl
    intro D1 h1 tk1 its1 k1' F1 N1 hi11 l11
    clear F N
    walk_at "mine steps"
    rename Fr _ _ _ _ => F2
    rename News _ _ _ _ => N2
    with_unfolding_all refine' slice_from3N (s := ⟨_, _, _, _, _⟩) F2 N2 ?d5 hi5 (by omega) ?_ ?d6 ?d7
    case d5 => k_mem
    case d6 => rfl
    case d7 => intro _; rfl
    intro D3 h3 tk3 its3 k3' F3 N3 hi33 l33
    clear F2 N2
    walk_at "mine steps"
    rename Fr _ _ _ _ => F9
    rename News _ _ _ _ => N9
    walk1
    exact K _ _ F9 (fun p hp => N9 p (by
      simp only [List.mem_cons, List.not_mem_nil, or_false] at hp ⊢
      rcases hp with h | h | h | h | h | h | h | h | h | h <;> simp [h]))
  · walk1
    walk1
    exact K _ _ F (fun p hp => N p (by
      simp only [List.mem_cons, List.not_mem_nil, or_false] at hp ⊢
      rcases hp with h | h | h | h | h | h | h | h | h | h <;> simp [h]))
end Mine
end

section
open PySem PySem.W PyProof.Rows
namespace Mine
open Rs
open PyProof.Rows.LCg (NsObj lst ns_obj lst_snoc)
local macro_rules | `(tactic| k_mem) => `(tactic| assumption)
local macro_rules | `(tactic| k_all) => `(tactic| (refine' ne_of_all (by assumption) ?_; omega))
local macro_rules | `(tactic| walk_at "mine go") => `(tactic| (first | (k_unfold; (try dsimp only)) | (k_end; wrow_close) | walk1))
local macro_rules | `(tactic| walk_at "mine stop") => `(tactic| ((fail_if_success (with_reducible show wpAny _ _ (execs _ _) _ _ _)); (fail_if_success (with_reducible show wpAny _ _ (eval (Expr.ListComp _ _ _ _) _) _ _ _)); (fail_if_success (with_reducible show wpAny _ _ (pyIter _) _ _ _)); (fail_if_success (with_reducible show wpAny _ _ (binaryOp Operator.Add (Value.ref _) (Value.ref _)) _ _ _)); (fail_if_success (with_reducible show wpAny _ _ (subscriptTail _ (Expr.Slice _ _ _ _) _ _) _ _ _))))
local macro_rules | `(tactic| walk_at "mine steps") => `(tactic| repeat' (walk_at "mine stop"; first | walk_at "mine go" | (dsimp only; walk_at "mine go")))
local macro_rules | `(tactic| walk_at "eval Name") => `(tactic| (k_here; k_dflt (refine' nameX_L ?F ?v ?_ ?a ?b; (case F => k_asm); (case a => rfl); (case b => rfl); (case v => assumption); k_whole)))
local macro_rules | `(tactic| walk_at "binaryOp Add ref ref") => `(tactic| (k_here; k_dflt (refine' addN ?F ?N ?hD ?hi ?hD2 ?hi2 ?hn ?_; (case F => k_asm); (case N => k_asm); (case hD => k_mem); (case hi => l_ints); (case hD2 => k_mem); (case hi2 => l_ints); (case hn => (try simp only [List.length_append, List.length_replicate, KBw.ints_length, List.length_map, List.length_range, List.length_take]); omega)); intro D' h' tk' its' k' F' N' hi' l1'; (try k_lt l1')))
local macro_rules | `(tactic| walk_at "binaryOp Mult ref int") => `(tactic| (k_here; k_dflt (refine' mulN0 ?F ?N ?hD ?h0 ?hx ?_; (case F => k_asm); (case N => k_asm); (case hD => k_mem); (case h0 => first | decide | omega); (case hx => first | decide | omega)); intro D' h' tk' its' k' F' N' hi' l1'; (try k_lt l1')))
local macro_rules | `(tactic| walk_at "subscriptTail Name Constant ref int") => `(tactic| (k_here; k_dflt (refine' told_item ?N ?hD ?hi ?h0 ?h1 ?_ ?hs ?hg; (case N => k_asm); (case hD => k_mem); (case hi => assumption); (case h0 => decide); (case h1 => decide); (case hs => with_unfolding_all rfl); (case hg => intro _; with_unfolding_all rfl)); intro _))
local macro_rules | `(tactic| walk_at "subscriptTail Name BinOp ref int") => `(tactic| (k_here; k_dflt (refine' told_item ?N ?hD ?hi ?h0 ?h1 ?_ ?hs ?hg; (case N => k_asm); (case hD => k_mem); (case hi => assumption); (case h0 => omega); (case h1 => omega); (case hs => with_unfolding_all rfl); (case hg => intro _; with_unfolding_all rfl)); intro _))
local macro_rules | `(tactic| walk_at "binaryOp Mod int int") => `(tactic| (refine mod_int' (by assumption) ?_))
local macro_rules | `(tactic| walk_at "call ref") => `(tactic| (k_here; k_dflt ((refine' create_call _ _ _ _ _ _ _ _ _ _ _ _ _ _ _ _ _ _ _ _ _ _ _ _ ?B ?F ?X ?N ?T ?hk ?hm ?hi ?hl ?hb ?hd ?hu ?hr; (case B => k_asm); (case F => k_asm); (case X => k_asm); (case N => k_asm); (case T => k_asm); (case hk => first | exact rfl | assumption); (case hm => k_mem); (case hi => assumption); (case hl => assumption); (case hb => assumption); (case hd => ktr_room); (case hu => ktr_units))); intro D' h' tk' its' k' F' N' hi' l1'))
local macro_rules | `(tactic| walk_at "call ref") => `(tactic| (k_here; k_dflt ((refine' verify_call _ _ _ _ _ _ _ _ _ _ _ _ _ _ _ _ _ _ _ _ _ _ _ _ ?B ?F ?X ?N ?T ?hk ?hm ?hi ?hl ?hb ?hd ?hu ?hr; (case B => k_asm); (case F => k_asm); (case X => k_asm); (case N => k_asm); (case T => k_asm); (case hk => first | exact rfl | assumption); (case hm => k_mem); (case hi => assumption); (case hl => assumption); (case hb => assumption); (case hd => ktr_room); (case hu => ktr_units))); intro h' tk' F' N'))
local macro_rules | `(tactic| walk_at "call type:zip") => `(tactic| (k_here; k_dflt (refine' zip2N ?hh ?F ?N ?h1 ?h2 ?_; (case hh => exact rfl); (case F => k_asm); (case N => k_asm); (case h1 => k_mem); (case h2 => k_mem)); intro z' h' F' N' R'))
local macro_rules | `(tactic| walk_at "call ref") => `(tactic| (k_here; k_dflt ((refine' times_call _ _ _ _ _ _ _ _ _ _ _ _ _ _ _ _ _ _ _ _ _ _ ?B ?F ?X ?N ?T ?hk ?hx ?hy ?hd ?hu ?hr; (case B => k_asm); (case F => k_asm); (case X => k_asm); (case N => k_asm); (case T => k_asm); (case hk => first | exact rfl | assumption); (case hx => assumption); (case hy => assumption); (case hd => ktr_room); (case hu => ktr_units))); intro t' h' tk' F' N'))
local macro_rules | `(tactic| walk_at "call type:zip") => `(tactic| (k_here; k_dflt (refine' zip3N ?hh ?F ?N ?h1 ?h2 ?h3 ?l2 ?l3 ?_; (case hh => exact rfl); (case F => k_asm); (case N => k_asm); (case h1 => k_mem); (case h2 => k_mem); (case h3 => k_mem); (case l2 => omega); (case l3 => omega)); intro z' h' F' N' R'))

def xor3N (n : Nat) (A1 A2 A3 : List Nat) : List Nat := (List.range n).map fun i => A1.getD i 0 ^^^ A2.getD i 0 ^^^ A3.getD i 0

theorem with_head {P : Prop} {b h : Heap} {L D : Addr} {i : List Value} {k : Nat} {r : List (Addr × Obj)} (N : News b L h ((D, listOf i.toArray k) :: r)) (f : ∀ k, News b L h ((D, listOf i.toArray k) :: r) → P) : P := f k N

theorem piece17 {w : World} {mean : ExcName → Option Value} {mg mb : Str → Option Value} {base : Heap} {L fa : Addr} {cdv : Value} {Q : Flow → Shared → Prop} {E : Value → Shared → Prop} {s : Shared} {m : Str → Option Value} {oB oS oT oN : Obj} {lt : Addr} {its : List Value} {k : Nat} {t : Nat → Nat}
    (B : Below callerA base [] base) (X : (hd.heap_39 w.params).In base) (T : Top hd.view_39 (looseW hd.view_39 []) mean mg mb base) (F : Fr base L s.heap m) {l1 l2 l3 l4 l5 : Addr} {i1 i2 i3 i4 i5 : List Value} {k1 k2 k3 k4 k5 : Nat} (N : Base1 base L s.heap oB oS oT oN lt its k [(l1, listOf i1.toArray k1), (l2, listOf i2.toArray k2), (l3, listOf i3.toArray k3), (l4, listOf i4.toArray k4), (l5, listOf i5.toArray k5)]) {bs : Array UInt8} {tbs : Tok} (dS : oS.data = .cell (some (.bytes bs tbs))) (hbs10 : bs.size ≤ 10) {O1 O2 M : List Nat} (hone : m (Str.ofString "one") = some (.ref l1)) (hother : m (Str.ofString "other") = some (.ref l2)) (hmade : m (Str.ofString "made") = some (.ref l5)) (hi1 : IntsAre i1 (ofN O1)) (hi2 : IntsAre i2 (ofN O2)) (hi5 : IntsAre i5 (ofN M))
    (h12 : O1.length ≤ O2.length) (h13 : O1.length ≤ M.length) (hlt : O1.length ≤ 100)
    (K : ∀ h tk D i7 k7, Fr base L h (fun z => if z = Str.ofString "third" then some (.ref D) else m z) → Base1 base L h oB oS oT oN lt its k [(l1, listOf i1.toArray k1), (l2, listOf i2.toArray k2), (l3, listOf i3.toArray k3), (l4, listOf i4.toArray k4), (l5, listOf i5.toArray k5), (D, listOf i7.toArray k7)] → IntsAre i7 (ckI (KBw.bInts bs) (ofN (xor3N O1.length O1 O2 M))) → LawFrom 18 w L fa cdv Q E { s with heap := h, toks := tk }) :
    LawFrom 17 w L fa cdv Q E s := by
  unfold LawFrom lawA lawEnv
  revert X
  k_fill
  intro X
  dsimp only [lawFn, PySem.Challenge.pw_bc0030_01]
  simp only [List.drop_zero, List.drop_succ_cons]
  have e1 : i1.length = O1.length := by rw [hi1.length]; simp
  have e2 : i2.length = O2.length := by rw [hi2.length]; simp
  have e5 : i5.length = M.length := by rw [hi5.length]; simp
  walk1
  walk_at "mine steps"
  with_unfolding_all refine' ListComp_any (x := [Str.ofString "a", Str.ofString "b", Str.ofString "c"]) F ?e1 ?e2 ?e3 ?e4 ?e5 ?_ (by intro _; rfl)
  case e1 => rfl
  case e2 => decide
  case e3 => rfl
  case e4 => decide
  case e5 => decide
  walk_at "mine steps"
  rename Fr _ _ _ _ => F3
  rename News _ _ _ _ => N3
  rename Ready _ _ _ _ _ _ _ _ _ _ => R3
  rw [e1] at R3
  with_unfolding_all refine iter_ready3 (fun i => ((O1.getD i 0 ^^^ O2.getD i 0 ^^^ M.getD i 0 : Nat) : Int)) rfl F3 N3 R3 (by omega) (by decide) (by decide) (by decide) ?h2 ?turn ?fin
  case h2 =>
    rintro i vals ⟨x, y, v, _, _, _, e⟩
    exact ⟨x, y, v, e⟩
  case turn =>
    rintro i v1 v2 v3 own C oC D mC ys h tk E' hlt1 ⟨x, y, v, hx, hy, hz, e⟩ hC ha hb hc F2 N2
    obtain ⟨rfl, rfl, rfl⟩ : v1 = x ∧ v2 = y ∧ v3 = v := by simpa using e
    obtain ⟨a, ta, ha1, rfl⟩ := ints_getV hi1 hx
    obtain ⟨b, tb2, hb1, rfl⟩ := ints_getV hi2 hy
    obtain ⟨c, tc2, hc1, rfl⟩ := ints_getV hi5 hz
    have ea := ofN_get ha1
    have eb := ofN_get hb1
    have ec := ofN_get hc1
    subst ea eb ec
    clear F3 N3 F N
    walk_at "mine steps"
    refine EltEnd.intro F2 N2 ?_
    rw [bitXor_nat, bitXor_nat]
  case fin =>
    intro ys hy D h' tk F2 N2 ne lt2
    rw [map_ofN O1.length fun i => O1.getD i 0 ^^^ O2.getD i 0 ^^^ M.getD i 0] at hy
    have hy' : IntsAre ys (ofN (xor3N O1.length O1 O2 M)) := hy
    have hl1 : (ofN (xor3N O1.length O1 O2 M)).length ≤ 100 := by simp [xor3N]; omega
    clear hy F3 N3 F N
    walk_at "mine steps"
    rename Fr _ _ _ _ => F9
    rename News _ _ _ _ => N9
    rename IntsAre _ (ckI _ _) => hi9
    refine with_head N9 fun kk N9 => ?_
    exact K _ _ _ _ kk F9 (fun p hp => N9 p (by
      simp only [List.mem_cons, List.not_mem_nil, or_false] at hp ⊢
      rcases hp with h | h | h | h | h | h | h | h | h | h | h <;> simp [h])) hi9
end Mine
end

section
open PySem PySem.W PyProof.Rows
namespace Mine
open Rs
open PyProof.Rows.LCg (NsObj lst ns_obj lst_snoc)
local macro_rules | `(tactic| k_mem) => `(tactic| assumption)
local macro_rules | `(tactic| k_all) => `(tactic| (refine' ne_of_all (by assumption) ?_; omega))
local macro_rules | `(tactic| walk_at "mine go") => `(tactic| (first | (k_unfold; (try dsimp only)) | (k_end; wrow_close) | walk1))
local macro_rules | `(tactic| walk_at "mine stop") => `(tactic| ((fail_if_success (with_reducible show wpAny _ _ (execs _ _) _ _ _)); (fail_if_success (with_reducible show wpAny _ _ (eval (Expr.ListComp _ _ _ _) _) _ _ _)); (fail_if_success (with_reducible show wpAny _ _ (pyIter _) _ _ _)); (fail_if_success (with_reducible show wpAny _ _ (binaryOp Operator.Add (Value.ref _) (Value.ref _)) _ _ _)); (fail_if_success (with_reducible show wpAny _ _ (subscriptTail _ (Expr.Slice _ _ _ _) _ _) _ _ _))))
local macro_rules | `(tactic| walk_at "mine steps") => `(tactic| repeat' (walk_at "mine stop"; first | walk_at "mine go" | (dsimp only; walk_at "mine go")))
local macro_rules | `(tactic| walk_at "eval Name") => `(tactic| (k_here; k_dflt (refine' nameX_L ?F ?v ?_ ?a ?b; (case F => k_asm); (case a => rfl); (case b => rfl); (case v => assumption); k_whole)))
local macro_rules | `(tactic| walk_at "binaryOp Add ref ref") => `(tactic| (k_here; k_dflt (refine' addN ?F ?N ?hD ?hi ?hD2 ?hi2 ?hn ?_; (case F => k_asm); (case N => k_asm); (case hD => k_mem); (case hi => l_ints); (case hD2 => k_mem); (case hi2 => l_ints); (case hn => (try simp only [List.length_append, List.length_replicate, KBw.ints_length, List.length_map, List.length_range, List.length_take]); omega)); intro D' h' tk' its' k' F' N' hi' l1'; (try k_lt l1')))
local macro_rules | `(tactic| walk_at "binaryOp Mult ref int") => `(tactic| (k_here; k_dflt (refine' mulN0 ?F ?N ?hD ?h0 ?hx ?_; (case F => k_asm); (case N => k_asm); (case hD => k_mem); (case h0 => first | decide | omega); (case hx => first | decide | omega)); intro D' h' tk' its' k' F' N' hi' l1'; (try k_lt l1')))
local macro_rules | `(tactic| walk_at "subscriptTail Name Constant ref int") => `(tactic| (k_here; k_dflt (refine' told_item ?N ?hD ?hi ?h0 ?h1 ?_ ?hs ?hg; (case N => k_asm); (case hD => k_mem); (case hi => assumption); (case h0 => decide); (case h1 => decide); (case hs => with_unfolding_all rfl); (case hg => intro _; with_unfolding_all rfl)); intro _))
local macro_rules | `(tactic| walk_at "subscriptTail Name BinOp ref int") => `(tactic| (k_here; k_dflt (refine' told_item ?N ?hD ?hi ?h0 ?h1 ?_ ?hs ?hg; (case N => k_asm); (case hD => k_mem); (case hi => assumption); (case h0 => omega); (case h1 => omega); (case hs => with_unfolding_all rfl); (case hg => intro _; with_unfolding_all rfl)); intro _))
local macro_rules | `(tactic| walk_at "binaryOp Mod int int") => `(tactic| (refine mod_int' (by assumption) ?_))
local macro_rules | `(tactic| walk_at "call ref") => `(tactic| (k_here; k_dflt ((refine' create_call _ _ _ _ _ _ _ _ _ _ _ _ _ _ _ _ _ _ _ _ _ _ _ _ ?B ?F ?X ?N ?T ?hk ?hm ?hi ?hl ?hb ?hd ?hu ?hr; (case B => k_asm); (case F => k_asm); (case X => k_asm); (case N => k_asm); (case T => k_asm); (case hk => first | exact rfl | assumption); (case hm => k_mem); (case hi => assumption); (case hl => assumption); (case hb => assumption); (case hd => ktr_room); (case hu => ktr_units))); intro D' h' tk' its' k' F' N' hi' l1'))
local macro_rules | `(tactic| walk_at "call ref") => `(tactic| (k_here; k_dflt ((refine' verify_call _ _ _ _ _ _ _ _ _ _ _ _ _ _ _ _ _ _ _ _ _ _ _ _ ?B ?F ?X ?N ?T ?hk ?hm ?hi ?hl ?hb ?hd ?hu ?hr; (case B => k_asm); (case F => k_asm); (case X => k_asm); (case N => k_asm); (case T => k_asm); (case hk => first | exact rfl | assumption); (case hm => k_mem); (case hi => assumption); (case hl => assumption); (case hb => assumption); (case hd => ktr_room); (case hu => ktr_units))); intro h' tk' F' N'))
local macro_rules | `(tactic| walk_at "call type:zip") => `(tactic| (k_here; k_dflt (refine' zip2N ?hh ?F ?N ?h1 ?h2 ?_; (case hh => exact rfl); (case F => k_asm); (case N => k_asm); (case h1 => k_mem); (case h2 => k_mem)); intro z' h' F' N' R'))
local macro_rules | `(tactic| walk_at "call ref") => `(tactic| (k_here; k_dflt ((refine' times_call _ _ _ _ _ _ _ _ _ _ _ _ _ _ _ _ _ _ _ _ _ _ ?B ?F ?X ?N ?T ?hk ?hx ?hy ?hd ?hu ?hr; (case B => k_asm); (case F => k_asm); (case X => k_asm); (case N => k_asm); (case T => k_asm); (case hk => first | exact rfl | assumption); (case hx => assumption); (case hy => assumption); (case hd => ktr_room); (case hu => ktr_units))); intro t' h' tk' F' N'))
local macro_rules | `(tactic| walk_at "call type:zip") => `(tactic| (k_here; k_dflt (refine' zip3N ?hh ?F ?N ?h1 ?h2 ?h3 ?l2 ?l3 ?_; (case hh => exact rfl); (case F => k_asm); (case N => k_asm); (case h1 => k_mem); (case h2 => k_mem); (case h3 => k_mem); (case l2 => omega); (case l3 => omega)); intro z' h' F' N' R'))

theorem ck_len (a b : List Int) : (ckI a b).length = 3 := rfl
def xor3I (A1 A2 A3 : List Int) : List Int := (List.range 3).map fun i => Builtin.bitXor (Builtin.bitXor (A1.getD i 0) (A2.getD i 0)) (A3.getD i 0)
theorem get_getD {xs : List Int} {i : Nat} {a : Int} (h : xs[i]? = some a) : a = xs.getD i 0 := by
  rw [List.getD_eq_getElem?_getD, h]; rfl

theorem piece18 {w : World} {mean : ExcName → Option Value} {mg mb : Str → Option Value} {base : Heap} {L fa : Addr} {cdv : Value} {Q : Flow → Shared → Prop} {E : Value → Shared → Prop} {s : Shared} {m : Str → Option Value} {oB oS oT oN : Obj} {lt : Addr} {its : List Value} {k : Nat} {t : Nat → Nat}
    (B : Below callerA base [] base) (X : (hd.heap_39 w.params).In base) (T : Top hd.view_39 (looseW hd.view_39 []) mean mg mb base) (F : Fr base L s.heap m) {l1 l2 l3 l4 l5 l7 : Addr} {i1 i2 i3 i4 i5 i7 : List Value} {k1 k2 k3 k4 k5 k7 : Nat} (N : Base1 base L s.heap oB oS oT oN lt its k [(l1, listOf i1.toArray k1), (l2, listOf i2.toArray k2), (l3, listOf i3.toArray k3), (l4, listOf i4.toArray k4), (l5, listOf i5.toArray k5), (l7, listOf i7.toArray k7)]) {bs : Array UInt8} {tbs : Tok} (dS : oS.data = .cell (some (.bytes bs tbs))) (hbs10 : bs.size ≤ 10) {A1 A2 M : List Nat} {c3 : List Int} (hfirst : m (Str.ofString "first") = some (.ref l3)) (hsecond : m (Str.ofString "second") = some (.ref l4)) (hmade : m (Str.ofString "made") = some (.ref l5)) (hthird : m (Str.ofString "third") = some (.ref l7))
    (hi3 : IntsAre i3 (ofN A1)) (hi4 : IntsAre i4 (ofN A2)) (hi5 : IntsAre i5 (ofN M)) (hi7 : IntsAre i7 c3) (hc3 : c3.length = 3)
    (hA1 : 3 ≤ A1.length) (hA2 : 3 ≤ A2.length) (hA1' : A1.length ≤ 100) (hA2' : A2.length ≤ 100) (hlt : (ofN M).length ≤ 100)
    (hv : c3 = xor3I ((ofN A1).drop ((ofN A1).length - 3)) ((ofN A2).drop ((ofN A2).length - 3)) (ckI (KBw.bInts bs) ((ofN M).take ((ofN M).length - 3))))
    (K : ∀ h tk, Fr base L h m → Base1 base L h oB oS oT oN lt its k [(l1, listOf i1.toArray k1), (l2, listOf i2.toArray k2), (l3, listOf i3.toArray k3), (l4, listOf i4.toArray k4), (l5, listOf i5.toArray k5)] → LawFrom 19 w L fa cdv Q E { s with heap := h, toks := tk }) :
    LawFrom 18 w L fa cdv Q E s := by
  unfold LawFrom lawA lawEnv
  revert X
  k_fill
  intro X
  dsimp only [lawFn, PySem.Challenge.pw_bc0030_01]
  simp only [List.drop_zero, List.drop_succ_cons]
  have hl3 : ((ofN M).take ((ofN M).length - 3)).length ≤ 100 := by simp only [List.length_take]; omega
  have n1 : (ofN A1).length = A1.length := by simp
  have n2 : (ofN A2).length = A2.length := by simp
  walk1
  walk_at "mine steps"
  with_unfolding_all refine' ListComp_any (x := [Str.ofString "a", Str.ofString "b", Str.ofString "c"]) F ?e1 ?e2 ?e3 ?e4 ?e5 ?_ (by intro _; rfl)
  case e1 => rfl
  case e2 => decide
  case e3 => rfl
  case e4 => decide
  case e5 => decide
  walk_at "mine steps"
  with_unfolding_all refine' slice_from3N (s := ⟨_, _, _, _, _⟩) F N ?d1 hi3 (by omega) ?_ ?d3 ?d4
  case d1 => k_mem
  case d3 => rfl
  case d4 => intro _; rfl
  intro D1 h1 tk1 its1 k1' F1 N1 hi11 l11
  clear F N
  walk_at "mine steps"
  with_unfolding_all refine' slice_from3N (s := ⟨_, _, _, _, _⟩) F1 N1 ?d1 hi4 (by omega) ?_ ?d3 ?d4
  case d1 => k_mem
  case d3 => rfl
  case d4 => intro _; rfl
  intro D2 h2 tk2 its2 k2' F2 N2 hi12 l12
  clear F1 N1
  walk_at "mine steps"
  with_unfolding_all refine' slice_to3N (s := ⟨_, _, _, _, _⟩) F2 N2 ?d1 hi5 (by omega) ?_ ?d3 ?d4
  case d1 => k_mem
  case d3 => rfl
  case d4 => intro _; rfl
  intro D3 h3 tk3 its3 k3' F3 N3 hi13 l13
  clear F2 N2
  have e1 : its1.length = 3 := by rw [hi11.length, List.length_drop]; omega
  have e2 : its2.length = 3 := by rw [hi12.length, List.length_drop]; omega
  walk_at "mine steps"
  rename IntsAre _ (ckI _ _) => hi14
  have e3 := hi14.length
  rw [ck_len] at e3
  walk_at "mine steps"
  rename Fr _ _ _ _ => F3
  rename News _ _ _ _ => N3
  rename Ready _ _ _ _ _ _ _ _ _ _ => R3
  rw [e1] at R3
  with_unfolding_all refine iter_ready3 (fun i => Builtin.bitXor (Builtin.bitXor (((ofN A1).drop ((ofN A1).length - 3)).getD i 0) (((ofN A2).drop ((ofN A2).length - 3)).getD i 0)) ((ckI (KBw.bInts bs) ((ofN M).take ((ofN M).length - 3))).getD i 0)) rfl F3 N3 R3 (by omega) (by decide) (by decide) (by decide) ?h2 ?turn ?fin
  case h2 =>
    rintro i vals ⟨x, y, v, _, _, _, e⟩
    exact ⟨x, y, v, e⟩
  case turn =>
    rintro i v1 v2 v3 own C oC D mC ys h tk E' hlt1 ⟨x, y, v, hx, hy, hz, e⟩ hC ha hb hc F2 N2
    obtain ⟨rfl, rfl, rfl⟩ : v1 = x ∧ v2 = y ∧ v3 = v := by simpa using e
    obtain ⟨a, ta, ha1, rfl⟩ := ints_getV hi11 hx
    obtain ⟨b, tb2, hb1, rfl⟩ := ints_getV hi12 hy
    obtain ⟨c, tc2, hc1, rfl⟩ := ints_getV hi14 hz
    have ea := get_getD ha1
    have eb := get_getD hb1
    have ec := get_getD hc1
    clear F3 N3
    walk_at "mine steps"
    refine EltEnd.intro F2 N2 ?_
    rw [ea, eb, ec]
  case fin =>
    intro ys hy D h' tk F2 N2 ne lt2
    have hy' : IntsAre ys c3 := by
      rw [hv]; exact hy
    have N5 : News base L h' ((D, listOf ys.toArray ys.length) :: cells4 L oB oS oT oN ((lt, listOf its.toArray k) :: [(l1, listOf i1.toArray k1), (l2, listOf i2.toArray k2), (l3, listOf i3.toArray k3), (l4, listOf i4.toArray k4), (l5, listOf i5.toArray k5), (l7, listOf i7.toArray k7)])) := fun p hp => N2 p (by
      simp only [List.mem_cons, List.not_mem_nil, or_false] at hp ⊢
      rcases hp with h | h | h | h | h | h | h | h | h | h | h | h <;> simp [h])
    clear hy F3 N3 hv N2 ne lt2
    with_unfolding_all refine' ne_intsK (isList_of (k := k7) N5 ?m1) hi7 (isList_of (k := ys.length) N5 ?m2) hy' ?u ?_
    case m1 => simp
    case m2 => exact .head _
    case u => units_room
    rw [decide_eq_true rfl]
    walk_at "mine steps"
    walk1
    exact K _ _ F2 (fun p hp => N5 p (by
      simp only [List.mem_cons, List.not_mem_nil, or_false] at hp ⊢
      rcases hp with h | h | h | h | h | h | h | h | h | h <;> simp [h]))
end Mine
end

section
open PySem PySem.W PyProof.Rows
namespace Mine
open Rs
open PyProof.Rows.LCg (NsObj lst ns_obj lst_snoc)
local macro_rules | `(tactic| k_mem) => `(tactic| assumption)
local macro_rules | `(tactic| k_all) => `(tactic| (refine' ne_of_all (by assumption) ?_; omega))
local macro_rules | `(tactic| walk_at "mine go") => `(tactic| (first | (k_unfold; (try dsimp only)) | (k_end; wrow_close) | walk1))
local macro_rules | `(tactic| walk_at "mine stop") => `(tactic| ((fail_if_success (with_reducible show wpAny _ _ (execs _ _) _ _ _)); (fail_if_success (with_reducible show wpAny _ _ (eval (Expr.ListComp _ _ _ _) _) _ _ _)); (fail_if_success (with_reducible show wpAny _ _ (pyIter _) _ _ _)); (fail_if_success (with_reducible show wpAny _ _ (binaryOp Operator.Add (Value.ref _) (Value.ref _)) _ _ _)); (fail_if_success (with_reducible show wpAny _ _ (subscriptTail _ (Expr.Slice _ _ _ _) _ _) _ _ _))))
local macro_rules | `(tactic| walk_at "mine steps") => `(tactic| repeat' (walk_at "mine stop"; first | walk_at "mine go" | (dsimp only; walk_at "mine go")))
local macro_rules | `(tactic| walk_at "eval Name") => `(tactic| (k_here; k_dflt (refine' nameX_L ?F ?v ?_ ?a ?b; (case F => k_asm); (case a => rfl); (case b => rfl); (case v => assumption); k_whole)))
local macro_rules | `(tactic| walk_at "binaryOp Add ref ref") => `(tactic| (k_here; k_dflt (refine' addN ?F ?N ?hD ?hi ?hD2 ?hi2 ?hn ?_; (case F => k_asm); (case N => k_asm); (case hD => k_mem); (case hi => l_ints); (case hD2 => k_mem); (case hi2 => l_ints); (case hn => (try simp only [List.length_append, List.length_replicate, KBw.ints_length, List.length_map, List.length_range, List.length_take]); omega)); intro D' h' tk' its' k' F' N' hi' l1'; (try k_lt l1')))
local macro_rules | `(tactic| walk_at "binaryOp Mult ref int") => `(tactic| (k_here; k_dflt (refine' mulN0 ?F ?N ?hD ?h0 ?hx ?_; (case F => k_asm); (case N => k_asm); (case hD => k_mem); (case h0 => first | decide | omega); (case hx => first | decide | omega)); intro D' h' tk' its' k' F' N' hi' l1'; (try k_lt l1')))
local macro_rules | `(tactic| walk_at "subscriptTail Name Constant ref int") => `(tactic| (k_here; k_dflt (refine' told_item ?N ?hD ?hi ?h0 ?h1 ?_ ?hs ?hg; (case N => k_asm); (case hD => k_mem); (case hi => assumption); (case h0 => decide); (case h1 => decide); (case hs => with_unfolding_all rfl); (case hg => intro _; with_unfolding_all rfl)); intro _))
local macro_rules | `(tactic| walk_at "subscriptTail Name BinOp ref int") => `(tactic| (k_here; k_dflt (refine' told_item ?N ?hD ?hi ?h0 ?h1 ?_ ?hs ?hg; (case N => k_asm); (case hD => k_mem); (case hi => assumption); (case h0 => omega); (case h1 => omega); (case hs => with_unfolding_all rfl); (case hg => intro _; with_unfolding_all rfl)); intro _))
local macro_rules | `(tactic| walk_at "binaryOp Mod int int") => `(tactic| (refine mod_int' (by assumption) ?_))
local macro_rules | `(tactic| walk_at "call ref") => `(tactic| (k_here; k_dflt ((refine' create_call _ _ _ _ _ _ _ _ _ _ _ _ _ _ _ _ _ _ _ _ _ _ _ _ ?B ?F ?X ?N ?T ?hk ?hm ?hi ?hl ?hb ?hd ?hu ?hr; (case B => k_asm); (case F => k_asm); (case X => k_asm); (case N => k_asm); (case T => k_asm); (case hk => first | exact rfl | assumption); (case hm => k_mem); (case hi => assumption); (case hl => assumption); (case hb => assumption); (case hd => ktr_room); (case hu => ktr_units))); intro D' h' tk' its' k' F' N' hi' l1'))
local macro_rules | `(tactic| walk_at "call ref") => `(tactic| (k_here; k_dflt ((refine' verify_call _ _ _ _ _ _ _ _ _ _ _ _ _ _ _ _ _ _ _ _ _ _ _ _ ?B ?F ?X ?N ?T ?hk ?hm ?hi ?hl ?hb ?hd ?hu ?hr; (case B => k_asm); (case F => k_asm); (case X => k_asm); (case N => k_asm); (case T => k_asm); (case hk => first | exact rfl | assumption); (case hm => k_mem); (case hi => assumption); (case hl => assumption); (case hb => assumption); (case hd => ktr_room); (case hu => ktr_units))); intro h' tk' F' N'))
local macro_rules | `(tactic| walk_at "call type:zip") => `(tactic| (k_here; k_dflt (refine' zip2N ?hh ?F ?N ?h1 ?h2 ?_; (case hh => exact rfl); (case F => k_asm); (case N => k_asm); (case h1 => k_mem); (case h2 => k_mem)); intro z' h' F' N' R'))
local macro_rules | `(tactic| walk_at "call ref") => `(tactic| (k_here; k_dflt ((refine' times_call _ _ _ _ _ _ _ _ _ _ _ _ _ _ _ _ _ _ _ _ _ _ ?B ?F ?X ?N ?T ?hk ?hx ?hy ?hd ?hu ?hr; (case B => k_asm); (case F => k_asm); (case X => k_asm); (case N => k_asm); (case T => k_asm); (case hk => first | exact rfl | assumption); (case hx => assumption); (case hy => assumption); (case hd => ktr_room); (case hu => ktr_units))); intro t' h' tk' F' N'))
local macro_rules | `(tactic| walk_at "call builtin:len") => `(tactic| (k_here; (with_reducible show wpAny _ _ (call (Value.builtin "len") [Value.ref _]) _ _ _); k_dflt (refine' KM.len_K ?k1 ?k2 ?k3 ?k4 ?_; (case k1 => k_asm); (case k2 => k_mem); (case k3 => assumption); (case k4 => omega))))
local macro_rules | `(tactic| walk_at "setItem ref int") => `(tactic| (k_here; (with_reducible show wpAny _ _ (setItem (Value.ref _) (Value.int _ _) (Value.int _ _)) _ _ _); k_dflt (refine' ksa_set ?k1 ?k2 ?k3 ?k4 ?k5 ?k6 ?k7 ?_; (case k1 => k_asm); (case k2 => k_asm); (case k3 => k_upd); (case k4 => with_reducible assumption); (case k5 => omega); (case k6 => omega); (case k7 => omega)); intro h' F' N' hi' hl' hs'))
local macro_rules | `(tactic| walk_at "subscriptTail Name Name ref int") => `(tactic| (k_here; k_dflt (refine' ksa_sub ?k1 ?k2 ?k3 ?k4 ?k5 ?k6 ?_ ?k7; (case k1 => k_asm); (case k2 => k_mem); (case k3 => with_reducible assumption); (case k4 => omega); (case k5 => omega); (case k6 => omega); (case k7 => with_unfolding_all rfl)); intro _))

theorem piece19 {w : World} {mean : ExcName → Option Value} {mg mb : Str → Option Value} {base : Heap} {L fa : Addr} {cdv : Value} {Q : Flow → Shared → Prop} {E : Value → Shared → Prop} {s : Shared} {m : Str → Option Value} {oB oS oT oN : Obj} {lt : Addr} {its : List Value} {k : Nat} {t : Nat → Nat}
    (B : Below callerA base [] base) (X : (hd.heap_39 w.params).In base) (T : Top hd.view_39 (looseW hd.view_39 []) mean mg mb base) (F : Fr base L s.heap m) {l5 : Addr} {i5 : List Value} {k5 : Nat} (N : Base1 base L s.heap oB oS oT oN lt its k [(l5, listOf i5.toArray k5)]) {M : List Nat} (dT : oT.data = .cell (some (.ref lt))) (hi : IntsAre its ((List.range 24).map fun i => (t i : Int)))
    (hmade : m (Str.ofString "made") = some (.ref l5)) (hi5 : IntsAre i5 (ofN M)) (hlt : M.length ≤ 100) (hpos : 0 < M.length)
    (K : ∀ h tk tp tq, Fr base L h (fun z => if z = Str.ofString "place" then some (.int ((t 2 % M.length : Nat) : Int) tp) else if z = Str.ofString "other" then some (.int ((t 3 / 4 % M.length : Nat) : Int) tq) else m z) → Base1 base L h oB oS oT oN lt its k [(l5, listOf i5.toArray k5)] → LawFrom 20 w L fa cdv Q E { s with heap := h, toks := tk }) :
    LawFrom 19 w L fa cdv Q E s := by
  unfold LawFrom lawA lawEnv
  revert X
  k_fill
  intro X
  dsimp only [lawFn, PySem.Challenge.pw_bc0030_01]
  simp only [List.drop_zero, List.drop_succ_cons]
  have e5 : i5.length = M.length := by rw [hi5.length]; simp
  have hm0 : (M.length : Int) ≠ 0 := by omega
  have hs5 : i5.toArray.size = M.length := by rw [List.size_toArray]; exact e5
  walk1
  walk_at "mine steps"
  rename Fr _ _ _ _ => F9
  rename News _ _ _ _ => N9
  have h1 : (t (Int.toNat 2) : Int).fmod (M.length : Int) = ((t 2 % M.length : Nat) : Int) := fmod_nat (t 2) M.length
  have h2 : ((t (Int.toNat 3) : Int).fdiv 4).fmod (M.length : Int) = ((t 3 / 4 % M.length : Nat) : Int) := by
    have h8 : (t (Int.toNat 3) : Int).fdiv 4 = ((t 3 / 4 : Nat) : Int) := fdiv_nat (t 3) 4
    rw [h8]
    exact fmod_nat _ _
  rw [h1, h2] at F9
  exact K _ _ _ _ F9 (fun p hp => N9 p (by
      simp only [List.mem_cons, List.not_mem_nil, or_false] at hp ⊢
      rcases hp with h | h | h | h | h | h <;> simp [h]))
end Mine
end

section
open PySem PySem.W PyProof.Rows
namespace Mine
open Rs
open PyProof.Rows.LCg (NsObj lst ns_obj lst_snoc)
local macro_rules | `(tactic| k_mem) => `(tactic| assumption)
local macro_rules | `(tactic| k_all) => `(tactic| (refine' ne_of_all (by assumption) ?_; omega))
local macro_rules | `(tactic| walk_at "mine go") => `(tactic| (first | (k_unfold; (try dsimp only)) | (k_end; wrow_close) | walk1))
local macro_rules | `(tactic| walk_at "mine stop") => `(tactic| ((fail_if_success (with_reducible show wpAny _ _ (execs _ _) _ _ _)); (fail_if_success (with_reducible show wpAny _ _ (eval (Expr.ListComp _ _ _ _) _) _ _ _)); (fail_if_success (with_reducible show wpAny _ _ (pyIter _) _ _ _)); (fail_if_success (with_reducible show wpAny _ _ (binaryOp Operator.Add (Value.ref _) (Value.ref _)) _ _ _)); (fail_if_success (with_reducible show wpAny _ _ (subscriptTail _ (Expr.Slice _ _ _ _) _ _) _ _ _))))
local macro_rules | `(tactic| walk_at "mine steps") => `(tactic| repeat' (walk_at "mine stop"; first | walk_at "mine go" | (dsimp only; walk_at "mine go")))
local macro_rules | `(tactic| walk_at "eval Name") => `(tactic| (k_here; k_dflt (refine' nameX_L ?F ?v ?_ ?a ?b; (case F => k_asm); (case a => rfl); (case b => rfl); (case v => assumption); k_whole)))
local macro_rules | `(tactic| walk_at "binaryOp Add ref ref") => `(tactic| (k_here; k_dflt (refine' addN ?F ?N ?hD ?hi ?hD2 ?hi2 ?hn ?_; (case F => k_asm); (case N => k_asm); (case hD => k_mem); (case hi => l_ints); (case hD2 => k_mem); (case hi2 => l_ints); (case hn => (try simp only [List.length_append, List.length_replicate, KBw.ints_length, List.length_map, List.length_range, List.length_take]); omega)); intro D' h' tk' its' k' F' N' hi' l1'; (try k_lt l1')))
local macro_rules | `(tactic| walk_at "binaryOp Mult ref int") => `(tactic| (k_here; k_dflt (refine' mulN0 ?F ?N ?hD ?h0 ?hx ?_; (case F => k_asm); (case N => k_asm); (case hD => k_mem); (case h0 => first | decide | omega); (case hx => first | decide | omega)); intro D' h' tk' its' k' F' N' hi' l1'; (try k_lt l1')))
local macro_rules | `(tactic| walk_at "subscriptTail Name Constant ref int") => `(tactic| (k_here; k_dflt (refine' told_item ?N ?hD ?hi ?h0 ?h1 ?_ ?hs ?hg; (case N => k_asm); (case hD => k_mem); (case hi => assumption); (case h0 => decide); (case h1 => decide); (case hs => with_unfolding_all rfl); (case hg => intro _; with_unfolding_all rfl)); intro _))
local macro_rules | `(tactic| walk_at "subscriptTail Name BinOp ref int") => `(tactic| (k_here; k_dflt (refine' told_item ?N ?hD ?hi ?h0 ?h1 ?_ ?hs ?hg; (case N => k_asm); (case hD => k_mem); (case hi => assumption); (case h0 => omega); (case h1 => omega); (case hs => with_unfolding_all rfl); (case hg => intro _; with_unfolding_all rfl)); intro _))
local macro_rules | `(tactic| walk_at "binaryOp Mod int int") => `(tactic| (refine mod_int' (by assumption) ?_))
local macro_rules | `(tactic| walk_at "call ref") => `(tactic| (k_here; k_dflt ((refine' create_call _ _ _ _ _ _ _ _ _ _ _ _ _ _ _ _ _ _ _ _ _ _ _ _ ?B ?F ?X ?N ?T ?hk ?hm ?hi ?hl ?hb ?hd ?hu ?hr; (case B => k_asm); (case F => k_asm); (case X => k_asm); (case N => k_asm); (case T => k_asm); (case hk => first | exact rfl | assumption); (case hm => k_mem); (case hi => assumption); (case hl => assumption); (case hb => assumption); (case hd => ktr_room); (case hu => ktr_units))); intro D' h' tk' its' k' F' N' hi' l1'))
local macro_rules | `(tactic| walk_at "call ref") => `(tactic| (k_here; k_dflt ((refine' verify_call _ _ _ _ _ _ _ _ _ _ _ _ _ _ _ _ _ _ _ _ _ _ _ _ ?B ?F ?X ?N ?T ?hk ?hm ?hi ?hl ?hb ?hd ?hu ?hr; (case B => k_asm); (case F => k_asm); (case X => k_asm); (case N => k_asm); (case T => k_asm); (case hk => first | exact rfl | assumption); (case hm => k_mem); (case hi => assumption); (case hl => assumption); (case hb => assumption); (case hd => ktr_room); (case hu => ktr_units))); intro h' tk' F' N'))
local macro_rules | `(tactic| walk_at "call type:zip") => `(tactic| (k_here; k_dflt (refine' zip2N ?hh ?F ?N ?h1 ?h2 ?_; (case hh => exact rfl); (case F => k_asm); (case N => k_asm); (case h1 => k_mem); (case h2 => k_mem)); intro z' h' F' N' R'))
local macro_rules | `(tactic| walk_at "call ref") => `(tactic| (k_here; k_dflt ((refine' times_call _ _ _ _ _ _ _ _ _ _ _ _ _ _ _ _ _ _ _ _ _ _ ?B ?F ?X ?N ?T ?hk ?hx ?hy ?hd ?hu ?hr; (case B => k_asm); (case F => k_asm); (case X => k_asm); (case N => k_asm); (case T => k_asm); (case hk => first | exact rfl | assumption); (case hx => assumption); (case hy => assumption); (case hd => ktr_room); (case hu => ktr_units))); intro t' h' tk' F' N'))
local macro_rules | `(tactic| walk_at "call builtin:len") => `(tactic| (k_here; (with_reducible show wpAny _ _ (call (Value.builtin "len") [Value.ref _]) _ _ _); k_dflt (refine' KM.len_K ?k1 ?k2 ?k3 ?k4 ?_; (case k1 => k_asm); (case k2 => k_mem); (case k3 => assumption); (case k4 => omega))))
local macro_rules | `(tactic| walk_at "setItem ref int") => `(tactic| (k_here; (with_reducible show wpAny _ _ (setItem (Value.ref _) (Value.int _ _) (Value.int _ _)) _ _ _); k_dflt (refine' ksa_set ?k1 ?k2 ?k3 ?k4 ?k5 ?k6 ?k7 ?_; (case k1 => k_asm); (case k2 => k_asm); (case k3 => k_upd); (case k4 => with_reducible assumption); (case k5 => omega); (case k6 => omega); (case k7 => omega)); intro h' F' N' hi' hl' hs'))
local macro_rules | `(tactic| walk_at "subscriptTail Name Name ref int") => `(tactic| (k_here; k_dflt (refine' ksa_sub ?k1 ?k2 ?k3 ?k4 ?k5 ?k6 ?_ ?k7; (case k1 => k_asm); (case k2 => k_mem); (case k3 => with_reducible assumption); (case k4 => omega); (case k5 => omega); (case k6 => omega); (case k7 => with_unfolding_all rfl)); intro _))

theorem ofN_set (xs : List Nat) (p x : Nat) : (ofN xs).set p (x : Int) = ofN (xs.set p x) := by unfold ofN; rw [List.map_set]
theorem ofN_getD (xs : List Nat) (p : Nat) : (ofN xs).getD p 0 = ((xs.getD p 0 : Nat) : Int) := by
  rw [List.getD_eq_getElem?_getD, List.getD_eq_getElem?_getD]
  unfold ofN
  rw [List.getElem?_map]
  cases xs[p]? <;> rfl

theorem piece20 {w : World} {mean : ExcName → Option Value} {mg mb : Str → Option Value} {base : Heap} {L fa : Addr} {cdv : Value} {Q : Flow → Shared → Prop} {E : Value → Shared → Prop} {s : Shared} {m : Str → Option Value} {oB oS oT oN : Obj} {lt : Addr} {its : List Value} {k : Nat} {t : Nat → Nat}
    (B : Below callerA base [] base) (X : (hd.heap_39 w.params).In base) (T : Top hd.view_39 (looseW hd.view_39 []) mean mg mb base) (F : Fr base L s.heap m) {l5 : Addr} {i5 : List Value} {k5 : Nat} (N : Base1 base L s.heap oB oS oT oN lt its k [(l5, listOf i5.toArray k5)]) {M : List Nat} {p : Nat} {tp : Tok} (o5 : Over L l5) (ol : @LT.lt Nat _ lt l5) (dT : oT.data = .cell (some (.ref lt))) (hi : IntsAre its ((List.range 24).map fun i => (t i : Int)))
    (hmade : m (Str.ofString "made") = some (.ref l5)) (hplace : m (Str.ofString "place") = some (.int (p : Int) tp)) (hi5 : IntsAre i5 (ofN M)) (hlt : M.length ≤ 100) (hp : p < M.length)
    (K : ∀ h tk i5, Fr base L h m → Base1 base L h oB oS oT oN lt its k [(l5, listOf i5.toArray k5)] → IntsAre i5 (ofN (M.set p (M.getD p 0 ^^^ (1 + t 2 / 16 % 1023)))) → LawFrom 21 w L fa cdv Q E { s with heap := h, toks := tk }) :
    LawFrom 20 w L fa cdv Q E s := by
  unfold LawFrom lawA lawEnv
  revert X
  k_fill
  intro X
  dsimp only [lawFn, PySem.Challenge.pw_bc0030_01]
  simp only [List.drop_zero, List.drop_succ_cons]
  have p5 : L + 1 + 1 + 1 + 1 < l5 := o5
  have plt : lt < l5 := ol
  have hlM : (ofN M).length = M.length := by simp
  have N0 : News base L s.heap ((L + 1 + 1 + 1 + 1, oB) :: (L + 1 + 1 + 1, oS) :: (L + 1 + 1, oT) :: (L + 1, oN) :: (lt, listOf its.toArray k) :: [(l5, listOf i5.toArray k5)]) := N
  clear N
  walk1
  walk_at "mine steps"
  rename Fr _ _ _ _ => F9
  rename News _ _ _ _ => N9
  rename IntsAre (List.set _ _ _) _ => hi9
  have h10 : (1 + ((t (Int.toNat 2) : Int).fdiv 16).fmod 1023) = ((1 + t 2 / 16 % 1023 : Nat) : Int) := by
    have h8 : (t (Int.toNat 2) : Int).fdiv 16 = ((t 2 / 16 : Nat) : Int) := fdiv_nat (t 2) 16
    have h9 : ((t 2 / 16 : Nat) : Int).fmod 1023 = ((t 2 / 16 % 1023 : Nat) : Int) := fmod_nat (t 2 / 16) 1023
    rw [h8, h9]
    omega
  have e : (ofN M).set (Int.toNat (p : Int)) (Builtin.bitXor ((ofN M).getD (Int.toNat (p : Int)) 0) (1 + ((t (Int.toNat 2) : Int).fdiv 16).fmod 1023)) = ofN (M.set p (M.getD p 0 ^^^ (1 + t 2 / 16 % 1023))) := by
    rw [h10, Int.toNat_natCast, ofN_getD, bitXor_nat, ofN_set]
  rw [e] at hi9
  exact K _ _ _ F9 (fun p hp => N9 p (by
      simp only [List.mem_cons, List.not_mem_nil, or_false] at hp ⊢
      rcases hp with h | h | h | h | h | h <;> simp [h])) hi9

theorem piece21 {w : World} {mean : ExcName → Option Value} {mg mb : Str → Option Value} {base : Heap} {L fa : Addr} {cdv : Value} {Q : Flow → Shared → Prop} {E : Value → Shared → Prop} {s : Shared} {m : Str → Option Value} {oB oS oT oN : Obj} {lt : Addr} {its : List Value} {k : Nat} {t : Nat → Nat}
    (B : Below callerA base [] base) (X : (hd.heap_39 w.params).In base) (T : Top hd.view_39 (looseW hd.view_39 []) mean mg mb base) (F : Fr base L s.heap m) {l5 : Addr} {i5 : List Value} {k5 : Nat} (N : Base1 base L s.heap oB oS oT oN lt its k [(l5, listOf i5.toArray k5)]) {bs : Array UInt8} {tbs : Tok} (dS : oS.data = .cell (some (.bytes bs tbs))) (hbs10 : bs.size ≤ 10) {M : List Nat}
    (hmade : m (Str.ofString "made") = some (.ref l5)) (hi5 : IntsAre i5 (ofN M)) (hlt : (ofN M).length ≤ 100) (hv : (pmI (KBw.bInts bs ++ ofN M) == 1) = false)
    (K : ∀ h tk, Fr base L h (fun z => if z = Str.ofString "refused" then some (.bool false) else m z) → Base1 base L h oB oS oT oN lt its k [(l5, listOf i5.toArray k5)] → LawFrom 22 w L fa cdv Q E { s with heap := h, toks := tk }) :
    LawFrom 21 w L fa cdv Q E s := by
  unfold LawFrom lawA lawEnv
  revert X
  k_fill
  intro X
  dsimp only [lawFn, PySem.Challenge.pw_bc0030_01]
  simp only [List.drop_zero, List.drop_succ_cons]
  walk1
  walk_at "mine steps"
  rename Fr _ _ _ _ => F9
  rename News _ _ _ _ => N9
  rw [hv] at F9
  exact K _ _ F9 (fun p hp => N9 p (by
      simp only [List.mem_cons, List.not_mem_nil, or_false] at hp ⊢
      rcases hp with h | h | h | h | h | h <;> simp [h]))
end Mine
end

section
open PySem PySem.W PyProof.Rows
namespace Mine
open Rs
open PyProof.Rows.LCg (NsObj lst ns_obj lst_snoc)
local macro_rules | `(tactic| k_mem) => `(tactic| assumption)
local macro_rules | `(tactic| k_all) => `(tactic| (refine' ne_of_all (by assumption) ?_; omega))
local macro_rules | `(tactic| walk_at "mine go") => `(tactic| (first | (k_unfold; (try dsimp only)) | (k_end; wrow_close) | walk1))
local macro_rules | `(tactic| walk_at "mine stop") => `(tactic| ((fail_if_success (with_reducible show wpAny _ _ (execs _ _) _ _ _)); (fail_if_success (with_reducible show wpAny _ _ (eval (Expr.ListComp _ _ _ _) _) _ _ _)); (fail_if_success (with_reducible show wpAny _ _ (pyIter _) _ _ _)); (fail_if_success (with_reducible show wpAny _ _ (binaryOp Operator.Add (Value.ref _) (Value.ref _)) _ _ _)); (fail_if_success (with_reducible show wpAny _ _ (subscriptTail _ (Expr.Slice _ _ _ _) _ _) _ _ _))))
local macro_rules | `(tactic| walk_at "mine steps") => `(tactic| repeat' (walk_at "mine stop"; first | walk_at "mine go" | (dsimp only; walk_at "mine go")))
local macro_rules | `(tactic| walk_at "eval Name") => `(tactic| (k_here; k_dflt (refine' nameX_L ?F ?v ?_ ?a ?b; (case F => k_asm); (case a => rfl); (case b => rfl); (case v => assumption); k_whole)))
local macro_rules | `(tactic| walk_at "binaryOp Add ref ref") => `(tactic| (k_here; k_dflt (refine' addN ?F ?N ?hD ?hi ?hD2 ?hi2 ?hn ?_; (case F => k_asm); (case N => k_asm); (case hD => k_mem); (case hi => l_ints); (case hD2 => k_mem); (case hi2 => l_ints); (case hn => (try simp only [List.length_append, List.length_replicate, KBw.ints_length, List.length_map, List.length_range, List.length_take]); omega)); intro D' h' tk' its' k' F' N' hi' l1'; (try k_lt l1')))
local macro_rules | `(tactic| walk_at "binaryOp Mult ref int") => `(tactic| (k_here; k_dflt (refine' mulN0 ?F ?N ?hD ?h0 ?hx ?_; (case F => k_asm); (case N => k_asm); (case hD => k_mem); (case h0 => first | decide | omega); (case hx => first | decide | omega)); intro D' h' tk' its' k' F' N' hi' l1'; (try k_lt l1')))
local macro_rules | `(tactic| walk_at "subscriptTail Name Constant ref int") => `(tactic| (k_here; k_dflt (refine' told_item ?N ?hD ?hi ?h0 ?h1 ?_ ?hs ?hg; (case N => k_asm); (case hD => k_mem); (case hi => assumption); (case h0 => decide); (case h1 => decide); (case hs => with_unfolding_all rfl); (case hg => intro _; with_unfolding_all rfl)); intro _))
local macro_rules | `(tactic| walk_at "subscriptTail Name BinOp ref int") => `(tactic| (k_here; k_dflt (refine' told_item ?N ?hD ?hi ?h0 ?h1 ?_ ?hs ?hg; (case N => k_asm); (case hD => k_mem); (case hi => assumption); (case h0 => omega); (case h1 => omega); (case hs => with_unfolding_all rfl); (case hg => intro _; with_unfolding_all rfl)); intro _))
local macro_rules | `(tactic| walk_at "binaryOp Mod int int") => `(tactic| (refine mod_int' (by assumption) ?_))
local macro_rules | `(tactic| walk_at "call ref") => `(tactic| (k_here; k_dflt ((refine' create_call _ _ _ _ _ _ _ _ _ _ _ _ _ _ _ _ _ _ _ _ _ _ _ _ ?B ?F ?X ?N ?T ?hk ?hm ?hi ?hl ?hb ?hd ?hu ?hr; (case B => k_asm); (case F => k_asm); (case X => k_asm); (case N => k_asm); (case T => k_asm); (case hk => first | exact rfl | assumption); (case hm => k_mem); (case hi => assumption); (case hl => assumption); (case hb => assumption); (case hd => ktr_room); (case hu => ktr_units))); intro D' h' tk' its' k' F' N' hi' l1'))
local macro_rules | `(tactic| walk_at "call ref") => `(tactic| (k_here; k_dflt ((refine' verify_call _ _ _ _ _ _ _ _ _ _ _ _ _ _ _ _ _ _ _ _ _ _ _ _ ?B ?F ?X ?N ?T ?hk ?hm ?hi ?hl ?hb ?hd ?hu ?hr; (case B => k_asm); (case F => k_asm); (case X => k_asm); (case N => k_asm); (case T => k_asm); (case hk => first | exact rfl | assumption); (case hm => k_mem); (case hi => assumption); (case hl => assumption); (case hb => assumption); (case hd => ktr_room); (case hu => ktr_units))); intro h' tk' F' N'))
local macro_rules | `(tactic| walk_at "call type:zip") => `(tactic| (k_here; k_dflt (refine' zip2N ?hh ?F ?N ?h1 ?h2 ?_; (case hh => exact rfl); (case F => k_asm); (case N => k_asm); (case h1 => k_mem); (case h2 => k_mem)); intro z' h' F' N' R'))
local macro_rules | `(tactic| walk_at "call ref") => `(tactic| (k_here; k_dflt ((refine' times_call _ _ _ _ _ _ _ _ _ _ _ _ _ _ _ _ _ _ _ _ _ _ ?B ?F ?X ?N ?T ?hk ?hx ?hy ?hd ?hu ?hr; (case B => k_asm); (case F => k_asm); (case X => k_asm); (case N => k_asm); (case T => k_asm); (case hk => first | exact rfl | assumption); (case hx => assumption); (case hy => assumption); (case hd => ktr_room); (case hu => ktr_units))); intro t' h' tk' F' N'))
local macro_rules | `(tactic| walk_at "call builtin:len") => `(tactic| (k_here; (with_reducible show wpAny _ _ (call (Value.builtin "len") [Value.ref _]) _ _ _); k_dflt (refine' KM.len_K ?k1 ?k2 ?k3 ?k4 ?_; (case k1 => k_asm); (case k2 => k_mem); (case k3 => assumption); (case k4 => omega))))
local macro_rules | `(tactic| walk_at "setItem ref int") => `(tactic| (k_here; (with_reducible show wpAny _ _ (setItem (Value.ref _) (Value.int _ _) (Value.int _ _)) _ _ _); k_dflt (refine' ksa_set ?k1 ?k2 ?k3 ?k4 ?k5 ?k6 ?k7 ?_; (case k1 => k_asm); (case k2 => k_asm); (case k3 => k_upd); (case k4 => with_reducible assumption); (case k5 => omega); (case k6 => omega); (case k7 => omega)); intro h' F' N' hi' hl' hs'))
local macro_rules | `(tactic| walk_at "subscriptTail Name Name ref int") => `(tactic| (k_here; k_dflt (refine' ksa_sub ?k1 ?k2 ?k3 ?k4 ?k5 ?k6 ?_ ?k7; (case k1 => k_asm); (case k2 => k_mem); (case k3 => with_reducible assumption); (case k4 => omega); (case k5 => omega); (case k6 => omega); (case k7 => with_unfolding_all rfl)); intro _))

theorem piece22 {w : World} {mean : ExcName → Option Value} {mg mb : Str → Option Value} {base : Heap} {L fa : Addr} {cdv : Value} {Q : Flow → Shared → Prop} {E : Value → Shared → Prop} {s : Shared} {m : Str → Option Value} {oB oS oT oN : Obj} {lt : Addr} {its : List Value} {k : Nat} {t : Nat → Nat}
    (B : Below callerA base [] base) (X : (hd.heap_39 w.params).In base) (T : Top hd.view_39 (looseW hd.view_39 []) mean mg mb base) (F : Fr base L s.heap m) {l5 : Addr} {i5 : List Value} {k5 : Nat} (N : Base1 base L s.heap oB oS oT oN lt its k [(l5, listOf i5.toArray k5)]) {M : List Nat} {p q : Nat} {tp tq : Tok} (o5 : Over L l5) (ol : @LT.lt Nat _ lt l5) (dT : oT.data = .cell (some (.ref lt))) (hi : IntsAre its ((List.range 24).map fun i => (t i : Int)))
    (hmade : m (Str.ofString "made") = some (.ref l5)) (hplace : m (Str.ofString "place") = some (.int (p : Int) tp)) (hother : m (Str.ofString "other") = some (.int (q : Int) tq)) (hi5 : IntsAre i5 (ofN M)) (hlt : M.length ≤ 100) (hq : q < M.length)
    (K : ∀ h tk i5, Fr base L h m → Base1 base L h oB oS oT oN lt its k [(l5, listOf i5.toArray k5)] → IntsAre i5 (ofN (if q = p then M else M.set q (M.getD q 0 ^^^ (1 + t 0 / 1023 % 1023)))) → LawFrom 23 w L fa cdv Q E { s with heap := h, toks := tk }) :
    LawFrom 22 w L fa cdv Q E s := by
  unfold LawFrom lawA lawEnv
  revert X
  k_fill
  intro X
  dsimp only [lawFn, PySem.Challenge.pw_bc0030_01]
  simp only [List.drop_zero, List.drop_succ_cons]
  have p5 : L + 1 + 1 + 1 + 1 < l5 := o5
  have plt : lt < l5 := ol
  have hlM : (ofN M).length = M.length := by simp
  have N0 : News base L s.heap ((L + 1 + 1 + 1 + 1, oB) :: (L + 1 + 1 + 1, oS) :: (L + 1 + 1, oT) :: (L + 1, oN) :: (lt, listOf its.toArray k) :: [(l5, listOf i5.toArray k5)]) := N
  clear N
  walk1
  walk_at "mine steps"
  · rename _ ≠ _ => hne
    have hne' : ¬ q = p := fun e => hne (by rw [e])
    walk1
    walk_at "mine steps"
    rename Fr _ _ _ _ => F9
    rename News _ _ _ _ => N9
    rename IntsAre (List.set _ _ _) _ => hi9
    have h10 : (1 + ((t (Int.toNat 0) : Int).fdiv 1023).fmod 1023) = ((1 + t 0 / 1023 % 1023 : Nat) : Int) := by
      have h8 : (t (Int.toNat 0) : Int).fdiv 1023 = ((t 0 / 1023 : Nat) : Int) := fdiv_nat (t 0) 1023
      have h9 : ((t 0 / 1023 : Nat) : Int).fmod 1023 = ((t 0 / 1023 % 1023 : Nat) : Int) := fmod_nat (t 0 / 1023) 1023
      rw [h8, h9]
      omega
    have e : (ofN M).set (Int.toNat (q : Int)) (Builtin.bitXor ((ofN M).getD (Int.toNat (q : Int)) 0) (1 + ((t (Int.toNat 0) : Int).fdiv 1023).fmod 1023)) = ofN (M.set q (M.getD q 0 ^^^ (1 + t 0 / 1023 % 1023))) := by
      rw [h10, Int.toNat_natCast, ofN_getD, bitXor_nat, ofN_set]
    rw [e] at hi9
    have conv : ∀ j, IntsAre j (ofN (M.set q (M.getD q 0 ^^^ (1 + t 0 / 1023 % 1023)))) → IntsAre j (ofN (if q = p then M else M.set q (M.getD q 0 ^^^ (1 + t 0 / 1023 % 1023)))) := fun j hj => by
      rw [if_neg hne']; exact hj
    dsimp only
    walk1
    exact K _ _ _ F9 (fun p hp => N9 p (by
      simp only [List.mem_cons, List.not_mem_nil, or_false] at hp ⊢
      rcases hp with h | h | h | h | h | h <;> simp [h])) (conv _ hi9)
  · rename (q : Int) = (p : Int) => heq
    have heq' : q = p := by omega
    walk1
    have hi9' : IntsAre i5 (ofN (if q = p then M else M.set q (M.getD q 0 ^^^ (1 + t 0 / 1023 % 1023)))) := by
      rw [if_pos heq']; exact hi5
    exact K _ _ i5 F (fun p hp => N0 p (by
      simp only [List.mem_cons, List.not_mem_nil, or_false] at hp ⊢
      rcases hp with h | h | h | h | h | h <;> simp [h])) hi9'

theorem piece23 {w : World} {mean : ExcName → Option Value} {mg mb : Str → Option Value} {base : Heap} {L fa : Addr} {cdv : Value} {Q : Flow → Shared → Prop} {E : Value → Shared → Prop} {s : Shared} {m : Str → Option Value} {oB oS oT oN : Obj} {lt : Addr} {its : List Value} {k : Nat} {t : Nat → Nat}
    (B : Below callerA base [] base) (X : (hd.heap_39 w.params).In base) (T : Top hd.view_39 (looseW hd.view_39 []) mean mg mb base) (F : Fr base L s.heap m) {l5 : Addr} {i5 : List Value} {k5 : Nat} (N : Base1 base L s.heap oB oS oT oN lt its k [(l5, listOf i5.toArray k5)]) {bs : Array UInt8} {tbs : Tok} (dS : oS.data = .cell (some (.bytes bs tbs))) (hbs10 : bs.size ≤ 10) {M : List Nat}
    (hmade : m (Str.ofString "made") = some (.ref l5)) (hrefused : m (Str.ofString "refused") = some (.bool false)) (hi5 : IntsAre i5 (ofN M)) (hlt : (ofN M).length ≤ 100) (hv : (pmI (KBw.bInts bs ++ ofN M) == 1) = false)
    (K : ∀ h tk, Fr base L h m → Base1 base L h oB oS oT oN lt its k [(l5, listOf i5.toArray k5)] → Q (.ret (.bool true)) { s with heap := h, toks := tk }) :
    LawFrom 23 w L fa cdv Q E s := by
  unfold LawFrom lawA lawEnv
  revert X
  k_fill
  intro X
  dsimp only [lawFn, PySem.Challenge.pw_bc0030_01]
  simp only [List.drop_zero, List.drop_succ_cons]
  walk1
  walk_at "mine steps"
  rename Fr _ _ _ _ => F9
  rename News _ _ _ _ => N9
  rw [hv]
  exact K _ _ F9 (fun p hp => N9 p (by
      simp only [List.mem_cons, List.not_mem_nil, or_false] at hp ⊢
      rcases hp with h | h | h | h | h | h <;> simp [h]))
end Mine
end

section
namespace Rs
def gl (b : Nat) : Nat :=
  (if b.testBit 0 then 14737472 else 0) ^^^ (if b.testBit 1 then 29474944 else 0) ^^^ (if b.testBit 2 then 58949888 else 0) ^^^ (if b.testBit 3 then 117899776 else 0) ^^^ (if b.testBit 4 then 235798537 else 0) ^^^ (if b.testBit 5 then 470557714 else 0) ^^^ (if b.testBit 6 then 940076068 else 0) ^^^ (if b.testBit 7 then 814808136 else 0) ^^^ (if b.testBit 8 then 565311632 else 0) ^^^ (if b.testBit 9 then 66318624 else 0)
theorem hom_gl : Hom gl :=
  ((((((((((hom_bit 0 _).xor (hom_bit 1 _)).xor (hom_bit 2 _)).xor (hom_bit 3 _)).xor (hom_bit 4 _)).xor (hom_bit 5 _)).xor (hom_bit 6 _)).xor (hom_bit 7 _)).xor (hom_bit 8 _)).xor (hom_bit 9 _))
theorem gl_lt (b : Nat) : gl b < 2 ^ 30 := by
  unfold gl
  repeat' (first | refine Nat.xor_lt_two_pow ?_ ?_ | (split <;> decide))
def lin (c : Nat) : Nat := ((c &&& 1048575) <<< 10) ^^^ gl (c >>> 20)
theorem hom_lin : Hom lin := ((hom_shl 10).comp (hom_and 1048575)).xor (hom_gl.comp (hom_shr 20))
theorem lin_lt (c : Nat) : lin c < 2 ^ 30 := by
  unfold lin
  refine Nat.xor_lt_two_pow ?_ (gl_lt _)
  have h : c &&& 1048575 < 2 ^ 20 := Nat.and_lt_two_pow c (by decide)
  rw [Nat.shiftLeft_eq]
  have : (c &&& 1048575) * 2 ^ 10 < 2 ^ 20 * 2 ^ 10 := Nat.mul_lt_mul_of_pos_right h (by decide)
  simpa [← Nat.pow_add] using this
def step (c v : Nat) : Nat := lin c ^^^ v
def run (c : Nat) (xs : List Nat) : Nat := xs.foldl step c
theorem run_app (c : Nat) (xs ys : List Nat) : run c (xs ++ ys) = run (run c xs) ys := List.foldl_append
/-- the run over a word given as a function -/
def rf (c : Nat) : Nat → (Nat → Nat) → Nat
  | 0, _ => c
  | n + 1, f => lin (rf c n f) ^^^ f n
theorem rf_congr (c : Nat) {f g : Nat → Nat} : ∀ n, (∀ j, j < n → f j = g j) → rf c n f = rf c n g
  | 0, _ => rfl
  | n + 1, h => by
    show lin (rf c n f) ^^^ f n = lin (rf c n g) ^^^ g n
    rw [rf_congr c n fun j hj => h j (Nat.lt_succ_of_lt hj), h n (Nat.lt_succ_self n)]
theorem run_map (c : Nat) (f : Nat → Nat) : ∀ n, run c ((List.range n).map f) = rf c n f
  | 0 => rfl
  | n + 1 => by
    rw [List.range_succ, List.map_append, run_app, run_map c f n]
    rfl
theorem as_map (xs : List Nat) : xs = (List.range xs.length).map fun i => xs.getD i 0 := by
  apply List.ext_getElem
  · simp
  · intro i h1 h2
    simp [List.getD_eq_getElem?_getD, h1]
theorem run_eq (c : Nat) (xs : List Nat) : run c xs = rf c xs.length fun i => xs.getD i 0 := by
  rw [← run_map, ← as_map]
theorem rf_hom (a b : Nat) (f g : Nat → Nat) : ∀ n, rf (a ^^^ b) n (fun i => f i ^^^ g i) = rf a n f ^^^ rf b n g
  | 0 => rfl
  | n + 1 => by
    show lin (rf (a ^^^ b) n fun i => f i ^^^ g i) ^^^ (f n ^^^ g n) = (lin (rf a n f) ^^^ f n) ^^^ (lin (rf b n g) ^^^ g n)
    rw [rf_hom a b f g n, hom_lin]
    ac_rfl
theorem rf_lt {c : Nat} {f : Nat → Nat} (hc : c < 2 ^ 30) : ∀ n, (∀ j, j < n → f j < 1024) → rf c n f < 2 ^ 30
  | 0, _ => hc
  | n + 1, h => Nat.xor_lt_two_pow (lin_lt _) (Nat.lt_trans (h n (Nat.lt_succ_self n)) (by decide))

/-- the syndrome at the m-th power of the field's root -/
def syn (m c : Nat) : Nat := P (2 * m) (c >>> 20) ^^^ P m ((c >>> 10) &&& 1023) ^^^ (c &&& 1023)
theorem hom_syn (m : Nat) : Hom (syn m) := (((hom_P (2 * m)).comp (hom_shr 20)).xor ((hom_P m).comp ((hom_and 1023).comp (hom_shr 10)))).xor (hom_and 1023)
theorem syn_lin {m : Nat} (hm : m ∈ [1, 2, 3]) {c : Nat} (hc : c < 2 ^ 30) : syn m (lin c) = P m (syn m c) := by
  refine hom_ext ((hom_syn m).comp hom_lin) ((hom_P m).comp (hom_syn m)) 30 (fun i hi => ?_) c hc
  have h : ([1, 2, 3].all fun m => (List.range 30).all fun i => syn m (lin (2 ^ i)) == P m (syn m (2 ^ i))) = true := by decide +kernel
  exact beq_iff_eq.mp (List.all_eq_true.mp (List.all_eq_true.mp h m hm) i (List.mem_range.mpr hi))
theorem small_shr {v k : Nat} (h : v < 2 ^ k) : v >>> k = 0 := by
  rw [Nat.shiftRight_eq_div_pow]; exact Nat.div_eq_of_lt h
theorem and_1023 (v : Nat) : v &&& 1023 = v % 1024 := Nat.and_two_pow_sub_one_eq_mod v 10
theorem syn_small (m : Nat) {v : Nat} (h : v < 1024) : syn m v = v := by
  unfold syn
  rw [small_shr (Nat.lt_trans h (show 1024 < 2 ^ 20 by decide)), small_shr (k := 10) h, (hom_P _).zero, Nat.zero_and, (hom_P _).zero, and_1023, Nat.mod_eq_of_lt h]
  simp
theorem syn_rf {m : Nat} (hm : m ∈ [1, 2, 3]) {f : Nat → Nat} : ∀ n, (∀ j, j < n → f j < 1024) → syn m (rf 0 n f) = sumX n fun j => P (m * j) (f (n - 1 - j))
  | 0, _ => by
    show syn m 0 = _
    rw [(hom_syn m).zero]; rfl
  | n + 1, h => by
    have h' : ∀ j, j < n → f j < 1024 := fun j hj => h j (Nat.lt_succ_of_lt hj)
    show syn m (lin (rf 0 n f) ^^^ f n) = _
    rw [hom_syn, syn_lin hm (rf_lt (by decide) n h'), syn_small m (h n (Nat.lt_succ_self n)), syn_rf hm n h', sumX_shift, sumX_hom (hom_P m), Nat.xor_comm]
    congr 1
    refine sumX_congr n fun j hj => ?_
    rw [← P_add, Nat.mul_succ, Nat.add_comm m, show n + 1 - 1 - (j + 1) = n - 1 - j by omega]
theorem syn_zero {c : Nat} (hc : c < 2 ^ 30) (h : ∀ m, m ∈ [1, 2, 3] → syn m c = 0) : c = 0 := by
  have hw : ∀ j, j < 3 → (c >>> (10 * j)) &&& 1023 < 1024 := fun j _ => Nat.and_lt_two_pow (n := 10) _ (by decide)
  have top : c >>> 20 &&& 1023 = c >>> 20 := by
    rw [and_1023, Nat.mod_eq_of_lt]
    rw [Nat.shiftRight_eq_div_pow]
    exact Nat.div_lt_of_lt_mul (by simpa [← Nat.pow_add] using hc)
  have z := none_of (n := 3) (by decide) [0, 1, 2] 1 (fun j => (c >>> (10 * j)) &&& 1023) hw (by decide) (fun j hj _ => by
      have : j = 0 ∨ j = 1 ∨ j = 2 := by omega
      rcases this with rfl | rfl | rfl <;> simp) (fun m hm => by
      have hm3 : m < 3 := hm
      have e := h (1 + m) (by
        have : m = 0 ∨ m = 1 ∨ m = 2 := by omega
        rcases this with rfl | rfl | rfl <;> simp)
      rw [← e]
      show sumX 3 _ = _
      unfold syn
      show ((0 ^^^ P ((1 + m) * 0) ((c >>> (10 * 0)) &&& 1023)) ^^^ P ((1 + m) * 1) ((c >>> (10 * 1)) &&& 1023)) ^^^ P ((1 + m) * 2) ((c >>> (10 * 2)) &&& 1023) = _
      rw [Nat.mul_zero, Nat.mul_one, Nat.mul_one, show 10 * 2 = 20 from rfl, top, Nat.mul_comm (1 + m) 2]
      show ((0 ^^^ (c &&& 1023)) ^^^ P (1 + m) ((c >>> 10) &&& 1023)) ^^^ P (2 * (1 + m)) (c >>> 20) = _
      rw [Nat.zero_xor]
      ac_rfl)
  have z0 : c &&& 1023 = 0 := z 0 (by decide)
  have z1 : (c >>> 10) &&& 1023 = 0 := z 1 (by decide)
  have z2 : (c >>> 20) &&& 1023 = 0 := z 2 (by decide)
  rw [and_1023] at z0 z1 z2
  rw [Nat.shiftRight_eq_div_pow] at z1 z2
  omega
/-- two words of at most fifteen letters that leave one value and differ in at most three known places are alike -/
theorem dist {c n : Nat} {f g : Nat → Nat} (hn : n ≤ 15) (hf : ∀ j, j < n → f j < 1024) (hg : ∀ j, j < n → g j < 1024) (he : rf c n f = rf c n g) (l : List Nat) (hl3 : l.length ≤ 3) (hl : ∀ i ∈ l, i < n)
    (hs : ∀ j, j < n → f j ≠ g j → j ∈ l) : ∀ j, j < n → f j = g j := by
  have h0 : rf 0 n (fun i => f i ^^^ g i) = 0 := by
    have := rf_hom c c f g n
    rw [Nat.xor_self] at this
    rw [this, he, Nat.xor_self]
  have hx : ∀ j, j < n → f j ^^^ g j < 1024 := fun j hj => Nat.xor_lt_two_pow (n := 10) (hf j hj) (hg j hj)
  have z := none_of hn (l.map fun i => n - 1 - i) 1 (fun j => f (n - 1 - j) ^^^ g (n - 1 - j)) (fun j hj => hx _ (by omega))
    (fun i hi => by
      obtain ⟨k, hk, rfl⟩ := List.mem_map.mp hi
      have := hl k hk
      omega)
    (fun j hj hne => by
      refine List.mem_map.mpr ⟨n - 1 - j, hs _ (by omega) (fun e => hne (by rw [e, Nat.xor_self])), by omega⟩)
    (fun m hm => by
      rw [List.length_map] at hm
      have hm' : 1 + m ∈ [1, 2, 3] := by
        have : m = 0 ∨ m = 1 ∨ m = 2 := by omega
        rcases this with rfl | rfl | rfl <;> simp
      rw [← syn_rf hm' n hx, h0, (hom_syn _).zero])
  intro j hj
  have := z (n - 1 - j) (by omega)
  rw [show n - 1 - (n - 1 - j) = j by omega] at this
  rw [← xor_cancel (f j) (g j), this, Nat.zero_xor]
/-- a multiple of a word of the code is a word of the code -/
theorem rf_mul {v n : Nat} {f : Nat → Nat} (hv : v < 1024) (hf : ∀ j, j < n → f j < 1024) (h : rf 0 n f = 0) : rf 0 n (fun i => mul v (f i)) = 0 := by
  have hx : ∀ j, j < n → mul v (f j) < 1024 := fun j _ => mulN_lt 10 v (f j) hv
  refine syn_zero (rf_lt (by decide) n hx) fun m hm => ?_
  rw [syn_rf hm n hx]
  have e : sumX n (fun j => P (m * j) (f (n - 1 - j))) = 0 := by
    rw [← syn_rf hm n hf, h, (hom_syn m).zero]
  have e2 : sumX n (fun j => P (m * j) (mul v (f (n - 1 - j)))) = mul v (sumX n fun j => P (m * j) (f (n - 1 - j))) := by
    refine Eq.trans ?_ (sumX_hom (L := fun b => mulN 10 v b) (hom_mul_right 10 v) (fun j => P (m * j) (f (n - 1 - j))) n).symm
    exact sumX_congr n fun j hj => (mul_P hv (hf _ (by omega)) _).symm
  rw [e2, e]
  exact (hom_mul_right 10 v).zero

/-- the words of a checksum -/
def wd (p i : Nat) : Nat := (p >>> (10 * i)) &&& 1023
theorem wd_lt (p i : Nat) : wd p i < 1024 := Nat.and_lt_two_pow (n := 10) _ (by decide)
theorem hom_wd (i : Nat) : Hom fun p => wd p i := (hom_and 1023).comp (hom_shr (10 * i))
def zz (c : Nat) : Nat := run c [0, 0, 0]
theorem zz_eq (c : Nat) : zz c = lin (lin (lin c)) := by
  show lin (lin (lin c ^^^ 0) ^^^ 0) ^^^ 0 = _
  rw [Nat.xor_zero, Nat.xor_zero, Nat.xor_zero]
theorem hom_zz : Hom zz := fun a b => by rw [zz_eq, zz_eq, zz_eq, hom_lin, hom_lin, hom_lin]
def chkN (S X : List Nat) : List Nat := [wd (zz (run 1 (S ++ X)) ^^^ 1) 2, wd (zz (run 1 (S ++ X)) ^^^ 1) 1, wd (zz (run 1 (S ++ X)) ^^^ 1) 0]
theorem chkN_len (S X : List Nat) : (chkN S X).length = 3 := rfl
theorem chkN_lt (S X : List Nat) : ∀ x ∈ chkN S X, x < 1024 := by
  intro x hx
  simp only [chkN, List.mem_cons, List.not_mem_nil, or_false] at hx
  rcases hx with rfl | rfl | rfl <;> exact wd_lt _ _
theorem run3 (c a b e : Nat) : run c [a, b, e] = zz c ^^^ run 0 [a, b, e] := by
  rw [zz_eq]
  show lin (lin (lin c ^^^ a) ^^^ b) ^^^ e = lin (lin (lin c)) ^^^ (lin (lin (lin 0 ^^^ a) ^^^ b) ^^^ e)
  rw [hom_lin.zero, Nat.zero_xor, hom_lin (lin c) a, Nat.xor_assoc (lin (lin c)), hom_lin (lin (lin c)), Nat.xor_assoc]
theorem words {p : Nat} (hp : p < 2 ^ 30) : run 0 [wd p 2, wd p 1, wd p 0] = p := by
  have h : Hom fun p => run 0 [wd p 2, wd p 1, wd p 0] := fun a b => by
    show lin (lin (lin 0 ^^^ wd (a ^^^ b) 2) ^^^ wd (a ^^^ b) 1) ^^^ wd (a ^^^ b) 0 = (lin (lin (lin 0 ^^^ wd a 2) ^^^ wd a 1) ^^^ wd a 0) ^^^ (lin (lin (lin 0 ^^^ wd b 2) ^^^ wd b 1) ^^^ wd b 0)
    have e (i : Nat) : wd (a ^^^ b) i = wd a i ^^^ wd b i := hom_wd i a b
    rw [e, e, e, hom_lin.zero, Nat.zero_xor, Nat.zero_xor, Nat.zero_xor, hom_lin (wd a 2)]
    have e2 : lin (wd a 2) ^^^ lin (wd b 2) ^^^ (wd a 1 ^^^ wd b 1) = (lin (wd a 2) ^^^ wd a 1) ^^^ (lin (wd b 2) ^^^ wd b 1) := by ac_rfl
    rw [e2, hom_lin]
    ac_rfl
  exact hom_ext h hom_id 30 (fun i hi => by
    have d : ((List.range 30).all fun i => run 0 [wd (2 ^ i) 2, wd (2 ^ i) 1, wd (2 ^ i) 0] == 2 ^ i) = true := by decide +kernel
    exact beq_iff_eq.mp (List.all_eq_true.mp d i (List.mem_range.mpr hi))) p hp
theorem run_lt {c : Nat} (hc : c < 2 ^ 30) {xs : List Nat} (h : ∀ x ∈ xs, x < 1024) : run c xs < 2 ^ 30 := by
  rw [run_eq]
  refine rf_lt hc _ fun j hj => ?_
  rw [List.getD_eq_getElem?_getD, List.getElem?_eq_getElem hj]
  exact h _ (List.getElem_mem hj)
/-- a word with its checksum verifies -/
theorem verifies {S X : List Nat} (hS : ∀ x ∈ S, x < 1024) (hX : ∀ x ∈ X, x < 1024) : run 1 (S ++ (X ++ chkN S X)) = 1 := by
  rw [← List.append_assoc, run_app]
  have hd : run 1 (S ++ X) < 2 ^ 30 := run_lt (by decide) fun x hx => (List.mem_append.mp hx).elim (hS x) (hX x)
  have hz : zz (run 1 (S ++ X)) ^^^ 1 < 2 ^ 30 := by
    refine Nat.xor_lt_two_pow ?_ (by decide)
    rw [zz_eq]; exact lin_lt _
  show run (run 1 (S ++ X)) [_, _, _] = 1
  rw [run3, words hz, ← Nat.xor_assoc, Nat.xor_self, Nat.zero_xor]
/-- two lists of fifteen letters at most that leave one value and differ in at most three known places are alike -/
theorem distL {c : Nat} {U V : List Nat} (hlen : U.length = V.length) (hn : U.length ≤ 15) (hU : ∀ x ∈ U, x < 1024) (hV : ∀ x ∈ V, x < 1024) (he : run c U = run c V) (l : List Nat) (hl3 : l.length ≤ 3) (hl : ∀ i ∈ l, i < U.length)
    (hs : ∀ j, j < U.length → U.getD j 0 ≠ V.getD j 0 → j ∈ l) : ∀ j, j < U.length → U.getD j 0 = V.getD j 0 := by
  rw [run_eq, run_eq, ← hlen] at he
  have get {W : List Nat} (h : ∀ x ∈ W, x < 1024) (j : Nat) : W.getD j 0 < 1024 := by
    rw [List.getD_eq_getElem?_getD]
    cases e : W[j]? with
    | none => show 0 < 1024; decide
    | some x => exact h x (List.mem_of_getElem? e)
  exact dist hn (fun j _ => get hU j) (fun j _ => get hV j) he l hl3 hl hs
theorem getD_ext {U V : List Nat} (hlen : U.length = V.length) (h : ∀ j, j < U.length → U.getD j 0 = V.getD j 0) : U = V := by
  apply List.ext_getElem hlen
  intro i h1 h2
  have := h i h1
  rw [List.getD_eq_getElem?_getD, List.getD_eq_getElem?_getD, List.getElem?_eq_getElem h1, List.getElem?_eq_getElem h2] at this
  exact this
/-- a word that verifies ends in its own checksum -/
theorem ends {S Y Z : List Nat} (hS : ∀ x ∈ S, x < 1024) (hY : ∀ x ∈ Y, x < 1024) (hZ : ∀ x ∈ Z, x < 1024) (h3 : Z.length = 3) (h : run 1 (S ++ (Y ++ Z)) = 1) : chkN S Y = Z := by
  have h2 := verifies hS hY
  rw [← List.append_assoc, run_app] at h h2
  refine getD_ext (by rw [h3, chkN_len]) (distL (by rw [h3, chkN_len]) (by rw [chkN_len]; decide) (chkN_lt S Y) hZ (h2.trans h.symm) [0, 1, 2] (by decide) (by rw [chkN_len]; decide) fun j hj _ => ?_)
  rw [chkN_len] at hj
  have : j = 0 ∨ j = 1 ∨ j = 2 := by omega
  rcases this with rfl | rfl | rfl <;> simp
/-- the checksum of the xor of three words -/
theorem three {S A B C D : List Nat} (hab : A.length = B.length) (hac : A.length = C.length) (hD : D = (List.range A.length).map fun i => A.getD i 0 ^^^ B.getD i 0 ^^^ C.getD i 0) :
    chkN S D = (List.range 3).map fun i => (chkN S A).getD i 0 ^^^ (chkN S B).getD i 0 ^^^ (chkN S C).getD i 0 := by
  have e : run 1 (S ++ D) = run 1 (S ++ A) ^^^ run 1 (S ++ B) ^^^ run 1 (S ++ C) := by
    rw [run_app, run_app, run_app, run_app, hD, run_map, run_eq (run 1 S) A, run_eq (run 1 S) B, run_eq (run 1 S) C, ← hab, ← hac, ← rf_hom, Nat.xor_self, ← rf_hom, Nat.zero_xor]
  have e2 : zz (run 1 (S ++ D)) ^^^ 1 = (zz (run 1 (S ++ A)) ^^^ 1) ^^^ (zz (run 1 (S ++ B)) ^^^ 1) ^^^ (zz (run 1 (S ++ C)) ^^^ 1) := by
    rw [e, hom_zz, hom_zz]
    have : (1 : Nat) = 1 ^^^ 1 ^^^ 1 := by decide
    generalize zz (run 1 (S ++ A)) = x
    generalize zz (run 1 (S ++ B)) = y
    generalize zz (run 1 (S ++ C)) = z
    calc x ^^^ y ^^^ z ^^^ 1 = x ^^^ y ^^^ z ^^^ (1 ^^^ 1 ^^^ 1) := by rw [← this]
      _ = (x ^^^ 1) ^^^ (y ^^^ 1) ^^^ (z ^^^ 1) := by ac_rfl
  have w (i : Nat) : wd (zz (run 1 (S ++ D)) ^^^ 1) i = wd (zz (run 1 (S ++ A)) ^^^ 1) i ^^^ wd (zz (run 1 (S ++ B)) ^^^ 1) i ^^^ wd (zz (run 1 (S ++ C)) ^^^ 1) i := by
    rw [e2]
    have h1 := hom_wd i ((zz (run 1 (S ++ A)) ^^^ 1) ^^^ (zz (run 1 (S ++ B)) ^^^ 1)) (zz (run 1 (S ++ C)) ^^^ 1)
    have h2 := hom_wd i (zz (run 1 (S ++ A)) ^^^ 1) (zz (run 1 (S ++ B)) ^^^ 1)
    exact h1.trans (congrArg (· ^^^ _) h2)
  show [_, _, _] = [_, _, _]
  rw [w 2, w 1, w 0]
  rfl
end Rs
end

section
open PySem PySem.W PyProof.Rows
namespace Mine
open Rs
theorem bitAnd_nat (a b : Nat) : Builtin.bitAnd (a : Int) (b : Int) = ((a &&& b : Nat) : Int) := by
  rw [bitAnd_pp (Int.natCast_nonneg a) (Int.natCast_nonneg b)]
  simp only [Int.toNat_natCast]
theorem pow_nat (k : Nat) : (2 : Int) ^ k = ((2 ^ k : Nat) : Int) := by push_cast; rfl
def gN (i : Nat) : Nat := [14737472, 29474944, 58949888, 117899776, 235798537, 470557714, 940076068, 814808136, 565311632, 66318624].getD i 0
theorem genI_nat : ∀ i : Nat, genI (i : Int) = (gN i : Int) := by
  intro i
  unfold genI gN
  rw [Int.toNat_natCast]
  match i with
  | 0 | 1 | 2 | 3 | 4 | 5 | 6 | 7 | 8 | 9 => rfl
  | n + 10 => rfl
theorem inI_nat (b c i : Nat) : inI (b : Int) (c : Int) (i : Int) = ((c ^^^ (if b.testBit i then gN i else 0) : Nat) : Int) := by
  unfold inI
  rw [Int.toNat_natCast, pow_nat, fdiv_nat, show (1 : Int) = ((1 : Nat) : Int) from rfl, bitAnd_nat, genI_nat]
  have e : b / 2 ^ i &&& 1 = (b.testBit i).toNat := by
    rw [Nat.testBit_eq_decide_div_mod_eq, Nat.and_one_is_mod]
    have := Nat.mod_two_eq_zero_or_one (b / 2 ^ i)
    rcases this with h | h <;> simp [h]
  rw [e]
  cases b.testBit i
  · exact bitXor_nat c 0
  · exact bitXor_nat c (gN i)
theorem range10 : rangeKs 0 10 = [((0 : Nat) : Int), ((1 : Nat) : Int), ((2 : Nat) : Int), ((3 : Nat) : Int), ((4 : Nat) : Int), ((5 : Nat) : Int), ((6 : Nat) : Int), ((7 : Nat) : Int), ((8 : Nat) : Int), ((9 : Nat) : Int)] := by decide
theorem ten (x v a b c d e f g h i j : Nat) : x ^^^ v ^^^ a ^^^ b ^^^ c ^^^ d ^^^ e ^^^ f ^^^ g ^^^ h ^^^ i ^^^ j = (x ^^^ (a ^^^ b ^^^ c ^^^ d ^^^ e ^^^ f ^^^ g ^^^ h ^^^ i ^^^ j)) ^^^ v := by ac_rfl
theorem stI_nat (c v : Nat) : stI (c : Int) (v : Int) = ((Rs.step c v : Nat) : Int) := by
  unfold stI
  rw [range10, show Int.toNat 20 = 20 from rfl, show Int.toNat 10 = 10 from rfl, pow_nat, pow_nat, fdiv_nat, show (1048575 : Int) = ((1048575 : Nat) : Int) from rfl, bitAnd_nat, ← Int.natCast_mul, bitXor_nat]
  simp only [List.foldl_cons, List.foldl_nil, inI_nat]
  congr 1
  unfold Rs.step lin gl
  rw [Nat.shiftLeft_eq, Nat.shiftRight_eq_div_pow]
  exact ten _ _ _ _ _ _ _ _ _ _ _ _
theorem foldl_nat (xs : List Nat) : ∀ c : Nat, (ofN xs).foldl stI (c : Int) = ((run c xs : Nat) : Int) := by
  induction xs with
  | nil => intro c; rfl
  | cons x xs ih =>
    intro c
    show (ofN xs).foldl stI (stI (c : Int) (x : Int)) = _
    rw [stI_nat, ih]
    rfl
theorem pmI_nat (xs : List Nat) : pmI (ofN xs) = ((run 1 xs : Nat) : Int) := foldl_nat xs 1
theorem ckD_nat (p i : Nat) : ckD (p : Int) (i : Int) = ((wd p i : Nat) : Int) := by
  unfold ckD wd
  have e : (10 * (i : Int)).toNat = 10 * i := by omega
  rw [e, pow_nat, fdiv_nat, show (1023 : Int) = ((1023 : Nat) : Int) from rfl, bitAnd_nat, Nat.shiftRight_eq_div_pow]
theorem ckP_nat (S X : List Nat) : ckP (S.map fun (n : Nat) => (n : Int)) (X.map fun (n : Nat) => (n : Int)) = ((zz (run 1 (S ++ X)) ^^^ 1 : Nat) : Int) := by
  unfold ckP
  have e : (S.map fun (n : Nat) => (n : Int)) ++ (X.map fun (n : Nat) => (n : Int)) ++ List.replicate (Int.toNat 3) 0 = ofN (S ++ X ++ [0, 0, 0]) := by
    unfold ofN
    rw [List.map_append, List.map_append]
    rfl
  rw [e, pmI_nat, run_app]
  exact bitXor_nat _ 1
theorem ckI_nat (S X : List Nat) : ckI (S.map fun (n : Nat) => (n : Int)) (X.map fun (n : Nat) => (n : Int)) = ofN (chkN S X) := by
  unfold ckI
  rw [ckP_nat]
  show [ckD _ ((2 : Nat) : Int), ckD _ ((1 : Nat) : Int), ckD _ ((0 : Nat) : Int)] = _
  rw [ckD_nat, ckD_nat, ckD_nat]
  rfl
end Mine
end

section
open PySem PySem.W PyProof.Rows
namespace Mine
open Rs
theorem getD_lt {B : Nat} (hB : 0 < B) {W : List Nat} (h : ∀ x ∈ W, x < B) (j : Nat) : W.getD j 0 < B := by
  rw [List.getD_eq_getElem?_getD]
  cases e : W[j]? with
  | none => exact hB
  | some x => exact h x (List.mem_of_getElem? e)
theorem count_bad {c : Nat} {U V : List Nat} (hlen : U.length = V.length) (hn : U.length ≤ 15) (hU : ∀ x ∈ U, x < 1024) (hV : ∀ x ∈ V, x < 1024) (he : run c U = run c V) :
    ([1, 2, 3] : List Int).any (· == (((List.range U.length).filter fun i => U.getD i 0 != V.getD i 0).length : Int)) = false := by
  cases h : ([1, 2, 3] : List Int).any (· == (((List.range U.length).filter fun i => U.getD i 0 != V.getD i 0).length : Int)) with
  | false => rfl
  | true =>
    exfalso
    simp only [List.any_cons, List.any_nil, Bool.or_false, Bool.or_eq_true, beq_iff_eq] at h
    have z := distL hlen hn hU hV he ((List.range U.length).filter fun i => U.getD i 0 != V.getD i 0) (by omega) (fun i hi => List.mem_range.mp (List.mem_filter.mp hi).1)
      (fun j hj hne => List.mem_filter.mpr ⟨List.mem_range.mpr hj, by simpa using hne⟩)
    have e : ((List.range U.length).filter fun i => U.getD i 0 != V.getD i 0) = [] := by
      rw [List.filter_eq_nil_iff]
      intro i hi
      rw [z i (List.mem_range.mp hi)]
      simp
    rw [e] at h
    simp at h
theorem getD_set (U : List Nat) (p x j : Nat) (hp : p < U.length) : (U.set p x).getD j 0 = if j = p then x else U.getD j 0 := by
  rw [List.getD_eq_getElem?_getD, List.getElem?_set]
  by_cases h : p = j
  · subst h
    simp [hp]
  · rw [if_neg h, if_neg (Ne.symm h), List.getD_eq_getElem?_getD]
theorem set_lt {U : List Nat} {p x : Nat} (hU : ∀ y ∈ U, y < 1024) (hx : x < 1024) : ∀ y ∈ U.set p x, y < 1024 := by
  intro y hy
  rcases List.mem_or_eq_of_mem_set hy with h | h
  · exact hU y h
  · rw [h]; exact hx
theorem xor_ne {a d : Nat} (hd : d ≠ 0) : a ^^^ d ≠ a := fun e => hd (by
  have := xor_cancel d a
  rw [Nat.xor_comm d a, e, Nat.xor_self] at this
  exact this.symm)
theorem one_bad {c : Nat} {U : List Nat} (hn : U.length ≤ 15) (hU : ∀ x ∈ U, x < 1024) {p d : Nat} (hp : p < U.length) (hd0 : d ≠ 0) (hd : d < 1024) : run c (U.set p (U.getD p 0 ^^^ d)) ≠ run c U := by
  intro e
  have hx : U.getD p 0 ^^^ d < 1024 := Nat.xor_lt_two_pow (n := 10) (getD_lt (by decide) hU p) hd
  have z := distL (U := U) (V := U.set p (U.getD p 0 ^^^ d)) (by simp) hn hU (set_lt hU hx) e.symm [p] (by simp) (by simpa using hp) (fun j hj hne => by
    rw [getD_set U p _ j hp] at hne
    by_cases h : j = p
    · simp [h]
    · rw [if_neg h] at hne; exact absurd rfl hne) p hp
  rw [getD_set U p _ p hp, if_pos rfl] at z
  exact xor_ne hd0 z.symm
theorem two_bad {c : Nat} {U : List Nat} (hn : U.length ≤ 15) (hU : ∀ x ∈ U, x < 1024) {p q x y : Nat} (hp : p < U.length) (hq : q < U.length) (hne : q ≠ p) (hx : x < 1024) (hy : y < 1024) (h0 : x ≠ U.getD p 0) : run c ((U.set p x).set q y) ≠ run c U := by
  intro e
  have hq' : q < (U.set p x).length := by simpa using hq
  have z := distL (U := U) (V := (U.set p x).set q y) (by simp) hn hU (set_lt (set_lt hU hx) hy) e.symm [p, q] (by simp) (by simpa using ⟨hp, hq⟩) (fun j hj hne => by
    rw [getD_set _ q _ j hq', getD_set U p _ j hp] at hne
    by_cases h : j = q
    · simp [h]
    · by_cases h2 : j = p
      · simp [h2]
      · rw [if_neg h, if_neg h2] at hne; exact absurd rfl hne) p hp
  rw [getD_set _ q _ p hq', if_neg (Ne.symm hne), getD_set U p _ p hp, if_pos rfl] at z
  exact h0 z.symm
theorem getD_rangeMap (g : Nat → Nat) {n j : Nat} (hj : j < n) : ((List.range n).map g).getD j 0 = g j := by
  rw [List.getD_eq_getElem?_getD]
  simp [hj]
theorem run_zeros : ∀ v, run 0 (List.replicate v 0) = 0
  | 0 => rfl
  | v + 1 => by
    show run (Rs.step 0 0) (List.replicate v 0) = 0
    have : Rs.step 0 0 = 0 := by
      show lin 0 ^^^ 0 = 0
      rw [hom_lin.zero]; rfl
    rw [this, run_zeros v]
theorem run_xorN {c : Nat} {A1 A2 : List Nat} (hlen : A1.length = A2.length) (he : run c A1 = run c A2) : run 0 (xorN A1 A2) = 0 := by
  unfold xorN
  rw [run_map]
  have := rf_hom c c (fun i => A1.getD i 0) (fun i => A2.getD i 0) A1.length
  rw [Nat.xor_self] at this
  rw [this, ← run_eq, hlen, ← run_eq, he, Nat.xor_self]
theorem run_partN {c v : Nat} {A1 A2 : List Nat} (hlen : A1.length = A2.length) (hv : v ≤ A1.length) (hz : ∀ i, i < v → A1.getD i 0 = A2.getD i 0) (he : run c A1 = run c A2) : run 0 (partN v A1 A2) = 0 := by
  have h := run_xorN hlen he
  have ht : (xorN A1 A2).take v = List.replicate v 0 := by
    refine getD_ext (by simp [xorN_len]; omega) fun j hj => ?_
    have hjv : j < v := by simp at hj; omega
    have e1 : ((xorN A1 A2).take v).getD j 0 = (xorN A1 A2).getD j 0 := by
      rw [List.getD_eq_getElem?_getD, List.getD_eq_getElem?_getD, List.getElem?_take, if_pos hjv]
    rw [e1]
    unfold xorN
    rw [getD_rangeMap _ (by omega), hz j hjv, Nat.xor_self, List.getD_eq_getElem?_getD]
    simp [hjv]
  rw [← List.take_append_drop v (xorN A1 A2), run_app, ht, run_zeros] at h
  unfold partN
  rw [run_app, h, run_zeros]
theorem partN_len {v : Nat} {A1 A2 : List Nat} (hv : v ≤ A1.length) : (partN v A1 A2).length = A1.length := by
  unfold partN
  simp [xorN_len]; omega
theorem xorN_lt {A1 A2 : List Nat} (h1 : ∀ x ∈ A1, x < 1024) (h2 : ∀ x ∈ A2, x < 1024) : ∀ x ∈ xorN A1 A2, x < 1024 := by
  intro x hx
  obtain ⟨i, _, rfl⟩ := List.mem_map.mp hx
  exact Nat.xor_lt_two_pow (n := 10) (getD_lt (by decide) h1 i) (getD_lt (by decide) h2 i)
theorem partN_lt {v : Nat} {A1 A2 : List Nat} (h1 : ∀ x ∈ A1, x < 1024) (h2 : ∀ x ∈ A2, x < 1024) : ∀ x ∈ partN v A1 A2, x < 1024 := by
  intro x hx
  rcases List.mem_append.mp hx with h | h
  · exact xorN_lt h1 h2 x (List.mem_of_mem_drop h)
  · rw [(List.mem_replicate.mp h).2]; decide
theorem run_madeN {c v : Nat} {A2 A5 : List Nat} (hv : v < 1024) (hlen : A5.length = A2.length) (h5 : ∀ x ∈ A5, x < 1024) (hz : run 0 A5 = 0) : run c (madeN v A2 A5) = run c A2 := by
  unfold madeN
  rw [run_map]
  have := rf_hom c 0 (fun i => A2.getD i 0) (fun i => mul v (A5.getD i 0)) A2.length
  rw [Nat.xor_zero] at this
  rw [run_eq, hlen] at hz
  rw [this, rf_mul hv (fun j _ => getD_lt (by decide) h5 j) hz, Nat.xor_zero, ← run_eq]
theorem madeN_lt {v : Nat} {A2 A5 : List Nat} (hv : v < 1024) (h2 : ∀ x ∈ A2, x < 1024) : ∀ x ∈ madeN v A2 A5, x < 1024 := by
  intro x hx
  obtain ⟨i, _, rfl⟩ := List.mem_map.mp hx
  exact Nat.xor_lt_two_pow (n := 10) (getD_lt (by decide) h2 i) (mulN_lt 10 v _ hv)
theorem turnN_len (t : Nat → Nat) (S : List Nat) : (turnN t S).length = S.length := by simp [turnN]
theorem turnN_lt {t : Nat → Nat} {S : List Nat} (hS : ∀ x ∈ S, x < 256) : ∀ x ∈ turnN t S, x < 256 := by
  intro x hx
  obtain ⟨i, _, rfl⟩ := List.mem_map.mp hx
  refine Nat.xor_lt_two_pow (n := 8) (getD_lt (by decide) hS i) ?_
  have := Nat.mod_lt (t 2) (show 0 < 255 by decide)
  split <;> omega
theorem turn_bad {t : Nat → Nat} {S M : List Nat} (hS : ∀ x ∈ S, x < 256) (hM : ∀ x ∈ M, x < 1024) (hn : S.length + M.length ≤ 15) (h0 : 0 < S.length) : run 1 (turnN t S ++ M) ≠ run 1 (S ++ M) := by
  intro e
  have up {W : List Nat} (h : ∀ x ∈ W, x < 256) : ∀ x ∈ W ++ M, x < 1024 := fun x hx => (List.mem_append.mp hx).elim (fun q => Nat.lt_trans (h x q) (by decide)) (hM x)
  have hp : t 1 % S.length < S.length := Nat.mod_lt _ h0
  have gl {W : List Nat} {j : Nat} (hj : j < W.length) : (W ++ M).getD j 0 = W.getD j 0 := by
    rw [List.getD_eq_getElem?_getD, List.getD_eq_getElem?_getD, List.getElem?_append_left hj]
  have gr {W : List Nat} {j : Nat} (hj : W.length ≤ j) : (W ++ M).getD j 0 = M.getD (j - W.length) 0 := by
    rw [List.getD_eq_getElem?_getD, List.getD_eq_getElem?_getD, List.getElem?_append_right hj]
  have gt {j : Nat} (hj : j < S.length) : (turnN t S).getD j 0 = S.getD j 0 ^^^ (if j = t 1 % S.length then 1 + t 2 % 255 else 0) := getD_rangeMap _ hj
  have z := distL (U := S ++ M) (V := turnN t S ++ M) (by simp [turnN_len]) (by simpa using hn) (up hS) (up (turnN_lt hS)) e.symm [t 1 % S.length] (by simp) (by simp; omega) (fun j hj hne => by
    by_cases h : j < S.length
    · rw [gl h, gl (by rw [turnN_len]; exact h), gt h] at hne
      by_cases h2 : j = t 1 % S.length
      · simp [h2]
      · rw [if_neg h2, Nat.xor_zero] at hne; exact absurd rfl hne
    · rw [gr (by omega), gr (by rw [turnN_len]; omega), turnN_len] at hne
      exact absurd rfl hne) (t 1 % S.length) (by simp; omega)
  rw [gl hp, gl (by rw [turnN_len]; exact hp), gt hp, if_pos rfl] at z
  exact xor_ne (by omega) z.symm
end Mine
end

section
open PySem PySem.W PyProof.Rows
namespace Mine
open Rs

theorem bool_ok {x : Nat} (h : x = 1) : ((x : Int) == 1) = true := by subst h; rfl
theorem bool_bad {x : Nat} (h : x ≠ 1) : ((x : Int) == 1) = false := by
  rw [beq_eq_false_iff_ne]
  intro e
  exact h (by omega)
theorem rowI_nat (t : Nat → Nat) (xs : List Nat) : rowI t xs = ofN (xs ++ chkN (strN t) xs) := by
  unfold rowI
  rw [show ckI (ofN (strN t)) (ofN xs) = ofN (chkN (strN t) xs) from ckI_nat _ _, ofN_app]
theorem mod_all {g : Nat → Nat} {n b : Nat} (hb : 0 < b) : ∀ x ∈ (List.range n).map (fun i => g i % b), x < b := by
  intro x hx
  obtain ⟨i, _, rfl⟩ := List.mem_map.mp hx
  exact Nat.mod_lt _ hb
theorem strN_lt (t : Nat → Nat) : ∀ x ∈ strN t, x < 256 := mod_all (g := t) (by decide)
theorem strN_len (t : Nat → Nat) : (strN t).length = t 3 % 4 := by simp [strN]
theorem oneN_lt (t : Nat → Nat) : ∀ x ∈ oneN t, x < 1024 := mod_all (g := fun k => t (6 + k)) (by decide)
theorem tailN_lt (t : Nat → Nat) : ∀ x ∈ tailN t, x < 1024 := mod_all (g := fun k => t (15 + k) + 5) (by decide)
theorem otherN_lt (t : Nat → Nat) : ∀ x ∈ otherN t, x < 1024 := fun x hx => (List.mem_append.mp hx).elim (fun h => oneN_lt t x (List.mem_of_mem_take h)) (tailN_lt t x)
def rowN (t : Nat → Nat) (xs : List Nat) : List Nat := xs ++ chkN (strN t) xs
theorem rowN_len (t : Nat → Nat) (xs : List Nat) : (rowN t xs).length = xs.length + 3 := by simp [rowN, chkN_len]
theorem rowN_lt (t : Nat → Nat) {xs : List Nat} (h : ∀ x ∈ xs, x < 1024) : ∀ x ∈ rowN t xs, x < 1024 := fun x hx => (List.mem_append.mp hx).elim (h x) (chkN_lt _ _ x)
theorem rowN_ok (t : Nat → Nat) {xs : List Nat} (h : ∀ x ∈ xs, x < 1024) : run 1 (strN t ++ rowN t xs) = 1 := verifies (fun x hx => Nat.lt_trans (strN_lt t x hx) (by decide)) h
theorem alike (t : Nat → Nat) {i : Nat} (hi : i < alN t) : (rowN t (oneN t)).getD i 0 = (rowN t (otherN t)).getD i 0 := by
  have s2 := al_lt t
  have h1 : i < (oneN t).length := by rw [one_len]; omega
  have h2 : i < (otherN t).length := by rw [other_len]; omega
  have h3 : i < ((oneN t).take (alN t)).length := by simp; omega
  unfold rowN
  rw [List.getD_eq_getElem?_getD, List.getD_eq_getElem?_getD, List.getElem?_append_left h1, List.getElem?_append_left h2]
  unfold otherN
  rw [List.getElem?_append_left h3, List.getElem?_take, if_pos hi]
def mdN (t : Nat → Nat) : List Nat := madeN (byN t) (rowN t (otherN t)) (partN (mvN t) (rowN t (oneN t)) (rowN t (otherN t)))
theorem row_lens (t : Nat → Nat) : (rowN t (oneN t)).length = (rowN t (otherN t)).length := by rw [rowN_len, rowN_len, one_len, other_len]
theorem mdN_len (t : Nat → Nat) : (mdN t).length = szN t + 3 := by
  unfold mdN
  rw [madeN_len, rowN_len, other_len]
theorem mdN_lt (t : Nat → Nat) : ∀ x ∈ mdN t, x < 1024 := madeN_lt (by_lt t) (rowN_lt t (otherN_lt t))
theorem mv_len (t : Nat → Nat) : mvN t ≤ (rowN t (oneN t)).length := by
  rw [rowN_len, one_len]
  have := mv_le t
  have := al_lt t
  omega
theorem mdN_ok (t : Nat → Nat) : run 1 (strN t ++ mdN t) = 1 := by
  have k1 := rowN_ok t (oneN_lt t)
  have k2 := rowN_ok t (otherN_lt t)
  rw [run_app] at k1 k2
  rw [run_app]
  have hz : run 0 (partN (mvN t) (rowN t (oneN t)) (rowN t (otherN t))) = 0 :=
    run_partN (row_lens t) (mv_len t) (fun i hi => alike t (Nat.lt_of_lt_of_le hi (mv_le t))) (k1.trans k2.symm)
  exact (run_madeN (by_lt t) (by rw [partN_len (mv_len t), row_lens]) (partN_lt (rowN_lt t (oneN_lt t)) (rowN_lt t (otherN_lt t))) hz).trans k2
theorem mdN_split (t : Nat → Nat) : chkN (strN t) ((mdN t).take ((mdN t).length - 3)) = (mdN t).drop ((mdN t).length - 3) := by
  refine ends (fun x hx => Nat.lt_trans (strN_lt t x hx) (by decide)) (fun x hx => mdN_lt t x (List.mem_of_mem_take hx)) (fun x hx => mdN_lt t x (List.mem_of_mem_drop hx)) ?_ ?_
  · rw [List.length_drop, mdN_len]; omega
  · rw [List.take_append_drop]; exact mdN_ok t
theorem row_drop (t : Nat → Nat) (xs : List Nat) : (rowN t xs).drop ((rowN t xs).length - 3) = chkN (strN t) xs := by
  rw [rowN_len]
  show (rowN t xs).drop xs.length = _
  unfold rowN
  exact List.drop_left
theorem third_ok (t : Nat → Nat) : ofN (chkN (strN t) (xor3N (oneN t).length (oneN t) (otherN t) (mdN t))) = xor3I ((ofN (rowN t (oneN t))).drop ((ofN (rowN t (oneN t))).length - 3)) ((ofN (rowN t (otherN t))).drop ((ofN (rowN t (otherN t))).length - 3)) (ofN (chkN (strN t) ((mdN t).take ((mdN t).length - 3)))) := by
  have lt3 : ((mdN t).take ((mdN t).length - 3)).length = szN t := by rw [List.length_take, mdN_len]; omega
  have e := three (S := strN t) (A := oneN t) (B := otherN t) (C := (mdN t).take ((mdN t).length - 3)) (D := xor3N (oneN t).length (oneN t) (otherN t) (mdN t)) (by rw [one_len, other_len]) (by rw [one_len, lt3]) (by
    unfold xor3N
    refine List.map_congr_left fun i hi => ?_
    have hi' : i < szN t := by
      have := List.mem_range.mp hi
      rwa [one_len] at this
    have : ((mdN t).take ((mdN t).length - 3)).getD i 0 = (mdN t).getD i 0 := by
      rw [List.getD_eq_getElem?_getD, List.getD_eq_getElem?_getD, List.getElem?_take, if_pos (by rw [mdN_len]; omega)]
    rw [this])
  rw [e, ofN_len, ofN_len, ofN_drop, ofN_drop, row_drop, row_drop]
  unfold xor3I ofN
  rw [List.map_map]
  refine List.map_congr_left fun i _ => ?_
  have g (xs : List Nat) : (xs.map fun (n : Nat) => (n : Int)).getD i 0 = ((xs.getD i 0 : Nat) : Int) := ofN_getD xs i
  rw [g, g, g, bitXor_nat, bitXor_nat]
  rfl
end Mine
end

section
open PySem PySem.W PyProof.Rows
namespace Mine
open Rs

theorem law3 {w : World} {mean : ExcName → Option Value} {mg mb : Str → Option Value} {base : Heap} {L fa : Addr} {cdv : Value} {Q : Flow → Shared → Prop} {E : Value → Shared → Prop} {s : Shared} {m : Str → Option Value} {oB oS oT oN : Obj} {lt : Addr} {its : List Value} {k : Nat} {t : Nat → Nat}
    (B : Below callerA base [] base) (X : (hd.heap_39 w.params).In base) (T : Top hd.view_39 (looseW hd.view_39 []) mean mg mb base) (F : Fr base L s.heap m) {bs : Array UInt8} {tbs : Tok} (N : Base1 base L s.heap oB oS oT oN lt its k []) (dT : oT.data = .cell (some (.ref lt))) (dS : oS.data = .cell (some (.bytes bs tbs))) (dB : oB.data = .cell none) (o0 : Over L lt)
    (hi : IntsAre its ((List.range 24).map fun i => (t i : Int))) (hbs : KBw.bInts bs = ofN (strN t)) (hbz : bs.size = t 3 % 4)
    (K : ∀ h tk m', Fr base L h m' → Q (.ret (.bool true)) { s with heap := h, toks := tk }) :
    LawFrom 3 w L fa cdv Q E s := by
  have z1 := one_len t
  have z2 := other_len t
  have z3 := sz_lt t
  have z4 := al_lt t
  have z5 := mv_le t
  have r1 : (rowN t (oneN t)).length = szN t + 3 := by rw [rowN_len, z1]
  have r2 : (rowN t (otherN t)).length = szN t + 3 := by rw [rowN_len, z2]
  have r3 := mdN_len t
  have b4 : t 3 % 4 < 4 := Nat.mod_lt _ (by decide)
  have hbs10 : bs.size ≤ 10 := by omega
  have hsl := strN_len t
  have k1 := rowN_ok t (oneN_lt t)
  have k2 := rowN_ok t (otherN_lt t)
  have k3 := mdN_ok t
  have c1 : run (run 1 (strN t)) (rowN t (oneN t)) = run (run 1 (strN t)) (rowN t (otherN t)) := by
    rw [← run_app, ← run_app, k1, k2]
  have fl (xs : List Nat) : (ofN xs).length = xs.length := ofN_len xs
  have pm (xs : List Nat) : pmI (KBw.bInts bs ++ ofN xs) = ((run 1 (strN t ++ xs) : Nat) : Int) := by
    rw [hbs, ofN_app, pmI_nat]
  have ck (xs : List Nat) : ckI (KBw.bInts bs) (ofN xs) = ofN (chkN (strN t) xs) := by
    rw [hbs]; exact ckI_nat _ _
  refine piece3 (t := t) B X T F N dT hi fun h tk t1 t2 F N => ?_
  refine piece5 (t := t) B X T F N dT hi rfl fun h tk l1 i1 k1' F N o1 hi1 => ?_
  refine piece6 (t := t) B X T F N dT hi rfl rfl rfl hi1 fun h tk l2 i2 k2' F N o2 l12 hi2 => ?_
  refine piece7 (t := t) B X T F N dS hbs hbs10 rfl rfl hi1 hi2 l12 fun h tk l3 i3 k3' l4 i4 k4' F N o3 o4 hi3 hi4 => ?_
  rw [rowI_nat] at hi3 hi4
  refine piece8 (t := t) (A1 := rowN t (oneN t)) (A2 := rowN t (otherN t)) B X T F N rfl rfl hi3 hi4 (row_lens t) (by omega) (count_bad (row_lens t) (by omega) (rowN_lt t (oneN_lt t)) (rowN_lt t (otherN_lt t)) c1) fun h tk F N => ?_
  refine piece9 (t := t) B X T F N dT dB o0 o1 o2 o3 o4 hi rfl fun h tk oB tb tm F N dB => ?_
  refine piece10 (t := t) (A1 := rowN t (oneN t)) (A2 := rowN t (otherN t)) B X T F N rfl rfl hi3 hi4 (row_lens t) (by omega) rfl (by omega) fun h tk l5 i5 k5 F N hi5 => ?_
  refine piece11 (t := t) (A2 := rowN t (otherN t)) B X T F N dB rfl rfl hi4 hi5 (by rw [partN_len (mv_len t), row_lens]) (by omega) (partN_lt (rowN_lt t (oneN_lt t)) (rowN_lt t (otherN_lt t))) fun h tk l6 i6 k6 F N o6 l06 hi6 => ?_
  have hi6 : IntsAre i6 (ofN (mdN t)) := hi6
  clear hi5
  refine piece12 (t := t) (M := mdN t) B X T F N dS hbs10 rfl hi6 (by rw [fl]; omega) (by rw [pm]; exact bool_ok k3) fun h tk F N => ?_
  refine piece13 (t := t) (A1 := rowN t (oneN t)) B X T F N dS hbs10 rfl rfl hi3 (by rw [fl]; omega) (by rw [pm]; exact bool_ok k1) fun h tk F N => ?_
  refine piece14 (t := t) B X T F N dS hbs10 hbs (by omega) dT hi fun h tk l7 i7 k7 F N hi7 => ?_
  refine piece15 (t := t) (M := mdN t) (T' := turnN t (strN t)) B X T F N dS hbs10 ?_ (by rw [fl, turnN_len]; omega) rfl hi7 rfl hi6 (by rw [fl]; omega) ?_ fun h tk F N => ?_
  · intro n hn
    obtain ⟨x, hx, rfl⟩ := List.mem_map.mp hn
    have := turnN_lt (strN_lt t) x hx
    omega
  · intro h0
    rw [ofN_app, pmI_nat]
    exact bool_bad (fun e => turn_bad (strN_lt t) (mdN_lt t) (by omega) (by omega) (e.trans k3.symm))
  clear hi7
  refine piece16 (t := t) (M := mdN t) B X T F N dS hbs10 rfl rfl hi6 (by rw [fl]; omega) (fun _ => ?_) fun h tk F N => ?_
  · rw [fl, ofN_take, ofN_drop, ck, mdN_split]
  refine piece17 (t := t) (O1 := oneN t) (O2 := otherN t) (M := mdN t) B X T F N dS hbs10 rfl rfl rfl hi1 hi2 hi6 (by omega) (by omega) (by omega) fun h tk l8 i8 k8 F N hi8 => ?_
  rw [ck] at hi8
  refine piece18 (t := t) (A1 := rowN t (oneN t)) (A2 := rowN t (otherN t)) (M := mdN t) B X T F N dS hbs10 rfl rfl rfl rfl hi3 hi4 hi6 hi8 rfl (by omega) (by omega) (by omega) (by omega) (by rw [fl]; omega) ?_ fun h tk F N => ?_
  · rw [fl (mdN t), ofN_take, ck]
    exact third_ok t
  have N : Base1 base L h oB oS oT oN lt its k [(l6, listOf i6.toArray k6)] := fun p hp => N p (by
      simp only [List.mem_cons, List.not_mem_nil, or_false] at hp ⊢
      rcases hp with h | h | h | h | h | h <;> simp [h])
  refine piece19 (t := t) (M := mdN t) B X T F N dT hi rfl hi6 (by omega) (by omega) fun h tk tp tq F N => ?_
  have hp : t 2 % (mdN t).length < (mdN t).length := Nat.mod_lt _ (by omega)
  have hq : t 3 / 4 % (mdN t).length < (mdN t).length := Nat.mod_lt _ (by omega)
  refine piece20 (t := t) (M := mdN t) (p := t 2 % (mdN t).length) B X T F N o6 l06 dT hi rfl rfl hi6 (by omega) hp fun h tk j5 F N hj5 => ?_
  have d1 : 1 + t 2 / 16 % 1023 < 1024 := by
    have := Nat.mod_lt (t 2 / 16) (show 0 < 1023 by decide)
    omega
  have d2 : 1 + t 0 / 1023 % 1023 < 1024 := by
    have := Nat.mod_lt (t 0 / 1023) (show 0 < 1023 by decide)
    omega
  have bad1 : run 1 (strN t ++ (mdN t).set (t 2 % (mdN t).length) ((mdN t).getD (t 2 % (mdN t).length) 0 ^^^ (1 + t 2 / 16 % 1023))) ≠ 1 := by
    intro e
    rw [run_app] at e k3
    exact one_bad (by omega) (mdN_lt t) hp (by omega) d1 (e.trans k3.symm)
  refine piece21 (t := t) (M := (mdN t).set (t 2 % (mdN t).length) ((mdN t).getD (t 2 % (mdN t).length) 0 ^^^ (1 + t 2 / 16 % 1023))) B X T F N dS hbs10 rfl hj5 (by rw [fl, List.length_set]; omega) (by rw [pm]; exact bool_bad bad1) fun h tk F N => ?_
  refine piece22 (t := t) (M := (mdN t).set (t 2 % (mdN t).length) ((mdN t).getD (t 2 % (mdN t).length) 0 ^^^ (1 + t 2 / 16 % 1023))) (p := t 2 % (mdN t).length) (q := t 3 / 4 % (mdN t).length) B X T F N o6 l06 dT hi rfl rfl rfl hj5 (by rw [List.length_set]; omega) (by rw [List.length_set]; exact hq) fun h tk j6 F N hj6 => ?_
  refine piece23 (t := t) B X T F N dS hbs10 rfl rfl hj6 ?_ ?_ fun h tk F N => K _ _ _ F
  · rw [fl]
    split <;> simp only [List.length_set] <;> omega
  · rw [pm]
    split
    · exact bool_bad bad1
    · rename_i hne
      refine bool_bad fun e => ?_
      rw [run_app] at e k3
      have g1 : (mdN t).getD (t 2 % (mdN t).length) 0 ^^^ (1 + t 2 / 16 % 1023) < 1024 := Nat.xor_lt_two_pow (n := 10) (getD_lt (by decide) (mdN_lt t) _) d1
      have g2 : ((mdN t).set (t 2 % (mdN t).length) ((mdN t).getD (t 2 % (mdN t).length) 0 ^^^ (1 + t 2 / 16 % 1023))).getD (t 3 / 4 % (mdN t).length) 0 ^^^ (1 + t 0 / 1023 % 1023) < 1024 := Nat.xor_lt_two_pow (n := 10) (getD_lt (by decide) (set_lt (mdN_lt t) g1) _) d2
      exact two_bad (by omega) (mdN_lt t) hp hq hne g1 g2 (xor_ne (by omega)) (e.trans k3.symm)
end Mine
end

section
open PySem PySem.W PyProof.Rows
namespace Mine
open Rs
theorem law0 {w : World} {mean : ExcName → Option Value} {mg mb : Str → Option Value} {base : Heap} {L fa : Addr} {cdv : Value} {Q : Flow → Shared → Prop} {E : Value → Shared → Prop} {s : Shared} {m : Str → Option Value} {oB oS oT oN : Obj} {lx : Addr} {vs : List Value} {ns : List Int}
    (B : Below callerA base [] base) (X : (hd.heap_39 w.params).In base) (T : Top hd.view_39 (looseW hd.view_39 []) mean mg mb base) (F : Fr base L s.heap m) (N : News base L s.heap (cells4 L oB oS oT oN [])) (dN : oN.data = .cell none) (dT : oT.data = .cell none) (dS : oS.data = .cell none) (dB : oB.data = .cell none)
    (hs : m (Str.ofString "script") = some (.ref lx)) (hl : base.IsList lx vs.toArray) (hi : IntsAre vs ns) (hn : ns.length ≤ 63)
    (K : ∀ h tk m', Fr base L h m' → Q (.ret (.bool true)) { s with heap := h, toks := tk }) :
    LawFrom 0 w L fa cdv Q E s := by
  refine piece0 B X T F N dN hs hl hi hn fun h tk oN ln vs ns extra hne hn F N dN hi hl => ?_
  refine piece1 B X T F N dT dN hl hi hn hne fun h tk oT lt its k F N dT o0 hi => ?_
  refine piece2 (t := toldN ns) B X T F N dT dS hi o0 fun h tk oS bs tb F N dS hbs hbz => ?_
  exact law3 (t := toldN ns) B X T F N dT dS dB o0 hi (hbs.trans (map_ofN _ fun i => toldN ns i % 256)) hbz fun h tk m' F => K _ _ m' F
end Mine
end

open PySem PySem.W PyProof.Rows Mine
theorem PySem.Challenge.cw_bc0030_01_holds : PySem.Challenge.rw_bc0030_01.Holds := by
  refine hd ?_
  k_go0
  rename_i w6 w5 w4 hL ra w1 r0 hI hr hc1 hc0 K0 hD h1 tk1 F o3 o2 o1 o0 dB dS dT dN N0 X0
  rename Top _ _ _ _ _ _ => T
  rename (hd.heap_39 _).In _ => KX
  with_unfolding_all refine' law0 K0 KX T F N0 dN dT dS dB ?hs hL hI ?hn ?K
  case hs => rfl
  case hn => omega
  case K =>
    intro h tk m' F9
    dsimp only
    wrow_close
