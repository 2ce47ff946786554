import PyProof.Rows.All
import Wide.All
import OpenK.AllK
import Wide.FinOn
import Lean
import PySem.Challenge.RW_bt5013_01
open PySem PySem.W PyProof.Rows PySem.Calls
set_option Elab.async false
namespace Mine
set_option maxRecDepth 100000 in
set_option maxHeartbeats 8000000 in
open_top hd01 for PySem.Challenge.rw_bt5013_01
end Mine
namespace Mine
/-! bits of naturals -/
theorem xor_and_or : ∀ (n x y : Nat), x < 2 ^ n → (x ^^^ y) + (x &&& y) = x ||| y := by
  intro n
  induction n with
  | zero => intro x y h; have : x = 0 := by omega
            subst this; simp
  | succ n ih =>
    intro x y h
    have h' := ih (x / 2) (y / 2) (by rw [Nat.pow_succ] at h; omega)
    have a1 : (x ^^^ y) / 2 = x / 2 ^^^ y / 2 := Nat.xor_div_two
    have a2 : (x &&& y) / 2 = x / 2 &&& y / 2 := Nat.and_div_two
    have a3 : (x ||| y) / 2 = x / 2 ||| y / 2 := Nat.or_div_two
    have b1 := @Nat.xor_mod_two_eq_one x y
    have b2 := @Nat.and_mod_two_eq_one x y
    have b3 := @Nat.or_mod_two_eq_one x y
    rw [← a1, ← a2, ← a3] at h'
    omega
theorem lt_two_pow_self' (x : Nat) : x < 2 ^ x := Nat.lt_two_pow_self
theorem bitOr_pp {x y : Int} (hx : 0 ≤ x) (hy : 0 ≤ y) : Builtin.bitOr x y = ((x.toNat ||| y.toNat : Nat) : Int) := by
  have e := bitOr_and x y
  rw [bitAnd_pp hx hy] at e
  have h := xor_and_or x.toNat x.toNat y.toNat Nat.lt_two_pow_self
  have h2 : x.toNat + y.toNat = (x.toNat ||| y.toNat) + (x.toNat &&& y.toNat) := by
    have key : ∀ (n x y : Nat), x < 2 ^ n → x + y = (x ||| y) + (x &&& y) := by
      intro n
      induction n with
      | zero => intro x y h; have : x = 0 := by omega
                subst this; simp
      | succ n ih =>
        intro x y h
        have h' := ih (x / 2) (y / 2) (by rw [Nat.pow_succ] at h; omega)
        have a2 : (x &&& y) / 2 = x / 2 &&& y / 2 := Nat.and_div_two
        have a3 : (x ||| y) / 2 = x / 2 ||| y / 2 := Nat.or_div_two
        have b2 := @Nat.and_mod_two_eq_one x y
        have b3 := @Nat.or_mod_two_eq_one x y
        rw [← a2, ← a3] at h'
        omega
    exact key x.toNat _ _ Nat.lt_two_pow_self
  omega
theorem bitXor_pp {x y : Int} (hx : 0 ≤ x) (hy : 0 ≤ y) : Builtin.bitXor x y = ((x.toNat ^^^ y.toNat : Nat) : Int) := by
  unfold Builtin.bitXor
  rw [bitOr_pp hx hy, bitAnd_pp hx hy]
  have h := xor_and_or x.toNat x.toNat y.toNat Nat.lt_two_pow_self
  omega
theorem bitXor_nn (x y : Nat) : Builtin.bitXor (x : Int) (y : Int) = ((x ^^^ y : Nat) : Int) := by
  rw [bitXor_pp (by omega) (by omega)]; rfl
theorem bitOr_nn (x y : Nat) : Builtin.bitOr (x : Int) (y : Int) = ((x ||| y : Nat) : Int) := by
  rw [bitOr_pp (by omega) (by omega)]; rfl
theorem bitAnd_nn' (x y : Nat) : Builtin.bitAnd (x : Int) (y : Int) = ((x &&& y : Nat) : Int) := by
  rw [bitAnd_pp (by omega) (by omega)]; rfl
theorem shl_n (x k : Nat) : (x : Int) * 2 ^ k = ((x * 2 ^ k : Nat) : Int) := by
  rw [Int.natCast_mul, kbt_cast]
theorem shr_n (x k : Nat) : (x : Int).fdiv (2 ^ k) = ((x / 2 ^ k : Nat) : Int) := by
  rw [Int.fdiv_eq_ediv_of_nonneg _ (Int.le_of_lt (kbt_pos k)), ← kbt_cast, Int.natCast_ediv]

/-- the XOR of the images of the dark places -/
def lin : List Nat → Nat → Nat
  | [], _ => 0
  | a :: t, n => (n % 2 * a) ^^^ lin t (n / 2)
theorem lin_xor (t : List Nat) : ∀ a b, lin t (a ^^^ b) = lin t a ^^^ lin t b := by
  induction t with
  | nil => intro a b; simp [lin]
  | cons c t ih =>
    intro a b
    simp only [lin]
    rw [Nat.xor_div_two, ih]
    have b1 := @Nat.xor_mod_two_eq_one a b
    have e : (a ^^^ b) % 2 * c = (a % 2 * c) ^^^ (b % 2 * c) := by
      rcases Nat.mod_two_eq_zero_or_one a with ha | ha <;> rcases Nat.mod_two_eq_zero_or_one b with hb | hb
      · have : (a ^^^ b) % 2 = 0 := by omega
        rw [this, ha, hb]; simp
      · have : (a ^^^ b) % 2 = 1 := by omega
        rw [this, ha, hb]; simp
      · have : (a ^^^ b) % 2 = 1 := by omega
        rw [this, ha, hb]; simp
      · have : (a ^^^ b) % 2 = 0 := by omega
        rw [this, ha, hb]; simp
    rw [e]
    ac_rfl
theorem lin_zero (t : List Nat) : lin t 0 = 0 := by
  induction t with
  | nil => rfl
  | cons a t ih => simp [lin, ih]

/-- a number under 2 ^ (k + 1) with the place k dark, without it -/
theorem xor_top {n k : Nat} (h : n < 2 ^ (k + 1)) (h2 : 2 ^ k ≤ n) : n ^^^ 2 ^ k < 2 ^ k := by
  have hb : n.testBit k = true := by
    rw [Nat.testBit_eq_decide_div_mod_eq]
    have : n / 2 ^ k = 1 := by
      have h1 : n / 2 ^ k < 2 := by
        rw [Nat.div_lt_iff_lt_mul (Nat.two_pow_pos k)]
        rw [Nat.pow_succ] at h; omega
      have h3 : 1 ≤ n / 2 ^ k := by
        rw [Nat.le_div_iff_mul_le (Nat.two_pow_pos k)]; omega
      omega
    simp [this]
  refine Nat.lt_pow_two_of_testBit _ fun i hi => ?_
  rw [Nat.testBit_xor, Nat.testBit_two_pow]
  by_cases e : k = i
  · subst e; simp [hb]
  · have : n.testBit i = false := Nat.testBit_lt_two_pow (Nat.lt_of_lt_of_le h (Nat.pow_le_pow_right (by decide) (by omega)))
    simp [this, e]
theorem xor_cancel (a b : Nat) : (a ^^^ b) ^^^ b = a := by rw [Nat.xor_assoc, Nat.xor_self, Nat.xor_zero]

/-- what is additive is told by the powers of two -/
theorem by_basis {f g : Nat → Nat} (hf : ∀ a b, f (a ^^^ b) = f a ^^^ f b) (hg : ∀ a b, g (a ^^^ b) = g a ^^^ g b) :
    ∀ k, (∀ i, i < k → f (2 ^ i) = g (2 ^ i)) → ∀ n, n < 2 ^ k → f n = g n := by
  have f0 : f 0 = 0 := by have h := hf 0 0; simpa using h
  have g0 : g 0 = 0 := by have h := hg 0 0; simpa using h
  intro k
  induction k with
  | zero =>
    intro _ n hn
    have : n = 0 := by simpa using hn
    rw [this, f0, g0]
  | succ k ih =>
    intro hk n hn
    by_cases h2 : 2 ^ k ≤ n
    · have h3 := ih (fun i hi => hk i (by omega)) (n ^^^ 2 ^ k) (xor_top hn h2)
      have e : n = (n ^^^ 2 ^ k) ^^^ 2 ^ k := (xor_cancel n (2 ^ k)).symm
      rw [e, hf, hg, h3, hk k (by omega)]
    · exact ih (fun i hi => hk i (by omega)) n (by omega)

/-! the code's remainders -/
def synT : List Nat := [1, 2, 4, 8, 16, 32, 64, 128, 256, 512, 1024, 2048, 3877, 367, 734, 1468, 2936, 2517, 3215, 1595, 3190, 1993, 3986]
def syn (n : Nat) : Nat := lin synT n
theorem syn_xor (a b : Nat) : syn (a ^^^ b) = syn a ^^^ syn b := lin_xor _ a b
theorem syn_zero : syn 0 = 0 := lin_zero _
theorem syn_small {n : Nat} (h : n < 4096) : syn n = n :=
  by_basis (f := syn) (g := fun n => n) syn_xor (fun _ _ => rfl) 12 (by decide) n h
theorem syn_g : ∀ k, k < 11 → syn (7973 * 2 ^ k) = 0 := by decide
theorem syn_lt (n : Nat) : syn n < 4096 := by
  have key : ∀ (t : List Nat), (∀ a ∈ t, a < 2 ^ 12) → ∀ n, lin t n < 2 ^ 12 := by
    intro t
    induction t with
    | nil => intro _ n; simp [lin]
    | cons a t ih =>
      intro ht n
      simp only [lin]
      refine Nat.xor_lt_two_pow ?_ (ih (fun b hb => ht b (.tail _ hb)) _)
      have := ht a (.head _)
      rcases Nat.mod_two_eq_zero_or_one n with e | e <;> rw [e] <;> omega
  exact key synT (by decide) n

/-- the number of binary places -/
def bl (n : Nat) : Nat := if n = 0 then 0 else n.log2 + 1
theorem bl_half {n : Nat} (h : n ≠ 0) : bl n = bl (n / 2) + 1 := by
  unfold bl
  rw [if_neg h]
  by_cases h2 : n / 2 = 0
  · rw [if_pos h2]
    have : n = 1 := by omega
    subst this; decide
  · rw [if_neg h2]
    have : n.log2 = (n/2).log2 + 1 := by
      rw [Nat.log2_def n, if_pos (by omega)]
    rw [this]
theorem bl_lt {n k : Nat} : n < 2 ^ k ↔ bl n ≤ k := by
  unfold bl
  by_cases h : n = 0
  · subst h; simp [Nat.two_pow_pos]
  · rw [if_neg h, ← Nat.log2_lt h]; omega
/-- one step of the division -/
theorem step_lt {D : Nat} (h : 13 ≤ bl D) : D ^^^ 7973 * 2 ^ (bl D - 13) < 2 ^ (bl D - 1) := by
  have hD0 : D ≠ 0 := by intro e; subst e; simp [bl] at h
  have e : D.log2 + 1 = bl D := by unfold bl; rw [if_neg hD0]
  have h1 : D < 2 ^ bl D := bl_lt.mpr (Nat.le_refl _)
  have h2 : 2 ^ (bl D - 1) ≤ D := by
    rcases Nat.lt_or_ge D (2 ^ (bl D - 1)) with q | q
    · have := bl_lt.mp q; omega
    · exact q
  have e3 : (7973 : Nat) = 4096 ^^^ 3877 := by decide
  have e4 : 7973 * 2 ^ (bl D - 13) = 2 ^ (bl D - 1) ^^^ 3877 * 2 ^ (bl D - 13) := by
    have : 2 ^ (bl D - 1) = 4096 * 2 ^ (bl D - 13) := by
      have : bl D - 1 = 12 + (bl D - 13) := by omega
      rw [this, Nat.pow_add]
    rw [this, ← Nat.shiftLeft_eq, ← Nat.shiftLeft_eq, ← Nat.shiftLeft_eq, ← Nat.shiftLeft_xor_distrib, ← e3]
  rw [e4, ← Nat.xor_assoc]
  refine Nat.xor_lt_two_pow (xor_top (by rw [show bl D - 1 + 1 = bl D by omega]; exact h1) h2) ?_
  have : 2 ^ (bl D - 1) = 4096 * 2 ^ (bl D - 13) := by
    have : bl D - 1 = 12 + (bl D - 13) := by omega
    rw [this, Nat.pow_add]
  rw [this]
  exact Nat.mul_lt_mul_of_pos_right (by decide) (Nat.two_pow_pos _)
theorem step_syn {D : Nat} (h : 13 ≤ bl D) (h2 : D < 8388608) : syn (D ^^^ 7973 * 2 ^ (bl D - 13)) = syn D := by
  have h3 : bl D ≤ 23 := bl_lt.mp h2
  rw [syn_xor, syn_g _ (by omega), Nat.xor_zero]
/-- the version word -/
def bch (n : Nat) : Nat := n * 4096 ||| syn (n * 4096)
theorem bch_xor_form (n : Nat) (h : n < 2048) : bch n = n * 4096 ^^^ syn (n * 4096) := by
  have hs : syn (n * 4096) < 2 ^ 12 := syn_lt _
  unfold bch
  apply Nat.eq_of_testBit_eq
  intro i
  rw [Nat.testBit_or, Nat.testBit_xor]
  by_cases hi : i < 12
  · have : (n * 4096).testBit i = false := by
      rw [show n * 4096 = n <<< 12 by rw [Nat.shiftLeft_eq], Nat.testBit_shiftLeft]
      simp; omega
    simp [this]
  · have : (syn (n * 4096)).testBit i = false := Nat.testBit_lt_two_pow (Nat.lt_of_lt_of_le hs (Nat.pow_le_pow_right (by decide) (by omega)))
    simp [this]
end Mine
namespace Mine
@[irreducible] def digitF (x : Int) : Int := ((bl x.toNat : Nat) : Int)
theorem digitF_0 (x : Int) : 0 ≤ digitF x := by unfold digitF; omega
theorem digitF_g : digitF 7973 = 13 := by decide +kernel
theorem shr1 (data : Int) : data.fdiv (2 ^ (1 : Int).toNat) = data / 2 := by
  rw [Int.fdiv_eq_ediv_of_nonneg _ (by decide)]; rfl
def DigInv (d0 digit data : Int) : Prop := digit + digitF data = digitF d0
theorem DigInv.start (d0 : Int) : DigInv d0 0 d0 := by unfold DigInv; omega
theorem DigInv.step {d0 digit data : Int} (h : DigInv d0 digit data) (h0 : 0 ≤ data) (h1 : data ≠ 0) : DigInv d0 (digit + 1) (data.fdiv (2 ^ (1 : Int).toNat)) := by
  unfold DigInv digitF at *
  have e2 : (data / 2).toNat = data.toNat / 2 := by omega
  have e3 := bl_half (n := data.toNat) (by omega)
  rw [shr1, e2]; omega
theorem DigInv.done {d0 digit data : Int} (h : DigInv d0 digit data) (h1 : data = 0) : digit = digitF d0 := by
  unfold DigInv digitF at *
  subst h1
  have : bl (0 : Int).toNat = 0 := by decide
  omega
theorem shift_bnd {d : Int} (h0 : 0 ≤ d) (h1 : d < 8388608) : digitF d - digitF 7973 ≤ 1000000 := by
  rw [digitF_g]
  have := bl_lt.mp (show d.toNat < 2 ^ 23 by omega)
  unfold digitF; omega
/-- the loop of the division -/
@[irreducible] def bchF (n : Int) : Int := ((bch n.toNat : Nat) : Int)
def BchInv (data d : Int) : Prop := syn d.toNat = syn (data.toNat * 4096)
theorem shl12 (data : Int) : data * 2 ^ (12 : Int).toNat = data * 4096 := rfl
theorem BchInv.start {data : Int} (h : 0 ≤ data) : BchInv data (data * 2 ^ (12 : Int).toNat) := by
  unfold BchInv
  rw [shl12]
  have : (data * 4096).toNat = data.toNat * 4096 := by omega
  rw [this]
theorem bch_next {d : Int} (h0 : 0 ≤ d) (_hd : 0 ≤ digitF d - digitF 7973) :
    Builtin.bitXor d (7973 * 2 ^ (digitF d - digitF 7973).toNat) = ((d.toNat ^^^ 7973 * 2 ^ (bl d.toNat - 13) : Nat) : Int) := by
  have e : (digitF d - digitF 7973).toNat = bl d.toNat - 13 := by
    rw [digitF_g]; unfold digitF; omega
  rw [e]
  have e2 : (7973 : Int) * 2 ^ (bl d.toNat - 13) = ((7973 * 2 ^ (bl d.toNat - 13) : Nat) : Int) := shl_n 7973 _
  rw [e2]
  rw [bitXor_pp h0 (by omega), Int.toNat_natCast]
theorem ge13 {d : Int} (hd : 0 ≤ digitF d - digitF 7973) : 13 ≤ bl d.toNat := by
  rw [digitF_g] at hd; unfold digitF at hd; omega
theorem bch_next0 {d : Int} (h0 : 0 ≤ d) (hd : 0 ≤ digitF d - digitF 7973) : 0 ≤ Builtin.bitXor d (7973 * 2 ^ (digitF d - digitF 7973).toNat) := by
  rw [bch_next h0 hd]; omega
theorem bch_next1 {d : Int} (h0 : 0 ≤ d) (h1 : d < 8388608) (hd : 0 ≤ digitF d - digitF 7973) : Builtin.bitXor d (7973 * 2 ^ (digitF d - digitF 7973).toNat) < 8388608 := by
  rw [bch_next h0 hd]
  have h3 : bl d.toNat ≤ 23 := bl_lt.mp (show d.toNat < 2 ^ 23 by omega)
  have h := step_lt (ge13 hd)
  have h4 : 2 ^ (bl d.toNat - 1) ≤ 2 ^ 22 := Nat.pow_le_pow_right (by decide) (by omega)
  omega
theorem bch_less {d : Int} (h0 : 0 ≤ d) (hd : 0 ≤ digitF d - digitF 7973) : (digitF (Builtin.bitXor d (7973 * 2 ^ (digitF d - digitF 7973).toNat))).toNat < (digitF d).toNat := by
  rw [bch_next h0 hd]
  have h := bl_lt.mp (step_lt (ge13 hd))
  have := ge13 hd
  unfold digitF
  simp only [Int.toNat_natCast]
  omega
theorem BchInv.step {data d : Int} (h : BchInv data d) (h0 : 0 ≤ d) (h1 : d < 8388608) (hd : 0 ≤ digitF d - digitF 7973) :
    BchInv data (Builtin.bitXor d (7973 * 2 ^ (digitF d - digitF 7973).toNat)) := by
  unfold BchInv at *
  rw [bch_next h0 hd, Int.toNat_natCast, step_syn (ge13 hd) (by omega), h]
theorem BchInv.done {data d : Int} (h : BchInv data d) (hd0 : 0 ≤ data) (h0 : 0 ≤ d) (hd : ¬ 0 ≤ digitF d - digitF 7973) :
    Builtin.bitOr (data * 2 ^ (12 : Int).toNat) d = bchF data := by
  unfold BchInv at h
  rw [shl12]
  have h2 : d.toNat < 4096 := (bl_lt (k := 12)).mpr (by rw [digitF_g] at hd; unfold digitF at hd; omega)
  rw [syn_small h2] at h
  have e1 : data * 4096 = ((data.toNat * 4096 : Nat) : Int) := by omega
  have e2 : d = ((syn (data.toNat * 4096) : Nat) : Int) := by omega
  rw [e1, e2, bitOr_nn]; unfold bchF; rfl
theorem bch_lt {n : Nat} (h : n < 2048) : bch n < 8388608 := by
  have hs := syn_lt (n * 4096)
  unfold bch
  exact Nat.or_lt_two_pow (n := 23) (by omega) (by omega)
theorem or_div (a b : Nat) (hb : b < 4096) : (a * 4096 ||| b) / 4096 = a := by
  have h1 : (a * 4096 ||| b) / 2 ^ 12 = (a * 4096) / 2 ^ 12 ||| b / 2 ^ 12 := Nat.or_div_two_pow
  have h2 : (a * 4096) / 2 ^ 12 = a := by omega
  have h3 : b / 2 ^ 12 = 0 := by omega
  rw [h2, h3, Nat.or_zero] at h1
  exact h1
theorem bch_div (n : Nat) : bch n / 4096 = n := or_div n _ (syn_lt _)
theorem shr12 (y : Int) : y.fdiv (2 ^ Int.toNat 12) = y / 4096 := by
  rw [Int.fdiv_eq_ediv_of_nonneg _ (by decide)]; rfl
theorem bchF_facts {n : Int} (h : 0 ≤ n ∧ n < 2048) : (bchF n).fdiv (2 ^ Int.toNat 12) = n ∧ 0 ≤ bchF n ∧ bchF n < 8388608 := by
  have h1 := bch_lt (n := n.toNat) (by omega)
  have h2 := bch_div n.toNat
  unfold bchF
  rw [shr12]
  omega
theorem bchF_one : bchF 1 = 7973 := by decide +kernel
theorem xor_small {m : Int} (h : 8388607 < m) (h2 : m < 16777216) : 0 ≤ Builtin.bitXor m 16777215 ∧ Builtin.bitXor m 16777215 ≤ 8388607 := by
  have e : Builtin.bitXor m 16777215 = ((m.toNat ^^^ 16777215 : Nat) : Int) := bitXor_pp (by omega) (by decide)
  have : m.toNat ^^^ 16777215 < 2 ^ 23 := by
    have e2 : m.toNat ^^^ 16777215 = (m.toNat ^^^ 2 ^ 23) ^^^ 8388607 := by
      rw [Nat.xor_assoc]; rfl
    rw [e2]
    exact Nat.xor_lt_two_pow (xor_top (by omega) (by omega)) (by decide)
  omega
theorem xor_big {m : Int} (h : 0 ≤ m) (h2 : m < 8388608) : 0 ≤ Builtin.bitXor m 16777215 ∧ Builtin.bitXor m 16777215 < 16777216 := by
  have e : Builtin.bitXor m 16777215 = ((m.toNat ^^^ 16777215 : Nat) : Int) := bitXor_pp (by omega) (by decide)
  have : m.toNat ^^^ 16777215 < 2 ^ 24 := Nat.xor_lt_two_pow (by omega) (by decide)
  omega
theorem shr_bnd {y : Int} (h : 0 ≤ y) (h2 : y ≤ 8388607) : 0 ≤ y.fdiv (2 ^ Int.toNat 12) ∧ y.fdiv (2 ^ Int.toNat 12) < 2048 := by
  rw [shr12]; omega
end Mine
namespace Mine
/-- what a call of the def at f does, from any frame of the text's own, with the objects `news` made so far: it hands back R, and makes nothing that stays -/
abbrev Does (prog : Program) (w : World) (K : Frag) (p : Program) (loose : List PySem.Str) (mean : ExcName → Option Value) (mg mb : PySem.Str → Option Value) (f : Addr) (rm : Nat)
    (news : List (Addr × Obj)) (H : Heap → Prop) (vs : List Value) (R : Tok → Value) (P : Prop) : Prop :=
  ∀ (dp un : Nat) (gd : Option (List Code)) (cn : PySem.Str) (cs : Scope) (a : Addr) (ccd : Value) (cl : List (PySem.Str × Addr)) (outer : List Env) (A₀ : Around) (base h₀ : Heap) (L : Addr)
    (m : PySem.Str → Option Value) (s : Shared) (Q E : Value → Shared → Prop),
    Below A₀ base outer h₀ → Fr h₀ L s.heap m → K.In h₀ → News h₀ L s.heap news → Top p loose mean mg mb h₀ → cs.kind = .function → H base →
    dp + rm < recursionLimit → un + 8 * rm < cLine →
    (∀ (t : Tok) (h' : Heap) (tk' : Nat), P → Fr h₀ L h' m → News h₀ L h' news → Q (R t) { s with heap := h', toks := tk' }) →
    wpAny (model prog w) (ktrTop dp un gd cn cs L a ccd cl outer) (call (.ref f) vs) Q E s
theorem does_ret {h₀ h' : Heap} {L : Addr} {m : PySem.Str → Option Value} {news : List (Addr × Obj)} {s : Shared} {Q : Value → Shared → Prop} {x y : Int} {t : Tok} {tk' : Nat} {P : Prop}
    (hret : ∀ (t : Tok) (h' : Heap) (tk' : Nat), P → Fr h₀ L h' m → News h₀ L h' news → Q (.int x t) { s with heap := h', toks := tk' }) (F : Fr h₀ L h' m) (N : News h₀ L h' news) (p : P) (e : y = x) : Q (.int y t) { s with heap := h', toks := tk' } := by
  subst e
  exact hret t h' tk' p F N
end Mine
namespace Mine
set_option maxRecDepth 100000
theorem kind_pow3 : builtinKind "pow" = none := by decide +kernel
theorem plain_pow3 : plainId "pow" = true := by decide +kernel
theorem entry_pow3 : entryFor table "pow" = some Builtin.«pow» := entryFor_of_fast (by kernel_rfl)
theorem args_pow3 (a b c : Value) : argsOk "pow" ⟨[a, b, c], []⟩ := by unfold argsOk; kernel_rfl
theorem args_ipow3 (a b c : Value) : argsOk "int.__pow__" ⟨[a, b, c], []⟩ := by unfold argsOk; kernel_rfl
@[irreducible] def pow23 (x : Int) (e : Nat) : Int := ((Builtin.powMod (x % (23 : Nat)).toNat e 23 : Nat) : Int)
theorem gives_pow (x : Int) (y : Nat) (t u v : Tok) : Gives (Builtin.«int.__pow__» ⟨[.int x t, .int (y : Int) u, .int 23 v], []⟩) (.int (pow23 x y)) :=
  .of_wp fun M A E s Q h => by
    obtain ⟨hp, g, d, tk, os⟩ := s
    unfold pow23 at h
    wp_walk
    exact ⟨_, rfl, h⟩
theorem slot_pow : Slot "int" (PySem.Str.ofString "__pow__") "int.__pow__" := slot_int_pow
set_option maxHeartbeats 1000000 in
theorem call_pow3 {prog : Program} {w : World} {A : Around} {E : Value → Shared → Prop} {s : Shared} {Q : Value → Shared → Prop} {x : Int} {y : Nat} {t u v : Tok}
    (h : ∀ tk tk', Q (.int (pow23 x y) tk) { s with toks := tk' }) : wpAny (model prog w) A (call (.builtin "pow") [.int x t, .int (y : Int) u, .int 23 v]) Q E s := by
  refine call_function_entry kind_pow3 plain_pow3 entry_pow3 (args_pow3 _ _ _) ?_
  obtain ⟨hp, g, d, tk, os⟩ := s
  have hT : (⟨hp, g, d, tk, os⟩ : Shared).TypeIs (.int x t) "int" := rfl
  have f3 := slot_pow.lookup
  have f4 := slot_pow.bind (.int x t)
  repeat (any_goals (first | assumption | ((with_reducible show wpAny _ _ (call (Value.builtin "int.__pow__") _ _) _ _ _); refine call_gives slot_pow hT entry_int_pow (args_ipow3 _ _ _) (gives_pow x y t u v) ?_; dsimp only [Made.post]) | wp_step))
  exact ⟨_, rfl, h _ _⟩
section
variable {prog : Program} {w : World} {A : Around} {E : Value → Shared → Prop} {s : Shared} {Q : Value → Shared → Prop} {x : Int} {t u v : Tok}
theorem call_pow21 (h : ∀ tk tk', Q (.int (pow23 x 21) tk) { s with toks := tk' }) : wpAny (model prog w) A (call (.builtin "pow") [.int x t, .int 21 u, .int 23 v]) Q E s := call_pow3 (y := 21) h
theorem call_pow11 (h : ∀ tk tk', Q (.int (pow23 x 11) tk) { s with toks := tk' }) : wpAny (model prog w) A (call (.builtin "pow") [.int x t, .int 11 u, .int 23 v]) Q E s := call_pow3 (y := 11) h
end
theorem powMod_lt (b e : Nat) : Builtin.powMod b e 23 < 23 := by
  unfold Builtin.powMod
  have key : ∀ (l : List Nat) (p : Nat), p < 23 → l.foldl (fun p i => if e.testBit i then p * p % 23 * b % 23 else p * p % 23) p < 23 := by
    intro l
    induction l with
    | nil => intro p h; exact h
    | cons i l ih => intro p _; rw [List.foldl_cons]; refine ih _ ?_; split <;> exact Nat.mod_lt _ (by decide)
  exact key _ _ (by decide)
theorem pow23_bnd (x : Int) (e : Nat) : 0 ≤ pow23 x e ∧ pow23 x e < 23 := by
  have := powMod_lt (x % (23 : Nat)).toNat e
  unfold pow23; omega
end Mine
namespace Mine
/-- the image of the dark places under a map of the places -/
def img (p : Nat → Nat) (w : Nat) : Nat := (List.range 24).foldl (fun acc i => if w.testBit i then acc ||| 2 ^ p i else acc) 0
def inv (y : Nat) : Nat := y ^ 21 % 23
/-- the map x -> (a x + b) / (c x + d) of the line over 23; the far place is 23 -/
def pt (a b c d i : Nat) : Nat :=
  if (if i < 23 then (c * i + d) % 23 else c) = 0 then 23
  else (if i < 23 then (a * i + b) % 23 else a) * inv (if i < 23 then (c * i + d) % 23 else c) % 23
@[irreducible] def movedF (x a b c d : Int) : Int := ((img (pt a.toNat b.toNat c.toNat d.toNat) x.toNat : Nat) : Int)
theorem img_lt {p : Nat → Nat} (hp : ∀ i, p i < 24) (w : Nat) : img p w < 16777216 := by
  have key : ∀ (l : List Nat) (acc : Nat), acc < 2 ^ 24 → l.foldl (fun acc i => if w.testBit i then acc ||| 2 ^ p i else acc) acc < 2 ^ 24 := by
    intro l
    induction l with
    | nil => intro acc h; exact h
    | cons i l ih =>
      intro acc h
      rw [List.foldl_cons]
      refine ih _ ?_
      split
      · exact Nat.or_lt_two_pow h (Nat.pow_lt_pow_right (by decide) (hp i))
      · exact h
  exact key _ 0 (by decide)
theorem pt_lt (a b c d i : Nat) : pt a b c d i < 24 := by
  unfold pt
  generalize (if i < 23 then (c * i + d) % 23 else c) = z
  generalize (if i < 23 then (a * i + b) % 23 else a) * inv z = y
  split <;> omega
theorem movedF_facts (x a b c d : Int) : 0 ≤ movedF x a b c d ∧ movedF x a b c d < 16777216 := by
  have := img_lt (pt_lt a.toNat b.toNat c.toNat d.toNat) x.toNat
  unfold movedF; omega
theorem fold_cast (F : Int → Int → Int) (G : Nat → Nat → Nat) (h : ∀ acc i : Nat, i < 24 → F (acc : Int) (i : Int) = ((G acc i : Nat) : Int)) :
    List.foldl F 0 (rangeKs 0 (24 - 0 : Int).toNat) = ((List.foldl G 0 (List.range 24) : Nat) : Int) := by
  have key : ∀ (l : List Nat) (acc : Nat), (∀ i ∈ l, i < 24) → List.foldl F (acc : Int) (l.map fun (i : Nat) => (0 : Int) + (i : Int)) = ((List.foldl G acc l : Nat) : Int) := by
    intro l
    induction l with
    | nil => intro acc _; rfl
    | cons i l ih =>
      intro acc hl
      rw [List.map_cons, List.foldl_cons, List.foldl_cons, Int.zero_add, h acc i (hl i (.head _))]
      exact ih _ fun j hj => hl j (.tail _ hj)
  exact key (List.range 24) 0 fun i hi => List.mem_range.mp hi
theorem bit_at (X i : Nat) : Builtin.bitAnd ((X : Int).fdiv (2 ^ i)) 1 = ((X.testBit i).toNat : Int) := by
  rw [shr_n, bitAnd_m1, Nat.testBit_eq_decide_div_mod_eq]
  generalize X / 2 ^ i = q
  rcases Nat.mod_two_eq_zero_or_one q with e | e
  · have h : (q : Int) % 2 = 0 := by omega
    rw [h]; simp [e]
  · have h : (q : Int) % 2 = 1 := by omega
    rw [h]; simp [e]
theorem fmod_n (x : Nat) : (x : Int).fmod 23 = ((x % 23 : Nat) : Int) := by
  rw [Int.fmod_eq_emod_of_nonneg _ (by decide)]; omega
theorem lin_n (a c i : Nat) : ((a : Int) * (i : Int) + (c : Int)).fmod 23 = (((a * i + c) % 23 : Nat) : Int) := by
  rw [← fmod_n]; congr 1
theorem pow_n : ∀ y : Nat, y < 23 → pow23 (y : Int) 21 = ((inv y : Nat) : Int) := by decide +kernel
theorem or_n (acc k : Nat) : Builtin.bitOr (acc : Int) (1 * 2 ^ k) = ((acc ||| 2 ^ k : Nat) : Int) := by
  rw [Int.one_mul, ← kbt_cast, bitOr_nn]
theorem or_far (acc : Nat) : Builtin.bitOr (acc : Int) 8388608 = ((acc ||| 2 ^ 23 : Nat) : Int) := bitOr_nn acc 8388608
theorem moved_eq {x a b c d : Int} (hx : 0 ≤ x ∧ x < 16777216) (ha : 0 ≤ a ∧ a < 23) (hb : 0 ≤ b ∧ b < 23) (hc : 0 ≤ c ∧ c < 23) (hd : 0 ≤ d ∧ d < 23) :
    List.foldl (fun a' k' =>
        if ¬Builtin.bitAnd (x.fdiv (2 ^ k'.toNat)) 1 = 0 ∧ k' < 23 ∧ (c * k' + d).fmod 23 = 0 then
          Builtin.bitOr a' 8388608
        else
          if ¬Builtin.bitAnd (x.fdiv (2 ^ k'.toNat)) 1 = 0 ∧ k' < 23 ∧ ¬(c * k' + d).fmod 23 = 0 ∧
                    0 ≤ ((a * k' + b).fmod 23 * pow23 ((c * k' + d).fmod 23) 21).fmod 23 ∧
                      ((a * k' + b).fmod 23 * pow23 ((c * k' + d).fmod 23) 21).fmod 23 < 23 ∧
                        0 ≤ (a * k' + b).fmod 23 ∧
                          (a * k' + b).fmod 23 < 23 ∧ 0 ≤ (c * k' + d).fmod 23 ∧ (c * k' + d).fmod 23 < 23 then
            Builtin.bitOr a' (1 * 2 ^ (((a * k' + b).fmod 23 * pow23 ((c * k' + d).fmod 23) 21).fmod 23).toNat)
          else
            if ¬Builtin.bitAnd (x.fdiv (2 ^ k'.toNat)) 1 = 0 ∧ ¬k' < 23 ∧ c = 0 then Builtin.bitOr a' 8388608
            else
              if ¬Builtin.bitAnd (x.fdiv (2 ^ k'.toNat)) 1 = 0 ∧ ¬k' < 23 ∧ ¬c = 0 ∧ 0 ≤ (a * pow23 c 21).fmod 23 ∧ (a * pow23 c 21).fmod 23 < 23 then
                Builtin.bitOr a' (1 * 2 ^ ((a * pow23 c 21).fmod 23).toNat)
              else if Builtin.bitAnd (x.fdiv (2 ^ k'.toNat)) 1 = 0 then a' else a')
      0 (rangeKs 0 (24 - 0 : Int).toNat) = movedF x a b c d := by
  obtain ⟨X, rfl⟩ := Int.eq_ofNat_of_zero_le hx.1
  obtain ⟨A, rfl⟩ := Int.eq_ofNat_of_zero_le ha.1
  obtain ⟨B, rfl⟩ := Int.eq_ofNat_of_zero_le hb.1
  obtain ⟨C, rfl⟩ := Int.eq_ofNat_of_zero_le hc.1
  obtain ⟨D, rfl⟩ := Int.eq_ofNat_of_zero_le hd.1
  unfold movedF img
  refine fold_cast _ _ fun acc i hi => ?_
  have hC : C < 23 := by omega
  have hbe : (C * i + D) % 23 < 23 := Nat.mod_lt _ (by decide)
  have hab : (A * i + B) % 23 < 23 := Nat.mod_lt _ (by decide)
  simp only [lin_n, bit_at, or_far, Int.toNat_natCast]
  unfold pt
  generalize (C * i + D) % 23 = be at *
  generalize (A * i + B) % 23 = ab at *
  rw [pow_n be hbe, pow_n C hC]
  have m1 : ((ab : Int) * ((inv be : Nat) : Int)).fmod 23 = ((ab * inv be % 23 : Nat) : Int) := by rw [← fmod_n]; rfl
  have m2 : ((A : Int) * ((inv C : Nat) : Int)).fmod 23 = ((A * inv C % 23 : Nat) : Int) := by rw [← fmod_n]; rfl
  have l1 : ab * inv be % 23 < 23 := Nat.mod_lt _ (by decide)
  have l2 : A * inv C % 23 < 23 := Nat.mod_lt _ (by decide)
  simp only [m1, m2, Int.toNat_natCast, or_n]
  by_cases hbit : X.testBit i = true
  · simp only [hbit, Bool.toNat_true]
    by_cases h23 : i < 23
    · simp only [if_pos h23]
      by_cases h0 : be = 0
      · rw [if_pos (by omega), if_pos h0, if_pos trivial]
      · rw [if_neg (by omega), if_pos (by omega), if_neg h0, if_pos trivial]
    · simp only [if_neg h23]
      rw [if_neg (by omega), if_neg (by omega)]
      by_cases h0 : C = 0
      · rw [if_pos (by omega), if_pos h0, if_pos trivial]
      · rw [if_neg (by omega), if_pos (by omega), if_neg h0, if_pos trivial]
  · have hbit' : X.testBit i = false := by simpa using hbit
    simp only [hbit', Bool.toNat_false]
    rw [if_neg (by omega), if_neg (by omega), if_neg (by omega), if_neg (by omega), if_pos (by omega)]
    simp
end Mine
namespace Mine
set_option maxRecDepth 100000 in
set_option maxHeartbeats 8000000 in
theorem digit1 {w : World} {s₀ : Shared} {mg mb : PySem.Str → Option Value} (news : List (Addr × Obj)) (x : Int) (t : Tok) (hx : 0 ≤ x) :
    Does PySem.Challenge.rw_bt5013_01.row.prog w (hd01.heap_39 w.params) hd01.view_39 (looseW hd01.view_39 [Str.ofString "G18"]) (ExcName.means s₀.heap) mg mb 28 1 news (fun _ => True) [.int x t] (fun t => .int (digitF x) t) True := by
  k_fill
  k_with "exec While Compare cons nil" => (k_while_given ["data!"] (fun d0 script digit data => 0 ≤ data ∧ data ≤ d0 ∧ DigInv d0 digit data) (fun d0 script digit data => data.toNat) "digit" "data")
  k_with "state" => (refine ⟨?_, ?_, ?_⟩ <;> first | omega | (rw [shr1]; omega) | exact DigInv.start _ | exact DigInv.step (by assumption) (by omega) (by omega))
  k_with "measure" => (first | omega | (rw [shr1]; omega))
  dsimp only [Does]; intros
  rename_i hret
  refine wpAny_call ?_
  k_dflt cell_enter
  k_steps
  all_goals exact does_ret (by assumption) (by k_asm) (by k_asm) trivial (DigInv.done (by assumption) (by omega))
end Mine
namespace Mine
set_option maxRecDepth 100000 in
set_option maxHeartbeats 8000000 in
theorem bch1 {w : World} {s₀ : Shared} {mg mb : PySem.Str → Option Value} (news : List (Addr × Obj)) (x : Int) (t : Tok) (hx : 0 ≤ x ∧ x < 2048) :
    Does PySem.Challenge.rw_bt5013_01.row.prog w (hd01.heap_39 w.params) hd01.view_39 (looseW hd01.view_39 [Str.ofString "G18"]) (ExcName.means s₀.heap) mg mb 21 2 news (fun _ => True) [.int x t] (fun t => .int (bchF x) t) ((bchF x).fdiv (2 ^ Int.toNat 12) = x ∧ 0 ≤ bchF x ∧ bchF x < 8388608) := by
  k_fill
  k_with "call ref" => (k_dflt (
    refine' digit1 _ _ _ ?k0 _ _ _ _ _ _ _ _ _ _ _ _ _ _ _ _ _ ?k1 ?k2 ?k3 ?k4 ?k5 ?kK ?kH ?kd ?ku ?_
    (case k1 => k_asm)
    (case k2 => k_asm)
    (case k3 => k_asm)
    (case k4 => k_asm)
    (case k5 => k_asm)
    (case kK => first | exact rfl | assumption)
    (case kH => trivial)
    (case k0 => first | decide | omega | fail)
    (case kd => ktr_room)
    (case ku => ktr_units)
    intro t9 h9 tk9 _ F9 N9
    (try dsimp only)
    (try k_fold)))
  k_with "exec While Compare cons nil" => (k_while_given ["data"] (fun data script d => 0 ≤ d ∧ d < 8388608 ∧ BchInv data d) (fun data script d => (digitF d).toNat) "d")
  k_with "binaryOp LShift int int" => ((with_reducible refine lshift_int_small ?kb1 ?kb2 ?kb3 ?_); (case kb1 => omega); (case kb2 => exact shift_bnd (by omega) (by omega)); (case kb3 => decide))
  k_with "state" => (refine ⟨?_, ?_, ?_⟩ <;> first | omega | (rw [shl12]; omega) | exact bch_next0 (by omega) (by omega) | exact bch_next1 (by omega) (by omega) (by omega) | exact BchInv.start (by omega) | exact BchInv.step (by assumption) (by omega) (by omega) (by omega))
  k_with "measure" => (exact bch_less (by omega) (by omega))
  dsimp only [Does]; intros
  rename_i hret
  refine wpAny_call ?_
  k_dflt cell_enter
  k_steps
  all_goals exact does_ret (by assumption) (by k_asm) (by k_asm) (bchF_facts hx) (BchInv.done (by assumption) (by omega) (by omega) (by omega))
end Mine
namespace Mine
@[irreducible] def drawF (ns : List Int) (i : Int) : Int := if ns.length = 0 then 29*i*i+1 else ns.getD (Int.fmod i ns.length).toNat 0 + 29*i*i
set_option maxRecDepth 100000 in
set_option maxHeartbeats 8000000 in
theorem draw1 {w : World} {s₀ : Shared} {mg mb : PySem.Str → Option Value} (news : List (Addr × Obj)) (l : Addr) (vs : List Value) (ns : List Int) (x : Int) (t : Tok) (hI : IntsAre vs ns) (hn : ns.length < 2 ^ 62) (hx : 0 ≤ x ∧ x ≤ 100) :
    Does PySem.Challenge.rw_bt5013_01.row.prog w (hd01.heap_39 w.params) hd01.view_39 (looseW hd01.view_39 [Str.ofString "G18"]) (ExcName.means s₀.heap) mg mb 35 1 news (fun base => base.IsList l vs.toArray) [.ref l, .int x t] (fun t => .int (drawF ns x) t) True := by
  k_fill
  k_with_none
  have hLen := hI.length
  dsimp only [Does]; intros
  rename_i hret
  refine wpAny_call ?_
  k_dflt cell_enter
  k_steps
  all_goals exact does_ret (by assumption) (by k_asm) (by k_asm) trivial (by unfold drawF; split <;> first | rfl | (exfalso; omega))
end Mine
namespace Mine
set_option maxRecDepth 100000 in
set_option maxHeartbeats 8000000 in
theorem moved1 {w : World} {s₀ : Shared} {mg mb : PySem.Str → Option Value} (news : List (Addr × Obj)) (x a b c d : Int) (t ta tb tc td : Tok) (hx : 0 ≤ x ∧ x < 16777216) (ha : 0 ≤ a ∧ a < 23) (hb : 0 ≤ b ∧ b < 23) (hc : 0 ≤ c ∧ c < 23) (hd : 0 ≤ d ∧ d < 23) :
    Does PySem.Challenge.rw_bt5013_01.row.prog w (hd01.heap_39 w.params) hd01.view_39 (looseW hd01.view_39 [Str.ofString "G18"]) (ExcName.means s₀.heap) mg mb 42 1 news (fun _ => True) [.int x t, .int a ta, .int b tb, .int c tc, .int d td] (fun t => .int (movedF x a b c d) t) (0 ≤ movedF x a b c d ∧ movedF x a b c d < 16777216) := by
  k_fill
  k_with_none
  k_with "call builtin:pow" => (k_dflt (refine call_pow21 ?_); intro tkP tkP'; (have hP := pow23_bnd); (try k_fold))
  dsimp only [Does]; intros
  rename_i hret
  refine wpAny_call ?_
  k_dflt cell_enter
  k_steps
  all_goals exact does_ret (by assumption) (by k_asm) (by k_asm) (movedF_facts _ _ _ _ _) (moved_eq hx ha hb hc hd)
end Mine
namespace Mine
/-! images of sets of places -/
theorem testBit_fold (p : Nat → Nat) (w j : Nat) : ∀ (l : List Nat) (acc : Nat),
    (l.foldl (fun acc i => if w.testBit i then acc ||| 2 ^ p i else acc) acc).testBit j = true ↔ acc.testBit j = true ∨ ∃ i ∈ l, w.testBit i = true ∧ p i = j := by
  intro l
  induction l with
  | nil => intro acc; simp
  | cons i l ih =>
    intro acc
    rw [List.foldl_cons, ih]
    by_cases h : w.testBit i = true
    · rw [if_pos h, Nat.testBit_or, Nat.testBit_two_pow]
      constructor
      · rintro (h1 | ⟨k, hk, h2⟩)
        · rcases Bool.or_eq_true_iff.mp h1 with h3 | h3
          · exact .inl h3
          · exact .inr ⟨i, .head _, h, by simpa using h3⟩
        · exact .inr ⟨k, .tail _ hk, h2⟩
      · rintro (h1 | ⟨k, hk, h2, h3⟩)
        · exact .inl (by simp [h1])
        · rcases List.mem_cons.mp hk with rfl | hk
          · exact .inl (by simp [h3])
          · exact .inr ⟨k, hk, h2, h3⟩
    · rw [if_neg h]
      constructor
      · rintro (h1 | ⟨k, hk, h2⟩)
        · exact .inl h1
        · exact .inr ⟨k, .tail _ hk, h2⟩
      · rintro (h1 | ⟨k, hk, h2, h3⟩)
        · exact .inl h1
        · rcases List.mem_cons.mp hk with rfl | hk
          · exact absurd h2 h
          · exact .inr ⟨k, hk, h2, h3⟩
theorem testBit_img (p : Nat → Nat) (w j : Nat) : (img p w).testBit j = true ↔ ∃ i, i < 24 ∧ w.testBit i = true ∧ p i = j := by
  unfold img
  rw [testBit_fold]
  constructor
  · rintro (h | ⟨i, hi, h⟩)
    · simp at h
    · exact ⟨i, List.mem_range.mp hi, h⟩
  · rintro ⟨i, hi, h⟩
    exact .inr ⟨i, List.mem_range.mpr hi, h⟩
theorem bit_ext {x y : Nat} (h : ∀ j, x.testBit j = true ↔ y.testBit j = true) : x = y :=
  Nat.eq_of_testBit_eq fun j => Bool.eq_iff_iff.mpr (h j)
theorem img_comp {p q : Nat → Nat} (hp : ∀ i, i < 24 → p i < 24) (w : Nat) : img q (img p w) = img (fun i => q (p i)) w := by
  refine bit_ext fun j => ?_
  rw [testBit_img, testBit_img]
  constructor
  · rintro ⟨i, _, h1, h2⟩
    obtain ⟨k, hk, h3, h4⟩ := (testBit_img p w i).mp h1
    exact ⟨k, hk, h3, by rw [h4, h2]⟩
  · rintro ⟨k, hk, h3, h4⟩
    exact ⟨p k, hp k hk, (testBit_img p w _).mpr ⟨k, hk, h3, rfl⟩, h4⟩
theorem img_congr {p q : Nat → Nat} (h : ∀ i, i < 24 → p i = q i) (w : Nat) : img p w = img q w := by
  refine bit_ext fun j => ?_
  rw [testBit_img, testBit_img]
  constructor
  · rintro ⟨i, hi, h1, h2⟩; exact ⟨i, hi, h1, by rw [← h i hi, h2]⟩
  · rintro ⟨i, hi, h1, h2⟩; exact ⟨i, hi, h1, by rw [h i hi, h2]⟩
def Inj (p : Nat → Nat) : Prop := ∀ i, i < 24 → ∀ j, j < 24 → p i = p j → i = j
theorem testBit_img_at {p : Nat → Nat} (hp : Inj p) (w i : Nat) (hi : i < 24) : (img p w).testBit (p i) = w.testBit i := by
  refine Bool.eq_iff_iff.mpr ?_
  rw [testBit_img]
  constructor
  · rintro ⟨k, hk, h1, h2⟩
    rw [hp k hk i hi h2] at h1; exact h1
  · intro h; exact ⟨i, hi, h, rfl⟩
theorem testBit_img_off {p : Nat → Nat} {j : Nat} (h : ∀ i, i < 24 → p i ≠ j) (w : Nat) : (img p w).testBit j = false := by
  cases e : (img p w).testBit j with
  | false => rfl
  | true =>
    obtain ⟨i, hi, _, h2⟩ := (testBit_img p w j).mp e
    exact absurd h2 (h i hi)
theorem img_xor {p : Nat → Nat} (hp : Inj p) (a b : Nat) : img p (a ^^^ b) = img p a ^^^ img p b := by
  refine Nat.eq_of_testBit_eq fun j => ?_
  rw [Nat.testBit_xor]
  by_cases h : ∃ i, i < 24 ∧ p i = j
  · obtain ⟨i, hi, rfl⟩ := h
    rw [testBit_img_at hp _ i hi, testBit_img_at hp _ i hi, testBit_img_at hp _ i hi, Nat.testBit_xor]
  · have h' : ∀ i, i < 24 → p i ≠ j := fun i hi e => h ⟨i, hi, e⟩
    rw [testBit_img_off h', testBit_img_off h', testBit_img_off h']; rfl
theorem img_two_pow {p : Nat → Nat} {i : Nat} (hi : i < 24) : img p (2 ^ i) = 2 ^ p i := by
  refine bit_ext fun j => ?_
  rw [testBit_img]
  constructor
  · rintro ⟨k, _, h1, h2⟩
    rw [Nat.testBit_two_pow] at h1
    have : i = k := by simpa using h1
    rw [← h2, ← this, Nat.testBit_two_pow]; simp
  · intro h
    rw [Nat.testBit_two_pow] at h
    exact ⟨i, hi, by rw [Nat.testBit_two_pow]; simp, by simpa using h⟩

/-! the code in 24 places -/
def synT24 : List Nat := [1, 2, 4, 8, 16, 32, 64, 128, 256, 512, 1024, 2048, 3877, 367, 734, 1468, 2936, 2517, 3215, 1595, 3190, 1993, 3986, 2787]
def S (w : Nat) : Nat := lin synT24 w
theorem S_xor (a b : Nat) : S (a ^^^ b) = S a ^^^ S b := lin_xor _ a b
theorem S_zero : S 0 = 0 := lin_zero _
theorem S_full : S 16777215 = 0 := by decide
theorem S_low {w : Nat} (h : w < 8388608) : S w = syn w :=
  by_basis (f := S) (g := syn) S_xor syn_xor 23 (by decide) w h
theorem S_lt {w : Nat} : S w < 4096 := by
  have key : ∀ (t : List Nat), (∀ a ∈ t, a < 2 ^ 12) → ∀ n, lin t n < 2 ^ 12 := by
    intro t
    induction t with
    | nil => intro _ n; simp [lin]
    | cons a t ih =>
      intro ht n
      simp only [lin]
      refine Nat.xor_lt_two_pow ?_ (ih (fun b hb => ht b (.tail _ hb)) _)
      have := ht a (.head _)
      rcases Nat.mod_two_eq_zero_or_one n with e | e <;> rw [e] <;> omega
  exact key synT24 (by decide) w
theorem xor_self_zero {a b : Nat} (h : a ^^^ b = 0) : a = b := by
  have := xor_cancel a b
  rw [h, Nat.zero_xor] at this
  exact this.symm
theorem syn_bch {n : Nat} (h : n < 2048) : syn (bch n) = 0 := by
  rw [bch_xor_form n h, syn_xor, syn_small (syn_lt _), Nat.xor_self]
/-- the numbers under 2 ^ 23 that are version words are those without remainder -/
theorem bch_iff {v : Nat} (h : v < 8388608) : bch (v / 4096) = v ↔ syn v = 0 := by
  constructor
  · intro e
    rw [← e]
    exact syn_bch (by omega)
  · intro e
    have hs : v = (v / 4096 * 4096) ^^^ (v % 4096) := by
      have e1 : v / 4096 * 4096 ||| v % 4096 = v := by
        have := Nat.two_pow_add_eq_or_of_lt (i := 12) (b := v % 4096) (by omega) (v / 4096)
        rw [show v / 4096 * 4096 = 2 ^ 12 * (v / 4096) by omega, ← this]
        omega
      have e2 : (v / 4096 * 4096) ^^^ (v % 4096) = v / 4096 * 4096 ||| v % 4096 := by
        apply Nat.eq_of_testBit_eq
        intro i
        rw [Nat.testBit_or, Nat.testBit_xor]
        by_cases hi : i < 12
        · have : (v / 4096 * 4096).testBit i = false := by
            rw [show v / 4096 * 4096 = (v / 4096) <<< 12 by rw [Nat.shiftLeft_eq], Nat.testBit_shiftLeft]
            simp; omega
          simp [this]
        · have : (v % 4096).testBit i = false := Nat.testBit_lt_two_pow (Nat.lt_of_lt_of_le (show v % 4096 < 2 ^ 12 by omega) (Nat.pow_le_pow_right (by decide) (by omega)))
          simp [this]
      rw [e2, e1]
    have h1 : syn (v / 4096 * 4096) ^^^ syn (v % 4096) = 0 := by rw [← syn_xor, ← hs, e]
    have h2 := xor_self_zero h1
    rw [syn_small (n := v % 4096) (by omega)] at h2
    rw [bch_xor_form _ (by omega), h2, ← hs]

/-- the columns of what a map of the places does to the remainders -/
def Lam (p : Nat → Nat) : List Nat := (List.range 12).map fun k => S (2 ^ p k)
def injB (p : Nat → Nat) : Bool := (List.range 24).all fun i => (List.range 24).all fun j => p i != p j || i == j
def chk (p : Nat → Nat) : Bool := injB p && (let L := Lam p; (List.range 24).all fun i => S (2 ^ p i) == lin L (S (2 ^ i)))
theorem inj_of {p : Nat → Nat} (h : injB p = true) : Inj p := by
  intro i hi j hj e
  have h1 := List.all_eq_true.mp (List.all_eq_true.mp h i (List.mem_range.mpr hi)) j (List.mem_range.mpr hj)
  simpa [e] using h1
theorem chk_fwd {p : Nat → Nat} (h : chk p = true) {w : Nat} (hw : w < 16777216) (h0 : S w = 0) : S (img p w) = 0 := by
  obtain ⟨hi, hc⟩ := Bool.and_eq_true_iff.mp h
  have hinj := inj_of hi
  have e := by_basis (f := fun w => S (img p w)) (g := fun w => lin (Lam p) (S w)) (fun a b => by rw [img_xor hinj, S_xor]) (fun a b => by rw [S_xor, lin_xor]) 24
    (fun i hi => by
      have := List.all_eq_true.mp hc i (List.mem_range.mpr hi)
      rw [img_two_pow hi]
      simpa using this) w hw
  rw [e, h0, lin_zero]
/-- a map of the places that keeps the code, and so does its way back -/
def Good (p : Nat → Nat) : Prop := ∀ w, w < 16777216 → (S (img p w) = 0 ↔ S w = 0)
theorem img_id {p : Nat → Nat} (h : ∀ i, i < 24 → p i = i) {w : Nat} (hw : w < 16777216) : img p w = w := by
  refine bit_ext fun j => ?_
  rw [testBit_img]
  constructor
  · rintro ⟨i, hi, h1, h2⟩; rw [← h2, h i hi]; exact h1
  · intro h1
    have hj : j < 24 := by
      rcases Nat.lt_or_ge j 24 with q | q
      · exact q
      · rw [Nat.testBit_lt_two_pow (Nat.lt_of_lt_of_le hw (Nat.pow_le_pow_right (n := 2) (by decide) q))] at h1; cases h1
    exact ⟨j, hj, h1, h j hj⟩
theorem good_of {p q : Nat → Nat} (hp : chk p = true) (hq : chk q = true) (hp2 : ∀ i, p i < 24) (hi : ∀ i, i < 24 → q (p i) = i) : Good p := by
  intro w hw
  refine ⟨fun h => ?_, chk_fwd hp hw⟩
  have h2 := chk_fwd hq (img_lt hp2 w) h
  rw [img_comp (fun i _ => hp2 i), img_id hi hw] at h2
  exact h2
theorem Good.comp {p q : Nat → Nat} (hp : Good p) (hq : Good q) (hp2 : ∀ i, p i < 24) : Good (fun i => q (p i)) := by
  intro w hw
  rw [← img_comp (fun i _ => hp2 i), hq _ (img_lt hp2 w), hp w hw]
theorem Good.congr {p q : Nat → Nat} (hp : Good p) (h : ∀ i, i < 24 → q i = p i) : Good q := by
  intro w hw
  rw [img_congr h, hp w hw]

/-! the maps -/
def sq (u : Nat) : Bool := u ^ 11 % 23 == 1
theorem goodT : ∀ b, b < 23 → Good (pt 1 b 0 1) := by
  have h1 : ∀ b, b < 23 → chk (pt 1 b 0 1) = true := by decide +kernel
  have h2 : ∀ b, b < 23 → ∀ i, i < 24 → pt 1 ((23 - b) % 23) 0 1 (pt 1 b 0 1 i) = i := by decide +kernel
  intro b hb
  exact good_of (h1 b hb) (h1 _ (Nat.mod_lt _ (by decide))) (pt_lt _ _ _ _) (h2 b hb)
theorem goodM : ∀ u, u < 23 → sq u = true → Good (pt u 0 0 1) := by
  have h1 : ∀ u, u < 23 → sq u = true → chk (pt u 0 0 1) = true := by decide +kernel
  have h2 : ∀ u, u < 23 → sq u = true → sq (inv u) = true ∧ ∀ i, i < 24 → pt (inv u) 0 0 1 (pt u 0 0 1 i) = i := by decide +kernel
  intro u hu hs
  exact good_of (h1 u hu hs) (h1 _ (Nat.mod_lt _ (by decide)) (h2 u hu hs).1) (pt_lt _ _ _ _) (h2 u hu hs).2
theorem goodJ : Good (pt 0 22 1 0) := by
  have h1 : chk (pt 0 22 1 0) = true := by decide +kernel
  have h2 : ∀ i, i < 24 → pt 0 22 1 0 (pt 0 22 1 0 i) = i := by decide +kernel
  exact good_of h1 h1 (pt_lt _ _ _ _) h2
end Mine
namespace Mine
abbrev Z := Fin 23
def phi (n : Nat) : Z := Fin.ofNat 23 n
theorem phi_eq {a b : Nat} : phi a = phi b ↔ a % 23 = b % 23 := by
  unfold phi
  constructor
  · intro h; exact congrArg Fin.val h
  · intro h; exact Fin.ext h
theorem phi_add (a b : Nat) : phi (a + b) = phi a + phi b := by
  apply Fin.ext; show (a + b) % 23 = (a % 23 + b % 23) % 23; omega
theorem phi_mul (a b : Nat) : phi (a * b) = phi a * phi b := by
  apply Fin.ext; show (a * b) % 23 = (a % 23 * (b % 23)) % 23; exact Nat.mul_mod a b 23
theorem phi_mod (a : Nat) : phi (a % 23) = phi a := by
  apply Fin.ext; show a % 23 % 23 = a % 23; omega
theorem t1 {R : Type} [Lean.Grind.CommRing R] (a b c d i v w y : R) (h1 : c * v = 1) (h2 : y * w = 1) (h3 : y = i + d * v) : (a * i + b) * v * w = a * v - ((a * d - b * c) * v * v) * w := by
  grind
theorem t3 {R : Type} [Lean.Grind.CommRing R] (c v y w e : R) (h1 : c * v = 1) (h2 : y * w = 1) (h3 : (c * y) * e = 1) : e = v * w := by
  grind
theorem r1 {R : Type} [Lean.Grind.CommRing R] (c v i d : R) : c * v = 1 → c * i + d = c * (i + d * v) := by
  intro h; grind
theorem r2 {R : Type} [Lean.Grind.CommRing R] (a b c d i v w : R) : (a * i + b) * v * w = a * v - ((a * d - b * c) * v * v) * w → (a * i + b) * (v * w) = (a * d + -(b * c)) * v * v * -w + a * v := by
  intro h; grind
theorem r3 {R : Type} [Lean.Grind.CommRing R] (a b i v : R) : (a * i + b) * v = a * v * i + b * v := by grind
theorem r4 {R : Type} [Lean.Grind.CommRing R] (x i z : R) : -x * -i + z = x * i + z := by grind
theorem r5 {R : Type} [Lean.Grind.CommRing R] (a b c d : R) : -a * d + -(b * -c) = -(a * d + -(b * c)) := by grind
theorem z_mul_zero : ∀ x : Z, x * 0 = 0 := by decide
theorem t22 (x : Z) : (22 : Z) * x = - x := by revert x; decide
theorem phi_22 : phi 22 = (22 : Z) := rfl
theorem phi_inj {x y : Nat} (hx : x < 23) (hy : y < 23) (h : phi x = phi y) : x = y := by
  have := phi_eq.mp h
  omega
theorem phi_inv : ∀ y : Nat, y < 23 → y ≠ 0 → phi y * phi (inv y) = 1 := by decide +kernel
theorem phi_zero {y : Nat} (hy : y < 23) : phi y = 0 ↔ y = 0 := by
  have h0 : phi 0 = (0 : Z) := rfl
  constructor
  · intro h; exact phi_inj hy (by decide) (by rw [h, h0])
  · rintro rfl; exact h0
theorem mul_ne_zero : ∀ x y : Z, x ≠ 0 → y ≠ 0 → x * y ≠ 0 := by decide +kernel
theorem m23 (x : Nat) : x % 23 < 23 := Nat.mod_lt _ (by decide)
theorem inv_lt (y : Nat) : inv y < 23 := m23 _
theorem inv_1 : inv 1 = 1 := by decide
theorem T_at {b i : Nat} (hi : i < 23) : pt 1 b 0 1 i = (i + b) % 23 := by
  unfold pt
  simp only [if_pos hi, Nat.zero_mul, Nat.zero_add, Nat.one_mul]
  rw [if_neg (by decide), show (1 : Nat) % 23 = 1 from rfl, inv_1]; omega
theorem T_far {b : Nat} : pt 1 b 0 1 23 = 23 := by unfold pt; simp
theorem M_at {u i : Nat} (hi : i < 23) : pt u 0 0 1 i = u * i % 23 := by
  unfold pt
  simp only [if_pos hi, Nat.zero_mul, Nat.zero_add, Nat.add_zero]
  rw [if_neg (by decide), show (1 : Nat) % 23 = 1 from rfl, inv_1]; omega
theorem M_far {u : Nat} : pt u 0 0 1 23 = 23 := by unfold pt; simp
theorem J_at : ∀ i, i < 23 → i ≠ 0 → pt 0 22 1 0 i = 22 * inv i % 23 := by decide +kernel
theorem J_0 : pt 0 22 1 0 0 = 23 := by decide
theorem J_far : pt 0 22 1 0 23 = 0 := by decide
theorem dec1 {a b c d i : Nat} (hc : c < 23) (hc0 : c ≠ 0) (hi : i < 24) :
    pt a b c d i = pt 1 (a * inv c % 23) 0 1 (pt ((a * d + 22 * (b * c)) * inv c * inv c % 23) 0 0 1 (pt 0 22 1 0 (pt 1 (d * inv c % 23) 0 1 i))) := by
  by_cases h23 : i = 23
  · subst h23
    rw [T_far, J_far, M_at (by decide), Nat.mul_zero, Nat.zero_mod, T_at (by decide), Nat.zero_add, Nat.mod_mod]
    unfold pt
    simp only [show ¬ (23 < 23) by decide, if_false]
    rw [if_neg hc0]
  · have hi' : i < 23 := by omega
    rw [T_at hi']
    have hy : (i + d * inv c % 23) % 23 < 23 := m23 _
    have py : phi ((i + d * inv c % 23) % 23) = phi i + phi d * phi (inv c) := by
      rw [phi_mod, phi_add, phi_mod, phi_mul]
    generalize (i + d * inv c % 23) % 23 = y at *
    have hcv := phi_inv c hc hc0
    have hbe : (c * i + d) % 23 < 23 := m23 _
    have pbe : phi ((c * i + d) % 23) = phi c * phi y := by
      rw [phi_mod, phi_add, phi_mul, py]
      exact r1 _ _ _ _ hcv
    have hl : pt a b c d i = if (c * i + d) % 23 = 0 then 23 else (a * i + b) % 23 * inv ((c * i + d) % 23) % 23 := by
      unfold pt; simp only [if_pos hi']
    rw [hl]
    generalize (c * i + d) % 23 = be at *
    by_cases y0 : y = 0
    · subst y0
      have : be = 0 := (phi_zero hbe).mp (by rw [pbe, show phi 0 = (0 : Z) from rfl, z_mul_zero])
      rw [if_pos this, J_0, M_far, T_far]
    · have hyw := phi_inv y hy y0
      have hbe0 : be ≠ 0 := by
        intro e
        have h1 := (phi_zero hbe).mpr e
        rw [pbe] at h1
        exact mul_ne_zero _ _ (fun h => hc0 ((phi_zero hc).mp h)) (fun h => y0 ((phi_zero hy).mp h)) h1
      rw [if_neg hbe0, J_at y hy y0, M_at (m23 _), T_at (m23 _)]
      refine phi_inj (m23 _) (m23 _) ?_
      have hbw := phi_inv be hbe hbe0
      rw [pbe] at hbw
      have e := t3 _ _ _ _ _ hcv hyw hbw
      simp only [phi_mod, phi_add, phi_mul, phi_22, t22]
      rw [e]
      have key := t1 (phi a) (phi b) (phi c) (phi d) (phi i) (phi (inv c)) (phi (inv y)) (phi y) hcv hyw py
      exact r2 _ _ _ _ _ _ _ key
theorem dec0 {a b d i : Nat} (hd : d < 23) (hd0 : d ≠ 0) (hi : i < 24) :
    pt a b 0 d i = pt 1 (b * inv d % 23) 0 1 (pt (a * inv d % 23) 0 0 1 i) := by
  by_cases h23 : i = 23
  · subst h23
    rw [M_far, T_far]
    unfold pt; simp
  · have hi' : i < 23 := by omega
    rw [M_at hi', T_at (m23 _)]
    have hl : pt a b 0 d i = (a * i + b) % 23 * inv d % 23 := by
      unfold pt
      simp only [if_pos hi', Nat.zero_mul, Nat.zero_add]
      rw [Nat.mod_eq_of_lt hd, if_neg hd0]
    rw [hl]
    refine phi_inj (m23 _) (m23 _) ?_
    simp only [phi_mod, phi_add, phi_mul]
    exact r3 _ _ _ _
def det (a b c d : Nat) : Nat := (a * d + 22 * (b * c)) % 23
theorem sq_c : ∀ c, c < 23 → c ≠ 0 → ∀ e, e < 23 → sq e = true → sq (e * inv c * inv c % 23) = true := by decide +kernel
theorem sq_0 : ∀ a, a < 23 → ∀ d, d < 23 → sq (a * d % 23) = true → sq (a * inv d % 23) = true := by decide +kernel
theorem sq_d0 : ∀ a, a < 23 → sq (a * 0 % 23) = false := by decide
theorem good_sq {a b c d : Nat} (ha : a < 23) (hc : c < 23) (hd : d < 23) (h : sq (det a b c d) = true) : Good (pt a b c d) := by
  by_cases hc0 : c = 0
  · subst hc0
    have h' : sq (a * d % 23) = true := by
      have e : det a b 0 d = a * d % 23 := by unfold det; simp
      rw [← e]; exact h
    have hd0 : d ≠ 0 := by
      rintro rfl
      rw [sq_d0 a ha] at h'; cases h'
    exact ((goodM _ (m23 _) (sq_0 a ha d hd h')).comp (goodT _ (m23 _)) (pt_lt _ _ _ _)).congr fun i hi => dec0 hd hd0 hi
  · have e : (a * d + 22 * (b * c)) * inv c * inv c % 23 = det a b c d * inv c * inv c % 23 := by
      refine phi_eq.mp ?_
      unfold det
      simp only [phi_mod, phi_mul, phi_add]
    have h1 : Good (fun i => pt 0 22 1 0 (pt 1 (d * inv c % 23) 0 1 i)) := (goodT _ (m23 _)).comp goodJ (pt_lt _ _ _ _)
    have h2 : Good (fun i => pt ((a * d + 22 * (b * c)) * inv c * inv c % 23) 0 0 1 (pt 0 22 1 0 (pt 1 (d * inv c % 23) 0 1 i))) :=
      h1.comp (goodM _ (m23 _) (by rw [e]; exact sq_c c hc hc0 _ (m23 _) h)) (fun _ => pt_lt _ _ _ _ _)
    exact (h2.comp (goodT _ (m23 _)) (fun _ => pt_lt _ _ _ _ _)).congr fun i hi => dec1 hc hc0 hi
/-- the other maps are these behind x -> -x -/
theorem dec2 {a b c d i : Nat} (ha : a < 23) (hc : c < 23) (hi : i < 24) : pt a b c d i = pt (22 * a % 23) b (22 * c % 23) d (pt 22 0 0 1 i) := by
  by_cases h23 : i = 23
  · subst h23
    rw [M_far]
    have key : ∀ a, a < 23 → ∀ c, c < 23 → (if c = 0 then 23 else a * inv c % 23) = (if 22 * c % 23 = 0 then 23 else (22 * a % 23) * inv (22 * c % 23) % 23) := by decide +kernel
    have := key a ha c hc
    unfold pt
    simp only [show ¬ (23 < 23) by decide, if_false]
    exact this
  · have hi' : i < 23 := by omega
    rw [M_at hi']
    have e1 : ∀ x z, ((22 * x % 23) * (22 * i % 23) + z) % 23 = (x * i + z) % 23 := by
      intro x z
      refine phi_eq.mp ?_
      simp only [phi_mod, phi_add, phi_mul, phi_22, t22]
      exact r4 _ _ _
    unfold pt
    simp only [if_pos hi', if_pos (m23 (22 * i)), e1]
theorem sq_neg : ∀ e, e < 23 → e ≠ 0 → sq e = false → sq (22 * e % 23) = true := by decide +kernel
theorem det_neg {a b c d : Nat} : det (22 * a % 23) b (22 * c % 23) d = 22 * det a b c d % 23 := by
  unfold det
  refine phi_eq.mp ?_
  simp only [phi_mod, phi_add, phi_mul, phi_22, t22]
  exact r5 _ _ _ _
theorem nsq {a b c d : Nat} (ha : a < 23) (hc : c < 23) (hd : d < 23) (h0 : det a b c d ≠ 0) (h : sq (det a b c d) = false) {w : Nat} (hw : w < 16777216) :
    S (img (pt a b c d) w) = 0 ↔ S (img (pt 22 0 0 1) w) = 0 := by
  have hg := good_sq (a := 22 * a % 23) (b := b) (c := 22 * c % 23) (d := d) (m23 _) (m23 _) hd (by rw [det_neg]; exact sq_neg _ (m23 _) h0 h)
  rw [img_congr (fun i hi => dec2 ha hc hi), ← img_comp (fun i _ => pt_lt _ _ _ _ i)]
  exact hg _ (img_lt (pt_lt _ _ _ _) w)
/-! the mirror meets the code in nought and all alone -/
def bchX (n : Nat) : Nat := n * 4096 ^^^ syn (n * 4096)
theorem bchX_xor (a b : Nat) : bchX (a ^^^ b) = bchX a ^^^ bchX b := by
  have e : (a ^^^ b) * 4096 = a * 4096 ^^^ b * 4096 := by
    have h := Nat.shiftLeft_xor_distrib (i := 12) (a := a) (b := b)
    rw [Nat.shiftLeft_eq, Nat.shiftLeft_eq, Nat.shiftLeft_eq] at h
    exact h
  unfold bchX
  rw [e, syn_xor]; ac_rfl
def mirR : List Nat := [0, 122, 1095, 1625, 1878, 2001, 914, 1459, 675, 1323, 1775, 781]
theorem injN : Inj (pt 22 0 0 1) := inj_of (by decide +kernel)
theorem mirror {n : Nat} (hn : n < 2048) (h : S (img (pt 22 0 0 1) (bch n)) = 0) : n = 0 := by
  have key := by_basis (f := fun n => lin mirR (S (img (pt 22 0 0 1) (bchX n)))) (g := fun n => n) (fun a b => by rw [bchX_xor, img_xor injN, S_xor, lin_xor]) (fun _ _ => rfl) 11
    (by decide +kernel) n hn
  have e : bchX n = bch n := (bch_xor_form n hn).symm
  simp only [e, h, lin_zero] at key
  exact key.symm
theorem imgN_full : img (pt 22 0 0 1) 16777215 = 16777215 := by decide +kernel
theorem S_flip (w : Nat) : S (w ^^^ 16777215) = S w := by rw [S_xor, S_full, Nat.xor_zero]
theorem bch_lt24 {n : Nat} (h : n < 2048) : bch n < 16777216 := Nat.lt_trans (bch_lt h) (by decide)
theorem S_bch {n : Nat} (h : n < 2048) : S (bch n) = 0 := by rw [S_low (bch_lt h), syn_bch h]
/-- GLEASON AND PRANGE -/
theorem carried_iff {n a b c d w : Nat} (hn : n < 2048) (ha : a < 23) (hc : c < 23) (hd : d < 23) (h0 : det a b c d ≠ 0) (hw : w = bch n ∨ w = bch n ^^^ 16777215) :
    S (img (pt a b c d) w) = 0 ↔ (sq (det a b c d) = true ∨ n = 0) := by
  have hw24 : w < 16777216 := by
    rcases hw with rfl | rfl
    · exact bch_lt24 hn
    · exact Nat.xor_lt_two_pow (n := 24) (bch_lt24 hn) (by decide)
  have hS : S w = 0 := by
    rcases hw with rfl | rfl
    · exact S_bch hn
    · rw [S_flip, S_bch hn]
  cases hsq : sq (det a b c d) with
  | true =>
    have := (good_sq ha hc hd hsq w hw24).mpr hS
    simp [this]
  | false =>
    rw [nsq ha hc hd h0 hsq hw24]
    have e : S (img (pt 22 0 0 1) w) = S (img (pt 22 0 0 1) (bch n)) := by
      rcases hw with rfl | rfl
      · rfl
      · rw [img_xor injN, imgN_full, S_flip]
    rw [e]
    constructor
    · intro h; exact .inr (mirror hn h)
    · rintro (h | rfl)
      · cases h
      · decide +kernel
end Mine
namespace Mine
theorem pow11_n : ∀ y : Nat, y < 23 → ((pow23 (y : Int) 11 = 1) ↔ sq y = true) := by decide +kernel
theorem det_n (A B C D : Nat) : ((A : Int) * (D : Int) - (B : Int) * (C : Int)).fmod 23 = ((det A B C D : Nat) : Int) := by
  rw [Int.fmod_eq_emod_of_nonneg _ (by decide)]
  unfold det
  omega
theorem xor_full_n (m : Nat) : Builtin.bitXor (m : Int) 16777215 = ((m ^^^ 16777215 : Nat) : Int) := bitXor_nn m 16777215
theorem bch_back {v : Nat} (h : v < 8388608) : bchF ((v : Int).fdiv (2 ^ Int.toNat 12)) = (v : Int) ↔ S v = 0 := by
  rw [S_low h, ← bch_iff h, shr12]
  have e : ((v : Int) / 4096).toNat = v / 4096 := by omega
  unfold bchF
  rw [e]; omega
theorem fin_iff {n a b c d word : Int} (hn : 0 ≤ n ∧ n < 2048) (ha : 0 ≤ a ∧ a < 23) (hb : 0 ≤ b ∧ b < 23) (hc : 0 ≤ c ∧ c < 23) (hd : 0 ≤ d ∧ d < 23) (h0 : (a * d - b * c).fmod 23 ≠ 0)
    (hw : word = bchF n ∨ word = Builtin.bitXor (bchF n) 16777215) :
    (movedF word a b c d ≤ 8388607 → (bchF ((movedF word a b c d).fdiv (2 ^ Int.toNat 12)) = movedF word a b c d ↔ (pow23 ((a * d - b * c).fmod 23) 11 = 1 ∨ n = 0))) ∧
    (8388607 < movedF word a b c d → (bchF ((Builtin.bitXor (movedF word a b c d) 16777215).fdiv (2 ^ Int.toNat 12)) = Builtin.bitXor (movedF word a b c d) 16777215 ↔ (pow23 ((a * d - b * c).fmod 23) 11 = 1 ∨ n = 0))) := by
  obtain ⟨N, rfl⟩ := Int.eq_ofNat_of_zero_le hn.1
  obtain ⟨A, rfl⟩ := Int.eq_ofNat_of_zero_le ha.1
  obtain ⟨B, rfl⟩ := Int.eq_ofNat_of_zero_le hb.1
  obtain ⟨C, rfl⟩ := Int.eq_ofNat_of_zero_le hc.1
  obtain ⟨D, rfl⟩ := Int.eq_ofNat_of_zero_le hd.1
  rw [det_n] at h0 ⊢
  have hw' : word.toNat = bch N ∨ word.toNat = bch N ^^^ 16777215 := by
    rcases hw with rfl | rfl
    · left; unfold bchF; simp
    · right; unfold bchF; rw [Int.toNat_natCast, xor_full_n, Int.toNat_natCast]
  have main := carried_iff (n := N) (a := A) (b := B) (c := C) (d := D) (w := word.toNat) (by omega) (by omega) (by omega) (by omega) (by omega) hw'
  have hdet : det A B C D < 23 := m23 _
  have e1 : (pow23 ((det A B C D : Nat) : Int) 11 = 1 ∨ (N : Int) = 0) ↔ S (img (pt A B C D) word.toNat) = 0 := by
    rw [main, pow11_n _ hdet]
    constructor
    · rintro (h | h)
      · exact .inl h
      · exact .inr (by omega)
    · rintro (h | h)
      · exact .inl h
      · exact .inr (by omega)
  rw [e1]
  unfold movedF
  simp only [Int.toNat_natCast]
  have hM := img_lt (pt_lt A B C D) word.toNat
  generalize img (pt A B C D) word.toNat = M at *
  refine ⟨fun h => bch_back (by omega), fun h => ?_⟩
  rw [xor_full_n, bch_back, S_flip]
  have := xor_small (m := (M : Int)) (by omega) (by omega)
  rw [xor_full_n] at this
  omega
theorem fmod23 (x : Int) : 0 ≤ x.fmod 23 ∧ x.fmod 23 < 23 := by rw [Int.fmod_eq_emod_of_nonneg _ (by decide)]; omega
theorem new_d (x : Int) : 0 ≤ 1 + (x.fmod 23).fmod 22 ∧ 1 + (x.fmod 23).fmod 22 < 23 := by
  rw [Int.fmod_eq_emod_of_nonneg (x.fmod 23) (show (0 : Int) ≤ 22 by decide)]
  generalize x.fmod 23 = y
  omega
theorem new_det0 (z : Int) (h : 0 ≤ z ∧ z < 23) (h2 : z ≠ 0) (y : Int) : (1 * z - y * 0).fmod 23 ≠ 0 := by
  have e : 1 * z - y * 0 = z := by omega
  rw [e, Int.fmod_eq_emod_of_nonneg z (by decide)]
  omega
theorem new_d0 (x : Int) : 1 + (x.fmod 23).fmod 22 ≠ 0 := by
  rw [Int.fmod_eq_emod_of_nonneg (x.fmod 23) (show (0 : Int) ≤ 22 by decide)]
  generalize x.fmod 23 = y
  omega
theorem new_det (x y : Int) : (1 * (1 + (x.fmod 23).fmod 22) - y * 0).fmod 23 ≠ 0 := new_det0 _ (new_d x) (new_d0 x) y
/-- the shapes of the ends -/
theorem end_sq {X Y Z : Int} {n : Int} (h : X = Y ↔ (Z = 1 ∨ n = 0)) (hz : Z = 1) : (((X == Y) == (Z == 1)) == true) = true := by
  have : X = Y := h.mpr (.inl hz)
  simp [this, hz]
theorem end_n {X Y Z : Int} {n : Int} (h : X = Y ↔ (Z = 1 ∨ n = 0)) (hz : Z ≠ 1) : (((X == Y) == (n == 0)) == true) = true := by
  by_cases hn : n = 0
  · have : X = Y := h.mpr (.inr hn)
    simp [this, hn]
  · have h1 : X ≠ Y := fun e => (h.mp e).elim hz hn
    have e1 : (X == Y) = false := beq_false_of_ne h1
    have e2 : (n == 0) = false := beq_false_of_ne hn
    rw [e1, e2]; rfl
theorem fin_low {n a b c d word : Int} (hn : 0 ≤ n ∧ n < 2048) (ha : 0 ≤ a ∧ a < 23) (hb : 0 ≤ b ∧ b < 23) (hc : 0 ≤ c ∧ c < 23) (hd : 0 ≤ d ∧ d < 23) (h0 : (a * d - b * c).fmod 23 ≠ 0)
    (hw : word = bchF n ∨ word = Builtin.bitXor (bchF n) 16777215) (h : movedF word a b c d ≤ 8388607) :
    bchF ((movedF word a b c d).fdiv (2 ^ Int.toNat 12)) = movedF word a b c d ↔ (pow23 ((a * d - b * c).fmod 23) 11 = 1 ∨ n = 0) := (fin_iff hn ha hb hc hd h0 hw).1 h
theorem fin_high {n a b c d word : Int} (hn : 0 ≤ n ∧ n < 2048) (ha : 0 ≤ a ∧ a < 23) (hb : 0 ≤ b ∧ b < 23) (hc : 0 ≤ c ∧ c < 23) (hd : 0 ≤ d ∧ d < 23) (h0 : (a * d - b * c).fmod 23 ≠ 0)
    (hw : word = bchF n ∨ word = Builtin.bitXor (bchF n) 16777215) (h : 8388607 < movedF word a b c d) :
    bchF ((Builtin.bitXor (movedF word a b c d) 16777215).fdiv (2 ^ Int.toNat 12)) = Builtin.bitXor (movedF word a b c d) 16777215 ↔ (pow23 ((a * d - b * c).fmod 23) 11 = 1 ∨ n = 0) := (fin_iff hn ha hb hc hd h0 hw).2 h
theorem end_sq' {X Y Z : Int} (h : Z = 1 → X = Y) (hz : Z = 1) : (((X == Y) == (Z == 1)) == true) = true := by
  have : X = Y := h hz
  simp [this, hz]
end Mine
namespace Mine
theorem fmod2048 (x : Int) : 0 ≤ x.fmod 2048 ∧ x.fmod 2048 < 2048 := by rw [Int.fmod_eq_emod_of_nonneg _ (by decide)]; omega
theorem four {ys : List Value} {f : Int → Int} (h : IntsAre ys (List.map f (rangeKs 0 (4 - 0 : Int).toNat))) :
    ∃ t0 t1 t2 t3, ys = [.int (f 0) t0, .int (f 1) t1, .int (f 2) t2, .int (f 3) t3] := by
  have e : (rangeKs 0 (4 - 0 : Int).toNat) = [0, 1, 2, 3] := by decide
  rw [e] at h
  simp only [List.map_cons, List.map_nil] at h
  match ys, h with
  | _, .cons _ t0 (.cons _ t1 (.cons _ t2 (.cons _ t3 .nil))) => exact ⟨t0, t1, t2, t3, rfl⟩
end Mine
set_option maxRecDepth 100000 in
set_option maxHeartbeats 8000000 in
theorem PySem.Challenge.cw_bt5013_01_holds : PySem.Challenge.rw_bt5013_01.Holds :=
  Mine.hd01 (by
  k_with_none
  k_with "call ref" => ((with_reducible show wpAny _ _ (PySem.call (Value.ref 35) _) _ _ _); (k_dflt (
    refine' Mine.draw1 _ _ _ _ _ _ ?ki ?kn ?k0 _ _ _ _ _ _ _ _ _ _ _ _ _ _ _ _ _ ?k1 ?k2 ?k3 ?k4 ?k5 ?kK ?kH ?kd ?ku ?_
    (case k1 => k_asm)
    (case k2 => k_asm)
    (case k3 => k_asm)
    (case k4 => k_asm)
    (case k5 => k_asm)
    (case kK => first | exact rfl | assumption)
    (case kH => k_asm)
    (case ki => l_ints)
    (case kn => l_fit)
    (case k0 => first | decide | omega | l_fact | fail)
    (case kd => ktr_room)
    (case ku => ktr_units)
    intro t9 h9 tk9 _ F9 N9
    (try dsimp only)
    (try k_fold))))
  k_with "call ref" => ((with_reducible show wpAny _ _ (PySem.call (Value.ref 21) _) _ _ _); (k_dflt (
    refine' Mine.bch1 _ _ _ ?k0 _ _ _ _ _ _ _ _ _ _ _ _ _ _ _ _ _ ?k1 ?k2 ?k3 ?k4 ?k5 ?kK ?kH ?kd ?ku ?_
    (case k1 => k_asm)
    (case k2 => k_asm)
    (case k3 => k_asm)
    (case k4 => k_asm)
    (case k5 => k_asm)
    (case kK => first | exact rfl | assumption)
    (case kH => trivial)
    (case k0 => first | decide | omega | exact Mine.fmod2048 _ | exact Mine.shr_bnd (by omega) (by omega) | exact Mine.shr_bnd (Mine.xor_small (by omega) (by omega)).1 (Mine.xor_small (by omega) (by omega)).2 | fail)
    (case kd => ktr_room)
    (case ku => ktr_units)
    intro t9 h9 tk9 hW F9 N9
    (obtain ⟨hW1, hW2, hW3⟩ := hW)
    (have hOne := Mine.bchF_one)
    (try dsimp only)
    (try k_fold))))
  k_with "call ref" => ((with_reducible show wpAny _ _ (PySem.call (Value.ref 42) _) _ _ _); (k_dflt (
    refine' Mine.moved1 _ _ _ _ _ _ _ _ _ _ _ ?k0 ?ka ?kb ?kc ?kdd _ _ _ _ _ _ _ _ _ _ _ _ _ _ _ _ _ ?k1 ?k2 ?k3 ?k4 ?k5 ?kK ?kH ?kd ?ku ?_
    (case k1 => k_asm)
    (case k2 => k_asm)
    (case k3 => k_asm)
    (case k4 => k_asm)
    (case k5 => k_asm)
    (case kK => first | exact rfl | assumption)
    (case kH => trivial)
    (case k0 => first | omega | exact Mine.xor_big (by omega) (by omega) | fail)
    (case ka => first | decide | omega | l_fact | fail)
    (case kb => first | decide | omega | l_fact | fail)
    (case kc => first | decide | omega | l_fact | fail)
    (case kdd => first | decide | omega | l_fact | fail)
    (case kd => ktr_room)
    (case ku => ktr_units)
    intro t9 h9 tk9 hM F9 N9
    (obtain ⟨hM1, hM2⟩ := hM)
    (try dsimp only)
    (try k_fold))))
  k_with "assign Tuple cons ref" => (
    (rename IntsAre _ (List.map _ (rangeKs 0 (Int.toNat (4 - 0)))) => hI8)
    obtain ⟨t0, t1, t2, t3, e8⟩ := Mine.four hI8
    clear hI8
    subst e8)
  k_with "call builtin:pow" => (k_dflt (refine Mine.call_pow11 ?_); intro tkP tkP'; (try k_fold))
  k_with "end" => (
    (first
      | (with_reducible refine' Mine.end_sq' ?e1 ?e2)
      | (with_reducible refine' Mine.end_n ?e1 ?e2)
      | fail)
    (case e1 =>
      (first
        | (with_reducible refine' Mine.fin_low ?f1 ?f2 ?f3 ?f4 ?f5 ?f6 ?f7 ?f8)
        | (with_reducible refine' Mine.fin_high ?f1 ?f2 ?f3 ?f4 ?f5 ?f6 ?f7 ?f8)
        | (with_reducible refine' fun hz => (Mine.fin_low ?f1 ?f2 ?f3 ?f4 ?f5 ?f6 ?f7 ?f8).mpr (Or.inl hz))
        | (with_reducible refine' fun hz => (Mine.fin_high ?f1 ?f2 ?f3 ?f4 ?f5 ?f6 ?f7 ?f8).mpr (Or.inl hz))
        | fail)
      (case f7 => first | exact Or.inl rfl | exact Or.inr rfl)
      (case f1 => exact Mine.fmod2048 _)
      (case f2 => first | exact Mine.fmod23 _ | decide)
      (case f3 => first | exact Mine.fmod23 _ | decide)
      (case f4 => first | exact Mine.fmod23 _ | decide)
      (case f5 => first | exact Mine.fmod23 _ | exact Mine.new_d _)
      (case f6 => first | assumption | exact Mine.new_det _ _ | omega | fail)
      (case f8 => first | omega | fail))
    (case e2 => (first | assumption | omega | fail))
    skip)
  k_go)
