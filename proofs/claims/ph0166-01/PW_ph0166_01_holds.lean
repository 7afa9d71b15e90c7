import PyProof.Rows.All
import Wide.All
import OpenK.AllK
import Wide.FinOn
import KE.BitLaws
import KE.IntBitsLaws
import KE.KBitsMul
import PySem.Challenge.RW_ph0166_01
set_option Elab.async false
set_option linter.unusedVariables false
-- part Head1
section
open PySem PySem.W PyProof.Rows
namespace Mine
/-- the text without the lines that only name the file's name -/
noncomputable def viewOf (a0 a1 a2 a3 a4 a5 a6 a7 a8 a9 a10 a11 a12 a13 a14 a15 a16 a17 a18 a19 : Stmt)
    (_ : PySem.Challenge.pw_ph0166_01.main.body = [a0, a1, a2, a3, a4, a5, a6, a7, a8, a9, a10, a11, a12, a13, a14, a15, a16, a17, a18, a19]) : Program :=
  { PySem.Challenge.pw_ph0166_01 with main := { PySem.Challenge.pw_ph0166_01.main with body := [a0, a2, a3, a4, a5, a6, a7, a8, a10, a11, a13, a15, a16, a17, a18, a19] } }
set_option maxRecDepth 100000 in
noncomputable def view : Program := viewOf _ _ _ _ _ _ _ _ _ _ _ _ _ _ _ _ _ _ _ _ rfl
set_option maxRecDepth 100000 in
set_option maxHeartbeats 8000000 in
theorem said : OpenLaw.wellSaid PySem.Challenge.rw_ph0166_01 = true := by kernel_rfl
local macro_rules | `(tactic| o_law) => `(tactic| refine holds_law Mine.said fun said => ?_)
local macro_rules | `(tactic| o_head $H) => do
  let (hw, hc) := (Lean.mkIdent `hw, Lean.mkIdent `hc)
  `(tactic| (
    refine PySem.W.holds_open (q := Mine.view) (loose := [PySem.Str.ofString "Whitespace"]) (Xt := fun s => xlAt Mine.view [] s && recOk (RowW.records (OpenRow.toRowW (OpenLaw.row PySem.Challenge.rw_ph0166_01))) s)
      (XP := XL Mine.view []) (Yf := Hook.obs $H) (Ya := Hook.val $H) (YP := Hook.says $H) (N := 2116) ?hl (Hook.of $H) (Hook.keeps $H) (fun s e => xl_of s (Bool.and_eq_true_iff.mp e).1) XL.keeps
      (by rfl) (by rfl) (by rfl) (fun s e => recFacts_of (Bool.and_eq_true_iff.mp e).2) (by rfl) (by first | assumption | decide +kernel) (by decide +kernel) ⟨rfl, rfl, rfl, rfl, rfl, by decide +kernel⟩ ?$hw ?$hc
    (case hl => (refine LeftO.of_split "special-get-raises" ?_; intro w; kernel_rfl))))
set_option maxRecDepth 100000 in
set_option maxHeartbeats 8000000 in
open_top hd for PySem.Challenge.rw_ph0166_01
end Mine

end
local macro_rules | `(tactic| walk_at $s:str) => `(tactic| k_extra $s)
local macro_rules | `(tactic| k_all) => `(tactic| k_extra "k_all")
local macro_rules | `(tactic| k_mem) => `(tactic| k_extra "k_mem")
local macro_rules | `(tactic| bits_by_make) => `(tactic| first | assumption | decide)
section
local macro_rules | `(tactic| omega) => `(tactic| lia)
-- part GQ
section
open PySem PySem.W PySem.Calls PyProof.Rows
namespace Mine
/-- a post that stands for another, named once a statement -/
def AtQ {α : Type} (Q : α → Shared → Prop) (v : α) (s : Shared) : Prop := Q v s
def SeqLe (M : Model) (A : Around) (rest : List Stmt) (env : Env) (Q : Flow → Shared → Prop) (E : Value → Shared → Prop) (Q' : Flow → Shared → Prop) : Prop :=
  ∀ f s, (match f with | .next => wpAny M A (execs rest env) Q E s | f => Q f s) → Q' f s
theorem execsQ {M : Model} {A : Around} {st : Stmt} {rest : List Stmt} {env : Env} {Q : Flow → Shared → Prop} {E : Value → Shared → Prop} {s : Shared}
    (h : ∀ Q' : Flow → Shared → Prop, SeqLe M A rest env Q E Q' → wpAny M A (exec st env) (AtQ Q') E s) : wpAny M A (execs (st :: rest) env) Q E s :=
  wpAny_execs_cons (h _ fun _ _ h => h)
theorem AtQ.next {M : Model} {A : Around} {rest : List Stmt} {env : Env} {Q Q' : Flow → Shared → Prop} {E : Value → Shared → Prop} {s : Shared} (h : SeqLe M A rest env Q E Q')
    (k : wpAny M A (execs rest env) Q E s) : AtQ Q' .next s := h .next s k
theorem AtQ.ret {M : Model} {A : Around} {rest : List Stmt} {env : Env} {Q Q' : Flow → Shared → Prop} {E : Value → Shared → Prop} {s : Shared} {v : Value} (h : SeqLe M A rest env Q E Q')
    (k : Q (.ret v) s) : AtQ Q' (.ret v) s := h (.ret v) s k
theorem AtQ.brk {M : Model} {A : Around} {rest : List Stmt} {env : Env} {Q Q' : Flow → Shared → Prop} {E : Value → Shared → Prop} {s : Shared} (h : SeqLe M A rest env Q E Q')
    (k : Q .brk s) : AtQ Q' .brk s := h .brk s k
theorem AtQ.cont {M : Model} {A : Around} {rest : List Stmt} {env : Env} {Q Q' : Flow → Shared → Prop} {E : Value → Shared → Prop} {s : Shared} (h : SeqLe M A rest env Q E Q')
    (k : Q .cont s) : AtQ Q' .cont s := h .cont s k
end Mine
namespace Mine
def QLe {α : Type} (Q Q' : α → Shared → Prop) : Prop := ∀ v s, Q v s → Q' v s
theorem genQ {α : Type} {M : Model} {A : Around} {m : Sem α} {Q : α → Shared → Prop} {E : Value → Shared → Prop} {s : Shared}
    (h : ∀ Q' : α → Shared → Prop, QLe Q Q' → wpAny M A m (AtQ Q') E s) : wpAny M A m Q E s := h Q fun _ _ h => h
theorem AtQ.go {α : Type} {Q Q' : α → Shared → Prop} {v : α} {s : Shared} (h : QLe Q Q') (k : Q v s) : AtQ Q' v s := h _ _ k
theorem genG {G : Prop} (h : ∀ X : Prop, (G → X) → X) : G := h G id
end Mine

end
-- part M1
section
open PySem PyProof.Rows
namespace Mine
open Builtin (bitAnd bitOr bitXor)
open Builtin.Int (intBits)

theorem toNat_pow2 (n : Nat) : ((2 : Int) ^ n).toNat = 2 ^ n := by
  have h : ((2 : Int) ^ n) = ((2 ^ n : Nat) : Int) := by simp
  rw [h]; rfl
theorem pow2_pos (n : Nat) : (0 : Int) < 2 ^ n := Int.pow_pos (by decide)
theorem and_mask {a : Int} (n : Nat) (ha : 0 ≤ a) : bitAnd a (2 ^ n - 1) = a % 2 ^ n := by
  have hp := pow2_pos n
  rw [bitAnd_pp ha (by omega)]
  have h1 : ((2 : Int) ^ n - 1).toNat = 2 ^ n - 1 := by
    have := toNat_pow2 n; omega
  rw [h1, Nat.and_two_pow_sub_one_eq_mod]
  have h2 : ((2 : Int) ^ n) = ((2 ^ n : Nat) : Int) := by simp
  rw [h2, Int.natCast_emod, Int.toNat_of_nonneg ha]
theorem and_disj {x y : Int} (n : Nat) (hx : 0 ≤ x) (hy : 0 ≤ y) (hl : y < 2 ^ n) : bitAnd (x * 2 ^ n) y = 0 := by
  have hp := pow2_pos n
  have h2 : ((2 : Int) ^ n) = ((2 ^ n : Nat) : Int) := by simp
  rw [bitAnd_pp (Int.mul_nonneg hx (Int.le_of_lt hp)) hy]
  have e : (x * 2 ^ n).toNat = 2 ^ n * x.toNat := by
    obtain ⟨k, rfl⟩ := Int.eq_ofNat_of_zero_le hx
    rw [h2, ← Int.natCast_mul, Int.toNat_natCast, Int.toNat_natCast, Nat.mul_comm]
  have hl' : y.toNat < 2 ^ n := by rw [h2] at hl; omega
  rw [e]
  have : 2 ^ n * x.toNat &&& y.toNat = 0 := by
    apply Nat.eq_of_testBit_eq
    intro i
    rw [Nat.testBit_and, Nat.zero_testBit, Nat.testBit_two_pow_mul]
    by_cases hi : i < n
    · have : decide (i ≥ n) = false := by simp; omega
      rw [this]; rfl
    · have : y.toNat.testBit i = false := Nat.testBit_lt_two_pow (Nat.lt_of_lt_of_le hl' (Nat.pow_le_pow_right (by decide) (by omega)))
      rw [this, Bool.and_false]
  rw [this]; rfl
theorem or_disj {x y : Int} (n : Nat) (hx : 0 ≤ x) (hy : 0 ≤ y) (hl : y < 2 ^ n) : bitOr (x * 2 ^ n) y = x * 2 ^ n + y := by
  rw [bitOr_and, and_disj n hx hy hl]; omega
theorem xor_low {x : Int} (n : Nat) (hx : 0 ≤ x) : bitXor x (x / 2 ^ n * 2 ^ n) = x % 2 ^ n := by
  have hp := pow2_pos n
  have h0 : 0 ≤ x / 2 ^ n := Int.ediv_nonneg hx (Int.le_of_lt hp)
  have hd := Int.emod_add_ediv_mul x (2 ^ n)
  have h1 := Int.emod_nonneg x (Int.ne_of_gt hp)
  have h2 := Int.emod_lt_of_pos x hp
  have hor := or_disj n h0 h1 h2
  have key : bitAnd x (x / 2 ^ n * 2 ^ n) = x / 2 ^ n * 2 ^ n := by
    have hn : 0 ≤ x / 2 ^ n * 2 ^ n := Int.mul_nonneg h0 (Int.le_of_lt hp)
    rw [bitAnd_pp hx hn]
    have hz := and_disj n h0 h1 h2
    rw [bitAnd_pp hn h1] at hz
    have e : x.toNat = (x / 2 ^ n * 2 ^ n).toNat ||| (x % 2 ^ n).toNat := by
      have : bitOr (x / 2 ^ n * 2 ^ n) (x % 2 ^ n) = x := by rw [hor]; omega
      have hz' : (x / 2 ^ n * 2 ^ n).toNat &&& (x % 2 ^ n).toNat = 0 := by omega
      have h3 : (x / 2 ^ n * 2 ^ n).toNat + (x % 2 ^ n).toNat = (x / 2 ^ n * 2 ^ n).toNat ||| (x % 2 ^ n).toNat := by
        have e1 : (x / 2 ^ n * 2 ^ n).toNat = 2 ^ n * (x / 2 ^ n).toNat := by
          obtain ⟨k, hk⟩ := Int.eq_ofNat_of_zero_le h0
          rw [hk]
          have h2 : ((2 : Int) ^ n) = ((2 ^ n : Nat) : Int) := by simp
          rw [h2, ← Int.natCast_mul, Int.toNat_natCast, Int.toNat_natCast, Nat.mul_comm]
        have e2 : (x % 2 ^ n).toNat < 2 ^ n := by have := toNat_pow2 n; omega
        rw [e1]
        exact Nat.two_pow_add_eq_or_of_lt e2 _
      omega
    have e4 : x.toNat &&& (x / 2 ^ n * 2 ^ n).toNat = (x / 2 ^ n * 2 ^ n).toNat := by
      generalize (x / 2 ^ n * 2 ^ n).toNat = u at e
      generalize (x % 2 ^ n).toNat = v at e
      rw [e]
      apply Nat.eq_of_testBit_eq
      intro i
      simp only [Nat.testBit_and, Nat.testBit_or]
      cases u.testBit i <;> cases v.testBit i <;> rfl
    rw [e4]; omega
  rw [bitXor_and, key]; omega

/-- what a division is -/
theorem div_is {a b q r : Int} (h : q * b + r = a) (h0 : 0 ≤ r) (h1 : r < b) : q = a / b ∧ r = a % b := by
  have hb : b ≠ 0 := by omega
  have hp : 0 < b := by omega
  have e1 : a / b = q := by
    rw [← h, Int.add_comm, Int.add_mul_ediv_right _ _ hb, Int.ediv_eq_zero_of_lt h0 h1]; omega
  refine ⟨e1.symm, ?_⟩
  have := Int.emod_add_ediv_mul a b
  rw [e1] at this
  omega
theorem fdiv_pos {a b : Int} (hb : 0 ≤ b) : a.fdiv b = a / b := Int.fdiv_eq_ediv_of_nonneg a hb
theorem fmod_pos {a b : Int} (hb : 0 ≤ b) : a.fmod b = a % b := Int.fmod_eq_emod_of_nonneg a hb

/-- the two halves of _div2n1n -/
theorem two_halves {a b : Int} {h : Nat} (ha : 0 ≤ a) (hb : 0 < b) (hlt : a < b * 2 ^ (2 * h)) :
    let A1 := a / 2 ^ (2 * h) * 2 ^ h + a / 2 ^ h % 2 ^ h
    let A2 := A1 % b * 2 ^ h + a % 2 ^ h
    A1 < b * 2 ^ h ∧ 0 ≤ A1 ∧ A2 < b * 2 ^ h ∧ 0 ≤ A2 ∧ bitOr (A1 / b * 2 ^ h) (A2 / b) = a / b ∧ A2 % b = a % b := by
  intro A1 A2
  have hp := pow2_pos h
  have e1 : A1 = a / 2 ^ h := by
    have e2 : a / 2 ^ (2 * h) = a / 2 ^ h / 2 ^ h := by
      rw [Nat.two_mul, Int.pow_add, ← Int.ediv_ediv_of_nonneg (Int.le_of_lt hp)]
    show a / 2 ^ (2 * h) * 2 ^ h + a / 2 ^ h % 2 ^ h = _
    rw [e2]
    have := Int.emod_add_ediv_mul (a / 2 ^ h) (2 ^ h)
    omega
  have h0 : 0 ≤ A1 := by rw [e1]; exact Int.ediv_nonneg ha (Int.le_of_lt hp)
  have hA1 : A1 < b * 2 ^ h := by
    rw [e1]
    apply Int.ediv_lt_of_lt_mul hp
    have : b * 2 ^ (2 * h) = b * 2 ^ h * 2 ^ h := by rw [Nat.two_mul, Int.pow_add, Int.mul_assoc]
    omega
  have hm := Int.emod_nonneg A1 (Int.ne_of_gt hb)
  have hm2 := Int.emod_lt_of_pos A1 hb
  have hr := Int.emod_nonneg a (Int.ne_of_gt hp)
  have hr2 := Int.emod_lt_of_pos a hp
  have h02 : 0 ≤ A2 := Int.add_nonneg (Int.mul_nonneg hm (Int.le_of_lt hp)) hr
  have hA2 : A2 < b * 2 ^ h := by
    have : (A1 % b + 1) * 2 ^ h ≤ b * 2 ^ h := Int.mul_le_mul_of_nonneg_right (by omega) (Int.le_of_lt hp)
    have e : (A1 % b + 1) * 2 ^ h = A1 % b * 2 ^ h + 2 ^ h := by rw [Int.add_mul, Int.one_mul]
    show A1 % b * 2 ^ h + a % 2 ^ h < _
    omega
  have hq2 : A2 / b < 2 ^ h := Int.ediv_lt_of_lt_mul hb (by rw [Int.mul_comm]; exact hA2)
  have hq20 : 0 ≤ A2 / b := Int.ediv_nonneg h02 (Int.le_of_lt hb)
  have hq1 : 0 ≤ A1 / b := Int.ediv_nonneg h0 (Int.le_of_lt hb)
  refine ⟨hA1, h0, hA2, h02, ?_⟩
  rw [or_disj h hq1 hq20 hq2]
  have i1 := Int.emod_add_ediv_mul A1 b
  have i2 := Int.emod_add_ediv_mul A2 b
  have i3 := Int.emod_add_ediv_mul a (2 ^ h)
  have main : (A1 / b * 2 ^ h + A2 / b) * b + A2 % b = a := by
    have e5 : (A1 / b * 2 ^ h + A2 / b) * b = A1 / b * b * 2 ^ h + A2 / b * b := by
      rw [Int.add_mul]; congr 1; rw [Int.mul_assoc, Int.mul_comm (2 ^ h) b, ← Int.mul_assoc]
    have e6 : A2 = A1 % b * 2 ^ h + a % 2 ^ h := rfl
    have e7 : (A1 / b * b + A1 % b) * 2 ^ h = A1 / b * b * 2 ^ h + A1 % b * 2 ^ h := Int.add_mul ..
    have e8 : A1 / b * b + A1 % b = A1 := by omega
    rw [e8] at e7
    have e9 : A1 * 2 ^ h = a / 2 ^ h * 2 ^ h := by rw [e1]
    omega
  exact div_is main (Int.emod_nonneg A2 (Int.ne_of_gt hb)) (Int.emod_lt_of_pos A2 hb)
end Mine

end
-- part M2
section
open PySem PySem.W PyProof.Rows
namespace Mine
open Builtin (bitAnd bitOr bitXor)
open Builtin.Int (intBits)
structure Pre2 (a b n : Int) : Prop where
  ha : 0 ≤ a
  hn : 1 ≤ n
  hN : n ≤ 200000
  hb1 : 2 ^ (n - 1).toNat ≤ b
  hb2 : b < 2 ^ n.toNat
  hlt : a < b * 2 ^ n.toNat
structure Pre3 (a12 a3 b b1 b2 n : Int) : Prop where
  h12 : 0 ≤ a12
  h3 : 0 ≤ a3
  h3' : a3 < 2 ^ n.toNat
  hn : 1 ≤ n
  hN : n ≤ 100000
  hb1 : b1 = b / 2 ^ n.toNat
  hb2 : b2 = b % 2 ^ n.toNat
  hlo : 2 ^ (n - 1).toNat ≤ b1
  hhi : b1 < 2 ^ n.toNat
  hlt : a12 < b
theorem bits_of_lt {x : Int} {k m : Nat} (h0 : 0 ≤ x) (h : x < 2 ^ k) (hk : k ≤ m) : intBits x ≤ m := by
  rw [intBits_le_iff]
  have h2 : ((2 : Int) ^ k) = ((2 ^ k : Nat) : Int) := by simp
  have : x.natAbs < 2 ^ k := by rw [h2] at h; omega
  exact Nat.lt_of_lt_of_le this (Nat.pow_le_pow_right (by decide) hk)
theorem lt_of_bits {x : Int} {m : Nat} (h : intBits x ≤ m) : x < 2 ^ m := by
  have := intBits_le_iff.mp h
  have h2 : ((2 : Int) ^ m) = ((2 ^ m : Nat) : Int) := by simp
  rw [h2]; omega
theorem Pre3.bpos {a12 a3 b b1 b2 n : Int} (h : Pre3 a12 a3 b b1 b2 n) : 0 < b := by have := h.h12; have := h.hlt; omega
theorem Pre3.beq {a12 a3 b b1 b2 n : Int} (h : Pre3 a12 a3 b b1 b2 n) : b = b1 * 2 ^ n.toNat + b2 := by
  have := Int.emod_add_ediv_mul b (2 ^ n.toNat)
  rw [← h.hb1, ← h.hb2] at this; omega
theorem Pre3.b2lt {a12 a3 b b1 b2 n : Int} (h : Pre3 a12 a3 b b1 b2 n) : 0 ≤ b2 ∧ b2 < 2 ^ n.toNat := by
  rw [h.hb2]
  exact ⟨Int.emod_nonneg b (Int.ne_of_gt (pow2_pos _)), Int.emod_lt_of_pos b (pow2_pos _)⟩
theorem Pre3.blt {a12 a3 b b1 b2 n : Int} (h : Pre3 a12 a3 b b1 b2 n) : b < 2 ^ (2 * n.toNat) := by
  have hp := pow2_pos n.toNat
  have h1 := h.beq
  have h2 := h.b2lt
  have h3 := h.hhi
  have : (b1 + 1) * 2 ^ n.toNat ≤ 2 ^ n.toNat * 2 ^ n.toNat := Int.mul_le_mul_of_nonneg_right (by omega) (Int.le_of_lt hp)
  rw [Nat.two_mul, Int.pow_add]
  rw [Int.add_mul, Int.one_mul] at this
  omega
theorem Pre3.bits {a12 a3 b b1 b2 n : Int} (h : Pre3 a12 a3 b b1 b2 n) : intBits a12 ≤ 200000 ∧ intBits a3 ≤ 200000 ∧ intBits b ≤ 200000 ∧ intBits b1 ≤ 200000 ∧ intBits b2 ≤ 200000 := by
  have hb := h.blt
  have hN := h.hN
  have hn := h.hn
  have h1 := h.h12
  have h2 := h.hlt
  have hp := pow2_pos (n - 1).toNat
  have := h.hlo
  exact ⟨bits_of_lt h1 (Int.lt_trans h2 hb) (by omega), bits_of_lt h.h3 h.h3' (by omega), bits_of_lt (Int.le_of_lt h.bpos) hb (by omega), bits_of_lt (by omega) h.hhi (by omega), bits_of_lt h.b2lt.1 h.b2lt.2 (by omega)⟩
theorem Pre3.b1pos {a12 a3 b b1 b2 n : Int} (h : Pre3 a12 a3 b b1 b2 n) : 0 < b1 := by have := pow2_pos (n - 1).toNat; have := h.hlo; omega
theorem Pre3.bitsM {a12 a3 b b1 b2 n : Int} (h : Pre3 a12 a3 b b1 b2 n) : intBits (a12 % b1) ≤ 200000 := by
  have hp := h.b1pos
  rw [← fmod_pos (Int.le_of_lt hp)]
  exact Nat.le_trans (intBits_fmod_le h.bits.1 h.bits.2.2.2.1) (by decide)
theorem Pre3.bitsD {a12 a3 b b1 b2 n : Int} (h : Pre3 a12 a3 b b1 b2 n) : intBits (a12 / b1) ≤ 200000 := by
  have hp := h.b1pos
  rw [← fdiv_pos (Int.le_of_lt hp)]
  exact intBits_fdiv_le h.bits.1
theorem Pre3.toPre2 {a12 a3 b b1 b2 n : Int} (h : Pre3 a12 a3 b b1 b2 n) (hne : ¬ a12.fdiv (2 ^ n.toNat) = b1) : Pre2 a12 b1 n := by
  have hp := pow2_pos n.toNat
  rw [fdiv_pos (Int.le_of_lt hp)] at hne
  refine ⟨h.h12, h.hn, Int.le_trans h.hN (by decide), h.hlo, h.hhi, ?_⟩
  have hle : a12 / 2 ^ n.toNat ≤ b1 := by rw [h.hb1]; exact Int.ediv_le_ediv hp (Int.le_of_lt h.hlt)
  have hlt : a12 / 2 ^ n.toNat < b1 := by omega
  have := Int.lt_mul_of_ediv_lt hp hlt
  exact this
/-- the two starts of the loop in _div3n2n -/
theorem Pre3.startA {a12 a3 b b1 b2 n : Int} (h : Pre3 a12 a3 b b1 b2 n) (he : a12.fdiv (2 ^ n.toNat) = b1) :
    let q := 1 * 2 ^ n.toNat - 1
    let r := bitOr ((a12 - b1 * 2 ^ n.toNat + b1) * 2 ^ n.toNat) a3 - q * b2
    q * b + r = a12 * 2 ^ n.toNat + a3 ∧ r < b := by
  intro q r
  have hp := pow2_pos n.toNat
  rw [fdiv_pos (Int.le_of_lt hp)] at he
  have hb := h.beq
  have hd := Int.emod_add_ediv_mul a12 (2 ^ n.toNat)
  have hd0 := Int.emod_nonneg a12 (Int.ne_of_gt hp)
  rw [he] at hd
  have hb10 : 0 ≤ b1 := by have := pow2_pos (n - 1).toNat; have := h.hlo; omega
  have hor := or_disj (x := a12 - b1 * 2 ^ n.toNat + b1) n.toNat (by omega) h.h3 h.h3'
  have e1 : q * b + r = a12 * 2 ^ n.toNat + a3 := by
    show (1 * 2 ^ n.toNat - 1) * b + (bitOr ((a12 - b1 * 2 ^ n.toNat + b1) * 2 ^ n.toNat) a3 - (1 * 2 ^ n.toNat - 1) * b2) = _
    rw [hor]
    generalize (2 : Int) ^ n.toNat = P at *
    have : (1 * P - 1) * b = (1 * P - 1) * (b1 * P) + (1 * P - 1) * b2 := by rw [← Int.mul_add, ← hb]
    have e2 : (1 * P - 1) * (b1 * P) = b1 * P * P - b1 * P := by rw [Int.one_mul, Int.sub_mul, Int.one_mul, Int.mul_comm P (b1 * P)]
    have e3 : (a12 - b1 * P + b1) * P = a12 * P - b1 * P * P + b1 * P := by rw [Int.add_mul, Int.sub_mul]
    omega
  refine ⟨e1, ?_⟩
  have hlt : a12 * 2 ^ n.toNat + a3 < b * 2 ^ n.toNat := by
    have : (a12 + 1) * 2 ^ n.toNat ≤ b * 2 ^ n.toNat := Int.mul_le_mul_of_nonneg_right h.hlt (Int.le_of_lt hp)
    rw [Int.add_mul, Int.one_mul] at this
    have := h.h3'
    omega
  have e4 : q * b = 2 ^ n.toNat * b - b := by show (1 * 2 ^ n.toNat - 1) * b = _; rw [Int.one_mul, Int.sub_mul, Int.one_mul]
  rw [Int.mul_comm b] at hlt
  omega
theorem Pre3.startB {a12 a3 b b1 b2 n : Int} (h : Pre3 a12 a3 b b1 b2 n) :
    let q := a12 / b1
    let r := bitOr (a12 % b1 * 2 ^ n.toNat) a3 - q * b2
    q * b + r = a12 * 2 ^ n.toNat + a3 ∧ r < b := by
  intro q r
  have hp := pow2_pos n.toNat
  have hb := h.beq
  have hb10 : 0 < b1 := by have := pow2_pos (n - 1).toNat; have := h.hlo; omega
  have m0 := Int.emod_nonneg a12 (Int.ne_of_gt hb10)
  have m1 := Int.emod_lt_of_pos a12 hb10
  have hor := or_disj (x := a12 % b1) n.toNat m0 h.h3 h.h3'
  have hd := Int.emod_add_ediv_mul a12 b1
  have q0 : 0 ≤ q := Int.ediv_nonneg h.h12 (Int.le_of_lt hb10)
  have hr : r = a12 % b1 * 2 ^ n.toNat + a3 - q * b2 := by show bitOr _ a3 - q * b2 = _; rw [hor]
  have e0 : q * b = q * b1 * 2 ^ n.toNat + q * b2 := by rw [hb, Int.mul_add, Int.mul_assoc]
  have e1 : a12 * 2 ^ n.toNat = a12 % b1 * 2 ^ n.toNat + q * b1 * 2 ^ n.toNat := by rw [← Int.add_mul, hd]
  have hle : (a12 % b1 + 1) * 2 ^ n.toNat ≤ b1 * 2 ^ n.toNat := Int.mul_le_mul_of_nonneg_right m1 (Int.le_of_lt hp)
  rw [Int.add_mul, Int.one_mul] at hle
  have hqb : 0 ≤ q * b2 := Int.mul_nonneg q0 h.b2lt.1
  have := h.h3'
  have := h.b2lt
  exact ⟨by omega, by omega⟩
end Mine

end
-- part Base
section
open PySem PySem.W PySem.Calls PyProof.Rows
namespace Mine
noncomputable abbrev Led := List (Addr × Obj)
/-- a call of f upon vs, from any frame: what it hands back and the ledger behind it -/
noncomputable def Does (w : World) (f : Addr) (vs : List Value) (dN uN : Nat) (news : Led) (post : Value → Led → Prop) : Prop :=
  ∀ (dp un : Nat) (gd : Option (List Code)) (cn : Str) (cs : Scope) (a : Addr) (ccd : Value) (cl : List (Str × Addr)) (outer : List Env) (A₀ : Around) (base h₀ : Heap) (L : Addr) (m : Str → Option Value)
    (p : Program) (loose : List Str) (mean : ExcName → Option Value) (mg mb : Str → Option Value) (s : Shared) (Q E : Value → Shared → Prop),
    Below A₀ base outer h₀ → Fr h₀ L s.heap m → (hd.heap_1 w.params).In h₀ → News h₀ L s.heap news → Top p loose mean mg mb h₀ → cs.kind = .function → dp + dN < recursionLimit → un + uN < cLine →
    (∀ r news' h' tk', Fr h₀ L h' m → News h₀ L h' news' → post r news' → Q r { s with heap := h', toks := tk' }) →
    wpAny (model PySem.Challenge.rw_ph0166_01.row.prog w) (ktrTop dp un gd cn cs L a ccd cl outer) (call (.ref f) vs) Q E s
theorem Does.use {w : World} {f : Addr} {vs : List Value} {dN uN : Nat} {news : Led} {post : Value → Led → Prop}
    {dp un : Nat} {gd : Option (List Code)} {cn : Str} {cs : Scope} {a : Addr} {ccd : Value} {cl : List (Str × Addr)} {outer : List Env} {A₀ : Around} {base h₀ : Heap} {L : Addr} {m : Str → Option Value}
    {p : Program} {loose : List Str} {mean : ExcName → Option Value} {mg mb : Str → Option Value} {s : Shared} {Q E : Value → Shared → Prop}
    (B : Below A₀ base outer h₀) (F : Fr h₀ L s.heap m) (X : (hd.heap_1 w.params).In h₀) (N : News h₀ L s.heap news) (T : Top p loose mean mg mb h₀) (hk : cs.kind = .function)
    (C : Does w f vs dN uN news post) (hD : dp + dN < recursionLimit) (hU : un + uN < cLine)
    (ret : ∀ r news' h' tk', Fr h₀ L h' m → News h₀ L h' news' → post r news' → Q r { s with heap := h', toks := tk' }) :
    wpAny (model PySem.Challenge.rw_ph0166_01.row.prog w) (ktrTop dp un gd cn cs L a ccd cl outer) (call (.ref f) vs) Q E s :=
  C _ _ _ _ _ _ _ _ _ _ _ _ _ _ _ _ _ _ _ _ _ _ B F X N T hk hD hU ret
noncomputable abbrev tupO (vs : List Value) : Obj := { cls := .type "tuple", data := .seq vs.toArray }
/-- a new pair of ints -/
noncomputable def PairPost (news : Led) (q r : Int) (v : Value) (news' : Led) : Prop := ∃ d t1 t2, v = .ref d ∧ (∀ p ∈ news, p.1 < d) ∧ news' = (d, tupO [.int q t1, .int r t2]) :: news
theorem pair_end {h₀ h' : Heap} {L D : Addr} {m : Str → Option Value} {news rest : Led} {s : Shared} {Q : Value → Shared → Prop} {q r q' r' : Int} {t1 t2 : Tok} {tk : Nat}
    (hret : ∀ v news' h' tk', Fr h₀ L h' m → News h₀ L h' news' → PairPost news q r v news' → Q v { s with heap := h', toks := tk' })
    (F : Fr h₀ L h' m) (N : News h₀ L h' ((D, tupO [.int q' t1, .int r' t2]) :: rest)) (hs : ∀ p ∈ news, p ∈ rest) (hl : ∀ p ∈ news, p.1 < D) (hq : q' = q) (hr : r' = r) : Q (.ref D) { s with heap := h', toks := tk } := by
  subst hq; subst hr
  refine hret _ ((D, tupO [.int q' t1, .int r' t2]) :: news) _ _ F (cb_drop N fun p hp => ?_) ⟨D, t1, t2, rfl, hl, rfl⟩
  rcases List.mem_cons.mp hp with rfl | hp
  · exact .head _
  · exact .tail _ (hs p hp)
end Mine

end
-- part D1
section
open PySem PySem.W PySem.Calls PyProof.Rows
namespace Mine
/-- _div2n1n for sizes of k halvings -/
noncomputable def C2 (w : World) (k : Nat) : Prop := ∀ (a b n : Int) (ta tb tn : Tok) (news : Led), Pre2 a b n → n ≤ 4000 * 2 ^ k → Does w 28 [.int a ta, .int b tb, .int n tn] (2 * k + 1) (16 * k + 8) news (PairPost news (a / b) (a % b))
noncomputable def C3 (w : World) (k : Nat) : Prop := ∀ (a12 a3 b b1 b2 n : Int) (t1 t2 t3 t4 t5 t6 : Tok) (news : Led), Pre3 a12 a3 b b1 b2 n → n ≤ 4000 * 2 ^ k →
  Does w 35 [.int a12 t1, .int a3 t2, .int b t3, .int b1 t4, .int b2 t5, .int n t6] (2 * k + 2) (16 * k + 16) news (PairPost news ((a12 * 2 ^ n.toNat + a3) / b) ((a12 * 2 ^ n.toNat + a3) % b))
open Builtin.Int (intBits)
set_option maxRecDepth 100000 in
set_option maxHeartbeats 8000000 in
theorem div3 (w : World) (k : Nat) (IH : C2 w k) : C3 w k := by
  (k_with_none; w_top off)
  k_with "AtQ" => ((try dsimp only); first | ((with_reducible refine AtQ.next hQ9 ?_); clear hQ9; (try clear Q9)) | ((with_reducible refine AtQ.ret hQ9 ?_); clear hQ9; (try clear Q9); (try dsimp only)) | ((with_reducible refine AtQ.brk hQ9 ?_); clear hQ9; (try clear Q9); (try dsimp only)) | ((with_reducible refine AtQ.cont hQ9 ?_); clear hQ9; (try clear Q9); (try dsimp only)) | ((with_reducible refine AtQ.go hQ9 ?_); clear hQ9; (try clear Q9); (try dsimp only); (try k_fold)))
  k_with "binaryOp LShift int int" => (k_here; (with_reducible refine lshift_int ?kbnu1 ?kbsu1 ?_); (case kbnu1 => assumption); (case kbsu1 => (refine' kbm_shl ?kbau1 ?kbcu1 ?kbdu1; (case kbau1 => bits_by_make); (case kbcu1 => assumption); (case kbdu1 => decide))))
  intro a12 a3 b b1 b2 n t1 t2 t3 t4 t5 t6 news hpre hk4
  obtain ⟨bt12, bt3, btb, btb1, btb2⟩ := hpre.bits
  have hn0 : 0 ≤ n := Int.le_trans (by decide) hpre.hn
  have hn6 : n ≤ 1000000 := Int.le_trans hpre.hN (by decide)
  have btm : intBits (a12 % b1) ≤ 200000 := hpre.bitsM
  have btd : intBits (a12 / b1) ≤ 200000 := hpre.bitsD
  unfold Does
  k_fill
  intro dp un gd cn cs a ccd cl outer A₀ base h₀ L m p loose mean mg mb s Q E B F X N T hk hd hu hret
  refine wpAny_call ?_
  k_dflt ktr_enter
  k_with "exec While Compare cons nil" => k_while (fun _ q r => q * b + r = a12 * 2 ^ n.toNat + a3 ∧ r < b) (fun _ q r => (-r).toNat) "q" "r"
  k_with "state" => first | exact hpre.startA (by assumption) | exact hpre.startB | (refine ⟨?_, ?_⟩ <;> first | omega | (rw [Int.sub_mul, Int.one_mul]; omega))
  have hbp : 0 < b := hpre.bpos
  k_with "call ref" => (k_here; (with_reducible show wpAny _ _ (call (Value.ref 28) _) _ _ _); (with_reducible refine genQ ?_); intro Q9 hQ9; k_dflt (refine' Does.use ?k1u4 ?k2u4 ?k3u4 ?k4u4 ?k5u4 ?kKu4 (IH _ _ _ _ _ _ _ ?kpreu4 ?knu4) ?kdu4 ?kuu4 ?_; (case k1u4 => k_asm); (case k2u4 => k_asm); (case k3u4 => k_asm); (case k4u4 => k_asm); (case k5u4 => k_asm); (case kKu4 => first | exact rfl | assumption); (case kdu4 => ktr_room); (case kuu4 => ktr_units); (case knu4 => assumption); (case kpreu4 => first | assumption | exact hpre.toPre2 (by assumption)); k_whole); intro r9 news9 h9 tk9 F9 N9 hp9; obtain ⟨d9, t91, t92, e91, l9, e92⟩ := hp9; subst e91; subst e92)
  k_steps
  all_goals (
    have hfin := div_is (by assumption : _ * b + _ = a12 * 2 ^ n.toNat + a3) (by omega) (by assumption)
    exact pair_end hret (by assumption) (by assumption) (by intro p hp; simp [hp]) (by have hl := (by assumption : _ < _ ∧ AllLt _ news); exact ktn_ltOf hl.2) hfin.1 hfin.2)
end Mine

end
-- part M3
section
open PySem PySem.W PyProof.Rows
namespace Mine
open Builtin (bitAnd bitOr bitXor)
open Builtin.Int (intBits)
theorem intBits_ge {x : Int} {k : Nat} (h : 2 ^ k ≤ x) : k < intBits x := by
  apply Nat.lt_of_not_le
  intro hle
  have := lt_of_bits hle
  omega
theorem noPy_of {a b : Int} (h : intBits a ≤ intBits b + 4400) : Builtin.divisionGoesByPylong a b = false := by
  have key : ∀ x : Int, (if (x == 0) = true then 0 else x.natAbs.log2 / 30 + 1) = (intBits x + 29) / 30 := by
    intro x
    unfold intBits
    by_cases hx : (x == 0) = true
    · rw [if_pos hx, if_pos hx]
    · rw [if_neg hx, if_neg hx]; omega
  show (decide ((if b == 0 then 0 else b.natAbs.log2 / 30 + 1) > 300) && decide ((if a == 0 then 0 else a.natAbs.log2 / 30 + 1) > (if b == 0 then 0 else b.natAbs.log2 / 30 + 1) + 150)) = false
  rw [key, key]
  have : ¬ ((intBits a + 29) / 30 > (intBits b + 29) / 30 + 150) := by omega
  rw [decide_eq_false this, Bool.and_false]
theorem Pre2.bpos {a b n : Int} (h : Pre2 a b n) : 0 < b := Int.lt_of_lt_of_le (pow2_pos _) h.hb1
theorem Pre2.bitsb {a b n : Int} (h : Pre2 a b n) : n ≤ (intBits b : Int) := by
  have := intBits_ge h.hb1
  have := h.hn
  omega
theorem Pre2.bits {a b n : Int} (h : Pre2 a b n) : intBits a ≤ 400000 ∧ intBits b ≤ 400000 ∧ intBits a ≤ 2 * n.toNat := by
  have hn := h.hn
  have hN := h.hN
  have hp := pow2_pos n.toNat
  have hlt : a < 2 ^ (2 * n.toNat) := by
    rw [Nat.two_mul, Int.pow_add]
    exact Int.lt_of_lt_of_le h.hlt (Int.mul_le_mul_of_nonneg_right (Int.le_of_lt h.hb2) (Int.le_of_lt hp))
  exact ⟨bits_of_lt h.ha hlt (by omega), bits_of_lt (Int.le_of_lt h.bpos) h.hb2 (by omega), bits_of_lt h.ha hlt (Nat.le_refl _)⟩
theorem Pre2.nopy {a b n : Int} (h : Pre2 a b n) (hs : (intBits a : Int) - n ≤ 4000) : Builtin.divisionGoesByPylong a b = false := by
  apply noPy_of
  have := h.bitsb
  omega
theorem Pre2.small {a b n : Int} (h : Pre2 a b n) (hs : n ≤ 4000) : (intBits a : Int) - n ≤ 4000 := by
  have := h.bits.2.2
  have := h.hn
  omega
/-- one more bit -/
theorem Pre2.pad {a b n : Int} (h : Pre2 a b n) (ho : n % 2 = 1) : Pre2 (a * 2 ^ Int.toNat 1) (b * 2 ^ Int.toNat 1) (n + 1) := by
  have e1 : (2 : Int) ^ Int.toNat 1 = 2 := by decide
  rw [e1]
  have hn := h.hn
  have hN := h.hN
  have e2 : (n + 1).toNat = n.toNat + 1 := by omega
  have e3 : n.toNat = (n - 1).toNat + 1 := by omega
  have h1 := h.hb1
  have h2 := h.hb2
  have h3 := h.hlt
  have h4 := h.ha
  refine ⟨by omega, by omega, by omega, ?_, ?_, ?_⟩
  · have e4 : (n + 1 - 1).toNat = (n - 1).toNat + 1 := by omega
    rw [e4, Int.pow_succ]; omega
  · rw [e2, Int.pow_succ]; omega
  · rw [e2, Int.pow_succ]
    have hb := h.bpos
    have : b * 2 * (2 ^ n.toNat * 2) = b * 2 ^ n.toNat * 4 := by
      generalize (2 : Int) ^ n.toNat = P
      rw [Int.mul_assoc, Int.mul_comm 2 (P * 2), Int.mul_assoc, ← Int.mul_assoc]; rfl
    have hq : 0 ≤ b * 2 ^ n.toNat := Int.mul_nonneg (Int.le_of_lt hb) (Int.le_of_lt (pow2_pos _))
    omega
theorem pad_div (a b : Int) : (a * 2 ^ Int.toNat 1) / (b * 2 ^ Int.toNat 1) = a / b := by
  have e1 : (2 : Int) ^ Int.toNat 1 = 2 := by decide
  rw [e1, Int.mul_ediv_mul_of_pos_left a b (by decide)]
theorem pad_mod (a b : Int) : ((a * 2 ^ Int.toNat 1) % (b * 2 ^ Int.toNat 1)).fdiv (2 ^ Int.toNat 1) = a % b := by
  have e1 : (2 : Int) ^ Int.toNat 1 = 2 := by decide
  rw [e1, Int.mul_comm a, Int.mul_comm b, Int.mul_emod_mul_of_pos _ _ (by decide), Int.mul_comm, fdiv_pos (by decide)]
  omega
theorem fdiv_two (n : Int) : n.fdiv (2 ^ Int.toNat 1) = n / 2 := by
  have e1 : (2 : Int) ^ Int.toNat 1 = 2 := by decide
  rw [e1, fdiv_pos (by decide)]
theorem and_one {n : Int} : bitAnd n 1 = n % 2 := kbt_mask n 1
theorem pow_bits {h : Int} (h1 : h ≤ 100000) : intBits (1 * 2 ^ h.toNat - 1) ≤ 200000 := by
  have hp := pow2_pos h.toNat
  exact bits_of_lt (k := h.toNat) (by omega) (by omega) (by omega)
/-- the facts of the halving, in the words of the walk -/
structure Halves (a b n h : Int) : Prop where
  h1 : 1 ≤ h
  h2 : h ≤ 100000
  hn : n = 2 * h
  c1 : Pre3 (a.fdiv (2 ^ n.toNat)) (bitAnd (a.fdiv (2 ^ h.toNat)) (1 * 2 ^ h.toNat - 1)) b (b.fdiv (2 ^ h.toNat)) (bitAnd b (1 * 2 ^ h.toNat - 1)) h
  c2 : Pre3 (((a.fdiv (2 ^ n.toNat)) * 2 ^ h.toNat + bitAnd (a.fdiv (2 ^ h.toNat)) (1 * 2 ^ h.toNat - 1)) % b) (bitAnd a (1 * 2 ^ h.toNat - 1)) b (b.fdiv (2 ^ h.toNat)) (bitAnd b (1 * 2 ^ h.toNat - 1)) h
  bq : intBits (((a.fdiv (2 ^ n.toNat)) * 2 ^ h.toNat + bitAnd (a.fdiv (2 ^ h.toNat)) (1 * 2 ^ h.toNat - 1)) / b) ≤ 1000000
  e1 : bitOr (((a.fdiv (2 ^ n.toNat)) * 2 ^ h.toNat + bitAnd (a.fdiv (2 ^ h.toNat)) (1 * 2 ^ h.toNat - 1)) / b * 2 ^ h.toNat)
    (((((a.fdiv (2 ^ n.toNat)) * 2 ^ h.toNat + bitAnd (a.fdiv (2 ^ h.toNat)) (1 * 2 ^ h.toNat - 1)) % b) * 2 ^ h.toNat + bitAnd a (1 * 2 ^ h.toNat - 1)) / b) = a / b
  e2 : ((((a.fdiv (2 ^ n.toNat)) * 2 ^ h.toNat + bitAnd (a.fdiv (2 ^ h.toNat)) (1 * 2 ^ h.toNat - 1)) % b) * 2 ^ h.toNat + bitAnd a (1 * 2 ^ h.toNat - 1)) % b = a % b
theorem Pre2.halves {a b n : Int} (h : Pre2 a b n) (he : n % 2 = 0) : Halves a b n (n.fdiv (2 ^ Int.toNat 1)) := by
  rw [fdiv_two]
  obtain ⟨k, rfl⟩ : ∃ k, n = 2 * k := ⟨n / 2, by omega⟩
  have hk : 2 * k / 2 = k := by omega
  rw [hk]
  have hn := h.hn
  have hN := h.hN
  have en : (2 * k).toNat = 2 * k.toNat := by omega
  have hb := h.bpos
  have hP := pow2_pos k.toNat
  have hPP := pow2_pos (2 * k.toNat)
  have hlt := h.hlt
  have ha := h.ha
  rw [en] at hlt
  obtain ⟨t1, t2, t3, t4, t5, t6⟩ := two_halves ha hb hlt
  have em : ∀ x : Int, bitAnd x (1 * 2 ^ k.toNat - 1) = x % 2 ^ k.toNat := fun x => by rw [Int.one_mul, kbt_mask]
  have ef : ∀ x : Int, x.fdiv (2 ^ k.toNat) = x / 2 ^ k.toNat := fun x => fdiv_pos (Int.le_of_lt hP)
  have ef2 : a.fdiv (2 ^ (2 * k).toNat) = a / 2 ^ (2 * k.toNat) := by rw [en]; exact fdiv_pos (Int.le_of_lt hPP)
  have q0 : 2 ^ (k - 1).toNat ≤ b / 2 ^ k.toNat := by
    apply Int.le_ediv_of_mul_le hP
    rw [← Int.pow_add]
    have : (k - 1).toNat + k.toNat = (2 * k - 1).toNat := by omega
    rw [this]; exact h.hb1
  have q1 : b / 2 ^ k.toNat < 2 ^ k.toNat := by
    apply Int.ediv_lt_of_lt_mul hP
    rw [← Int.pow_add, ← Nat.two_mul, ← en]; exact h.hb2
  have m0 : ∀ x : Int, 0 ≤ x % 2 ^ k.toNat := fun x => Int.emod_nonneg x (Int.ne_of_gt hP)
  have m1 : ∀ x : Int, x % 2 ^ k.toNat < 2 ^ k.toNat := fun x => Int.emod_lt_of_pos x hP
  refine ⟨by omega, by omega, rfl, ?_, ?_, ?_, ?_, ?_⟩
  · rw [em, em, ef, ef, ef2]
    refine ⟨Int.ediv_nonneg ha (Int.le_of_lt hPP), m0 _, m1 _, by omega, by omega, rfl, rfl, q0, q1, ?_⟩
    exact Int.ediv_lt_of_lt_mul hPP hlt
  · rw [em, em, em, ef, ef, ef2]
    refine ⟨Int.emod_nonneg _ (Int.ne_of_gt hb), m0 _, m1 _, by omega, by omega, rfl, rfl, q0, q1, Int.emod_lt_of_pos _ hb⟩
  · rw [em, ef, ef2]
    have d0 : 0 ≤ (a / 2 ^ (2 * k.toNat) * 2 ^ k.toNat + a / 2 ^ k.toNat % 2 ^ k.toNat) / b := Int.ediv_nonneg t2 (Int.le_of_lt hb)
    have d1 : (a / 2 ^ (2 * k.toNat) * 2 ^ k.toNat + a / 2 ^ k.toNat % 2 ^ k.toNat) / b < 2 ^ k.toNat := Int.ediv_lt_of_lt_mul hb (by rw [Int.mul_comm (2 ^ k.toNat) b]; exact t1)
    exact bits_of_lt d0 d1 (by omega)
  · rw [em, em, ef, ef2]; exact t5
  · rw [em, em, ef, ef2]; exact t6
end Mine

end
-- part D2
section
open PySem PySem.W PySem.Calls PyProof.Rows
namespace Mine
open Builtin.Int (intBits)
open Builtin (bitAnd bitOr bitXor)
theorem divmod_K {prog : Program} {w : World} {A : Around} {E : Value → Shared → Prop} {s : Shared} {a b : Int} {t u : Tok} {Q : Value → Shared → Prop} {h₀ : Heap} {L : Addr} {m : Str → Option Value} {news : Led}
    (F : Fr h₀ L s.heap m) (N : News h₀ L s.heap news) (hb : 0 < b) (hp : Builtin.divisionGoesByPylong a b = false)
    (h : ∀ D h', Fr h₀ L h' m → News h₀ L h' ((D, tupO [.int (a / b) s.toks, .int (a % b) (s.toks + 1)]) :: news) → (∀ p ∈ news, p.1 < D) → Q (.ref D) { s with toks := s.toks + 1 + 1, heap := h' }) :
    wpAny (model prog w) A (call (.builtin "divmod") [.int a t, .int b u]) Q E s := by
  refine divmod_N F N (Int.ne_of_gt hb) (fun h' F' N' => ?_) (Or.inl hp)
  rw [fdiv_pos (Int.le_of_lt hb), fmod_pos (Int.le_of_lt hb)] at N'
  exact h _ h' F' N' (fun p hp => Heap.lt_size (N p hp).1)
set_option maxRecDepth 100000 in
set_option maxHeartbeats 8000000 in
theorem div2z (w : World) : C2 w 0 := by
  (k_with_none; w_top off)
  k_with "AtQ" => ((try dsimp only); first | ((with_reducible refine AtQ.next hQ9 ?_); clear hQ9; (try clear Q9)) | ((with_reducible refine AtQ.ret hQ9 ?_); clear hQ9; (try clear Q9); (try dsimp only)) | ((with_reducible refine AtQ.brk hQ9 ?_); clear hQ9; (try clear Q9); (try dsimp only)) | ((with_reducible refine AtQ.cont hQ9 ?_); clear hQ9; (try clear Q9); (try dsimp only)) | ((with_reducible refine AtQ.go hQ9 ?_); clear hQ9; (try clear Q9); (try dsimp only); (try k_fold)))
  k_with "binaryOp LShift int int" => (k_here; (with_reducible refine lshift_int ?kbnu1 ?kbsu1 ?_); (case kbnu1 => first | assumption | decide); (case kbsu1 => (refine' kbm_shl ?kbau1 ?kbcu1 ?kbdu1; (case kbau1 => bits_by_make); (case kbcu1 => first | assumption | decide); (case kbdu1 => decide))))
  k_with "inplaceOp LShift int int" => (k_here; (with_reducible refine ilshift_int ?kbnu2 ?kbsu2 ?_); (case kbnu2 => first | assumption | decide); (case kbsu2 => (refine' kbm_shl ?kbau2 ?kbcu2 ?kbdu2; (case kbau2 => bits_by_make); (case kbcu2 => first | assumption | decide); (case kbdu2 => decide))))
  k_with "call builtin:divmod" => (k_here; (with_reducible show wpAny _ _ (call (Value.builtin "divmod") [Value.int _ _, Value.int _ _]) _ _ _); k_dflt (refine' divmod_K ?k1u3 ?k2u3 ?k3u3 ?k4u3 ?_; (case k1u3 => k_asm); (case k2u3 => k_asm); (case k3u3 => assumption); (case k4u3 => exact Pre2.nopy (by assumption) (by assumption)); k_whole); intro D' h' F' N' l1; (try k_lt l1))
  intro a b n ta tb tn news hpre hk4
  have hbp : 0 < b := hpre.bpos
  have hbl : (intBits a : Int) - n ≤ 4000 := hpre.small (by simpa using hk4)
  unfold Does
  k_fill
  intro dp un gd cn cs aa ccd cl outer A₀ base h₀ L m p loose mean mg mb s Q E B F X N T hk hd hu hret
  refine wpAny_call ?_
  k_dflt ktr_enter
  k_steps
  all_goals exact pair_end hret (by assumption) (by assumption) (by intro p hp; simp [hp]) (by first | assumption | exact ktn_ltOf (by assumption) | exact ktn_ltOf (And.right (by assumption))) rfl rfl
set_option maxRecDepth 100000 in
set_option maxHeartbeats 8000000 in
theorem div2s (w : World) (k : Nat) (IH : C3 w k) : C2 w (k + 1) := by
  (k_with_none; w_top off)
  k_with "AtQ" => ((try dsimp only); first | ((with_reducible refine AtQ.next hQ9 ?_); clear hQ9; (try clear Q9)) | ((with_reducible refine AtQ.ret hQ9 ?_); clear hQ9; (try clear Q9); (try dsimp only)) | ((with_reducible refine AtQ.brk hQ9 ?_); clear hQ9; (try clear Q9); (try dsimp only)) | ((with_reducible refine AtQ.cont hQ9 ?_); clear hQ9; (try clear Q9); (try dsimp only)) | ((with_reducible refine AtQ.go hQ9 ?_); clear hQ9; (try clear Q9); (try dsimp only); (try k_fold)))
  k_with "binaryOp LShift int int" => (k_here; (with_reducible refine lshift_int ?kbnu5 ?kbsu5 ?_); (case kbnu5 => first | assumption | decide); (case kbsu5 => (refine' kbm_shl ?kbau5 ?kbcu5 ?kbdu5; (case kbau5 => bits_by_make); (case kbcu5 => first | assumption | decide); (case kbdu5 => decide))))
  k_with "inplaceOp LShift int int" => (k_here; (with_reducible refine ilshift_int ?kbnu6 ?kbsu6 ?_); (case kbnu6 => first | assumption | decide); (case kbsu6 => (refine' kbm_shl ?kbau6 ?kbcu6 ?kbdu6; (case kbau6 => bits_by_make); (case kbcu6 => first | assumption | decide); (case kbdu6 => decide))))
  k_with "call builtin:divmod" => (k_here; (with_reducible show wpAny _ _ (call (Value.builtin "divmod") [Value.int _ _, Value.int _ _]) _ _ _); k_dflt (refine' divmod_K ?k1u7 ?k2u7 ?k3u7 ?k4u7 ?_; (case k1u7 => k_asm); (case k2u7 => k_asm); (case k3u7 => assumption); (case k4u7 => exact Pre2.nopy (by assumption) (by assumption)); k_whole); intro D' h' F' N' l1; (try k_lt l1))
  intro a b n ta tb tn news hpre hk4
  have hbp : 0 < b := hpre.bpos
  have hn0 : 0 ≤ n := Int.le_trans (by decide) hpre.hn
  have hn6 : n ≤ 1000000 := Int.le_trans hpre.hN (by decide)
  have hba : intBits a ≤ 400000 := hpre.bits.1
  have hbb : intBits b ≤ 400000 := hpre.bits.2.1
  have hand : bitAnd n 1 = n % 2 := and_one
  have h41 : n ≤ 2 * (4000 * 2 ^ k) := by rw [Int.pow_succ] at hk4; omega
  unfold Does
  k_fill
  intro dp un gd cn cs aa ccd cl outer A₀ base h₀ L m p loose mean mg mb s Q E B F X N T hk hd hu hret
  refine wpAny_call ?_
  k_dflt ktr_enter
  k_with "call ref" => (k_here; (with_reducible show wpAny _ _ (call (Value.ref 35) _) _ _ _); (with_reducible refine genQ ?_); intro Q9 hQ9; k_dflt (refine' Does.use ?k1u8 ?k2u8 ?k3u8 ?k4u8 ?k5u8 ?kKu8 (IH _ _ _ _ _ _ _ _ _ _ _ _ _ ?kpreu8 ?knu8) ?kdu8 ?kuu8 ?_; (case k1u8 => k_asm); (case k2u8 => k_asm); (case k3u8 => k_asm); (case k4u8 => k_asm); (case k5u8 => k_asm); (case kKu8 => first | exact rfl | assumption); (case kdu8 => ktr_room); (case kuu8 => ktr_units); (case knu8 => assumption); (case kpreu8 => assumption); k_whole); intro r9 news9 h9 tk9 F9 N9 hp9; obtain ⟨d9, t91, t92, e91, l9, e92⟩ := hp9; subst e91; subst e92)
  rcases (show n % 2 = 0 ∨ n % 2 = 1 by omega) with hpar | hpar
  · have hH := hpre.halves hpar
    have f0 : bitAnd n 1 = 0 := hand.trans hpar
    have f1 : 0 ≤ n.fdiv (2 ^ Int.toNat 1) := Int.le_trans (by decide) hH.h1
    have f2 : n.fdiv (2 ^ Int.toNat 1) ≤ 1000000 := Int.le_trans hH.h2 (by decide)
    have f3 : n.fdiv (2 ^ Int.toNat 1) ≤ 4000 * 2 ^ k := by have := hH.hn; omega
    have f4 := hH.c1
    have f5 := hH.c2
    have f6 := hH.bq
    k_with "exec AugAssign" => (exfalso; clear hret; omega)
    k_with "exec Assign" => (exfalso; clear hret; omega)
    k_with "exec Return" => (exfalso; clear hret; omega)
    k_with "exec Return some" => (exfalso; clear hret; omega)
    k_steps
    all_goals first
      | exact pair_end hret (by assumption) (by assumption) (by intro p hp; simp [hp]) (by first | assumption | exact ktn_ltOf (by assumption) | exact ktn_ltOf (And.right (by assumption))) rfl rfl
      | exact pair_end hret (by assumption) (by assumption) (by intro p hp; simp [hp]) (by first | assumption | exact ktn_ltOf (by assumption) | exact ktn_ltOf (And.right (by assumption)) | exact ktn_ltOf (And.right (And.right (And.right (by assumption))))) hH.e1 hH.e2
  · have hP := hpre.pad hpar
    have hH := hP.halves (by omega)
    have f0 : bitAnd n 1 = 1 := hand.trans hpar
    have f1 : 0 ≤ (n + 1).fdiv (2 ^ Int.toNat 1) := Int.le_trans (by decide) hH.h1
    have f2 : (n + 1).fdiv (2 ^ Int.toNat 1) ≤ 1000000 := Int.le_trans hH.h2 (by decide)
    have f3 : (n + 1).fdiv (2 ^ Int.toNat 1) ≤ 4000 * 2 ^ k := by have := hH.hn; omega
    have f4 := hH.c1
    have f5 := hH.c2
    have f6 := hH.bq
    have f7 : 0 ≤ n + 1 := by omega
    have f8 : n + 1 ≤ 1000000 := Int.le_trans hP.hN (by decide)
    k_with "exec AugAssign" => (exfalso; clear hret; omega)
    k_with "exec Assign" => (exfalso; clear hret; omega)
    k_with "exec Return" => (exfalso; clear hret; omega)
    k_with "exec Return some" => (exfalso; clear hret; omega)
    k_steps
    all_goals first
      | exact pair_end hret (by assumption) (by assumption) (by intro p hp; simp [hp]) (by first | assumption | exact ktn_ltOf (by assumption) | exact ktn_ltOf (And.right (by assumption))) rfl rfl
      | exact pair_end hret (by assumption) (by assumption) (by intro p hp; simp [hp]) (by first | assumption | exact ktn_ltOf (by assumption) | exact ktn_ltOf (And.right (by assumption)) | exact ktn_ltOf (And.right (And.right (And.right (by assumption))))) (hH.e1.trans (pad_div a b)) ((congrArg (fun z => z.fdiv (2 ^ Int.toNat 1)) hH.e2).trans (pad_mod a b))
theorem c2 (w : World) : ∀ k, C2 w k
  | 0 => div2z w
  | k + 1 => div2s w k (div3 w k (c2 w k))
end Mine

end
-- part Base2
section
open PySem PySem.W PySem.Calls PyProof.Rows
namespace Mine
/-- as Does, where the two code tables are laid aside -/
noncomputable def DoesC (w : World) (f : Addr) (vs : List Value) (dN uN : Nat) (news : Led) (post : Value → Led → Prop) : Prop :=
  ∀ (dp un : Nat) (gd : Option (List Code)) (cn : Str) (cs : Scope) (a : Addr) (ccd : Value) (cl : List (Str × Addr)) (outer : List Env) (A₀ : Around) (base h₀ : Heap) (L : Addr) (m : Str → Option Value)
    (p : Program) (loose : List Str) (mean : ExcName → Option Value) (mg mb : Str → Option Value) (s : Shared) (Q E : Value → Shared → Prop),
    CodeHd base 41 37 → CodeHd base 48 44 →
    Below A₀ base outer h₀ → Fr h₀ L s.heap m → (hd.heap_1 w.params).In h₀ → News h₀ L s.heap news → Top p loose mean mg mb h₀ → cs.kind = .function → dp + dN < recursionLimit → un + uN < cLine →
    (∀ r news' h' tk', Fr h₀ L h' m → News h₀ L h' news' → post r news' → Q r { s with heap := h', toks := tk' }) →
    wpAny (model PySem.Challenge.rw_ph0166_01.row.prog w) (ktrTop dp un gd cn cs L a ccd cl outer) (call (.ref f) vs) Q E s
theorem DoesC.use {w : World} {f : Addr} {vs : List Value} {dN uN : Nat} {news : Led} {post : Value → Led → Prop}
    {dp un : Nat} {gd : Option (List Code)} {cn : Str} {cs : Scope} {a : Addr} {ccd : Value} {cl : List (Str × Addr)} {outer : List Env} {A₀ : Around} {base h₀ : Heap} {L : Addr} {m : Str → Option Value}
    {p : Program} {loose : List Str} {mean : ExcName → Option Value} {mg mb : Str → Option Value} {s : Shared} {Q E : Value → Shared → Prop}
    (C1 : CodeHd base 41 37) (C2 : CodeHd base 48 44) (B : Below A₀ base outer h₀) (F : Fr h₀ L s.heap m) (X : (hd.heap_1 w.params).In h₀) (N : News h₀ L s.heap news) (T : Top p loose mean mg mb h₀) (hk : cs.kind = .function)
    (C : DoesC w f vs dN uN news post) (hD : dp + dN < recursionLimit) (hU : un + uN < cLine)
    (ret : ∀ r news' h' tk', Fr h₀ L h' m → News h₀ L h' news' → post r news' → Q r { s with heap := h', toks := tk' }) :
    wpAny (model PySem.Challenge.rw_ph0166_01.row.prog w) (ktrTop dp un gd cn cs L a ccd cl outer) (call (.ref f) vs) Q E s :=
  C _ _ _ _ _ _ _ _ _ _ _ _ _ _ _ _ _ _ _ _ _ _ C1 C2 B F X N T hk hD hU ret
theorem ne_mono {rest : Led} {D X : Addr} (h : AllLt D rest) (hX : @LE.le Nat _ D X) : ∀ p ∈ rest, p.1 ≠ X := fun p hp e => by
  have := ktn_ltOf h p hp
  rw [e] at this
  exact absurd (Nat.lt_of_lt_of_le this hX) (Nat.lt_irrefl _)
end Mine

end
-- part Ast
section
open PySem PySem.W PySem.Calls PyProof.Rows
namespace Mine
noncomputable def stB : Stmt → List Stmt
  | .FunctionDef _ _ b .. => b
  | _ => []
noncomputable def stP : Stmt → Arguments
  | .FunctionDef _ a .. => a
  | _ => { posonlyargs := [], args := [], vararg := none, kwonlyargs := [], kw_defaults := [], kwarg := none, defaults := [] }
noncomputable def stS : Stmt → Scope
  | .FunctionDef (scope := s) .. => s
  | _ => { kind := .function, names := [], isGenerator := false, isCoroutine := false, more := [] }
noncomputable def stN : Stmt → Str
  | .FunctionDef n .. => n
  | _ => Str.ofString ""
noncomputable def nth : List Stmt → Nat → Stmt
  | [], _ => .Pass ⟨0, 0, 0, 0⟩
  | s :: _, 0 => s
  | _ :: r, k + 1 => nth r k
noncomputable def topB : List Stmt := PySem.Challenge.pw_ph0166_01.main.body
/-- a part of the program's own tree, in its head form -/
noncomputable def inI : Stmt := nth (stB (nth topB 5)) 1
noncomputable def inD : Stmt := nth (stB (nth topB 6)) 0
noncomputable def inIB : List Stmt := by
  refine (fun (b : List Stmt) (_ : stB inI = b) => b) ?_ ?_; rotate_left; (conv => lhs; whnf)
noncomputable def inIP : Arguments := by
  refine (fun (b : Arguments) (_ : stP inI = b) => b) ?_ ?_; rotate_left; (conv => lhs; whnf)
noncomputable def inIS : Scope := by
  refine (fun (b : Scope) (_ : stS inI = b) => b) ?_ ?_; rotate_left; (conv => lhs; whnf)
noncomputable def inDB : List Stmt := by
  refine (fun (b : List Stmt) (_ : stB inD = b) => b) ?_ ?_; rotate_left; (conv => lhs; whnf)
noncomputable def inDP : Arguments := by
  refine (fun (b : Arguments) (_ : stP inD = b) => b) ?_ ?_; rotate_left; (conv => lhs; whnf)
noncomputable def inDS : Scope := by
  refine (fun (b : Scope) (_ : stS inD = b) => b) ?_ ?_; rotate_left; (conv => lhs; whnf)
end Mine

end
-- part M4
section
open PySem PySem.W PyProof.Rows
namespace Mine
open Builtin (bitAnd bitOr bitXor)
open Builtin.Int (intBits)
/-- the digits of x written into the places from L on, R ahead -/
noncomputable def Fill (n x L R : Int) (ns ns' : List Int) : Prop :=
  ns'.length = ns.length ∧ ∀ i : Nat, ns'.getD i 0 = if L.toNat ≤ i ∧ i < R.toNat then x / 2 ^ (n.toNat * (i - L.toNat)) % 2 ^ n.toNat else ns.getD i 0
/-- what inner asks -/
structure PreF (n x L R : Int) (len : Nat) : Prop where
  h0 : 0 ≤ x
  hL : 0 ≤ L
  hLR : L < R
  hR : R ≤ (len : Int)
  hlt : x < 2 ^ (n.toNat * (R - L).toNat)
theorem toNat_mul {a n : Int} (ha : 0 ≤ a) (hn : 0 ≤ n) : (a * n).toNat = n.toNat * a.toNat := by
  obtain ⟨a, rfl⟩ := Int.eq_ofNat_of_zero_le ha
  obtain ⟨n, rfl⟩ := Int.eq_ofNat_of_zero_le hn
  rw [← Int.natCast_mul, Int.toNat_natCast, Int.toNat_natCast, Int.toNat_natCast, Nat.mul_comm]
theorem div_div_pow (x : Int) (a b : Nat) : x / 2 ^ a / 2 ^ b = x / 2 ^ (a + b) := by
  rw [Int.pow_add, Int.ediv_ediv_of_nonneg (Int.le_of_lt (pow2_pos a))]
theorem mod_div_mod {x : Int} {a b c : Nat} (h : a + b ≤ c) : x % 2 ^ c / 2 ^ a % 2 ^ b = x / 2 ^ a % 2 ^ b := by
  obtain ⟨d, rfl⟩ := Nat.exists_eq_add_of_le h
  have hp := pow2_pos a
  have e : x = x % 2 ^ (a + b + d) + 2 ^ a * (2 ^ b * (2 ^ d * (x / 2 ^ (a + b + d)))) := by
    have := Int.emod_add_mul_ediv x (2 ^ (a + b + d))
    rw [Int.pow_add, Int.pow_add] at *
    rw [← Int.mul_assoc, ← Int.mul_assoc]
    exact this.symm
  generalize x % 2 ^ (a + b + d) = y at *
  generalize 2 ^ d * (x / 2 ^ (a + b + d)) = z at *
  rw [e, Int.add_mul_ediv_left _ _ (Int.ne_of_gt hp), Int.add_mul_emod_self_left]
theorem nat3 {i l m d : Nat} (h1 : l ≤ m) (h2 : m ≤ i) (e : d = m - l) : (i - m) + d = i - l := by omega
theorem nat5 {i l m : Nat} (h1 : l ≤ i) (h2 : i < m) : i - l + 1 ≤ m - l := by omega
theorem toNat_sub' {L M : Int} (h : 0 ≤ L) (h1 : L ≤ M) : (M - L).toNat = M.toNat - L.toNat := by
  obtain ⟨l, rfl⟩ := Int.eq_ofNat_of_zero_le h
  obtain ⟨m, rfl⟩ := Int.eq_ofNat_of_zero_le (Int.le_trans h h1)
  exact Int.toNat_sub m l
theorem nat4 {i l m r : Nat} (h : m ≤ r) (c1 : ¬ (m ≤ i ∧ i < r)) (c2 : ¬ (l ≤ i ∧ i < m)) : ¬ (l ≤ i ∧ i < r) := by omega
structure StepF (n x L R M : Int) (len : Nat) : Prop where
  m1 : L < M
  m2 : M < R
  s0 : 0 ≤ (M - L) * n
  s1 : (M - L) * n ≤ 1000000
  bu : intBits (x.fdiv (2 ^ ((M - L) * n).toNat)) ≤ 1000000
  lo : PreF n (bitXor x (x.fdiv (2 ^ ((M - L) * n).toNat) * 2 ^ ((M - L) * n).toNat)) L (M) len
  hi : PreF n (x.fdiv (2 ^ ((M - L) * n).toNat)) (M) R len
  fin : ∀ ns ns1 ns2, Fill n (bitXor x (x.fdiv (2 ^ ((M - L) * n).toNat) * 2 ^ ((M - L) * n).toNat)) L (M) ns ns1 →
    Fill n (x.fdiv (2 ^ ((M - L) * n).toNat)) (M) R ns1 ns2 → Fill n x L R ns ns2
theorem PreF.step {n x L R : Int} {len : Nat} (h : PreF n x L R len) (hn : 1 ≤ n) (hx : intBits x ≤ 1000000) (hnl : n * len ≤ 1000000) (hne : ¬ L + 1 = R) : StepF n x L R ((L + R).fdiv (2 ^ Int.toNat 1)) len := by
  obtain ⟨h0, hL, hLR, hR, hlt⟩ := h
  have hM : (L + R).fdiv (2 ^ Int.toNat 1) = (L + R) / 2 := fdiv_two _
  generalize (L + R).fdiv (2 ^ Int.toNat 1) = M at *
  have m1 : L < M := by omega
  have m2 : M < R := by omega
  clear hM hne
  have hS : ((M - L) * n).toNat = n.toNat * (M - L).toNat := toNat_mul (by omega) (by omega)
  have s0 : 0 ≤ (M - L) * n := Int.mul_nonneg (by omega) (by omega)
  have s1 : (M - L) * n ≤ 1000000 := by
    have : (M - L) * n ≤ len * n := Int.mul_le_mul_of_nonneg_right (by omega) (by omega)
    rw [Int.mul_comm (len : Int) n] at this
    omega
  have hp := pow2_pos (n.toNat * (M - L).toNat)
  have eu : x.fdiv (2 ^ ((M - L) * n).toNat) = x / 2 ^ (n.toNat * (M - L).toNat) := by rw [hS]; exact fdiv_pos (Int.le_of_lt hp)
  have el : bitXor x (x.fdiv (2 ^ ((M - L) * n).toNat) * 2 ^ ((M - L) * n).toNat) = x % 2 ^ (n.toNat * (M - L).toNat) := by
    rw [eu, hS]; exact xor_low _ h0
  have esplit : n.toNat * (R - L).toNat = n.toNat * (R - M).toNat + n.toNat * (M - L).toNat := by
    rw [← Nat.mul_add]; congr 1; omega
  refine ⟨m1, m2, s0, s1, intBits_fdiv_le hx, ?_, ?_, ?_⟩
  · rw [el]
    exact ⟨Int.emod_nonneg _ (Int.ne_of_gt hp), hL, m1, by omega, Int.emod_lt_of_pos _ hp⟩
  · rw [eu]
    refine ⟨Int.ediv_nonneg h0 (Int.le_of_lt hp), by omega, m2, hR, ?_⟩
    apply Int.ediv_lt_of_lt_mul hp
    rw [← Int.pow_add, ← esplit]; exact hlt
  · intro ns ns1 ns2
    rw [el, eu]
    rintro ⟨f1, f2⟩ ⟨g1, g2⟩
    refine ⟨g1.trans f1, fun i => ?_⟩
    rw [g2]
    have aL := Int.toNat_le_toNat (Int.le_of_lt m1)
    have aR := Int.toNat_le_toNat (Int.le_of_lt m2)
    by_cases c1 : M.toNat ≤ i ∧ i < R.toNat
    · rw [if_pos c1, if_pos ⟨Nat.le_trans aL c1.1, c1.2⟩, div_div_pow]
      congr 2
      rw [← Nat.mul_add]; congr 2; rw [Nat.add_comm]; exact nat3 aL c1.1 (toNat_sub' hL (Int.le_of_lt m1))
    · rw [if_neg c1, f2]
      by_cases c2 : L.toNat ≤ i ∧ i < M.toNat
      · rw [if_pos c2, if_pos ⟨c2.1, Nat.lt_of_lt_of_le c2.2 aR⟩]
        apply mod_div_mod
        have : n.toNat * (i - L.toNat) + n.toNat = n.toNat * (i - L.toNat + 1) := by rw [Nat.mul_add, Nat.mul_one]
        rw [this]
        rw [toNat_sub' hL (Int.le_of_lt m1)]
        exact Nat.mul_le_mul_left _ (nat5 c2.1 c2.2)
      · rw [if_neg c2, if_neg (nat4 aR c1 c2)]
theorem PreF.one {n x L R : Int} {ns : List Int} (h : PreF n x L R ns.length) (he : L + 1 = R) : Fill n x L R ns (ns.set L.toNat x) := by
  obtain ⟨h0, hL, hLR, hR, hlt⟩ := h
  subst he
  have e1 : (L + 1 - L).toNat = 1 := by omega
  rw [e1, Nat.mul_one] at hlt
  refine ⟨List.length_set, fun i => ?_⟩
  by_cases c : L.toNat = i
  · subst c
    rw [if_pos (by omega), Nat.sub_self, Nat.mul_zero, Int.pow_zero, Int.ediv_one, Int.emod_eq_of_lt h0 hlt]
    have : L.toNat < ns.length := by omega
    simp [List.getD, this]
  · rw [if_neg (by omega)]
    simp [List.getD, c]
theorem PreF.bits {n x L R : Int} {len : Nat} (h : PreF n x L R len) (hn : 1 ≤ n) (hnl : n * len ≤ 1000000) : intBits x ≤ 1000000 := by
  refine bits_of_lt h.h0 h.hlt ?_
  have h1 : (R - L) * n ≤ len * n := Int.mul_le_mul_of_nonneg_right (by have := h.hL; have := h.hR; omega) (by omega)
  have h2 := toNat_mul (a := R - L) (n := n) (by have := h.hLR; omega) (by omega)
  rw [Int.mul_comm (len : Int) n] at h1
  omega
/-- a number's digits -/
noncomputable def digs (n a : Int) (k : Nat) : List Int := (List.range k).map fun i => a / 2 ^ (n.toNat * i) % 2 ^ n.toNat
theorem digs_length (n a : Int) (k : Nat) : (digs n a k).length = k := by simp [digs]
theorem fill_digs {n a : Int} {k : Nat} {ns ns' : List Int} (hl : ns.length = k) (h : Fill n a 0 k ns ns') : ns' = digs n a k := by
  apply List.ext_getElem
  · rw [h.1, hl, digs_length]
  · intro i h1 h2
    have := h.2 i
    rw [digs_length] at h2
    rw [if_pos (by omega)] at this
    simp only [List.getD, List.getElem?_eq_getElem h1, Option.getD_some] at this
    rw [this]
    simp [digs]
theorem digs_zero (n : Int) (k : Nat) : digs n 0 k = List.replicate k 0 := by
  apply List.ext_getElem
  · simp [digs]
  · intro i h1 h2
    simp [digs]
theorem ints_rep {c : Int} {t : Tok} : ∀ k : Nat, IntsAre (List.replicate k [Value.int c t]).flatten (List.replicate k c)
  | 0 => .nil
  | k + 1 => .cons c t (ints_rep k)
theorem preF_of {a n K : Int} (ha : 0 ≤ a) (ha0 : a ≠ 0) (hn : 1 ≤ n) (hK : K = ((intBits a : Int) + n - 1).fdiv n) : PreF n a 0 ((List.replicate K.toNat (0 : Int)).length : Nat) (List.replicate K.toNat (0 : Int)).length := by
  rw [fdiv_pos (by omega)] at hK
  have hb : 1 ≤ (intBits a : Int) := by
    unfold intBits
    rw [if_neg (by simpa using ha0)]
    omega
  have hd := Int.emod_add_ediv_mul ((intBits a : Int) + n - 1) n
  have hm := Int.emod_lt_of_pos ((intBits a : Int) + n - 1) (show 0 < n by omega)
  rw [← hK] at hd
  have hK1 : 1 ≤ K := by
    rw [hK]
    exact Int.le_ediv_of_mul_le (by omega) (by omega)
  rw [List.length_replicate]
  refine ⟨ha, Int.le_refl _, by omega, Int.le_refl _, ?_⟩
  have h1 := lt_of_bits (Nat.le_refl (intBits a))
  refine Int.lt_of_lt_of_le h1 ?_
  rw [← kbt_cast, ← kbt_cast]
  apply Int.ofNat_le.mpr
  apply Nat.pow_le_pow_right (by decide)
  have h2 : ((n.toNat * ((K.toNat : Int) - 0).toNat : Nat) : Int) = n * K := by
    have : ((K.toNat : Int) - 0).toNat = K.toNat := by omega
    rw [this, Int.natCast_mul, Int.toNat_of_nonneg (by omega), Int.toNat_of_nonneg (by omega)]
  have h3 : (intBits a : Int) ≤ n * K := by rw [Int.mul_comm]; omega
  omega
end Mine

end
-- part E0
section
open PySem PySem.W PySem.Calls PyProof.Rows
namespace Mine
open Builtin.Int (intBits)
open Builtin (bitAnd bitOr bitXor)
noncomputable def InnerI (w : World) (n : Int) (f d : Addr) (stat : Led) (j : Nat) : Prop :=
  ∀ (x L R : Int) (tx tL tR : Tok) (vs : List Value) (nn : Nat) (ns : List Int), IntsAre vs ns → PreF n x L R ns.length → R - L ≤ 2 ^ j → n * ns.length ≤ 1000000 →
    DoesC w f [.int x tx, .int L tL, .int R tR] (j + 1) (8 * j + 8) ((d, listOf vs.toArray nn) :: stat)
      (fun r news' => r = .none ∧ ∃ vs' ns' nn', IntsAre vs' ns' ∧ Fill n x L R ns ns' ∧ news' = (d, listOf vs'.toArray nn') :: stat)
set_option maxRecDepth 100000 in
set_option maxHeartbeats 8000000 in
theorem innerI (w : World) (n : Int) (f d cN cI cA c' : Addr) (qual : Str) (doc pm ct : Value) (oc oN oI oA : Obj) (vsc : Array Value) (tq tn : Tok) (stat : Led)
    (hf : (f, fnMade (Str.ofString "inner") qual inIP inIB inIS [(Str.ofString "n", cN), (Str.ofString "inner", cI), (Str.ofString "a_digits", cA)] doc pm c' ct) ∈ stat)
    (hc : (c', oc) ∈ stat) (hcd : oc.data = .fields vsc) (hcv : vsc[1]? = some (.str qual tq)) (hN : (cN, oN) ∈ stat) (hNd : oN.data = .cell (some (.int n tn)))
    (hI : (cI, oI) ∈ stat) (hId : oI.data = .cell (some (.ref f))) (hA : (cA, oA) ∈ stat) (hAd : oA.data = .cell (some (.ref d))) (hd : ∀ p ∈ stat, p.1 ≠ d) (hn : 1 ≤ n) : ∀ j, InnerI w n f d stat j := by
  (k_with_none; w_top off)
  k_with "execs cons" => (k_here; (fail_if_success k_gentoks); (fail_if_success (with_reducible show wpAny _ _ (execs (Stmt.While _ _ _ _ :: _) _) _ _ _)); (fail_if_success (with_reducible show wpAny _ _ (execs (Stmt.For _ _ _ _ _ :: _) _) _ _ _)); (with_reducible refine execsQ ?_); intro Q9 hQ9)
  k_with "AtQ" => ((try dsimp only); first | ((with_reducible refine AtQ.next hQ9 ?_); clear hQ9; (try clear Q9)) | ((with_reducible refine AtQ.ret hQ9 ?_); clear hQ9; (try clear Q9); (try dsimp only)) | ((with_reducible refine AtQ.brk hQ9 ?_); clear hQ9; (try clear Q9); (try dsimp only)) | ((with_reducible refine AtQ.cont hQ9 ?_); clear hQ9; (try clear Q9); (try dsimp only)) | ((with_reducible refine AtQ.go hQ9 ?_); clear hQ9; (try clear Q9); (try dsimp only); (try k_fold)))
  k_with "k_mem" => (refine' List.mem_cons_of_mem _ ?_; assumption)
  k_with "k_all" => (tbn_letter; first | assumption | (refine' ne_mono ?h1u3 ?h2u3; (case h1u3 => tbn_find); (case h2u3 => omega)))
  k_with "binaryOp LShift int int" => (k_here; (with_reducible refine lshift_int ?kbnu4 ?kbsu4 ?_); (case kbnu4 => first | assumption | decide); (case kbsu4 => (refine' kbm_shl ?kbau4 ?kbcu4 ?kbdu4; (case kbau4 => bits_by_make); (case kbcu4 => first | assumption | decide); (case kbdu4 => decide))))
  k_with "knR_enter" => (refine' code_nest ?k1u5 ?k2u5 ?k3u5 ?k4u5 ?k5u5 ?kAu5 ?kFu5 ?kKu5 ?k6u5 ?k7u5 ?k8u5 ?k9u5 ?kBu5 ?_ ?c2u5 ?c3u5 ?c4u5 ?c5u5; (case kAu5 => exact rfl); (case kFu5 => exact rfl); (case kKu5 => assumption); (case k1u5 => k_asm); (case k2u5 => k_asm); (case k3u5 => k_asm); (case k4u5 => k_asm); (case k5u5 => k_asm); (case k6u5 => k_mem); (case k7u5 => exact codeRec_news (by k_asm) (by k_mem) (by assumption) (by assumption)); (case k8u5 => ktr_room); (case k9u5 => exact BindsTo.of_eq rfl); (case c5u5 => decide); (case kBu5 => exact locs rfl); (case c2u5 => exact rfl); (case c3u5 => exact rfl); (case c4u5 => exact rfl); k_whole; intro g' L' h' FG' F' N' B' X' T'; (try dsimp only); (try k_lift B'); (try k_fold))
  k_with "binaryOp Mult int int" => (k_here; (with_reducible refine' PyProof.Rows.mul_int ?_ ?hmmu6); (case hmmu6 => assumption))
  unfold inIP inIB inIS at hf
  dsimp only at hf
  intro j
  induction j with
  | zero =>
    intro x L R tx tL tR vs nn ns hvs hpre hlr hnl
    have hb1 : L + 1 = R := by have := hpre.hLR; rw [Int.pow_zero] at hlr; omega
    have hL0 := hpre.hL
    have hL1 : L < ns.length := by have := hpre.hR; omega
    have hL2 : L < 2 ^ 63 := by have := hpre.hR; have h1 : 1 * (ns.length : Int) ≤ n * ns.length := Int.mul_le_mul_of_nonneg_right hn (by omega); omega
    unfold DoesC
    k_fill
    intro dp un gd cn cs aa ccd cl outer A₀ base h₀ LL m p loose mean mg mb s Q E C1 C2 B F X N T hk hd hu hret
    refine wpAny_call ?_
    k_dflt walk_at "knR_enter"
    k_with "exec Assign" => (exfalso; clear hret; omega)
    k_steps
    all_goals exact hret _ _ _ _ (by assumption) (by assumption) ⟨rfl, _, _, _, by assumption, hpre.one hb1, rfl⟩
  | succ j IH =>
    intro x L R tx tL tR vs nn ns hvs hpre hlr hnl
    have hL0 := hpre.hL
    have hL1 : L < ns.length := by have := hpre.hR; have := hpre.hLR; omega
    have hL2 : L < 2 ^ 63 := by have := hpre.hR; have h1 : 1 * (ns.length : Int) ≤ n * ns.length := Int.mul_le_mul_of_nonneg_right hn (by omega); omega
    have hxb := hpre.bits hn hnl
    unfold DoesC
    k_fill
    intro dp un gd cn cs aa ccd cl outer A₀ base h₀ LL m p loose mean mg mb s Q E C1 C2 B F X N T hk hd hu hret
    refine wpAny_call ?_
    k_dflt walk_at "knR_enter"
    k_with "call ref" => (k_here; (with_reducible show wpAny _ _ (call (Value.ref _) [Value.int _ _, Value.int _ _, Value.int _ _]) _ _ _); (with_reducible refine genQ ?_); intro Q9 hQ9; k_dflt (refine' DoesC.use ?c1u8 ?c2u8 ?k1u8 ?k2u8 ?k3u8 ?k4u8 ?k5u8 ?kKu8 (IH _ _ _ _ _ _ _ _ _ ?kIu8 ?kpreu8 ?klu8 ?knu8) ?kdu8 ?kuu8 ?_; (case c1u8 => kn_code); (case c2u8 => kn_code); (case k1u8 => k_asm); (case k2u8 => k_asm); (case k3u8 => k_asm); (case k4u8 => k_asm); (case k5u8 => k_asm); (case kKu8 => first | exact rfl | assumption); (case kdu8 => ktr_room); (case kuu8 => ktr_units); (case kIu8 => assumption); (case kpreu8 => first | assumption | (rw [z0]; assumption)); (case klu8 => assumption); (case knu8 => first | assumption | (rw [z0]; assumption)); k_whole); intro r9 news9 h9 tk9 F9 N9 hp9; obtain ⟨e91, vs9, ns9, nn9, i9, f9, e92⟩ := hp9; subst e91; subst e92; (have z0 := f9.1))
    by_cases hb1 : L + 1 = R
    · k_with "exec Assign Name" => (exfalso; clear hret; omega)
      k_steps
      all_goals exact hret _ _ _ _ (by assumption) (by assumption) ⟨rfl, _, _, _, by assumption, hpre.one hb1, rfl⟩
    · have hS := hpre.step hn hxb hnl hb1
      have g1 := hS.s0
      have g2 := hS.s1
      have g3 := hS.bu
      have g4 := hS.lo
      have g5 := hS.hi
      have hp2 : (2 : Int) ^ (j + 1) = 2 * 2 ^ j := by rw [Int.pow_succ, Int.mul_comm]
      have hM := fdiv_two (L + R)
      have hmm : IntMulOk ((L + R).fdiv (2 ^ Int.toNat 1) - L) n := IntMulOk.of_left (intBits_le_64 (by have := hpre.hLR; omega) (by have := hpre.hR; have := hpre.hLR; have h1 : 1 * (ns.length : Int) ≤ n * ns.length := Int.mul_le_mul_of_nonneg_right hn (by omega); omega))
      have g6 : (L + R).fdiv (2 ^ Int.toNat 1) - L ≤ 2 ^ j := by omega
      have g7 : R - (L + R).fdiv (2 ^ Int.toNat 1) ≤ 2 ^ j := by omega
      k_steps
      all_goals exact hret _ _ _ _ (by assumption) (by assumption) ⟨rfl, _, _, _, by assumption, hS.fin _ _ _ (by assumption) (by assumption), rfl⟩
end Mine

end
-- part E1a
section
open PySem PySem.W PySem.Calls PyProof.Rows
namespace Mine
open Builtin.Int (intBits)
open Builtin (bitAnd bitOr bitXor)
theorem mem_split_ne {pre post : Led} {d a : Addr} {o ob : Obj} (h : (a, ob) ∈ pre ++ (d, o) :: post) (hne : ob ≠ o) : (a, ob) ∈ pre ++ post := by
  rcases List.mem_append.mp h with h | h
  · exact List.mem_append.mpr (.inl h)
  · rcases List.mem_cons.mp h with h | h
    · exact absurd (Prod.mk.inj h).2 hne
    · exact List.mem_append.mpr (.inr h)
theorem ne_cell {o : Obj} {v : Option Value} {its : Array Value} {nn : Nat} (h : o.data = .cell v) : o ≠ listOf its nn := fun e => by rw [e] at h; cases h
theorem ne_fields {o : Obj} {v : Array Value} {its : Array Value} {nn : Nat} (h : o.data = .fields v) : o ≠ listOf its nn := fun e => by rw [e] at h; cases h
theorem innerU {w : World} {n : Int} {f d cN cI cA c' : Addr} {qual : Str} {doc pm ct : Value} {oc oN oI oA : Obj} {vsc : Array Value} {tq tn : Tok} {news : Led} {g : Obj → Led} {x L R : Int} {tx tL tR : Tok} {vs : List Value} {nn : Nat} {ns : List Int} 
    (U : UpdF d (listOf vs.toArray nn) news g)
    (hf : (f, fnMade (Str.ofString "inner") qual inIP inIB inIS [(Str.ofString "n", cN), (Str.ofString "inner", cI), (Str.ofString "a_digits", cA)] doc pm c' ct) ∈ news)
    (hc : (c', oc) ∈ news) (hcd : oc.data = .fields vsc) (hcv : vsc[1]? = some (.str qual tq)) (hN : (cN, oN) ∈ news) (hNd : oN.data = .cell (some (.int n tn)))
    (hI : (cI, oI) ∈ news) (hId : oI.data = .cell (some (.ref f))) (hA : (cA, oA) ∈ news) (hAd : oA.data = .cell (some (.ref d))) (hn : 1 ≤ n)
    (hvs : IntsAre vs ns) (hpre : PreF n x L R ns.length) (hlr : R - L ≤ 256) (hnl : n * ns.length ≤ 1000000) :
    DoesC w f [.int x tx, .int L tL, .int R tR] 9 72 news (fun r news' => r = .none ∧ ∃ vs' ns' nn', IntsAre vs' ns' ∧ Fill n x L R ns ns' ∧ news' = g (listOf vs'.toArray nn')) := by
  obtain ⟨pre, post, rfl, hg, h1, h2⟩ := U.split
  have hd : ∀ p ∈ pre ++ post, p.1 ≠ d := fun p hp => (List.mem_append.mp hp).elim (h1 p) (h2 p)
  have IH := innerI w n f d cN cI cA c' qual doc pm ct oc oN oI oA vsc tq tn (pre ++ post) (mem_split_ne hf (fun e => by have e2 := congrArg Obj.data e; cases e2)) (mem_split_ne hc (ne_fields hcd)) hcd hcv (mem_split_ne hN (ne_cell hNd)) hNd
    (mem_split_ne hI (ne_cell hId)) hId (mem_split_ne hA (ne_cell hAd)) hAd hd hn 8 x L R tx tL tR vs nn ns hvs hpre hlr hnl
  intro dp un gd cn cs aa ccd cl outer A₀ base h₀ LL m p loose mean mg mb s Q E C1 C2 B F X N T hk hD hU hret
  refine IH.use C1 C2 B F X (cb_drop N fun q hq => ?_) T hk hD hU fun r news' h' tk' F' N' hp => ?_
  · rcases List.mem_cons.mp hq with rfl | hq
    · exact List.mem_append.mpr (.inr (.head _))
    · exact (List.mem_append.mp hq).elim (fun h => List.mem_append.mpr (.inl h)) fun h => List.mem_append.mpr (.inr (.tail _ h))
  · obtain ⟨e1, vs', ns', nn', i, f', e2⟩ := hp
    refine hret r _ h' tk' F' (cb_drop N' fun q hq => ?_) ⟨e1, vs', ns', nn', i, f', rfl⟩
    rw [hg] at hq
    subst e2
    rcases List.mem_append.mp hq with hq | hq
    · exact .tail _ (List.mem_append.mpr (.inl hq))
    · rcases List.mem_cons.mp hq with rfl | hq
      · exact .head _
      · exact .tail _ (List.mem_append.mpr (.inr hq))
/-- what a table of code holds: nothing yet, or the one code of the def within -/
inductive TabIs (P : Addr) (line col : Nat) (qual : Str) : Led → Prop
  | empty : TabIs P line col qual [(P, tabObj #[])]
  | made (c : Addr) (oc : Obj) (vs : Array Value) (t : Tok) : @LT.lt Nat _ 44 c → oc.data = .fields vs → vs[1]? = some (.str qual t) → TabIs P line col qual [(P, tabObj (#[] ++ #[rawInt line, rawInt col, .ref c])), (c, oc)]
/-- what a table has got beyond what it had is newer than all else -/
noncomputable def Fresh (T T' rest : Led) : Prop := ∀ x ∈ T', x ∈ T ∨ @LE.le Nat _ x.1 44 ∨ ∀ p ∈ rest, @LT.lt Nat _ p.1 x.1
theorem Fresh.sub {T T' rest rest' : Led} (h : Fresh T T' rest) (hs : ∀ p ∈ rest', p ∈ rest) : Fresh T T' rest' := fun x hx => (h x hx).imp id fun h => h.imp id fun h p hp => h p (hs p hp)
noncomputable def qI : Str := (Str.ofString "_int2digits" ++ ".<locals>.") ++ Str.ofString "inner"
noncomputable def qD : Str := (Str.ofString "_digits2int" ++ ".<locals>.") ++ Str.ofString "inner"
theorem mulz {prog : Program} {w : World} {A : Around} {E : Value → Shared → Prop} {s : Shared} {h₀ : Heap} {L : Addr} {m : Str → Option Value} {news : Led} {l : Addr} {c x : Int} {t u : Tok} {Q : Value → Shared → Prop}
    (Fm : Fr h₀ L s.heap m) (N : News h₀ L s.heap news) (hl : s.heap.IsList l #[.int c t]) (hlo : 0 ≤ x) (hhi : x ≤ 256)
    (h : ∀ D h' vs, IntsAre vs (List.replicate x.toNat c) → Fr h₀ L h' m → News h₀ L h' ((D, listOf vs.toArray 0) :: news) → (∀ p ∈ news, p.1 < D) → Q (.ref D) { s with heap := h' }) : wpAny (model prog w) A (binaryOp .Mult (.ref l) (.int x u)) Q E s :=
  KMa.mul (vs := [.int c t]) Fm N hl (by omega) (by omega) (by simp only [List.length_cons, List.length_nil]; omega) rfl fun D h' F' N' l1 => h D h' _ (ints_rep _) F' N' l1
end Mine

end
-- part E1
section
open PySem PySem.W PySem.Calls PyProof.Rows
namespace Mine
open Builtin.Int (intBits)
open Builtin (bitAnd bitOr bitXor)
theorem fill_digs' {n a : Int} {k : Nat} {ns' : List Int} (h : Fill n a 0 ((List.replicate k (0 : Int)).length : Nat) (List.replicate k 0) ns') : ns' = digs n a k := by
  rw [List.length_replicate] at h
  exact fill_digs List.length_replicate h
inductive PostI (T1 rest : Led) (n a : Int) (K : Nat) (r : Value) (news' : Led) : Prop
  | mk (d : Addr) (vs : List Value) (nn : Nat) (T1' : Led)
    (hh1 : r = .ref d)
    (hh2 : TabIs 37 35 4 qI T1')
    (hh3 : IntsAre vs (digs n a K))
    (hh4 : news' = (d, listOf vs.toArray nn) :: (T1' ++ rest))
    (hh5 : (∀ p ∈ T1' ++ rest, p.1 ≠ d))
    (hh6 : @LT.lt Nat _ 44 d)
    (hh7 : Fresh T1 T1' rest) : PostI T1 rest n a K r news'
theorem endE {h₀ h' : Heap} {L D f c l x1 x2 x3 : Addr} {fo oc lo o1 o2 o3 : Obj} {m : Str → Option Value} {rest : Led} {s : Shared} {Q : Value → Shared → Prop} {n a : Int} {K : Nat} {vs : List Value} {ns : List Int} {nn : Nat} {tk : Nat} {vsc : Array Value} {tq : Tok} {ob : Obj}
    (hret : ∀ v news' h' tk', Fr h₀ L h' m → News h₀ L h' news' → PostI [(37, tabObj #[])] rest n a K v news' → Q v { s with heap := h', toks := tk' })
    (F : Fr h₀ L h' m) (N : News h₀ L h' ((f, fo) :: (c, oc) :: (D, listOf vs.toArray nn) :: (l, lo) :: (x3, o3) :: (x2, o2) :: (x1, o1) :: (37, tabObj (#[] ++ #[rawInt ((35 : Nat) : Int), rawInt ((4 : Nat) : Int), .ref c])) :: rest))
    (h44 : (44, ob) ∈ rest) (hcd : oc.data = .fields vsc) (hcv : vsc[1]? = some (.str qI tq)) (hI : IntsAre vs ns) (l2 : @LT.lt Nat _ D c) (l1 : AllLt D rest) (hn : ns = digs n a K) : Q (.ref D) { s with heap := h', toks := tk } := by
  have hD : @LT.lt Nat _ 44 D := ktn_ltOf l1 _ h44
  refine hret _ _ _ _ F (cb_drop N fun p hp => ?_) ⟨D, vs, nn, _, rfl, .made c oc vsc tq (Nat.lt_trans hD l2) hcd hcv, hn ▸ hI, rfl, fun p hp => ?_, hD, fun x hx => ?_⟩
  · simp only [List.cons_append, List.nil_append, List.mem_cons] at hp ⊢
    rcases hp with h | h | h | h <;> simp only [h, true_or, or_true]
  · simp only [List.cons_append, List.nil_append, List.mem_cons] at hp
    rcases hp with rfl | rfl | h
    · intro e; have e' : (37 : Nat) = D := e; omega
    · intro e; have e' : c = D := e; rw [e'] at l2; exact Nat.lt_irrefl _ l2
    · exact Nat.ne_of_lt (ktn_ltOf l1 p h)
  · rcases List.mem_cons.mp hx with rfl | hx
    · exact .inr (.inl (by show 37 ≤ 44; decide))
    · rw [List.mem_singleton.mp hx]
      exact .inr (.inr fun p hp => Nat.lt_trans (ktn_ltOf l1 p hp) l2)
theorem endM {h₀ h' : Heap} {L D f c l x1 x2 x3 : Addr} {fo oc lo o1 o2 o3 : Obj} {m : Str → Option Value} {rest : Led} {s : Shared} {Q : Value → Shared → Prop} {n a : Int} {K : Nat} {vs : List Value} {ns : List Int} {nn : Nat} {tk : Nat} {vsc : Array Value} {tq : Tok} {ob : Obj}
    (hret : ∀ v news' h' tk', Fr h₀ L h' m → News h₀ L h' news' → PostI [(37, tabObj (#[] ++ #[rawInt ((35 : Nat) : Int), rawInt ((4 : Nat) : Int), .ref c])), (c, oc)] rest n a K v news' → Q v { s with heap := h', toks := tk' })
    (F : Fr h₀ L h' m) (N : News h₀ L h' ((f, fo) :: (D, listOf vs.toArray nn) :: (l, lo) :: (x3, o3) :: (x2, o2) :: (x1, o1) :: (37, tabObj (#[] ++ #[rawInt ((35 : Nat) : Int), rawInt ((4 : Nat) : Int), .ref c])) :: (c, oc) :: rest))
    (h44 : (44, ob) ∈ rest) (hc : @LT.lt Nat _ 44 c) (hcd : oc.data = .fields vsc) (hcv : vsc[1]? = some (.str qI tq)) (hI : IntsAre vs ns) (l2 : @LT.lt Nat _ c D) (l1 : AllLt D rest) (hn : ns = digs n a K) : Q (.ref D) { s with heap := h', toks := tk } := by
  have hD : @LT.lt Nat _ 44 D := ktn_ltOf l1 _ h44
  refine hret _ _ _ _ F (cb_drop N fun p hp => ?_) ⟨D, vs, nn, _, rfl, .made c oc vsc tq hc hcd hcv, hn ▸ hI, rfl, fun p hp => ?_, hD, fun x hx => .inl hx⟩
  · simp only [List.cons_append, List.nil_append, List.mem_cons] at hp ⊢
    rcases hp with h | h | h | h <;> simp only [h, true_or, or_true]
  · simp only [List.cons_append, List.nil_append, List.mem_cons] at hp
    rcases hp with rfl | rfl | h
    · intro e; have e' : (37 : Nat) = D := e; omega
    · intro e; have e' : c = D := e; rw [e'] at l2; exact Nat.lt_irrefl _ l2
    · exact Nat.ne_of_lt (ktn_ltOf l1 p h)
set_option maxRecDepth 100000 in
set_option maxHeartbeats 8000000 in
theorem i2d (w : World) (a n : Int) (ta tn : Tok) (T1 rest : Led) (hT : TabIs 37 35 4 qI T1) (ha : 0 ≤ a) (hn : 1 ≤ n) (hN : n ≤ 1000000) (hsz : ((intBits a : Int) + n - 1).fdiv n ≤ 256) (hnl : n * ((intBits a : Int) + n - 1).fdiv n ≤ 1000000) (h37 : ∀ p ∈ rest, p.1 ≠ 37) (h44 : ∃ o, (44, o) ∈ rest) :
    DoesC w 42 [.int a ta, .int n tn] 10 80 (T1 ++ rest) (PostI T1 rest n a (((intBits a : Int) + n - 1).fdiv n).toNat) := by
  (k_with_none; w_top off)
  k_with "execs cons" => (k_here; (fail_if_success k_gentoks); (fail_if_success (with_reducible show wpAny _ _ (execs (Stmt.While _ _ _ _ :: _) _) _ _ _)); (fail_if_success (with_reducible show wpAny _ _ (execs (Stmt.For _ _ _ _ _ :: _) _) _ _ _)); (with_reducible refine execsQ ?_); intro Q9 hQ9)
  k_with "AtQ" => ((try dsimp only); first | ((with_reducible refine AtQ.next hQ9 ?_); clear hQ9; (try clear Q9)) | ((with_reducible refine AtQ.ret hQ9 ?_); clear hQ9; (try clear Q9); (try dsimp only)) | ((with_reducible refine AtQ.brk hQ9 ?_); clear hQ9; (try clear Q9); (try dsimp only)) | ((with_reducible refine AtQ.cont hQ9 ?_); clear hQ9; (try clear Q9); (try dsimp only)) | ((with_reducible refine AtQ.go hQ9 ?_); clear hQ9; (try clear Q9); (try dsimp only); (try k_fold)))
  k_with "k_all" => (tbn_letter; first | assumption | (refine' ne_mono ?h1u2 ?h2u2; (case h1u2 => tbn_find); (case h2u2 => omega)))
  k_with "ktrC_enter" => (refine' code_defC ?k1u3 ?k2u3 ?k3u3 ?k4u3 ?k5u3 ?kAu3 ?kFu3 ?kKu3 ?k6u3 ?k7u3 ?k8u3 ?k9u3 ?kBu3 ?kDu3 ?_ ?c2u3 ?c3u3 ?c4u3; (case kAu3 => exact rfl); (case kFu3 => exact rfl); (case kKu3 => assumption); (case k1u3 => k_asm); (case k2u3 => k_asm); (case k3u3 => k_asm); (case k4u3 => k_asm); (case k5u3 => k_asm); (case k6u3 => k_is); (case k7u3 => k_is); (case k8u3 => ktr_room); (case k9u3 => exact BindsTo.of_eq rfl); (case kBu3 => exact rfl); (case kDu3 => decide +kernel); (case c2u3 => exact rfl); (case c3u3 => exact rfl); (case c4u3 => exact rfl); k_whole; intro g' L' h' tk' cells' FG' F' N' Y' B' X' T' l1; (try k_lt l1); k_cells Y'; (try simp only [List.cons_append, List.nil_append] at N'); (try dsimp only); (try k_lift B'); (try k_fold))
  k_with "binaryOp Mult ref int" => (k_here; (with_reducible show wpAny _ _ (binaryOp Operator.Mult (Value.ref _) (Value.int _ _)) _ _ _); k_dflt (refine' mulz ?Fu4 ?Nu4 ?lu4 ?lou4 ?hiu4 ?_; (case Fu4 => k_asm); (case Nu4 => k_asm); (case lu4 => is_list); (case lou4 => omega); (case hiu4 => omega); k_whole); intro D' h' vs' hI' F' N' l1; (try k_lt l1); (try k_sweep))
  k_with "call builtin:len" => (k_here; (with_reducible show wpAny _ _ (call (Value.builtin _) [Value.ref _]) _ _ _); (with_unfolding_all refine' len_ints_fit ?k1u5 ?k2u5 ?k3u5 ?_; (case k1u5 => is_list); (case k2u5 => with_reducible assumption); (case k3u5 => assumption); k_whole))
  have hn0 : n ≠ 0 := by omega
  have hs0 : 0 ≤ ((intBits a : Int) + n - 1).fdiv n := by rw [fdiv_pos (by omega)]; exact Int.ediv_nonneg (by omega) (by omega)
  have hfit : (List.replicate (((intBits a : Int) + n - 1).fdiv n).toNat (0 : Int)).length < 2 ^ 62 := by rw [List.length_replicate]; omega
  have hnl' : n * ((((intBits a : Int) + n - 1).fdiv n).toNat : Int) ≤ 1000000 := by rw [Int.toNat_of_nonneg hs0]; exact hnl
  have hpre9 : a ≠ 0 → _ := fun h0 => preF_of (K := ((intBits a : Int) + n - 1).fdiv n) ha h0 hn rfl
  have hpz : a = 0 → List.replicate (((intBits a : Int) + n - 1).fdiv n).toNat (0 : Int) = digs n a (((intBits a : Int) + n - 1).fdiv n).toNat := fun h0 => by subst h0; rw [digs_zero]
  obtain ⟨o44, h44⟩ := h44
  unfold DoesC
  k_fill
  intro dp un gd cn cs aa ccd cl outer A₀ base h₀ L m p loose mean mg mb s Q E C1 C2 B F X N T hk hd hu hret
  cases hT with
  | empty =>
    simp only [List.cons_append, List.nil_append] at N
    refine wpAny_call ?_
    k_dflt walk_at "ktrC_enter"
    k_with "call ref" => (k_here; (with_reducible show wpAny _ _ (call (Value.ref _) [Value.int _ _, Value.int _ _, Value.int _ _]) _ _ _); (with_reducible refine genQ ?_); intro Q9 hQ9; k_dflt (refine' DoesC.use ?c1u6 ?c2u6 ?k1u6 ?k2u6 ?k3u6 ?k4u6 ?k5u6 ?kKu6 (innerU ?Uu6 ?hfu6 ?hcu6 ?hcdu6 ?hcvu6 ?hNu6 ?hNdu6 ?hIu6 ?hIdu6 ?hAu6 ?hAdu6 ?hnu6 ?hvsu6 ?hpreu6 ?hlru6 ?hnlu6) ?kdu6 ?kuu6 ?_; (case c1u6 => kn_code); (case c2u6 => kn_code); (case k1u6 => k_asm); (case k2u6 => k_asm); (case k3u6 => k_asm); (case k4u6 => k_asm); (case k5u6 => k_asm); (case kKu6 => first | exact rfl | assumption); (case hfu6 => k_mem); (case hAu6 => k_mem); (case hAdu6 => assumption); (case Uu6 => k_updF); (case hcu6 => k_mem); (case hcdu6 => assumption); (case hcvu6 => assumption); (case hNu6 => k_mem); (case hNdu6 => assumption); (case hIu6 => k_mem); (case hIdu6 => assumption); (case hnu6 => assumption); (case hvsu6 => assumption); (case hpreu6 => exact hpre9 (by assumption)); (case hlru6 => (simp only [List.length_replicate]; omega)); (case hnlu6 => (simp only [List.length_replicate]; assumption)); (case kdu6 => ktr_room); (case kuu6 => ktr_units); k_whole); intro r9 news9 h9 tk9 F9 N9 hp9; obtain ⟨e91, vs9, ns9, nn9, i9, f9, e92⟩ := hp9; subst e91; subst e92; (try dsimp only at N9))
    k_steps
    all_goals (refine' endE hret ?F ?N h44 ?e1 ?e2 ?e3 ?e4 ?e5 ?e6; (case N => assumption); (case F => assumption); (case e1 => assumption); (case e2 => assumption); (case e3 => assumption); (case e4 => omega); (case e5 => tbn_find); (case e6 => first | exact hpz (by assumption) | exact fill_digs' (by assumption)))
  | made c oc vsc tq hc44 hcd hcv =>
    simp only [List.cons_append, List.nil_append] at N
    refine wpAny_call ?_
    k_dflt walk_at "ktrC_enter"
    k_with "call ref" => (k_here; (with_reducible show wpAny _ _ (call (Value.ref _) [Value.int _ _, Value.int _ _, Value.int _ _]) _ _ _); (with_reducible refine genQ ?_); intro Q9 hQ9; k_dflt (refine' DoesC.use ?c1u7 ?c2u7 ?k1u7 ?k2u7 ?k3u7 ?k4u7 ?k5u7 ?kKu7 (innerU ?Uu7 ?hfu7 ?hcu7 ?hcdu7 ?hcvu7 ?hNu7 ?hNdu7 ?hIu7 ?hIdu7 ?hAu7 ?hAdu7 ?hnu7 ?hvsu7 ?hpreu7 ?hlru7 ?hnlu7) ?kdu7 ?kuu7 ?_; (case c1u7 => kn_code); (case c2u7 => kn_code); (case k1u7 => k_asm); (case k2u7 => k_asm); (case k3u7 => k_asm); (case k4u7 => k_asm); (case k5u7 => k_asm); (case kKu7 => first | exact rfl | assumption); (case hfu7 => k_mem); (case hAu7 => k_mem); (case hAdu7 => assumption); (case Uu7 => k_updF); (case hcu7 => k_mem); (case hcdu7 => assumption); (case hcvu7 => assumption); (case hNu7 => k_mem); (case hNdu7 => assumption); (case hIu7 => k_mem); (case hIdu7 => assumption); (case hnu7 => assumption); (case hvsu7 => assumption); (case hpreu7 => exact hpre9 (by assumption)); (case hlru7 => (simp only [List.length_replicate]; omega)); (case hnlu7 => (simp only [List.length_replicate]; assumption)); (case kdu7 => ktr_room); (case kuu7 => ktr_units); k_whole); intro r9 news9 h9 tk9 F9 N9 hp9; obtain ⟨e91, vs9, ns9, nn9, i9, f9, e92⟩ := hp9; subst e91; subst e92; (try dsimp only at N9))
    k_steps
    all_goals (refine' endM hret ?F ?N h44 hc44 hcd hcv ?e3 ?e4 ?e5 ?e6; (case N => assumption); (case F => assumption); (case e3 => assumption); (case e4 => omega); (case e5 => tbn_find); (case e6 => first | exact hpz (by assumption) | exact fill_digs' (by assumption)))
end Mine

end
-- part M5
section
open PySem PySem.W PyProof.Rows
namespace Mine
open Builtin (bitAnd bitOr bitXor)
open Builtin.Int (intBits)
noncomputable def valL (N : Nat) : List Int → Int
  | [] => 0
  | d :: r => d + 2 ^ N * valL N r
noncomputable def DigOk (N : Nat) (ns : List Int) : Prop := ∀ x ∈ ns, 0 ≤ x ∧ x < 2 ^ N
theorem valL_bnd {N : Nat} : ∀ {ns : List Int}, DigOk N ns → 0 ≤ valL N ns ∧ valL N ns < 2 ^ (N * ns.length)
  | [], _ => ⟨Int.le_refl _, by simp [valL]⟩
  | d :: r, h => by
    obtain ⟨i1, i2⟩ := valL_bnd (ns := r) fun x hx => h x (.tail _ hx)
    obtain ⟨d1, d2⟩ := h d (.head _)
    have hp := pow2_pos N
    refine ⟨Int.add_nonneg d1 (Int.mul_nonneg (Int.le_of_lt hp) i1), ?_⟩
    have e : N * (d :: r).length = N + N * r.length := by rw [List.length_cons, Nat.mul_add, Nat.mul_one, Nat.add_comm]
    rw [e, Int.pow_add]
    have : 2 ^ N * (valL N r + 1) ≤ 2 ^ N * 2 ^ (N * r.length) := Int.mul_le_mul_of_nonneg_left (by omega) (Int.le_of_lt hp)
    rw [Int.mul_add, Int.mul_one] at this
    show d + 2 ^ N * valL N r < _
    omega
theorem valL_append (N : Nat) : ∀ (a b : List Int), valL N (a ++ b) = valL N a + 2 ^ (N * a.length) * valL N b
  | [], b => by simp [valL]
  | d :: r, b => by
    have e : N * (d :: r).length = N + N * r.length := by rw [List.length_cons, Nat.mul_add, Nat.mul_one, Nat.add_comm]
    rw [List.cons_append, e, Int.pow_add]
    show d + 2 ^ N * valL N (r ++ b) = d + 2 ^ N * valL N r + _
    rw [valL_append N r b, Int.mul_add, Int.mul_assoc, Int.add_assoc]
noncomputable def seg (ns : List Int) (L R : Int) : List Int := (ns.drop L.toNat).take (R.toNat - L.toNat)
noncomputable def valS (n : Int) (ns : List Int) (L R : Int) : Int := valL n.toNat (seg ns L R)
theorem seg_length {ns : List Int} {L R : Int} (_h0 : 0 ≤ L) (h1 : L ≤ R) (h2 : R ≤ (ns.length : Int)) : (seg ns L R).length = R.toNat - L.toNat := by
  unfold seg
  rw [List.length_take, List.length_drop]
  exact Nat.min_eq_left (Nat.sub_le_sub_right (Int.toNat_le.mpr h2) _)
theorem seg_split {ns : List Int} {L M R : Int} (_h0 : 0 ≤ L) (h1 : L ≤ M) (h2 : M ≤ R) : seg ns L R = seg ns L M ++ seg ns M R := by
  unfold seg
  have a1 := Int.toNat_le_toNat h1
  have a2 := Int.toNat_le_toNat h2
  have e : R.toNat - L.toNat = (M.toNat - L.toNat) + (R.toNat - M.toNat) := by
    rw [Nat.add_comm]; exact (Nat.sub_add_sub_cancel a2 a1).symm
  rw [e, List.take_add, List.drop_drop, Nat.add_sub_of_le a1]
theorem seg_ok {N : Nat} {ns : List Int} (h : DigOk N ns) (L R : Int) : DigOk N (seg ns L R) := fun x hx => h x (List.mem_of_mem_drop (List.mem_of_mem_take hx))
theorem seg_one {ns : List Int} {L R : Int} (h0 : 0 ≤ L) (h1 : L + 1 = R) (h2 : R ≤ (ns.length : Int)) : seg ns L R = [ns.getD L.toNat 0] := by
  have hl : L.toNat < ns.length := by omega
  unfold seg
  have e : R.toNat - L.toNat = 1 := by omega
  have e2 : ns.getD L.toNat 0 = ns[L.toNat] := by simp [List.getD, hl]
  rw [e, e2, List.drop_eq_getElem_cons hl]
  rfl
theorem valS_one {n : Int} {ns : List Int} {L R : Int} (h0 : 0 ≤ L) (h1 : L + 1 = R) (h2 : R ≤ (ns.length : Int)) : valS n ns L R = ns.getD L.toNat 0 := by
  unfold valS
  rw [seg_one h0 h1 h2]
  simp [valL]
theorem seg_all (ns : List Int) : seg ns 0 (ns.length : Int) = ns := by
  unfold seg
  simp
structure PreV (n L R : Int) (ns : List Int) : Prop where
  hn : 1 ≤ n
  hL : 0 ≤ L
  hLR : L < R
  hR : R ≤ (ns.length : Int)
  hok : DigOk n.toNat ns
  hnl : n * ns.length ≤ 1000000
structure StepV (n L R M : Int) (ns : List Int) : Prop where
  s0 : 0 ≤ (M - L) * n
  s1 : (M - L) * n ≤ 1000000
  hmm : IntMulOk (M - L) n
  bu : intBits (valS n ns M R) ≤ 1000000
  lo : PreV n L M ns
  hi : PreV n M R ns
  fin : valS n ns M R * 2 ^ ((M - L) * n).toNat + valS n ns L M = valS n ns L R
theorem PreV.step {n L R : Int} {ns : List Int} (h : PreV n L R ns) (hne : ¬ L + 1 = R) : StepV n L R ((L + R).fdiv (2 ^ Int.toNat 1)) ns := by
  obtain ⟨hn, hL, hLR, hR, hok, hnl⟩ := h
  have hM : (L + R).fdiv (2 ^ Int.toNat 1) = (L + R) / 2 := fdiv_two _
  generalize (L + R).fdiv (2 ^ Int.toNat 1) = M at *
  have m1 : L < M := by omega
  have m2 : M < R := by omega
  clear hM hne
  have hS : ((M - L) * n).toNat = n.toNat * (M - L).toNat := toNat_mul (by omega) (by omega)
  have hl1 : 1 * (ns.length : Int) ≤ n * ns.length := Int.mul_le_mul_of_nonneg_right hn (by omega)
  have key : ∀ d : Int, 0 ≤ d → d ≤ ns.length → d * n ≤ 1000000 := fun d h0 h1 => by
    have : d * n ≤ ns.length * n := Int.mul_le_mul_of_nonneg_right h1 (by omega)
    rw [Int.mul_comm (ns.length : Int) n] at this
    omega
  refine ⟨Int.mul_nonneg (by omega) (by omega), key _ (by omega) (by omega), IntMulOk.of_left (intBits_le_64 (by omega) (by omega)), ?_, ⟨hn, hL, m1, by omega, hok, hnl⟩, ⟨hn, by omega, m2, hR, hok, hnl⟩, ?_⟩
  · obtain ⟨v0, v1⟩ := valL_bnd (seg_ok hok M R)
    refine bits_of_lt v0 v1 ?_
    rw [seg_length (by omega) (by omega) hR]
    have := key (R - M) (by omega) (by omega)
    have h2 := toNat_mul (a := R - M) (n := n) (by omega) (by omega)
    have h3 : (R - M).toNat = R.toNat - M.toNat := by omega
    rw [h3] at h2
    omega
  · show valL _ _ * _ + valL _ _ = valL _ _
    rw [seg_split hL (Int.le_of_lt m1) (Int.le_of_lt m2), valL_append, seg_length hL (by omega) (by omega), hS, Int.mul_comm (valL _ _), Int.add_comm]
    have h3 : (M - L).toNat = M.toNat - L.toNat := by omega
    rw [h3]
/-- most significant first -/
noncomputable def valM (N : Nat) (ds : List Int) : Int := ds.foldl (fun a d => a * 2 ^ N + d) 0
theorem valM_append (N : Nat) (ds : List Int) (d : Int) : valM N (ds ++ [d]) = valM N ds * 2 ^ N + d := by
  unfold valM; rw [List.foldl_append]; rfl
theorem valM_reverse (N : Nat) : ∀ ds : List Int, valM N ds.reverse = valL N ds
  | [] => rfl
  | d :: r => by
    rw [List.reverse_cons, valM_append, valM_reverse N r, Int.mul_comm, Int.add_comm]; rfl
theorem digs_ok (n a : Int) (k : Nat) : DigOk n.toNat (digs n a k) := by
  intro x hx
  obtain ⟨i, _, rfl⟩ := List.mem_map.mp hx
  exact ⟨Int.emod_nonneg _ (Int.ne_of_gt (pow2_pos _)), Int.emod_lt_of_pos _ (pow2_pos _)⟩
theorem valL_digs (n a : Int) : ∀ k : Nat, valL n.toNat (digs n a k) = a % 2 ^ (n.toNat * k)
  | 0 => by simp [digs, valL]
  | k + 1 => by
    have e : digs n a (k + 1) = digs n a k ++ [a / 2 ^ (n.toNat * k) % 2 ^ n.toNat] := by
      unfold digs; rw [List.range_succ, List.map_append]; rfl
    rw [e, valL_append, valL_digs n a k, digs_length]
    simp only [valL, Int.mul_zero, Int.add_zero]
    rw [Nat.mul_add, Nat.mul_one]
    generalize n.toNat * k = u
    have hp := pow2_pos u
    have hq := pow2_pos n.toNat
    have h1 := Int.emod_add_mul_ediv a (2 ^ u)
    have h2 := Int.emod_add_mul_ediv (a / 2 ^ u) (2 ^ n.toNat)
    have h3 := div_div_pow a u n.toNat
    have h4 := Int.emod_add_mul_ediv a (2 ^ (u + n.toNat))
    rw [h3] at h2
    have h5 : 2 ^ u * (a / 2 ^ u % 2 ^ n.toNat + 2 ^ n.toNat * (a / 2 ^ (u + n.toNat))) = 2 ^ u * (a / 2 ^ u) := by rw [h2]
    rw [Int.mul_add, ← Int.mul_assoc, ← Int.pow_add] at h5
    omega
/-- one turn of the long division -/
theorem turn_div {A b d : Int} {N : Nat} (hb : 0 < b) (hd : 0 ≤ d) (hd2 : d < 2 ^ N) :
    let x := A % b * 2 ^ N + d
    0 ≤ x ∧ x < b * 2 ^ N ∧ (A * 2 ^ N + d) / b = A / b * 2 ^ N + x / b ∧ (A * 2 ^ N + d) % b = x % b ∧ 0 ≤ x / b ∧ x / b < 2 ^ N := by
  intro x
  have hp := pow2_pos N
  have m0 := Int.emod_nonneg A (Int.ne_of_gt hb)
  have m1 := Int.emod_lt_of_pos A hb
  have x0 : 0 ≤ x := Int.add_nonneg (Int.mul_nonneg m0 (Int.le_of_lt hp)) hd
  have x1 : x < b * 2 ^ N := by
    have : (A % b + 1) * 2 ^ N ≤ b * 2 ^ N := Int.mul_le_mul_of_nonneg_right (by omega) (Int.le_of_lt hp)
    rw [Int.add_mul, Int.one_mul] at this
    show A % b * 2 ^ N + d < _
    omega
  have e : A * 2 ^ N + d = x + A / b * 2 ^ N * b := by
    have := Int.emod_add_ediv_mul A b
    have h2 : (A % b + A / b * b) * 2 ^ N = A * 2 ^ N := by rw [this]
    rw [Int.add_mul, Int.mul_right_comm] at h2
    show _ = A % b * 2 ^ N + d + _
    omega
  refine ⟨x0, x1, ?_, ?_, Int.ediv_nonneg x0 (Int.le_of_lt hb), Int.ediv_lt_of_lt_mul hb (by rw [Int.mul_comm (2 ^ N) b]; exact x1)⟩
  · rw [e, Int.add_mul_ediv_right _ _ (Int.ne_of_gt hb), Int.add_comm]
  · rw [e, Int.add_mul_emod_self_right]
end Mine

end
-- part G0
section
open PySem PySem.W PySem.Calls PyProof.Rows
namespace Mine
open Builtin.Int (intBits)
open Builtin (bitAnd bitOr bitXor)
noncomputable def InnerD (w : World) (n : Int) (ns : List Int) (f : Addr) (stat : Led) (j : Nat) : Prop :=
  ∀ (L R : Int) (tL tR : Tok), PreV n L R ns → R - L ≤ 2 ^ j →
    DoesC w f [.int L tL, .int R tR] (j + 1) (8 * j + 8) stat (fun r news' => (∃ t, r = .int (valS n ns L R) t) ∧ news' = stat)
set_option maxRecDepth 100000 in
set_option maxHeartbeats 2000000 in
theorem innerD (w : World) (n : Int) (f d cN cI cA c' : Addr) (qual : Str) (doc pm ct : Value) (oc oN oI oA : Obj) (vsc : Array Value) (tq tn : Tok) (stat : Led) (vs : List Value) (nn : Nat) (ns : List Int)
    (hf : (f, fnMade (Str.ofString "inner") qual inDP inDB inDS [(Str.ofString "n", cN), (Str.ofString "inner", cI), (Str.ofString "digits", cA)] doc pm c' ct) ∈ stat)
    (hc : (c', oc) ∈ stat) (hcd : oc.data = .fields vsc) (hcv : vsc[1]? = some (.str qual tq)) (hN : (cN, oN) ∈ stat) (hNd : oN.data = .cell (some (.int n tn)))
    (hI : (cI, oI) ∈ stat) (hId : oI.data = .cell (some (.ref f))) (hA : (cA, oA) ∈ stat) (hAd : oA.data = .cell (some (.ref d))) (hl : (d, listOf vs.toArray nn) ∈ stat) (hvs : IntsAre vs ns) : ∀ j, InnerD w n ns f stat j := by
  (k_with_none; w_top off)
  k_with "execs cons" => (k_here; (fail_if_success k_gentoks); (fail_if_success (with_reducible show wpAny _ _ (execs (Stmt.While _ _ _ _ :: _) _) _ _ _)); (fail_if_success (with_reducible show wpAny _ _ (execs (Stmt.For _ _ _ _ _ :: _) _) _ _ _)); (with_reducible refine execsQ ?_); intro Q9 hQ9)
  k_with "AtQ" => ((try dsimp only); first | ((with_reducible refine AtQ.next hQ9 ?_); clear hQ9; (try clear Q9)) | ((with_reducible refine AtQ.ret hQ9 ?_); clear hQ9; (try clear Q9); (try dsimp only)) | ((with_reducible refine AtQ.brk hQ9 ?_); clear hQ9; (try clear Q9); (try dsimp only)) | ((with_reducible refine AtQ.cont hQ9 ?_); clear hQ9; (try clear Q9); (try dsimp only)) | ((with_reducible refine AtQ.go hQ9 ?_); clear hQ9; (try clear Q9); (try dsimp only); (try k_fold)))
  k_with "k_mem" => assumption
  k_with "binaryOp LShift int int" => (k_here; (with_reducible refine lshift_int ?kbnu3 ?kbsu3 ?_); (case kbnu3 => first | assumption | decide); (case kbsu3 => (refine' kbm_shl ?kbau3 ?kbcu3 ?kbdu3; (case kbau3 => bits_by_make); (case kbcu3 => first | assumption | decide); (case kbdu3 => decide))))
  k_with "knR_enter" => (refine' code_nest ?k1u4 ?k2u4 ?k3u4 ?k4u4 ?k5u4 ?kAu4 ?kFu4 ?kKu4 ?k6u4 ?k7u4 ?k8u4 ?k9u4 ?kBu4 ?_ ?c2u4 ?c3u4 ?c4u4 ?c5u4; (case kAu4 => exact rfl); (case kFu4 => exact rfl); (case kKu4 => assumption); (case k1u4 => k_asm); (case k2u4 => k_asm); (case k3u4 => k_asm); (case k4u4 => k_asm); (case k5u4 => k_asm); (case k6u4 => k_mem); (case k7u4 => exact codeRec_news (by k_asm) (by k_mem) (by assumption) (by assumption)); (case k8u4 => ktr_room); (case k9u4 => exact BindsTo.of_eq rfl); (case c5u4 => decide); (case kBu4 => exact locs rfl); (case c2u4 => exact rfl); (case c3u4 => exact rfl); (case c4u4 => exact rfl); k_whole; intro g' L' h' FG' F' N' B' X' T'; (try dsimp only); (try k_lift B'); (try k_fold))
  k_with "binaryOp Mult int int" => (k_here; (with_reducible refine' PyProof.Rows.mul_int ?_ ?hmmu5); (case hmmu5 => assumption))
  unfold inDP inDB inDS at hf
  dsimp only at hf
  intro j
  induction j with
  | zero =>
    intro L R tL tR hpre hlr
    have hb1 : L + 1 = R := by have := hpre.hLR; rw [Int.pow_zero] at hlr; omega
    have hL0 := hpre.hL
    have hL1 : L < ns.length := by have := hpre.hR; omega
    have hL2 : L < 2 ^ 63 := by have := hpre.hR; have := hpre.hnl; have h1 : 1 * (ns.length : Int) ≤ n * ns.length := Int.mul_le_mul_of_nonneg_right hpre.hn (by omega); omega
    unfold DoesC
    k_fill
    intro dp un gd cn cs aa ccd cl outer A₀ base h₀ LL m p loose mean mg mb s Q E C1 C2 B F X N T hk hd hu hret
    refine wpAny_call ?_
    k_dflt walk_at "knR_enter"
    k_with "exec Assign" => (exfalso; clear hret; omega)
    k_steps
    all_goals exact hret _ _ _ _ (by assumption) (by assumption) ⟨⟨_, congrArg (fun z => Value.int z _) (valS_one hL0 hb1 hpre.hR).symm⟩, rfl⟩
  | succ j IH =>
    intro L R tL tR hpre hlr
    have hL0 := hpre.hL
    have hL1 : L < ns.length := by have := hpre.hR; have := hpre.hLR; omega
    have hL2 : L < 2 ^ 63 := by have := hpre.hR; have := hpre.hnl; have h1 : 1 * (ns.length : Int) ≤ n * ns.length := Int.mul_le_mul_of_nonneg_right hpre.hn (by omega); omega
    unfold DoesC
    k_fill
    intro dp un gd cn cs aa ccd cl outer A₀ base h₀ LL m p loose mean mg mb s Q E C1 C2 B F X N T hk hd hu hret
    refine wpAny_call ?_
    k_dflt walk_at "knR_enter"
    k_with "call ref" => (k_here; (with_reducible show wpAny _ _ (call (Value.ref _) [Value.int _ _, Value.int _ _]) _ _ _); (with_reducible refine genQ ?_); intro Q9 hQ9; k_dflt (refine' DoesC.use ?c1u7 ?c2u7 ?k1u7 ?k2u7 ?k3u7 ?k4u7 ?k5u7 ?kKu7 (IH _ _ _ _ ?kpreu7 ?klu7) ?kdu7 ?kuu7 ?_; (case c1u7 => kn_code); (case c2u7 => kn_code); (case k1u7 => k_asm); (case k2u7 => k_asm); (case k3u7 => k_asm); (case k4u7 => k_asm); (case k5u7 => k_asm); (case kKu7 => first | exact rfl | assumption); (case kdu7 => ktr_room); (case kuu7 => ktr_units); (case kpreu7 => assumption); (case klu7 => assumption); k_whole); intro r9 news9 h9 tk9 F9 N9 hp9; obtain ⟨⟨t9, e91⟩, e92⟩ := hp9; subst e91; subst e92)
    by_cases hb1 : L + 1 = R
    · k_with "exec Assign Name" => (exfalso; clear hret; omega)
      k_steps
      all_goals exact hret _ _ _ _ (by assumption) (by assumption) ⟨⟨_, congrArg (fun z => Value.int z _) (valS_one hL0 hb1 hpre.hR).symm⟩, rfl⟩
    · have hS := hpre.step hb1
      have g1 := hS.s0
      have g2 := hS.s1
      have g3 := hS.bu
      have g4 := hS.lo
      have g5 := hS.hi
      have hmm := hS.hmm
      have hp2 : (2 : Int) ^ (j + 1) = 2 * 2 ^ j := by rw [Int.pow_succ, Int.mul_comm]
      have hM := fdiv_two (L + R)
      have g6 : (L + R).fdiv (2 ^ Int.toNat 1) - L ≤ 2 ^ j := by omega
      have g7 : R - (L + R).fdiv (2 ^ Int.toNat 1) ≤ 2 ^ j := by omega
      k_steps
      all_goals first | exact absurd (by assumption) hb1 | exact hret _ _ _ _ (by assumption) (by assumption) ⟨⟨_, congrArg (fun z => Value.int z _) hS.fin⟩, rfl⟩
end Mine

end
-- part G1
section
open PySem PySem.W PySem.Calls PyProof.Rows
namespace Mine
open Builtin.Int (intBits)
open Builtin (bitAnd bitOr bitXor)
noncomputable abbrev PostD (T2 rest : Led) (v : Int) (r : Value) (news' : Led) : Prop := ∃ t T2', r = .int v t ∧ TabIs 44 50 4 qD T2' ∧ news' = T2' ++ rest ∧ Fresh T2 T2' rest
theorem endED {h₀ h' : Heap} {L f c x1 x2 x3 : Addr} {fo oc o1 o2 o3 : Obj} {m : Str → Option Value} {rest : Led} {s : Shared} {Q : Value → Shared → Prop} {v v' : Int} {t : Tok} {tk : Nat} {vsc : Array Value} {tq : Tok}
    (hret : ∀ r news' h' tk', Fr h₀ L h' m → News h₀ L h' news' → PostD [(44, tabObj #[])] rest v r news' → Q r { s with heap := h', toks := tk' })
    (F : Fr h₀ L h' m) (N : News h₀ L h' ((f, fo) :: (c, oc) :: (x3, o3) :: (x2, o2) :: (x1, o1) :: (44, tabObj (#[] ++ #[rawInt ((50 : Nat) : Int), rawInt ((4 : Nat) : Int), .ref c])) :: rest))
    (hcd : oc.data = .fields vsc) (hcv : vsc[1]? = some (.str qD tq)) (l2 : @LT.lt Nat _ 44 c) (l1 : AllLt c rest) (hn : v' = v) : Q (.int v' t) { s with heap := h', toks := tk } := by
  refine hret _ _ _ _ F (cb_drop N fun p hp => ?_) ⟨t, _, hn ▸ rfl, .made c oc vsc tq l2 hcd hcv, rfl, fun x hx => ?_⟩
  · simp only [List.cons_append, List.nil_append, List.mem_cons] at hp ⊢
    rcases hp with h | h | h <;> simp only [h, true_or, or_true]
  · rcases List.mem_cons.mp hx with rfl | hx
    · exact .inr (.inl (by show 44 ≤ 44; decide))
    · rw [List.mem_singleton.mp hx]
      exact .inr (.inr fun p hp => ktn_ltOf l1 p hp)
theorem endMD {h₀ h' : Heap} {L f c x1 x2 x3 : Addr} {fo oc o1 o2 o3 : Obj} {m : Str → Option Value} {rest : Led} {s : Shared} {Q : Value → Shared → Prop} {v v' : Int} {t : Tok} {tk : Nat} {vsc : Array Value} {tq : Tok}
    (hret : ∀ r news' h' tk', Fr h₀ L h' m → News h₀ L h' news' → PostD [(44, tabObj (#[] ++ #[rawInt ((50 : Nat) : Int), rawInt ((4 : Nat) : Int), .ref c])), (c, oc)] rest v r news' → Q r { s with heap := h', toks := tk' })
    (F : Fr h₀ L h' m) (N : News h₀ L h' ((f, fo) :: (x3, o3) :: (x2, o2) :: (x1, o1) :: (44, tabObj (#[] ++ #[rawInt ((50 : Nat) : Int), rawInt ((4 : Nat) : Int), .ref c])) :: (c, oc) :: rest))
    (hcd : oc.data = .fields vsc) (hcv : vsc[1]? = some (.str qD tq)) (l2 : @LT.lt Nat _ 44 c) (hn : v' = v) : Q (.int v' t) { s with heap := h', toks := tk } := by
  refine hret _ _ _ _ F (cb_drop N fun p hp => ?_) ⟨t, _, hn ▸ rfl, .made c oc vsc tq l2 hcd hcv, rfl, fun x hx => .inl hx⟩
  simp only [List.cons_append, List.nil_append, List.mem_cons] at hp ⊢
  rcases hp with h | h | h <;> simp only [h, true_or, or_true]
set_option maxRecDepth 100000 in
set_option maxHeartbeats 2000000 in
theorem d2i (w : World) (n : Int) (d : Addr) (vs : List Value) (nn : Nat) (ns : List Int) (tn : Tok) (T2 rest : Led) (hT : TabIs 44 50 4 qD T2) (hvs : IntsAre vs ns) (hdl : (d, listOf vs.toArray nn) ∈ rest) (hn : 1 ≤ n) (hok : DigOk n.toNat ns) (hlen : (ns.length : Int) ≤ 256) (hnl : n * ns.length ≤ 1000000)
   (h37 : ∀ p ∈ rest, p.1 ≠ 44) :
    DoesC w 49 [.ref d, .int n tn] 10 80 (T2 ++ rest) (PostD T2 rest (valL n.toNat ns)) := by
  (k_with_none; w_top off)
  k_with "execs cons" => (k_here; (fail_if_success k_gentoks); (fail_if_success (with_reducible show wpAny _ _ (execs (Stmt.While _ _ _ _ :: _) _) _ _ _)); (fail_if_success (with_reducible show wpAny _ _ (execs (Stmt.For _ _ _ _ _ :: _) _) _ _ _)); (with_reducible refine execsQ ?_); intro Q9 hQ9)
  k_with "AtQ" => ((try dsimp only); first | ((with_reducible refine AtQ.next hQ9 ?_); clear hQ9; (try clear Q9)) | ((with_reducible refine AtQ.ret hQ9 ?_); clear hQ9; (try clear Q9); (try dsimp only)) | ((with_reducible refine AtQ.brk hQ9 ?_); clear hQ9; (try clear Q9); (try dsimp only)) | ((with_reducible refine AtQ.cont hQ9 ?_); clear hQ9; (try clear Q9); (try dsimp only)) | ((with_reducible refine AtQ.go hQ9 ?_); clear hQ9; (try clear Q9); (try dsimp only); (try k_fold)))
  k_with "k_all" => (tbn_letter; first | assumption | (refine' ne_mono ?h1u2 ?h2u2; (case h1u2 => tbn_find); (case h2u2 => omega)))
  k_with "k_mem" => first | (refine' List.mem_cons_of_mem _ ?_; assumption) | (refine' List.mem_cons_of_mem _ (List.mem_cons_of_mem _ ?_); assumption) | (refine' List.mem_cons_of_mem _ (List.mem_cons_of_mem _ (List.mem_cons_of_mem _ ?_)); assumption) | (refine' List.mem_cons_of_mem _ (List.mem_cons_of_mem _ (List.mem_cons_of_mem _ (List.mem_cons_of_mem _ ?_))); assumption) | (refine' List.mem_cons_of_mem _ (List.mem_cons_of_mem _ (List.mem_cons_of_mem _ (List.mem_cons_of_mem _ (List.mem_cons_of_mem _ ?_)))); assumption) | (refine' List.mem_cons_of_mem _ (List.mem_cons_of_mem _ (List.mem_cons_of_mem _ (List.mem_cons_of_mem _ (List.mem_cons_of_mem _ (List.mem_cons_of_mem _ ?_))))); assumption)
  k_with "ktrC_enter" => (refine' code_defC ?k1u4 ?k2u4 ?k3u4 ?k4u4 ?k5u4 ?kAu4 ?kFu4 ?kKu4 ?k6u4 ?k7u4 ?k8u4 ?k9u4 ?kBu4 ?kDu4 ?_ ?c2u4 ?c3u4 ?c4u4; (case kAu4 => exact rfl); (case kFu4 => exact rfl); (case kKu4 => assumption); (case k1u4 => k_asm); (case k2u4 => k_asm); (case k3u4 => k_asm); (case k4u4 => k_asm); (case k5u4 => k_asm); (case k6u4 => k_is); (case k7u4 => k_is); (case k8u4 => ktr_room); (case k9u4 => exact BindsTo.of_eq rfl); (case kBu4 => exact rfl); (case kDu4 => decide +kernel); (case c2u4 => exact rfl); (case c3u4 => exact rfl); (case c4u4 => exact rfl); k_whole; intro g' L' h' tk' cells' FG' F' N' Y' B' X' T' l1; (try k_lt l1); k_cells Y'; (try simp only [List.cons_append, List.nil_append] at N'); (try dsimp only); (try k_lift B'); (try k_fold))
  k_with "call builtin:len" => (k_here; (with_reducible show wpAny _ _ (call (Value.builtin _) [Value.ref _]) _ _ _); (with_unfolding_all refine' len_ints_fit ?k1u5 ?k2u5 ?k3u5 ?_; (case k1u5 => exact News.isList (by k_asm) (by k_mem)); (case k2u5 => with_reducible assumption); (case k3u5 => assumption); k_whole))
  k_with "truthy ref" => (k_here; (with_reducible show wpAny _ _ (truthy (Value.ref _)) _ _ _); (with_unfolding_all refine' truthy_ints_fit ?k1u6 ?k2u6 ?k3u6 ?_; (case k1u6 => exact News.isList (by k_asm) (by k_mem)); (case k2u6 => with_reducible assumption); (case k3u6 => assumption); k_whole))
  have hfit : ns.length < 2 ^ 62 := by omega
  have hl256 : (ns.length : Int) - 0 ≤ 2 ^ 8 := by omega
  have hpre9 : 0 < ns.length → PreV n 0 (ns.length : Nat) ns := fun h => ⟨hn, Int.le_refl _, by omega, Int.le_refl _, hok, hnl⟩
  have hv : valS n ns 0 (ns.length : Nat) = valL n.toNat ns := by unfold valS; rw [seg_all]
  have hz : ¬ 0 < ns.length → 0 = valL n.toNat ns := fun h => by
    have : ns = [] := List.eq_nil_of_length_eq_zero (by omega)
    subst this; rfl
  unfold DoesC
  k_fill
  intro dp un gd cn cs aa ccd cl outer A₀ base h₀ L m p loose mean mg mb s Q E C1 C2 B F X N T hk hd hu hret
  cases hT with
  | empty =>
    simp only [List.cons_append, List.nil_append] at N
    refine wpAny_call ?_
    k_dflt walk_at "ktrC_enter"
    k_with "call ref" => (k_here; (with_reducible show wpAny _ _ (call (Value.ref _) [Value.int _ _, Value.int _ _]) _ _ _); (with_reducible refine genQ ?_); intro Q9 hQ9; k_dflt (refine' DoesC.use ?c1u7 ?c2u7 ?k1u7 ?k2u7 ?k3u7 ?k4u7 ?k5u7 ?kKu7 (innerD w n _ d _ _ _ _ _ _ _ _ _ _ _ _ _ _ _ _ vs nn ns ?hfu7 ?hcu7 ?hcdu7 ?hcvu7 ?hNu7 ?hNdu7 ?hIu7 ?hIdu7 ?hAu7 ?hAdu7 ?hlu7 hvs 8 _ _ _ _ ?hpreu7 ?hlru7) ?kdu7 ?kuu7 ?_; (case c1u7 => kn_code); (case c2u7 => kn_code); (case k1u7 => k_asm); (case k2u7 => k_asm); (case k3u7 => k_asm); (case k4u7 => k_asm); (case k5u7 => k_asm); (case kKu7 => first | exact rfl | assumption); (case hfu7 => k_mem); (case hAu7 => k_mem); (case hAdu7 => assumption); (case hcu7 => k_mem); (case hcdu7 => assumption); (case hcvu7 => assumption); (case hNu7 => k_mem); (case hNdu7 => assumption); (case hIu7 => k_mem); (case hIdu7 => assumption); (case hlu7 => k_mem); (case hpreu7 => exact hpre9 (by assumption)); (case hlru7 => assumption); (case kdu7 => ktr_room); (case kuu7 => ktr_units); k_whole); intro r9 news9 h9 tk9 F9 N9 hp9; obtain ⟨⟨t9, e91⟩, e92⟩ := hp9; subst e91; subst e92; (try dsimp only at N9))
    k_steps
    all_goals (refine' endED hret ?F ?N ?e1 ?e2 ?e4 ?e5 ?e6; (case N => assumption); (case F => assumption); (case e1 => assumption); (case e2 => assumption); (case e4 => omega); (case e5 => tbn_find); (case e6 => first | exact hv | exact hz (by assumption)))
  | made c oc vsc tq hc44 hcd hcv =>
    simp only [List.cons_append, List.nil_append] at N
    refine wpAny_call ?_
    k_dflt walk_at "ktrC_enter"
    k_with "call ref" => (k_here; (with_reducible show wpAny _ _ (call (Value.ref _) [Value.int _ _, Value.int _ _]) _ _ _); (with_reducible refine genQ ?_); intro Q9 hQ9; k_dflt (refine' DoesC.use ?c1u8 ?c2u8 ?k1u8 ?k2u8 ?k3u8 ?k4u8 ?k5u8 ?kKu8 (innerD w n _ d _ _ _ _ _ _ _ _ _ _ _ _ _ _ _ _ vs nn ns ?hfu8 ?hcu8 ?hcdu8 ?hcvu8 ?hNu8 ?hNdu8 ?hIu8 ?hIdu8 ?hAu8 ?hAdu8 ?hlu8 hvs 8 _ _ _ _ ?hpreu8 ?hlru8) ?kdu8 ?kuu8 ?_; (case c1u8 => kn_code); (case c2u8 => kn_code); (case k1u8 => k_asm); (case k2u8 => k_asm); (case k3u8 => k_asm); (case k4u8 => k_asm); (case k5u8 => k_asm); (case kKu8 => first | exact rfl | assumption); (case hfu8 => k_mem); (case hAu8 => k_mem); (case hAdu8 => assumption); (case hcu8 => k_mem); (case hcdu8 => assumption); (case hcvu8 => assumption); (case hNu8 => k_mem); (case hNdu8 => assumption); (case hIu8 => k_mem); (case hIdu8 => assumption); (case hlu8 => k_mem); (case hpreu8 => exact hpre9 (by assumption)); (case hlru8 => assumption); (case kdu8 => ktr_room); (case kuu8 => ktr_units); k_whole); intro r9 news9 h9 tk9 F9 N9 hp9; obtain ⟨⟨t9, e91⟩, e92⟩ := hp9; subst e91; subst e92; (try dsimp only at N9))
    k_steps
    all_goals (refine' endMD hret ?F ?N hcd hcv hc44 ?e6; (case N => assumption); (case F => assumption); (case e6 => first | exact hv | exact hz (by assumption)))
end Mine

end
-- part Loops
section
open PySem PySem.W PySem.Calls PyProof.Rows
namespace Mine
theorem unrPost_mono {h₀ : Heap} {L I : Addr} {s₁ : Shared} {it : Obj} {r r' : (Str → Option Value) → Led → Prop} {Q : Flow → Shared → Prop} {f : Flow} {s₂ : Shared}
    (h : UnrPost h₀ L s₁ I it r Q f s₂) (hr : ∀ m n, r m n → r' m n) : UnrPost h₀ L s₁ I it r' Q f s₂ := by
  have key : UnrEnd h₀ L s₁ I it r s₂ → UnrEnd h₀ L s₁ I it r' s₂ := fun ⟨h', tk, m', news', e, F, N, o, q⟩ => ⟨h', tk, m', news', e, F, N, o, hr _ _ q⟩
  cases f with
  | ret v => exact h
  | brk => exact h
  | next => exact key h
  | cont => exact key h
section
variable {prog : Program} {w : World} {A : Around} {E : Value → Shared → Prop} {s : Shared} {env : Env} {h₀ : Heap} {x : Str} {body : List Stmt} {Q : Flow → Shared → Prop}
theorem revJ {I : Addr} {lp : Addr × Obj} (J : List Value → (Str → Option Value) → Led → Prop)
    (turn : ∀ v r m news (it : Obj) h tk, J (v :: r) m news → it.cls = .type "list_reverseiterator" → Fr h₀ env.locals h (fun y => if y = x then some v else m y) → News h₀ env.locals h ((I, it) :: news) →
      wpAny (model prog w) A (execs body env) (UnrPost h₀ env.locals { s with heap := h, toks := tk } I it (fun m' n' => lp ∈ n' ∧ J r m' n') Q) E { s with heap := h, toks := tk })
    (done : ∀ m news h tk, J [] m news → Fr h₀ env.locals h m → News h₀ env.locals h news → Q .next { s with heap := h, toks := tk }) :
    ∀ vs m news, J vs m news → RevRest prog w A E h₀ env x body Q s I lp vs m news
  | [], m, news, j => RevRest.zero fun h tk F N => done m news h tk j F N
  | v :: r, m, news, j => RevRest.succ fun it h tk hit F N => wpAny_mono (turn v r m news it h tk j hit F N) (fun _ _ p => unrPost_mono p fun m' n' q => ⟨q.1, revJ J turn done r m' n' q.2⟩) fun _ _ e => e
theorem listJ {I : Addr} {lp : Addr × Obj} (J : List Value → (Str → Option Value) → Led → Prop)
    (turn : ∀ v r m news (it : Obj) h tk, J (v :: r) m news → it.cls = .type "list_iterator" → Fr h₀ env.locals h (fun y => if y = x then some v else m y) → News h₀ env.locals h ((I, it) :: news) →
      wpAny (model prog w) A (execs body env) (UnrPost h₀ env.locals { s with heap := h, toks := tk } I it (fun m' n' => lp ∈ n' ∧ J r m' n') Q) E { s with heap := h, toks := tk })
    (done : ∀ m news h tk, J [] m news → Fr h₀ env.locals h m → News h₀ env.locals h news → Q .next { s with heap := h, toks := tk }) :
    ∀ vs m news, J vs m news → ListRest prog w A E h₀ env x body Q s I lp vs m news
  | [], m, news, j => ListRest.zero fun h tk F N => done m news h tk j F N
  | v :: r, m, news, j => ListRest.succ fun it h tk hit F N => wpAny_mono (turn v r m news it h tk j hit F N) (fun _ _ p => unrPost_mono p fun m' n' q => ⟨q.1, listJ J turn done r m' n' q.2⟩) fun _ _ e => e
theorem rangeJ {I : Addr} {a : Int} {n : Nat} (J : Nat → (Str → Option Value) → Led → Prop)
    (turn : ∀ i m news h tk t, i < n → J i m news → Fr h₀ env.locals h (fun y => if y = x then some (.int (a + (i : Int)) t) else m y) → News h₀ env.locals h ((I, itR (a + ((i + 1 : Nat) : Int)) ((n : Int) - ((i + 1 : Nat) : Int))) :: news) →
      wpAny (model prog w) A (execs body env) (UnrPost h₀ env.locals { s with heap := h, toks := tk } I (itR (a + ((i + 1 : Nat) : Int)) ((n : Int) - ((i + 1 : Nat) : Int))) (fun m' n' => J (i + 1) m' n') Q) E { s with heap := h, toks := tk })
    (done : ∀ m news h tk, J n m news → Fr h₀ env.locals h m → News h₀ env.locals h news → Q .next { s with heap := h, toks := tk }) :
    ∀ k i m news, i + k = n → J i m news → RangeRest prog w A E h₀ env x body Q s I a n k i m news
  | 0, i, m, news, e, j => RangeRest.zero fun h tk F N => done m news h tk (by obtain rfl : i = n := e; exact j) F N
  | k + 1, i, m, news, e, j => RangeRest.succ fun t h tk F N => wpAny_mono (turn i m news h tk t (by omega) j F N) (fun _ _ p => unrPost_mono p fun m' n' q => rangeJ J turn done k (i + 1) m' n' (by omega) q) fun _ _ e => e
theorem strJ {I : Addr} (J : List Str → (Str → Option Value) → Led → Prop)
    (turn : ∀ c r m news (u : Tok) (it : Obj) h tk, J (c :: r) m news → Fr h₀ env.locals h (fun y => if y = x then some (.str c u) else m y) → News h₀ env.locals h ((I, it) :: news) →
      wpAny (model prog w) A (execs body env) (UnrPost h₀ env.locals { s with heap := h, toks := tk } I it (fun m' n' => J r m' n') Q) E { s with heap := h, toks := tk })
    (done : ∀ m news h tk, J [] m news → Fr h₀ env.locals h m → News h₀ env.locals h news → Q .next { s with heap := h, toks := tk }) :
    ∀ l m news, J l m news → StrRest prog w A E h₀ env x body Q s I l m news
  | [], m, news, j => StrRest.zero fun h tk F N => done m news h tk j F N
  | c :: r, m, news, j => StrRest.succ fun u it h tk F N => wpAny_mono (turn c r m news u it h tk j F N) (fun _ _ p => unrPost_mono p fun m' n' q => strJ J turn done r m' n' q) fun _ _ e => e
end
/-- a contract over a smaller ledger -/
theorem DoesC.sub {w : World} {f : Addr} {vs : List Value} {dN uN : Nat} {news news₁ : Led} {post : Value → Led → Prop} (C : DoesC w f vs dN uN news post) (h : ∀ p ∈ news, p ∈ news₁) : DoesC w f vs dN uN news₁ post :=
  fun dp un gd cn cs a ccd cl outer A₀ base h₀ L m p loose mean mg mb s Q E C1 C2 B F X N T hk hD hU ret => C.use C1 C2 B F X (cb_drop N h) T hk hD hU ret
theorem Does.toC {w : World} {f : Addr} {vs : List Value} {dN uN : Nat} {news : Led} {post : Value → Led → Prop} (C : Does w f vs dN uN news post) : DoesC w f vs dN uN news post :=
  fun dp un gd cn cs a ccd cl outer A₀ base h₀ L m p loose mean mg mb s Q E _ _ B F X N T hk hD hU ret => C.use B F X N T hk hD hU ret
end Mine

end
-- part P1
section
open PySem PySem.W PySem.Calls PyProof.Rows
namespace Mine
open Builtin.Int (intBits)
open Builtin (bitAnd bitOr bitXor)
theorem ints_cons {v : Value} {r : List Value} {ns : List Int} (h : IntsAre (v :: r) ns) : ∃ d t ns', v = .int d t ∧ ns = d :: ns' ∧ IntsAre r ns' := by
  cases h with
  | cons d t h => exact ⟨d, t, _, rfl, rfl, h⟩
theorem offI_of {I : Addr} {it : Obj} : ∀ {l : Led}, (∀ p ∈ l, p.1 ≠ I) → OffI I it l
  | [], _ => trivial
  | p :: r, h => ⟨.inl (h p (.head _)), offI_of fun q hq => h q (.tail _ hq)⟩
/-- what holds between two turns of the long division -/
inductive JD (N : Nat) (all : List Int) (b : Int) (m₀ : Str → Option Value) (dq : Addr) (stat : Led) (vs : List Value) (m : Str → Option Value) (news : Led) : Prop
  | mk (ns ps qs : List Int) (qvs : List Value) (nn : Nat) (u1 u2 : Option Value) (t : Tok)
    (hh1 : IntsAre vs ns)
    (hh2 : all = ps ++ ns)
    (hh3 : IntsAre qvs qs)
    (hh4 : qs.length = ps.length)
    (hh5 : DigOk N qs)
    (hh6 : valM N qs = valM N ps / b)
    (hh7 : news = (dq, listOf qvs.toArray nn) :: stat)
    (hh8 : m = fun z => if z = Str.ofString "r" then some (.int (valM N ps % b) t) else if z = Str.ofString "q_digit" then u1 else if z = Str.ofString "a_digit" then u2 else m₀ z) : JD N all b m₀ dq stat vs m news
theorem JD.start {N : Nat} {all : List Int} {b : Int} {m₀ : Str → Option Value} {dq : Addr} {stat : Led} {vs : List Value} {t : Tok} (hI : IntsAre vs all) (hr : m₀ (Str.ofString "r") = some (.int 0 t)) (hq : m₀ (Str.ofString "q_digit") = none) (ha : m₀ (Str.ofString "a_digit") = none) :
    JD N all b m₀ dq stat vs m₀ ((dq, listOf #[] 0) :: stat) := by
  refine ⟨all, [], [], [], 0, none, none, t, hI, rfl, .nil, rfl, (fun _ h => nomatch h), ?_, rfl, ?_⟩
  · show (0 : Int) = 0 / b
    rw [Int.zero_ediv]
  · funext z
    by_cases h1 : z = Str.ofString "r"
    · rw [if_pos h1, h1, hr]
      have : valM N [] % b = 0 := Int.zero_emod b
      rw [this]
    · rw [if_neg h1]
      by_cases h2 : z = Str.ofString "q_digit"
      · rw [if_pos h2, h2, hq]
      · rw [if_neg h2]
        by_cases h3 : z = Str.ofString "a_digit"
        · rw [if_pos h3, h3, ha]
        · rw [if_neg h3]
/-- what one turn needs -/
structure TurnD (b d A : Int) : Prop where
  g1 : 0 ≤ (intBits b : Int)
  g2 : (intBits b : Int) ≤ 1000000
  g3 : intBits (A % b) ≤ 32000
  g4 : Pre2 (A % b * 2 ^ (intBits b : Int).toNat + d) b (intBits b)
  g5 : (intBits b : Int) ≤ 4000 * 2 ^ 3
theorem bits_pow {b : Int} (hb : 0 < b) : 2 ^ (intBits b - 1) ≤ b ∧ b < 2 ^ intBits b ∧ 1 ≤ intBits b := by
  have h2 := lt_of_bits (Nat.le_refl (intBits b))
  have h0 : intBits b = b.natAbs.log2 + 1 := by
    unfold intBits
    rw [if_neg (by simp; omega)]
  refine ⟨?_, h2, by omega⟩
  rw [h0, Nat.add_sub_cancel, ← kbt_cast]
  have := Nat.log2_self_le (n := b.natAbs) (by omega)
  omega
theorem turnD {b d A : Int} (hb : 0 < b) (hbb : intBits b ≤ 32000) (hd : 0 ≤ d) (hd2 : d < 2 ^ intBits b) : TurnD b d A := by
  obtain ⟨h1, h2, h3⟩ := bits_pow hb
  have m0 := Int.emod_nonneg A (Int.ne_of_gt hb)
  have m1 := Int.emod_lt_of_pos A hb
  obtain ⟨x0, x1, _⟩ := turn_div (A := A) hb hd hd2
  refine ⟨by omega, by omega, bits_of_lt m0 (Int.lt_trans m1 h2) hbb, ⟨?_, by omega, by omega, ?_, ?_, ?_⟩, by omega⟩
  · rw [Int.toNat_natCast]; exact x0
  · have e : ((intBits b : Int) - 1).toNat = intBits b - 1 := by omega
    rw [e]; exact h1
  · rw [Int.toNat_natCast]; exact h2
  · rw [Int.toNat_natCast]; exact x1
theorem unrEnd_JD {h₀ h' : Heap} {L I dq T : Addr} {it tp : Obj} {m' m₀ : Str → Option Value} {all ps qs ns1 : List Int} {N : Nat} {b d : Int} {stat : Led} {qvs r : List Value} {nn tk : Nat} {s₁ : Shared} {lp : Addr × Obj} {t91 t92 : Tok}
    (Nw : News h₀ L h' ((T, tp) :: (I, it) :: (dq, listOf (qvs.toArray.push (.int ((valM N ps % b * 2 ^ (N : Int).toNat + d) / b) t91)) (nn + 1)) :: stat))
    (F : Fr h₀ L h' m') (h1 : m' (Str.ofString "r") = some (.int ((valM N ps % b * 2 ^ (N : Int).toNat + d) % b) t92))
    (hb : 0 < b) (hd1 : 0 ≤ d) (hd2 : d < 2 ^ N) (hall : all = ps ++ d :: ns1) (hI1 : IntsAre r ns1) (hq : IntsAre qvs qs) (hlen : qs.length = ps.length) (hok : DigOk N qs) (hval : valM N qs = valM N ps / b)
    (h2 : ∀ z, ¬ z = Str.ofString "r" → ¬ z = Str.ofString "q_digit" → ¬ z = Str.ofString "a_digit" → m' z = m₀ z)
    (hoff : ∀ p ∈ stat, p.1 ≠ I) (hne : dq ≠ I) (hlp : lp ∈ stat) : UnrEnd h₀ L s₁ I it (fun m' n' => lp ∈ n' ∧ JD N all b m₀ dq stat r m' n') { s₁ with heap := h', toks := tk } := by
  obtain ⟨x0, x1, x2, x3, x4, x5⟩ := turn_div (A := valM N ps) hb hd1 hd2
  rw [Int.toNat_natCast] at Nw h1
  refine UnrEnd.intro F Nw ((dq, listOf (qvs.toArray.push (.int ((valM N ps % b * 2 ^ N + d) / b) t91)) (nn + 1)) :: stat) (fun p hp => ?_) (fun p hp => ?_) ⟨.tail _ hlp, ns1, ps ++ [d], qs ++ [(valM N ps % b * 2 ^ N + d) / b], qvs ++ [.int ((valM N ps % b * 2 ^ N + d) / b) t91], nn + 1, m' (Str.ofString "q_digit"), m' (Str.ofString "a_digit"), t92, hI1, ?_, ?_, ?_, ?_, ?_, ?_, ?_⟩
  · exact .tail _ hp
  · rcases List.mem_cons.mp hp with rfl | hp
    · exact hne
    · exact hoff p hp
  · rw [hall, List.append_assoc]; rfl
  · exact IntsAre.append hq (.cons _ _ .nil)
  · rw [List.length_append, List.length_append, hlen]; rfl
  · intro x hx
    rcases List.mem_append.mp hx with hx | hx
    · exact hok x hx
    · rw [List.mem_singleton.mp hx]; exact ⟨x4, x5⟩
  · rw [valM_append, valM_append, hval, x2]
  · simp
  · funext z
    by_cases e1 : z = Str.ofString "r"
    · rw [if_pos e1, e1, h1, valM_append, x3]
    · rw [if_neg e1]
      by_cases e2 : z = Str.ofString "q_digit"
      · rw [if_pos e2, e2]
      · rw [if_neg e2]
        by_cases e3 : z = Str.ofString "a_digit"
        · rw [if_pos e3, e3]
        · rw [if_neg e3, h2 z e1 e2 e3]
theorem all_digits {a b : Int} {ps ns : List Int} (ha : 0 ≤ a) (hb : 0 < b) (h : (digs (intBits b : Int) a (((intBits a : Int) + intBits b - 1).fdiv (intBits b)).toNat).reverse = ps ++ ns) (hn : IntsAre [] ns) : valM (intBits b) ps = a := by
  obtain rfl : ns = [] := by cases hn; rfl
  rw [List.append_nil] at h
  rw [← h, valM_reverse]
  have e := valL_digs (intBits b : Int) a (((intBits a : Int) + intBits b - 1).fdiv (intBits b)).toNat
  rw [Int.toNat_natCast] at e
  rw [e]
  by_cases h0 : a = 0
  · rw [h0, Int.zero_emod]
  · have hp := preF_of (n := (intBits b : Int)) ha h0 (by have := (bits_pow hb).2.2; omega) rfl
    have hl := hp.hlt
    rw [List.length_replicate, Int.toNat_natCast] at hl
    exact Int.emod_eq_of_lt ha (by
      have : ((((((intBits a : Int) + intBits b - 1).fdiv (intBits b)).toNat : Nat) : Int) - 0).toNat = (((intBits a : Int) + intBits b - 1).fdiv (intBits b)).toNat := by omega
      rw [this] at hl; exact hl)
theorem digit_of {n a : Int} {k : Nat} {ps ns : List Int} {d : Int} {N : Nat} (hN : n.toNat = N) (h : (digs n a k).reverse = ps ++ d :: ns) : 0 ≤ d ∧ d < 2 ^ N := by
  rw [← hN]
  refine digs_ok n a k d (List.mem_reverse.mp ?_)
  rw [h]; simp
theorem sz_of {qvs : List Value} {qs : List Int} {K : Int} (h : qs.length ≤ K.toNat) (hq : IntsAre qvs qs) (hK : K ≤ 256) : qvs.toArray.toList.length ≤ sizeLine := by
  have := hq.length
  rw [sizeLine_eq]
  show qvs.length ≤ _
  omega
theorem len_of {n a : Int} {k : Nat} {ps ns qs : List Int} (h : (digs n a k).reverse = ps ++ ns) (hl : qs.length = ps.length) : qs.length ≤ k := by
  have := congrArg List.length h
  rw [List.length_reverse, digs_length, List.length_append] at this
  omega
inductive PostQ (T1 T2 rest : Led) (q r : Int) (v : Value) (news' : Led) : Prop
  | mk (d : Addr) (t1 : Tok) (t2 : Tok) (T1' : Led) (T2' : Led)
    (hh1 : v = .ref d)
    (hh2 : TabIs 37 35 4 qI T1')
    (hh3 : TabIs 44 50 4 qD T2')
    (hh4 : news' = (d, tupO [.int q t1, .int r t2]) :: (T1' ++ (T2' ++ rest)))
    (hh5 : (∀ p ∈ T1' ++ (T2' ++ rest), p.1 < d))
    (hh6 : Fresh T1 T1' rest)
    (hh7 : Fresh T2 T2' rest) : PostQ T1 T2 rest q r v news'
noncomputable abbrev PostP (T1 T2 rest : Led) (a b : Int) (r : Value) (news' : Led) : Prop := PostQ T1 T2 rest (a / b) (a % b) r news'
theorem TabIs.ne {P : Addr} {l c : Nat} {q : Str} {T : Led} (h : TabIs P l c q T) {X : Addr} (hP : P ≠ X) (hX : @LE.le Nat _ X 44) : ∀ p ∈ T, p.1 ≠ X := by
  cases h with
  | empty => intro p hp; rw [List.mem_singleton.mp hp]; exact hP
  | made c oc vs t h1 h2 h3 =>
    intro p hp
    rcases List.mem_cons.mp hp with rfl | hp
    · exact hP
    · rw [List.mem_singleton.mp hp]
      intro e
      have e' : c = X := e
      rw [e'] at h1
      exact absurd (Nat.lt_of_lt_of_le h1 hX) (Nat.lt_irrefl _)
theorem okR {b : Int} {qs : List Int} (h : DigOk (intBits b) qs) : DigOk ((intBits b : Int)).toNat qs.reverse := fun x hx => by
  rw [Int.toNat_natCast]; exact h x (List.mem_reverse.mp hx)
theorem nlR {qs : List Int} {n K : Int} (h : qs.length ≤ K.toNat) (hK : 0 ≤ K) (hn : n * K ≤ 1000000) (h0 : 0 ≤ n) : n * (qs.length : Int) ≤ 1000000 := by
  have : n * (qs.length : Int) ≤ n * K := Int.mul_le_mul_of_nonneg_left (by omega) h0
  omega
theorem subD {T19 T2 rest : Led} {x y : Addr × Obj} : ∀ p ∈ T2 ++ x :: (T19 ++ rest), p ∈ x :: y :: (T19 ++ (T2 ++ rest)) := by
  intro p hp
  simp only [List.mem_append, List.mem_cons] at hp ⊢
  rcases hp with h | h | h | h <;> simp [h]
theorem neD {T19 rest : Led} {x : Addr × Obj} (hT : TabIs 37 35 4 qI T19) (hx : @LT.lt Nat _ 44 x.1) (h : ∀ p ∈ rest, p.1 ≠ 44) : ∀ p ∈ x :: (T19 ++ rest), p.1 ≠ 44 := by
  intro p hp
  rcases List.mem_cons.mp hp with rfl | hp
  · exact Nat.ne_of_gt hx
  · rcases List.mem_append.mp hp with hp | hp
    · exact hT.ne (by decide) (Nat.le_refl 44) p hp
    · exact h p hp
theorem endP {h₀ h' : Heap} {L D : Addr} {x : Addr × Obj} {m : Str → Option Value} {T1 T2 rest T10 T20 : Led} {s : Shared} {Q : Value → Shared → Prop} {a b q r : Int} {t1 t2 : Tok} {tk : Nat}
    (hret : ∀ v news' h' tk', Fr h₀ L h' m → News h₀ L h' news' → PostP T10 T20 rest a b v news' → Q v { s with heap := h', toks := tk' })
    (N : News h₀ L h' ((D, tupO [.int q t1, .int r t2]) :: (T2 ++ (x :: (T1 ++ rest))))) (F : Fr h₀ L h' m) (hT1 : TabIs 37 35 4 qI T1) (hT2 : TabIs 44 50 4 qD T2) (hq : q = a / b) (hr : r = a % b) (l1 : ∀ p ∈ T2 ++ (x :: (T1 ++ rest)), p.1 < D) (f1 : Fresh T10 T1 (T20 ++ rest)) (f2 : Fresh T20 T2 (x :: (T1 ++ rest))) :
    Q (.ref D) { s with heap := h', toks := tk } := by
  subst hq; subst hr
  have key : ∀ p ∈ T1 ++ (T2 ++ rest), p ∈ T2 ++ (x :: (T1 ++ rest)) := by
    intro p hp
    simp only [List.mem_append, List.mem_cons] at hp ⊢
    rcases hp with h | h | h <;> simp [h]
  refine hret _ _ _ _ F (cb_drop N fun p hp => ?_) ⟨D, t1, t2, T1, T2, rfl, hT1, hT2, rfl, fun p hp => l1 p (key p hp), f1.sub fun p hp => List.mem_append_right _ hp, f2.sub fun p hp => .tail _ (List.mem_append_right _ hp)⟩
  rcases List.mem_cons.mp hp with rfl | hp
  · exact .head _
  · exact .tail _ (key p hp)
set_option maxRecDepth 100000 in
set_option maxHeartbeats 2000000 in
theorem dmp (w : World) (a b : Int) (ta tb : Tok) (T1 T2 rest : Led) (hT1 : TabIs 37 35 4 qI T1) (hT2 : TabIs 44 50 4 qD T2) (ha : 0 ≤ a) (hb : 0 < b) (hbb : intBits b ≤ 32000)
    (hab : intBits a ≤ 900000) (hsz : ((intBits a : Int) + intBits b - 1).fdiv (intBits b) ≤ 256) (h37 : ∀ p ∈ T2 ++ rest, p.1 ≠ 37) (h44 : ∀ p ∈ rest, p.1 ≠ 44) :
    DoesC w 56 [.int a ta, .int b tb] 12 160 (T1 ++ (T2 ++ rest)) (PostP T1 T2 rest a b) := by
  (k_with_none; w_top off)
  k_with "execs cons" => (k_here; (fail_if_success k_gentoks); (fail_if_success (with_reducible show wpAny _ _ (execs (Stmt.While _ _ _ _ :: _) _) _ _ _)); (fail_if_success (with_reducible show wpAny _ _ (execs (Stmt.For _ _ _ _ _ :: _) _) _ _ _)); (with_reducible refine execsQ ?_); intro Q9 hQ9)
  k_with "AtQ" => ((try dsimp only); first | ((with_reducible refine AtQ.next hQ9 ?_); clear hQ9; (try clear Q9)) | ((with_reducible refine AtQ.ret hQ9 ?_); clear hQ9; (try clear Q9); (try dsimp only)) | ((with_reducible refine AtQ.brk hQ9 ?_); clear hQ9; (try clear Q9); (try dsimp only)) | ((with_reducible refine AtQ.cont hQ9 ?_); clear hQ9; (try clear Q9); (try dsimp only)) | ((with_reducible refine AtQ.go hQ9 ?_); clear hQ9; (try clear Q9); (try dsimp only); (try k_fold)))
  k_with "k_all" => (tbn_letter; first | assumption | (refine' ne_mono ?h1u2 ?h2u2; (case h1u2 => tbn_find); (case h2u2 => omega)))
  k_with "binaryOp LShift int int" => (k_here; (with_reducible refine lshift_int ?kbnu3 ?kbsu3 ?_); (case kbnu3 => first | assumption | decide); (case kbsu3 => (refine' kbm_shl ?kbau3 ?kbcu3 ?kbdu3; (case kbau3 => bits_by_make); (case kbcu3 => first | assumption | decide); (case kbdu3 => decide))))
  k_with "call builtin:list.append" => (k_here; (with_reducible show wpAny _ _ (call (Value.builtin _) [Value.ref _, _]) _ _ _); k_dflt (refine' append_K ?k1u4 ?k2u4 ?k3u4 ?_ ?zu4; (case k1u4 => k_asm); (case k2u4 => k_asm); (case k3u4 => k_upd); (case zu4 => assumption); k_whole); intro h' F' N'; (try k_sweep))
  k_with "call builtin:list.reverse" => (k_here; (with_reducible show wpAny _ _ (call (Value.builtin _) [Value.ref _]) _ _ _); k_dflt (refine' kl_reverse (l := List.reverse _) ?Fu5 ?Nu5 ?eu5 ?Uu5 ?zu5 ?_; (case Fu5 => k_asm); (case Nu5 => k_asm); (case Uu5 => k_upd); (case eu5 => exact rfl); (case zu5 => assumption); k_whole); intro h' F' N'; (try k_sweep))
  k_with "UnrEnd" => (k_dflt (refine' unrEnd_JD ?Nu6 ?Fu6 ?h1u6 ?bu6 ?d1u6 ?d2u6 ?alu6 ?i1u6 ?qu6 ?leu6 ?oku6 ?vau6 ?h2u6 ?ofu6 ?neu6 ?lpu6; (case Nu6 => assumption); (case Fu6 => assumption); (case h1u6 => exact rfl); (case bu6 => assumption); (case d1u6 => assumption); (case d2u6 => assumption); (case alu6 => assumption); (case i1u6 => assumption); (case qu6 => assumption); (case leu6 => assumption); (case oku6 => assumption); (case vau6 => assumption); (case h2u6 => (intro z9 a9 b9 c9; simp only [if_neg a9, if_neg b9, if_neg c9])); (case ofu6 => k_all); (case neu6 => k_ne); (case lpu6 => exact List.mem_cons_self ..)))
  have q0 := bits_pow hb
  have q1 : 1 ≤ (intBits b : Int) := by omega
  have q2 : (intBits b : Int) ≤ 1000000 := by omega
  have hK0 : 0 ≤ ((intBits a : Int) + intBits b - 1).fdiv (intBits b) := by rw [fdiv_pos (by omega)]; exact Int.ediv_nonneg (by omega) (by omega)
  have q3 : (intBits b : Int) * ((intBits a : Int) + intBits b - 1).fdiv (intBits b) ≤ 1000000 := by
    rw [fdiv_pos (by omega)]
    have h1 := Int.mul_ediv_self_le (x := (intBits a : Int) + intBits b - 1) (k := (intBits b : Int)) (by omega)
    omega
  have q4 : ∃ o, (44, o) ∈ T2 ++ rest := by
    cases hT2 with
    | empty => exact ⟨_, .head _⟩
    | made c oc vs t h1 h2 h3 => exact ⟨_, .head _⟩
  unfold DoesC
  k_fill
  intro dp un gd cn cs aa ccd cl outer A₀ base h₀ L m p loose mean mg mb s Q E C1 C2 B F X N T hk hd hu hret
  refine wpAny_call ?_
  k_dflt ktr_enter
  k_with "call ref" => (k_here; (with_reducible show wpAny _ _ (call (Value.ref 42) _) _ _ _); (with_reducible refine genQ ?_); intro Q9 hQ9; k_dflt (refine' DoesC.use ?c1u7 ?c2u7 ?k1u7 ?k2u7 ?k3u7 ?k4u7 ?k5u7 ?kKu7 (i2d w a _ ta _ T1 (T2 ++ rest) hT1 ha ?p1u7 ?p2u7 hsz ?p3u7 h37 ?p4u7) ?kdu7 ?kuu7 ?_; (case c1u7 => kn_code); (case c2u7 => kn_code); (case k1u7 => k_asm); (case k2u7 => k_asm); (case k3u7 => k_asm); (case k4u7 => k_asm); (case k5u7 => k_asm); (case kKu7 => first | exact rfl | assumption); (case kdu7 => ktr_room); (case kuu7 => ktr_units); (case p1u7 => exact q1); (case p2u7 => exact q2); (case p3u7 => exact q3); (case p4u7 => exact q4); k_whole); intro r9 news9 h9 tk9 F9 N9 hp9; obtain ⟨d9, vs9, nn9, T19, e91, hT9, i9, e92, l9, l8, hfr1⟩ := hp9; subst e91; subst e92)
  k_with "call ref" => (k_here; (with_reducible show wpAny _ _ (call (Value.ref 49) _) _ _ _); (with_reducible refine genQ ?_); intro Q9 hQ9; k_dflt (refine' DoesC.use ?c1u8 ?c2u8 ?k1u8 ?k2u8 ?k3u8 ?k4u8 ?k5u8 ?kKu8 (DoesC.sub (d2i w _ _ qvs.reverse _ qs.reverse _ T2 (_ :: (T19 ++ rest)) hT2 ?vsu8 (List.mem_cons_self ..) ?hnu8 ?oku8 ?leu8 ?nlu8 ?neu8) subD) ?kdu8 ?kuu8 ?_; (case c1u8 => kn_code); (case c2u8 => kn_code); (case k1u8 => k_asm); (case k2u8 => k_asm); (case k3u8 => k_asm); (case k4u8 => k_asm); (case k5u8 => k_asm); (case kKu8 => first | exact rfl | assumption); (case vsu8 => exact IntsAre.reverse hq); (case hnu8 => exact q1); (case oku8 => exact okR hok); (case leu8 => (rw [List.length_reverse]; omega)); (case nlu8 => (rw [List.length_reverse]; exact nlR hlq2 hK0 q3 (by omega))); (case neu8 => exact neD hT9 (by dsimp only; omega) h44); (case kdu8 => ktr_room); (case kuu8 => ktr_units); k_whole); intro r9 news9 h9 tk9 F9 N9 hp9; obtain ⟨t9, T29, e91, hT29, e92, hfr2⟩ := hp9; subst e91; subst e92)
  k_with "pyIter ref" => (k_here; (with_reducible show wpAny _ _ (pyIter (Value.ref _)) (fun it s₂ => LoopAtV _ _ _ _ _ _ _ _ _ it s₂) _ _); (rename Fr _ _ _ _ => lF'); (rename News _ _ _ _ => lN'); (with_unfolding_all refine' iter_revUnr (by rfl) lF' lN' ?hofu9 (List.mem_cons_of_mem _ (List.mem_cons_self ..)) (by rfl) (by rfl) ?restu9); (case hofu9 => exact offI_of (by k_all)); (case' restu9 => (refine' revJ (JD (intBits b) _ b _ _ _) ?turnu9 ?doneu9 _ _ _ ?startu9; (case startu9 => (refine' JD.start (IntsAre.reverse i9) ?s1u9 ?s2u9 ?s3u9; (case s1u9 => exact rfl); (case s2u9 => exact rfl); (case s3u9 => exact rfl))); (case' doneu9 => (intro m news h tk hJ F5 N5; (with_reducible refine genG ?_); intro X9 hX9; obtain ⟨ns, ps, qs, qvs, nn, u1, u2, t, hI, hall, hq, hlen, hok, hval, hnews, hm⟩ := hJ; subst hnews; subst hm; (have hA := all_digits ha hb hall hI); (have hlq : qvs.toArray.toList.length ≤ sizeLine := sz_of (len_of hall hlen) hq hsz); (have hlq2 := len_of hall hlen); rw [hA] at hval F5; (with_reducible refine hX9 ?_); clear hX9 X9; clear lF' lN'; (try k_fold))); (case' turnu9 => (intro v r m news it h tk hJ hic F5 N5; (with_reducible refine genG ?_); intro X9 hX9; obtain ⟨ns, ps, qs, qvs, nn, u1, u2, t, hI, hall, hq, hlen, hok, hval, hnews, hm⟩ := hJ; subst hnews; subst hm; obtain ⟨d, td, ns1, ev, en, hI1⟩ := ints_cons hI; subst ev; subst en; (obtain ⟨hd1, hd2⟩ := digit_of (Int.toNat_natCast _) hall); (have hlq : qvs.toArray.size ≤ sizeLine := sz_of (len_of hall hlen) hq hsz); obtain ⟨g1, g2, g3, g4, g5⟩ := turnD (A := valM (intBits b) ps) hb hbb hd1 hd2; (with_reducible refine hX9 ?_); clear hX9 X9; clear lF' lN' hI; (try k_fold))))))
  k_with "call ref" => (k_here; (with_reducible show wpAny _ _ (call (Value.ref 28) _) _ _ _); (with_reducible refine genQ ?_); intro Q9 hQ9; k_dflt (refine' Does.use ?k1u10 ?k2u10 ?k3u10 ?k4u10 ?k5u10 ?kKu10 (c2 w 3 _ _ _ _ _ _ _ ?kpreu10 ?knu10) ?kdu10 ?kuu10 ?_; (case k1u10 => k_asm); (case k2u10 => k_asm); (case k3u10 => k_asm); (case k4u10 => k_asm); (case k5u10 => k_asm); (case kKu10 => first | exact rfl | assumption); (case kdu10 => ktr_room); (case kuu10 => ktr_units); (case knu10 => assumption); (case kpreu10 => assumption); k_whole); intro r9 news9 h9 tk9 F9 N9 hp9; obtain ⟨d9, t91, t92, e91, l9, e92⟩ := hp9; subst e91; subst e92; (try k_lt l9))
  k_steps


  all_goals (refine' endP hret ?N ?F hT9 ?T2 ?q ?r ?l1 hfr1 ?f2; (case f2 => assumption); (case N => assumption); (case F => assumption); (case T2 => assumption); (case q => (rw [Int.toNat_natCast, ← valM_reverse, List.reverse_reverse]; assumption)); (case r => rfl); (case l1 => first | assumption | exact ktn_ltOf (by assumption)))
end Mine

end
-- part Q1
section
open PySem PySem.W PySem.Calls PyProof.Rows
namespace Mine
open Builtin.Int (intBits)
open Builtin (bitAnd bitOr bitXor)
theorem DoesC.le {w : World} {f : Addr} {vs : List Value} {dN uN dM uM : Nat} {news : Led} {post : Value → Led → Prop} (C : DoesC w f vs dN uN news post) (hd : dN ≤ dM) (hu : uN ≤ uM) : DoesC w f vs dM uM news post :=
  fun dp un gd cn cs a ccd cl outer A₀ base h₀ L m p loose mean mg mb s Q E C1 C2 B F X N T hk hD hU ret => C.use C1 C2 B F X N T hk (by omega) (by omega) ret
/-- int_divmod's answer -/
noncomputable def DM (w : World) (a b q r : Int) (dN uN : Nat) : Prop := ∀ (ta tb : Tok) (T1 T2 rest : Led), TabIs 37 35 4 qI T1 → TabIs 44 50 4 qD T2 → (∀ p ∈ rest, p.1 ≠ 37) → (∀ p ∈ rest, p.1 ≠ 44) →
  DoesC w 63 [.int a ta, .int b tb] dN uN (T1 ++ (T2 ++ rest)) (PostQ T1 T2 rest q r)
theorem ne37 {T2 rest : Led} (h : TabIs 44 50 4 qD T2) (hr : ∀ p ∈ rest, p.1 ≠ 37) : ∀ p ∈ T2 ++ rest, p.1 ≠ 37 := fun p hp =>
  (List.mem_append.mp hp).elim (fun h1 => h.ne (by decide) (by decide) p h1) (hr p)
theorem endQ {h₀ h' : Heap} {L D : Addr} {m : Str → Option Value} {T1 T2 rest T10 T20 : Led} {s : Shared} {Q : Value → Shared → Prop} {q r q' r' : Int} {t1 t2 : Tok} {tk : Nat} {x : Addr × Obj}
    (hret : ∀ v news' h' tk', Fr h₀ L h' m → News h₀ L h' news' → PostQ T10 T20 rest q r v news' → Q v { s with heap := h', toks := tk' })
    (N : News h₀ L h' ((D, tupO [.int q' t1, .int r' t2]) :: x :: (T1 ++ (T2 ++ rest)))) (F : Fr h₀ L h' m) (hT1 : TabIs 37 35 4 qI T1) (hT2 : TabIs 44 50 4 qD T2) (hq : q' = q) (hr : r' = r) (l1 : ∀ p ∈ T1 ++ (T2 ++ rest), p.1 < D) (f1 : Fresh T10 T1 rest) (f2 : Fresh T20 T2 rest) :
    Q (.ref D) { s with heap := h', toks := tk } := by
  subst hq; subst hr
  refine hret _ _ _ _ F (cb_drop N fun p hp => ?_) ⟨D, t1, t2, T1, T2, rfl, hT1, hT2, rfl, l1, f1, f2⟩
  rcases List.mem_cons.mp hp with rfl | hp
  · exact .head _
  · exact .tail _ (.tail _ hp)
theorem k256 {a b : Int} (hb : 0 < b) (h : intBits a ≤ 256 * intBits b) : ((intBits a : Int) + intBits b - 1).fdiv (intBits b) ≤ 256 := by
  have h1 := (bits_pow hb).2.2
  rw [fdiv_pos (by omega)]
  have : ((intBits a : Int) + intBits b - 1) / (intBits b : Int) < 257 := Int.ediv_lt_of_lt_mul (by omega) (by omega)
  omega
theorem dm_r (a : Int) {b : Int} (hb : 0 < b) : b + Builtin.bitNot ((-a - 1) % b) = a % b := by
  rw [(kbt_below a hb).2, kbt_not]
  omega
set_option maxRecDepth 100000 in
set_option maxHeartbeats 2000000 in
theorem dm0 (w : World) (a b : Int) (ha : 0 ≤ a) (hb : 0 < b) (hbb : intBits b ≤ 32000) (hab : intBits a ≤ 900000) (hk : intBits a ≤ 256 * intBits b) : DM w a b (a / b) (a % b) 14 176 := by
  (k_with_none; w_top off)
  k_with "execs cons" => (k_here; (fail_if_success k_gentoks); (fail_if_success (with_reducible show wpAny _ _ (execs (Stmt.While _ _ _ _ :: _) _) _ _ _)); (fail_if_success (with_reducible show wpAny _ _ (execs (Stmt.For _ _ _ _ _ :: _) _) _ _ _)); (with_reducible refine execsQ ?_); intro Q9 hQ9)
  k_with "AtQ" => ((try dsimp only); first | ((with_reducible refine AtQ.next hQ9 ?_); clear hQ9; (try clear Q9)) | ((with_reducible refine AtQ.ret hQ9 ?_); clear hQ9; (try clear Q9); (try dsimp only)) | ((with_reducible refine AtQ.brk hQ9 ?_); clear hQ9; (try clear Q9); (try dsimp only)) | ((with_reducible refine AtQ.cont hQ9 ?_); clear hQ9; (try clear Q9); (try dsimp only)) | ((with_reducible refine AtQ.go hQ9 ?_); clear hQ9; (try clear Q9); (try dsimp only); (try k_fold)))
  intro ta tb T1 T2 rest hT1 hT2 h37 h44
  have hK := k256 hb hk
  unfold DoesC
  k_fill
  intro dp un gd cn cs aa ccd cl outer A₀ base h₀ L m p loose mean mg mb s Q E C1 C2 B F X N T hk hd hu hret
  refine wpAny_call ?_
  k_dflt ktr_enter
  k_with "call ref" => (k_here; (with_reducible show wpAny _ _ (call (Value.ref 56) _) _ _ _); k_dflt (refine' DoesC.use ?c1u2 ?c2u2 ?k1u2 ?k2u2 ?k3u2 ?k4u2 ?k5u2 ?kKu2 (dmp w a b _ _ T1 T2 rest hT1 hT2 ha hb hbb hab hK (ne37 hT2 h37) h44) ?kdu2 ?kuu2 ?_; (case c1u2 => kn_code); (case c2u2 => kn_code); (case k1u2 => k_asm); (case k2u2 => k_asm); (case k3u2 => k_asm); (case k4u2 => k_asm); (case k5u2 => k_asm); (case kKu2 => first | exact rfl | assumption); (case kdu2 => ktr_room); (case kuu2 => ktr_units); k_whole); intro r9 news9 h9 tk9 F9 N9 hp9; (try dsimp only); (try k_fold))
  k_with "exec Raise" => (exfalso; clear hret; omega)
  k_steps
  all_goals first | (exfalso; omega) | exact hret _ _ _ _ (by assumption) (by assumption) hp9
set_option maxRecDepth 100000 in
set_option maxHeartbeats 2000000 in
theorem dm1 (w : World) (a b : Int) (hb : 0 < b) (hbb : intBits b ≤ 32000) (hab : intBits a ≤ 900000) (hk : intBits a ≤ 256 * intBits b) : DM w a b (a / b) (a % b) 16 192 := by
  by_cases ha : 0 ≤ a
  · intro ta tb T1 T2 rest hT1 hT2 h37 h44
    exact (dm0 w a b ha hb hbb hab hk ta tb T1 T2 rest hT1 hT2 h37 h44).le (by decide) (by decide)
  · (k_with_none; w_top off)
    k_with "execs cons" => (k_here; (fail_if_success k_gentoks); (fail_if_success (with_reducible show wpAny _ _ (execs (Stmt.While _ _ _ _ :: _) _) _ _ _)); (fail_if_success (with_reducible show wpAny _ _ (execs (Stmt.For _ _ _ _ _ :: _) _) _ _ _)); (with_reducible refine execsQ ?_); intro Q9 hQ9)
    k_with "AtQ" => ((try dsimp only); first | ((with_reducible refine AtQ.next hQ9 ?_); clear hQ9; (try clear Q9)) | ((with_reducible refine AtQ.ret hQ9 ?_); clear hQ9; (try clear Q9); (try dsimp only)) | ((with_reducible refine AtQ.brk hQ9 ?_); clear hQ9; (try clear Q9); (try dsimp only)) | ((with_reducible refine AtQ.cont hQ9 ?_); clear hQ9; (try clear Q9); (try dsimp only)) | ((with_reducible refine AtQ.go hQ9 ?_); clear hQ9; (try clear Q9); (try dsimp only); (try k_fold)))
    intro ta tb T1 T2 rest hT1 hT2 h37 h44
    have ha1 : a < 0 := by omega
    have hb1 : ¬ b < 0 := by omega
    have hb2 : b ≠ 0 := by omega
    have hle : intBits (-a - 1) ≤ intBits a := intBits_le_of_natAbs (by omega) (Nat.le_refl _)
    have IH := dm0 w (-a - 1) b (by omega) hb hbb (by omega) (by omega)
    unfold DoesC
    k_fill
    intro dp un gd cn cs aa ccd cl outer A₀ base h₀ L m p loose mean mg mb s Q E C1 C2 B F X N T hk hd hu hret
    refine wpAny_call ?_
    k_dflt ktr_enter
    k_with "exec Raise" => (exfalso; clear hret; omega)
    k_with "call ref" => (k_here; (with_reducible show wpAny _ _ (call (Value.ref 63) _) _ _ _); (with_reducible refine genQ ?_); intro Q9 hQ9; k_dflt (refine' DoesC.use ?c1u7 ?c2u7 ?k1u7 ?k2u7 ?k3u7 ?k4u7 ?k5u7 ?kKu7 (IH _ _ T1 T2 rest hT1 hT2 h37 h44) ?kdu7 ?kuu7 ?_; (case c1u7 => kn_code); (case c2u7 => kn_code); (case k1u7 => k_asm); (case k2u7 => k_asm); (case k3u7 => k_asm); (case k4u7 => k_asm); (case k5u7 => k_asm); (case kKu7 => first | exact rfl | assumption); (case kdu7 => ktr_room); (case kuu7 => ktr_units); k_whole); intro r9 news9 h9 tk9 F9 N9 hp9; obtain ⟨d9, t91, t92, T19, T29, e91, hT19, hT29, e92, l9, hfr1, hfr2⟩ := hp9; subst e91; subst e92)
    k_steps
    all_goals first | (exfalso; omega) | (refine' endQ hret ?N ?F hT19 hT29 ?q ?r ?l1 hfr1 hfr2; (case N => assumption); (case F => assumption); (case q => exact (kbt_below a hb).1.symm); (case r => exact (dm_r a hb)); (case l1 => first | assumption | exact ktn_ltOf (And.right (by assumption))))
set_option maxRecDepth 100000 in
set_option maxHeartbeats 2000000 in
theorem dm2 (w : World) (a b : Int) (hb : b < 0) (hbb : intBits b ≤ 32000) (hab : intBits a ≤ 900000) (hk : intBits a ≤ 256 * intBits b) : DM w a b ((-a) / (-b)) (-((-a) % (-b))) 18 208 := by
  (k_with_none; w_top off)
  k_with "execs cons" => (k_here; (fail_if_success k_gentoks); (fail_if_success (with_reducible show wpAny _ _ (execs (Stmt.While _ _ _ _ :: _) _) _ _ _)); (fail_if_success (with_reducible show wpAny _ _ (execs (Stmt.For _ _ _ _ _ :: _) _) _ _ _)); (with_reducible refine execsQ ?_); intro Q9 hQ9)
  k_with "AtQ" => ((try dsimp only); first | ((with_reducible refine AtQ.next hQ9 ?_); clear hQ9; (try clear Q9)) | ((with_reducible refine AtQ.ret hQ9 ?_); clear hQ9; (try clear Q9); (try dsimp only)) | ((with_reducible refine AtQ.brk hQ9 ?_); clear hQ9; (try clear Q9); (try dsimp only)) | ((with_reducible refine AtQ.cont hQ9 ?_); clear hQ9; (try clear Q9); (try dsimp only)) | ((with_reducible refine AtQ.go hQ9 ?_); clear hQ9; (try clear Q9); (try dsimp only); (try k_fold)))
  intro ta tb T1 T2 rest hT1 hT2 h37 h44
  have hb2 : b ≠ 0 := by omega
  have e1 : intBits (-a) = intBits a := by unfold intBits; simp
  have e2 : intBits (-b) = intBits b := by unfold intBits; simp
  have IH := dm1 w (-a) (-b) (by omega) (by omega) (by omega) (by omega)
  unfold DoesC
  k_fill
  intro dp un gd cn cs aa ccd cl outer A₀ base h₀ L m p loose mean mg mb s Q E C1 C2 B F X N T hk hd hu hret
  refine wpAny_call ?_
  k_dflt ktr_enter
  k_with "exec Raise" => (exfalso; clear hret; omega)
  k_with "call ref" => (k_here; (with_reducible show wpAny _ _ (call (Value.ref 63) _) _ _ _); (with_reducible refine genQ ?_); intro Q9 hQ9; k_dflt (refine' DoesC.use ?c1u11 ?c2u11 ?k1u11 ?k2u11 ?k3u11 ?k4u11 ?k5u11 ?kKu11 (IH _ _ T1 T2 rest hT1 hT2 h37 h44) ?kdu11 ?kuu11 ?_; (case c1u11 => kn_code); (case c2u11 => kn_code); (case k1u11 => k_asm); (case k2u11 => k_asm); (case k3u11 => k_asm); (case k4u11 => k_asm); (case k5u11 => k_asm); (case kKu11 => first | exact rfl | assumption); (case kdu11 => ktr_room); (case kuu11 => ktr_units); k_whole); intro r9 news9 h9 tk9 F9 N9 hp9; obtain ⟨d9, t91, t92, T19, T29, e91, hT19, hT29, e92, l9, hfr1, hfr2⟩ := hp9; subst e91; subst e92)
  k_steps
  all_goals first | (exfalso; omega) | (refine' endQ hret ?N ?F hT19 hT29 rfl rfl ?l1 hfr1 hfr2; (case N => assumption); (case F => assumption); (case l1 => first | assumption | exact ktn_ltOf (And.right (by assumption))))
end Mine

end
-- part W1m
section
open PySem PySem.W PySem.Calls PyProof.Rows
namespace Mine
structure WsSt where
  n : Int
  nt : Int
  b : Int
  cs : List Int
/-- at the b-th place one more -/
noncomputable def bump (b : Int) (cs : List Int) : List Int :=
  let g := if b ≥ cs.length then cs ++ List.replicate (b - cs.length + 1).toNat 0 else cs
  g.set b.toNat (g.getD b.toNat 0 + 1)
noncomputable def wsStep (c : Nat) (s : WsSt) : WsSt :=
  if c = 32 then { s with n := s.n + 1, b := s.b + 1 } else { n := s.n + 1, nt := s.nt + 1, b := 0, cs := bump s.b s.cs }
noncomputable def wsGo : List Nat → WsSt → WsSt
  | [], s => s
  | c :: r, s => if c = 32 ∨ c = 9 then wsGo r (wsStep c s) else s
/-- bounds -/
structure WsOk (k : Nat) (s : WsSt) : Prop where
  b0 : 0 ≤ s.b
  b1 : s.b ≤ k
  l1 : (s.cs.length : Int) ≤ k
theorem WsOk.space {k : Nat} {s : WsSt} (h : WsOk k s) : WsOk (k + 1) (wsStep 32 s) := by
  obtain ⟨b0, b1, l1⟩ := h
  refine ⟨?_, ?_, ?_⟩ <;> (unfold wsStep; rw [if_pos rfl]; dsimp only; omega)
theorem bump_length (b : Int) (cs : List Int) (h0 : 0 ≤ b) : ((bump b cs).length : Int) = max (b + 1) cs.length := by
  unfold bump
  dsimp only
  rw [List.length_set]
  split
  · rw [List.length_append, List.length_replicate]; omega
  · omega
theorem WsOk.tab {k : Nat} {s : WsSt} (h : WsOk k s) : WsOk (k + 1) (wsStep 9 s) := by
  obtain ⟨b0, b1, l1⟩ := h
  have hl := bump_length s.b s.cs b0
  refine ⟨?_, ?_, ?_⟩ <;> (unfold wsStep; rw [if_neg (by decide)]; dsimp only; omega)
end Mine

end
local macro_rules | `(tactic| k_room) => `(tactic| ktr_room)
-- part W0
section
open PySem PySem.W PySem.Calls PyProof.Rows
namespace Mine
open Builtin.Int (intBits)
noncomputable def sign (c : Nat) : Str := ⟨#[c]⟩
/-- what holds between two signs -/
inductive JW (F : WsSt) (K : Nat) (I : Addr) (m₀ : Str → Option Value) (stat : Led) (l : List Str) (m : Str → Option Value) (news : Led) : Prop
  | mk (codes : List Nat) (s : WsSt) (k : Nat) (c : Addr) (cvs : List Value) (nn : Nat) (u : Option Value) (tn tnt tb : Tok)
    (hh1 : l = codes.map sign)
    (hh2 : wsGo codes s = F)
    (hh3 : WsOk k s)
    (hh4 : k + codes.length = K)
    (hh5 : IntsAre cvs s.cs)
    (hh6 : news = (c, listOf cvs.toArray nn) :: stat)
    (hh7 : AllLt c stat)
    (hh8 : c ≠ I)
    (hh9 : m = fun z => if z = Str.ofString "count" then some (.ref c) else if z = Str.ofString "nt" then some (.int s.nt tnt) else if z = Str.ofString "n" then some (.int s.n tn) else if z = Str.ofString "b" then some (.int s.b tb) else if z = Str.ofString "ch" then u else m₀ z) : JW F K I m₀ stat l m news
theorem JW.start {I : Addr} {m₀ : Str → Option Value} {c : Addr} {stat : Led} {t : Str} {tn tnt tb : Tok} (hl : AllLt c stat) (hI : c ≠ I) (hc : m₀ (Str.ofString "count") = some (.ref c)) (hnt : m₀ (Str.ofString "nt") = some (.int 0 tnt)) (hn : m₀ (Str.ofString "n") = some (.int 0 tn)) (hb : m₀ (Str.ofString "b") = some (.int 0 tb)) :
    JW (wsGo t.cps.toList ⟨0, 0, 0, []⟩) t.cps.toList.length I m₀ stat (t.cps.toList.map sign) m₀ ((c, listOf #[] 0) :: stat) := by
  refine ⟨t.cps.toList, ⟨0, 0, 0, []⟩, 0, c, [], 0, m₀ (Str.ofString "ch"), tn, tnt, tb, rfl, rfl, ⟨Int.le_refl _, Int.le_refl _, Int.le_refl _⟩, Nat.zero_add _, .nil, rfl, hl, hI, ?_⟩
  funext z
  by_cases h1 : z = Str.ofString "count"
  · rw [if_pos h1, h1, hc]
  · rw [if_neg h1]
    by_cases h2 : z = Str.ofString "nt"
    · rw [if_pos h2, h2, hnt]
    · rw [if_neg h2]
      by_cases h3 : z = Str.ofString "n"
      · rw [if_pos h3, h3, hn]
      · rw [if_neg h3]
        by_cases h4 : z = Str.ofString "b"
        · rw [if_pos h4, h4, hb]
        · rw [if_neg h4]
          by_cases h5 : z = Str.ofString "ch"
          · rw [if_pos h5, h5]
          · rw [if_neg h5]
theorem unrEnd_JW {h₀ h' : Heap} {L I c' : Addr} {it : Obj} {m' m₀ : Str → Option Value} {all stat : Led} {F : WsSt} {K k : Nat} {codes : List Nat} {s' : WsSt} {cvs' : List Value} {cs' : List Int} {nn tk : Nat} {s₁ : Shared} {tn tnt tb : Tok} {n' nt' b' : Int}
    (N : News h₀ L h' all) (Fm : Fr h₀ L h' m') (hI : (I, it) ∈ all) (hc : (c', listOf cvs'.toArray nn) ∈ all) (hst : ∀ p ∈ stat, p ∈ all) (hoff : ∀ p ∈ stat, p.1 ≠ I) (hcI : c' ≠ I) (hlt : AllLt c' stat)
    (h1 : m' (Str.ofString "count") = some (.ref c')) (h2 : m' (Str.ofString "nt") = some (.int nt' tnt)) (h3 : m' (Str.ofString "n") = some (.int n' tn)) (h4 : m' (Str.ofString "b") = some (.int b' tb))
    (hz : ∀ z, ¬ z = Str.ofString "count" → ¬ z = Str.ofString "nt" → ¬ z = Str.ofString "n" → ¬ z = Str.ofString "b" → ¬ z = Str.ofString "ch" → m' z = m₀ z)
    (hi : IntsAre cvs' cs') (hs : s' = ⟨n', nt', b', cs'⟩) (hgo : wsGo codes s' = F) (hok : WsOk k s') (hk : k + codes.length = K) :
    UnrEnd h₀ L s₁ I it (fun m' n' => JW F K I m₀ stat (codes.map sign) m' n') { s₁ with heap := h', toks := tk } := by
  subst hs
  refine UnrEnd.intro Fm N ((c', listOf cvs'.toArray nn) :: stat) (fun p hp => ?_) (fun p hp => ?_) ⟨codes, _, k, c', cvs', nn, m' (Str.ofString "ch"), tn, tnt, tb, rfl, hgo, hok, hk, hi, rfl, hlt, hcI, ?_⟩
  · rcases List.mem_cons.mp hp with rfl | hp
    · exact hI
    · rcases List.mem_cons.mp hp with rfl | hp
      · exact hc
      · exact hst p hp
  · rcases List.mem_cons.mp hp with rfl | hp
    · exact hcI
    · exact hoff p hp
  · funext z
    by_cases e1 : z = Str.ofString "count"
    · rw [if_pos e1, e1, h1]
    · rw [if_neg e1]
      by_cases e2 : z = Str.ofString "nt"
      · rw [if_pos e2, e2, h2]
      · rw [if_neg e2]
        by_cases e3 : z = Str.ofString "n"
        · rw [if_pos e3, e3, h3]
        · rw [if_neg e3]
          by_cases e4 : z = Str.ofString "b"
          · rw [if_pos e4, e4, h4]
          · rw [if_neg e4]
            by_cases e5 : z = Str.ofString "ch"
            · rw [if_pos e5, e5]
            · rw [if_neg e5, hz z e1 e2 e3 e4 e5]
theorem fitW {k n K : Nat} {st : WsSt} (h : WsOk k st) (hk : k + n = K) (hK : K ≤ 64) : st.cs.length < 2 ^ 62 := by have := h.l1; omega
theorem fitT {k n K : Nat} {st : WsSt} {cvs : List Value} (h : WsOk k st) (hk : k + n = K) (hK : K ≤ 64) (hi : IntsAre cvs st.cs) : cvs.toArray.size ≤ 16384 := by
  have := h.l1
  have := hi.length
  rw [List.size_toArray]
  omega
theorem fitB {k n K : Nat} {st : WsSt} (h : WsOk k st) (hk : k + n = K) (hK : K ≤ 64) : st.b ≤ 64 := by have := h.b1; omega
theorem sign_eq {d k : Nat} (h : (sign d == sign k) = true) : d = k := by
  have e := eq_of_beq h
  have := congrArg Str.cps e
  simpa [sign] using this
theorem sign_ne {d k : Nat} (h : (sign d == sign k) = false) : d ≠ k := fun e => by
  subst e
  simp at h
theorem map_cons {r : List Str} {c : Str} {codes : List Nat} (h : c :: r = codes.map sign) : ∃ d ds, codes = d :: ds ∧ c = sign d ∧ r = ds.map sign := by
  cases codes with
  | nil => cases h
  | cons d ds => exact ⟨d, ds, rfl, (List.cons.inj h).1, (List.cons.inj h).2⟩
theorem bump_hi {b : Int} {cs : List Int} (h : (cs.length : Int) ≤ b) : ((cs ++ (List.replicate (b - cs.length + 1).toNat [0]).flatten).set b.toNat ((cs ++ (List.replicate (b - cs.length + 1).toNat [0]).flatten).getD b.toNat 0 + 1)) = bump b cs := by
  unfold bump
  rw [krep_flat, if_pos h]
theorem bump_lo {b : Int} {cs : List Int} (h : ¬ (cs.length : Int) ≤ b) : (cs.set b.toNat (cs.getD b.toNat 0 + 1)) = bump b cs := by
  unfold bump
  rw [if_neg h]
theorem unrEnd_sp {h₀ h' : Heap} {L I c' : Addr} {it : Obj} {m' m₀ : Str → Option Value} {all stat : Led} {F st : WsSt} {K k d : Nat} {ds : List Nat} {cvs' : List Value} {nn tk : Nat} {s₁ : Shared} {tn tnt tb : Tok}
    (N : News h₀ L h' all) (Fm : Fr h₀ L h' m') (hI : (I, it) ∈ all) (hc : (c', listOf cvs'.toArray nn) ∈ all) (hst : ∀ p ∈ stat, p ∈ all) (hoff : ∀ p ∈ stat, p.1 ≠ I) (hcI : c' ≠ I) (hlt : AllLt c' stat)
    (h1 : m' (Str.ofString "count") = some (.ref c')) (h2 : m' (Str.ofString "nt") = some (.int st.nt tnt)) (h3 : m' (Str.ofString "n") = some (.int (st.n + 1) tn)) (h4 : m' (Str.ofString "b") = some (.int (st.b + 1) tb))
    (hz : ∀ z, ¬ z = Str.ofString "count" → ¬ z = Str.ofString "nt" → ¬ z = Str.ofString "n" → ¬ z = Str.ofString "b" → ¬ z = Str.ofString "ch" → m' z = m₀ z)
    (ha : (sign d == Str.ofString " ") = true) (hi : IntsAre cvs' st.cs) (hgo : wsGo (d :: ds) st = F) (hok : WsOk k st) (hk : k + (d :: ds).length = K) :
    UnrEnd h₀ L s₁ I it (fun m' n' => JW F K I m₀ stat (ds.map sign) m' n') { s₁ with heap := h', toks := tk } := by
  obtain rfl : d = 32 := sign_eq ha
  exact unrEnd_JW N Fm hI hc hst hoff hcI hlt h1 h2 h3 h4 hz hi rfl (s' := wsStep 32 st) hgo hok.space (by rw [List.length_cons] at hk; omega)
theorem unrEnd_tab {h₀ h' : Heap} {L I c' : Addr} {it : Obj} {m' m₀ : Str → Option Value} {all stat : Led} {F st : WsSt} {K k d : Nat} {ds : List Nat} {cvs' : List Value} {cs' : List Int} {nn tk : Nat} {s₁ : Shared} {tn tnt tb : Tok}
    (N : News h₀ L h' all) (Fm : Fr h₀ L h' m') (hI : (I, it) ∈ all) (hc : (c', listOf cvs'.toArray nn) ∈ all) (hst : ∀ p ∈ stat, p ∈ all) (hoff : ∀ p ∈ stat, p.1 ≠ I) (hcI : c' ≠ I) (hlt : AllLt c' stat)
    (h1 : m' (Str.ofString "count") = some (.ref c')) (h2 : m' (Str.ofString "nt") = some (.int (st.nt + 1) tnt)) (h3 : m' (Str.ofString "n") = some (.int (st.n + 1) tn)) (h4 : m' (Str.ofString "b") = some (.int 0 tb))
    (hz : ∀ z, ¬ z = Str.ofString "count" → ¬ z = Str.ofString "nt" → ¬ z = Str.ofString "n" → ¬ z = Str.ofString "b" → ¬ z = Str.ofString "ch" → m' z = m₀ z)
    (ha : (sign d == Str.ofString "\t") = true) (hi : IntsAre cvs' cs') (hcs : cs' = bump st.b st.cs) (hgo : wsGo (d :: ds) st = F) (hok : WsOk k st) (hk : k + (d :: ds).length = K) :
    UnrEnd h₀ L s₁ I it (fun m' n' => JW F K I m₀ stat (ds.map sign) m' n') { s₁ with heap := h', toks := tk } := by
  obtain rfl : d = 9 := sign_eq ha
  subst hcs
  exact unrEnd_JW N Fm hI hc hst hoff hcI hlt h1 h2 h3 h4 hz hi rfl (s' := wsStep 9 st) hgo hok.tab (by rw [List.length_cons] at hk; omega)
noncomputable abbrev ent (w : World) (n : String) (k : Tok) (v : Value) : DictEntry := ⟨PyData.keyHash w.params (Str.ofString n), .str (Str.ofString n) k, v⟩
noncomputable abbrev wsDict (w : World) (raw norm : Value) (s : WsSt) (k1 k2 k3 k4 k5 tn tnt : Tok) : Obj :=
  dictOf [ent w "raw" k1 raw, ent w "n" k2 (.int s.n tn), ent w "nt" k3 (.int s.nt tnt), ent w "norm" k4 norm, ent w "is_simple" k5 (.bool (decide ((s.cs.length : Int) ≤ 1)))] 5
/-- a new Whitespace -/
inductive PostW (w : World) (news : Led) (raw : Value) (F : WsSt) (v : Value) (news' : Led) : Prop
  | mk (x : Addr) (dx : Addr) (D : Addr) (D1 : Addr) (cvs : List Value) (k1 : Tok) (k2 : Tok) (k3 : Tok) (k4 : Tok) (k5 : Tok) (tn : Tok) (tnt : Tok) (tb : Tok)
    (hh1 : v = .ref x)
    (hh2 : IntsAre cvs F.cs)
    (hh3 : news' = (x, instObj 139 dx) :: (dx, wsDict w raw (.ref D) F k1 k2 k3 k4 k5 tn tnt) :: (D, tupO [.ref D1, .int F.b tb]) :: (D1, tupO cvs) :: news)
    (hh4 : (∀ p ∈ news, p.1 < dx))
    (hh5 : @LT.lt Nat _ dx x)
    (hh6 : @LT.lt Nat _ x D1)
    (hh7 : @LT.lt Nat _ D1 D) : PostW w news raw F v news'
theorem endW {w : World} {h₀ h' : Heap} {L x dx D D1 : Addr} {m : Str → Option Value} {news all : Led} {s : Shared} {Q : Value → Shared → Prop} {raw : Value} {F st : WsSt} {cvs : List Value} {k1 k2 k3 k4 k5 tn tnt tb : Tok} {tk : Nat}
    (hret : ∀ v news' h' tk', Fr h₀ L h' m → News h₀ L h' news' → PostW w news raw F v news' → Q v { s with heap := h', toks := tk' })
    (Fm : Fr h₀ L h' m) (N : News h₀ L h' all) (h1 : (D, tupO [.ref D1, .int st.b tb]) ∈ all) (h2 : (D1, ({ cls := .type "tuple", data := .seq cvs.toArray.toList.toArray } : Obj)) ∈ all) (h3 : (x, instObj 139 dx) ∈ all) (h4 : (dx, wsDict w raw (.ref D) st k1 k2 k3 k4 k5 tn tnt) ∈ all)
    (h5 : ∀ p ∈ news, p ∈ all) (hst : st = F) (hi : IntsAre cvs st.cs) (l1 : ∀ p ∈ news, p.1 < dx) (l2 : @LT.lt Nat _ dx x) (l3 : @LT.lt Nat _ x D1) (l4 : @LT.lt Nat _ D1 D) : Q (.ref x) { s with heap := h', toks := tk } := by
  subst hst
  refine hret _ _ _ _ Fm (cb_drop N fun p hp => ?_) ⟨x, dx, D, D1, cvs, k1, k2, k3, k4, k5, tn, tnt, tb, rfl, hi, rfl, l1, l2, l3, l4⟩
  rcases List.mem_cons.mp hp with rfl | hp
  · exact h3
  · rcases List.mem_cons.mp hp with rfl | hp
    · exact h4
    · rcases List.mem_cons.mp hp with rfl | hp
      · exact h1
      · rcases List.mem_cons.mp hp with rfl | hp
        · exact h2
        · exact h5 p hp
theorem wsDone {codes : List Nat} {st F : WsSt} (h : [] = codes.map sign) (e : wsGo codes st = F) : st = F := by
  cases codes with
  | nil => exact e
  | cons d ds => cases h
theorem wsBreak {d : Nat} {ds : List Nat} {st F : WsSt} (h1 : (sign d == Str.ofString " ") = false) (h2 : (sign d == Str.ofString "\t") = false) (e : wsGo (d :: ds) st = F) : st = F := by
  have a := sign_ne (k := 32) h1
  have b := sign_ne (k := 9) h2
  unfold wsGo at e
  rw [if_neg (fun h => h.elim a b)] at e
  exact e
set_option maxRecDepth 100000 in
set_option maxHeartbeats 2000000 in
theorem ws0 (w : World) (t : Str) (tt : Tok) (news : Led) (ht : t.cps.toList.length ≤ 64) :
    DoesC w 139 [.str t tt] 12 160 news (PostW w news (.str t tt) (wsGo t.cps.toList ⟨0, 0, 0, []⟩)) := by
  (k_with_none; w_top off)
  k_with "execs cons" => (k_here; (fail_if_success k_gentoks); (fail_if_success (with_reducible show wpAny _ _ (execs (Stmt.While _ _ _ _ :: _) _) _ _ _)); (fail_if_success (with_reducible show wpAny _ _ (execs (Stmt.For _ _ _ _ _ :: _) _) _ _ _)); (with_reducible refine execsQ ?_); intro Q9 hQ9)
  k_with "AtQ" => ((try dsimp only); first | ((with_reducible refine AtQ.next hQ9 ?_); clear hQ9; (try clear Q9)) | ((with_reducible refine AtQ.ret hQ9 ?_); clear hQ9; (try clear Q9); (try dsimp only)) | ((with_reducible refine AtQ.brk hQ9 ?_); clear hQ9; (try clear Q9); (try dsimp only)) | ((with_reducible refine AtQ.cont hQ9 ?_); clear hQ9; (try clear Q9); (try dsimp only)) | ((with_reducible refine AtQ.go hQ9 ?_); clear hQ9; (try clear Q9); (try dsimp only); (try k_fold)))
  k_with "k_all" => (tbn_letter; first | assumption | (refine' ne_mono ?h1u2 ?h2u2; (case h1u2 => tbn_find); (case h2u2 => omega)))
  k_with "call builtin:len" => (k_here; (with_reducible show wpAny _ _ (call (Value.builtin _) [Value.ref _]) _ _ _); (with_unfolding_all refine' len_ints_fit ?k1u3 ?k2u3 ?k3u3 ?_; (case k1u3 => exact News.isList (by k_asm) (by k_mem)); (case k2u3 => with_reducible assumption); (case k3u3 => assumption); k_whole))
  k_with "call type:tuple" => (k_here; (with_reducible show wpAny _ _ (call (Value.type _) [Value.ref _]) _ _ _); k_dflt (refine' kde_tupleOf ?k1u4 ?k2u4 ?k3u4 ?k4u4 ?k5u4 ?_; (case k1u4 => k_asm); (case k2u4 => k_asm); (case k3u4 => exact News.isList (by k_asm) (by k_mem)); (case k4u4 => assumption); (case k5u4 => exact rfl); k_whole); intro D' h' F' N' l1; (try k_lt l1); (try k_sweep))
  k_with "w_alllt" => (simp only [AllLt]; repeat' (first | omega | assumption | tbn_find | refine And.intro ?_ ?_))
  k_with "w_sub" => (intro p9 h9; simp only [List.mem_cons] at h9 ⊢; rcases h9 with h9 | h9 | h9 | h9 <;> simp only [h9, true_or, or_true])
  k_with "UnrEnd" => (k_dflt (first | (refine' unrEnd_sp ?Nu7 ?Fu7 ?hIu7 ?hcu7 ?hstu7 ?hoffu7 ?hcIu7 ?hltu7 ?h1u7 ?h2u7 ?h3u7 ?h4u7 ?hzu7 ?hau7 ?hiu7 ?hgou7 ?hoku7 ?hku7; (case Nu7 => assumption); (case Fu7 => assumption); (case hau7 => assumption); (case h1u7 => exact rfl); (case h2u7 => exact rfl); (case h3u7 => exact rfl); (case h4u7 => exact rfl); (case hIu7 => k_mem); (case hcu7 => k_mem); (case hgou7 => assumption); (case hoku7 => assumption); (case hku7 => assumption); (case hiu7 => assumption); (case hstu7 => walk_at "w_sub"); (case hoffu7 => k_all); (case hcIu7 => k_ne); (case hltu7 => walk_at "w_alllt"); (case hzu7 => (intro z9 a9 b9 c9 d9 f9; simp only [if_neg a9, if_neg b9, if_neg c9, if_neg d9, if_neg f9]))) | (refine' unrEnd_tab ?Nu7 ?Fu7 ?hIu7 ?hcu7 ?hstu7 ?hoffu7 ?hcIu7 ?hltu7 ?h1u7 ?h2u7 ?h3u7 ?h4u7 ?hzu7 ?hau7 ?hiu7 ?hcsu7 ?hgou7 ?hoku7 ?hku7; (case Nu7 => assumption); (case Fu7 => assumption); (case hau7 => assumption); (case h1u7 => exact rfl); (case h2u7 => exact rfl); (case h3u7 => exact rfl); (case h4u7 => exact rfl); (case hIu7 => k_mem); (case hcu7 => k_mem); (case hgou7 => assumption); (case hoku7 => assumption); (case hku7 => assumption); (case hiu7 => assumption); (case hcsu7 => first | exact bump_hi (by assumption) | exact bump_lo (by assumption)); (case hstu7 => walk_at "w_sub"); (case hoffu7 => k_all); (case hcIu7 => k_ne); (case hltu7 => walk_at "w_alllt"); (case hzu7 => (intro z9 a9 b9 c9 d9 f9; simp only [if_neg a9, if_neg b9, if_neg c9, if_neg d9, if_neg f9])))))
  unfold DoesC
  k_fill
  intro dp un gd cn cs aa ccd cl outer A₀ base h₀ L m p loose mean mg mb s Q E C1 C2 B F X N T hk hd hu hret
  k_dflt (refine' call_cls ?a1 ?a2 ?a3 ?a4 ?a5 ?a6 ?_; (case a1 => k_asm); (case a2 => k_asm); (case a3 => k_asm); (case a4 => k_is); (case a5 => k_is); (case a6 => k_is); k_whole; intro x' d' h' F' N' l1 l2; (try k_lt l1); (try k_lt2 l2); (try k_sweep))
  k_dflt ktr_enter
  k_with "pyIter str" => (k_here; (with_reducible show wpAny _ _ (pyIter (Value.str _ _)) (fun it s₂ => LoopAtV _ _ _ _ _ _ _ _ _ it s₂) _ _); (rename Fr _ _ _ _ => lF'); (rename News _ _ _ _ => lN'); (with_unfolding_all refine' iter_strUnr (by rfl) lF' lN' (by rfl) ?rest); intro I5 l5; k_lt l5; (refine' strJ (JW (wsGo t.cps.toList ⟨0, 0, 0, []⟩) t.cps.toList.length I5 _ _) ?turnu8 ?doneu8 _ _ _ ?startu8; (case startu8 => (refine' JW.start ?s0u8 ?s9u8 ?s1u8 ?s2u8 ?s3u8 ?s4u8; (case s9u8 => k_ne); (case s1u8 => exact rfl); (case s2u8 => exact rfl); (case s3u8 => exact rfl); (case s4u8 => exact rfl); (case s0u8 => (simp only [AllLt]; first | assumption | (refine ⟨?_, ?_⟩ <;> first | omega | tbn_find))))); (case' doneu8 => (intro m news h tk hJ F5 N5; (with_reducible refine genG ?_); intro X9 hX9; obtain ⟨codes, st, k, c, cvs, nn, u, tn, tnt, tb, e1, e2, e3, e4, e5, e6, e7, e10, e8⟩ := hJ; subst e6; subst e8; (try simp only [AllLt] at e7); replace e10 := neN e10; (have hfit : st.cs.length < 2 ^ 62 := fitW e3 e4 ht); (have hfit2 : cvs.toArray.size ≤ 16384 := fitT e3 e4 ht e5); (with_reducible refine hX9 ?_); clear hX9 X9; clear lF' lN'; (try k_fold))); (case' turnu8 => (intro c r m news u it h tk hJ F5 N5; (with_reducible refine genG ?_); intro X9 hX9; obtain ⟨codes, st, k, c, cvs, nn, u, tn, tnt, tb, e1, e2, e3, e4, e5, e6, e7, e10, e8⟩ := hJ; subst e6; subst e8; obtain ⟨d, ds, ed, ec, er⟩ := map_cons e1; subst ed; subst ec; subst er; (try simp only [AllLt] at e7); replace e10 := neN e10; (have hfit : st.cs.length < 2 ^ 62 := fitW e3 e4 ht); (have hfit2 : cvs.toArray.size ≤ 16384 := fitT e3 e4 ht e5); (have b0 := e3.b0); (have b1 : st.b ≤ 64 := fitB e3 e4 ht); (with_reducible refine hX9 ?_); clear hX9 X9; clear lF' lN' e1; (try k_fold)))))
  k_steps
  all_goals (refine' endW hret ?F99 ?N99 ?h91 ?h92 ?h93 ?h94 ?h95 ?h96 ?h97 ?h98 ?h99 ?h9a ?h9b; (case N99 => assumption); (case F99 => assumption); (case h91 => k_mem); (case h92 => k_mem); (case h93 => k_mem); (case h94 => k_mem); (case h95 => (intro p9 q9; simp only [List.mem_cons]; simp only [q9, or_true])); (case h96 => first | exact wsBreak (by assumption) (by assumption) (by assumption) | exact wsDone (by assumption) (by assumption)); (case h97 => assumption); (case h98 => assumption); (case h99 => assumption); (case h9a => omega); (case h9b => omega))
end Mine

end
-- part Loops2
section
open PySem PySem.W PySem.Calls PyProof.Rows
namespace Mine
/-- a frame map with some names turned -/
noncomputable def upd : List (Str × Option Value) → (Str → Option Value) → Str → Option Value
  | [], m₀, z => m₀ z
  | (n, v) :: r, m₀, z => if z = n then v else upd r m₀ z
theorem upd_of {m' m₀ : Str → Option Value} : ∀ (l : List (Str × Option Value)), (∀ p ∈ l, m' p.1 = p.2) → (∀ z, (∀ p ∈ l, ¬ z = p.1) → m' z = m₀ z) → m' = upd l m₀ := by
  intro l h1 h2
  funext z
  have key : ∀ l' : List (Str × Option Value), (∀ p ∈ l', m' p.1 = p.2) → (∀ p ∈ l', ¬ z = p.1) ∧ upd l' m₀ z = m₀ z ∨ upd l' m₀ z = m' z := by
    intro l'
    induction l' with
    | nil => intro _; exact .inl ⟨fun _ h => (nomatch h), rfl⟩
    | cons p r ih =>
      intro hp
      obtain ⟨n, v⟩ := p
      by_cases e : z = n
      · right
        show (if z = n then v else upd r m₀ z) = m' z
        rw [if_pos e, e]
        exact (hp (n, v) (.head _)).symm
      · have e2 : upd ((n, v) :: r) m₀ z = upd r m₀ z := by
          show (if z = n then v else upd r m₀ z) = _
          rw [if_neg e]
        rcases ih (fun q hq => hp q (.tail _ hq)) with ⟨a, b⟩ | a
        · left
          refine ⟨fun q hq => ?_, e2.trans b⟩
          rcases List.mem_cons.mp hq with rfl | hq
          · exact e
          · exact a q hq
        · exact .inr (e2.trans a)
  rcases key l h1 with ⟨a, b⟩ | a
  · rw [b, h2 z a]
  · exact a.symm
theorem upd1 {m' m₀ : Str → Option Value} {n1 : Str} {v1 : Option Value} (h1 : m' n1 = v1) (hz : ∀ z, ¬ z = n1 → m' z = m₀ z) : m' = upd [(n1, v1)] m₀ :=
  upd_of _ (fun p hp => by rw [List.mem_singleton.mp hp]; exact h1) fun z h => hz z (h _ (.head _))
theorem upd2 {m' m₀ : Str → Option Value} {n1 n2 : Str} {v1 v2 : Option Value} (h1 : m' n1 = v1) (h2 : m' n2 = v2) (hz : ∀ z, ¬ z = n1 → ¬ z = n2 → m' z = m₀ z) : m' = upd [(n1, v1), (n2, v2)] m₀ :=
  upd_of _ (fun p hp => by
    rcases List.mem_cons.mp hp with rfl | hp
    · exact h1
    · rw [List.mem_singleton.mp hp]; exact h2) fun z h => hz z (h _ (.head _)) (h _ (.tail _ (.head _)))
theorem upd3 {m' m₀ : Str → Option Value} {n1 n2 n3 : Str} {v1 v2 v3 : Option Value} (h1 : m' n1 = v1) (h2 : m' n2 = v2) (h3 : m' n3 = v3) (hz : ∀ z, ¬ z = n1 → ¬ z = n2 → ¬ z = n3 → m' z = m₀ z) : m' = upd [(n1, v1), (n2, v2), (n3, v3)] m₀ :=
  upd_of _ (fun p hp => by
    rcases List.mem_cons.mp hp with rfl | hp
    · exact h1
    · rcases List.mem_cons.mp hp with rfl | hp
      · exact h2
      · rw [List.mem_singleton.mp hp]; exact h3) fun z h => hz z (h _ (.head _)) (h _ (.tail _ (.head _))) (h _ (.tail _ (.tail _ (.head _))))
theorem upd4 {m' m₀ : Str → Option Value} {n1 n2 n3 n4 : Str} {v1 v2 v3 v4 : Option Value} (h1 : m' n1 = v1) (h2 : m' n2 = v2) (h3 : m' n3 = v3) (h4 : m' n4 = v4) (hz : ∀ z, ¬ z = n1 → ¬ z = n2 → ¬ z = n3 → ¬ z = n4 → m' z = m₀ z) : m' = upd [(n1, v1), (n2, v2), (n3, v3), (n4, v4)] m₀ :=
  upd_of _ (fun p hp => by
    rcases List.mem_cons.mp hp with rfl | hp
    · exact h1
    · rcases List.mem_cons.mp hp with rfl | hp
      · exact h2
      · rcases List.mem_cons.mp hp with rfl | hp
        · exact h3
        · rw [List.mem_singleton.mp hp]; exact h4) fun z h => hz z (h _ (.head _)) (h _ (.tail _ (.head _))) (h _ (.tail _ (.tail _ (.head _)))) (h _ (.tail _ (.tail _ (.tail _ (.head _)))))
theorem upd_same {m₀ : Str → Option Value} (l : List (Str × Option Value)) (h : ∀ p ∈ l, m₀ p.1 = p.2) : m₀ = upd l m₀ := upd_of l h fun _ _ => rfl
theorem rangeSz {a b : Int} : Builtin.Range.rangeSize a b 1 = ((b - a).toNat : Int) := by
  unfold Builtin.Range.rangeSize
  rw [if_pos (by decide)]
  split
  · rw [Int.ediv_one]; omega
  · omega
theorem rangeSm {a b : Int} (ha : -1000000 ≤ a) (ha' : a ≤ 1000000) (hb : -1000000 ≤ b) (hb' : b ≤ 1000000) : Builtin.Range.small a b 1 = true := small_one (by omega) (by omega) (by omega) (by omega)
section
variable {prog : Program} {w : World} {A : Around} {E : Value → Shared → Prop} {s : Shared} {env : Env} {h₀ : Heap} {target : Expr} {body : List Stmt} {Q : Flow → Shared → Prop}
theorem unrPostW_mono {L : Addr} {s₁ : Shared} {its : Led} {r r' : (Str → Option Value) → Led → Prop} {f : Flow} {s₂ : Shared}
    (h : UnrPostW h₀ L s₁ its r Q f s₂) (hr : ∀ m n, r m n → r' m n) : UnrPostW h₀ L s₁ its r' Q f s₂ := by
  have key : UnrEndW h₀ L s₁ its r s₂ → UnrEndW h₀ L s₁ its r' s₂ := fun ⟨h', tk, m', news', e, F, N, o, q⟩ => ⟨h', tk, m', news', e, F, N, o, hr _ _ q⟩
  cases f with
  | ret v => exact h
  | brk => exact h
  | next => exact key h
  | cont => exact key h
theorem itemsJ {I : Addr} {cls : String} {lp : Addr × Obj} (J : List Value → (Str → Option Value) → Led → Prop)
    (turn : ∀ v r m news (it : Obj) h tk, J (v :: r) m news → it.cls = .type cls → Fr h₀ env.locals h m → News h₀ env.locals h ((I, it) :: news) →
      wpAny (model prog w) A (assign target env v) (fun _ s₂ => wpAny (model prog w) A (execs body env) (UnrPostW h₀ env.locals { s with heap := h, toks := tk } [(I, it)] (fun m' n' => SubL [lp] n' ∧ J r m' n') Q) E s₂) E { s with heap := h, toks := tk })
    (done : ∀ m news h tk, J [] m news → Fr h₀ env.locals h m → News h₀ env.locals h news → Q .next { s with heap := h, toks := tk }) :
    ∀ vs m news, J vs m news → ItemsRest prog w A E h₀ env target body Q s [(I, cls)] [lp] (vs.map .val) m news
  | [], m, news, j => ItemsRest.zero fun h tk F N => done m news h tk j F N
  | v :: r, m, news, j => ItemsRest.val fun h tk F => AllObj.cons fun o hc => AllObj.nil fun N =>
      wpAny_mono (turn v r m news o h tk j hc F N) (fun _ _ p => wpAny_mono p (fun _ _ p => unrPostW_mono p fun m' n' q => ⟨q.1, itemsJ J turn done r m' n' q.2⟩) fun _ _ e => e) fun _ _ e => e
end
end Mine

end
-- part V1
section
open PySem PySem.W PySem.Calls PyProof.Rows
namespace Mine
open Builtin.Int (intBits)
/-- a Whitespace lies in the ledger -/
structure WsIn (w : World) (news : Led) (x : Addr) (s : WsSt) where
  dx : Addr
  D : Addr
  D1 : Addr
  raw : Value
  cvs : List Value
  k1 : Tok
  k2 : Tok
  k3 : Tok
  k4 : Tok
  k5 : Tok
  tn : Tok
  tnt : Tok
  tb : Tok
  h1 : (x, instObj 139 dx) ∈ news
  h2 : (dx, wsDict w raw (.ref D) s k1 k2 k3 k4 k5 tn tnt) ∈ news
  h3 : (D, tupO [.ref D1, .int s.b tb]) ∈ news
  h4 : (D1, tupO cvs) ∈ news
  h5 : IntsAre cvs s.cs
noncomputable def WsIn.sub {w : World} {news news' : Led} {x : Addr} {s : WsSt} (h : WsIn w news x s) (hs : ∀ p ∈ news, p ∈ news') : WsIn w news' x s :=
  { h with h1 := hs _ h.h1, h2 := hs _ h.h2, h3 := hs _ h.h3, h4 := hs _ h.h4 }
/-- the sum that indent_level makes -/
noncomputable def ilTo (ts : Int) (cs : List Int) : Nat → Int
  | 0 => 0
  | k + 1 => ilTo ts cs k + (ts + (k : Int)).fdiv ts * cs.getD (ts + (k : Int)).toNat 0
noncomputable def indentZ (ts : Int) (s : WsSt) : Int := s.b + ts * (ilTo ts s.cs ((s.cs.length : Int) - ts).toNat + s.nt)
theorem ilTo_zero (ts : Int) (cs : List Int) : ilTo ts cs 0 = 0 := rfl
/-- between two turns: the names il and i alone are turned -/
noncomputable def JI (ts : Int) (cs : List Int) (m₀ : Str → Option Value) (stat : Led) (k : Nat) (m : Str → Option Value) (news : Led) : Prop :=
  ∃ (u : Option Value) (t : Tok), news = stat ∧ m = upd [(Str.ofString "il", some (.int (ilTo ts cs k) t)), (Str.ofString "i", u)] m₀
theorem JI.start {ts : Int} {cs : List Int} {m₀ : Str → Option Value} {stat : Led} {t : Tok} (h : m₀ (Str.ofString "il") = some (.int 0 t)) : JI ts cs m₀ stat 0 m₀ stat :=
  ⟨m₀ (Str.ofString "i"), t, rfl, upd2 h rfl fun _ _ _ => rfl⟩
theorem unrEnd_JI {h₀ h' : Heap} {L I : Addr} {it : Obj} {m' m₀ : Str → Option Value} {stat : Led} {ts v : Int} {cs : List Int} {k tk : Nat} {s₁ : Shared} {t : Tok}
    (N : News h₀ L h' ((I, it) :: stat)) (F : Fr h₀ L h' m') (h1 : m' (Str.ofString "il") = some (.int v t)) (hv : v = ilTo ts cs (k + 1)) (hz : ∀ z, ¬ z = Str.ofString "il" → ¬ z = Str.ofString "i" → m' z = m₀ z) (hoff : ∀ p ∈ stat, p.1 ≠ I) :
    UnrEnd h₀ L s₁ I it (fun m' n' => JI ts cs m₀ stat (k + 1) m' n') { s₁ with heap := h', toks := tk } :=
  UnrEnd.intro F N stat (fun _ h => h) hoff ⟨m' (Str.ofString "i"), t, rfl, upd2 (hv ▸ h1) rfl hz⟩
theorem lenT {prog : Program} {w : World} {A : Around} {E : Value → Shared → Prop} {s : Shared} {t : Addr} {vs : List Value} {ns : List Int} {Q : Value → Shared → Prop} (ht : IsTup s.heap t vs.toArray) (hi : IntsAre vs ns) (hfit : ns.length < 2 ^ 62)
    (h : Q (.int (ns.length : Nat) (s.toks + 1)) { s with toks := s.toks + 1 + 1 }) : wpAny (model prog w) A (call (.builtin "len") [.ref t]) Q E s := by
  have e : vs.toArray.size = ns.length := by simp [hi.length]
  refine PyProof.Rows.len_tuple ht (by omega) ?_
  rw [e]
  exact h
set_option maxRecDepth 100000 in
set_option maxHeartbeats 2000000 in
theorem indent (w : World) (x : Addr) (ts : Int) (tt : Tok) (st : WsSt) (news : Led) (W : WsIn w news x st) (h1 : 1 ≤ ts) (h2 : ts ≤ 100) (hl : st.cs.length ≤ 64) :
    DoesC w 108 [.ref x, .int ts tt] 4 80 news (fun r news' => (∃ t, r = .int (indentZ ts st) t) ∧ news' = news) := by
  (k_with_none; w_top off)
  k_with "execs cons" => (k_here; (fail_if_success k_gentoks); (fail_if_success (with_reducible show wpAny _ _ (execs (Stmt.While _ _ _ _ :: _) _) _ _ _)); (fail_if_success (with_reducible show wpAny _ _ (execs (Stmt.For _ _ _ _ _ :: _) _) _ _ _)); (with_reducible refine execsQ ?_); intro Q9 hQ9)
  k_with "AtQ" => ((try dsimp only); first | ((with_reducible refine AtQ.next hQ9 ?_); clear hQ9; (try clear Q9)) | ((with_reducible refine AtQ.ret hQ9 ?_); clear hQ9; (try clear Q9); (try dsimp only)) | ((with_reducible refine AtQ.brk hQ9 ?_); clear hQ9; (try clear Q9); (try dsimp only)) | ((with_reducible refine AtQ.cont hQ9 ?_); clear hQ9; (try clear Q9); (try dsimp only)) | ((with_reducible refine AtQ.go hQ9 ?_); clear hQ9; (try clear Q9); (try dsimp only); (try k_fold)))
  k_with "k_mem" => first | assumption | (refine' List.mem_cons_of_mem _ ?_; assumption) | (refine' List.mem_cons_of_mem _ (List.mem_cons_of_mem _ ?_); assumption)
  k_with "k_all" => (tbn_letter; first | assumption | (refine' ne_mono ?h1u3 ?h2u3; (case h1u3 => tbn_find); (case h2u3 => omega)))
  k_with "call builtin:len" => (k_here; (with_reducible show wpAny _ _ (call (Value.builtin _) [Value.ref _]) _ _ _); k_dflt (refine' lenT ?k1u4 ?k2u4 ?k3u4 ?_; (case k1u4 => exact News.isTup (by k_asm) (by k_mem)); (case k2u4 => assumption); (case k3u4 => assumption); k_whole))
  k_with "subscriptTail" => (k_here; (with_reducible show wpAny _ _ (subscriptTail _ _ (Value.ref _) (Value.int _ _)) _ _ _); k_dflt (refine' item_tuple_ints ?k1u5 ?k2u5 ?k3u5 ?k4u5 ?k5u5 ?_ ?k6u5 ?k7u5; (case k1u5 => exact News.isTup (by k_asm) (by k_mem)); (case k2u5 => assumption); (case k3u5 => omega); (case k4u5 => omega); (case k5u5 => omega); (case k6u5 => with_unfolding_all rfl); (case k7u5 => (intro _; with_unfolding_all rfl)); k_whole); intro t9)
  k_with "exec For Name Call cons nil" => (k_here; (rename Fr _ _ _ _ => lF'); (with_unfolding_all refine' For_invVF lF' ?k1u6 ?k2u6 ?_; (case k1u6 => exact rfl); (case k2u6 => exact rfl); k_whole))
  k_with "binaryOp Mult int int" => (k_here; (with_reducible refine' PyProof.Rows.mul_int ?_ ?hmmu7); (case hmmu7 => first | assumption | exact IntMulOk.of_left (by assumption)))
  k_with "UnrEnd" => (k_dflt (refine' unrEnd_JI ?Nu8 ?Fu8 ?h1u8 ?hvu8 ?hzu8 ?hoffu8; (case Nu8 => assumption); (case Fu8 => assumption); (case h1u8 => exact rfl); (case hvu8 => exact rfl); (case hzu8 => (intro z9 a9 b9; simp only [upd, if_neg a9, if_neg b9])); (case hoffu8 => k_all)))
  obtain ⟨dx, D, D1, raw, cvs, k1, k2, k3, k4, k5, tn, tnt, tb, m1, m2, m3, m4, hi⟩ := W
  have hfit : st.cs.length < 2 ^ 62 := by omega
  have hts : ts ≠ 0 := by omega
  have hm1 : IntMulOk ts (ilTo ts st.cs ((st.cs.length : Int) - ts).toNat + st.nt) := IntMulOk.of_left (intBits_le_64 (by omega) (by omega))
  have hm2 : ∀ k : Nat, k < ((st.cs.length : Int) - ts).toNat → IntMulOk ((ts + (k : Int)).fdiv ts) (st.cs.getD (ts + (k : Int)).toNat 0) := fun k hk => by
    have e : (ts + (k : Int)).fdiv ts = (ts + (k : Int)) / ts := fdiv_pos (by omega)
    have a := Int.ediv_nonneg (show 0 ≤ ts + (k : Int) by omega) (show 0 ≤ ts by omega)
    have b := Int.ediv_le_self ts (show 0 ≤ ts + (k : Int) by omega)
    rw [e]
    exact IntMulOk.of_left (intBits_le_64 (by omega) (by omega))
  unfold DoesC
  k_fill
  intro dp un gd cn cs aa ccd cl outer A₀ base h₀ L m p loose mean mg mb s Q E C1 C2 B F X N T hk hd hu hret
  refine wpAny_call ?_
  k_dflt ktr_enter
  k_with "pyIter ref" => (k_here; (with_reducible show wpAny _ _ (pyIter (Value.ref _)) (fun it s₂ => LoopAtV _ _ _ _ _ _ _ _ _ it s₂) _ _); (rename Fr _ _ _ _ => lF'); (rename News _ _ _ _ => lN'); (rename IsRange _ _ _ _ _ _ _ _ => rgX); (with_unfolding_all refine' iter_rangeUnr (by rfl) rgX (rangeSm (by omega) (by omega) (by omega) (by omega)) rangeSz lF' lN' ?rest); intro I5 l5; (try k_lt l5); (refine' rangeJ (JI ts st.cs _ _) ?turnu9 ?doneu9 _ _ _ _ (Nat.zero_add _) ?startu9; (case startu9 => (refine' JI.start ?s1u9; (case s1u9 => exact rfl))); (case' doneu9 => (intro m news h tk hJ F5 N5; (with_reducible refine genG ?_); intro X9 hX9; obtain ⟨u, t, e1, e2⟩ := hJ; subst e1; subst e2; (with_reducible refine hX9 ?_); clear hX9 X9; clear lF' lN' rgX; (try k_fold))); (case' turnu9 => (intro i m news h tk t0 hin hJ F5 N5; (with_reducible refine genG ?_); intro X9 hX9; obtain ⟨u, t, e1, e2⟩ := hJ; subst e1; subst e2; (have hm3 := hm2 i hin); (with_reducible refine hX9 ?_); clear hX9 X9; clear lF' lN' rgX; (try k_fold)))))
  k_steps
  all_goals exact hret _ _ _ _ (by assumption) (by assumption) ⟨⟨_, rfl⟩, rfl⟩
end Mine

end
-- part V2
section
open PySem PySem.W PySem.Calls PyProof.Rows
namespace Mine
open Builtin.Int (intBits)
noncomputable def longestZ (s : WsSt) : Int := if s.b > (s.cs.length : Int) - 1 then s.b else (s.cs.length : Int) - 1
set_option maxRecDepth 100000 in
set_option maxHeartbeats 300000 in
theorem longest (w : World) (x : Addr) (st : WsSt) (news : Led) (W : WsIn w news x st) (hl : st.cs.length ≤ 64) :
    DoesC w 101 [.ref x] 4 80 news (fun r news' => (∃ t, r = .int (longestZ st) t) ∧ news' = news) := by
  (k_with_none; w_top off)
  k_with "execs cons" => (k_here; (fail_if_success k_gentoks); (fail_if_success (with_reducible show wpAny _ _ (execs (Stmt.While _ _ _ _ :: _) _) _ _ _)); (fail_if_success (with_reducible show wpAny _ _ (execs (Stmt.For _ _ _ _ _ :: _) _) _ _ _)); (with_reducible refine execsQ ?_); intro Q9 hQ9)
  k_with "AtQ" => ((try dsimp only); first | ((with_reducible refine AtQ.next hQ9 ?_); clear hQ9; (try clear Q9)) | ((with_reducible refine AtQ.ret hQ9 ?_); clear hQ9; (try clear Q9); (try dsimp only)) | ((with_reducible refine AtQ.brk hQ9 ?_); clear hQ9; (try clear Q9); (try dsimp only)) | ((with_reducible refine AtQ.cont hQ9 ?_); clear hQ9; (try clear Q9); (try dsimp only)) | ((with_reducible refine AtQ.go hQ9 ?_); clear hQ9; (try clear Q9); (try dsimp only); (try k_fold)))
  k_with "k_mem" => first | assumption | (refine' List.mem_cons_of_mem _ ?_; assumption) | (refine' List.mem_cons_of_mem _ (List.mem_cons_of_mem _ ?_); assumption)
  k_with "call builtin:len" => (k_here; (with_reducible show wpAny _ _ (call (Value.builtin _) [Value.ref _]) _ _ _); k_dflt (refine' lenT ?k1u3 ?k2u3 ?k3u3 ?_; (case k1u3 => exact News.isTup (by k_asm) (by k_mem)); (case k2u3 => assumption); (case k3u3 => assumption); k_whole))
  obtain ⟨dx, D, D1, raw, cvs, k1, k2, k3, k4, k5, tn, tnt, tb, m1, m2, m3, m4, hi⟩ := W
  have hfit : st.cs.length < 2 ^ 62 := by omega
  unfold DoesC
  k_fill
  intro dp un gd cn cs aa ccd cl outer A₀ base h₀ L m p loose mean mg mb s Q E C1 C2 B F X N T hk hd hu hret
  refine wpAny_call ?_
  k_dflt ktr_enter
  k_steps
  all_goals exact hret _ _ _ _ (by assumption) (by assumption) ⟨⟨_, rfl⟩, rfl⟩
theorem eqNorm {prog : Program} {w : World} {A : Around} {E : Value → Shared → Prop} {s : Shared} {h₀ : Heap} {L D D1 G G1 : Addr} {news : Led} {cvs dvs : List Value} {cs ds : List Int} {b c : Int} {tb tc : Tok} {Q : Value → Shared → Prop}
    (N : News h₀ L s.heap news) (m3 : (D, tupO [.ref D1, .int b tb]) ∈ news) (m4 : (D1, tupO cvs) ∈ news) (hi : IntsAre cvs cs) (n3 : (G, tupO [.ref G1, .int c tc]) ∈ news) (n4 : (G1, tupO dvs) ∈ news) (hj : IntsAre dvs ds)
    (hu : A.units + 64 < cLine) (h : Q (.bool (decide (cs = ds ∧ b = c))) s) : wpAny (model prog w) A (compareOp .Eq (.ref D) (.ref G)) Q E s := by
  have sh : ∀ (l : List Int) (k : Int), SeqAt.shaped (.tuple [.tuple (l.map PyData.int), .int k]) = true := fun l k => by
    simp [SeqAt.shaped, PyData.canLay0, PyData.canLayAll0, PyData.depth, PyData.depthAll, ke_canLayAll0, ke_depthAll]
  refine eq_dataH (reads_tuple_at (N.get m3) rfl rfl (.cons (reads_tuple_at (N.get m4) rfl rfl (hi.reads _)) (.cons (.int _ _) .nil))) (reads_tuple_at (N.get n3) rfl rfl (.cons (reads_tuple_at (N.get n4) rfl rfl (hj.reads _)) (.cons (.int _ _) .nil))) (sh _ _) (sh _ _) hu ?_
  have e : PyData.eqv (.tuple [.tuple (cs.map PyData.int), .int b]) (.tuple [.tuple (ds.map PyData.int), .int c]) = decide (cs = ds ∧ b = c) := by
    simp only [PyData.eqv, PyData.eqvAll, ked_eqvAll, Bool.and_true]
    by_cases h1 : cs = ds <;> by_cases h2 : b = c <;> simp [h1, h2]
  rw [e]
  exact h
set_option maxRecDepth 100000 in
set_option maxHeartbeats 1000000 in
theorem equalW (w : World) (x y : Addr) (st su : WsSt) (news : Led) (W : WsIn w news x st) (V : WsIn w news y su) :
    DoesC w 115 [.ref x, .ref y] 4 160 news (fun r news' => r = .bool (decide (st.cs = su.cs ∧ st.b = su.b)) ∧ news' = news) := by
  (k_with_none; w_top off)
  k_with "execs cons" => (k_here; (fail_if_success k_gentoks); (fail_if_success (with_reducible show wpAny _ _ (execs (Stmt.While _ _ _ _ :: _) _) _ _ _)); (fail_if_success (with_reducible show wpAny _ _ (execs (Stmt.For _ _ _ _ _ :: _) _) _ _ _)); (with_reducible refine execsQ ?_); intro Q9 hQ9)
  k_with "AtQ" => ((try dsimp only); first | ((with_reducible refine AtQ.next hQ9 ?_); clear hQ9; (try clear Q9)) | ((with_reducible refine AtQ.ret hQ9 ?_); clear hQ9; (try clear Q9); (try dsimp only)) | ((with_reducible refine AtQ.brk hQ9 ?_); clear hQ9; (try clear Q9); (try dsimp only)) | ((with_reducible refine AtQ.cont hQ9 ?_); clear hQ9; (try clear Q9); (try dsimp only)) | ((with_reducible refine AtQ.go hQ9 ?_); clear hQ9; (try clear Q9); (try dsimp only); (try k_fold)))
  k_with "k_mem" => first | assumption | (refine' List.mem_cons_of_mem _ ?_; assumption) | (refine' List.mem_cons_of_mem _ (List.mem_cons_of_mem _ ?_); assumption)
  k_with "call builtin:len" => (k_here; (with_reducible show wpAny _ _ (call (Value.builtin _) [Value.ref _]) _ _ _); k_dflt (refine' lenT ?k1u7 ?k2u7 ?k3u7 ?_; (case k1u7 => exact News.isTup (by k_asm) (by k_mem)); (case k2u7 => assumption); (case k3u7 => assumption); k_whole))
  k_with "compareOp Eq ref ref" => (k_here; (with_reducible show wpAny _ _ (compareOp CmpOp.Eq (Value.ref _) (Value.ref _)) _ _ _); k_dflt (refine' eqNorm ?Nu8 ?m3u8 ?m4u8 ?hiu8 ?n3u8 ?n4u8 ?hju8 ?huu8 ?_; (case Nu8 => k_asm); (case m3u8 => assumption); (case m4u8 => assumption); (case hiu8 => assumption); (case n3u8 => assumption); (case n4u8 => assumption); (case hju8 => assumption); (case huu8 => ktr_units); k_whole))
  obtain ⟨dx, D, D1, raw, cvs, k1, k2, k3, k4, k5, tn, tnt, tb, m1, m2, m3, m4, hi⟩ := W
  obtain ⟨dy, G, G1, rawy, dvs, k1y, k2y, k3y, k4y, k5y, tny, tnty, tby, m1y, m2y, m3y, m4y, hiy⟩ := V
  unfold DoesC
  k_fill
  intro dp un gd cn cs aa ccd cl outer A₀ base h₀ L m p loose mean mg mb s Q E C1 C2 B F X N T hk hd hu hret
  refine wpAny_call ?_
  k_dflt ktr_enter
  k_steps
  all_goals exact hret _ _ _ _ (by assumption) (by assumption) ⟨rfl, rfl⟩
end Mine

end
-- part V3
section
open PySem PySem.W PySem.Calls PyProof.Rows
namespace Mine
open Builtin.Int (intBits)
/-- a Whitespace of a bounded text -/
structure WsBd (s : WsSt) : Prop where
  l : s.cs.length ≤ 64
  b0 : 0 ≤ s.b
  b1 : s.b ≤ 64
noncomputable def maxZ (a b : Int) : Int := if b > a then b else a
noncomputable def topZ (s u : WsSt) : Int := maxZ (longestZ s) (longestZ u) + 1
noncomputable def lessB (s u : WsSt) : Bool :=
  if s.n ≥ u.n then false else if (s.cs.length : Int) ≤ 1 ∧ (u.cs.length : Int) ≤ 1 then decide (s.nt ≤ u.nt)
  else (List.range (topZ s u + 1 - 2).toNat).all fun k => decide (indentZ (2 + (k : Int)) s < indentZ (2 + (k : Int)) u)
theorem WsBd.longest {s : WsSt} (h : WsBd s) : -1 ≤ longestZ s ∧ longestZ s ≤ 64 := by
  obtain ⟨l, b0, b1⟩ := h
  unfold longestZ
  split <;> omega
theorem WsBd.top {s u : WsSt} (h : WsBd s) (g : WsBd u) : 0 ≤ topZ s u ∧ topZ s u ≤ 65 := by
  have a := h.longest
  have b := g.longest
  unfold topZ maxZ
  split <;> omega
theorem b0_top {s u : WsSt} (h : 0 ≤ topZ s u ∧ topZ s u ≤ 65) : -1000000 ≤ topZ s u + 1 := by omega
theorem b1_top {s u : WsSt} (h : 0 ≤ topZ s u ∧ topZ s u ≤ 65) : topZ s u + 1 ≤ 1000000 := by omega
theorem in_top {s u : WsSt} {i : Nat} (h : 0 ≤ topZ s u ∧ topZ s u ≤ 65) (hi : i < (topZ s u + 1 - 2).toNat) : 2 + (i : Int) ≤ 100 := by omega
/-- between two turns of less -/
noncomputable def JL (s u : WsSt) (m₀ : Str → Option Value) (stat : Led) (k : Nat) (m : Str → Option Value) (news : Led) : Prop :=
  ∃ v : Option Value, news = stat ∧ m = upd [(Str.ofString "ts", v)] m₀ ∧ ∀ i : Nat, i < k → indentZ (2 + (i : Int)) s < indentZ (2 + (i : Int)) u
theorem JL.start {s u : WsSt} {m₀ : Str → Option Value} {stat : Led} : JL s u m₀ stat 0 m₀ stat :=
  ⟨m₀ (Str.ofString "ts"), rfl, upd1 rfl fun _ _ => rfl, fun _ h => (nomatch h)⟩
theorem unrEnd_JL {h₀ h' : Heap} {L I : Addr} {it : Obj} {m' m₀ : Str → Option Value} {stat : Led} {s u : WsSt} {k tk : Nat} {s₁ : Shared}
    (N : News h₀ L h' ((I, it) :: stat)) (F : Fr h₀ L h' m') (hz : ∀ z, ¬ z = Str.ofString "ts" → m' z = m₀ z) (hoff : ∀ p ∈ stat, p.1 ≠ I)
    (hp : ∀ i : Nat, i < k → indentZ (2 + (i : Int)) s < indentZ (2 + (i : Int)) u) (hn : ¬ indentZ (2 + (k : Int)) u ≤ indentZ (2 + (k : Int)) s) :
    UnrEnd h₀ L s₁ I it (fun m' n' => JL s u m₀ stat (k + 1) m' n') { s₁ with heap := h', toks := tk } :=
  UnrEnd.intro F N stat (fun _ h => h) hoff ⟨m' (Str.ofString "ts"), rfl, upd1 rfl hz, fun i hi => by
    rcases Nat.lt_succ_iff_lt_or_eq.mp hi with h | h
    · exact hp i h
    · subst h; omega⟩
theorem less_n {s u : WsSt} (h : u.n ≤ s.n) : false = lessB s u := by
  unfold lessB
  rw [if_pos (by omega)]
theorem less_simple {s u : WsSt} (h1 : ¬ u.n ≤ s.n) (h2 : (s.cs.length : Int) ≤ 1) (h3 : (u.cs.length : Int) ≤ 1) : decide (s.nt ≤ u.nt) = lessB s u := by
  unfold lessB
  rw [if_neg (by omega), if_pos ⟨h2, h3⟩]
theorem less_true {s u : WsSt} (h1 : ¬ u.n ≤ s.n) (h2 : ¬ ((s.cs.length : Int) ≤ 1 ∧ (u.cs.length : Int) ≤ 1)) (h3 : ∀ i : Nat, i < (topZ s u + 1 - 2).toNat → indentZ (2 + (i : Int)) s < indentZ (2 + (i : Int)) u) : true = lessB s u := by
  unfold lessB
  rw [if_neg (by omega), if_neg h2]
  symm
  rw [List.all_eq_true]
  intro k hk
  exact decide_eq_true (h3 k (List.mem_range.mp hk))
theorem less_false {s u : WsSt} {i : Nat} (h1 : ¬ u.n ≤ s.n) (h2 : ¬ ((s.cs.length : Int) ≤ 1 ∧ (u.cs.length : Int) ≤ 1)) (hi : i < (topZ s u + 1 - 2).toNat) (h3 : indentZ (2 + (i : Int)) u ≤ indentZ (2 + (i : Int)) s) : false = lessB s u := by
  unfold lessB
  rw [if_neg (by omega), if_neg h2]
  symm
  rw [List.all_eq_false]
  exact ⟨i, List.mem_range.mpr hi, by simp; omega⟩
set_option maxRecDepth 100000 in
set_option maxHeartbeats 2000000 in
theorem lessW (w : World) (x y : Addr) (st su : WsSt) (news : Led) (W : WsIn w news x st) (V : WsIn w news y su) (hs : WsBd st) (hv : WsBd su) :
    DoesC w 129 [.ref x, .ref y] 8 240 news (fun r news' => r = .bool (lessB st su) ∧ news' = news) := by
  (k_with_none; w_top off)
  k_with "execs cons" => (k_here; (fail_if_success k_gentoks); (fail_if_success (with_reducible show wpAny _ _ (execs (Stmt.While _ _ _ _ :: _) _) _ _ _)); (fail_if_success (with_reducible show wpAny _ _ (execs (Stmt.For _ _ _ _ _ :: _) _) _ _ _)); (with_reducible refine execsQ ?_); intro Q9 hQ9)
  k_with "AtQ" => ((try dsimp only); first | ((with_reducible refine AtQ.next hQ9 ?_); clear hQ9; (try clear Q9)) | ((with_reducible refine AtQ.ret hQ9 ?_); clear hQ9; (try clear Q9); (try dsimp only)) | ((with_reducible refine AtQ.brk hQ9 ?_); clear hQ9; (try clear Q9); (try dsimp only)) | ((with_reducible refine AtQ.cont hQ9 ?_); clear hQ9; (try clear Q9); (try dsimp only)) | ((with_reducible refine AtQ.go hQ9 ?_); clear hQ9; (try clear Q9); (try dsimp only); (try k_fold)))
  k_with "k_all" => (tbn_letter; first | assumption | (refine' ne_mono ?h1u2 ?h2u2; (case h1u2 => tbn_find); (case h2u2 => omega)) | exact fun p9 h9 => Nat.ne_of_lt ((by assumption : ∀ p ∈ _, p.1 < _) p9 h9))
  k_with "k_mem" => first | assumption | (refine' List.mem_cons_of_mem _ ?_; assumption) | (refine' List.mem_cons_of_mem _ (List.mem_cons_of_mem _ ?_); assumption)
  k_with "exec For Name Call cons nil" => (k_here; (rename Fr _ _ _ _ => lF'); (with_unfolding_all refine' For_invVF lF' ?k1u4 ?k2u4 ?_; (case k1u4 => exact rfl); (case k2u4 => exact rfl); k_whole))
  k_with "UnrEnd" => (k_dflt (refine' unrEnd_JL ?Nu5 ?Fu5 ?hzu5 ?hoffu5 ?hpu5 ?hnu5; (case Nu5 => assumption); (case Fu5 => assumption); (case hpu5 => assumption); (case hnu5 => assumption); (case hzu5 => (intro z9 a9; simp only [upd, if_neg a9])); (case hoffu5 => k_all)))
  have W' := W
  have V' := V
  have hsl := hs.l
  have hvl := hv.l
  have ht := hs.top hv
  obtain ⟨dx, D, D1, raw, cvs, k1, k2, k3, k4, k5, tn, tnt, tb, m1, m2, m3, m4, hi⟩ := W
  obtain ⟨dy, G, G1, rawy, dvs, k1y, k2y, k3y, k4y, k5y, tny, tnty, tby, m1y, m2y, m3y, m4y, hiy⟩ := V
  unfold DoesC
  k_fill
  intro dp un gd cn cs aa ccd cl outer A₀ base h₀ L m p loose mean mg mb s Q E C1 C2 B F X N T hk hd hu hret
  refine wpAny_call ?_
  k_dflt ktr_enter
  k_with "call ref" => (k_here; (with_reducible show wpAny _ _ (call (Value.ref 101) _) _ _ _); (with_reducible refine genQ ?_); intro Q9 hQ9; k_dflt (refine' DoesC.use ?c1u6 ?c2u6 ?k1u6 ?k2u6 ?k3u6 ?k4u6 ?k5u6 ?kKu6 (longest w x st _ (WsIn.sub W' ?subu6) hsl) ?kdu6 ?kuu6 ?_; (case c1u6 => kn_code); (case c2u6 => kn_code); (case k1u6 => k_asm); (case k2u6 => k_asm); (case k3u6 => k_asm); (case k4u6 => k_asm); (case k5u6 => k_asm); (case kKu6 => first | exact rfl | assumption); (case subu6 => first | exact fun _ h => h | exact fun _ h => List.mem_cons_of_mem _ h); (case kdu6 => ktr_room); (case kuu6 => ktr_units); k_whole); intro r9 news9 h9 tk9 F9 N9 hp9; obtain ⟨⟨t9, e91⟩, e92⟩ := hp9; subst e91; rw [e92] at N9; clear e92)
  k_with "call ref" => (k_here; (with_reducible show wpAny _ _ (call (Value.ref 101) _) _ _ _); (with_reducible refine genQ ?_); intro Q9 hQ9; k_dflt (refine' DoesC.use ?c1u7 ?c2u7 ?k1u7 ?k2u7 ?k3u7 ?k4u7 ?k5u7 ?kKu7 (longest w y su _ (WsIn.sub V' ?subu7) hvl) ?kdu7 ?kuu7 ?_; (case c1u7 => kn_code); (case c2u7 => kn_code); (case k1u7 => k_asm); (case k2u7 => k_asm); (case k3u7 => k_asm); (case k4u7 => k_asm); (case k5u7 => k_asm); (case kKu7 => first | exact rfl | assumption); (case subu7 => first | exact fun _ h => h | exact fun _ h => List.mem_cons_of_mem _ h); (case kdu7 => ktr_room); (case kuu7 => ktr_units); k_whole); intro r9 news9 h9 tk9 F9 N9 hp9; obtain ⟨⟨t9, e91⟩, e92⟩ := hp9; subst e91; rw [e92] at N9; clear e92)
  k_with "call ref" => (k_here; (with_reducible show wpAny _ _ (call (Value.ref 108) _) _ _ _); (with_reducible refine genQ ?_); intro Q9 hQ9; k_dflt (refine' DoesC.use ?c1u8 ?c2u8 ?k1u8 ?k2u8 ?k3u8 ?k4u8 ?k5u8 ?kKu8 (indent w x _ _ st _ (WsIn.sub W' ?subu8) ?p1u8 ?p2u8 hsl) ?kdu8 ?kuu8 ?_; (case c1u8 => kn_code); (case c2u8 => kn_code); (case k1u8 => k_asm); (case k2u8 => k_asm); (case k3u8 => k_asm); (case k4u8 => k_asm); (case k5u8 => k_asm); (case kKu8 => first | exact rfl | assumption); (case subu8 => first | exact fun _ h => h | exact fun _ h => List.mem_cons_of_mem _ h); (case p1u8 => omega); (case p2u8 => omega); (case kdu8 => ktr_room); (case kuu8 => ktr_units); k_whole); intro r9 news9 h9 tk9 F9 N9 hp9; obtain ⟨⟨t9, e91⟩, e92⟩ := hp9; subst e91; rw [e92] at N9; clear e92)
  k_with "call ref" => (k_here; (with_reducible show wpAny _ _ (call (Value.ref 108) _) _ _ _); (with_reducible refine genQ ?_); intro Q9 hQ9; k_dflt (refine' DoesC.use ?c1u9 ?c2u9 ?k1u9 ?k2u9 ?k3u9 ?k4u9 ?k5u9 ?kKu9 (indent w y _ _ su _ (WsIn.sub V' ?subu9) ?p1u9 ?p2u9 hvl) ?kdu9 ?kuu9 ?_; (case c1u9 => kn_code); (case c2u9 => kn_code); (case k1u9 => k_asm); (case k2u9 => k_asm); (case k3u9 => k_asm); (case k4u9 => k_asm); (case k5u9 => k_asm); (case kKu9 => first | exact rfl | assumption); (case subu9 => first | exact fun _ h => h | exact fun _ h => List.mem_cons_of_mem _ h); (case p1u9 => omega); (case p2u9 => omega); (case kdu9 => ktr_room); (case kuu9 => ktr_units); k_whole); intro r9 news9 h9 tk9 F9 N9 hp9; obtain ⟨⟨t9, e91⟩, e92⟩ := hp9; subst e91; rw [e92] at N9; clear e92)
  k_with "pyIter ref" => (k_here; (with_reducible show wpAny _ _ (pyIter (Value.ref _)) (fun it s₂ => LoopAtV _ _ _ _ _ _ _ _ _ it s₂) _ _); (rename Fr _ _ _ _ => lF'); (rename News _ _ _ _ => lN'); (rename IsRange _ _ _ _ _ _ _ _ => rgX); (with_unfolding_all refine' iter_rangeUnr (by rfl) rgX (rangeSm (by decide) (by decide) (b0_top ht) (b1_top ht)) rangeSz lF' lN' ?_); intro I5 l5; (try k_lt l5); (refine' rangeJ (JL st su _ _) ?_ ?_ _ _ _ _ (Nat.zero_add _) JL.start); rotate_left; (intro m news7 h tk hJ F5 N5; (with_reducible refine genG ?_); intro X9 hX9; obtain ⟨u, e1, e2, e3⟩ := hJ; rw [e1] at N5; clear e1; subst e2; (with_reducible refine hX9 ?_); clear hX9 X9; clear lF' lN' rgX; (try k_fold)); rotate_left; (intro i m news7 h tk t0 hin hJ F5 N5; (with_reducible refine genG ?_); intro X9 hX9; obtain ⟨u, e1, e2, e3⟩ := hJ; rw [e1] at N5; clear e1; subst e2; (have hin2 := in_top ht hin); (have hin3 : 1 ≤ 2 + (i : Int) := by omega); (with_reducible refine hX9 ?_); clear hX9 X9; clear lF' lN' rgX; (try k_fold)))
  k_steps
  all_goals first
    | exact hret _ _ _ _ (by assumption) (by assumption) ⟨congrArg Value.bool (less_n (by assumption)), rfl⟩
    | exact hret _ _ _ _ (by assumption) (by assumption) ⟨congrArg Value.bool (less_simple (by assumption) (by assumption) (by assumption)), rfl⟩
    | exact hret _ _ _ _ (by assumption) (by assumption) ⟨congrArg Value.bool (less_true (by assumption) (by omega) (by assumption)), rfl⟩
    | exact hret _ _ _ _ (by assumption) (cb_drop (news' := _ :: news) (by assumption) (fun _ h => List.mem_cons_of_mem _ h)) ⟨congrArg Value.bool (less_false (by assumption) (by omega) (by assumption) (by assumption)), rfl⟩
end Mine

end
-- part V4
section
open PySem PySem.W PySem.Calls PyProof.Rows
namespace Mine
open Builtin.Int (intBits)
/-- a table's rows lie in the ledger -/
inductive RowsIn (news : Led) : List Value → List (Int × Int × Int) → Prop
  | nil : RowsIn news [] []
  | cons {d : Addr} {a b c : Int} {t1 t2 t3 : Tok} {vs : List Value} {rows : List (Int × Int × Int)} : (d, tupO [.int a t1, .int b t2, .int c t3]) ∈ news → RowsIn news vs rows → RowsIn news (.ref d :: vs) ((a, b, c) :: rows)
theorem RowsIn.sub {news news' : Led} {vs : List Value} {rows : List (Int × Int × Int)} (h : RowsIn news vs rows) (hs : ∀ p ∈ news, p ∈ news') : RowsIn news' vs rows := by
  induction h with
  | nil => exact .nil
  | cons hm _ ih => exact .cons (hs _ hm) ih
theorem RowsIn.snoc {news : Led} {vs : List Value} {rows : List (Int × Int × Int)} {d : Addr} {a b c : Int} {t1 t2 t3 : Tok} (h : RowsIn news vs rows) (hm : (d, tupO [.int a t1, .int b t2, .int c t3]) ∈ news) : RowsIn news (vs ++ [.ref d]) (rows ++ [(a, b, c)]) := by
  induction h with
  | nil => exact .cons hm .nil
  | cons h1 _ ih => exact .cons h1 ih
theorem RowsIn.length {news : Led} {vs : List Value} {rows : List (Int × Int × Int)} (h : RowsIn news vs rows) : vs.length = rows.length := by
  induction h with
  | nil => rfl
  | cons _ _ ih => rw [List.length_cons, List.length_cons, ih]
/-- the table of the sizes up to k -/
noncomputable def rowsTo (s u : WsSt) : Nat → List (Int × Int × Int)
  | 0 => []
  | k + 1 => if indentZ (1 + (k : Int)) s ≠ indentZ (1 + (k : Int)) u then rowsTo s u k ++ [(1 + (k : Int), indentZ (1 + (k : Int)) s, indentZ (1 + (k : Int)) u)] else rowsTo s u k
theorem rowsTo_len (s u : WsSt) : ∀ k, (rowsTo s u k).length ≤ k
  | 0 => Nat.le_refl _
  | k + 1 => by
    unfold rowsTo
    have := rowsTo_len s u k
    split
    · rw [List.length_append]; simp; omega
    · omega
/-- between two turns of not_equal_witness -/
inductive JT (s u : WsSt) (I da : Addr) (m₀ : Str → Option Value) (stat : Led) (k : Nat) (m : Str → Option Value) (news : Led) : Prop
  | mk (v : Option Value) (tl : Led) (vs : List Value) (nn : Nat)
    (hh1 : news = (da, listOf vs.toArray nn) :: (tl ++ stat))
    (hh2 : RowsIn tl vs (rowsTo s u k))
    (hh3 : (∀ p ∈ tl, @LT.lt Nat _ I p.1))
    (hh4 : m = upd [(Str.ofString "ts", v)] m₀) : JT s u I da m₀ stat k m news
theorem JT.start {s u : WsSt} {I da : Addr} {m₀ : Str → Option Value} {stat : Led} : JT s u I da m₀ stat 0 m₀ ((da, listOf #[] 0) :: stat) :=
  ⟨m₀ (Str.ofString "ts"), [], [], 0, rfl, .nil, fun _ h => (nomatch h), upd1 rfl fun _ _ => rfl⟩
theorem unrEnd_JT0 {h₀ h' : Heap} {L I da : Addr} {it : Obj} {m' m₀ : Str → Option Value} {stat tl : Led} {vs : List Value} {s u : WsSt} {k tk nn : Nat} {s₁ : Shared}
    (N : News h₀ L h' ((I, it) :: (da, listOf vs.toArray nn) :: (tl ++ stat))) (F : Fr h₀ L h' m') (hz : ∀ z, ¬ z = Str.ofString "ts" → m' z = m₀ z) (hoff : ∀ p ∈ stat, p.1 ≠ I) (hda : @LT.lt Nat _ da I)
    (hr : RowsIn tl vs (rowsTo s u k)) (hp : ∀ p ∈ tl, @LT.lt Nat _ I p.1) (hn : indentZ (1 + (k : Int)) s = indentZ (1 + (k : Int)) u) :
    UnrEnd h₀ L s₁ I it (fun m' n' => JT s u I da m₀ stat (k + 1) m' n') { s₁ with heap := h', toks := tk } := by
  refine UnrEnd.intro F N ((da, listOf vs.toArray nn) :: (tl ++ stat)) (fun _ h => h) (fun p h => ?_) ⟨m' (Str.ofString "ts"), tl, vs, nn, rfl, ?_, hp, upd1 rfl hz⟩
  · rcases List.mem_cons.mp h with rfl | h
    · exact Nat.ne_of_lt hda
    · rcases List.mem_append.mp h with h | h
      · exact Nat.ne_of_gt (hp p h)
      · exact hoff p h
  · unfold rowsTo
    rw [if_neg (fun h => h hn)]
    exact hr
theorem unrEnd_JT1 {h₀ h' : Heap} {L I da D : Addr} {it : Obj} {m' m₀ : Str → Option Value} {stat tl : Led} {vs : List Value} {s u : WsSt} {k tk nn : Nat} {s₁ : Shared} {t1 t2 t3 : Tok} {its : Array Value}
    (N : News h₀ L h' ((D, tupO [.int (1 + (k : Int)) t1, .int (indentZ (1 + (k : Int)) s) t2, .int (indentZ (1 + (k : Int)) u) t3]) :: (I, it) :: (da, listOf (vs.toArray.push (.ref D)) (nn + 1)) :: (tl ++ stat))) (F : Fr h₀ L h' m') (hz : ∀ z, ¬ z = Str.ofString "ts" → m' z = m₀ z) (hoff : ∀ p ∈ stat, p.1 ≠ I) (hda : @LT.lt Nat _ da I) (hD : @LT.lt Nat _ I D)
    (hr : RowsIn tl vs (rowsTo s u k)) (hp : ∀ p ∈ tl, @LT.lt Nat _ I p.1) (hn : indentZ (1 + (k : Int)) s ≠ indentZ (1 + (k : Int)) u) :
    UnrEnd h₀ L s₁ I it (fun m' n' => JT s u I da m₀ stat (k + 1) m' n') { s₁ with heap := h', toks := tk } := by
  refine UnrEnd.intro F N ((da, listOf (vs.toArray.push (.ref D)) (nn + 1)) :: (((D, tupO [.int (1 + (k : Int)) t1, .int (indentZ (1 + (k : Int)) s) t2, .int (indentZ (1 + (k : Int)) u) t3]) :: tl) ++ stat)) (fun p h => ?_) (fun p h => ?_) ⟨m' (Str.ofString "ts"), (D, tupO [.int (1 + (k : Int)) t1, .int (indentZ (1 + (k : Int)) s) t2, .int (indentZ (1 + (k : Int)) u) t3]) :: tl, vs ++ [.ref D], nn + 1, by simp, ?_, ?_, upd1 rfl hz⟩
  · simp only [List.mem_cons, List.cons_append] at h ⊢
    rcases h with h | h | h | h <;> simp [h]
  · simp only [List.mem_cons, List.cons_append] at h
    rcases h with rfl | rfl | h
    · exact Nat.ne_of_lt hda
    · exact Nat.ne_of_gt hD
    · rcases List.mem_append.mp h with h | h
      · exact Nat.ne_of_gt (hp p h)
      · exact hoff p h
  · unfold rowsTo
    rw [if_pos hn]
    exact (hr.sub fun _ h => .tail _ h).snoc (.head _)
  · intro p h
    rcases List.mem_cons.mp h with rfl | h
    · exact hD
    · exact hp p h
inductive PostT (news : Led) (rows : List (Int × Int × Int)) (r : Value) (news' : Led) : Prop
  | mk (d : Addr) (vs : List Value) (nn : Nat) (tl : Led)
    (hh1 : r = .ref d)
    (hh2 : RowsIn tl vs rows)
    (hh3 : news' = (d, listOf vs.toArray nn) :: (tl ++ news))
    (hh4 : (∀ p ∈ news, p.1 < d))
    (hh5 : (∀ p ∈ tl, @LT.lt Nat _ d p.1)) : PostT news rows r news'
theorem ltT {tl : Led} {I d : Addr} (h : ∀ p ∈ tl, @LT.lt Nat _ I p.1) (hd : @LT.lt Nat _ d I) : ∀ p ∈ tl, @LT.lt Nat _ d p.1 := fun p hp => Nat.lt_trans hd (h p hp)
theorem in_top1 {s u : WsSt} {i : Nat} (h : 0 ≤ topZ s u ∧ topZ s u ≤ 65) (hi : i < (topZ s u + 1 - 1).toNat) : 1 + (i : Int) ≤ 100 := by omega
theorem szT {tl : Led} {vs : List Value} {s u : WsSt} {i : Nat} (h : RowsIn tl vs (rowsTo s u i)) (ht : 0 ≤ topZ s u ∧ topZ s u ≤ 65) (hi : i < (topZ s u + 1 - 1).toNat) : vs.toArray.size ≤ sizeLine := by
  have a := h.length
  have b := rowsTo_len s u i
  rw [List.size_toArray, sizeLine_eq]
  omega
theorem subW1 {x y : Addr × Obj} {tl stat : Led} : ∀ p ∈ stat, p ∈ x :: y :: (tl ++ stat) := fun p h => .tail _ (.tail _ (List.mem_append.mpr (.inr h)))
theorem subW2 {x y : Addr × Obj} {stat : Led} : ∀ p ∈ stat, p ∈ x :: y :: stat := fun p h => .tail _ (.tail _ h)
theorem offT {tl stat : Led} {I da : Addr} (h1 : ∀ p ∈ tl, @LT.lt Nat _ I p.1) (h2 : ∀ p ∈ stat, p.1 < da) (h3 : @LT.lt Nat _ da I) : ∀ p ∈ tl ++ stat, p.1 ≠ da := fun p h => by
  rcases List.mem_append.mp h with h | h
  · exact Nat.ne_of_gt (Nat.lt_trans h3 (h1 p h))
  · exact Nat.ne_of_lt (h2 p h)
set_option maxRecDepth 100000 in
set_option maxHeartbeats 2000000 in
theorem witnessW (w : World) (x y : Addr) (st su : WsSt) (news : Led) (W : WsIn w news x st) (V : WsIn w news y su) (hs : WsBd st) (hv : WsBd su) :
    DoesC w 122 [.ref x, .ref y] 8 240 news (PostT news (rowsTo st su (topZ st su + 1 - 1).toNat)) := by
  (k_with_none; w_top off)
  k_with "execs cons" => (k_here; (fail_if_success k_gentoks); (fail_if_success (with_reducible show wpAny _ _ (execs (Stmt.While _ _ _ _ :: _) _) _ _ _)); (fail_if_success (with_reducible show wpAny _ _ (execs (Stmt.For _ _ _ _ _ :: _) _) _ _ _)); (with_reducible refine execsQ ?_); intro Q9 hQ9)
  k_with "AtQ" => ((try dsimp only); first | ((with_reducible refine AtQ.next hQ9 ?_); clear hQ9; (try clear Q9)) | ((with_reducible refine AtQ.ret hQ9 ?_); clear hQ9; (try clear Q9); (try dsimp only)) | ((with_reducible refine AtQ.brk hQ9 ?_); clear hQ9; (try clear Q9); (try dsimp only)) | ((with_reducible refine AtQ.cont hQ9 ?_); clear hQ9; (try clear Q9); (try dsimp only)) | ((with_reducible refine AtQ.go hQ9 ?_); clear hQ9; (try clear Q9); (try dsimp only); (try k_fold)))
  k_with "k_all" => (tbn_letter; first | assumption | (refine' ne_mono ?h1u2 ?h2u2; (case h1u2 => tbn_find); (case h2u2 => omega)) | exact fun p9 h9 => Nat.ne_of_lt ((by assumption : ∀ p ∈ _, p.1 < _) p9 h9))
  k_with "k_mem" => first | assumption | (refine' List.mem_cons_of_mem _ ?_; assumption) | (refine' List.mem_cons_of_mem _ (List.mem_cons_of_mem _ ?_); assumption) | (refine' List.mem_cons_of_mem _ (List.mem_cons_of_mem _ (List.mem_append.mpr (Or.inr ?_))); assumption) | (refine' List.mem_cons_of_mem _ (List.mem_cons_of_mem _ (List.mem_cons_of_mem _ (List.mem_append.mpr (Or.inr ?_)))); assumption)
  k_with "exec For Name Call cons nil" => (k_here; (rename Fr _ _ _ _ => lF'); (with_unfolding_all refine' For_invVF lF' ?k1u4 ?k2u4 ?_; (case k1u4 => exact rfl); (case k2u4 => exact rfl); k_whole))
  k_with "call builtin:list.append" => (k_here; (with_reducible show wpAny _ _ (call (Value.builtin _) [Value.ref _, _]) _ _ _); k_dflt (refine' append_K ?k1u5 ?k2u5 ?k3u5 ?_ ?zu5; (case k1u5 => k_asm); (case k2u5 => k_asm); (case k3u5 => k_upd); (case zu5 => assumption); k_whole); intro h' F' N'; (try k_sweep))
  k_with "UnrEnd" => (k_dflt (first | (refine' unrEnd_JT0 ?Nu6 ?Fu6 ?hzu6 ?hoffu6 ?hdau6 ?hru6 ?hpu6 ?hnu6; (case Nu6 => assumption); (case Fu6 => assumption); (case hru6 => assumption); (case hpu6 => assumption); (case hnu6 => first | assumption | omega); (case hdau6 => omega); (case hzu6 => (intro z9 a9; simp only [upd, if_neg a9])); (case hoffu6 => k_all)) | (refine' unrEnd_JT1 (its := #[]) ?Nu6 ?Fu6 ?hzu6 ?hoffu6 ?hdau6 ?hDu6 ?hru6 ?hpu6 ?hnu6; (case Nu6 => assumption); (case Fu6 => assumption); (case hru6 => assumption); (case hpu6 => assumption); (case hnu6 => first | assumption | omega); (case hdau6 => omega); (case hDu6 => omega); (case hzu6 => (intro z9 a9; simp only [upd, if_neg a9])); (case hoffu6 => k_all))))
  have W' := W
  have V' := V
  have hsl := hs.l
  have hvl := hv.l
  have ht := hs.top hv
  obtain ⟨dx, D, D1, raw, cvs, k1, k2, k3, k4, k5, tn, tnt, tb, m1, m2, m3, m4, hi⟩ := W
  obtain ⟨dy, G, G1, rawy, dvs, k1y, k2y, k3y, k4y, k5y, tny, tnty, tby, m1y, m2y, m3y, m4y, hiy⟩ := V
  unfold DoesC
  k_fill
  intro dp un gd cn cs aa ccd cl outer A₀ base h₀ L m p loose mean mg mb s Q E C1 C2 B F X N T hk hd hu hret
  refine wpAny_call ?_
  k_dflt ktr_enter
  k_with "call ref" => (k_here; (with_reducible show wpAny _ _ (call (Value.ref 101) _) _ _ _); (with_reducible refine genQ ?_); intro Q9 hQ9; k_dflt (refine' DoesC.use ?c1u7 ?c2u7 ?k1u7 ?k2u7 ?k3u7 ?k4u7 ?k5u7 ?kKu7 (longest w x st _ (WsIn.sub W' ?subu7) hsl) ?kdu7 ?kuu7 ?_; (case c1u7 => kn_code); (case c2u7 => kn_code); (case k1u7 => k_asm); (case k2u7 => k_asm); (case k3u7 => k_asm); (case k4u7 => k_asm); (case k5u7 => k_asm); (case kKu7 => first | exact rfl | assumption); (case subu7 => first | exact fun _ h => h | exact subW1 | exact subW2 | exact fun _ h => List.mem_cons_of_mem _ h); (case kdu7 => ktr_room); (case kuu7 => ktr_units); k_whole); intro r9 news9 h9 tk9 F9 N9 hp9; obtain ⟨⟨t9, e91⟩, e92⟩ := hp9; subst e91; rw [e92] at N9; clear e92)
  k_with "call ref" => (k_here; (with_reducible show wpAny _ _ (call (Value.ref 101) _) _ _ _); (with_reducible refine genQ ?_); intro Q9 hQ9; k_dflt (refine' DoesC.use ?c1u8 ?c2u8 ?k1u8 ?k2u8 ?k3u8 ?k4u8 ?k5u8 ?kKu8 (longest w y su _ (WsIn.sub V' ?subu8) hvl) ?kdu8 ?kuu8 ?_; (case c1u8 => kn_code); (case c2u8 => kn_code); (case k1u8 => k_asm); (case k2u8 => k_asm); (case k3u8 => k_asm); (case k4u8 => k_asm); (case k5u8 => k_asm); (case kKu8 => first | exact rfl | assumption); (case subu8 => first | exact fun _ h => h | exact subW1 | exact subW2 | exact fun _ h => List.mem_cons_of_mem _ h); (case kdu8 => ktr_room); (case kuu8 => ktr_units); k_whole); intro r9 news9 h9 tk9 F9 N9 hp9; obtain ⟨⟨t9, e91⟩, e92⟩ := hp9; subst e91; rw [e92] at N9; clear e92)
  k_with "call ref" => (k_here; (with_reducible show wpAny _ _ (call (Value.ref 108) _) _ _ _); (with_reducible refine genQ ?_); intro Q9 hQ9; k_dflt (refine' DoesC.use ?c1u9 ?c2u9 ?k1u9 ?k2u9 ?k3u9 ?k4u9 ?k5u9 ?kKu9 (indent w x _ _ st _ (WsIn.sub W' ?subu9) ?p1u9 ?p2u9 hsl) ?kdu9 ?kuu9 ?_; (case c1u9 => kn_code); (case c2u9 => kn_code); (case k1u9 => k_asm); (case k2u9 => k_asm); (case k3u9 => k_asm); (case k4u9 => k_asm); (case k5u9 => k_asm); (case kKu9 => first | exact rfl | assumption); (case subu9 => first | exact fun _ h => h | exact subW1 | exact subW2 | exact fun _ h => List.mem_cons_of_mem _ h); (case p1u9 => omega); (case p2u9 => omega); (case kdu9 => ktr_room); (case kuu9 => ktr_units); k_whole); intro r9 news9 h9 tk9 F9 N9 hp9; obtain ⟨⟨t9, e91⟩, e92⟩ := hp9; subst e91; rw [e92] at N9; clear e92)
  k_with "call ref" => (k_here; (with_reducible show wpAny _ _ (call (Value.ref 108) _) _ _ _); (with_reducible refine genQ ?_); intro Q9 hQ9; k_dflt (refine' DoesC.use ?c1u10 ?c2u10 ?k1u10 ?k2u10 ?k3u10 ?k4u10 ?k5u10 ?kKu10 (indent w y _ _ su _ (WsIn.sub V' ?subu10) ?p1u10 ?p2u10 hvl) ?kdu10 ?kuu10 ?_; (case c1u10 => kn_code); (case c2u10 => kn_code); (case k1u10 => k_asm); (case k2u10 => k_asm); (case k3u10 => k_asm); (case k4u10 => k_asm); (case k5u10 => k_asm); (case kKu10 => first | exact rfl | assumption); (case subu10 => first | exact fun _ h => h | exact subW1 | exact subW2 | exact fun _ h => List.mem_cons_of_mem _ h); (case p1u10 => omega); (case p2u10 => omega); (case kdu10 => ktr_room); (case kuu10 => ktr_units); k_whole); intro r9 news9 h9 tk9 F9 N9 hp9; obtain ⟨⟨t9, e91⟩, e92⟩ := hp9; subst e91; rw [e92] at N9; clear e92)
  k_with "pyIter ref" => (k_here; (with_reducible show wpAny _ _ (pyIter (Value.ref _)) (fun it s₂ => LoopAtV _ _ _ _ _ _ _ _ _ it s₂) _ _); (rename Fr _ _ _ _ => lF'); (rename News _ _ _ _ => lN'); (rename IsRange _ _ _ _ _ _ _ _ => rgX); (with_unfolding_all refine' iter_rangeUnr (by rfl) rgX (rangeSm (by decide) (by decide) (b0_top ht) (b1_top ht)) rangeSz lF' lN' ?_); intro I5 l5; (try k_lt l5); (refine' rangeJ (JT st su I5 _ _ _) ?_ ?_ _ _ _ _ (Nat.zero_add _) JT.start); rotate_left; (intro m news7 h tk hJ F5 N5; (with_reducible refine genG ?_); intro X9 hX9; obtain ⟨u, tl, vs, nn, e1, e2, e3, e4⟩ := hJ; rw [e1] at N5; clear e1; subst e4; (with_reducible refine hX9 ?_); clear hX9 X9; clear lF' lN' rgX; (try k_fold)); rotate_left; (intro i m news7 h tk t0 hin hJ F5 N5; (with_reducible refine genG ?_); intro X9 hX9; obtain ⟨u, tl, vs, nn, e1, e2, e3, e4⟩ := hJ; rw [e1] at N5; clear e1; subst e4; (have hin2 := in_top1 ht hin); (have hin3 : 1 ≤ 1 + (i : Int) := by omega); (have hsz := szT e2 ht hin); (have hoT := offT e3 (by assumption : ∀ p ∈ news, p.1 < _) (by omega)); (with_reducible refine hX9 ?_); clear hX9 X9; clear lF' lN' rgX; (try k_fold)))
  k_steps
  all_goals exact hret _ _ _ _ (by assumption) (by assumption) ⟨_, _, _, _, rfl, by assumption, rfl, by assumption, ltT e3 (by omega)⟩
end Mine

end
-- part X1
section
open PySem PySem.W PySem.Calls PyProof.Rows
namespace Mine
theorem asc_done {cmp : Nat → Nat → (Bool → Shared → Prop) → Shared → Prop} {Q : Nat → Shared → Prop} {p : Array Nat} {s : Shared} : ∀ (f n : Nat), (∀ k, n ≤ k → k < n + f → ∀ C : Bool → Shared → Prop, C false s → cmp (p.getD k 0) (p.getD (k - 1) 0) C s) → Q (n + f) s → (kas_asc p f n).kasWp cmp Q s
  | 0, n, _, h => h
  | f + 1, n, hc, h => hc n (Nat.le_refl _) (by omega) _ (by
      show KasT.kasWp cmp (if false = true then KasT.ret n else kas_asc p f (n + 1)) Q s
      rw [if_neg (by simp)]
      exact asc_done f (n + 1) (fun k h1 h2 => hc k (by omega) (by omega)) (by rw [show n + 1 + f = n + (f + 1) by omega]; exact h))
theorem sort_done {cmp : Nat → Nat → (Bool → Shared → Prop) → Shared → Prop} {Q : Array Nat → Shared → Prop} {s : Shared} {n : Nat} (h2 : 2 ≤ n) (hc : ∀ k, 1 ≤ k → k < n → ∀ C : Bool → Shared → Prop, C false s → cmp k (k - 1) C s) (h : Q (List.toArray (List.range n)) s) : (kas_sort n).kasWp cmp Q s := by
  have g : ∀ k, k < n → (List.toArray (List.range n)).getD k 0 = k := fun k hk => by simp [Array.getD, hk]
  unfold kas_sort
  rw [KasT.kasWp_bind]
  unfold kas_count
  rw [KasT.kasWp_bind]
  refine asc_done (n - 1) 1 (fun k h1 h3 C hC => ?_) ?_
  · rw [g k (by omega), g (k - 1) (by omega)]
    exact hc k h1 (by omega) C hC
  · have e : 1 + (n - 1) = n := by omega
    rw [e]
    rw [if_pos (by simp)]
    show KasT.kasWp cmp (if n < n then _ else _) Q s
    rw [if_neg (Nat.lt_irrefl _)]
    exact h
theorem RowsIn.at {news : Led} {vs : List Value} {rows : List (Int × Int × Int)} (h : RowsIn news vs rows) : ∀ k, k < rows.length → ∃ d t1 t2 t3, vs.getD k Value.none = .ref d ∧ (d, tupO [.int (rows.getD k (0, 0, 0)).1 t1, .int (rows.getD k (0, 0, 0)).2.1 t2, .int (rows.getD k (0, 0, 0)).2.2 t3]) ∈ news := by
  induction h with
  | nil => intro k hk; cases hk
  | cons hm _ ih =>
    intro k hk
    cases k with
    | zero => exact ⟨_, _, _, _, rfl, hm⟩
    | succ k =>
      obtain ⟨d, t1, t2, t3, e, m⟩ := ih k (by simpa using hk)
      exact ⟨d, t1, t2, t3, by simpa using e, by simpa using m⟩
theorem RowsIn.tups {h₀ h : Heap} {L : Addr} {news : Led} {vs : List Value} {rows : List (Int × Int × Int)} (hr : RowsIn news vs rows) (N : News h₀ L h news) : ∃ fs : List Value, fs.length = rows.length ∧ KatTups h vs fs ∧ ∀ v ∈ fs, ∃ i t, v = .int i t := by
  induction hr with
  | nil => exact ⟨[], rfl, .nil, fun _ h => (nomatch h)⟩
  | cons hm _ ih =>
    obtain ⟨fs, h1, h2, h3⟩ := ih
    refine ⟨_ :: fs, by simp [h1], .cons (N.get hm) rfl rfl rfl h2, fun v hv => ?_⟩
    rcases List.mem_cons.mp hv with rfl | hv
    · exact ⟨_, _, rfl⟩
    · exact h3 v hv
theorem zip_snd : ∀ l : List Value, (l.zip l).map (fun x => x.snd) = l
  | [] => rfl
  | x :: l => congrArg (x :: ·) (zip_snd l)
theorem range_map {vs : List Value} : ((List.toArray (List.range vs.length)).toList.map fun i => vs.getD i Value.none) = vs := by
  apply List.ext_getElem
  · simp
  · intro i h1 h2
    simp [h2]
theorem rowLt {prog : Program} {w : World} {A : Around} {h₀ : Heap} {L : Addr} {news : Led} {s : Shared} {x y : Addr} {a b c a' b' c' : Int} {t1 t2 t3 u1 u2 u3 : Tok} {C : Bool → Shared → Prop} {E : Value → Shared → Prop}
    (N : News h₀ L s.heap news) (hx : (x, tupO [.int a t1, .int b t2, .int c t3]) ∈ news) (hy : (y, tupO [.int a' u1, .int b' u2, .int c' u3]) ∈ news) (hlt : a' < a) (hC : C false s) :
    wpAny (model prog w) A (keyLt' (tuples' true) (.ref x) (.ref y)) C E s := by
  refine kat_lt (N.get hx) rfl (N.get hy) rfl (kat_cons (wpAny_eqBool_int ?_))
  have e : (a == a') = false := by simpa using (by omega : a ≠ a')
  rw [e]
  refine kat_no (oneLt_int ?_)
  have e2 : decide (a < a') = false := by simpa using (by omega : a' ≤ a)
  rw [e2]
  exact hC
theorem sorted_short {prog : Program} {w : World} {A : Around} {E : Value → Shared → Prop} {s : Shared} {h₀ : Heap} {L l : Addr} {m : Str → Option Value} {news : Led} {vs : List Value} {Q : Value → Shared → Prop}
    (F : Fr h₀ L s.heap m) (N : News h₀ L s.heap news) (hl : s.heap.IsList l vs.toArray) (h1 : vs.length < 2)
    (h : ∀ D c h', Fr h₀ L h' m → News h₀ L h' ((D, listOf vs.toArray c) :: news) → (∀ q ∈ news, q.1 < D) → Q (.ref D) { s with heap := h' }) :
    wpAny (model prog w) A (call (.builtin "sorted") [.ref l]) Q E s := by
  refine Calls.call_function_entry kind_sorted plain_sorted entry_sorted (args_sorted1 _) ?_
  unfold Builtin.«sorted»
  refine wpAny_bind (m := checkCount "sorted" 1 1 _) (wpAny_pure ?_)
  refine wpAny_bind (collect_list hl ?_ (by rw [sizeLine_eq]; omega))
  refine wpAny_bind (wpAny_newList ?_ (by rw [sizeLine_eq]; omega))
  have hsz : ((s.heap.push (seqObj "list" #[] 0)).update s.heap.objs.size (Obj.mapSeq (· ++ vs.toArray))).objs.size = s.heap.objs.size + 1 := by
    rw [Heap.size_update, size_push']
  have hoL : (((s.heap.push (seqObj "list" #[] 0)).update s.heap.objs.size (Obj.mapSeq (· ++ vs.toArray))).push (seqObj "list" vs.toArray 0)).get? (s.heap.objs.size + 1) = some (seqObj "list" vs.toArray 0) := by
    rw [← hsz]; exact Heap.get?_push_size _ rfl
  have keep : ∀ b o, s.heap.get? b = some o → (((s.heap.push (seqObj "list" #[] 0)).update s.heap.objs.size (Obj.mapSeq (· ++ vs.toArray))).push (seqObj "list" vs.toArray 0)).get? b = some o := fun b o q => by
    have hlt : b < s.heap.objs.size := Heap.lt_size q
    rw [Heap.get?_push_ne _ _ _ (by rw [hsz]; exact Nat.ne_of_lt (Nat.lt_succ_of_lt hlt)), Heap.get?_update_ne _ _ _ _ (Nat.ne_of_lt hlt), Heap.get?_push_ne _ _ _ (Nat.ne_of_lt hlt)]
    exact q
  have hL : L < s.heap.objs.size := F.ns.lt
  show wpAny _ _ _ _ _ { s with heap := ((s.heap.push (seqObj "list" #[] 0)).update s.heap.objs.size (Obj.mapSeq (· ++ vs.toArray))).push (seqObj "list" vs.toArray 0) }
  rw [hsz]
  have F1 : Fr h₀ L (((s.heap.push (seqObj "list" #[] 0)).update s.heap.objs.size (Obj.mapSeq (· ++ vs.toArray))).push (seqObj "list" vs.toArray 0)) m := F.kept keep
  have N1 := N.grown keep
  have haL : s.heap.objs.size + 1 ≠ L := Nat.ne_of_gt (Nat.lt_succ_of_lt hL)
  have ha0 : h₀.get? (s.heap.objs.size + 1) = none := Heap.get?_none_of_le (Nat.le_trans F.above (Nat.le_succ_of_le (Nat.le_of_lt hL)))
  have hna : ∀ p ∈ news, p.1 ≠ s.heap.objs.size + 1 := fun p hp => Nat.ne_of_lt (Nat.lt_succ_of_lt (Heap.lt_size (N p hp).1))
  have hlt : ∀ p ∈ news, p.1 < s.heap.objs.size + 1 := fun p hp => Nat.lt_succ_of_lt (Heap.lt_size (N p hp).1)
  revert F1 N1 hoL
  generalize ((s.heap.push (seqObj "list" #[] 0)).update s.heap.objs.size (Obj.mapSeq (· ++ vs.toArray))).push (seqObj "list" vs.toArray 0) = H
  intro hoL F1 N1
  refine wpAny_bind (wpAny_holding (wpAny_call_entry slot_list_sort ⟨_, hoL, rfl⟩ entry_list_sort ?body (args_list_sort _)))
  case body =>
    generalize s.heap.objs.size + 1 = a at hoL haL ha0 hna hlt ⊢
    have ha : a < H.objs.size := Heap.lt_size hoL
    have s1 := Heap.SameBut.update H a (Obj.mapSeq fun _ => (#[] : Array Value))
    obtain ⟨e1, ho1⟩ : ∃ e1, (H.update a (Obj.mapSeq fun _ => (#[] : Array Value))).get? a = some (seqObj "list" #[] e1) := ⟨_, get?_update_seq hoL fun _ => #[]⟩
    have F3 : Fr h₀ L (((H.update a (Obj.mapSeq fun _ => (#[] : Array Value))).push (seqObj "tuple" vs.toArray 0)).push (seqObj "list" #[] 0)) m := ((kas_fr F1 s1 haL ha0).push _).push _
    have N2 : News h₀ L (((H.update a (Obj.mapSeq fun _ => (#[] : Array Value))).push (seqObj "tuple" vs.toArray 0)).push (seqObj "list" #[] 0)) news :=
      (kas_news N1 s1 hna).grown fun b x e => Heap.get?_push_of_some _ (Heap.get?_push_of_some _ e)
    have ho3 : (((H.update a (Obj.mapSeq fun _ => (#[] : Array Value))).push (seqObj "tuple" vs.toArray 0)).push (seqObj "list" #[] 0)).get? a = some (seqObj "list" #[] e1) := Heap.get?_push_of_some _ (Heap.get?_push_of_some _ ho1)
    show wpAny (model prog w) A.in1.in1 (Builtin.«list.sort» ⟨[.ref a], []⟩) _ _ { s with heap := H }
    rw [list_sort_plain]
    refine wpAny_bind (listItems_at (s := { s with heap := H }) hoL rfl ?_)
    refine wpAny_bind (listUpdate_at (s := { s with heap := H }) hoL rfl ?_ (by rw [List.size_toArray, sizeLine_eq]; omega) (Nat.zero_le _))
    refine wpAny_bind (seqEpoch_at ho1 rfl ?_)
    refine wpAny_bind (wpAny_newTuple ?_ (by show vs.length ≤ _; rw [sizeLine_eq]; omega))
    refine wpAny_bind (wpAny_newList ?_ (Nat.zero_le _))
    refine wpAny_holding ?_
    show wpAny (model prog w) _ _ _ _ { s with heap := ((H.update a (Obj.mapSeq fun _ => (#[] : Array Value))).push (seqObj "tuple" vs.toArray 0)).push (seqObj "list" #[] 0) }
    dsimp only
    have hn2 : vs.toArray.size < 2 := by rw [List.size_toArray]; exact h1
    rw [if_pos hn2, if_pos hn2]
    refine wpAny_bind (wpAny_pure ?_)
    refine wpAny_bind ?_
    show wpAny _ _ ((pure () : StateT SortSt Sem Unit).run _) _ _ _
    rw [StateT.run_pure]
    refine wpAny_pure ?_
    dsimp only
    have hout : (arrOf (SortSt.mk' general' (vs.toArray.zip vs.toArray) #[] 7 none)).map (·.2) = vs.toArray := by
      show (vs.toArray.zip vs.toArray).map (·.2) = vs.toArray
      apply Array.toList_inj.mp
      simp
      exact zip_snd vs
    rw [hout]
    have s2 := Heap.SameBut.update (((H.update a (Obj.mapSeq fun _ => (#[] : Array Value))).push (seqObj "tuple" vs.toArray 0)).push (seqObj "list" #[] 0)) a (Obj.mapSeq fun _ => vs.toArray)
    obtain ⟨c2, hc2⟩ : ∃ c2, ((((H.update a (Obj.mapSeq fun _ => (#[] : Array Value))).push (seqObj "tuple" vs.toArray 0)).push (seqObj "list" #[] 0)).update a (Obj.mapSeq fun _ => vs.toArray)).get? a = some (seqObj "list" vs.toArray c2) := ⟨_, get?_update_seq ho3 fun _ => vs.toArray⟩
    refine wpAny_bind (seqEpoch_at ho3 rfl ?_)
    refine wpAny_bind (listUpdate_at ho3 rfl ?_ (Nat.zero_le _) (by show vs.toArray.size ≤ _; rw [List.size_toArray, sizeLine_eq]; omega))
    simp only [bne_self_eq_false, Bool.false_eq_true, if_false]
    refine wpAny_pure ⟨_, rfl, wpAny_pure ⟨_, rfl, h a c2 _ (kas_fr F3 s2 haL ha0) (fun p hp => ?_) hlt⟩⟩
    rcases List.mem_cons.mp hp with rfl | hp
    · exact ⟨hc2, haL, ha0⟩
    · exact kas_news N2 s2 hna p hp
/-- sorted(..) of a table whose sizes rise -/
theorem sortedRows {prog : Program} {w : World} {A : Around} {E : Value → Shared → Prop} {s : Shared} {h₀ : Heap} {L l : Addr} {m : Str → Option Value} {news : Led} {vs : List Value} {nn : Nat} {rows : List (Int × Int × Int)} {Q : Value → Shared → Prop}
    (F : Fr h₀ L s.heap m) (N : News h₀ L s.heap news) (hm : (l, listOf vs.toArray nn) ∈ news) (hr : RowsIn news vs rows) (h64 : rows.length < 64) (ho : rows.Pairwise fun x y => x.1 < y.1)
    (h : ∀ D c h', Fr h₀ L h' m → News h₀ L h' ((D, listOf vs.toArray c) :: news) → (∀ q ∈ news, q.1 < D) → Q (.ref D) { s with heap := h' }) :
    wpAny (model prog w) A (call (.builtin "sorted") [.ref l]) Q E s := by
  have hlen := hr.length
  have hl : s.heap.IsList l vs.toArray := News.isList N hm
  by_cases h2 : 2 ≤ vs.length
  · refine kat_sorted F N hl h2 (by omega) fun D e1 h' F' N' l1 => ?_
    have Nn : News h₀ L h' news := fun p hp => N' p (.tail _ hp)
    obtain ⟨fs, f1, f2, f3⟩ := hr.tups Nn
    refine kat_kind (T := .type "int") f2 (by omega) (fun v hv => ?_) rfl ?_
    · obtain ⟨i, t, rfl⟩ := f3 v hv
      exact Looks.of_pure rfl
    · refine sort_done h2 (fun k k1 k2 C hC => ?_) ?_
      · obtain ⟨x, t1, t2, t3, x1, x2⟩ := hr.at k (by omega)
        obtain ⟨y, u1, u2, u3, y1, y2⟩ := hr.at (k - 1) (by omega)
        unfold kas_ask
        rw [x1, y1]
        refine rowLt Nn x2 y2 ?_ hC
        have a := List.pairwise_iff_getElem.mp ho (k - 1) k (by omega) (by omega) (by omega)
        have b1 : rows.getD k (0, 0, 0) = rows[k]'(by omega) := by simp [show k < rows.length by omega]
        have b2 : rows.getD (k - 1) (0, 0, 0) = rows[k - 1]'(by omega) := by simp [show k - 1 < rows.length by omega]
        rw [b1, b2]
        exact a
      · refine KasFin.intro F' N' (UpdF.head fun p hp => Nat.ne_of_lt (l1 p hp)) fun h'' c F'' N'' => ?_
        rw [range_map] at N''
        exact h D c h'' F'' N'' l1
  · exact sorted_short F N hl (by omega) h
noncomputable def rowD (r : Int × Int × Int) : PyData := .tuple [.int r.1, .int r.2.1, .int r.2.2]
theorem RowsIn.reads {h₀ h : Heap} {L : Addr} {news : Led} {vs : List Value} {rows : List (Int × Int × Int)} (hr : RowsIn news vs rows) (N : News h₀ L h news) : ReadsAll h vs (rows.map rowD) [] := by
  induction hr with
  | nil => exact .nil
  | cons hm _ ih => exact .cons (bs := []) (as := []) (reads_tuple_at (N.get hm) rfl rfl (.cons (.int _ _) (.cons (.int _ _) (.cons (.int _ _) .nil)))) ih
theorem eqv_rows : ∀ rows : List (Int × Int × Int), PyData.eqvAll (rows.map rowD) (rows.map rowD) = true
  | [] => by simp [PyData.eqvAll]
  | r :: rows => by simp [PyData.eqvAll, PyData.eqv, rowD, eqv_rows rows]
theorem lay_rows : ∀ rows : List (Int × Int × Int), PyData.canLayAll0 (rows.map rowD) = true
  | [] => by simp [PyData.canLayAll0]
  | r :: rows => by simp [PyData.canLayAll0, PyData.canLay0, rowD, lay_rows rows]
theorem depth_rows : ∀ rows : List (Int × Int × Int), PyData.depthAll (rows.map rowD) ≤ PyData.depthAll [rowD (0, 0, 0)]
  | [] => by simp [PyData.depthAll]
  | r :: rows => by
    have := depth_rows rows
    simp [PyData.depthAll, PyData.depth, rowD] at this ⊢
    omega
theorem ne_rows {prog : Program} {w : World} {A : Around} {E : Value → Shared → Prop} {s : Shared} {h₀ : Heap} {L d D : Addr} {news : Led} {vs : List Value} {nn c : Nat} {rows : List (Int × Int × Int)} {Q : Value → Shared → Prop}
    (N : News h₀ L s.heap news) (hm : (d, listOf vs.toArray nn) ∈ news) (hM : (D, listOf vs.toArray c) ∈ news) (hr : RowsIn news vs rows) (hu : A.units + 64 < cLine) (h : Q (.bool false) s) : wpAny (model prog w) A (compareOp .NotEq (.ref d) (.ref D)) Q E s := by
  have sh : SeqAt.shaped (.list (rows.map rowD)) = true := by
    unfold SeqAt.shaped
    have a : PyData.canLay0 (.list (rows.map rowD)) = true := by simp [PyData.canLay0, lay_rows]
    have b := depth_rows rows
    have b2 : PyData.depthAll [rowD (0, 0, 0)] ≤ 60 := by decide
    have c : PyData.depth (.list (rows.map rowD)) ≤ 64 := by
      simp only [PyData.depth]
      omega
    rw [a, decide_eq_true c]
    rfl
  refine ne_dataH (reads_list_at (N.get hm) rfl rfl (by simpa using hr.reads N)) (reads_list_at (N.get hM) rfl rfl (by simpa using hr.reads N)) sh sh hu ?_
  have e : PyData.eqv (.list (rows.map rowD)) (.list (rows.map rowD)) = true := by simp [PyData.eqv, eqv_rows]
  rw [e]
  exact h
end Mine

end
-- part S1
section
open PySem PySem.W PySem.Calls PyProof.Rows
namespace Mine
open Builtin.Int (intBits)
noncomputable abbrev Row := Int × Int × Int
/-- the predicate's own contract -/
noncomputable def Asks (w : World) (pf : Addr) (stat : Led) (p : Row → Bool) : Prop :=
  ∀ (news' : Led) (d : Addr) (a b c : Int) (t1 t2 t3 : Tok), (∀ q ∈ stat, q ∈ news') → (d, tupO [.int a t1, .int b t2, .int c t3]) ∈ news' → DoesC w pf [.ref d] 3 80 news' (fun r n' => r = .bool (p (a, b, c)) ∧ n' = news')
/-- between two turns of _split_list -/
inductive JS (p : Row → Bool) (all : List Row) (I dy dn : Addr) (m₀ : Str → Option Value) (stat : Led) (vs : List Value) (m : Str → Option Value) (news : Led) : Prop
  | mk (u : Option Value) (done left : List Row) (ys ns : List Value) (n1 n2 : Nat)
    (hh1 : news = (dn, listOf ns.toArray n2) :: (dy, listOf ys.toArray n1) :: stat)
    (hh2 : all = done ++ left)
    (hh3 : RowsIn stat vs left)
    (hh4 : RowsIn stat ys (done.filter p))
    (hh5 : RowsIn stat ns (done.filter fun r => !p r))
    (hh6 : m = upd [(Str.ofString "x", u)] m₀) : JS p all I dy dn m₀ stat vs m news
theorem JS.start {p : Row → Bool} {all : List Row} {I dy dn : Addr} {m₀ : Str → Option Value} {stat : Led} {vs : List Value} (h : RowsIn stat vs all) : JS p all I dy dn m₀ stat vs m₀ ((dn, listOf #[] 0) :: (dy, listOf #[] 0) :: stat) :=
  ⟨m₀ (Str.ofString "x"), [], all, [], [], 0, 0, rfl, rfl, h, .nil, .nil, upd1 rfl fun _ _ => rfl⟩
theorem rows_cons {news : Led} {v : Value} {r : List Value} {rows : List Row} (h : RowsIn news (v :: r) rows) : ∃ d a b c t1 t2 t3 rs, v = .ref d ∧ rows = (a, b, c) :: rs ∧ (d, tupO [.int a t1, .int b t2, .int c t3]) ∈ news ∧ RowsIn news r rs := by
  cases h with
  | cons h1 h2 => exact ⟨_, _, _, _, _, _, _, _, rfl, rfl, h1, h2⟩
theorem rows_nil {news : Led} {rows : List Row} (h : RowsIn news [] rows) : rows = [] := by cases h; rfl
inductive PostS (news : Led) (p : Row → Bool) (rows : List Row) (r : Value) (news' : Led) : Prop
  | mk (d : Addr) (dy : Addr) (dn : Addr) (ys : List Value) (ns : List Value) (n1 : Nat) (n2 : Nat)
    (hh1 : r = .ref d)
    (hh2 : RowsIn news ys (rows.filter p))
    (hh3 : RowsIn news ns (rows.filter fun r => !p r))
    (hh4 : news' = (d, tupO [.ref dy, .ref dn]) :: (dn, listOf ns.toArray n2) :: (dy, listOf ys.toArray n1) :: news)
    (hh5 : (∀ q ∈ news, q.1 < dy))
    (hh6 : @LT.lt Nat _ dy dn)
    (hh7 : @LT.lt Nat _ dn d) : PostS news p rows r news'
theorem unrEnd_JS {h₀ h' : Heap} {L I dy dn d : Addr} {it : Obj} {m' m₀ : Str → Option Value} {stat : Led} {r ys ns ys' ns' : List Value} {n1 n2 tk : Nat} {s₁ : Shared} {p : Row → Bool} {all done rs : List Row} {a b c : Int} {t1 t2 t3 : Tok} {lp : Addr × Obj}
    (N : News h₀ L h' ((I, it) :: (dn, listOf ns'.toArray n2) :: (dy, listOf ys'.toArray n1) :: stat)) (F : Fr h₀ L h' m') (hz : ∀ z, ¬ z = Str.ofString "x" → m' z = m₀ z) (hoff : ∀ p ∈ stat, p.1 ≠ I) (hdy : @LT.lt Nat _ dy I) (hdn : @LT.lt Nat _ dn I)
    (hal : all = done ++ (a, b, c) :: rs) (hv : RowsIn stat r rs) (hm : (d, tupO [.int a t1, .int b t2, .int c t3]) ∈ stat) (hy : RowsIn stat ys (done.filter p)) (hn : RowsIn stat ns (done.filter fun r => !p r)) (hlp : lp ∈ stat)
    (hc : (p (a, b, c) = true ∧ ys' = ys ++ [.ref d] ∧ ns' = ns) ∨ (p (a, b, c) = false ∧ ns' = ns ++ [.ref d] ∧ ys' = ys)) :
    UnrEnd h₀ L s₁ I it (fun m' n' => lp ∈ n' ∧ JS p all I dy dn m₀ stat r m' n') { s₁ with heap := h', toks := tk } := by
  refine UnrEnd.intro F N ((dn, listOf ns'.toArray n2) :: (dy, listOf ys'.toArray n1) :: stat) (fun _ h => h) (fun q h => ?_) ⟨.tail _ (.tail _ hlp), m' (Str.ofString "x"), done ++ [(a, b, c)], rs, ys', ns', n1, n2, rfl, by rw [hal]; simp, hv, ?_, ?_, upd1 rfl hz⟩
  · rcases List.mem_cons.mp h with rfl | h
    · exact Nat.ne_of_lt hdn
    · rcases List.mem_cons.mp h with rfl | h
      · exact Nat.ne_of_lt hdy
      · exact hoff q h
  · rw [List.filter_append]
    rcases hc with ⟨h1, rfl, rfl⟩ | ⟨h1, rfl, rfl⟩
    · simp only [List.filter_cons, h1, if_true, List.filter_nil]
      exact hy.snoc hm
    · simp only [List.filter_cons, h1, Bool.false_eq_true, if_false, List.filter_nil, List.append_nil]
      exact hy
  · rw [List.filter_append]
    rcases hc with ⟨h1, rfl, rfl⟩ | ⟨h1, rfl, rfl⟩
    · simp only [List.filter_cons, h1, Bool.not_true, Bool.false_eq_true, if_false, List.filter_nil, List.append_nil]
      exact hn
    · simp only [List.filter_cons, h1, Bool.not_false, if_true, List.filter_nil]
      exact hn.snoc hm
theorem unrEnd_JSy {h₀ h' : Heap} {L I dy dn d : Addr} {it : Obj} {m' m₀ : Str → Option Value} {stat : Led} {r ys ns : List Value} {n1 n2 tk : Nat} {s₁ : Shared} {p : Row → Bool} {all done rs : List Row} {a b c : Int} {t1 t2 t3 : Tok} {lp : Addr × Obj}
    (N : News h₀ L h' ((I, it) :: (dn, listOf ns.toArray n2) :: (dy, listOf (ys.toArray.push (.ref d)) (n1 + 1)) :: stat)) (F : Fr h₀ L h' m') (hz : ∀ z, ¬ z = Str.ofString "x" → m' z = m₀ z) (hoff : ∀ p ∈ stat, p.1 ≠ I) (hdy : @LT.lt Nat _ dy I) (hdn : @LT.lt Nat _ dn I)
    (hal : all = done ++ (a, b, c) :: rs) (hv : RowsIn stat r rs) (hm : (d, tupO [.int a t1, .int b t2, .int c t3]) ∈ stat) (hy : RowsIn stat ys (done.filter p)) (hn : RowsIn stat ns (done.filter fun r => !p r)) (hlp : lp ∈ stat)
    (hc : p (a, b, c) = true) : UnrEnd h₀ L s₁ I it (fun m' n' => lp ∈ n' ∧ JS p all I dy dn m₀ stat r m' n') { s₁ with heap := h', toks := tk } := by
  rw [List.push_toArray] at N
  exact unrEnd_JS N F hz hoff hdy hdn hal hv hm hy hn hlp (.inl ⟨hc, rfl, rfl⟩)
theorem unrEnd_JSn {h₀ h' : Heap} {L I dy dn d : Addr} {it : Obj} {m' m₀ : Str → Option Value} {stat : Led} {r ys ns : List Value} {n1 n2 tk : Nat} {s₁ : Shared} {p : Row → Bool} {all done rs : List Row} {a b c : Int} {t1 t2 t3 : Tok} {lp : Addr × Obj}
    (N : News h₀ L h' ((I, it) :: (dn, listOf (ns.toArray.push (.ref d)) (n2 + 1)) :: (dy, listOf ys.toArray n1) :: stat)) (F : Fr h₀ L h' m') (hz : ∀ z, ¬ z = Str.ofString "x" → m' z = m₀ z) (hoff : ∀ p ∈ stat, p.1 ≠ I) (hdy : @LT.lt Nat _ dy I) (hdn : @LT.lt Nat _ dn I)
    (hal : all = done ++ (a, b, c) :: rs) (hv : RowsIn stat r rs) (hm : (d, tupO [.int a t1, .int b t2, .int c t3]) ∈ stat) (hy : RowsIn stat ys (done.filter p)) (hn : RowsIn stat ns (done.filter fun r => !p r)) (hlp : lp ∈ stat)
    (hc : p (a, b, c) = false) : UnrEnd h₀ L s₁ I it (fun m' n' => lp ∈ n' ∧ JS p all I dy dn m₀ stat r m' n') { s₁ with heap := h', toks := tk } := by
  rw [List.push_toArray] at N
  exact unrEnd_JS N F hz hoff hdy hdn hal hv hm hy hn hlp (.inr ⟨hc, rfl, rfl⟩)
theorem endS {h₀ h' : Heap} {L d dy dn : Addr} {m : Str → Option Value} {news : Led} {s : Shared} {Q : Value → Shared → Prop} {ys ns : List Value} {n1 n2 tk : Nat} {p : Row → Bool} {rows done left : List Row}
    (hret : ∀ v news' h' tk', Fr h₀ L h' m → News h₀ L h' news' → PostS news p rows v news' → Q v { s with heap := h', toks := tk' })
    (N : News h₀ L h' ((d, tupO [.ref dy, .ref dn]) :: (dn, listOf ns.toArray n2) :: (dy, listOf ys.toArray n1) :: news)) (F : Fr h₀ L h' m) (e2 : rows = done ++ left) (e3 : RowsIn news [] left) (e4 : RowsIn news ys (done.filter p)) (e5 : RowsIn news ns (done.filter fun r => !p r))
    (l1 : ∀ q ∈ news, q.1 < dy) (l2 : @LT.lt Nat _ dy dn) (l3 : @LT.lt Nat _ dn d) : Q (.ref d) { s with heap := h', toks := tk } := by
  obtain rfl := rows_nil e3
  rw [List.append_nil] at e2
  subst e2
  exact hret _ _ _ _ F N ⟨d, dy, dn, ys, ns, n1, n2, rfl, e4, e5, rfl, l1, l2, l3⟩
theorem subS3 {x y z : Addr × Obj} {stat : Led} : ∀ p ∈ stat, p ∈ x :: y :: z :: stat := fun p h => .tail _ (.tail _ (.tail _ h))
theorem szS {stat : Led} {ys : List Value} {p : Row → Bool} {done left all : List Row} (h : RowsIn stat ys (done.filter p)) (ha : all = done ++ left) (hl : all.length ≤ 1000) : ys.toArray.size ≤ sizeLine := by
  have a := h.length
  have b := List.length_filter_le p done
  have c := congrArg List.length ha
  rw [List.length_append] at c
  rw [List.size_toArray, sizeLine_eq]
  omega
set_option maxRecDepth 100000 in
set_option maxHeartbeats 2000000 in
theorem splitW (w : World) (ds pf : Addr) (vs : List Value) (nn : Nat) (rows : List Row) (p : Row → Bool) (news : Led) (oc : Value) (od : Option Addr) (fd : FuncData) (sl : Array (Option Value))
    (hd : (ds, listOf vs.toArray nn) ∈ news) (hf : (pf, (⟨oc, od, .func fd, sl⟩ : Obj)) ∈ news) (hr : RowsIn news vs rows) (hl : rows.length ≤ 1000) (hP : Asks w pf news p) :
    DoesC w 77 [.ref ds, .ref pf] 6 200 news (PostS news p rows) := by
  (k_with_none; w_top off)
  k_with "execs cons" => (k_here; (fail_if_success k_gentoks); (fail_if_success (with_reducible show wpAny _ _ (execs (Stmt.While _ _ _ _ :: _) _) _ _ _)); (fail_if_success (with_reducible show wpAny _ _ (execs (Stmt.For _ _ _ _ _ :: _) _) _ _ _)); (with_reducible refine execsQ ?_); intro Q9 hQ9)
  k_with "AtQ" => ((try dsimp only); first | ((with_reducible refine AtQ.next hQ9 ?_); clear hQ9; (try clear Q9)) | ((with_reducible refine AtQ.ret hQ9 ?_); clear hQ9; (try clear Q9); (try dsimp only)) | ((with_reducible refine AtQ.brk hQ9 ?_); clear hQ9; (try clear Q9); (try dsimp only)) | ((with_reducible refine AtQ.cont hQ9 ?_); clear hQ9; (try clear Q9); (try dsimp only)) | ((with_reducible refine AtQ.go hQ9 ?_); clear hQ9; (try clear Q9); (try dsimp only); (try k_fold)))
  k_with "k_all" => (tbn_letter; first | assumption | (refine' ne_mono ?h1u2 ?h2u2; (case h1u2 => tbn_find); (case h2u2 => omega)) | exact fun p9 h9 => Nat.ne_of_lt ((by assumption : ∀ p ∈ _, p.1 < _) p9 h9))
  k_with "k_mem" => first | assumption | (refine' List.mem_cons_of_mem _ ?_; assumption) | (refine' List.mem_cons_of_mem _ (List.mem_cons_of_mem _ ?_); assumption) | (refine' List.mem_cons_of_mem _ (List.mem_cons_of_mem _ (List.mem_cons_of_mem _ ?_)); assumption)
  k_with "exec For Name Name cons nil" => (k_here; (rename Fr _ _ _ _ => lF'); (with_unfolding_all refine' For_invVF lF' ?k1u4 ?k2u4 ?_; (case k1u4 => exact rfl); (case k2u4 => exact rfl); k_whole))
  k_with "call builtin:list.append" => (k_here; (with_reducible show wpAny _ _ (call (Value.builtin _) [Value.ref _, _]) _ _ _); k_dflt (refine' append_K ?k1u5 ?k2u5 ?k3u5 ?_ ?zu5; (case k1u5 => k_asm); (case k2u5 => k_asm); (case k3u5 => k_upd); (case zu5 => assumption); k_whole); intro h' F' N'; (try k_sweep))
  unfold DoesC
  k_fill
  intro dp un gd cn cs aa ccd cl outer A₀ base h₀ L m p9 loose mean mg mb s Q E C1 C2 B F X N T hk hd9 hu hret
  refine wpAny_call ?_
  k_dflt ktr_enter
  k_with "call ref" => (k_here; (with_reducible show wpAny _ _ (call (Value.ref _) [Value.ref _]) _ _ _); (with_reducible refine genQ ?_); intro Q9 hQ9; k_dflt (refine' DoesC.use ?c1u6 ?c2u6 ?k1u6 ?k2u6 ?k3u6 ?k4u6 ?k5u6 ?kKu6 (hP _ _ _ _ _ _ _ _ ?subu6 ?memu6) ?kdu6 ?kuu6 ?_; (case c1u6 => kn_code); (case c2u6 => kn_code); (case k1u6 => k_asm); (case k2u6 => k_asm); (case k3u6 => k_asm); (case k4u6 => k_asm); (case k5u6 => k_asm); (case kKu6 => first | exact rfl | assumption); (case subu6 => exact subS3); (case memu6 => k_mem); (case kdu6 => ktr_room); (case kuu6 => ktr_units); k_whole); intro r9 news9 h9 tk9 F9 N9 hp9; obtain ⟨e91, e92⟩ := hp9; subst e91; rw [e92] at N9; clear e92)
  k_with "pyIter ref" => (k_here; (with_reducible show wpAny _ _ (pyIter (Value.ref _)) (fun it s₂ => LoopAtV _ _ _ _ _ _ _ _ _ it s₂) _ _); (rename Fr _ _ _ _ => lF'); (rename News _ _ _ _ => lN'); (with_unfolding_all refine' iter_listUnr (by rfl) lF' lN' (by k_mem) (by rfl) (by rfl) ?_); intro I5 l5; (try k_lt l5); (refine' listJ (JS p rows I5 _ _ _ _) ?_ ?_ _ _ _ (JS.start hr)); rotate_left; (intro m news7 h tk hJ F5 N5; (with_reducible refine genG ?_); intro X9 hX9; obtain ⟨u, done, left, ys, ns, n1, n2, e1, e2, e3, e4, e5, e6⟩ := hJ; rw [e1] at N5; clear e1; subst e6; (with_reducible refine hX9 ?_); clear hX9 X9; clear lF' lN'; (try k_fold)); rotate_left; (intro v r m news7 it h tk hJ hic F5 N5; (with_reducible refine genG ?_); intro X9 hX9; obtain ⟨u, done, left, ys, ns, n1, n2, e1, e2, e3, e4, e5, e6⟩ := hJ; rw [e1] at N5; clear e1; subst e6; obtain ⟨d, a, b, c, t1, t2, t3, rs, g1, g2, g3, g4⟩ := rows_cons e3; subst g1; subst g2; (have hz1 := szS e4 e2 hl); (have hz2 := szS e5 e2 hl); (with_reducible refine hX9 ?_); clear hX9 X9; clear lF' lN'; (try k_fold)))
  k_steps
  all_goals first
    | (refine' endS hret ?N88 ?F88 ?e82 ?e83 ?e84 ?e85 ?l81 ?l82 ?l83; (case N88 => assumption); (case F88 => assumption); (case e82 => assumption); (case e83 => assumption); (case e84 => assumption); (case e85 => assumption); (case l81 => assumption); (case l82 => omega); (case l83 => omega))
    | (refine' unrEnd_JSy ?N87 ?F87 ?z87 ?o87 ?y87 ?n87 ?a87 ?v87 ?m87 ?h87 ?i87 ?l87 ?p87; (case N87 => assumption); (case F87 => assumption); (case p87 => assumption); (case a87 => assumption); (case v87 => assumption); (case m87 => assumption); (case h87 => assumption); (case i87 => assumption); (case l87 => assumption); (case y87 => omega); (case n87 => omega); (case o87 => k_all); (case z87 => (intro z9 a9; simp only [upd, if_neg a9])))
    | (refine' unrEnd_JSn ?N86 ?F86 ?z86 ?o86 ?y86 ?n86 ?a86 ?v86 ?m86 ?h86 ?i86 ?l86 ?p86; (case N86 => assumption); (case F86 => assumption); (case p86 => assumption); (case a86 => assumption); (case v86 => assumption); (case m86 => assumption); (case h86 => assumption); (case i86 => assumption); (case l86 => assumption); (case y86 => omega); (case n86 => omega); (case o86 => k_all); (case z86 => (intro z9 a9; simp only [upd, if_neg a9])))
end Mine

end
-- part L1
section
open PySem PySem.W PySem.Calls PyProof.Rows
namespace Mine
open Builtin.Int (intBits)
noncomputable def expo (r : Row) : Int := (if r.2.1 - r.2.2 < 0 then -(r.2.1 - r.2.2) else r.2.1 - r.2.2).fdiv r.1
noncomputable def worthGo (rings : List Int) (rows : List Row) (made : Int) : Int := rows.foldl (fun m r => m * rings.getD r.1.toNat 0 ^ (expo r).toNat) made
/-- a row that law_worth takes -/
structure RowOk (k : Nat) (r : Row) : Prop where
  s1 : 1 ≤ r.1
  s2 : r.1 < (k : Int)
  ne : r.2.1 ≠ r.2.2
  dv : (r.2.1 - r.2.2).fmod r.1 = 0
  e1 : 0 ≤ expo r
  e2 : expo r ≤ 1000
/-- between two turns of _law_worth -/
inductive JO (rings : List Int) (all : List Row) (base : Int) (m₀ : Str → Option Value) (stat : Led) (vs : List Value) (m : Str → Option Value) (news : Led) : Prop
  | mk (u1 u2 u3 : Option Value) (t : Tok) (left : List Row) (made : Int) (k : Nat)
    (hh1 : news = stat)
    (hh2 : RowsIn stat vs left)
    (hh3 : (∀ r ∈ left, r ∈ all))
    (hh4 : worthGo rings left made = worthGo rings all base)
    (hh5 : intBits made ≤ 10000 + 6000001 * k)
    (hh6 : k + left.length = all.length)
    (hh7 : m = upd [(Str.ofString "made", some (.int made t)), (Str.ofString "size", u1), (Str.ofString "here", u2), (Str.ofString "there", u3)] m₀) : JO rings all base m₀ stat vs m news
theorem JO.start {rings : List Int} {all : List Row} {base : Int} {m₀ : Str → Option Value} {stat : Led} {vs : List Value} (h : RowsIn stat vs all) (hb : intBits base ≤ 10000) (hm : ∃ t, m₀ (Str.ofString "made") = some (.int base t)) : JO rings all base m₀ stat vs m₀ stat :=
  let ⟨t, hm⟩ := hm
  ⟨_, _, _, t, all, base, 0, rfl, h, fun _ h => h, rfl, hb, Nat.zero_add _, upd4 hm rfl rfl rfl fun _ _ _ _ _ => rfl⟩
theorem bits_fac {x : Int} {e : Int} (h : intBits x ≤ 6000) (he : e ≤ 1000) : intBits (x ^ e.toNat) ≤ 6000001 :=
  Nat.le_trans (intBits_pow_le h e.toNat) (by have : 6000 * e.toNat ≤ 6000 * 1000 := Nat.mul_le_mul_left _ (by omega); omega)
theorem unrEnd_JO {h₀ h' : Heap} {L I : Addr} {it : Obj} {m' m₀ : Str → Option Value} {stat : Led} {r : List Value} {tk k : Nat} {s₁ : Shared} {rings : List Int} {all rs : List Row} {base made a b c : Int} {t : Tok} {lp : Addr × Obj}
    (N : News h₀ L h' ((I, it) :: stat)) (F : Fr h₀ L h' m') (hz : ∀ z, ¬ z = Str.ofString "made" → ¬ z = Str.ofString "size" → ¬ z = Str.ofString "here" → ¬ z = Str.ofString "there" → m' z = m₀ z) (hoff : ∀ p ∈ stat, p.1 ≠ I)
    (hm : m' (Str.ofString "made") = some (.int (made * rings.getD a.toNat 0 ^ ((if b - c < 0 then -(b - c) else b - c).fdiv a).toNat) t)) (hv : RowsIn stat r rs) (hin : ∀ r ∈ (a, b, c) :: rs, r ∈ all) (hg : worthGo rings ((a, b, c) :: rs) made = worthGo rings all base) (hlp : lp ∈ stat)
    (hmb : intBits made ≤ 10000 + 6000001 * k) (hf : intBits (rings.getD a.toNat 0 ^ ((if b - c < 0 then -(b - c) else b - c).fdiv a).toNat) ≤ 6000001) (hk : k + ((a, b, c) :: rs).length = all.length) :
    UnrEndW h₀ L s₁ [(I, it)] (fun m' n' => SubL [lp] n' ∧ JO rings all base m₀ stat r m' n') { s₁ with heap := h', toks := tk } :=
  ⟨h', tk, m', stat, rfl, F, N, fun p hp q hq => by rw [List.mem_singleton.mp hq]; exact hoff p hp, ⟨hlp, trivial⟩, _, _, _, t, rs, _, k + 1, rfl, hv, fun x hx => hin x (.tail _ hx), hg,
    Nat.le_trans (intBits_mul_le hmb hf) (by omega), by rw [List.length_cons] at hk; omega, upd4 hm rfl rfl rfl hz⟩
theorem worthEnd {news : Led} {left : List Row} {rings : List Int} {made v : Int} (h : RowsIn news [] left) (e : worthGo rings left made = v) : made = v := by
  rw [rows_nil h] at e
  exact e
theorem worthF {rings : List Int} {made a e : Int} {k : Nat} {all rs : List Row} {r : Row} (hrb : ∀ x ∈ rings, intBits x ≤ 6000) (hrl : rings.length ≤ 10) (hmb : intBits made ≤ 10000 + 6000001 * k) (hk : k + (r :: rs).length = all.length) (hl : all.length ≤ 10) (h1 : 1 ≤ a) (h2 : a < rings.length) (he : e ≤ 1000) :
    intBits (rings.getD a.toNat 0 ^ e.toNat) ≤ 6000001 ∧ IntMulOk made (rings.getD a.toNat 0 ^ e.toNat) ∧ (intBits (rings.getD a.toNat 0) : Int) * e ≤ 2 ^ 27 ∧ a ≤ 10 := by
  have hl2 : a.toNat < rings.length := by omega
  have hm : rings.getD a.toNat 0 ∈ rings := by
    have : rings.getD a.toNat 0 = rings[a.toNat] := by simp [List.getD, hl2]
    rw [this]; exact List.getElem_mem hl2
  have hb := hrb _ hm
  have hf := bits_fac hb he
  rw [List.length_cons] at hk
  refine ⟨hf, IntMulOk.of_le hmb hf ?_, ?_, by omega⟩
  · have : 6000001 * k ≤ 6000001 * 10 := Nat.mul_le_mul_left _ (by omega)
    omega
  · have h3 : (intBits (rings.getD a.toNat 0) : Int) * e ≤ (intBits (rings.getD a.toNat 0) : Int) * 1000 := Int.mul_le_mul_of_nonneg_left he (by omega)
    have e27 : (2 : Int) ^ 27 = 134217728 := by decide
    rw [e27]
    omega
set_option maxRecDepth 100000 in
set_option maxHeartbeats 2000000 in
theorem worthW (w : World) (ds dr : Addr) (vs rvs : List Value) (nn nr : Nat) (rows : List Row) (rings : List Int) (base : Int) (tb : Tok) (news : Led)
    (hd : (ds, listOf vs.toArray nn) ∈ news) (hr : RowsIn news vs rows) (hdr : (dr, listOf rvs.toArray nr) ∈ news) (hri : IntsAre rvs rings) (hok : ∀ r ∈ rows, RowOk rings.length r) (hl : rows.length ≤ 10) (hb : intBits base ≤ 10000) (hrb : ∀ x ∈ rings, intBits x ≤ 6000) (hrl : rings.length ≤ 10) :
    DoesC w 169 [.ref ds, .ref dr, .int base tb] 4 80 news (fun r news' => (∃ t, r = .int (worthGo rings rows base) t) ∧ news' = news) := by
  (k_with_none; w_top off)
  k_with "execs cons" => (k_here; (fail_if_success k_gentoks); (fail_if_success (with_reducible show wpAny _ _ (execs (Stmt.While _ _ _ _ :: _) _) _ _ _)); (fail_if_success (with_reducible show wpAny _ _ (execs (Stmt.For _ _ _ _ _ :: _) _) _ _ _)); (with_reducible refine execsQ ?_); intro Q9 hQ9)
  k_with "AtQ" => ((try dsimp only); first | ((with_reducible refine AtQ.next hQ9 ?_); clear hQ9; (try clear Q9)) | ((with_reducible refine AtQ.ret hQ9 ?_); clear hQ9; (try clear Q9); (try dsimp only)) | ((with_reducible refine AtQ.brk hQ9 ?_); clear hQ9; (try clear Q9); (try dsimp only)) | ((with_reducible refine AtQ.cont hQ9 ?_); clear hQ9; (try clear Q9); (try dsimp only)) | ((with_reducible refine AtQ.go hQ9 ?_); clear hQ9; (try clear Q9); (try dsimp only); (try k_fold)))
  k_with "k_all" => (tbn_letter; first | assumption | (refine' ne_mono ?h1u2 ?h2u2; (case h1u2 => tbn_find); (case h2u2 => omega)) | exact fun p9 h9 => Nat.ne_of_lt ((by assumption : ∀ p ∈ _, p.1 < _) p9 h9))
  k_with "k_mem" => first | assumption | (refine' List.mem_cons_of_mem _ ?_; assumption) | (refine' List.mem_cons_of_mem _ (List.mem_cons_of_mem _ ?_); assumption)
  k_with "exec For Tuple Name cons nil" => (k_here; (rename Fr _ _ _ _ => lF'); (with_unfolding_all refine' For_turns lF' ?_; k_whole))
  k_with "binaryOp Mult int int" => (k_here; (with_reducible refine' PyProof.Rows.mul_int ?_ ?hmmu5); (case hmmu5 => assumption))
  k_with "binaryOp Pow int int" => (k_here; (with_reducible refine' PyProof.Rows.pow_int ?hnu6 ?hsu6 ?_); (case hnu6 => assumption); (case hsu6 => assumption))
  unfold DoesC
  k_fill
  intro dp un gd cn cs aa ccd cl outer A₀ base' h₀ L m p9 loose mean mg mb s Q E C1 C2 B F X N T hk hd9 hu hret
  refine wpAny_call ?_
  k_dflt ktr_enter
  k_with "exec Return some" => (exfalso; clear hret; omega)
  k_with "pyIter ref" => (k_here; (with_reducible show wpAny _ _ (pyIter (Value.ref _)) (fun it s₂ => TurnsAt _ _ _ _ _ _ _ _ _ it s₂) _ _); (rename Fr _ _ _ _ => lF'); (rename News _ _ _ _ => lN'); (with_unfolding_all refine' iter_listTurns (by rfl) lF' lN' (by k_mem) (by rfl) (by rfl) ?_); intro I5 l5; (try k_lt l5); (refine' itemsJ (JO rings rows base _ _) ?_ ?_ _ _ _ (JO.start hr hb (by exact ⟨_, rfl⟩))); rotate_left; (intro m news7 h tk hJ F5 N5; (with_reducible refine genG ?_); intro X9 hX9; obtain ⟨u1, u2, u3, t, left, made, k, e1, e2, e3, e4, e5, e6, e7⟩ := hJ; rw [e1] at N5; clear e1; subst e7; (with_reducible refine hX9 ?_); clear hX9 X9; clear lF' lN'; (try k_fold)); rotate_left; (intro v r m news7 it h tk hJ hic F5 N5; (with_reducible refine genG ?_); intro X9 hX9; obtain ⟨u1, u2, u3, t, left, made, k, e1, e2, e3, e4, e5, e6, e7⟩ := hJ; rw [e1] at N5; clear e1; subst e7; obtain ⟨d, a, b, c, t1, t2, t3, rs, g1, g2, g3, g4⟩ := rows_cons e2; subst g1; subst g2; (have hro := hok _ (e3 _ (.head _))); obtain ⟨q1, q2, q3, q4, q5, q6⟩ := hro; (dsimp only [expo] at q1 q2 q3 q4 q5 q6); (obtain ⟨w1, w2, w3, w4⟩ := worthF hrb hrl e5 e6 hl q1 q2 q6); (with_reducible refine hX9 ?_); clear hX9 X9; clear lF' lN'; (try k_fold)))
  k_steps
  all_goals first
    | exact hret _ _ _ _ (by assumption) (by assumption) ⟨⟨_, congrArg (fun z => Value.int z _) (worthEnd e2 e4)⟩, rfl⟩
    | (refine' unrEnd_JO ?N87 ?F87 ?z87 ?o87 ?m87 ?v87 ?i87 ?g87 ?l87 ?b87 ?f87 ?k87; (case N87 => assumption); (case F87 => assumption); (case m87 => exact rfl); (case v87 => assumption); (case i87 => assumption); (case g87 => assumption); (case l87 => assumption); (case b87 => assumption); (case f87 => assumption); (case k87 => assumption); (case o87 => k_all); (case z87 => (intro z9 a9 b9 c9 d9; simp only [upd, if_neg a9, if_neg b9, if_neg c9, if_neg d9])))
end Mine

end
-- part L2
section
open PySem PySem.W PySem.Calls PyProof.Rows
namespace Mine
open Builtin.Int (intBits)
noncomputable def facTo (base : Int) : Nat → Int → Int
  | 0, m => m
  | k + 1, m => facTo base k m * (base ^ (1 + (k : Int)).toNat - 1)
noncomputable def prodGo (base : Int) (ps : List Int) (made : Int) : Int := ps.foldl (fun m p => facTo base (p + 1 - 1).toNat m) made
/-- between two turns of the outer loop of _law_product -/
inductive JP (base : Int) (all : List Int) (m₀ : Str → Option Value) (stat : Led) (vs : List Value) (m : Str → Option Value) (news : Led) : Prop
  | mk (u1 u2 : Option Value) (t : Tok) (left : List Int) (made : Int) (k : Nat)
    (hh1 : news = stat)
    (hh2 : IntsAre vs left)
    (hh3 : (∀ r ∈ left, r ∈ all))
    (hh4 : prodGo base left made = prodGo base all base)
    (hh5 : intBits made ≤ 10000 + 40000 * k)
    (hh6 : k + left.length = all.length)
    (hh7 : m = upd [(Str.ofString "made", some (.int made t)), (Str.ofString "run", u1), (Str.ofString "k", u2)] m₀) : JP base all m₀ stat vs m news
theorem JP.start {base : Int} {all : List Int} {m₀ : Str → Option Value} {stat : Led} {vs : List Value} (h : IntsAre vs all) (hb : intBits base ≤ 10000) (hm : ∃ t, m₀ (Str.ofString "made") = some (.int base t)) : JP base all m₀ stat vs m₀ stat :=
  let ⟨t, hm⟩ := hm
  ⟨_, _, t, all, base, 0, rfl, h, fun _ h => h, rfl, hb, Nat.zero_add _, upd3 hm rfl rfl fun _ _ _ _ => rfl⟩
/-- between two turns of the inner loop -/
noncomputable def JQ (base made : Int) (m₁ : Str → Option Value) (stat : Led) (k : Nat) (m : Str → Option Value) (news : Led) : Prop :=
  ∃ (u : Option Value) (t : Tok), news = stat ∧ m = upd [(Str.ofString "made", some (.int (facTo base k made) t)), (Str.ofString "k", u)] m₁
theorem JQ.start {base made : Int} {m₁ : Str → Option Value} {stat : Led} (hm : ∃ t, m₁ (Str.ofString "made") = some (.int made t)) : JQ base made m₁ stat 0 m₁ stat :=
  let ⟨t, hm⟩ := hm
  ⟨_, t, rfl, upd2 hm rfl fun _ _ _ => rfl⟩
theorem unrEnd_JQ {h₀ h' : Heap} {L I : Addr} {it : Obj} {m' m₁ : Str → Option Value} {stat : Led} {tk k : Nat} {s₁ : Shared} {base made : Int} {t : Tok}
    (N : News h₀ L h' ((I, it) :: stat)) (F : Fr h₀ L h' m') (hz : ∀ z, ¬ z = Str.ofString "made" → ¬ z = Str.ofString "k" → m' z = m₁ z) (hoff : ∀ p ∈ stat, p.1 ≠ I)
    (hm : m' (Str.ofString "made") = some (.int (facTo base k made * (base ^ (1 + (k : Int)).toNat - 1)) t)) : UnrEnd h₀ L s₁ I it (fun m' n' => JQ base made m₁ stat (k + 1) m' n') { s₁ with heap := h', toks := tk } :=
  UnrEnd.intro F N stat (fun _ h => h) hoff ⟨_, t, rfl, upd2 hm rfl hz⟩
theorem unrEnd_JP {h₀ h' : Heap} {L I : Addr} {it : Obj} {m' m₀ : Str → Option Value} {stat : Led} {r : List Value} {tk k : Nat} {s₁ : Shared} {all rs : List Int} {base made p : Int} {t : Tok} {lp : Addr × Obj}
    (N : News h₀ L h' ((I, it) :: stat)) (F : Fr h₀ L h' m') (hz : ∀ z, ¬ z = Str.ofString "made" → ¬ z = Str.ofString "run" → ¬ z = Str.ofString "k" → m' z = m₀ z) (hoff : ∀ p ∈ stat, p.1 ≠ I)
    (hm : m' (Str.ofString "made") = some (.int (facTo base (p + 1 - 1).toNat made) t)) (hv : IntsAre r rs) (hin : ∀ r ∈ p :: rs, r ∈ all) (hg : prodGo base (p :: rs) made = prodGo base all base) (hlp : lp ∈ stat)
    (hmb : intBits (facTo base (p + 1 - 1).toNat made) ≤ 10000 + 40000 * (k + 1)) (hk : k + (p :: rs).length = all.length) :
    UnrEnd h₀ L s₁ I it (fun m' n' => lp ∈ n' ∧ JP base all m₀ stat r m' n') { s₁ with heap := h', toks := tk } :=
  UnrEnd.intro F N stat (fun _ h => h) hoff ⟨hlp, _, _, t, rs, _, k + 1, rfl, hv, fun x hx => hin x (.tail _ hx), hg, hmb, by rw [List.length_cons] at hk; omega, upd3 hm rfl rfl hz⟩
theorem facBits {base made : Int} {j : Nat} (hb : intBits base ≤ 2000) (hm : intBits made ≤ 10000 + 40000 * j) : ∀ k : Nat, k ≤ 4 → intBits (facTo base k made) ≤ 10000 + 40000 * j + 10000 * k ∧ intBits (base ^ (1 + (k : Int)).toNat - 1) ≤ 10003
  | 0, _ => ⟨hm, by
      have h1 : intBits (base ^ (1 + ((0 : Nat) : Int)).toNat) ≤ 2000 * 1 + 1 := intBits_pow_le hb 1
      exact Nat.le_trans (intBits_sub_le h1 (intBits_le_iff.mpr (by decide : (1 : Int).natAbs < 2 ^ 1))) (by omega)⟩
  | k + 1, hk => by
    have h2 : intBits (base ^ (1 + ((k + 1 : Nat) : Int)).toNat) ≤ 2000 * (k + 2) + 1 := by
      have : (1 + ((k + 1 : Nat) : Int)).toNat = k + 2 := by omega
      rw [this]; exact intBits_pow_le hb (k + 2)
    have h3 : intBits (base ^ (1 + (k : Int)).toNat) ≤ 2000 * (k + 1) + 1 := by
      have : (1 + (k : Int)).toNat = k + 1 := by omega
      rw [this]; exact intBits_pow_le hb (k + 1)
    have h4 := intBits_sub_le h3 (intBits_le_iff.mpr (by decide : (1 : Int).natAbs < 2 ^ 1))
    have ih := (facBits hb hm k (by omega)).1
    refine ⟨?_, Nat.le_trans (intBits_sub_le h2 (intBits_le_iff.mpr (by decide : (1 : Int).natAbs < 2 ^ 1))) (by omega)⟩
    have h5 := intBits_mul_le ih h4
    show intBits (facTo base k made * (base ^ (1 + (k : Int)).toNat - 1)) ≤ _
    omega
theorem facMul {base made : Int} {j i : Nat} {p : Int} (hb : intBits base ≤ 2000) (hm : intBits made ≤ 10000 + 40000 * j) (hj : j ≤ 10) (hp : p ≤ 4) (hi : i < (p + 1 - 1).toNat) :
    IntMulOk (facTo base i made) (base ^ (1 + (i : Int)).toNat - 1) ∧ (intBits base : Int) * (1 + (i : Int)) ≤ 2 ^ 27 := by
  obtain ⟨a, b⟩ := facBits hb hm i (by omega)
  refine ⟨IntMulOk.of_le a b (by omega), ?_⟩
  have e27 : (2 : Int) ^ 27 = 134217728 := by decide
  rw [e27]
  have : (intBits base : Int) * (1 + (i : Int)) ≤ 2000 * (1 + (i : Int)) := Int.mul_le_mul_of_nonneg_right (by omega) (by omega)
  omega
theorem jq_out {base made : Int} {m₁ : Str → Option Value} {stat : Led} {k : Nat} {m : Str → Option Value} {news : Led} (h : JQ base made m₁ stat k m news) : ∃ (u : Option Value) (t : Tok), news = stat ∧ m = upd [(Str.ofString "made", some (.int (facTo base k made) t)), (Str.ofString "k", u)] m₁ := h
theorem facMul1 {base made : Int} {j i : Nat} {p : Int} (hb : intBits base ≤ 2000) (hm : intBits made ≤ 10000 + 40000 * j) (hj : j ≤ 10) (hp : p ≤ 4) (hi : i < (p + 1 - 1).toNat) :
    IntMulOk (facTo base i made) (base ^ (1 + (i : Int)).toNat - 1) := (facMul hb hm hj hp hi).1
theorem facMul2 {base made : Int} {j i : Nat} {p : Int} (hb : intBits base ≤ 2000) (hm : intBits made ≤ 10000 + 40000 * j) (hj : j ≤ 10) (hp : p ≤ 4) (hi : i < (p + 1 - 1).toNat) :
    (intBits base : Int) * (1 + (i : Int)) ≤ 2 ^ 27 := (facMul hb hm hj hp hi).2
theorem facEnd {base made : Int} {j : Nat} {p : Int} (hb : intBits base ≤ 2000) (hm : intBits made ≤ 10000 + 40000 * j) (h0 : 0 ≤ p) (hp : p ≤ 4) : intBits (facTo base (p + 1 - 1).toNat made) ≤ 10000 + 40000 * (j + 1) := by
  have := (facBits hb hm (p + 1 - 1).toNat (by omega)).1
  have h2 : 10000 * (p + 1 - 1).toNat ≤ 40000 := by omega
  omega
theorem prodEnd {left : List Int} {base made v : Int} (h : IntsAre [] left) (e : prodGo base left made = v) : made = v := by
  obtain rfl : left = [] := by cases h; rfl
  exact e
set_option maxRecDepth 100000 in
set_option maxHeartbeats 2000000 in
theorem productW (w : World) (ds : Addr) (vs : List Value) (nn : Nat) (ps : List Int) (base : Int) (tb : Tok) (news : Led)
    (hd : (ds, listOf vs.toArray nn) ∈ news) (hi : IntsAre vs ps) (hp : ∀ p ∈ ps, 0 ≤ p ∧ p ≤ 4) (hl : ps.length ≤ 10) (hb : intBits base ≤ 2000) :
    DoesC w 155 [.ref ds, .int base tb] 4 80 news (fun r news' => (∃ t, r = .int (prodGo base ps base) t) ∧ news' = news) := by
  (k_with_none; w_top off)
  k_with "execs cons" => (k_here; (fail_if_success k_gentoks); (fail_if_success (with_reducible show wpAny _ _ (execs (Stmt.While _ _ _ _ :: _) _) _ _ _)); (fail_if_success (with_reducible show wpAny _ _ (execs (Stmt.For _ _ _ _ _ :: _) _) _ _ _)); (with_reducible refine execsQ ?_); intro Q9 hQ9)
  k_with "AtQ" => ((try dsimp only); first | ((with_reducible refine AtQ.next hQ9 ?_); clear hQ9; (try clear Q9)) | ((with_reducible refine AtQ.ret hQ9 ?_); clear hQ9; (try clear Q9); (try dsimp only)) | ((with_reducible refine AtQ.brk hQ9 ?_); clear hQ9; (try clear Q9); (try dsimp only)) | ((with_reducible refine AtQ.cont hQ9 ?_); clear hQ9; (try clear Q9); (try dsimp only)) | ((with_reducible refine AtQ.go hQ9 ?_); clear hQ9; (try clear Q9); (try dsimp only); (try k_fold)))
  k_with "k_all" => (tbn_letter; first | assumption | (refine' ne_mono ?h1u2 ?h2u2; (case h1u2 => tbn_find); (case h2u2 => omega)) | exact fun p9 h9 => Nat.ne_of_lt ((by assumption : ∀ p ∈ _, p.1 < _) p9 h9))
  k_with "k_mem" => first | assumption | (refine' List.mem_cons_of_mem _ ?_; assumption) | (refine' List.mem_cons_of_mem _ (List.mem_cons_of_mem _ ?_); assumption)
  k_with "exec For Name Name cons nil" => (k_here; (rename Fr _ _ _ _ => lF'); (with_unfolding_all refine' For_invVF lF' ?k1u4 ?k2u4 ?_; (case k1u4 => exact rfl); (case k2u4 => exact rfl); k_whole))
  k_with "exec For Name Call cons nil" => (k_here; (rename Fr _ _ _ _ => lF'); (with_unfolding_all refine' For_invVF lF' ?k1u5 ?k2u5 ?_; (case k1u5 => exact rfl); (case k2u5 => exact rfl); k_whole))
  k_with "binaryOp Mult int int" => (k_here; (with_reducible refine' PyProof.Rows.mul_int ?_ ?hmmu6); (case hmmu6 => assumption))
  k_with "binaryOp Pow int int" => (k_here; (with_reducible refine' PyProof.Rows.pow_int ?hnu7 ?hsu7 ?_); (case hnu7 => first | assumption | omega); (case hsu7 => assumption))
  have hb' : intBits base ≤ 10000 := Nat.le_trans hb (by decide)
  unfold DoesC
  k_fill
  intro dp un gd cn cs aa ccd cl outer A₀ base' h₀ L m p9 loose mean mg mb s Q E C1 C2 B F X N T hk hd9 hu hret
  refine wpAny_call ?_
  k_dflt ktr_enter
  k_with "pyIter ref" => focus (k_here; (with_reducible show wpAny _ _ (pyIter (Value.ref _)) (fun it s₂ => LoopAtV _ _ _ _ _ _ _ _ _ it s₂) _ _); (rename Fr _ _ _ _ => lF'); (rename News _ _ _ _ => lN'); (with_unfolding_all refine' iter_listUnr (by rfl) lF' lN' (by k_mem) (by rfl) (by rfl) ?_); intro I5 l5; (try k_lt l5); (refine' listJ (JP base ps _ _) ?_ ?_ _ _ _ (JP.start hi hb' (by exact ⟨_, rfl⟩))); rotate_left; (intro m news7 h tk hJ F5 N5; (with_reducible refine genG ?_); intro X9 hX9; obtain ⟨u1, u2, t, left, made, k, e1, e2, e3, e4, e5, e6, e7⟩ := hJ; rw [e1] at N5; clear e1; subst e7; (with_reducible refine hX9 ?_); clear hX9 X9; clear lF' lN'; (try k_fold)); rotate_left; (intro v r m news7 it h tk hJ hic F5 N5; (with_reducible refine genG ?_); intro X9 hX9; obtain ⟨u1, u2, t, left, made, k, e1, e2, e3, e4, e5, e6, e7⟩ := hJ; rw [e1] at N5; clear e1; subst e7; obtain ⟨p, tp, rs, g1, g2, g3⟩ := ints_cons e2; subst g1; subst g2; obtain ⟨q1, q2⟩ := hp _ (e3 _ (.head _)); (have q3 := facEnd hb e5 q1 q2); (have q4 : k ≤ 10 := by (rw [List.length_cons] at e6; omega)); (with_reducible refine hX9 ?_); clear hX9 X9; clear lF' lN'; (try k_fold)))
  k_with "pyIter ref" => focus (k_here; (with_reducible show wpAny _ _ (pyIter (Value.ref _)) (fun it s₂ => LoopAtV _ _ _ _ _ _ _ _ _ it s₂) _ _); (rename Fr _ _ _ _ => lF'); (rename News _ _ _ _ => lN'); (rename IsRange _ _ _ _ _ _ _ _ => rgX); (with_unfolding_all refine' iter_rangeUnr (by rfl) rgX (rangeSm (by omega) (by omega) (by omega) (by omega)) rangeSz lF' lN' ?_); intro I6 l6; (try k_lt l6); (refine' rangeJ (JQ base made _ _) ?_ ?_ _ _ _ _ (Nat.zero_add _) (JQ.start (by exact ⟨_, rfl⟩))); rotate_left; (intro m news7 h tk hJ F5 N5; (with_reducible refine genG ?_); intro X9 hX9; obtain ⟨u, t7, d1, d2⟩ := jq_out hJ; rw [d1] at N5; clear d1; subst d2; (with_reducible refine hX9 ?_); clear hX9 X9; clear lF' lN' rgX; (try k_fold)); rotate_left; (intro i m news7 h tk t0 hin hJ F5 N5; (with_reducible refine genG ?_); intro X9 hX9; obtain ⟨u, t7, d1, d2⟩ := jq_out hJ; rw [d1] at N5; clear d1; subst d2; (have q5 := facMul1 hb e5 q4 q2 hin); (have q6 := facMul2 hb e5 q4 q2 hin); (with_reducible refine hX9 ?_); clear hX9 X9; clear lF' lN' rgX; (try k_fold)))
  k_steps
  all_goals first
    | exact hret _ _ _ _ (by assumption) (by assumption) ⟨⟨_, congrArg (fun z => Value.int z _) (prodEnd e2 e4)⟩, rfl⟩
    | (refine' unrEnd_JQ ?N87 ?F87 ?z87 ?o87 ?m87; (case N87 => assumption); (case F87 => assumption); (case m87 => exact rfl); (case o87 => k_all); (case z87 => (intro z9 a9 b9; simp only [upd, if_neg a9, if_neg b9])))
    | (refine' unrEnd_JP ?N87 ?F87 ?z87 ?o87 ?m87 ?v87 ?i87 ?g87 ?l87 ?b87 ?k87; (case N87 => assumption); (case F87 => assumption); (case m87 => exact rfl); (case v87 => assumption); (case i87 => assumption); (case g87 => assumption); (case l87 => assumption); (case b87 => assumption); (case k87 => assumption); (case o87 => k_all); (case z87 => (intro z9 a9 b9 c9; simp only [upd, if_neg a9, if_neg b9, if_neg c9])))
end Mine

end
-- part R1
section
open PySem PySem.W PySem.Calls PyProof.Rows
namespace Mine
open Builtin.Int (intBits)
/-- the inner loop of _law_rings -/
noncomputable def ringTo (rs : List Int) (size : Int) (m : Int) : Nat → Int
  | 0 => m
  | k + 1 => if size.fmod (1 + (k : Int)) = 0 then (ringTo rs size m k).fdiv (rs.getD (1 + (k : Int)).toNat 0) else ringTo rs size m k
noncomputable def ringsN (base : Int) : Nat → List Int
  | 0 => [1]
  | i + 1 => ringsN base i ++ [ringTo (ringsN base i) (1 + (i : Int)) (base ^ (1 + (i : Int)).toNat - 1) (1 + (i : Int) - 1).toNat]
theorem fdiv_eq {a b c : Int} (hb : 0 < b) (h : c * b = a) : a.fdiv b = c := by
  subst h
  exact Int.mul_fdiv_cancel _ (Int.ne_of_gt hb)
noncomputable def cyc (q : Int) : List Int := [1, q - 1, q + 1, q ^ 2 + q + 1, q ^ 2 + 1, q ^ 4 + q ^ 3 + q ^ 2 + q + 1]
theorem ringsN_eq (q : Int) (h : 2 ≤ q) : ringsN q 5 = cyc q ∧ ringsN q 4 = (cyc q).take 5 ∧ ringsN q 3 = (cyc q).take 4 ∧ ringsN q 2 = (cyc q).take 3 ∧ ringsN q 1 = (cyc q).take 2 := by
  have e1 : ringsN q 1 = [1, q - 1] := by
    show [1] ++ [q ^ 1 - 1] = _
    rw [Int.pow_succ, Int.pow_zero, Int.one_mul]
    rfl
  have d1 : ∀ x : Int, x.fdiv 1 = x := fun x => fdiv_eq (by decide) (Int.mul_one x)
  have e2 : ringsN q 2 = [1, q - 1, q + 1] := by
    show ringsN q 1 ++ [ringTo (ringsN q 1) 2 (q ^ 2 - 1) 1] = _
    rw [e1]
    have : ringTo [1, q - 1] 2 (q ^ 2 - 1) 1 = q + 1 := by
      show (q ^ 2 - 1).fdiv (q - 1) = q + 1
      exact fdiv_eq (by omega) (by simp only [Int.pow_succ, Int.pow_zero, Int.one_mul]; simp only [Int.add_mul, Int.mul_sub]; omega)
    rw [this]
    rfl
  have e3 : ringsN q 3 = [1, q - 1, q + 1, q ^ 2 + q + 1] := by
    show ringsN q 2 ++ [ringTo (ringsN q 2) 3 (q ^ 3 - 1) 2] = _
    rw [e2]
    have : ringTo [1, q - 1, q + 1] 3 (q ^ 3 - 1) 2 = q ^ 2 + q + 1 := by
      show (q ^ 3 - 1).fdiv (q - 1) = q ^ 2 + q + 1
      exact fdiv_eq (by omega) (by simp only [Int.pow_succ, Int.pow_zero, Int.one_mul]; simp only [Int.add_mul, Int.mul_sub]; omega)
    rw [this]
    rfl
  have e4 : ringsN q 4 = [1, q - 1, q + 1, q ^ 2 + q + 1, q ^ 2 + 1] := by
    show ringsN q 3 ++ [ringTo (ringsN q 3) 4 (q ^ 4 - 1) 3] = _
    rw [e3]
    have : ringTo [1, q - 1, q + 1, q ^ 2 + q + 1] 4 (q ^ 4 - 1) 3 = q ^ 2 + 1 := by
      show ((q ^ 4 - 1).fdiv (q - 1)).fdiv (q + 1) = q ^ 2 + 1
      have : (q ^ 4 - 1).fdiv (q - 1) = (q ^ 2 + 1) * (q + 1) := fdiv_eq (by omega) (by simp only [Int.pow_succ, Int.pow_zero, Int.one_mul]; simp only [Int.add_mul, Int.mul_sub, Int.mul_add]; simp only [Int.mul_one, Int.one_mul, ← Int.mul_assoc]; omega)
      rw [this]
      exact fdiv_eq (by omega) rfl
    rw [this]
    rfl
  have e5 : ringsN q 5 = cyc q := by
    show ringsN q 4 ++ [ringTo (ringsN q 4) 5 (q ^ 5 - 1) 4] = _
    rw [e4]
    have : ringTo [1, q - 1, q + 1, q ^ 2 + q + 1, q ^ 2 + 1] 5 (q ^ 5 - 1) 4 = q ^ 4 + q ^ 3 + q ^ 2 + q + 1 := by
      show (q ^ 5 - 1).fdiv (q - 1) = _
      exact fdiv_eq (by omega) (by simp only [Int.pow_succ, Int.pow_zero, Int.one_mul]; simp only [Int.add_mul, Int.mul_sub, Int.mul_one, Int.one_mul, ← Int.mul_assoc]; omega)
    rw [this]
    rfl
  exact ⟨e5, e4, e3, e2, e1⟩
theorem bits_log {x : Int} (h : intBits x ≤ 6000) : x.natAbs.log2 < 9000 := by
  have h1 := intBits_le_iff.mp h
  by_cases h0 : x.natAbs = 0
  · rw [h0]; decide
  · exact Nat.lt_of_lt_of_le ((Nat.log2_lt h0).mpr h1) (by decide)
theorem bits_one : intBits (1 : Int) ≤ 1 := intBits_le_iff.mpr (by decide : (1 : Int).natAbs < 2 ^ 1)
theorem cycBits {q : Int} (h : 2 ≤ q) (hb : intBits q ≤ 1200) : ∀ x ∈ cyc q, 1 ≤ x ∧ intBits x ≤ 6000 := by
  have p0 : 0 ≤ q := by omega
  have a2 := intBits_pow_le hb 2
  have a3 := intBits_pow_le hb 3
  have a4 := intBits_pow_le hb 4
  have b2 : 0 ≤ q ^ 2 := Int.pow_nonneg p0
  have b3 : 0 ≤ q ^ 3 := Int.pow_nonneg p0
  have b4 : 0 ≤ q ^ 4 := Int.pow_nonneg p0
  have c1 := intBits_add_le hb bits_one
  have c2 := intBits_add_le (intBits_add_le a2 hb) bits_one
  have c3 := intBits_add_le a2 bits_one
  have c4 := intBits_add_le (intBits_add_le (intBits_add_le (intBits_add_le a4 a3) a2) hb) bits_one
  intro x hx
  simp only [cyc, List.mem_cons, List.mem_nil_iff, or_false] at hx
  rcases hx with rfl | rfl | rfl | rfl | rfl | rfl
  · exact ⟨by decide, Nat.le_trans bits_one (by decide)⟩
  · exact ⟨by omega, Nat.le_trans (intBits_sub_le hb bits_one) (by decide)⟩
  · exact ⟨by omega, Nat.le_trans c1 (by decide)⟩
  · exact ⟨by omega, Nat.le_trans c2 (by decide)⟩
  · exact ⟨by omega, Nat.le_trans c3 (by decide)⟩
  · exact ⟨by omega, Nat.le_trans c4 (by decide)⟩
theorem ringsN_len (q : Int) : ∀ i, (ringsN q i).length = i + 1
  | 0 => rfl
  | i + 1 => by
    show (ringsN q i ++ [_]).length = _
    rw [List.length_append, ringsN_len q i]
    rfl
theorem ringsN_mem {q : Int} (h : 2 ≤ q) {i : Nat} (hi : i ≤ 5) : ∀ x ∈ ringsN q i, x ∈ cyc q := by
  obtain ⟨e5, e4, e3, e2, e1⟩ := ringsN_eq q h
  intro x hx
  match i, hi with
  | 0, _ => exact .head _ |> fun (z : (1 : Int) ∈ cyc q) => by rw [List.mem_singleton.mp hx]; exact z
  | 1, _ => rw [e1] at hx; exact List.mem_of_mem_take hx
  | 2, _ => rw [e2] at hx; exact List.mem_of_mem_take hx
  | 3, _ => rw [e3] at hx; exact List.mem_of_mem_take hx
  | 4, _ => rw [e4] at hx; exact List.mem_of_mem_take hx
  | 5, _ => rw [e5] at hx; exact hx
theorem ringF {q : Int} (h : 2 ≤ q) (hb : intBits q ≤ 1200) {i k : Nat} (hi : i < 5) (hk : k < (1 + (i : Int) - 1).toNat) :
    (ringsN q i).getD (1 + (k : Int)).toNat 0 ≠ 0 ∧ ((ringsN q i).getD (1 + (k : Int)).toNat 0).natAbs.log2 < 9000 ∧ (1 + (k : Int)).toNat < (ringsN q i).length := by
  have hl := ringsN_len q i
  have h3 : (1 + (k : Int)).toNat < (ringsN q i).length := by omega
  have hm : (ringsN q i).getD (1 + (k : Int)).toNat 0 ∈ ringsN q i := by
    have : (ringsN q i).getD (1 + (k : Int)).toNat 0 = (ringsN q i)[(1 + (k : Int)).toNat] := by simp [List.getD, h3]
    rw [this]; exact List.getElem_mem h3
  obtain ⟨a, b⟩ := cycBits h hb _ (ringsN_mem h (Nat.le_of_lt hi) _ hm)
  exact ⟨by omega, bits_log b, h3⟩
/-- between two turns of the outer loop of _law_rings -/
noncomputable def JR (base : Int) (D : Addr) (m₀ : Str → Option Value) (stat : Led) (i : Nat) (m : Str → Option Value) (news : Led) : Prop :=
  ∃ (u1 u2 u3 : Option Value) (vals : List Value) (nn : Nat), news = (D, listOf vals.toArray nn) :: stat ∧ IntsAre vals (ringsN base i) ∧ m = upd [(Str.ofString "size", u1), (Str.ofString "made", u2), (Str.ofString "k", u3)] m₀
theorem JR.start {base : Int} {D : Addr} {m₀ : Str → Option Value} {stat : Led} {t : Tok} {nn : Nat} : JR base D m₀ stat 0 m₀ ((D, listOf #[.int 1 t] nn) :: stat) :=
  ⟨_, _, _, [.int 1 t], nn, rfl, .cons _ _ .nil, upd3 rfl rfl rfl fun _ _ _ _ => rfl⟩
theorem jr_out {base : Int} {D : Addr} {m₀ : Str → Option Value} {stat : Led} {i : Nat} {m : Str → Option Value} {news : Led} (h : JR base D m₀ stat i m news) : ∃ (u1 u2 u3 : Option Value) (vals : List Value) (nn : Nat), news = (D, listOf vals.toArray nn) :: stat ∧ IntsAre vals (ringsN base i) ∧ m = upd [(Str.ofString "size", u1), (Str.ofString "made", u2), (Str.ofString "k", u3)] m₀ := h
theorem lt5 {i : Nat} (h : i < (6 - 1 : Int).toNat) : i < 5 := h
theorem szR {vals : List Value} {q : Int} {i : Nat} (h : IntsAre vals (ringsN q i)) (hi : i < 5) : vals.toArray.size ≤ sizeLine := by
  have a := h.sizeZ
  rw [ringsN_len] at a
  rw [sizeLine_eq]
  omega
noncomputable def JRT (rs : List Int) (size made : Int) (m₁ : Str → Option Value) (stat : Led) (k : Nat) (m : Str → Option Value) (news : Led) : Prop :=
  ∃ (u : Option Value) (t : Tok), news = stat ∧ m = upd [(Str.ofString "made", some (.int (ringTo rs size made k) t)), (Str.ofString "k", u)] m₁
theorem JRT.start {rs : List Int} {size made : Int} {m₁ : Str → Option Value} {stat : Led} (hm : ∃ t, m₁ (Str.ofString "made") = some (.int made t)) : JRT rs size made m₁ stat 0 m₁ stat :=
  let ⟨t, hm⟩ := hm
  ⟨_, t, rfl, upd2 hm rfl fun _ _ _ => rfl⟩
theorem jrt_out {rs : List Int} {size made : Int} {m₁ : Str → Option Value} {stat : Led} {k : Nat} {m : Str → Option Value} {news : Led} (h : JRT rs size made m₁ stat k m news) : ∃ (u : Option Value) (t : Tok), news = stat ∧ m = upd [(Str.ofString "made", some (.int (ringTo rs size made k) t)), (Str.ofString "k", u)] m₁ := h
theorem unrEnd_JRT {h₀ h' : Heap} {L I : Addr} {it : Obj} {m' m₁ : Str → Option Value} {stat : Led} {tk k : Nat} {s₁ : Shared} {rs : List Int} {size made v : Int} {t : Tok}
    (N : News h₀ L h' ((I, it) :: stat)) (F : Fr h₀ L h' m') (hz : ∀ z, ¬ z = Str.ofString "made" → ¬ z = Str.ofString "k" → m' z = m₁ z) (hoff : ∀ p ∈ stat, p.1 ≠ I)
    (hm : m' (Str.ofString "made") = some (.int v t)) (hv : v = ringTo rs size made (k + 1)) : UnrEnd h₀ L s₁ I it (fun m' n' => JRT rs size made m₁ stat (k + 1) m' n') { s₁ with heap := h', toks := tk } :=
  UnrEnd.intro F N stat (fun _ h => h) hoff ⟨_, t, rfl, upd2 (hv ▸ hm) rfl hz⟩
theorem unrEnd_JR {h₀ h' : Heap} {L I D : Addr} {it : Obj} {m' m₀ : Str → Option Value} {stat : Led} {tk i nn : Nat} {s₁ : Shared} {base v : Int} {vals : List Value} {t : Tok}
    (N : News h₀ L h' ((I, it) :: (D, listOf (vals.toArray.push (.int v t)) nn) :: stat)) (F : Fr h₀ L h' m') (hz : ∀ z, ¬ z = Str.ofString "size" → ¬ z = Str.ofString "made" → ¬ z = Str.ofString "k" → m' z = m₀ z) (hD : @LT.lt Nat _ D I) (hoff : ∀ p ∈ stat, p.1 ≠ I)
    (hi : IntsAre vals (ringsN base i)) (hv : v = ringTo (ringsN base i) (1 + (i : Int)) (base ^ (1 + (i : Int)).toNat - 1) (1 + (i : Int) - 1).toNat) :
    UnrEnd h₀ L s₁ I it (fun m' n' => JR base D m₀ stat (i + 1) m' n') { s₁ with heap := h', toks := tk } := by
  rw [List.push_toArray] at N
  refine UnrEnd.intro F N ((D, listOf (vals ++ [Value.int v t]).toArray nn) :: stat) (fun _ h => h) (fun q h => ?_) ⟨_, _, _, vals ++ [.int v t], nn, rfl, ?_, upd3 rfl rfl rfl hz⟩
  · rcases List.mem_cons.mp h with rfl | h
    · exact Nat.ne_of_lt hD
    · exact hoff q h
  · rw [hv]
    exact IntsAre.append hi (.cons _ _ .nil)
noncomputable abbrev PostR (news : Led) (base : Int) (r : Value) (news' : Led) : Prop := ∃ d vals nn, r = .ref d ∧ IntsAre vals (cyc base) ∧ news' = (d, listOf vals.toArray nn) :: news ∧ ∀ q ∈ news, q.1 < d
theorem ringT {rs : List Int} {size m : Int} {k : Nat} (h : size.fmod (1 + (k : Int)) = 0) : (ringTo rs size m k).fdiv (rs.getD (1 + (k : Int)).toNat 0) = ringTo rs size m (k + 1) := by simp only [ringTo, if_pos h]
theorem ringFl {rs : List Int} {size m : Int} {k : Nat} (h : size.fmod (1 + (k : Int)) ≠ 0) : ringTo rs size m k = ringTo rs size m (k + 1) := by simp only [ringTo, if_neg h]
theorem endR {base : Int} (h2 : 2 ≤ base) {vals : List Value} (h : IntsAre vals (ringsN base (6 - 1 : Int).toNat)) : IntsAre vals (cyc base) := by
  rw [← (ringsN_eq base h2).1]; exact h
theorem powF {base : Int} {i : Nat} (hb : intBits base ≤ 1200) (hi : i < 5) : (intBits base : Int) * (1 + (i : Int)) ≤ 2 ^ 27 := by
  have e27 : (2 : Int) ^ 27 = 134217728 := by decide
  rw [e27]
  have : (intBits base : Int) * (1 + (i : Int)) ≤ 1200 * (1 + (i : Int)) := Int.mul_le_mul_of_nonneg_right (by omega) (by omega)
  omega
set_option maxRecDepth 100000 in
set_option maxHeartbeats 2000000 in
theorem ringsW (w : World) (base : Int) (tb : Tok) (news : Led) (hb : intBits base ≤ 1200) (h2 : 2 ≤ base) :
    DoesC w 162 [.int base tb] 4 80 news (PostR news base) := by
  (k_with_none; w_top off)
  k_with "execs cons" => (k_here; (fail_if_success k_gentoks); (fail_if_success (with_reducible show wpAny _ _ (execs (Stmt.While _ _ _ _ :: _) _) _ _ _)); (fail_if_success (with_reducible show wpAny _ _ (execs (Stmt.For _ _ _ _ _ :: _) _) _ _ _)); (with_reducible refine execsQ ?_); intro Q9 hQ9)
  k_with "AtQ" => ((try dsimp only); first | ((with_reducible refine AtQ.next hQ9 ?_); clear hQ9; (try clear Q9)) | ((with_reducible refine AtQ.ret hQ9 ?_); clear hQ9; (try clear Q9); (try dsimp only)) | ((with_reducible refine AtQ.brk hQ9 ?_); clear hQ9; (try clear Q9); (try dsimp only)) | ((with_reducible refine AtQ.cont hQ9 ?_); clear hQ9; (try clear Q9); (try dsimp only)) | ((with_reducible refine AtQ.go hQ9 ?_); clear hQ9; (try clear Q9); (try dsimp only); (try k_fold)))
  k_with "k_all" => (tbn_letter; first | assumption | (refine' ne_mono ?h1u2 ?h2u2; (case h1u2 => tbn_find); (case h2u2 => omega)) | exact fun p9 h9 => Nat.ne_of_lt ((by assumption : ∀ p ∈ _, p.1 < _) p9 h9))
  k_with "k_mem" => first | assumption | (refine' List.mem_cons_of_mem _ ?_; assumption) | (refine' List.mem_cons_of_mem _ (List.mem_cons_of_mem _ ?_); assumption)
  k_with "exec For Name Name cons nil" => (k_here; (rename Fr _ _ _ _ => lF'); (with_unfolding_all refine' For_invVF lF' ?k1u4 ?k2u4 ?_; (case k1u4 => exact rfl); (case k2u4 => exact rfl); k_whole))
  k_with "exec For Name Call cons nil" => (k_here; (rename Fr _ _ _ _ => lF'); (with_unfolding_all refine' For_invVF lF' ?k1u5 ?k2u5 ?_; (case k1u5 => exact rfl); (case k2u5 => exact rfl); k_whole))
  k_with "exec For Name Call" => (k_here; (rename Fr _ _ _ _ => lF'); (with_unfolding_all refine' For_invVF lF' ?k1u6 ?k2u6 ?_; (case k1u6 => exact rfl); (case k2u6 => exact rfl); k_whole))
  k_with "binaryOp FloorDiv int int" => (k_here; (with_reducible refine' floordiv_int ?kbeu7 ?_ (Or.inl (PyProof.noPylong_of_log2 ?kbpu7))); (case kbeu7 => assumption); (case kbpu7 => assumption))
  k_with "binaryOp Pow int int" => (k_here; (with_reducible refine' PyProof.Rows.pow_int ?hnu8 ?hsu8 ?_); (case hnu8 => first | assumption | omega); (case hsu8 => assumption))
  k_with "call builtin:list.append" => (k_here; (with_reducible show wpAny _ _ (call (Value.builtin _) [Value.ref _, _]) _ _ _); k_dflt (refine' append_K ?k1u9 ?k2u9 ?k3u9 ?_ ?zu9; (case k1u9 => k_asm); (case k2u9 => k_asm); (case k3u9 => k_upd); (case zu9 => assumption); k_whole); intro h' F' N'; (try k_sweep))
  unfold DoesC
  k_fill
  intro dp un gd cn cs aa ccd cl outer A₀ base' h₀ L m p9 loose mean mg mb s Q E C1 C2 B F X N T hk hd9 hu hret
  refine wpAny_call ?_
  k_dflt ktr_enter
  k_with "pyIter ref" => focus (k_here; (with_reducible show wpAny _ _ (pyIter (Value.ref _)) (fun it s₂ => LoopAtV _ _ _ _ _ _ _ _ _ it s₂) _ _); (rename Fr _ _ _ _ => lF'); (rename News _ _ _ _ => lN'); (rename IsRange _ _ _ 6 _ _ _ _ => rgX); (with_unfolding_all refine' iter_rangeUnr (by rfl) rgX (rangeSm (by omega) (by omega) (by omega) (by omega)) rangeSz lF' lN' ?_); intro I6 l6; (try k_lt l6); (refine' rangeJ (JR base _ _ _) ?_ ?_ _ _ _ _ (Nat.zero_add _) JR.start); rotate_left; (intro m news7 h tk hJ F5 N5; (with_reducible refine genG ?_); intro X9 hX9; obtain ⟨u1, u2, u3, vals, nn, d1, d2, d3⟩ := jr_out hJ; rw [d1] at N5; clear d1; subst d3; (with_reducible refine hX9 ?_); clear hX9 X9; clear lF' lN' rgX; (try k_fold)); rotate_left; (intro i m news7 h tk t0 hin hJ F5 N5; (with_reducible refine genG ?_); intro X9 hX9; obtain ⟨u1, u2, u3, vals, nn, d1, d2, d3⟩ := jr_out hJ; rw [d1] at N5; clear d1; subst d3; (have hin5 : i < 5 := lt5 hin); (have q5 := powF hb hin5); (have hz1 := szR d2 hin5); (with_reducible refine hX9 ?_); clear hX9 X9; clear lF' lN' rgX; (try k_fold)))
  k_with "pyIter ref" => focus (k_here; (with_reducible show wpAny _ _ (pyIter (Value.ref _)) (fun it s₂ => LoopAtV _ _ _ _ _ _ _ _ _ it s₂) _ _); (rename Fr _ _ _ _ => lF'); (rename News _ _ _ _ => lN'); (rename IsRange _ _ _ _ _ _ _ _ => rgX); (with_unfolding_all refine' iter_rangeUnr (by rfl) rgX (rangeSm (by omega) (by omega) (by omega) (by omega)) rangeSz lF' lN' ?_); intro I6 l6; (try k_lt l6); (refine' rangeJ (JRT (ringsN base i) (1 + (i : Int)) (base ^ (1 + (i : Int)).toNat - 1) _ _) ?_ ?_ _ _ _ _ (Nat.zero_add _) (JRT.start (by exact ⟨_, rfl⟩))); rotate_left; (intro m news7 h tk hJ F5 N5; (with_reducible refine genG ?_); intro X9 hX9; obtain ⟨u, t7, d1, d2⟩ := jrt_out hJ; rw [d1] at N5; clear d1; subst d2; clear hJ; (with_reducible refine hX9 ?_); clear hX9 X9; clear lF' lN' rgX; (try k_fold)); rotate_left; (intro k m news7 h tk t0 hin hJ F5 N5; (with_reducible refine genG ?_); intro X9 hX9; obtain ⟨u, t7, d1, d2⟩ := jrt_out hJ; rw [d1] at N5; clear d1; subst d2; obtain ⟨g1, g2, g3⟩ := ringF h2 hb hin5 hin; clear hJ; (with_reducible refine hX9 ?_); clear hX9 X9; clear lF' lN' rgX; (try k_fold)))
  k_steps
  all_goals first
    | exact hret _ _ _ _ (by assumption) (by assumption) ⟨_, vals, nn, rfl, endR h2 d2, rfl, by k_all⟩
    | (refine' unrEnd_JRT ?N87 ?F87 ?z87 ?o87 ?m87 ?v87; (case N87 => assumption); (case F87 => assumption); (case m87 => exact rfl); (case v87 => (first | exact ringT (by assumption) | exact ringFl (by assumption))); (case o87 => k_all); (case z87 => (intro z9 a9 b9; simp only [upd, if_neg a9, if_neg b9])))
    | (refine' unrEnd_JR ?N87 ?F87 ?z87 ?D87 ?o87 ?i87 ?v87; (case N87 => assumption); (case F87 => assumption); (case v87 => exact rfl); (case i87 => assumption); (case D87 => (first | assumption | omega)); (case o87 => k_all); (case z87 => (intro z9 a9 b9 c9; simp only [upd, if_neg a9, if_neg b9, if_neg c9])))
end Mine

end
-- part T0
section
open PySem PySem.W PySem.Calls PyProof.Rows
namespace Mine
open Builtin.Int (intBits)
noncomputable def fillT : Nat → Str
  | 0 => Str.ofString "\t"
  | 1 => Str.ofString " \t"
  | 2 => Str.ofString "  \t"
  | 3 => Str.ofString "   \t"
  | _ => Str.ofString "    \t"
noncomputable def figT : Nat → Str
  | 0 => Str.ofString "0"
  | 1 => Str.ofString "1"
  | 2 => Str.ofString "2"
  | 3 => Str.ofString "3"
  | _ => Str.ofString "4"
noncomputable def leadT (a b c : Int) : Nat → Str
  | 0 => Txt.join (Str.ofString "") [Txt.item (Str.ofString "01234") a, Txt.item (Str.ofString "01234") b, Txt.item (Str.ofString "01234") c]
  | k + 1 => Txt.join (fillT k) (Txt.split (leadT a b c k) (figT k))
/-- the word of one figure -/
noncomputable def wordT (d : Int) : List Nat := List.replicate d.toNat 32 ++ [9]
theorem leadAll : ∀ a b c : Fin 5, (leadT a.val b.val c.val 5).cps.toList = wordT a.val ++ wordT b.val ++ wordT c.val := by decide +kernel
theorem leadSz : ∀ k : Fin 5, ∀ a b c : Fin 5, (leadT a.val b.val c.val k.val).length + 2 ≤ 100 ∧ ((Txt.split (leadT a.val b.val c.val k.val) (figT k.val)).map (·.length)).sum + (Txt.split (leadT a.val b.val c.val k.val) (figT k.val)).length ≤ 100 := by decide +kernel
theorem leadAllZ {a b c : Int} (ha : 0 ≤ a) (ha4 : a ≤ 4) (hb : 0 ≤ b) (hb4 : b ≤ 4) (hc : 0 ≤ c) (hc4 : c ≤ 4) : (leadT a b c 5).cps.toList = wordT a ++ wordT b ++ wordT c := by
  obtain ⟨x, rfl⟩ := Int.eq_ofNat_of_zero_le ha
  obtain ⟨y, rfl⟩ := Int.eq_ofNat_of_zero_le hb
  obtain ⟨z, rfl⟩ := Int.eq_ofNat_of_zero_le hc
  exact leadAll ⟨x, by omega⟩ ⟨y, by omega⟩ ⟨z, by omega⟩
theorem leadSz1 {a b c : Int} (ha : 0 ≤ a) (ha4 : a ≤ 4) (hb : 0 ≤ b) (hb4 : b ≤ 4) (hc : 0 ≤ c) (hc4 : c ≤ 4) (k : Nat) (hk : k < 5) : (leadT a b c k).length + 2 ≤ sizeLine := by
  obtain ⟨x, rfl⟩ := Int.eq_ofNat_of_zero_le ha
  obtain ⟨y, rfl⟩ := Int.eq_ofNat_of_zero_le hb
  obtain ⟨z, rfl⟩ := Int.eq_ofNat_of_zero_le hc
  rw [sizeLine_eq]
  exact Nat.le_trans (leadSz ⟨k, hk⟩ ⟨x, by omega⟩ ⟨y, by omega⟩ ⟨z, by omega⟩).1 (by decide)
theorem leadSz2 {a b c : Int} (ha : 0 ≤ a) (ha4 : a ≤ 4) (hb : 0 ≤ b) (hb4 : b ≤ 4) (hc : 0 ≤ c) (hc4 : c ≤ 4) (k : Nat) (hk : k < 5) : ((Txt.split (leadT a b c k) (figT k)).map (·.length)).sum + (Txt.split (leadT a b c k) (figT k)).length ≤ 1048576 := by
  obtain ⟨x, rfl⟩ := Int.eq_ofNat_of_zero_le ha
  obtain ⟨y, rfl⟩ := Int.eq_ofNat_of_zero_le hb
  obtain ⟨z, rfl⟩ := Int.eq_ofNat_of_zero_le hc
  exact Nat.le_trans (leadSz ⟨k, hk⟩ ⟨x, by omega⟩ ⟨y, by omega⟩ ⟨z, by omega⟩).2 (by decide)
end Mine

end
-- part T1
section
open PySem PySem.W PySem.Calls PyProof.Rows
namespace Mine
open Builtin.Int (intBits)
theorem unr1 {h₀ h' : Heap} {L I : Addr} {it : Obj} {x : Addr × Obj} {m' : Str → Option Value} {stat : Led} {tk : Nat} {s₁ : Shared} {rest : (Str → Option Value) → Led → Prop}
    (N : News h₀ L h' (x :: (I, it) :: stat)) (F : Fr h₀ L h' m') (hoff : ∀ p ∈ stat, p.1 ≠ I) (hr : rest m' stat) : UnrEnd h₀ L s₁ I it rest { s₁ with heap := h', toks := tk } :=
  UnrEnd.intro F N stat (fun _ h => .tail _ h) hoff hr
theorem split1Y {prog : Program} {w : World} {A : Around} {E : Value → Shared → Prop} {s : Shared} {h₀ : Heap} {L : Addr} {m : PySem.Str → Option Value} {news : List (Addr × Obj)} {x y : PySem.Str} {t u : Tok} {Q : Value → Shared → Prop} (hF : Fr h₀ L s.heap m) (hN : News h₀ L s.heap news) (hy : (y.length == 0) = false)
    (h : ∀ D ys h' k, StrsAre ys (Txt.split x y) → Fr h₀ L h' m → News h₀ L h' ((D, listOf ys.toArray 0) :: news) → (∀ p ∈ news, p.1 < D) → Q (.ref D) { s with heap := h', toks := k }) (hsz : x.length + 2 ≤ sizeLine) :
    wpAny (model prog w) A (call (.builtin "str.split") [.str x t, .str y u]) Q E s :=
  KSpl.split1 hF hN hy (fun D l h' k e a F N q => h D _ h' k (e ▸ a) F N q) hsz
theorem sliceT2 {prog : Program} {w : World} {A : Around} {E : Value → Shared → Prop} {s : Shared} {h₀ : Heap} {L : Addr} {m : PySem.Str → Option Value} {news : List (Addr × Obj)} {value slice : PySem.Expr} {t : Addr} {items : Array Value} {a : Nat} {u : Tok} {Q : Value → Shared → Prop} {zs : List Value}
    (F : Fr h₀ L s.heap m) (N : News h₀ L s.heap news) (ht : IsTup s.heap t items) (h1 : 1 ≤ a) (ha : a ≤ items.size) (e : items.toList.drop a = zs)
    (h : ∀ D h', Fr h₀ L h' m → News h₀ L h' ((D, { cls := .type "tuple", data := .seq zs.toArray }) :: news) → (∀ p ∈ news, p.1 < D) → Q (.ref D) { s with heap := h' })
    (hs : subscripted slice false (.ref t) (.ref s.heap.objs.size) = operate [.ref s.heap.objs.size, .ref t] (getItem (.ref t) (.ref s.heap.objs.size)))
    (hg : ∀ r, letTemporaryGo value (.ref t) r = pure ()) (hsz : items.size ≤ sizeLine) :
    wpAny (model prog w) A (subscriptTail value slice (.ref t) (.ref s.heap.objs.size)) Q E { s with heap := s.heap.push { cls := .type "slice", data := .fields #[.int a u, .none, .none] } } := by
  refine slice_tuple_from F N ht h1 ha (fun h' F' N' => ?_) hs hg hsz
  rw [e] at N'
  exact h _ h' F' N' fun p hp => Nat.lt_succ_of_lt (Heap.lt_size (N p hp).1)
theorem keep13 {h : Heap} {L : Addr} {h' : Heap} {x y z : Addr × Obj} {st : Led} (N : News h L h' (x :: y :: z :: st)) : News h L h' (x :: st) := fun p hp => N p (by
  rcases List.mem_cons.mp hp with rfl | h
  · exact .head _
  · exact .tail _ (.tail _ (.tail _ h)))
set_option maxRecDepth 100000 in
set_option maxHeartbeats 2000000 in
theorem leadW (w : World) (ds : Addr) (nn : Nat) (a b c : Int) (t1 t2 t3 : Tok) (news : Led) (hd : (ds, listOf #[.int a t1, .int b t2, .int c t3] nn) ∈ news)
    (ha : 0 ≤ a) (ha4 : a ≤ 4) (hb : 0 ≤ b) (hb4 : b ≤ 4) (hc : 0 ≤ c) (hc4 : c ≤ 4) :
    DoesC w 148 [.ref ds] 6 80 news (fun r news' => (∃ t, r = .str (leadT a b c 5) t) ∧ news' = news) := by
  (k_with_none; w_top off)
  k_with "execs cons" => (k_here; (fail_if_success k_gentoks); (fail_if_success (with_reducible show wpAny _ _ (execs (Stmt.While _ _ _ _ :: _) _) _ _ _)); (fail_if_success (with_reducible show wpAny _ _ (execs (Stmt.For _ _ _ _ _ :: _) _) _ _ _)); (with_reducible refine execsQ ?_); intro Q9 hQ9)
  k_with "AtQ" => ((try dsimp only); first | ((with_reducible refine AtQ.next hQ9 ?_); clear hQ9; (try clear Q9)) | ((with_reducible refine AtQ.ret hQ9 ?_); clear hQ9; (try clear Q9); (try dsimp only)) | ((with_reducible refine AtQ.brk hQ9 ?_); clear hQ9; (try clear Q9); (try dsimp only)) | ((with_reducible refine AtQ.cont hQ9 ?_); clear hQ9; (try clear Q9); (try dsimp only)) | ((with_reducible refine AtQ.go hQ9 ?_); clear hQ9; (try clear Q9); (try dsimp only); (try k_fold)))
  k_with "k_all" => (tbn_letter; first | assumption | (refine' ne_mono ?h1u2 ?h2u2; (case h1u2 => tbn_find); (case h2u2 => omega)) | exact fun p9 h9 => Nat.ne_of_lt ((by assumption : ∀ p ∈ _, p.1 < _) p9 h9))
  k_with "k_mem" => first | assumption | (refine' List.mem_cons_of_mem _ ?_; assumption) | (refine' List.mem_cons_of_mem _ (List.mem_cons_of_mem _ ?_); assumption)
  k_with "UnrEnd" => (k_here; (refine' unr1 ?N87u4 ?F87u4 ?o87u4 ?_; (case N87u4 => assumption); (case F87u4 => assumption); (case o87u4 => k_all)))
  k_with "CompEnd" => (k_here; (refine' LCg.CompEnd.intro ?F86u5 ?N86u5 _ (fun _ h86 => h86) ?o86u5 ?s86u5 ?_; (case F86u5 => assumption); (case N86u5 => assumption); (case o86u5 => assumption); (case s86u5 => (first | lcg_src | assumption))))
  k_with "exec While" => (k_here; k_dflt (refine whl_start 100 ?_))
  k_with "call builtin:str.split" => (k_here; (first | ((with_reducible show wpAny _ _ (call (Value.builtin "str.split") [Value.str _ _, Value.str (Str.ofString "0") _]) _ _ _); k_dflt (refine' split1Y (by k_asm) (by k_asm) (by decide) ?_ ?z85u7; (case z85u7 => exact leadSz1 (by assumption) (by assumption) (by assumption) (by assumption) (by assumption) (by assumption) 0 (by decide)))) | ((with_reducible show wpAny _ _ (call (Value.builtin "str.split") [Value.str _ _, Value.str (Str.ofString "1") _]) _ _ _); k_dflt (refine' split1Y (by k_asm) (by k_asm) (by decide) ?_ ?z85u7; (case z85u7 => exact leadSz1 (by assumption) (by assumption) (by assumption) (by assumption) (by assumption) (by assumption) 1 (by decide)))) | ((with_reducible show wpAny _ _ (call (Value.builtin "str.split") [Value.str _ _, Value.str (Str.ofString "2") _]) _ _ _); k_dflt (refine' split1Y (by k_asm) (by k_asm) (by decide) ?_ ?z85u7; (case z85u7 => exact leadSz1 (by assumption) (by assumption) (by assumption) (by assumption) (by assumption) (by assumption) 2 (by decide)))) | ((with_reducible show wpAny _ _ (call (Value.builtin "str.split") [Value.str _ _, Value.str (Str.ofString "3") _]) _ _ _); k_dflt (refine' split1Y (by k_asm) (by k_asm) (by decide) ?_ ?z85u7; (case z85u7 => exact leadSz1 (by assumption) (by assumption) (by assumption) (by assumption) (by assumption) (by assumption) 3 (by decide)))) | ((with_reducible show wpAny _ _ (call (Value.builtin "str.split") [Value.str _ _, Value.str (Str.ofString "4") _]) _ _ _); k_dflt (refine' split1Y (by k_asm) (by k_asm) (by decide) ?_ ?z85u7; (case z85u7 => exact leadSz1 (by assumption) (by assumption) (by assumption) (by assumption) (by assumption) (by assumption) 4 (by decide))))); intro D' ys' h' k' a' F' N' l1; (try k_lt l1))
  k_with "subscriptTail Name Slice ref ref" => (k_here; (with_reducible show wpAny _ _ (subscriptTail _ (PySem.Expr.Slice _ _ none _) (Value.ref _) (Value.ref _)) _ _ _); k_dflt (refine' sliceT2 (a := 2) ?Fu8 ?Nu8 ?lu8 ?pu8 ?qu8 ?eu8 ?_ ?su8 ?tu8 ?zu8; (case Fu8 => k_asm); (case Nu8 => k_asm); (case lu8 => exact News.isTup (by k_asm) (by k_mem)); (case pu8 => decide); (case qu8 => exact Nat.le_of_ble_eq_true rfl); (case eu8 => kl_lit); (case su8 => with_unfolding_all rfl); (case tu8 => kmk_pure); (case zu8 => kmk_size)); intro D' h' F' N' l1; (try k_lt l1); (try k_sweep))
  k_with "WhlRest" => ((rename News _ _ _ _ => lN'); (have lN9 := keep13 lN'); clear lN'; k_dflt (refine' whl_turn ?hEu9 ?_; (case hEu9 => first | passes_own | with_unfolding_all passes_own)); (try k_sweep))
  k_with "subscriptTail Name Constant ref int" => (k_here; first | ((with_reducible show wpAny _ _ (subscriptTail _ _ (Value.ref _) (Value.int 0 _)) _ _ _); k_dflt (refine' item_tuple (k := 0) (j := 0) ?tu10 ?au10 ?bu10 ?cu10 ?du10 ?_; (case tu10 => exact News.isTup (by k_asm) (by k_mem)); (case au10 => decide); (case bu10 => decide); (case cu10 => exact rfl); (case du10 => (simp only [List.getElem?_toArray, List.getElem?_cons_succ, List.getElem?_cons_zero]; exact rfl)); k_whole)) | ((with_reducible show wpAny _ _ (subscriptTail _ _ (Value.ref _) (Value.int 1 _)) _ _ _); k_dflt (refine' item_tuple (k := 1) (j := 1) ?tu10 ?au10 ?bu10 ?cu10 ?du10 ?_; (case tu10 => exact News.isTup (by k_asm) (by k_mem)); (case au10 => decide); (case bu10 => decide); (case cu10 => exact rfl); (case du10 => (simp only [List.getElem?_toArray, List.getElem?_cons_succ, List.getElem?_cons_zero]; exact rfl)); k_whole)))
  unfold DoesC
  k_fill
  intro dp un gd cn cs aa ccd cl outer A₀ base' h₀ L m p9 loose mean mg mb s Q E C1 C2 B F X N T hk hd9 hu hret
  refine wpAny_call ?_
  k_dflt ktr_enter
  k_with "call builtin:str.join" => (k_here; (with_reducible rename StrsAre _ _ => sA'); (first | ((with_reducible show wpAny _ _ (call (Value.builtin _) [Value.str (Str.ofString "\t") _, Value.ref _]) _ _ _); k_dflt (refine' join_listW ?l84u11 sA' (by decide +kernel) ?w84u11 ?_; (case l84u11 => is_list); (case w84u11 => exact leadSz2 ha ha4 hb hb4 hc hc4 0 (by decide)))) | ((with_reducible show wpAny _ _ (call (Value.builtin _) [Value.str (Str.ofString " \t") _, Value.ref _]) _ _ _); k_dflt (refine' join_listW ?l84u11 sA' (by decide +kernel) ?w84u11 ?_; (case l84u11 => is_list); (case w84u11 => exact leadSz2 ha ha4 hb hb4 hc hc4 1 (by decide)))) | ((with_reducible show wpAny _ _ (call (Value.builtin _) [Value.str (Str.ofString "  \t") _, Value.ref _]) _ _ _); k_dflt (refine' join_listW ?l84u11 sA' (by decide +kernel) ?w84u11 ?_; (case l84u11 => is_list); (case w84u11 => exact leadSz2 ha ha4 hb hb4 hc hc4 2 (by decide)))) | ((with_reducible show wpAny _ _ (call (Value.builtin _) [Value.str (Str.ofString "   \t") _, Value.ref _]) _ _ _); k_dflt (refine' join_listW ?l84u11 sA' (by decide +kernel) ?w84u11 ?_; (case l84u11 => is_list); (case w84u11 => exact leadSz2 ha ha4 hb hb4 hc hc4 3 (by decide)))) | ((with_reducible show wpAny _ _ (call (Value.builtin _) [Value.str (Str.ofString "    \t") _, Value.ref _]) _ _ _); k_dflt (refine' join_listW ?l84u11 sA' (by decide +kernel) ?w84u11 ?_; (case l84u11 => is_list); (case w84u11 => exact leadSz2 ha ha4 hb hb4 hc hc4 4 (by decide))))); clear sA'; intro _ _)
  k_steps
  rename Fr _ _ _ _ => lF'
  rename News _ _ _ _ => lN'
  exact hret _ _ _ _ lF' (fun p hp => lN' p (.tail _ hp)) ⟨⟨_, rfl⟩, rfl⟩
end Mine

end
-- part N1
section
open PySem PySem.W PySem.Calls PyProof.Rows
namespace Mine
theorem ints_one {v : Int} {vs : List Value} {ns : List Int} (h : IntsAre vs (v :: ns)) : ∃ t r, vs = .int v t :: r ∧ IntsAre r ns := by
  cases h with
  | cons _ _ h => exact ⟨_, _, rfl, h⟩
theorem sumB : ∀ (l : List Int), (∀ x ∈ l, 0 ≤ x ∧ x ≤ 1000000) → 0 ≤ l.sum ∧ l.sum ≤ 1000000 * (l.length : Int)
  | [], _ => ⟨Int.le_refl _, Int.le_refl _⟩
  | x :: l, h => by
    have a := sumB l fun y hy => h y (.tail _ hy)
    have b := h x (.head _)
    simp only [List.sum_cons, List.length_cons]
    omega
theorem totalB (w : List Int) : 0 ≤ (List.map (fun k => k.fmod 1000000) (List.take 63 w)).sum ∧ (List.map (fun k => k.fmod 1000000) (List.take 63 w)).sum ≤ 63000000 := by
  have a := sumB (List.map (fun k => k.fmod 1000000) (List.take 63 w)) (fun x hx => by
    obtain ⟨y, _, rfl⟩ := List.mem_map.mp hx
    rw [Int.fmod_eq_emod_of_nonneg _ (by decide)]
    omega)
  have l : (List.map (fun k => Int.fmod k 1000000) (List.take 63 w)).length ≤ 63 := by
    rw [List.length_map, List.length_take]
    omega
  omega
end Mine

end
-- part Y0
section
namespace Mine
/-- the five cyclotomic values, each to its power -/
noncomputable def ph (q : Int) (e : Nat → Nat) : Int := (q - 1) ^ e 1 * ((q + 1) ^ e 2 * ((q ^ 2 + q + 1) ^ e 3 * ((q ^ 2 + 1) ^ e 4 * (q ^ 4 + q ^ 3 + q ^ 2 + q + 1) ^ e 5)))
theorem ph_add (q : Int) (e f : Nat → Nat) : ph q (fun d => e d + f d) = ph q e * ph q f := by
  unfold ph
  simp only [Int.pow_add]
  ac_rfl
theorem ph_congr {q : Int} {e f : Nat → Nat} (h1 : e 1 = f 1) (h2 : e 2 = f 2) (h3 : e 3 = f 3) (h4 : e 4 = f 4) (h5 : e 5 = f 5) : ph q e = ph q f := by
  unfold ph
  rw [h1, h2, h3, h4, h5]
theorem mul_pos' {a b : Int} (ha : 1 ≤ a) (hb : 1 ≤ b) : 1 ≤ a * b := Int.mul_pos (a := a) (b := b) (by omega) (by omega)
theorem pow_pos' {a : Int} (ha : 1 ≤ a) (k : Nat) : 1 ≤ a ^ k := Int.pow_pos (by omega : 0 < a)
theorem phi_ge {q : Int} (h : 2 ≤ q) : q - 1 ≤ q - 1 ∧ q - 1 ≤ q + 1 ∧ q - 1 ≤ q ^ 2 + q + 1 ∧ q - 1 ≤ q ^ 2 + 1 ∧ q - 1 ≤ q ^ 4 + q ^ 3 + q ^ 2 + q + 1 := by
  have h0 : 0 ≤ q := by omega
  have h2 : 0 ≤ q ^ 2 := Int.pow_nonneg h0
  have h3 : 0 ≤ q ^ 3 := Int.pow_nonneg h0
  have h4 : 0 ≤ q ^ 4 := Int.pow_nonneg h0
  have h5 : q ≤ q ^ 2 := by
    have := Int.mul_le_mul_of_nonneg_left (show 1 ≤ q by omega) h0
    rw [Int.mul_one] at this
    have e : q ^ 2 = q * q := by rw [Int.pow_succ, Int.pow_succ, Int.pow_zero, Int.one_mul]
    omega
  omega
theorem ph_pos {q : Int} (h : 2 ≤ q) (e : Nat → Nat) : 1 ≤ ph q e := by
  obtain ⟨_, h2, h3, h4, h5⟩ := phi_ge h
  exact mul_pos' (pow_pos' (by omega) _) (mul_pos' (pow_pos' (by omega) _) (mul_pos' (pow_pos' (by omega) _) (mul_pos' (pow_pos' (by omega) _) (pow_pos' (by omega) _))))
theorem cop {x y u v c : Int} (h : u * x + v * y = c) : ∀ (k : Nat) (R : Int), x ∣ y ^ k * R → x ∣ c ^ k * R
  | 0, R, d => by rw [Int.pow_zero] at d ⊢; exact d
  | k + 1, R, d => by
    have e1 : y ^ (k + 1) * R = y * (y ^ k * R) := by rw [Int.pow_succ]; ac_rfl
    rw [e1] at d
    obtain ⟨z, hz⟩ := d
    have e2 : y ^ k * (c * R) = x * (u * (y ^ k * R) + v * z) := by
      have : y ^ k * (c * R) = c * (y ^ k * R) := by ac_rfl
      rw [this, ← h, Int.add_mul, Int.mul_add]
      have t1 : v * y * (y ^ k * R) = v * (y * (y ^ k * R)) := by ac_rfl
      rw [t1, hz]
      ac_rfl
    have := cop h k (c * R) ⟨_, e2⟩
    have e3 : c ^ (k + 1) * R = c ^ k * (c * R) := by rw [Int.pow_succ]; ac_rfl
    rw [e3]
    exact this
theorem cop4 {x y1 y2 y3 y4 u1 u2 u3 u4 v1 v2 v3 v4 c1 c2 c3 c4 : Int} {k1 k2 k3 k4 : Nat} (h1 : u1 * x + v1 * y1 = c1) (h2 : u2 * x + v2 * y2 = c2) (h3 : u3 * x + v3 * y3 = c3) (h4 : u4 * x + v4 * y4 = c4)
    (d : x ∣ y1 ^ k1 * (y2 ^ k2 * (y3 ^ k3 * y4 ^ k4))) : x ∣ c1 ^ k1 * (c2 ^ k2 * (c3 ^ k3 * c4 ^ k4)) := by
  have d1 := cop h1 _ _ d
  have e1 : c1 ^ k1 * (y2 ^ k2 * (y3 ^ k3 * y4 ^ k4)) = y2 ^ k2 * (y3 ^ k3 * (y4 ^ k4 * c1 ^ k1)) := by ac_rfl
  rw [e1] at d1
  have d2 := cop h2 _ _ d1
  have e2 : c2 ^ k2 * (y3 ^ k3 * (y4 ^ k4 * c1 ^ k1)) = y3 ^ k3 * (y4 ^ k4 * (c1 ^ k1 * c2 ^ k2)) := by ac_rfl
  rw [e2] at d2
  have d3 := cop h3 _ _ d2
  have e3 : c3 ^ k3 * (y4 ^ k4 * (c1 ^ k1 * c2 ^ k2)) = y4 ^ k4 * (c1 ^ k1 * (c2 ^ k2 * c3 ^ k3)) := by ac_rfl
  rw [e3] at d3
  have d4 := cop h4 _ _ d3
  have e4 : c4 ^ k4 * (c1 ^ k1 * (c2 ^ k2 * c3 ^ k3)) = c1 ^ k1 * (c2 ^ k2 * (c3 ^ k3 * c4 ^ k4)) := by ac_rfl
  rw [e4] at d4
  exact d4
theorem pow_le' {c : Int} (h1 : 1 ≤ c) (h5 : c ≤ 5) : ∀ {k : Nat}, k ≤ 12 → c ^ k ≤ 244140625 := fun {k} hk => by
  have a : ∀ j : Nat, c ^ j ≤ 5 ^ j := fun j => by
    induction j with
    | zero => rw [Int.pow_zero, Int.pow_zero]; exact Int.le_refl _
    | succ j ih =>
      rw [Int.pow_succ, Int.pow_succ]
      exact Int.mul_le_mul ih h5 (by omega) (Int.pow_nonneg (by decide))
  refine Int.le_trans (a k) ?_
  have b : ∀ i j : Nat, (5 : Int) ^ i ≤ 5 ^ (i + j) := fun i j => by
    rw [Int.pow_add]
    have := Int.mul_le_mul_of_nonneg_left (show (1 : Int) ≤ 5 ^ j from pow_pos' (by decide) j) (show (0 : Int) ≤ 5 ^ i from Int.pow_nonneg (by decide))
    omega
  have := b k (12 - k)
  rw [show k + (12 - k) = 12 by omega] at this
  exact this
theorem mul_le' {a b A B : Int} (h1 : 1 ≤ a) (h2 : 1 ≤ b) (h3 : a ≤ A) (h4 : b ≤ B) : a * b ≤ A * B := Int.mul_le_mul h3 h4 (by omega) (by omega)
theorem noDvd {x c1 c2 c3 c4 : Int} {k1 k2 k3 k4 : Nat} (hx : 2 ^ 200 ≤ x) (a1 : 1 ≤ c1) (b1 : c1 ≤ 5) (a2 : 1 ≤ c2) (b2 : c2 ≤ 5) (a3 : 1 ≤ c3) (b3 : c3 ≤ 5) (a4 : 1 ≤ c4) (b4 : c4 ≤ 5) (l1 : k1 ≤ 12) (l2 : k2 ≤ 12) (l3 : k3 ≤ 12) (l4 : k4 ≤ 12)
    (d : x ∣ c1 ^ k1 * (c2 ^ k2 * (c3 ^ k3 * c4 ^ k4))) : False := by
  have p1 := pow_pos' a1 k1
  have p2 := pow_pos' a2 k2
  have p3 := pow_pos' a3 k3
  have p4 := pow_pos' a4 k4
  have q1 := pow_le' a1 b1 l1
  have q2 := pow_le' a2 b2 l2
  have q3 := pow_le' a3 b3 l3
  have q4 := pow_le' a4 b4 l4
  have s1 := mul_pos' p3 p4
  have t1 := mul_le' p3 p4 q3 q4
  have s2 := mul_pos' p2 s1
  have t2 := mul_le' p2 s1 q2 t1
  have s3 := mul_pos' p1 s2
  have t3 := mul_le' p1 s2 q1 t2
  have := Int.le_of_dvd (by omega) d
  have z : (244140625 : Int) * (244140625 * (244140625 * 244140625)) < 2 ^ 200 := by decide
  omega
theorem cancel {x R P : Int} {n f : Nat} (hx : 1 ≤ x) (hn : f < n) (d : x ^ n * P ∣ x ^ f * R) : x ∣ R := by
  have e : x ^ n * P = x ^ f * (x * (x ^ (n - f - 1) * P)) := by
    have : n = f + (1 + (n - f - 1)) := by omega
    conv => lhs; rw [this]
    rw [Int.pow_add, Int.pow_add, Int.pow_succ, Int.pow_zero, Int.one_mul]
    ac_rfl
  rw [e] at d
  have d2 := Int.dvd_of_mul_dvd_mul_left (by have := pow_pos' hx f; omega) d
  exact Int.dvd_trans ⟨_, rfl⟩ d2
theorem landau {q : Int} (hq : 2 ^ 201 ≤ q) {N F : Nat → Nat} (hF : ∀ d, F d ≤ 12) : ph q N ∣ ph q F ↔ N 1 ≤ F 1 ∧ N 2 ≤ F 2 ∧ N 3 ≤ F 3 ∧ N 4 ≤ F 4 ∧ N 5 ≤ F 5 := by
  have hq2 : 2 ≤ q := Int.le_trans (by decide) hq
  have hz : (2 : Int) ^ 200 ≤ q - 1 := by
    have : (2 : Int) ^ 200 + 1 ≤ 2 ^ 201 := by decide
    omega
  obtain ⟨g1, g2, g3, g4, g5⟩ := phi_ge hq2
  constructor
  · intro d
    refine ⟨?_, ?_, ?_, ?_, ?_⟩
    · refine Nat.le_of_not_lt fun h => ?_
      unfold ph at d
      have := cancel (by omega) h d
      exact noDvd (c1 := 2) (c2 := 3) (c3 := 2) (c4 := 5) (Int.le_trans hz g1) (by decide) (by decide) (by decide) (by decide) (by decide) (by decide) (by decide) (by decide) (hF 2) (hF 3) (hF 4) (hF 5)
        (cop4 (u1 := -1) (v1 := 1) (u2 := -(q + 2)) (v2 := 1) (u3 := -(q + 1)) (v3 := 1) (u4 := -(q ^ 3 + 2 * q ^ 2 + 3 * q + 4)) (v4 := 1) (by grind) (by grind) (by grind) (by grind) this)
    · refine Nat.le_of_not_lt fun h => ?_
      unfold ph at d
      have d' : (q + 1) ^ N 2 * ((q - 1) ^ N 1 * ((q ^ 2 + q + 1) ^ N 3 * ((q ^ 2 + 1) ^ N 4 * (q ^ 4 + q ^ 3 + q ^ 2 + q + 1) ^ N 5))) ∣ (q + 1) ^ F 2 * ((q - 1) ^ F 1 * ((q ^ 2 + q + 1) ^ F 3 * ((q ^ 2 + 1) ^ F 4 * (q ^ 4 + q ^ 3 + q ^ 2 + q + 1) ^ F 5))) := by
        refine cast (congr (congrArg Dvd.dvd ?_) ?_) d <;> ac_rfl
      have := cancel (by omega) h d'
      exact noDvd (c1 := 2) (c2 := 1) (c3 := 2) (c4 := 1) (Int.le_trans hz g2) (by decide) (by decide) (by decide) (by decide) (by decide) (by decide) (by decide) (by decide) (hF 1) (hF 3) (hF 4) (hF 5)
        (cop4 (u1 := 1) (v1 := -1) (u2 := -q) (v2 := 1) (u3 := -(q - 1)) (v3 := 1) (u4 := -(q ^ 3 + q)) (v4 := 1) (by grind) (by grind) (by grind) (by grind) this)
    · refine Nat.le_of_not_lt fun h => ?_
      unfold ph at d
      have d' : (q ^ 2 + q + 1) ^ N 3 * ((q - 1) ^ N 1 * ((q + 1) ^ N 2 * ((q ^ 2 + 1) ^ N 4 * (q ^ 4 + q ^ 3 + q ^ 2 + q + 1) ^ N 5))) ∣ (q ^ 2 + q + 1) ^ F 3 * ((q - 1) ^ F 1 * ((q + 1) ^ F 2 * ((q ^ 2 + 1) ^ F 4 * (q ^ 4 + q ^ 3 + q ^ 2 + q + 1) ^ F 5))) := by
        refine cast (congr (congrArg Dvd.dvd ?_) ?_) d <;> ac_rfl
      have := cancel (by omega) h d'
      exact noDvd (c1 := 3) (c2 := 1) (c3 := 1) (c4 := 1) (Int.le_trans hz g3) (by decide) (by decide) (by decide) (by decide) (by decide) (by decide) (by decide) (by decide) (hF 1) (hF 2) (hF 4) (hF 5)
        (cop4 (u1 := 1) (v1 := -(q + 2)) (u2 := 1) (v2 := -q) (u3 := -q) (v3 := 1 + q) (u4 := 1 + q ^ 3) (v4 := -q) (by grind) (by grind) (by grind) (by grind) this)
    · refine Nat.le_of_not_lt fun h => ?_
      unfold ph at d
      have d' : (q ^ 2 + 1) ^ N 4 * ((q - 1) ^ N 1 * ((q + 1) ^ N 2 * ((q ^ 2 + q + 1) ^ N 3 * (q ^ 4 + q ^ 3 + q ^ 2 + q + 1) ^ N 5))) ∣ (q ^ 2 + 1) ^ F 4 * ((q - 1) ^ F 1 * ((q + 1) ^ F 2 * ((q ^ 2 + q + 1) ^ F 3 * (q ^ 4 + q ^ 3 + q ^ 2 + q + 1) ^ F 5))) := by
        refine cast (congr (congrArg Dvd.dvd ?_) ?_) d <;> ac_rfl
      have := cancel (by omega) h d'
      exact noDvd (c1 := 2) (c2 := 2) (c3 := 1) (c4 := 1) (Int.le_trans hz g4) (by decide) (by decide) (by decide) (by decide) (by decide) (by decide) (by decide) (by decide) (hF 1) (hF 2) (hF 3) (hF 5)
        (cop4 (u1 := 1) (v1 := -(q + 1)) (u2 := 1) (v2 := -(q - 1)) (u3 := 1 + q) (v3 := -q) (u4 := -(q ^ 2 + q)) (v4 := 1) (by grind) (by grind) (by grind) (by grind) this)
    · refine Nat.le_of_not_lt fun h => ?_
      unfold ph at d
      have d' : (q ^ 4 + q ^ 3 + q ^ 2 + q + 1) ^ N 5 * ((q - 1) ^ N 1 * ((q + 1) ^ N 2 * ((q ^ 2 + q + 1) ^ N 3 * (q ^ 2 + 1) ^ N 4))) ∣ (q ^ 4 + q ^ 3 + q ^ 2 + q + 1) ^ F 5 * ((q - 1) ^ F 1 * ((q + 1) ^ F 2 * ((q ^ 2 + q + 1) ^ F 3 * (q ^ 2 + 1) ^ F 4))) := by
        refine cast (congr (congrArg Dvd.dvd ?_) ?_) d <;> ac_rfl
      have := cancel (by omega) h d'
      exact noDvd (c1 := 5) (c2 := 1) (c3 := 1) (c4 := 1) (Int.le_trans hz g5) (by decide) (by decide) (by decide) (by decide) (by decide) (by decide) (by decide) (by decide) (hF 1) (hF 2) (hF 3) (hF 4)
        (cop4 (u1 := 1) (v1 := -(q ^ 3 + 2 * q ^ 2 + 3 * q + 4)) (u2 := 1) (v2 := -(q ^ 3 + q)) (u3 := -q) (v3 := 1 + q ^ 3) (u4 := 1) (v4 := -(q ^ 2 + q)) (by grind) (by grind) (by grind) (by grind) this)
  · rintro ⟨h1, h2, h3, h4, h5⟩
    have e : ph q F = ph q N * ph q (fun d => F d - N d) := by
      rw [← ph_add]
      exact ph_congr (by omega) (by omega) (by omega) (by omega) (by omega)
    rw [e]
    exact ⟨_, rfl⟩
end Mine

end
-- part Y1
section
open PySem PySem.W PySem.Calls PyProof.Rows
namespace Mine
/-- whole sizes that three runs hold -/
noncomputable def muN (a b c d : Nat) : Nat := a / d + b / d + c / d
theorem facTo_ph (q : Int) (a : Nat) (ha : a ≤ 4) (m : Int) : facTo q a m = m * ph q (fun d => a / d) := by
  have p1 : (q ^ (1 + ((0 : Nat) : Int)).toNat - 1) = q ^ 1 - 1 := rfl
  match a, ha with
  | 0, _ => simp [facTo, ph]
  | 1, _ => 
    show m * (q ^ 1 - 1) = m * ((q - 1) ^ 1 * ((q + 1) ^ 0 * ((q ^ 2 + q + 1) ^ 0 * ((q ^ 2 + 1) ^ 0 * (q ^ 4 + q ^ 3 + q ^ 2 + q + 1) ^ 0))))
    grind
  | 2, _ => 
    show m * (q ^ 1 - 1) * (q ^ 2 - 1) = m * ((q - 1) ^ 2 * ((q + 1) ^ 1 * ((q ^ 2 + q + 1) ^ 0 * ((q ^ 2 + 1) ^ 0 * (q ^ 4 + q ^ 3 + q ^ 2 + q + 1) ^ 0))))
    grind
  | 3, _ => 
    show m * (q ^ 1 - 1) * (q ^ 2 - 1) * (q ^ 3 - 1) = m * ((q - 1) ^ 3 * ((q + 1) ^ 1 * ((q ^ 2 + q + 1) ^ 1 * ((q ^ 2 + 1) ^ 0 * (q ^ 4 + q ^ 3 + q ^ 2 + q + 1) ^ 0))))
    grind
  | 4, _ => 
    show m * (q ^ 1 - 1) * (q ^ 2 - 1) * (q ^ 3 - 1) * (q ^ 4 - 1) = m * ((q - 1) ^ 4 * ((q + 1) ^ 2 * ((q ^ 2 + q + 1) ^ 1 * ((q ^ 2 + 1) ^ 1 * (q ^ 4 + q ^ 3 + q ^ 2 + q + 1) ^ 0))))
    grind
theorem prod_ph (q : Int) {a b c : Nat} (ha : a ≤ 4) (hb : b ≤ 4) (hc : c ≤ 4) : prodGo q [(a : Int), (b : Int), (c : Int)] q = q * ph q (muN a b c) := by
  have e : ∀ k : Nat, ((k : Int) + 1 - 1).toNat = k := fun k => by omega
  show facTo q ((c : Int) + 1 - 1).toNat (facTo q ((b : Int) + 1 - 1).toNat (facTo q ((a : Int) + 1 - 1).toNat q)) = _
  rw [e, e, e, facTo_ph q c hc, facTo_ph q b hb, facTo_ph q a ha]
  have : ph q (muN a b c) = ph q (fun d => a / d) * ph q (fun d => b / d) * ph q (fun d => c / d) := by
    rw [← ph_add, ← ph_add]
    rfl
  rw [this]
  ac_rfl
/-- the text of a lead, its gap and what follows -/
noncomputable def textT (a b c g : Nat) : List Nat := wordT a ++ wordT b ++ wordT c ++ List.replicate g 32 ++ [120, 9, 32]
noncomputable def stT (a b c g : Nat) : WsSt := wsGo (textT a b c g) ⟨0, 0, 0, []⟩
noncomputable def max3 (a b c : Nat) : Nat := max a (max b c)
/-- the counts by the whole sizes -/
noncomputable def trimZ (l : List Int) : List Int := (l.reverse.dropWhile (· == 0)).reverse
noncomputable def csBy (e1 e2 e3 e4 : Nat) : List Int :=
  let c4 : Int := e4
  let c3 : Int := e3 - c4
  let c2 : Int := e2 - 2 * c4 - c3
  let c1 : Int := e1 - 4 * c4 - 3 * c3 - 2 * c2
  trimZ [3 - c1 - c2 - c3 - c4, c1, c2, c3, c4]
theorem st_facts : ∀ a b c : Fin 5, ∀ g : Fin 4, (stT a b c g).n = (a.val : Int) + b.val + c.val + 3 + g.val ∧ (stT a b c g).nt = 3 ∧ (stT a b c g).b = (g.val : Int) ∧ (stT a b c g).cs.length = max3 a b c + 1 ∧
    (stT a b c g).cs = csBy (muN a b c 1) (muN a b c 2) (muN a b c 3) (muN a b c 4) := by decide +kernel
theorem st_il : ∀ a b c ts : Fin 5, ilTo ((ts.val : Int) + 1) (stT a b c 0).cs (((stT a b c 0).cs.length : Int) - ((ts.val : Int) + 1)).toNat = (muN a b c (ts.val + 1) : Int) := by decide +kernel
end Mine

end
-- part Y2
section
open PySem PySem.W PySem.Calls PyProof.Rows
namespace Mine
structure Le4 (a b c g : Nat) : Prop where
  a : a ≤ 4
  b : b ≤ 4
  c : c ≤ 4
  g : g ≤ 3
theorem Le4.facts {a b c g : Nat} (h : Le4 a b c g) : (stT a b c g).n = (a : Int) + b + c + 3 + g ∧ (stT a b c g).nt = 3 ∧ (stT a b c g).b = (g : Int) ∧ (stT a b c g).cs.length = max3 a b c + 1 ∧
    (stT a b c g).cs = csBy (muN a b c 1) (muN a b c 2) (muN a b c 3) (muN a b c 4) := by
  obtain ⟨ha, hb, hc, hg⟩ := h
  exact st_facts ⟨a, by omega⟩ ⟨b, by omega⟩ ⟨c, by omega⟩ ⟨g, by omega⟩
theorem max3_le {a b c g : Nat} (h : Le4 a b c g) : max3 a b c ≤ 4 := by
  obtain ⟨ha, hb, hc, hg⟩ := h
  unfold max3
  omega
theorem Le4.bd {a b c g : Nat} (h : Le4 a b c g) : WsBd (stT a b c g) := by
  obtain ⟨f1, f2, f3, f4, f5⟩ := h.facts
  have m := max3_le h
  have hg := h.g
  exact ⟨by omega, by omega, by omega⟩
theorem Le4.il {a b c g : Nat} (h : Le4 a b c g) {k : Nat} (hk : k < 5) : ilTo ((k : Int) + 1) (stT a b c g).cs (((stT a b c g).cs.length : Int) - ((k : Int) + 1)).toNat = (muN a b c (k + 1) : Int) := by
  have e : (stT a b c g).cs = (stT a b c 0).cs := by
    rw [h.facts.2.2.2.2, (Le4.facts (g := 0) ⟨h.a, h.b, h.c, by omega⟩).2.2.2.2]
  rw [e]
  obtain ⟨ha, hb, hc, hg⟩ := h
  exact st_il ⟨a, by omega⟩ ⟨b, by omega⟩ ⟨c, by omega⟩ ⟨k, hk⟩
theorem Le4.indent {a b c g : Nat} (h : Le4 a b c g) {k : Nat} (hk : k < 5) : indentZ (1 + (k : Int)) (stT a b c g) = (g : Int) + (1 + (k : Int)) * ((muN a b c (k + 1) : Int) + 3) := by
  unfold indentZ
  rw [h.facts.2.2.1, h.facts.2.1, Int.add_comm 1 (k : Int), h.il hk]
theorem max3_lt {a b c d : Nat} (h : max3 a b c < d) : a < d ∧ b < d ∧ c < d := by
  have h1 := Nat.max_lt.mp h
  have h2 := Nat.max_lt.mp h1.2
  exact ⟨h1.1, h2.1, h2.2⟩
theorem mu_zero {a b c d : Nat} (h : max3 a b c < d) : muN a b c d = 0 := by
  obtain ⟨h1, h2, h3⟩ := max3_lt h
  unfold muN
  rw [Nat.div_eq_of_lt h1, Nat.div_eq_of_lt h2, Nat.div_eq_of_lt h3]
theorem mu_le {a b c g : Nat} (h : Le4 a b c g) (d : Nat) : muN a b c d ≤ 12 := by
  obtain ⟨ha, hb, hc, hg⟩ := h
  have := Nat.div_le_self a d
  have := Nat.div_le_self b d
  have := Nat.div_le_self c d
  unfold muN
  omega
theorem Le4.top {a b c a' b' c' g g' : Nat} (h : Le4 a b c g) (h' : Le4 a' b' c' g') : ∃ T : Nat, topZ (stT a b c g) (stT a' b' c' g') = T ∧ 1 ≤ T ∧ T ≤ 5 ∧ max3 a b c < T ∧ max3 a' b' c' < T := by
  have m := max3_le h
  have m' := max3_le h'
  have hg := h.g
  have hg' := h'.g
  obtain ⟨-, -, f3, f4, -⟩ := h.facts
  obtain ⟨-, -, f3', f4', -⟩ := h'.facts
  have l : longestZ (stT a b c g) = ((max g (max3 a b c) : Nat) : Int) := by
    unfold longestZ
    rw [f3, f4]
    split <;> omega
  have l' : longestZ (stT a' b' c' g') = ((max g' (max3 a' b' c') : Nat) : Int) := by
    unfold longestZ
    rw [f3', f4']
    split <;> omega
  refine ⟨max (max g (max3 a b c)) (max g' (max3 a' b' c')) + 1, ?_, by omega, by omega, by omega, by omega⟩
  unfold topZ maxZ
  rw [l, l']
  split <;> omega
theorem rowsTo_ne {s u : WsSt} {k : Nat} (h : indentZ (1 + (k : Int)) s ≠ indentZ (1 + (k : Int)) u) : rowsTo s u (k + 1) = rowsTo s u k ++ [(1 + (k : Int), indentZ (1 + (k : Int)) s, indentZ (1 + (k : Int)) u)] := by
  show (if indentZ (1 + (k : Int)) s ≠ indentZ (1 + (k : Int)) u then _ else _) = _
  rw [if_pos h]
theorem rowsTo_eq {s u : WsSt} {k : Nat} (h : indentZ (1 + (k : Int)) s = indentZ (1 + (k : Int)) u) : rowsTo s u (k + 1) = rowsTo s u k := by
  show (if indentZ (1 + (k : Int)) s ≠ indentZ (1 + (k : Int)) u then _ else _) = _
  rw [if_neg (fun hn => hn h)]
theorem rowsTo_stay {s u : WsSt} {K : Nat} : ∀ j : Nat, (∀ i : Nat, K ≤ i → i < K + j → indentZ (1 + (i : Int)) s = indentZ (1 + (i : Int)) u) → rowsTo s u (K + j) = rowsTo s u K
  | 0, _ => rfl
  | j + 1, h => by
    show rowsTo s u (K + j + 1) = _
    rw [rowsTo_eq (h (K + j) (by omega) (by omega))]
    exact rowsTo_stay j fun i h1 h2 => h i h1 (by omega)
theorem rows5 {a b c a' b' c' g : Nat} (h : Le4 a b c g) (h' : Le4 a' b' c' g) : rowsTo (stT a b c g) (stT a' b' c' g) (topZ (stT a b c g) (stT a' b' c' g) + 1 - 1).toNat = rowsTo (stT a b c g) (stT a' b' c' g) 5 := by
  obtain ⟨T, e, t1, t5, m, m'⟩ := h.top h'
  have e2 : (topZ (stT a b c g) (stT a' b' c' g) + 1 - 1).toNat = T := by rw [e]; omega
  rw [e2]
  have := rowsTo_stay (s := stT a b c g) (u := stT a' b' c' g) (K := T) (5 - T) fun i h1 h2 => by
    rw [h.indent (by omega), h'.indent (by omega), mu_zero (by omega), mu_zero (by omega)]
  rw [show T + (5 - T) = 5 by omega] at this
  exact this.symm
theorem rows_mem {s u : WsSt} : ∀ (k : Nat) (r : Row), r ∈ rowsTo s u k → ∃ i : Nat, i < k ∧ r = (1 + (i : Int), indentZ (1 + (i : Int)) s, indentZ (1 + (i : Int)) u) ∧ indentZ (1 + (i : Int)) s ≠ indentZ (1 + (i : Int)) u
  | 0, r, h => nomatch h
  | k + 1, r, h => by
    by_cases hn : indentZ (1 + (k : Int)) s = indentZ (1 + (k : Int)) u
    case neg =>
      rw [rowsTo_ne hn] at h
      rcases List.mem_append.mp h with h | h
      · obtain ⟨i, a, b⟩ := rows_mem k r h
        exact ⟨i, by omega, b⟩
      · rw [List.mem_singleton.mp h]
        exact ⟨k, by omega, rfl, hn⟩
    case pos =>
      rw [rowsTo_eq hn] at h
      obtain ⟨i, a, b⟩ := rows_mem k r h
      exact ⟨i, by omega, b⟩
theorem rows_rise {s u : WsSt} : ∀ k : Nat, (rowsTo s u k).Pairwise fun x y => x.1 < y.1
  | 0 => .nil
  | k + 1 => by
    by_cases hn : indentZ (1 + (k : Int)) s = indentZ (1 + (k : Int)) u
    case neg =>
      rw [rowsTo_ne hn]
      refine List.pairwise_append.mpr ⟨rows_rise k, List.pairwise_singleton _ _, fun x hx y hy => ?_⟩
      obtain ⟨i, hi, e, _⟩ := rows_mem k x hx
      rw [List.mem_singleton.mp hy, e]
      show 1 + (i : Int) < 1 + (k : Int)
      omega
    case pos =>
      rw [rowsTo_eq hn]
      exact rows_rise k
noncomputable def gtP (r : Row) : Bool := decide (r.2.1 > r.2.2)
theorem dif_eq {g A B : Int} {t : Int} : (g + t * (A + 3)) - (g + t * (B + 3)) = t * (A - B) := by grind
theorem ind_gt {g A B t : Int} (ht : 0 < t) : g + t * (A + 3) > g + t * (B + 3) ↔ B < A := by
  have e := dif_eq (g := g) (A := A) (B := B) (t := t)
  constructor
  · intro h
    have h1 : 0 < t * (A - B) := by omega
    refine Int.not_le.mp fun hle => ?_
    have h2 := Int.mul_le_mul_of_nonneg_left (show A - B ≤ 0 by omega) (show 0 ≤ t by omega)
    rw [Int.mul_zero] at h2
    omega
  · intro h
    have : 0 < t * (A - B) := Int.mul_pos ht (by omega)
    omega
theorem ind_eq {g A B t : Int} (ht : 0 < t) : g + t * (A + 3) = g + t * (B + 3) ↔ A = B := by
  have h1 := ind_gt (g := g) (A := A) (B := B) ht
  have h2 := ind_gt (g := g) (A := B) (B := A) ht
  omega
theorem expo_eq {g A B t : Int} (ht : 0 < t) : expo (t, g + t * (A + 3), g + t * (B + 3)) = if A < B then B - A else A - B := by
  unfold expo
  dsimp only
  rw [dif_eq]
  by_cases h : A < B
  · have : 0 < t * (B - A) := Int.mul_pos ht (by omega)
    have e : t * (A - B) = -(t * (B - A)) := by grind
    rw [if_pos h, e, if_pos (by omega), Int.neg_neg]
    exact fdiv_eq ht (Int.mul_comm _ _)
  · have : 0 ≤ t * (A - B) := Int.mul_nonneg (by omega) (by omega)
    rw [if_neg h, if_neg (by omega)]
    exact fdiv_eq ht (Int.mul_comm _ _)
theorem worth_snoc (rings : List Int) (l : List Row) (r : Row) (m : Int) : worthGo rings (l ++ [r]) m = worthGo rings l m * rings.getD r.1.toNat 0 ^ (expo r).toNat := by
  unfold worthGo
  rw [List.foldl_append]
  rfl
section
variable {a b c a' b' c' g : Nat} (h : Le4 a b c g) (h' : Le4 a' b' c' g)
include h h'
theorem worth_gt (rings : List Int) (m : Int) {k : Nat} (hk : k < 5) : worthGo rings ((rowsTo (stT a b c g) (stT a' b' c' g) (k + 1)).filter gtP) m = worthGo rings ((rowsTo (stT a b c g) (stT a' b' c' g) k).filter gtP) m * rings.getD (k + 1) 0 ^ (muN a b c (k + 1) - muN a' b' c' (k + 1)) := by
  have i1 := h.indent hk
  have i2 := h'.indent hk
  have ht : 0 < 1 + (k : Int) := by omega
  have e1 : (1 + (k : Int)).toNat = k + 1 := by omega
  by_cases hn : indentZ (1 + (k : Int)) (stT a b c g) = indentZ (1 + (k : Int)) (stT a' b' c' g)
  · rw [rowsTo_eq hn]
    rw [i1, i2, ind_eq ht] at hn
    rw [show muN a b c (k + 1) - muN a' b' c' (k + 1) = 0 by omega, Int.pow_zero, Int.mul_one]
  · rw [rowsTo_ne hn, List.filter_append]
    rw [i1, i2, ind_eq ht] at hn
    by_cases hg : (muN a' b' c' (k + 1) : Int) < muN a b c (k + 1)
    · have hp : gtP (1 + (k : Int), indentZ (1 + (k : Int)) (stT a b c g), indentZ (1 + (k : Int)) (stT a' b' c' g)) = true := by
        unfold gtP
        rw [i1, i2]
        exact decide_eq_true ((ind_gt ht).mpr hg)
      rw [List.filter_cons, if_pos hp, List.filter_nil, worth_snoc, i1, i2, expo_eq ht, if_neg (by omega)]
      dsimp only
      rw [e1]
      congr 2
      omega
    · have hp : ¬ gtP (1 + (k : Int), indentZ (1 + (k : Int)) (stT a b c g), indentZ (1 + (k : Int)) (stT a' b' c' g)) = true := by
        unfold gtP
        rw [i1, i2]
        exact fun hh => hg ((ind_gt ht).mp (of_decide_eq_true hh))
      rw [List.filter_cons, if_neg hp, List.filter_nil, List.append_nil, show muN a b c (k + 1) - muN a' b' c' (k + 1) = 0 by omega, Int.pow_zero, Int.mul_one]
theorem worth_lt (rings : List Int) (m : Int) {k : Nat} (hk : k < 5) : worthGo rings ((rowsTo (stT a b c g) (stT a' b' c' g) (k + 1)).filter fun r => !gtP r) m = worthGo rings ((rowsTo (stT a b c g) (stT a' b' c' g) k).filter fun r => !gtP r) m * rings.getD (k + 1) 0 ^ (muN a' b' c' (k + 1) - muN a b c (k + 1)) := by
  have i1 := h.indent hk
  have i2 := h'.indent hk
  have ht : 0 < 1 + (k : Int) := by omega
  have e1 : (1 + (k : Int)).toNat = k + 1 := by omega
  by_cases hn : indentZ (1 + (k : Int)) (stT a b c g) = indentZ (1 + (k : Int)) (stT a' b' c' g)
  · rw [rowsTo_eq hn]
    rw [i1, i2, ind_eq ht] at hn
    rw [show muN a' b' c' (k + 1) - muN a b c (k + 1) = 0 by omega, Int.pow_zero, Int.mul_one]
  · rw [rowsTo_ne hn, List.filter_append]
    rw [i1, i2, ind_eq ht] at hn
    by_cases hg : (muN a' b' c' (k + 1) : Int) < muN a b c (k + 1)
    · have hp : gtP (1 + (k : Int), indentZ (1 + (k : Int)) (stT a b c g), indentZ (1 + (k : Int)) (stT a' b' c' g)) = true := by
        unfold gtP
        rw [i1, i2]
        exact decide_eq_true ((ind_gt ht).mpr hg)
      rw [List.filter_cons, if_neg (by rw [hp]; decide), List.filter_nil, List.append_nil, show muN a' b' c' (k + 1) - muN a b c (k + 1) = 0 by omega, Int.pow_zero, Int.mul_one]
    · have hp : gtP (1 + (k : Int), indentZ (1 + (k : Int)) (stT a b c g), indentZ (1 + (k : Int)) (stT a' b' c' g)) = false := by
        unfold gtP
        rw [i1, i2]
        exact decide_eq_false (fun hh => hg ((ind_gt ht).mp hh))
      rw [List.filter_cons, if_pos (by rw [hp]; decide), List.filter_nil, worth_snoc, i1, i2, expo_eq ht, if_pos (by omega)]
      dsimp only
      rw [e1]
      congr 2
      omega
/-- what the first worth tells -/
theorem worth_up (q : Int) : worthGo (cyc q) ((rowsTo (stT a b c g) (stT a' b' c' g) 5).filter gtP) q = q * ph q (fun d => muN a b c d - muN a' b' c' d) := by
  rw [worth_gt h h' _ _ (by decide : 4 < 5), worth_gt h h' _ _ (by decide : 3 < 5), worth_gt h h' _ _ (by decide : 2 < 5), worth_gt h h' _ _ (by decide : 1 < 5), worth_gt h h' _ _ (by decide : 0 < 5)]
  show q * (q - 1) ^ _ * (q + 1) ^ _ * (q ^ 2 + q + 1) ^ _ * (q ^ 2 + 1) ^ _ * (q ^ 4 + q ^ 3 + q ^ 2 + q + 1) ^ _ = _
  unfold ph
  simp only [Nat.zero_add, Nat.reduceAdd]
  ac_rfl
theorem worth_down (q : Int) : worthGo (cyc q) ((rowsTo (stT a b c g) (stT a' b' c' g) 5).filter fun r => !gtP r) q = q * ph q (fun d => muN a' b' c' d - muN a b c d) := by
  rw [worth_lt h h' _ _ (by decide : 4 < 5), worth_lt h h' _ _ (by decide : 3 < 5), worth_lt h h' _ _ (by decide : 2 < 5), worth_lt h h' _ _ (by decide : 1 < 5), worth_lt h h' _ _ (by decide : 0 < 5)]
  show q * (q - 1) ^ _ * (q + 1) ^ _ * (q ^ 2 + q + 1) ^ _ * (q ^ 2 + 1) ^ _ * (q ^ 4 + q ^ 3 + q ^ 2 + q + 1) ^ _ = _
  unfold ph
  simp only [Nat.zero_add, Nat.reduceAdd]
  ac_rfl
theorem rows_ok : ∀ r ∈ rowsTo (stT a b c g) (stT a' b' c' g) 5, RowOk 6 r := fun r hr => by
  obtain ⟨i, hi, e, hn⟩ := rows_mem 5 r hr
  have ht : 0 < 1 + (i : Int) := by omega
  rw [h.indent hi, h'.indent hi] at e hn
  subst e
  have x := mu_le h (i + 1)
  have y := mu_le h' (i + 1)
  refine ⟨by dsimp only; omega, by dsimp only; omega, hn, ?_, ?_, ?_⟩
  · dsimp only
    rw [dif_eq, Int.fmod_eq_emod_of_nonneg _ (by omega)]
    exact Int.mul_emod_right _ _
  · rw [expo_eq ht]
    split <;> omega
  · rw [expo_eq ht]
    split <;> omega
end
end Mine

end
-- part X2
section
open PySem PySem.W PySem.Calls PyProof.Rows
namespace Mine
noncomputable def stV : Stmt → PySem.Expr
  | .Assign _ v _ => v
  | _ => .Constant .none 0 ⟨0, 0, 0, 0⟩
noncomputable def exA : PySem.Expr → List PySem.Expr
  | .Call _ a _ _ => a
  | _ => []
noncomputable def nthE : List PySem.Expr → Nat → PySem.Expr
  | [], _ => .Constant .none 0 ⟨0, 0, 0, 0⟩
  | s :: _, 0 => s
  | _ :: r, k + 1 => nthE r k
noncomputable def laP : PySem.Expr → Arguments
  | .Lambda a _ _ _ => a
  | _ => { posonlyargs := [], args := [], vararg := none, kwonlyargs := [], kw_defaults := [], kwarg := none, defaults := [] }
noncomputable def laB : PySem.Expr → PySem.Expr
  | .Lambda _ b _ _ => b
  | e => e
noncomputable def laS : PySem.Expr → Scope
  | .Lambda _ _ s _ => s
  | _ => { kind := .function, names := [], isGenerator := false, isCoroutine := false, more := [] }
/-- the law's lambda, a part of the program's own tree -/
noncomputable def lamE : PySem.Expr := nthE (exA (stV (nth (stB (nth topB 19)) 11))) 1
noncomputable def lamP : Arguments := by
  refine (fun (b : Arguments) (_ : laP lamE = b) => b) ?_ ?_; rotate_left; (conv => lhs; whnf)
noncomputable def lamB : PySem.Expr := by
  refine (fun (b : PySem.Expr) (_ : laB lamE = b) => b) ?_ ?_; rotate_left; (conv => lhs; whnf)
noncomputable def lamS : Scope := by
  refine (fun (b : Scope) (_ : laS lamE = b) => b) ?_ ?_; rotate_left; (conv => lhs; whnf)
set_option maxRecDepth 100000 in
set_option maxHeartbeats 2000000 in
theorem lamAsks (w : World) (f c' : Addr) (nm qual : Str) (pm ctv : Value) (oc : Obj) (vsc : Array Value) (tq : Tok) (stat : Led)
    (hf : (f, kla_obj nm qual lamP lamB lamS [] pm c' ctv) ∈ stat) (hc : (c', oc) ∈ stat) (hcd : oc.data = .fields vsc) (hcv : vsc[1]? = some (.str qual tq)) : Asks w f stat gtP := by
  (k_with_none; w_top off)
  k_with "execs cons" => (k_here; (fail_if_success k_gentoks); (fail_if_success (with_reducible show wpAny _ _ (execs (Stmt.While _ _ _ _ :: _) _) _ _ _)); (fail_if_success (with_reducible show wpAny _ _ (execs (Stmt.For _ _ _ _ _ :: _) _) _ _ _)); (with_reducible refine execsQ ?_); intro Q9 hQ9)
  k_with "AtQ" => ((try dsimp only); first | ((with_reducible refine AtQ.next hQ9 ?_); clear hQ9; (try clear Q9)) | ((with_reducible refine AtQ.ret hQ9 ?_); clear hQ9; (try clear Q9); (try dsimp only)) | ((with_reducible refine AtQ.brk hQ9 ?_); clear hQ9; (try clear Q9); (try dsimp only)) | ((with_reducible refine AtQ.cont hQ9 ?_); clear hQ9; (try clear Q9); (try dsimp only)) | ((with_reducible refine AtQ.go hQ9 ?_); clear hQ9; (try clear Q9); (try dsimp only); (try k_fold)))
  k_with "laR_enter" => (refine' kla_code ?k1u2 ?k2u2 ?k3u2 ?k4u2 ?k5u2 ?kAu2 ?kFu2 ?kKu2 ?k6u2 ?k7u2 ?k8u2 ?k9u2 ?kBu2 ?_ ?c2u2 ?c3u2 ?c4u2 ?c5u2; (case kAu2 => exact rfl); (case kFu2 => exact rfl); (case kKu2 => assumption); (case k1u2 => k_asm); (case k2u2 => k_asm); (case k3u2 => k_asm); (case k4u2 => k_asm); (case k5u2 => k_asm); (case k6u2 => assumption); (case k7u2 => exact codeRec_news (by k_asm) (by assumption) (by assumption) (by assumption)); (case k8u2 => ktr_room); (case k9u2 => exact rfl); (case c5u2 => decide); (case kBu2 => exact locs rfl); (case c2u2 => exact rfl); (case c3u2 => exact rfl); (case c4u2 => exact rfl); k_whole; intro g' L' h' FG' F' N' B' X' T'; (try dsimp only); (try k_lift B'); (try k_fold))
  intro news d a b c t1 t2 t3 hsub hmem
  have hf' := hsub _ hf
  have hc' := hsub _ hc
  clear hf hc hsub
  unfold lamP lamB lamS at hf'
  dsimp only at hf'
  unfold DoesC
  k_fill
  intro dp un gd cn cs aa ccd cl outer A₀ base h₀ L m p9 loose mean mg mb s Q E C1 C2 B F X N T hk hd9 hu hret
  refine wpAny_call ?_
  k_dflt walk_at "laR_enter"
  k_steps
  all_goals exact hret _ _ _ _ (by assumption) (by assumption) ⟨rfl, rfl⟩
end Mine

end
-- part Z0
section
open PySem PySem.W PySem.Calls PyProof.Rows
namespace Mine
open Builtin.Int (intBits)
/-- two to the power of 1024 -/
noncomputable def Big (P : Int) : Prop := P = 2 ^ 1024
theorem Big.bits {P t : Int} (h : Big P) (h0 : 0 ≤ t) (h1 : t ≤ 63000000) : intBits (P + t) ≤ 1026 := by
  have e : P = 2 ^ 1024 := h
  subst e
  exact intBits_le_iff.mpr (by
    have a : (63000000 : Int) < 2 ^ 1024 := by decide +kernel
    have b : ((2 : Nat) ^ 1026 : Nat) = 4 * 2 ^ 1024 := by decide +kernel
    have c : (2 : Int) ^ 1024 = ((2 ^ 1024 : Nat) : Int) := by decide +kernel
    rw [b]
    rw [c] at a ⊢
    generalize (2 : Nat) ^ 1024 = p at a ⊢
    omega)
theorem Big.ge {P t : Int} (h : Big P) (h0 : 0 ≤ t) : 2 ^ 201 ≤ P + t := by
  have e : P = 2 ^ 1024 := h
  have a : (2 : Int) ^ 201 ≤ 2 ^ 1024 := by decide +kernel
  rw [e]
  generalize (2 : Int) ^ 1024 = p at a ⊢
  omega
theorem Big.lo {P t : Int} (h : Big P) (h0 : 0 ≤ t) : 1025 ≤ intBits (P + t) := by
  have e : P = 2 ^ 1024 := h
  subst e
  refine Nat.le_of_not_lt fun hn => ?_
  have hb : intBits ((2 : Int) ^ 1024 + t) ≤ 1024 := by omega
  have := intBits_le_iff.mp hb
  have c : (2 : Int) ^ 1024 = ((2 ^ 1024 : Nat) : Int) := by decide +kernel
  rw [c] at this
  generalize (2 : Nat) ^ 1024 = p at this
  omega
theorem Big.up {P t : Int} (h : Big P) (h1 : t ≤ 63000000) : P + t ≤ 2 ^ 1025 := by
  have e : P = 2 ^ 1024 := h
  have a : (63000000 : Int) < 2 ^ 1024 := by decide +kernel
  have b : (2 : Int) ^ 1025 = 2 * 2 ^ 1024 := by decide +kernel
  rw [e, b]
  generalize (2 : Int) ^ 1024 = p at a ⊢
  omega
/-- the base -/
structure QOk (q : Int) : Prop where
  b1 : intBits q ≤ 1026
  b0 : 1025 ≤ intBits q
  ge : 2 ^ 201 ≤ q
  le : q ≤ 2 ^ 1025
theorem baseAdd {prog : Program} {w : World} {A : Around} {E : Value → Shared → Prop} {s : Shared} {t u : Tok} {Q : Value → Shared → Prop} {P tot : Int} (h : Big P) (h0 : 0 ≤ tot) (h1 : tot ≤ 63000000)
    (k : ∀ q : Int, QOk q → ∀ t' k', Q (.int q t') { s with toks := k' }) : wpAny (model prog w) A (binaryOp .Add (.int P t) (.int tot u)) Q E s :=
  PyProof.Rows.add_int (k _ ⟨h.bits h0 h1, h.lo h0, h.ge h0, h.up h1⟩ _ _)
theorem powBig {prog : Program} {w : World} {A : Around} {E : Value → Shared → Prop} {s : Shared} {t u : Tok} {Q : Value → Shared → Prop}
    (h : ∀ P : Int, Big P → ∀ t' k', Q (.int P t') { s with toks := k' }) : wpAny (model prog w) A (binaryOp .Pow (.int 2 t) (.int 1024 u)) Q E s := by
  refine PyProof.Rows.pow_int (by decide) (by decide +kernel) ?_
  exact h _ rfl _ _
end Mine

end
-- part Y3
section
open PySem PySem.W PySem.Calls PyProof.Rows
namespace Mine
open Builtin.Int (intBits)
theorem bits_mono {x y : Int} (h0 : 0 ≤ x) (h : x ≤ y) : intBits x ≤ intBits y := intBits_le_of_natAbs (by omega) (Nat.le_refl _)
theorem bits_pow1 {q : Int} (h : 2 ≤ q) (hb : intBits q ≤ 1026) (k : Nat) : intBits (q ^ k - 1) ≤ 1026 * k + 1 := by
  have h1 : 1 ≤ q ^ k := pow_pos' (by omega) k
  exact Nat.le_trans (bits_mono (by omega) (by omega)) (intBits_pow_le hb k)
theorem facTo_step {q : Int} (h : 2 ≤ q) (hb : intBits q ≤ 1026) {m : Int} {k B : Nat} (hB : intBits (facTo q k m) ≤ B) : intBits (facTo q (k + 1) m) ≤ B + (1026 * (k + 1) + 1) := by
  have e : facTo q (k + 1) m = facTo q k m * (q ^ (k + 1) - 1) := by
    have e2 : (1 + (k : Int)).toNat = k + 1 := by omega
    show facTo q k m * (q ^ (1 + (k : Int)).toNat - 1) = _
    rw [e2]
  rw [e]
  exact intBits_mul_le hB (bits_pow1 h hb (k + 1))
theorem facTo_bits {q : Int} (h : 2 ≤ q) (hb : intBits q ≤ 1026) (a : Nat) (ha : a ≤ 4) (m : Int) : intBits (facTo q a m) ≤ intBits m + 10264 := by
  have s0 : intBits (facTo q 0 m) ≤ intBits m := Nat.le_refl _
  have s1 := facTo_step h hb s0
  have s2 := facTo_step h hb s1
  have s3 := facTo_step h hb s2
  have s4 := facTo_step h hb s3
  match a, ha with
  | 0, _ => exact Nat.le_trans s0 (by omega)
  | 1, _ => exact Nat.le_trans s1 (by omega)
  | 2, _ => exact Nat.le_trans s2 (by omega)
  | 3, _ => exact Nat.le_trans s3 (by omega)
  | 4, _ => exact Nat.le_trans s4 (by omega)
theorem prod_bits {q : Int} (h : 2 ≤ q) (hb : intBits q ≤ 1026) {a b c : Nat} (ha : a ≤ 4) (hb4 : b ≤ 4) (hc : c ≤ 4) : intBits (q * ph q (muN a b c)) ≤ 32000 := by
  rw [← prod_ph q ha hb4 hc]
  have e : ∀ k : Nat, ((k : Int) + 1 - 1).toNat = k := fun k => by omega
  show intBits (facTo q ((c : Int) + 1 - 1).toNat (facTo q ((b : Int) + 1 - 1).toNat (facTo q ((a : Int) + 1 - 1).toNat q))) ≤ _
  rw [e, e, e]
  have h1 := facTo_bits h hb a ha q
  have h2 := facTo_bits h hb b hb4 (facTo q a q)
  have h3 := facTo_bits h hb c hc (facTo q b (facTo q a q))
  omega
/-- a number that int_divmod takes -/
structure NOk (x : Int) : Prop where
  p : 1 ≤ x
  hi : intBits x ≤ 32000
  lo : 1025 ≤ intBits x
theorem NOk.of {q : Int} (hq : QOk q) {e : Nat → Nat} {x : Int} (hx : x = q * ph q e) (hi : intBits x ≤ 32000) : NOk x := by
  have h2 : 2 ≤ q := Int.le_trans (by decide) hq.ge
  have h1 := ph_pos h2 e
  have hle : q ≤ q * ph q e := by
    have := Int.mul_le_mul_of_nonneg_left h1 (show 0 ≤ q by omega)
    omega
  refine ⟨by omega, hi, ?_⟩
  exact Nat.le_trans hq.b0 (bits_mono (by omega) (by omega))
/-- what holds between the four products -/
structure Nums (q : Int) (N F : Nat → Nat) (X Y U D M : Int) : Prop where
  x : NOk X
  y : NOk Y
  u : NOk U
  d : NOk D
  xe : X = q * ph q N
  ye : Y = q * ph q F
  mu : M * U = X
  md : M * D = Y
theorem minSub (a b : Nat) : a = min a b + (a - b) := by omega
theorem minSub' (a b : Nat) : b = min a b + (b - a) := by omega
theorem nums {q : Int} (hq : QOk q) {a b c a' b' c' : Nat} (ha : a ≤ 4) (hb : b ≤ 4) (hc : c ≤ 4) (ha' : a' ≤ 4) (hb' : b' ≤ 4) (hc' : c' ≤ 4) {X Y U D : Int} (hX : X = q * ph q (muN a b c)) (hY : Y = q * ph q (muN a' b' c'))
    (hU : U = q * ph q (fun d => muN a b c d - muN a' b' c' d)) (hD : D = q * ph q (fun d => muN a' b' c' d - muN a b c d)) : ∃ M, Nums q (muN a b c) (muN a' b' c') X Y U D M := by
  have h2 : 2 ≤ q := Int.le_trans (by decide) hq.ge
  have bx := prod_bits h2 hq.b1 ha hb hc
  have by' := prod_bits h2 hq.b1 ha' hb' hc'
  have m1 : ph q (fun d => min (muN a b c d) (muN a' b' c' d)) * U = X := by
    rw [hX, hU]
    have : ph q (muN a b c) = ph q (fun d => min (muN a b c d) (muN a' b' c' d)) * ph q (fun d => muN a b c d - muN a' b' c' d) := by
      rw [← ph_add]
      exact ph_congr (minSub _ _) (minSub _ _) (minSub _ _) (minSub _ _) (minSub _ _)
    rw [this]
    ac_rfl
  have m2 : ph q (fun d => min (muN a b c d) (muN a' b' c' d)) * D = Y := by
    rw [hY, hD]
    have : ph q (muN a' b' c') = ph q (fun d => min (muN a b c d) (muN a' b' c' d)) * ph q (fun d => muN a' b' c' d - muN a b c d) := by
      rw [← ph_add]
      exact ph_congr (minSub' _ _) (minSub' _ _) (minSub' _ _) (minSub' _ _) (minSub' _ _)
    rw [this]
    ac_rfl
  have hm := ph_pos h2 (fun d => min (muN a b c d) (muN a' b' c' d))
  have ox := NOk.of hq hX (by rw [hX]; exact bx)
  have oy := NOk.of hq hY (by rw [hY]; exact by')
  have pu : 1 ≤ U := by rw [hU]; exact mul_pos' (by omega) (ph_pos h2 _)
  have pd : 1 ≤ D := by rw [hD]; exact mul_pos' (by omega) (ph_pos h2 _)
  have lu : U ≤ X := by
    have := Int.mul_le_mul_of_nonneg_right hm (show 0 ≤ U by omega)
    omega
  have ld : D ≤ Y := by
    have := Int.mul_le_mul_of_nonneg_right hm (show 0 ≤ D by omega)
    omega
  exact ⟨_, ox, oy, NOk.of hq hU (Nat.le_trans (bits_mono (by omega) lu) ox.hi), NOk.of hq hD (Nat.le_trans (bits_mono (by omega) ld) oy.hi), hX, hY, m1, m2⟩
theorem bits_neg (x : Int) : intBits (-x) = intBits x := by unfold intBits; simp
theorem NOk.fits {x y : Int} (h : NOk x) (g : NOk y) : intBits y ≤ 256 * intBits x ∧ intBits (-y) ≤ 256 * intBits x ∧ intBits y ≤ 900000 ∧ intBits (-y) ≤ 900000 := by
  have a := h.lo
  have b := g.hi
  rw [bits_neg]
  omega
theorem mulDiv {M U X : Int} (h : M * U = X) (hU : 1 ≤ U) : X / U = M ∧ X % U = 0 := by
  subst h
  exact ⟨Int.mul_ediv_cancel _ (by omega), Int.mul_emod_left _ _⟩
theorem dmX {w : World} {X U M : Int} (hX : NOk X) (hU : NOk U) (h : M * U = X) : DM w X U M 0 16 192 := by
  obtain ⟨e1, e2⟩ := mulDiv h hU.p
  have := dm1 w X U (by have := hU.p; omega) hU.hi (hU.fits hX).2.2.1 (hU.fits hX).1
  rw [e1, e2] at this
  exact this
theorem dm00 {w : World} {U : Int} (hU : NOk U) : DM w 0 U 0 0 16 192 := by
  have h0 : intBits (0 : Int) ≤ 1 := intBits_le_iff.mpr (by decide)
  have hl := hU.lo
  have := dm1 w 0 U (by have := hU.p; omega) hU.hi (by omega) (by omega)
  rw [Int.zero_ediv, Int.zero_emod] at this
  exact this
theorem dm_1 {w : World} {U : Int} (hU : NOk U) : DM w (-1) U (-1) (U - 1) 16 192 := by
  have hp := hU.p
  have h0 : intBits (-1 : Int) ≤ 1 := intBits_le_iff.mpr (by decide)
  have hl := hU.lo
  have := dm1 w (-1) U (by omega) hU.hi (by omega) (by omega)
  have e : (-1 : Int) / U = -1 ∧ (-1 : Int) % U = U - 1 := by
    have h2 := Int.emod_add_mul_ediv (-1) U
    have h3 := Int.emod_nonneg (-1) (show U ≠ 0 by omega)
    have h4 := Int.emod_lt_of_pos (-1) (show 0 < U by omega)
    have h5 : (-1 : Int) / U = -1 := by
      have e0 : (-1 : Int) = (U - 1) + (-1) * U := by omega
      have e1 : (U - 1) / U = 0 := Int.ediv_eq_zero_of_lt (by omega) (by omega)
      rw [e0, Int.add_mul_ediv_right _ _ (by omega), e1]
      omega
    rw [h5] at h2
    exact ⟨h5, by omega⟩
  rw [e.1, e.2] at this
  exact this
/-- the last two calls -/
theorem dmP {w : World} {x y : Int} (hx : NOk x) (hy : NOk y) : DM w y x (y / x) (y % x) 16 192 := dm1 w y x (by have := hx.p; omega) hx.hi (hx.fits hy).2.2.1 (hx.fits hy).1
theorem dmPn {w : World} {x y : Int} (hx : NOk x) (hy : NOk y) : DM w (-y) x ((-y) / x) ((-y) % x) 16 192 := dm1 w (-y) x (by have := hx.p; omega) hx.hi (hx.fits hy).2.2.2 (hx.fits hy).2.1
theorem dmN {w : World} {x y : Int} (hx : NOk x) (hy : NOk y) : DM w y (-x) ((-y) / x) (-((-y) % x)) 18 208 := by
  have := dm2 w y (-x) (by have := hx.p; omega) (by rw [bits_neg]; exact hx.hi) (hx.fits hy).2.2.1 (by rw [bits_neg]; exact (hx.fits hy).1)
  rw [Int.neg_neg] at this
  exact this
theorem dmNn {w : World} {x y : Int} (hx : NOk x) (hy : NOk y) : DM w (-y) (-x) (y / x) (-(y % x)) 18 208 := by
  have := dm2 w (-y) (-x) (by have := hx.p; omega) (by rw [bits_neg]; exact hx.hi) (hx.fits hy).2.2.2 (by rw [bits_neg, bits_neg]; exact (hx.fits hy).1)
  rw [Int.neg_neg, Int.neg_neg] at this
  exact this
end Mine

end
-- part Y4
section
open PySem PySem.W PySem.Calls PyProof.Rows
namespace Mine
open Builtin.Int (intBits)
noncomputable abbrev LeMu (a b c a' b' c' : Nat) : Prop := muN a b c 1 ≤ muN a' b' c' 1 ∧ muN a b c 2 ≤ muN a' b' c' 2 ∧ muN a b c 3 ≤ muN a' b' c' 3 ∧ muN a b c 4 ≤ muN a' b' c' 4 ∧ muN a b c 5 ≤ muN a' b' c' 5
theorem mu_one (a b c : Nat) : muN a b c 1 = a + b + c := by
  unfold muN
  rw [Nat.div_one, Nat.div_one, Nat.div_one]
theorem ind_lt {g A B t : Int} (ht : 1 ≤ t) : g + t * (A + 3) < g + 1 + t * (B + 3) ↔ A ≤ B := by
  have e := dif_eq (g := g) (A := A) (B := B) (t := t)
  constructor
  · intro h
    refine Int.not_lt.mp fun hn => ?_
    have := Int.mul_le_mul_of_nonneg_left (show 1 ≤ A - B by omega) (show 0 ≤ t by omega)
    omega
  · intro h
    have := Int.mul_le_mul_of_nonneg_left (show A - B ≤ 0 by omega) (show 0 ≤ t by omega)
    omega
theorem less_eq {a b c a' b' c' g : Nat} (h : Le4 a b c g) (h' : Le4 a' b' c' (g + 1)) : lessB (stT a b c g) (stT a' b' c' (g + 1)) = decide (LeMu a b c a' b' c') := by
  obtain ⟨n1, n2, n3, n4, n5⟩ := h.facts
  obtain ⟨n1', n2', n3', n4', n5'⟩ := h'.facts
  obtain ⟨T, eT, t1, t5, m, m'⟩ := h.top h'
  have o := mu_one a b c
  have o' := mu_one a' b' c'
  unfold lessB
  rw [n1, n1']
  by_cases hn : (a : Int) + b + c + 3 + g ≥ (a' : Int) + b' + c' + 3 + ((g + 1 : Nat) : Int)
  · rw [if_pos hn]
    symm
    refine decide_eq_false fun hm => ?_
    have := hm.1
    omega
  · rw [if_neg hn]
    by_cases hs : ((stT a b c g).cs.length : Int) ≤ 1 ∧ ((stT a' b' c' (g + 1)).cs.length : Int) ≤ 1
    · rw [if_pos hs, n2, n2']
      rw [n4, n4'] at hs
      have z : ∀ d, 1 ≤ d → muN a b c d = 0 := fun d hd => mu_zero (by omega)
      have : LeMu a b c a' b' c' := by
        refine ⟨?_, ?_, ?_, ?_, ?_⟩ <;> (rw [z _ (by decide)]; exact Nat.zero_le _)
      rw [decide_eq_true this]
      decide
    · rw [if_neg hs, eT]
      have ind : ∀ k : Nat, k < 4 → ((indentZ (2 + (k : Int)) (stT a b c g) < indentZ (2 + (k : Int)) (stT a' b' c' (g + 1))) ↔ muN a b c (k + 2) ≤ muN a' b' c' (k + 2)) := fun k hk => by
        have e : (2 : Int) + k = 1 + ((k + 1 : Nat) : Int) := by omega
        rw [e, h.indent (by omega), h'.indent (by omega)]
        have := ind_lt (g := (g : Int)) (A := (muN a b c (k + 1 + 1) : Int)) (B := (muN a' b' c' (k + 1 + 1) : Int)) (t := 1 + ((k + 1 : Nat) : Int)) (by omega)
        have e2 : ((g + 1 : Nat) : Int) = (g : Int) + 1 := by omega
        rw [e2, this]
        exact Int.ofNat_le
      have key : ((List.range ((T : Int) + 1 - 2).toNat).all fun k => decide (indentZ (2 + (k : Int)) (stT a b c g) < indentZ (2 + (k : Int)) (stT a' b' c' (g + 1)))) = true ↔ LeMu a b c a' b' c' := by
        rw [List.all_eq_true]
        constructor
        · intro hk
          have hh : ∀ k : Nat, k < 4 → muN a b c (k + 2) ≤ muN a' b' c' (k + 2) := fun k k4 => by
            by_cases hkT : k < ((T : Int) + 1 - 2).toNat
            · exact (ind k k4).mp (of_decide_eq_true (hk k (List.mem_range.mpr hkT)))
            · rw [mu_zero (by omega)]
              exact Nat.zero_le _
          exact ⟨by omega, hh 0 (by decide), hh 1 (by decide), hh 2 (by decide), hh 3 (by decide)⟩
        · rintro ⟨a1, a2, a3, a4, a5⟩ k hk
          have hk := List.mem_range.mp hk
          refine decide_eq_true ((ind k (by omega)).mpr ?_)
          have : k = 0 ∨ k = 1 ∨ k = 2 ∨ k = 3 := by omega
          rcases this with rfl | rfl | rfl | rfl
          · exact a2
          · exact a3
          · exact a4
          · exact a5
      rw [Bool.eq_iff_iff, key]
      exact (decide_eq_true_iff).symm
theorem dvd_mu {q : Int} (hq : QOk q) {a b c a' b' c' g g' : Nat} (h' : Le4 a' b' c' g') : q * ph q (muN a b c) ∣ q * ph q (muN a' b' c') ↔ LeMu a b c a' b' c' := by
  have h0 : q ≠ 0 := by have := hq.ge; omega
  refine Iff.trans ?_ (landau hq.ge (N := muN a b c) (F := muN a' b' c') (mu_le h'))
  exact Int.mul_dvd_mul_iff_left h0
theorem mu_same {a b c a' b' c' g : Nat} (h : Le4 a b c g) (h' : Le4 a' b' c' g) (e : (stT a b c g).cs = (stT a' b' c' g).cs) : LeMu a b c a' b' c' := by
  have k : ∀ d, d < 5 → muN a b c (d + 1) = muN a' b' c' (d + 1) := fun d hd => by
    have i := h.il hd
    rw [e, h'.il hd] at i
    omega
  exact ⟨Nat.le_of_eq (k 0 (by decide)), Nat.le_of_eq (k 1 (by decide)), Nat.le_of_eq (k 2 (by decide)), Nat.le_of_eq (k 3 (by decide)), Nat.le_of_eq (k 4 (by decide))⟩
theorem equal_eq {q X Y : Int} (hq : QOk q) {a b c a' b' c' g : Nat} (h : Le4 a b c g) (h' : Le4 a' b' c' g) (hX : X = q * ph q (muN a b c)) (hY : Y = q * ph q (muN a' b' c')) :
    ((stT a b c g).cs = (stT a' b' c' g).cs ∧ (stT a b c g).b = (stT a' b' c' g).b) ↔ X = Y := by
  constructor
  · rintro ⟨e, _⟩
    obtain ⟨a1, a2, a3, a4, a5⟩ := mu_same h h' e
    obtain ⟨b1, b2, b3, b4, b5⟩ := mu_same h' h e.symm
    rw [hX, hY, ph_congr (e := muN a b c) (f := muN a' b' c') (by omega) (by omega) (by omega) (by omega) (by omega)]
  · intro e
    have d1 : LeMu a b c a' b' c' := (dvd_mu (g := g) hq h').mp (by rw [← hX, ← hY, e]; exact ⟨1, by omega⟩)
    have d2 : LeMu a' b' c' a b c := (dvd_mu (g := g) hq h).mp (by rw [← hX, ← hY, e]; exact ⟨1, by omega⟩)
    obtain ⟨a1, a2, a3, a4, a5⟩ := d1
    obtain ⟨b1, b2, b3, b4, b5⟩ := d2
    rw [h.facts.2.2.2.2, h'.facts.2.2.2.2, h.facts.2.2.1, h'.facts.2.2.1]
    exact ⟨by rw [Nat.le_antisymm a1 b1, Nat.le_antisymm a2 b2, Nat.le_antisymm a3 b3, Nat.le_antisymm a4 b4], rfl⟩
/-- what the loop asks of a division -/
theorem dmAny {w : World} {x y x' y' : Int} (hx : NOk x) (hy : NOk y) (h1 : x' = x ∨ x' = -x) (h2 : y' = y ∨ y' = -y) :
    ∃ Q R, DM w y' x' Q R 18 208 ∧ x' * Q + R = y' ∧ (0 ≤ x' → 0 ≤ R ∧ R < x) ∧ (x' < 0 → R ≤ 0 ∧ -R < x) ∧ (R = 0 ↔ x ∣ y) ∧ IntMulOk x' Q := by
  have hp := hx.p
  have le : ∀ {a b q r : Int}, DM w a b q r 16 192 → DM w a b q r 18 208 := fun D ta tb T1 T2 rest a1 a2 a3 a4 => (D ta tb T1 T2 rest a1 a2 a3 a4).le (by decide) (by decide)
  have mk : ∀ z : Int, intBits z ≤ 900000 → intBits (z / x) ≤ 900000 := fun z hz => Nat.le_trans (intBits_le_of_natAbs (by
    have := Int.natAbs_ediv_le_natAbs z x
    exact this) (Nat.le_refl _)) hz
  have ok : ∀ z : Int, intBits z ≤ 900000 → ∀ x' : Int, intBits x' = intBits x → IntMulOk x' (z / x) := fun z hz x' e => IntMulOk.of_le (by rw [e]; exact hx.hi) (mk z hz) (by omega)
  have f := hx.fits hy
  have dn : ∀ z : Int, (z % x = 0 ↔ x ∣ z) := fun z => Int.dvd_iff_emod_eq_zero.symm
  rcases h1 with rfl | rfl <;> rcases h2 with rfl | rfl
  · refine ⟨_, _, le (dmP hx hy), Int.mul_ediv_add_emod _ _, fun _ => ⟨Int.emod_nonneg _ (by omega), Int.emod_lt_of_pos _ (by omega)⟩, fun h => by omega, dn _, ok _ f.2.2.1 _ rfl⟩
  · refine ⟨_, _, le (dmPn hx hy), Int.mul_ediv_add_emod _ _, fun _ => ⟨Int.emod_nonneg _ (by omega), Int.emod_lt_of_pos _ (by omega)⟩, fun h => by omega, (dn _).trans Int.dvd_neg, ok _ f.2.2.2 _ rfl⟩
  · have e := Int.mul_ediv_add_emod (-y') x
    have a := Int.emod_nonneg (-y') (show x ≠ 0 by omega)
    have b := Int.emod_lt_of_pos (-y') (show 0 < x by omega)
    refine ⟨_, _, dmN hx hy, ?_, fun h => by omega, fun _ => ⟨by omega, by omega⟩, ?_, ok _ f.2.2.2 _ (bits_neg _)⟩
    · rw [Int.neg_mul]; omega
    · have := (dn (-y')).trans Int.dvd_neg
      omega
  · have e := Int.mul_ediv_add_emod y x
    have a := Int.emod_nonneg y (show x ≠ 0 by omega)
    have b := Int.emod_lt_of_pos y (show 0 < x by omega)
    refine ⟨_, _, dmNn hx hy, ?_, fun h => by omega, fun _ => ⟨by omega, by omega⟩, ?_, ok _ f.2.2.1 _ (bits_neg _)⟩
    · rw [Int.neg_mul]; omega
    · have := dn y
      omega
end Mine
namespace Mine
theorem three_ok {a b c : Nat} (ha : a ≤ 4) (hb : b ≤ 4) (hc : c ≤ 4) : ∀ p ∈ [(a : Int), (b : Int), (c : Int)], 0 ≤ p ∧ p ≤ 4 := by
  intro p hp
  simp only [List.mem_cons, List.not_mem_nil, or_false] at hp
  rcases hp with rfl | rfl | rfl <;> omega
theorem qph_pos {q : Int} (hq : QOk q) (e : Nat → Nat) : 1 ≤ q * ph q e := by
  have := hq.ge
  exact mul_pos' (by omega) (ph_pos (by omega) e)
theorem Nums.muls {q : Int} {N F : Nat → Nat} {X Y U D M : Int} (h : Nums q N F X Y U D M) : IntMulOk M U ∧ IntMulOk M D := by
  have hx := h.x.p
  have hu := h.u.p
  have hd := h.d.p
  have m0 : 0 ≤ M := by
    refine Int.not_lt.mp fun hn => ?_
    have := Int.mul_le_mul_of_nonneg_right (show M ≤ 0 by omega) (show 0 ≤ U by omega)
    have e := h.mu
    omega
  have le : M ≤ X := by
    have := Int.mul_le_mul_of_nonneg_left hu m0
    have e := h.mu
    omega
  have b := Nat.le_trans (bits_mono m0 le) h.x.hi
  exact ⟨IntMulOk.of_le b h.u.hi (by omega), IntMulOk.of_le b h.d.hi (by omega)⟩
end Mine

end
-- part Z1
section
open PySem PySem.W PySem.Calls PyProof.Rows
namespace Mine
open Builtin.Int (intBits)
/-- the signs of a text -/
noncomputable def TextIs (x : Str) (l : List Nat) : Prop := x.cps.toList = l
theorem TextIs.len {x : Str} {l : List Nat} (h : TextIs x l) : x.length = l.length := by
  rw [← h]
  simp [Str.length]
theorem ints6N {F : Int → Int} {ys : List Value} (h : IntsAre ys (List.map (fun k => (F k).fmod 5) (rangeKs 0 (6 - 0 : Int).toNat))) :
    ∃ (p0 p1 p2 p3 p4 p5 : Nat) (t0 t1 t2 t3 t4 t5 : Tok), ys = [.int p0 t0, .int p1 t1, .int p2 t2, .int p3 t3, .int p4 t4, .int p5 t5] ∧ (p0 ≤ 4 ∧ p1 ≤ 4 ∧ p2 ≤ 4) ∧ (p3 ≤ 4 ∧ p4 ≤ 4 ∧ p5 ≤ 4) := by
  have e : rangeKs 0 (6 - 0 : Int).toNat = [0, 1, 2, 3, 4, 5] := by decide
  rw [e] at h
  simp only [List.map_cons, List.map_nil] at h
  have b : ∀ x : Int, ∃ n : Nat, x.fmod 5 = n ∧ n ≤ 4 := fun x => by
    have h0 : 0 ≤ x.fmod 5 := Int.fmod_nonneg_of_pos _ (by decide)
    have h1 : x.fmod 5 < 5 := Int.fmod_lt_of_pos _ (by decide)
    obtain ⟨n, hn⟩ := Int.eq_ofNat_of_zero_le h0
    rw [hn] at h1
    exact ⟨n, hn, Nat.le_of_lt_succ (Int.ofNat_lt.mp h1)⟩
  refine genG ?_
  intro X hX
  obtain ⟨p0, a0, b0⟩ := b (F 0)
  obtain ⟨p1, a1, b1⟩ := b (F 1)
  obtain ⟨p2, a2, b2⟩ := b (F 2)
  obtain ⟨p3, a3, b3⟩ := b (F 3)
  obtain ⟨p4, a4, b4⟩ := b (F 4)
  obtain ⟨p5, a5, b5⟩ := b (F 5)
  rw [a0, a1, a2, a3, a4, a5] at h
  obtain ⟨t0, r0, e0, h0⟩ := ints_one h
  obtain ⟨t1, r1, e1, h1⟩ := ints_one h0
  obtain ⟨t2, r2, e2, h2⟩ := ints_one h1
  obtain ⟨t3, r3, e3, h3⟩ := ints_one h2
  obtain ⟨t4, r4, e4, h4⟩ := ints_one h3
  obtain ⟨t5, r5, e5, h5⟩ := ints_one h4
  cases h5
  rw [e5] at e4; rw [e4] at e3; rw [e3] at e2; rw [e2] at e1; rw [e1] at e0
  exact hX ⟨p0, p1, p2, p3, p4, p5, t0, t1, t2, t3, t4, t5, e0, ⟨b0, b1, b2⟩, b3, b4, b5⟩
section
variable {prog : Program} {w : World} {A : Around} {E : Value → Shared → Prop} {s : Shared} {Q : Value → Shared → Prop} {t u : Tok}
theorem gapMul {y : Int} (h : ∀ (g : Nat) (G : Str), g ≤ 2 → TextIs G (List.replicate g 32) → ∀ t' k, Q (.str G t') { s with toks := k }) : wpAny (model prog w) A (binaryOp .Mult (.str (Str.ofString " ") t) (.int (y.fmod 3) u)) Q E s := by
  have b0 : 0 ≤ y.fmod 3 ∧ y.fmod 3 ≤ 2 := by
    rw [Int.fmod_eq_emod_of_nonneg _ (by decide)]
    omega
  generalize y.fmod 3 = x at b0
  obtain ⟨x0, x2⟩ := b0
  obtain ⟨g, rfl⟩ := Int.eq_ofNat_of_zero_le x0
  refine SB.mul ⟨?_, ?_, ?_⟩ fun t' k => h g _ (by omega) ?_ t' k
  · simp; omega
  · intro h1 h2 h3
    have : (Str.ofString " ").length = 1 := by decide
    rw [this] at h3
    have : g = 1 ∨ g = 2 := by omega
    rcases this with rfl | rfl <;> simp at h3
  · intro h1 h2
    have : g = 1 ∨ g = 2 := by omega
    rcases this with rfl | rfl <;> decide
  · have := PyProof.Rows.mul_one_list 32 g
    rw [Int.toNat_natCast] at this
    exact this
theorem addT {x y : Str} {l r : List Nat} (hx : TextIs x l) (hy : TextIs y r) (hl : l.length + r.length ≤ 1000) (h : ∀ z, TextIs z (l ++ r) → ∀ t' k, Q (.str z t') { s with toks := k }) : wpAny (model prog w) A (binaryOp .Add (.str x t) (.str y u)) Q E s := by
  refine PyProof.Rows.add_str (fun t' k => h (x ++ y) ?_ t' k) ?_
  · show (x.cps ++ y.cps).toList = l ++ r
    rw [Array.toList_append, hx, hy]
  · rw [hx.len, hy.len, sizeLine_eq]
    omega
end
theorem wordT_len (d : Nat) : (wordT d).length = d + 1 := by
  unfold wordT
  rw [List.length_append, List.length_replicate, Int.toNat_natCast]
  rfl
noncomputable def headT (a b c : Nat) : List Nat := wordT a ++ wordT b ++ wordT c
theorem headT_len (a b c : Nat) : (headT a b c).length = a + b + c + 3 := by
  unfold headT
  rw [List.length_append, List.length_append, wordT_len, wordT_len, wordT_len]
  omega
/-- lead and gap -/
noncomputable def leadG (a b c g : Nat) : List Nat := headT a b c ++ List.replicate g 32
theorem leadG_len (a b c g : Nat) : (leadG a b c g).length = a + b + c + 3 + g := by
  unfold leadG
  rw [List.length_append, headT_len, List.length_replicate]
theorem leadText {a b c : Nat} (ha : a ≤ 4) (hb : b ≤ 4) (hc : c ≤ 4) : TextIs (leadT a b c 5) (headT a b c) :=
  leadAllZ (Int.natCast_nonneg _) (by omega) (Int.natCast_nonneg _) (by omega) (Int.natCast_nonneg _) (by omega)
theorem textEnd (a b c g : Nat) : leadG a b c g ++ [120, 9, 32] = textT a b c g := rfl
theorem textEnd1 (a b c g : Nat) : leadG a b c g ++ [32, 120, 9, 32] = textT a b c (g + 1) := by
  unfold leadG textT headT
  rw [List.replicate_succ']
  simp
theorem textT_len (a b c g : Nat) (ha : a ≤ 4) (hb : b ≤ 4) (hc : c ≤ 4) (hg : g ≤ 3) : (textT a b c g).length ≤ 64 := by
  rw [← textEnd, List.length_append, leadG_len]
  simp only [List.length_cons, List.length_nil]
  omega
section
variable {prog : Program} {w : World} {A : Around} {E : Value → Shared → Prop} {s : Shared} {Q : Value → Shared → Prop} {t u : Tok}
theorem addGap {x y : Str} {a b c g : Nat} (hx : TextIs x (headT a b c)) (hy : TextIs y (List.replicate g 32)) (ha : a ≤ 4) (hb : b ≤ 4) (hc : c ≤ 4) (hg : g ≤ 2) (h : ∀ z, TextIs z (leadG a b c g) → ∀ t' k, Q (.str z t') { s with toks := k }) : wpAny (model prog w) A (binaryOp .Add (.str x t) (.str y u)) Q E s :=
  addT hx hy (by rw [headT_len, List.length_replicate]; omega) h
theorem addX {x : Str} {a b c g : Nat} (hx : TextIs x (leadG a b c g)) (ha : a ≤ 4) (hb : b ≤ 4) (hc : c ≤ 4) (hg : g ≤ 2) (h : ∀ z, TextIs z (textT a b c g) → ∀ t' k, Q (.str z t') { s with toks := k }) : wpAny (model prog w) A (binaryOp .Add (.str x t) (.str (Str.ofString "x\t ") u)) Q E s :=
  addT (r := [120, 9, 32]) hx (show _ = _ by decide +kernel) (by rw [leadG_len]; simp only [List.length_cons, List.length_nil]; omega) h
theorem addX1 {x : Str} {a b c g : Nat} (hx : TextIs x (leadG a b c g)) (ha : a ≤ 4) (hb : b ≤ 4) (hc : c ≤ 4) (hg : g ≤ 2) (h : ∀ z, TextIs z (textT a b c (g + 1)) → ∀ t' k, Q (.str z t') { s with toks := k }) : wpAny (model prog w) A (binaryOp .Add (.str x t) (.str (Str.ofString " x\t ") u)) Q E s :=
  addT (r := [32, 120, 9, 32]) hx (show _ = _ by decide +kernel) (by rw [leadG_len]; simp only [List.length_cons, List.length_nil]; omega) (by rw [textEnd1]; exact h)
end
theorem ws0T (w : World) (t : Str) (tt : Tok) (news : Led) {a b c g : Nat} (ha : a ≤ 4) (hb : b ≤ 4) (hc : c ≤ 4) (hg : g ≤ 3) (h : TextIs t (textT a b c g)) : DoesC w 139 [.str t tt] 12 160 news (PostW w news (.str t tt) (stT a b c g)) := by
  have := ws0 w t tt news (by rw [h]; exact textT_len a b c g ha hb hc hg)
  rw [h] at this
  exact this
theorem WsIn.of {w : World} {x dx D D1 : Addr} {raw : Value} {st : WsSt} {cvs : List Value} {k1 k2 k3 k4 k5 tn tnt tb : Tok} {news news' : Led} (hi : IntsAre cvs st.cs) (e : news' = (x, instObj 139 dx) :: (dx, wsDict w raw (.ref D) st k1 k2 k3 k4 k5 tn tnt) :: (D, tupO [.ref D1, .int st.b tb]) :: (D1, tupO cvs) :: news) : Nonempty (WsIn w news' x st) := by
  subst e
  exact ⟨⟨dx, D, D1, raw, cvs, k1, k2, k3, k4, k5, tn, tnt, tb, .head _, .tail _ (.head _), .tail _ (.tail _ (.head _)), .tail _ (.tail _ (.tail _ (.head _))), hi⟩⟩
end Mine

end
-- part Z2
section
open PySem PySem.W PySem.Calls PyProof.Rows
namespace Mine
open Builtin.Int (intBits)
theorem DoesC.mono {w : World} {f : Addr} {vs : List Value} {dN uN : Nat} {news : Led} {post post' : Value → Led → Prop} (C : DoesC w f vs dN uN news post) (h : ∀ r n, post r n → post' r n) : DoesC w f vs dN uN news post' :=
  fun dp un gd cn cs a ccd cl outer A₀ base h₀ L m p loose mean mg mb s Q E C1 C2 B F X N T hk hD hU ret => C.use C1 C2 B F X N T hk hD hU fun r n h' tk' F' N' hp => ret r n h' tk' F' N' (h r n hp)
theorem leadN (w : World) (ds : Addr) (nn : Nat) (a b c : Nat) (t1 t2 t3 : Tok) (news : Led) (hd : (ds, listOf #[.int a t1, .int b t2, .int c t3] nn) ∈ news) (ha : a ≤ 4) (hb : b ≤ 4) (hc : c ≤ 4) :
    DoesC w 148 [.ref ds] 6 80 news (fun r news' => (∃ X t, r = .str X t ∧ TextIs X (headT a b c)) ∧ news' = news) :=
  (leadW w ds nn a b c t1 t2 t3 news hd (Int.natCast_nonneg _) (by omega) (Int.natCast_nonneg _) (by omega) (Int.natCast_nonneg _) (by omega)).mono fun r n h =>
    let ⟨⟨t, e⟩, e2⟩ := h
    ⟨⟨_, t, e, leadText ha hb hc⟩, e2⟩
/-- a Whitespace above the written part -/
noncomputable def WsAt (w : World) (news : Led) (x : Addr) (st : WsSt) : Prop := ∃ W : WsIn w news x st, @LT.lt Nat _ 171 x ∧ @LT.lt Nat _ 171 W.dx ∧ @LT.lt Nat _ 171 W.D ∧ @LT.lt Nat _ 171 W.D1
theorem WsAt.of {w : World} {x dx D D1 : Addr} {raw : Value} {st : WsSt} {cvs : List Value} {k1 k2 k3 k4 k5 tn tnt tb : Tok} {news news' : Led} (hi : IntsAre cvs st.cs) (e : news' = (x, instObj 139 dx) :: (dx, wsDict w raw (.ref D) st k1 k2 k3 k4 k5 tn tnt) :: (D, tupO [.ref D1, .int st.b tb]) :: (D1, tupO cvs) :: news)
    (hm : (171, tabObj #[]) ∈ news) (l1 : ∀ p ∈ news, p.1 < dx) (l2 : @LT.lt Nat _ dx x) (l3 : @LT.lt Nat _ x D1) (l4 : @LT.lt Nat _ D1 D) : WsAt w news' x st := by
  subst e
  have := l1 _ hm
  have h1 : @LT.lt Nat _ 171 dx := this
  refine ⟨⟨dx, D, D1, raw, cvs, k1, k2, k3, k4, k5, tn, tnt, tb, .head _, .tail _ (.head _), .tail _ (.tail _ (.head _)), .tail _ (.tail _ (.tail _ (.head _))), hi⟩, ?_, ?_, ?_, ?_⟩ <;> (try dsimp only) <;> omega
/-- beside the three tables of code -/
noncomputable def Ap (a : Addr) : Prop := a ≠ 37 ∧ a ≠ 44 ∧ a ≠ 171
theorem Ap.gt {a : Addr} (h : @LT.lt Nat _ 171 a) : Ap a := ⟨Nat.ne_of_gt (Nat.lt_trans (by decide) h), Nat.ne_of_gt (Nat.lt_trans (by decide) h), Nat.ne_of_gt h⟩
theorem Ap.mk {a : Addr} (h1 : a ≠ 37) (h2 : a ≠ 44) (h3 : a ≠ 171) : Ap a := ⟨h1, h2, h3⟩
theorem WsAt.rest {w : World} {news rest : Led} {x : Addr} {st : WsSt} (h : WsAt w news x st) (hs : ∀ p ∈ news, Ap p.1 → p ∈ rest) : Nonempty (WsIn w rest x st) := by
  obtain ⟨W, a, b, c, d⟩ := h
  exact ⟨{ W with h1 := hs _ W.h1 (.gt a), h2 := hs _ W.h2 (.gt b), h3 := hs _ W.h3 (.gt c), h4 := hs _ W.h4 (.gt d) }⟩
theorem WsAt.sub {w : World} {news news' : Led} {x : Addr} {st : WsSt} (h : WsAt w news x st) (hs : ∀ p ∈ news, p ∈ news') : WsAt w news' x st := by
  obtain ⟨W, a, b, c, d⟩ := h
  exact ⟨WsIn.sub W hs, a, b, c, d⟩
/-- the ledger's tail: the two tables of code, and all else -/
structure TailIs (tl rest : Led) : Prop where
  h : ∃ T1 T2, tl = T1 ++ (T2 ++ rest) ∧ TabIs 37 35 4 qI T1 ∧ TabIs 44 50 4 qD T2
  up : ∀ p ∈ rest, p.1 ≠ 37 ∧ p.1 ≠ 44
theorem TailIs.mem {tl rest : Led} (h : TailIs tl rest) : ∀ p ∈ rest, p ∈ tl := fun p hp => by
  obtain ⟨T1, T2, rfl, _, _⟩ := h.h
  exact List.mem_append_right _ (List.mem_append_right _ hp)
theorem splitLed {h₀ h : Heap} {L : Addr} {news : Led} (N : News h₀ L h news) (m1 : (37, tabObj #[]) ∈ news) (m2 : (44, tabObj #[]) ∈ news) (m3 : (171, tabObj #[]) ∈ news) :
    ∃ rest tl, TailIs tl rest ∧ News h₀ L h ((171, tabObj #[]) :: tl) ∧ (∀ p ∈ news, Ap p.1 → p ∈ rest) ∧ (∀ p ∈ tl, p.1 ≠ 171) ∧ ∀ p ∈ rest, p ∈ news := by
  have hup : ∀ p ∈ news.filter (fun p => decide (p.1 ≠ 37 ∧ p.1 ≠ 44 ∧ p.1 ≠ 171)), p.1 ≠ 37 ∧ p.1 ≠ 44 ∧ p.1 ≠ 171 := fun p hp => of_decide_eq_true (List.mem_filter.mp hp).2
  refine ⟨news.filter (fun p => decide (p.1 ≠ 37 ∧ p.1 ≠ 44 ∧ p.1 ≠ 171)), _, ⟨⟨[(37, tabObj #[])], [(44, tabObj #[])], rfl, .empty, .empty⟩, fun p hp => ⟨(hup p hp).1, (hup p hp).2.1⟩⟩, ?_, fun p hp h => List.mem_filter.mpr ⟨hp, decide_eq_true h⟩, fun p hp => ?_, fun p hp => (List.mem_filter.mp hp).1⟩
  · refine cb_drop N fun p hp => ?_
    rcases List.mem_cons.mp hp with rfl | hp
    · exact m3
    · rcases List.mem_cons.mp hp with rfl | hp
      · exact m1
      · rcases List.mem_cons.mp hp with rfl | hp
        · exact m2
        · exact (List.mem_filter.mp hp).1
  · rcases List.mem_cons.mp hp with rfl | hp
    · decide
    · rcases List.mem_cons.mp hp with rfl | hp
      · decide
      · exact (hup p hp).2.2
/-- the ledger anew: some entries taken into the tail, the first one kept in front -/
theorem TailIs.add {tl rest new : Led} (h : TailIs tl rest) (hn : ∀ p ∈ new, p.1 ≠ 37 ∧ p.1 ≠ 44) : ∃ tl', TailIs tl' (new ++ rest) ∧ (∀ p ∈ tl', p ∈ new ∨ p ∈ tl) ∧ ∀ p, p ∈ new ∨ p ∈ tl → p ∈ tl' := by
  obtain ⟨⟨T1, T2, rfl, h1, h2⟩, up⟩ := h
  refine ⟨T1 ++ (T2 ++ (new ++ rest)), ⟨⟨T1, T2, rfl, h1, h2⟩, fun p hp => (List.mem_append.mp hp).elim (hn p) (up p)⟩, fun p hp => ?_, fun p hp => ?_⟩
  · simp only [List.mem_append] at hp ⊢
    rcases hp with h | h | h | h <;> simp [h]
  · simp only [List.mem_append] at hp ⊢
    rcases hp with h | h | h | h <;> simp [h]
/-- the first k entries are none of the two tables -/
noncomputable def TopOk : Nat → Led → Prop
  | 0, _ => True
  | _ + 1, [] => True
  | k + 1, p :: r => (p.1 ≠ 37 ∧ p.1 ≠ 44) ∧ TopOk k r
/-- the first k entries on another tail -/
noncomputable def putTl : Nat → Led → Led → Led
  | 0, _, tl => tl
  | _ + 1, [], tl => tl
  | k + 1, p :: r, tl => p :: putTl k r tl
theorem topOk_nil {n : Led} : TopOk 0 n := True.intro
theorem topOk_cons {k : Nat} {a : Addr} {o : Obj} {r : Led} (h1 : a ≠ 37) (h2 : a ≠ 44) (h : TopOk k r) : TopOk (k + 1) ((a, o) :: r) := ⟨⟨h1, h2⟩, h⟩
theorem TopOk.eq : ∀ {k : Nat} {news : Led}, TopOk k news → ∃ tops, (∀ p ∈ tops, p.1 ≠ 37 ∧ p.1 ≠ 44) ∧ news = tops ++ news.drop k ∧ ∀ tl, putTl k news tl = tops ++ tl
  | 0, _, _ => ⟨[], fun _ h => (nomatch h), rfl, fun _ => rfl⟩
  | _ + 1, [], _ => ⟨[], fun _ h => (nomatch h), by simp, fun _ => rfl⟩
  | k + 1, p :: r, h => by
    obtain ⟨tops, a, b, c⟩ := TopOk.eq (k := k) (news := r) h.2
    refine ⟨p :: tops, fun x hx => ?_, ?_, fun tl => ?_⟩
    · rcases List.mem_cons.mp hx with rfl | hx
      · exact h.1
      · exact a x hx
    · show p :: r = p :: (tops ++ r.drop k)
      rw [← b]
    · show p :: putTl k r tl = p :: (tops ++ tl)
      rw [c]
theorem absorb (k : Nat) {h₀ h : Heap} {L : Addr} {news tl rest : Led} (N : News h₀ L h news) (hd : news.drop k = tl) (hk : TopOk k news) (hT : TailIs tl rest) : ∃ tl' rest', TailIs tl' rest' ∧ News h₀ L h tl' ∧ (∀ p ∈ news, p ∈ tl') ∧ (∀ p ∈ rest, p ∈ rest') ∧ ∀ p ∈ putTl k news [], p ∈ rest' := by
  obtain ⟨tops, h2, e, c⟩ := hk.eq
  rw [hd] at e
  obtain ⟨tl', t, a, b⟩ := hT.add h2
  refine ⟨tl', _, t, cb_drop N fun p hp => ?_, fun p hp => ?_, fun p hp => List.mem_append_right _ hp, fun p hp => ?_⟩
  · rw [e]; exact List.mem_append.mpr (a p hp)
  · rw [e] at hp; exact b p (List.mem_append.mp hp)
  · rw [c, List.append_nil] at hp; exact List.mem_append_left _ hp
theorem absorbK (k : Nat) {P : Prop} {h₀ h : Heap} {L : Addr} {news tl rest : Led} (N : News h₀ L h news) (hd : news.drop k = tl) (hk : TopOk k news) (hT : TailIs tl rest) (go : ∀ tl' rest', TailIs tl' rest' → News h₀ L h tl' → (∀ p ∈ news, p ∈ tl') → (∀ p ∈ rest, p ∈ rest') → (∀ p ∈ putTl k news [], p ∈ rest') → P) : P :=
  let ⟨tl', rest', a, b, c, d, e⟩ := absorb k N hd hk hT
  go tl' rest' a b c d e
theorem TabIs.tab {P : Addr} {line col : Nat} {qual : Str} {T : Led} (h : TabIs P line col qual T) : ∃ ps, (P, tabObj ps) ∈ T := by
  cases h with
  | empty => exact ⟨_, .head _⟩
  | made c oc vs t _ _ _ => exact ⟨_, .head _⟩
theorem grownT {h₀ h : Heap} {L : Addr} {news tl rest : Led} {ps : Array Value} (N : News h₀ L h news) (hT : TailIs tl rest) (hs : ∀ p ∈ tl, p ∈ news) (m : (171, tabObj ps) ∈ rest) : GrownAll [(48, 44), (41, 37), (173, 171)] h := by
  have m' := hs _ (hT.mem _ m)
  obtain ⟨T1, T2, e, h1, h2⟩ := hT.h
  obtain ⟨p1, a1⟩ := h1.tab
  obtain ⟨p2, a2⟩ := h2.tab
  have b1 := hs _ (by rw [e]; exact List.mem_append_left _ a1)
  have b2 := hs _ (by rw [e]; exact List.mem_append_right _ (List.mem_append_left _ a2))
  exact ⟨GrownAt.of N b2, GrownAt.of N b1, GrownAt.of N m', trivial⟩
theorem DoesC.conv {w : World} {f : Addr} {vs : List Value} {dN uN : Nat} {news news2 : Led} {post post2 : Value → Led → Prop} (C : DoesC w f vs dN uN news2 post2) (h1 : ∀ p ∈ news2, p ∈ news) (h2 : ∀ r n2, post2 r n2 → ∃ n, (∀ p ∈ n, p ∈ n2) ∧ post r n) : DoesC w f vs dN uN news post :=
  fun dp un gd cn cs a ccd cl outer A₀ base h₀ L m p loose mean mg mb s Q E C1 C2 B F X N T hk hD hU ret => C.use C1 C2 B F X (cb_drop N h1) T hk hD hU fun r n2 h' tk' F' N' hp =>
    let ⟨n, a, b⟩ := h2 r n2 hp
    ret r n h' tk' F' (cb_drop N' a) b
/-- int_divmod's call with some entries on top of the tail -/
theorem dmO (k : Nat) {w : World} {a b q r : Int} {dN uN : Nat} {news tl rest : Led} (D : DM w a b q r dN uN) (hd : news.drop k = tl) (hk : TopOk k news) (hT : TailIs tl rest) (ta tb : Tok) :
    DoesC w 63 [.int a ta, .int b tb] dN uN news (fun v n => ∃ d t1 t2 tl', v = .ref d ∧ TailIs tl' rest ∧ n = (d, tupO [.int q t1, .int r t2]) :: putTl k news tl' ∧ (∀ p ∈ putTl k news tl', p.1 < d) ∧ ∀ x ∈ tl', x ∈ tl ∨ @LE.le Nat _ x.1 44 ∨ ∀ p ∈ putTl k news [], @LT.lt Nat _ p.1 x.1) := by
  refine genG ?_
  intro X hX
  obtain ⟨tops, h2, e, c⟩ := hk.eq
  rw [hd] at e
  obtain ⟨⟨T1, T2, e2, a1, a2⟩, up⟩ := hT
  subst e2
  refine hX ((D ta tb T1 T2 (tops ++ rest) a1 a2 (fun p hp => ?_) fun p hp => ?_).conv (fun p hp => ?_) ?_)
  · exact (List.mem_append.mp hp).elim (fun h => (h2 p h).1) fun h => (up p h).1
  · exact (List.mem_append.mp hp).elim (fun h => (h2 p h).2) fun h => (up p h).2
  · rw [e]
    simp only [List.mem_append] at hp ⊢
    rcases hp with h | h | h | h <;> simp [h]
  · intro v n2 hp2
    refine genG ?_
    clear hX X
    intro X hX
    obtain ⟨d, t1, t2, T1', T2', ev, b1, b2, en, l, f1, f2⟩ := hp2
    subst en
    refine hX ⟨_, fun p hp => ?_, d, t1, t2, T1' ++ (T2' ++ rest), ev, ⟨⟨T1', T2', rfl, b1, b2⟩, up⟩, rfl, fun p hp => l p ?_, fun x hx => ?_⟩
    · rw [c] at hp
      rcases List.mem_cons.mp hp with rfl | hp
      · exact .head _
      · refine List.mem_cons_of_mem _ ?_
        simp only [List.mem_append] at hp ⊢
        rcases hp with h | h | h | h <;> simp [h]
    · rw [c] at hp
      simp only [List.mem_append] at hp ⊢
      rcases hp with h | h | h | h <;> simp [h]
    · rw [c, List.append_nil]
      rcases List.mem_append.mp hx with hx | hx
      · rcases f1 x hx with h | h | h
        · exact .inl (List.mem_append_left _ h)
        · exact .inr (.inl h)
        · exact .inr (.inr fun p hp => h p (List.mem_append_left _ hp))
      · rcases List.mem_append.mp hx with hx | hx
        · rcases f2 x hx with h | h | h
          · exact .inl (List.mem_append_right _ (List.mem_append_left _ h))
          · exact .inr (.inl h)
          · exact .inr (.inr fun p hp => h p (List.mem_append_left _ hp))
        · exact .inl (List.mem_append_right _ (List.mem_append_right _ hx))
/-- nothing new lies at an elder place -/
theorem offNew {tl tl' tops : Led} {I : Addr} {it : Obj} (h : ∀ x ∈ tl', x ∈ tl ∨ @LE.le Nat _ x.1 44 ∨ ∀ p ∈ tops, @LT.lt Nat _ p.1 x.1) (ho : ∀ p ∈ tl, p.1 ≠ I) (hI : (I, it) ∈ tops) (h44 : @LT.lt Nat _ 44 I) : ∀ p ∈ tl', p.1 ≠ I := fun x hx => by
  rcases h x hx with h | h | h
  · exact ho x h
  · exact Nat.ne_of_lt (Nat.lt_of_le_of_lt h h44)
  · exact Nat.ne_of_gt (h _ hI)
theorem witPost {h₀ h : Heap} {L d : Addr} {o ob : Obj} {tl rest tl9 : Led} (N : News h₀ L h ((d, ob) :: (tl9 ++ ((171, o) :: tl)))) (hT : TailIs tl rest) (h171 : ∀ p ∈ tl, p.1 ≠ 171) (l1 : ∀ p ∈ (171, o) :: tl, p.1 < d) (l2 : ∀ p ∈ tl9, @LT.lt Nat _ d p.1) :
    ∃ rest' tl', TailIs tl' rest' ∧ News h₀ L h ((d, ob) :: (171, o) :: tl') ∧ (∀ p ∈ tl', p.1 ≠ 171) ∧ (∀ p ∈ tl, p ∈ tl') ∧ (∀ p ∈ tl9, p ∈ tl') ∧ (∀ p ∈ rest, p ∈ rest') ∧ @LT.lt Nat _ 171 d := by
  have hd : @LT.lt Nat _ 171 d := l1 _ (.head _)
  have ap : ∀ p ∈ tl9, @LT.lt Nat _ 171 p.1 := fun p hp => Nat.lt_trans hd (l2 p hp)
  obtain ⟨tl', t1, t2, t3⟩ := hT.add (new := tl9) fun p hp => ⟨(Ap.gt (ap p hp)).1, (Ap.gt (ap p hp)).2.1⟩
  refine ⟨tl9 ++ rest, tl', t1, cb_drop N fun p hp => ?_, fun p hp => ?_, fun p hp => t3 p (.inr hp), fun p hp => t3 p (.inl hp), fun p hp => List.mem_append_right _ hp, hd⟩
  · rcases List.mem_cons.mp hp with rfl | hp
    · exact .head _
    · rcases List.mem_cons.mp hp with rfl | hp
      · exact .tail _ (List.mem_append_right _ (.head _))
      · rcases t2 p hp with hp | hp
        · exact .tail _ (List.mem_append_left _ hp)
        · exact .tail _ (List.mem_append_right _ (.tail _ hp))
  · rcases t2 p hp with hp | hp
    · exact Nat.ne_of_gt (ap p hp)
    · exact h171 p hp
end Mine
namespace Mine
theorem drop0 {l : Led} : List.drop 0 l = l := rfl
theorem dropS {k : Nat} {a : Addr × Obj} {l t : Led} (h : List.drop k l = t) : List.drop (k + 1) (a :: l) = t := h
theorem mulTo {prog : Program} {w : World} {A : Around} {E : Value → Shared → Prop} {s : Shared} {t u : Tok} {Q : Value → Shared → Prop} {a b c : Int} (hm : IntMulOk a b) (e : a * b = c) (h : Q (.int c s.toks) { s with toks := s.toks + 1 }) :
    wpAny (model prog w) A (binaryOp .Mult (.int a t) (.int b u)) Q E s := by
  subst e
  exact PyProof.Rows.mul_int h hm
end Mine
namespace Mine
theorem isNotSame {M : PySem.Model} {A : Around} {E : Value → Shared → Prop} {s : Shared} {c d : Bool} {Q : Value → Shared → Prop} (e : c = d) (h : Q (.bool false) s) : wpAny M A (compareOp .IsNot (.bool c) (.bool d)) Q E s := by
  refine PyProof.Rows.isnot_bool ?_
  subst e
  rw [bne_self_eq_false]
  exact h
end Mine

end
-- part Z3
section
open PySem PySem.W PySem.Calls PyProof.Rows
namespace Mine
/-- a clause takes what a callee raised, in a frame with cells too -/
theorem caughtX {prog : Program} {w : World} {A : Around} {E : Value → Shared → Prop} {s' : Shared} {h₀ h : Heap} {env : Env} {outer : List Env} {L e : Addr} {m : Str → Option Value} {b₀ : Stmt} {suite : List Stmt} {pos np : Pos} {rest : List ExceptHandler}
    {Q : Flow → Shared → Prop} {news : Led} {x : Str} {X T' : String} (hfr : A.frames = some (env :: outer)) (hf : env.frame = some L) (F : Fr h₀ L h m) (hsm : h.UpToSlots s'.heap) (R : RaisedN h₀ (env :: outer) e (.type X) news s'.heap)
    (hexc : isSubtype (.type T') (.type "BaseException") = pure true) (hnt : isSubtype (.type ((Manifest.find? T').elim "type" fun y => y.metatype)) (.type "tuple") = pure false) (hsub : isSubtype (.type X) (.type T') = pure true)
    (hev : ∀ (s₁ : Shared) (Q' : Value → Shared → Prop) (E' : Value → Shared → Prop), Fr h₀ L s₁.heap m → Q' (.type T') s₁ → wpAny (model prog w) (A.mark (some (.ref e))) (eval (.Name x np) env) Q' E' s₁)
    (hE : PassesOwnAt (model prog w) (A.mark (some (.ref e))) A env E)
    (k : ∀ h', Fr h₀ L h' m → News h₀ L h' news → wpAny (model prog w) (A.mark (some (.ref e))) (execs (b₀ :: suite) env) Q E { s' with heap := h' }) :
    wpAny (model prog w) A (noteFrame (.ref e) env) (fun _ s₂ => wpAny (model prog w) A (setFlight (.ref e) none) (fun _ s₃ => wpAny (model prog w) A (handleBy (.ref e) env (.ExceptHandler (some (.Name x np)) none (b₀ :: suite) pos :: rest)) Q E s₃) E s₂) E s' := by
  obtain ⟨B, _, hB, hl, fly⟩ := R
  have noL : B.get? L = none := by
    obtain ⟨_, ⟨L', _, q1, q2, _⟩, _⟩ := fly.2.2.1
    rw [hf] at q1
    cases q1
    exact q2
  refine wpAny_looks_onW hfr hf fly fun h1 held1 up1 => wpAny_landsW held1 fun h2 held2 up2 => ?_
  have up := up1.trans up2
  have flyB := flyingW_base hB held2
  obtain ⟨ob, o1, o2⟩ := flyB.there
  refine wpAny_handleBy_builtin (b := true) hexc hnt hsub (hev _ _ _ (F.of_stays flyB.1 (hsm.trans up)) ⟨rfl, ⟨ob, o1, o2⟩, ?_⟩)
  refine lands_againW held2 fun h3 held3 up3 => wpAny_passesOwnAt hE (k h3 (F.of_stays (flyingW_base hB held3).1 ((hsm.trans up).trans up3)) fun q hq => ?_)
  have lq := hl q hq
  refine ⟨held3.1 _ _ lq.1, fun z => ?_, lq.2⟩
  rw [z, noL] at lq
  cases lq.1
end Mine

end
-- part Z4
section
open PySem PySem.W PySem.Calls PyProof.Rows
namespace Mine
open Builtin.Int (intBits)
/-- what a turn of the law's last loop is given -/
inductive ItemOk (w : World) (rest : Led) (g : Nat) (v : Value) : Prop
  | mk (d hx : Addr) (x y : Int) (t1 t2 tL : Tok) (z : Str) (a b c a' b' c' : Nat)
    (hh1 : v = .ref d)
    (hh2 : (d, tupO [.int x t1, .int y t2, .ref hx, .str z tL]) ∈ rest)
    (hh3 : NOk x)
    (hh4 : NOk y)
    (hh5 : Nonempty (WsIn w rest hx (stT a b c g)))
    (hh6 : TextIs z (leadG a' b' c' g))
    (hh7 : (a ≤ 4 ∧ b ≤ 4 ∧ c ≤ 4))
    (hh8 : (a' ≤ 4 ∧ b' ≤ 4 ∧ c' ≤ 4))
    (hh9 : (LeMu a b c a' b' c' ↔ x ∣ y)) : ItemOk w rest g v
theorem ItemOk.of {w : World} {rest : Led} {g : Nat} {d hx : Addr} {x y : Int} {t1 t2 tL : Tok} {z : Str} {a b c a' b' c' : Nat} (hm : (d, tupO [.int x t1, .int y t2, .ref hx, .str z tL]) ∈ rest) (h1 : NOk x) (h2 : NOk y) (W : WsIn w rest hx (stT a b c g)) (ht : TextIs z (leadG a' b' c' g))
    (ha : a ≤ 4) (hb : b ≤ 4) (hc : c ≤ 4) (ha' : a' ≤ 4) (hb' : b' ≤ 4) (hc' : c' ≤ 4) (hd : LeMu a b c a' b' c' ↔ x ∣ y) : ItemOk w rest g (.ref d) :=
  ⟨d, hx, x, y, t1, t2, tL, z, a, b, c, a', b', c', rfl, hm, h1, h2, ⟨W⟩, ht, ⟨ha, hb, hc⟩, ⟨ha', hb', hc'⟩, hd⟩
theorem Nums.dvd {q : Int} {a b c a' b' c' g : Nat} {X Y U D M : Int} (hq : QOk q) (h : Nums q (muN a b c) (muN a' b' c') X Y U D M) (l1 : Le4 a b c g) (l2 : Le4 a' b' c' g) : (LeMu a b c a' b' c' ↔ X ∣ Y) ∧ (LeMu a' b' c' a b c ↔ Y ∣ X) := by
  rw [h.xe, h.ye]
  exact ⟨(dvd_mu (g := g) hq l2).symm, (dvd_mu (g := g) hq l1).symm⟩
noncomputable def upd8m (u1 u2 u3 u4 u5 u6 u7 u8 : Option Value) (m₀ : Str → Option Value) : Str → Option Value :=
  upd [(Str.ofString "near", u1), (Str.ofString "far", u2), (Str.ofString "here", u3), (Str.ofString "lead", u4), (Str.ofString "dividend", u5), (Str.ofString "divisor", u6), (Str.ofString "told", u7), (Str.ofString "rest", u8)] m₀
theorem upd8 {m' m₀ : Str → Option Value} (hz : ∀ z, ¬ z = Str.ofString "near" → ¬ z = Str.ofString "far" → ¬ z = Str.ofString "here" → ¬ z = Str.ofString "lead" → ¬ z = Str.ofString "dividend" → ¬ z = Str.ofString "divisor" → ¬ z = Str.ofString "told" → ¬ z = Str.ofString "rest" → m' z = m₀ z) :
    m' = upd [(Str.ofString "near", m' (Str.ofString "near")), (Str.ofString "far", m' (Str.ofString "far")), (Str.ofString "here", m' (Str.ofString "here")), (Str.ofString "lead", m' (Str.ofString "lead")), (Str.ofString "dividend", m' (Str.ofString "dividend")), (Str.ofString "divisor", m' (Str.ofString "divisor")), (Str.ofString "told", m' (Str.ofString "told")), (Str.ofString "rest", m' (Str.ofString "rest"))] m₀ := by
  refine upd_of _ (fun p hp => ?_) fun z h => ?_
  · simp only [List.mem_cons, List.not_mem_nil, or_false] at hp
    rcases hp with rfl | rfl | rfl | rfl | rfl | rfl | rfl | rfl <;> rfl
  · simp only [List.mem_cons, List.not_mem_nil, or_false, forall_eq_or_imp, forall_eq] at h
    obtain ⟨h1, h2, h3, h4, h5, h6, h7, h8⟩ := h
    exact hz z h1 h2 h3 h4 h5 h6 h7 h8
/-- between two turns -/
noncomputable def JF (w : World) (rest : Led) (g : Nat) (I : Addr) (m₀ : Str → Option Value) (vs : List Value) (m : Str → Option Value) (news : Led) : Prop :=
  ∃ u1 u2 u3 u4 u5 u6 u7 u8 : Option Value, TailIs news rest ∧ (∀ p ∈ news, p.1 ≠ I) ∧ (∀ v ∈ vs, ItemOk w rest g v) ∧ m = upd [(Str.ofString "near", u1), (Str.ofString "far", u2), (Str.ofString "here", u3), (Str.ofString "lead", u4), (Str.ofString "dividend", u5), (Str.ofString "divisor", u6), (Str.ofString "told", u7), (Str.ofString "rest", u8)] m₀
theorem JF.out {w : World} {rest : Led} {g : Nat} {I : Addr} {m₀ : Str → Option Value} {vs : List Value} {m : Str → Option Value} {news : Led} (h : JF w rest g I m₀ vs m news) : ∃ u1 u2 u3 u4 u5 u6 u7 u8 : Option Value, TailIs news rest ∧ (∀ p ∈ news, p.1 ≠ I) ∧ (∀ v ∈ vs, ItemOk w rest g v) ∧ m = upd [(Str.ofString "near", u1), (Str.ofString "far", u2), (Str.ofString "here", u3), (Str.ofString "lead", u4), (Str.ofString "dividend", u5), (Str.ofString "divisor", u6), (Str.ofString "told", u7), (Str.ofString "rest", u8)] m₀ := h
theorem JF.start {w : World} {rest tl : Led} {g : Nat} {I : Addr} {m₀ : Str → Option Value} {v1 v2 : Value} (hT : TailIs tl rest) (hI : ∀ p ∈ tl, p.1 < I) (h1 : ItemOk w rest g v1) (h2 : ItemOk w rest g v2) : JF w rest g I m₀ [v1, v2] m₀ tl :=
  ⟨_, _, _, _, _, _, _, _, hT, fun p hp => Nat.ne_of_lt (hI p hp), fun v hv => by
    rcases List.mem_cons.mp hv with rfl | hv
    · exact h1
    · rw [List.mem_singleton.mp hv]; exact h2, upd8 fun _ _ _ _ _ _ _ _ _ => rfl⟩
theorem unrEnd_JF {w : World} {h₀ h' : Heap} {L I : Addr} {it : Obj} {m' m₀ : Str → Option Value} {all tl rest : Led} {g : Nat} {v0 : Value} {r : List Value} {tk : Nat} {s₁ : Shared} {lp : Addr × Obj}
    (N : News h₀ L h' all) (F : Fr h₀ L h' m') (hI : (I, it) ∈ all) (hs : ∀ p ∈ tl, p ∈ all) (hT : TailIs tl rest) (hoff : ∀ p ∈ tl, p.1 ≠ I) (hv : ∀ v ∈ v0 :: r, ItemOk w rest g v) (hlp : lp ∈ rest)
    (hz : ∀ z, ¬ z = Str.ofString "near" → ¬ z = Str.ofString "far" → ¬ z = Str.ofString "here" → ¬ z = Str.ofString "lead" → ¬ z = Str.ofString "dividend" → ¬ z = Str.ofString "divisor" → ¬ z = Str.ofString "told" → ¬ z = Str.ofString "rest" → m' z = m₀ z) :
    UnrEndW h₀ L s₁ [(I, it)] (fun m' n' => SubL [lp] n' ∧ JF w rest g I m₀ r m' n') { s₁ with heap := h', toks := tk } :=
  ⟨h', tk, m', tl, rfl, F, fun p hp => by
    rcases List.mem_cons.mp hp with rfl | hp
    · exact N _ hI
    · exact N _ (hs p hp), fun p hp q hq => by rw [List.mem_singleton.mp hq]; exact hoff p hp, ⟨hT.mem _ hlp, trivial⟩, _, _, _, _, _, _, _, _, hT, hoff, fun v h => hv v (.tail _ h), upd8 hz⟩
/-- the loop's own division -/
theorem dmO5 (k : Nat) {w : World} {x y x' y' : Int} {news tl rest : Led} (hx : NOk x) (hy : NOk y) (h1 : x' = x ∨ x' = -x) (h2 : y' = y ∨ y' = -y) (hd : news.drop k = tl) (hk : TopOk k news) (hT : TailIs tl rest) (ta tb : Tok) :
    DoesC w 63 [.int y' ta, .int x' tb] 18 208 news (fun v n => ∃ Q R d t1 t2 tl', v = .ref d ∧ TailIs tl' rest ∧ n = (d, tupO [.int Q t1, .int R t2]) :: putTl k news tl' ∧ (∀ p ∈ putTl k news tl', p.1 < d) ∧ (∀ x ∈ tl', x ∈ tl ∨ @LE.le Nat _ x.1 44 ∨ ∀ p ∈ putTl k news [], @LT.lt Nat _ p.1 x.1) ∧
      x' * Q + R = y' ∧ (0 ≤ x' → 0 ≤ R ∧ R < x) ∧ (x' < 0 → R ≤ 0 ∧ -R < x) ∧ (R = 0 ↔ x ∣ y) ∧ IntMulOk x' Q) := by
  refine genG ?_
  intro X hX
  obtain ⟨Q, R, D, e1, e2, e3, e4, e5⟩ := dmAny (w := w) hx hy h1 h2
  refine hX ((dmO k D hd hk hT ta tb).mono fun r n hp => ?_)
  clear hX X
  refine genG ?_
  intro X hX
  obtain ⟨d, t1, t2, tl', a1, a2, a3, a4, a5⟩ := hp
  exact hX ⟨Q, R, d, t1, t2, tl', a1, a2, a3, a4, a5, e1, e2, e3, e4, e5⟩
theorem lessR {a b c a' b' c' g : Nat} {x y R : Int} (h : Le4 a b c g) (h' : Le4 a' b' c' (g + 1)) (hd : LeMu a b c a' b' c' ↔ x ∣ y) (hR : R = 0 ↔ x ∣ y) : lessB (stT a b c g) (stT a' b' c' (g + 1)) = decide (R = 0) := by
  rw [less_eq h h']
  exact decide_eq_decide.mpr (hd.trans hR.symm)
theorem indent5 {a b c g : Nat} (h : Le4 a b c g) : indentZ 5 (stT a b c g) = 15 + (g : Int) := by
  have e := h.indent (k := 4) (by decide)
  rw [mu_zero (by have := max3_le h; omega)] at e
  have e2 : (1 : Int) + ((4 : Nat) : Int) = 5 := by decide
  rw [e2] at e
  rw [e]
  omega
end Mine

end
end
local macro_rules | `(tactic| k_room) => `(tactic| ktr_room)
open PySem PySem.W PySem.Calls PyProof.Rows
namespace Mine
theorem slice6 {prog : Program} {w : World} {A : Around} {E : Value → Shared → Prop} {s : Shared} {h₀ : Heap} {L l : Addr} {m : PySem.Str → Option Value} {news : List (Addr × Obj)} {value slice : PySem.Expr} {Q : Value → Shared → Prop} {vs : List Value} {ns : List Int} {vl vk : Value} {lo st : Option Int} {ops : List Value}
    (F : Fr h₀ L s.heap m) (N : News h₀ L s.heap news) (hl : s.heap.IsList l vs.toArray) (pl : IsPart vl lo) (pk : IsPart vk st) (h0 : st ≠ some 0) (hi : IntsAre vs ns)
    (h : ∀ D ws h', Fr h₀ L h' m → News h₀ L h' ((D, listOf (List.toArray ws) 0) :: news) → (∀ p ∈ news, p.1 < D) → IntsAre ws (pickNums ns lo none st) → Q (.ref D) { s with heap := h' })
    (hs : subscripted slice false (.ref l) (.ref s.heap.objs.size) = operate ops (getItem (.ref l) (.ref s.heap.objs.size))) (ht : ∀ r, letTemporaryGo value (.ref l) r = pure ()) (hz : vs.toArray.size ≤ sizeLine) :
    wpAny (model prog w) A (subscriptTail value slice (.ref l) (.ref s.heap.objs.size)) Q E { s with heap := s.heap.push { cls := .type "slice", data := .fields #[vl, .none, vk] } } :=
  kmk_slice3_lit F N hl pl IsPart.none pk h0 rfl (fun D h' F' N' q => h D _ h' F' N' q (hi.pick lo none st)) hs ht hz
theorem idx6 {α : Type} {a b c d e f : α} {k : Int} (h : k < 0 + ((6 - 0 : Int).toNat : Int)) : k < (([a, b, c, d, e, f] : List α).length : Int) := by
  have e6 : (0 + ((6 - 0 : Int).toNat : Int)) = 6 := by decide
  rw [e6] at h; exact h
theorem idx63 {k : Int} (h : k < 0 + ((6 - 0 : Int).toNat : Int)) : k < 2 ^ 63 := Int.lt_trans h (by decide)
end Mine
open Mine
set_option maxRecDepth 100000 in
set_option maxHeartbeats 400000000 in
theorem PySem.Challenge.cw_ph0166_01_holds : PySem.Challenge.rw_ph0166_01.Holds := by
  refine Mine.hd ?_
  (k_with_none; w_top off)
  k_go0
  w_top off
  all_goals (try k_fold)
  k_with "AtQ" => ((with_reducible refine' AtQ.go hQ9 ?_); clear hQ9; (try dsimp only); (try k_fold))
  k_with "subscriptTail Name Slice ref ref" => (k_here; (with_reducible show wpAny _ _ (subscriptTail _ (PySem.Expr.Slice (some _) none (some _) _) (Value.ref _) (Value.ref _)) _ _ _); k_dflt (refine' slice6 ?Fu1 ?Nu1 ?lu1 ?pu1 ?ku1 ?ou1 ?iu1 ?_ ?su1 ?tu1 ?zu1; (case Fu1 => k_asm); (case Nu1 => k_asm); (case lu1 => kmk_list); (case pu1 => kmk_part); (case ku1 => kmk_part); (case ou1 => decide); (case iu1 => l_ints); (case su1 => with_unfolding_all rfl); (case tu1 => kmk_pure); (case zu1 => kmk_size)); intro D' ws' h' F' N' l1 i1; (try k_lt l1); (try k_sweep))
  k_with "binaryOp Add str str" => (k_here; (with_reducible show wpAny _ _ (binaryOp Operator.Add (Value.str _ _) (Value.str _ _)) _ _ _); first | (with_reducible refine' addX (by assumption) (by assumption) (by assumption) (by assumption) (by assumption) ?_) | (with_reducible refine' addX1 (by assumption) (by assumption) (by assumption) (by assumption) (by assumption) ?_) | (with_reducible refine' addGap (by assumption) (by assumption) (by assumption) (by assumption) (by assumption) (by assumption) ?_)); intro z tz t8 k8
  k_with "w_sub" => (intro p9 h9; repeat (first | with_reducible exact h9 | refine List.mem_cons_of_mem _ ?_))
  k_with "w_find" => repeat (first | exact List.Mem.head _ | refine List.Mem.tail _ ?_)
  k_with "w_up" => repeat (first | with_reducible assumption | refine List.mem_cons_of_mem _ ?_)
  k_with "top_ok" => (first | exact topOk_nil | (refine' topOk_cons ?a9u6 ?b9u6 ?c9u6; (case a9u6 => k_dflt k_ne); (case b9u6 => k_dflt k_ne); (case c9u6 => k_extra "top_ok")))
  k_with "k_all" => (tbn_letter; first | assumption | (refine' ne_mono ?h1u7 ?h2u7; (case h1u7 => tbn_find); (case h2u7 => omega)) | exact fun p9 h9 => Nat.ne_of_lt ((by assumption : ∀ p ∈ _, p.1 < _) p9 h9))
  k_with "w_in" => first | with_reducible assumption | exact List.Mem.head _ | (refine' List.mem_cons_of_mem _ ?_; k_extra "w_in") | (refine' TailIs.mem ?t9u8 _ ?m9u8; (case t9u8 => with_reducible assumption); (case m9u8 => with_reducible assumption))
  k_with "k_mem" => k_extra "w_in"
  k_with "GrownAll" => (refine' grownT ?N9u10 ?T9u10 ?s9u10 ?m9u10; (case N9u10 => k_asm); (case T9u10 => assumption); (case s9u10 => k_extra "w_sub"); (case m9u10 => assumption))
  k_with "drop_k" => (first | with_reducible exact drop0 | (refine' dropS ?d9u11; (case d9u11 => k_extra "drop_k")))
  k_with "subscriptTail Name Constant ref int" => (k_here; first | ((with_reducible show wpAny _ _ (subscriptTail _ _ (Value.ref _) (Value.int 0 _)) _ _ _); k_dflt (refine' item_tuple (k := 0) (j := 0) ?tu12 ?au12 ?bu12 ?cu12 ?du12 ?_; (case tu12 => exact News.isTup (by k_asm) (by k_mem)); (case au12 => decide); (case bu12 => decide); (case cu12 => exact rfl); (case du12 => (simp only [List.getElem?_toArray, List.getElem?_cons_succ, List.getElem?_cons_zero]; exact rfl)); k_whole)) | ((with_reducible show wpAny _ _ (subscriptTail _ _ (Value.ref _) (Value.int 1 _)) _ _ _); k_dflt (refine' item_tuple (k := 1) (j := 1) ?tu12 ?au12 ?bu12 ?cu12 ?du12 ?_; (case tu12 => exact News.isTup (by k_asm) (by k_mem)); (case au12 => decide); (case bu12 => decide); (case cu12 => exact rfl); (case du12 => (simp only [List.getElem?_toArray, List.getElem?_cons_succ, List.getElem?_cons_zero]; exact rfl)); k_whole)))
  k_with "w_ws" => (intro p9 h9; repeat (first | (refine' TailIs.mem ?t9u13 _ ?m9u13; (case t9u13 => assumption); (case m9u13 => with_reducible exact h9)) | refine List.mem_cons_of_mem _ ?_))
  k_with "compareOp IsNot bool bool" => (k_here; (with_reducible show wpAny _ _ (compareOp CmpOp.IsNot (Value.bool _) (Value.bool _)) _ _ _); (with_reducible refine' isNotSame ?e9u14 ?_); (case e9u14 => first | k_dflt (exact rfl) | exact decide_eq_decide.mpr (by omega)))
  k_with "exec Raise some none" => (k_here; (with_reducible show wpAny _ _ (exec (Stmt.Raise (some (Expr.Name (Str.ofString "ZeroDivisionError") _)) none _) _) _ _ _); (with_reducible rename Fr _ _ _ _ => kF); k_dflt (refine' Raise_classB ?hhu15 excClass_ZeroDivisionError ?hsu15 ?hxu15 ?_; (case hhu15 => rfl); (case hsu15 => (rw [isSubtype_type]; kernel_rfl)); (case hxu15 => (refine' name_B kF ?k1u15 ?k2u15 ?k3u15 ?k4u15 ?k5u15 ?_; (case k1u15 => k_asm); (case k2u15 => k_asm); (case k3u15 => k_is); (case k4u15 => boot_by_name); (case k5u15 => decide); exact ⟨rfl, rfl⟩))); intro h' e' x')
  k_with "noteFrame ref" => (k_here; (rename RaisedN _ _ _ _ _ _ => rkX); k_dflt (refine' caughtX (T' := "ZeroDivisionError") ?fru16 ?fu16 ?Fu16 ?Uu16 ?Ru16 PySem.F.isExc_ZeroDivisionError PySem.F.notTuple_ZeroDivisionError ?x3u16 ?evu16 ?Eu16 ?_; (case Ru16 => exact rkX); (case Uu16 => assumption); (case Fu16 => assumption); (case fru16 => rfl); (case fu16 => rfl); (case x3u16 => (rw [isSubtype_type]; kernel_rfl)); (case evu16 => (intro s1 Q1 E1 F1 h1; refine' nameX_B F1 ?Xu16 ?Tu16 ?eu16 ?vu16 ?nu16 h1 ?au16 ?bu16; (case Xu16 => k_asm); (case Tu16 => k_asm); (case au16 => rfl); (case bu16 => rfl); (case eu16 => k_is); (case vu16 => boot_fast); (case nu16 => decide))); (case Eu16 => passes_own); k_whole); intro h' F' N'; (try k_sweep))
  k_with "exec Try" => (k_here; refine wpAny_Try_except ?_)
  k_with "compareOp IsNot bool bool" => (k_here; (with_reducible show wpAny _ _ (compareOp CmpOp.IsNot (Value.bool _) (Value.bool _)) _ _ _); (with_reducible refine' isNotSame ?e9u18 ?_); (case e9u18 => first | k_dflt (exact rfl) | exact decide_eq_decide.mpr (by omega) | exact Bool.eq_iff_iff.mpr (by simp only [decide_eq_true_eq, beq_iff_eq]; omega)))
  k_with "callWith ref" => (k_here; k_dflt (first | (refine' callWith_K ?k1u19 ?k2u19 ?_; (case k1u19 => k_asm); (case k2u19 => k_is); k_whole) | (refine' callWith_K0 ?k1u19 ?k2u19 ?_; (case k1u19 => k_in); (case k2u19 => k_is); k_whole) | (refine' callWith_M0 ?k1u19 ?k2u19 ?_; (case k1u19 => k_meth); (case k2u19 => k_is); k_whole; try dsimp only [List.nil_append, List.cons_append]) | (refine' callWith_M ?k1u19 ?k2u19 ?k3u19 ?k4u19 ?_; (case k1u19 => k_asm); (case k2u19 => k_asm); (case k3u19 => k_mem); (case k4u19 => k_is); k_whole)))
  k_with "subscriptTail" => (k_here; (with_reducible show wpAny _ _ (subscriptTail (PySem.Expr.List _ _) _ (Value.ref _) (Value.int _ _)) _ _ _); (with_unfolding_all refine' item_anyK ?k1u20 ?k2u20 ?k3u20 ?k4u20 ?k5u20 ?_ ?k6u20; (case k1u20 => is_list); (case k2u20 => l_ints); (case k3u20 => assumption); (case k4u20 => exact idx6 (by assumption)); (case k5u20 => exact idx63 (by assumption)); (case k6u20 => with_unfolding_all rfl); k_whole); intro _)
  k_with "binaryOp Pow int int" => ((rename IntsAre _ (List.map _ (rangeKs _ _)) => hI6); (with_reducible refine genG ?_); intro X9 hX9; (obtain ⟨p0, p1, p2, p3, p4, p5, t0, t1, t2, t3, t4, t5, e6, ⟨b0, b1, b2⟩, ⟨b3, b4, b5⟩⟩ := ints6N hI6); clear hI6; subst e6; (rename List Int => wL); (obtain ⟨hTot0, hTot1⟩ := totalB wL); (with_reducible refine hX9 ?_); clear hX9 X9; (generalize List.sum (List.map (fun k : Int => k.fmod 1000000) (List.take 63 wL)) = tot at *); (with_reducible refine' powBig ?_); intro P hBig t9 k9)
  k_with "binaryOp Add int int" => (k_here; (with_reducible show wpAny _ _ (binaryOp Operator.Add (Value.int _ _) (Value.int _ _)) _ _ _); (with_reducible refine' baseAdd hBig hTot0 hTot1 ?_); intro q hq t9 k9)
  k_with "binaryOp Mult str int" => (k_here; (with_reducible show wpAny _ _ (binaryOp Operator.Mult (Value.str _ _) (Value.int _ _)) _ _ _); (with_reducible refine' gapMul ?_); intro g G hg hG t9 k9)
  k_with "call ref" => (k_here; (with_reducible show wpAny _ _ (call (Value.ref 148) _) _ _ _); (with_reducible refine' genQ ?_); intro Q9 hQ9; k_dflt (refine' DoesC.use ?c1u24 ?c2u24 ?k1u24 ?k2u24 ?k3u24 ?k4u24 ?k5u24 ?kKu24 (leadN _ _ _ _ _ _ _ _ _ _ ?memu24 ?a0u24 ?b0u24 ?d0u24) ?kdu24 ?kuu24 ?_; (case c1u24 => kn_code); (case c2u24 => kn_code); (case k1u24 => k_asm); (case k2u24 => k_asm); (case k3u24 => k_asm); (case k4u24 => k_asm); (case k5u24 => k_asm); (case kKu24 => first | exact rfl | assumption); (case memu24 => k_mem); (case a0u24 => assumption); (case b0u24 => assumption); (case d0u24 => assumption); (case kdu24 => ktr_room); (case kuu24 => ktr_units); k_whole); intro r9 news9 h9 tk9 F9 N9 hp9; obtain ⟨⟨X9, t9, e91, hX9⟩, e92⟩ := hp9; subst e91; rw [e92] at N9; clear e92)
  k_with "call ref" => (k_here; (with_reducible show wpAny _ _ (call (Value.ref 139) [Value.str _ _]) _ _ _); (with_reducible refine' genQ ?_); intro Q9 hQ9; k_dflt (refine' DoesC.use ?c1u25 ?c2u25 ?k1u25 ?k2u25 ?k3u25 ?k4u25 ?k5u25 ?kKu25 (ws0T _ _ _ _ ?a0u25 ?b0u25 ?d0u25 ?g0u25 ?x0u25) ?kdu25 ?kuu25 ?_; (case c1u25 => kn_code); (case c2u25 => kn_code); (case k1u25 => k_asm); (case k2u25 => k_asm); (case k3u25 => k_asm); (case k4u25 => k_asm); (case k5u25 => k_asm); (case kKu25 => first | exact rfl | assumption); (case x0u25 => assumption); (case a0u25 => assumption); (case b0u25 => assumption); (case d0u25 => assumption); (case g0u25 => omega); (case kdu25 => ktr_room); (case kuu25 => ktr_units); k_whole); intro r9 news9 h9 tk9 F9 N9 hp9; obtain ⟨x9, dx9, D9, D19, cvs9, ka9, kb9, kc9, kd9, ke9, tn9, tnt9, tb9, e91, hi9, e92, l91, l92, l93, l94⟩ := hp9; subst e91; have W9 := WsAt.of hi9 e92 (by k_dflt k_mem) l91 l92 l93 l94; rw [e92] at N9 W9; clear e92; k_lt l91)
  k_with "call ref" => (k_here; (with_reducible show wpAny _ _ (call (Value.ref 122) [Value.ref _, Value.ref _]) _ _ _); (with_reducible refine' genQ ?_); intro Q9 hQ9; (rename News _ _ _ _ => lN'); (obtain ⟨rest, tl, hTail, N99, hin, h171, hnw⟩ := splitLed lN' (by k_dflt k_mem) (by k_dflt k_mem) (by k_dflt k_mem)); (rename WsAt _ _ _ _ => Wb); (obtain ⟨Wy0⟩ := WsAt.rest Wb hin); clear Wb; (rename WsAt _ _ _ _ => Wa); (obtain ⟨Wx0⟩ := WsAt.rest (WsAt.sub Wa (by k_extra "w_sub")) hin); clear Wa; (have hPl0 : (_, LCg.lst [Value.int (p0 : Int) t0, Value.int (p1 : Int) t1, Value.int (p2 : Int) t2, Value.int (p3 : Int) t3, Value.int (p4 : Int) t4, Value.int (p5 : Int) t5]) ∈ tl := hTail.mem _ (hin _ (by k_dflt (k_extra "w_find")) (Ap.mk (by dsimp only; k_dflt k_ne) (by dsimp only; k_dflt k_ne) (by dsimp only; k_dflt k_ne)))); (have Wx := WsIn.sub Wx0 hTail.mem); (have Wy := WsIn.sub Wy0 hTail.mem); (have hL1 : Le4 p0 p1 p2 g := ⟨b0, b1, b2, by omega⟩); (have hL2 : Le4 p3 p4 p5 g := ⟨b3, b4, b5, by omega⟩); clear lN'; k_dflt (refine' DoesC.use ?c1u26 ?c2u26 ?k1u26 ?k2u26 ?k3u26 ?k4u26 ?k5u26 ?kKu26 (witnessW _ _ _ _ _ ((171, tabObj #[]) :: tl) (WsIn.sub Wx ?s1u26) (WsIn.sub Wy ?s2u26) hL1.bd hL2.bd) ?kdu26 ?kuu26 ?_; (case c1u26 => kn_code); (case c2u26 => kn_code); (case k1u26 => k_asm); (case k2u26 => k_asm); (case k3u26 => k_asm); (case k4u26 => k_asm); (case k5u26 => k_asm); (case kKu26 => first | exact rfl | assumption); (case s1u26 => exact fun _ h => List.mem_cons_of_mem _ h); (case s2u26 => exact fun _ h => List.mem_cons_of_mem _ h); (case kdu26 => ktr_room); (case kuu26 => ktr_units); k_whole); intro r9 news9 h9 tk9 F9 N9 hp9; obtain ⟨d9, vs9, nn9, tl9, e91, hr9, e92, l91, l92⟩ := hp9; subst e91; rw [e92] at N9; clear e92; rw [rows5 hL1 hL2] at hr9; (obtain ⟨R, hR⟩ : ∃ R, R = rowsTo (stT p0 p1 p2 g) (stT p3 p4 p5 g) 5 := ⟨_, rfl⟩); rw [← hR] at hr9; (obtain ⟨rest2, tl2, hTail2, N10, h1712, hs1, hs2, hs3, hlt⟩ := witPost N9 hTail h171 l91 l92); (have hr := RowsIn.sub hr9 hs2); (have hRl : R.length ≤ 5 := hR ▸ rowsTo_len _ _ 5); (have hRr : R.Pairwise (fun x y => x.1 < y.1) := hR ▸ rows_rise 5); (have hRo : ∀ r ∈ R, RowOk 6 r := hR ▸ rows_ok hL1 hL2); (have Wx2 := WsIn.sub Wx0 hs3); (have Wy2 := WsIn.sub Wy0 hs3); (have hPl := hs1 _ hPl0); clear N9 l91 l92 hr9 Wx Wy Wx0 Wy0 hPl0 hin hnw N99 hs1 hs2 hs3)
  k_with "call ref" => (k_here; (with_reducible show wpAny _ _ (call (Value.ref 77) [Value.ref _, Value.ref _]) _ _ _); (with_reducible refine' genQ ?_); intro Q9 hQ9; k_dflt (refine' DoesC.use ?c1u27 ?c2u27 ?k1u27 ?k2u27 ?k3u27 ?k4u27 ?k5u27 ?kKu27 (splitW _ _ _ _ _ R gtP _ _ _ _ _ ?mdu27 ?mfu27 (RowsIn.sub hr ?subu27) ?hlu27 (lamAsks _ _ _ _ _ _ _ _ _ _ _ ?lfu27 ?lcu27 ?ldu27 ?lvu27)) ?kdu27 ?kuu27 ?_; (case c1u27 => kn_code); (case c2u27 => kn_code); (case k1u27 => k_asm); (case k2u27 => k_asm); (case k3u27 => k_asm); (case k4u27 => k_asm); (case k5u27 => k_asm); (case kKu27 => first | exact rfl | assumption); (case mdu27 => k_extra "w_find"); (case mfu27 => k_extra "w_find"); (case subu27 => k_extra "w_sub"); (case hlu27 => omega); (case lfu27 => k_extra "w_find"); (case lcu27 => k_extra "w_find"); (case ldu27 => assumption); (case lvu27 => assumption); (case kdu27 => ktr_room); (case kuu27 => ktr_units); k_whole); intro r9 news9 h9 tk9 F9 N9 hp9; obtain ⟨d7, dy, dn, ys7, ns7, n71, n72, e91, hy0, hn0, e92, l91, l92, l93⟩ := hp9; subst e91; rw [e92] at N9; clear e92; (have l94 := l91); k_lt l94; (refine' absorbK 8 N9 ?ad7u27 ?at7u27 hTail2 ?_; (case ad7u27 => k_dflt (exact rfl)); (case at7u27 => k_extra "top_ok")); intro tl3 rest3 hTail3 N11 hs3 hs4 hs5; (have hD7 : (d7, tupO [.ref dy, .ref dn]) ∈ tl3 := hs3 _ (by k_dflt (k_extra "w_find"))); (have hDy : (dy, PySem.W.listOf ys7.toArray n71) ∈ tl3 := hs3 _ (by k_dflt (k_extra "w_find"))); (have hDn : (dn, PySem.W.listOf ns7.toArray n72) ∈ tl3 := hs3 _ (by k_dflt (k_extra "w_find"))); (have hR1 : RowsIn tl3 ys7 (R.filter gtP) := hy0.sub (fun p hp => hs3 p (List.mem_cons_of_mem _ (List.mem_cons_of_mem _ (List.mem_cons_of_mem _ hp))))); (have hR2 : RowsIn tl3 ns7 (R.filter fun r => !gtP r) := hn0.sub (fun p hp => hs3 p (List.mem_cons_of_mem _ (List.mem_cons_of_mem _ (List.mem_cons_of_mem _ hp))))); (have hup3 : ∀ p ∈ tl2, p ∈ tl3 := fun p hp => hs3 p (by k_dflt (k_extra "w_up"))); (have hPl3 := hup3 _ hPl); (have Wx3 := WsIn.sub Wx2 hs4); (have Wy3 := WsIn.sub Wy2 hs4); (obtain ⟨p171, m171⟩ : ∃ ps, (171, tabObj ps) ∈ rest3 := ⟨_, hs5 _ (by simp only [putTl]; k_dflt (k_extra "w_find"))⟩); clear N9 hy0 hn0 hr hs3 hs4 hs5 hup3 Wx2 Wy2 hPl l91 hTail hTail2 h171 h1712; k_dflt ((repeat (rename @LT.lt Nat _ _ _ ∧ _ => hz9; clear hz9)); (repeat (rename (_ ≠ _) ∧ _ => hz9; clear hz9)); (repeat (rename @LT.lt Nat _ _ _ => hz9; clear hz9))); (have hx1 := Wx3.h1); (have hx2 := Wx3.h2); (have hy1 := Wy3.h1); (have hy2 := Wy3.h2))
  k_with "call builtin:sorted" => (k_here; (with_reducible show wpAny _ _ (call (Value.builtin "sorted") [Value.ref _]) _ _ _); k_dflt (refine' sortedRows ?k1u28 ?k2u28 ?k3u28 ?k4u28 ?k5u28 ?k6u28 ?_; (case k1u28 => k_asm); (case k2u28 => k_asm); (case k3u28 => k_mem); (case k4u28 => exact RowsIn.sub hr (by k_extra "w_sub")); (case k5u28 => omega); (case k6u28 => exact hRr); k_whole); intro D8 c8 h8 F8 N8 l8; (try k_lt l8); (try k_sweep))
  k_with "compareOp NotEq ref ref" => (k_here; (with_reducible show wpAny _ _ (compareOp CmpOp.NotEq (Value.ref _) (Value.ref _)) _ _ _); k_dflt (refine' ne_rows ?Nu29 ?au29 ?bu29 ?du29 ?huu29 ?_; (case Nu29 => k_asm); (case au29 => k_mem); (case bu29 => k_mem); (case du29 => exact RowsIn.sub hr (by k_extra "w_sub")); (case huu29 => ktr_units); k_whole))
  k_with "call ref" => (k_here; (with_reducible show wpAny _ _ (call (Value.ref 162) _) _ _ _); (with_reducible refine' genQ ?_); intro Q9 hQ9; k_dflt (refine' DoesC.use ?c1u30 ?c2u30 ?k1u30 ?k2u30 ?k3u30 ?k4u30 ?k5u30 ?kKu30 (ringsW _ _ _ _ ?b1u30 ?b2u30) ?kdu30 ?kuu30 ?_; (case c1u30 => kn_code); (case c2u30 => kn_code); (case k1u30 => k_asm); (case k2u30 => k_asm); (case k3u30 => k_asm); (case k4u30 => k_asm); (case k5u30 => k_asm); (case kKu30 => first | exact rfl | assumption); (case b1u30 => exact Nat.le_trans hq.b1 (by decide)); (case b2u30 => exact Int.le_trans (by decide) hq.ge); (case kdu30 => ktr_room); (case kuu30 => ktr_units); k_whole); intro r9 news9 h9 tk9 F9 N9 hp9; obtain ⟨dr, rvs, nnr, e91, hri, e92, l91⟩ := hp9; subst e91; rw [e92] at N9; clear e92; (have hdr : @LT.lt Nat _ 171 dr := l91 _ (hTail3.mem _ m171)); (have hq2 : 2 ≤ q := Int.le_trans (by decide) hq.ge))
  k_with "call ref" => (k_here; (with_reducible show wpAny _ _ (call (Value.ref 169) [Value.ref dy, Value.ref _, Value.int _ _]) _ _ _); (with_reducible refine' genQ ?_); intro Q9 hQ9; k_dflt (refine' DoesC.use ?c1u31 ?c2u31 ?k1u31 ?k2u31 ?k3u31 ?k4u31 ?k5u31 ?kKu31 (worthW _ _ _ _ _ _ _ (R.filter gtP) (cyc q) _ _ _ ?hdu31 ?hru31 ?hdru31 hri ?hoku31 ?hlu31 ?hbu31 ?hrbu31 ?hrlu31) ?kdu31 ?kuu31 ?_; (case c1u31 => kn_code); (case c2u31 => kn_code); (case k1u31 => k_asm); (case k2u31 => k_asm); (case k3u31 => k_asm); (case k4u31 => k_asm); (case k5u31 => k_asm); (case kKu31 => first | exact rfl | assumption); (case hdu31 => k_extra "w_in"); (case hru31 => exact RowsIn.sub hR1 (fun p hp => List.mem_cons_of_mem _ hp)); (case hdru31 => k_extra "w_in"); (case hoku31 => exact fun r hr => hRo r (List.mem_filter.mp hr).1); (case hlu31 => exact Nat.le_trans (List.length_filter_le _ _) (Nat.le_trans hRl (by decide))); (case hbu31 => exact Nat.le_trans hq.b1 (by decide)); (case hrbu31 => exact fun x hx => (cycBits hq2 (Nat.le_trans hq.b1 (by decide)) x hx).2); (case hrlu31 => exact (by decide : 6 ≤ 10)); (case kdu31 => ktr_room); (case kuu31 => ktr_units); k_whole); intro r9 news9 h9 tk9 F9 N9 hp9; obtain ⟨⟨t9, e91⟩, e92⟩ := hp9; subst e91; rw [e92] at N9; clear e92; (have hU := worth_up hL1 hL2 q); rw [← hR] at hU; (generalize worthGo (cyc q) (R.filter gtP) q = U at hU ⊢); (have hU1 : 1 ≤ U := by rw [hU]; exact qph_pos hq _))
  k_with "call ref" => (k_here; (with_reducible show wpAny _ _ (call (Value.ref 169) [Value.ref dn, Value.ref _, Value.int _ _]) _ _ _); (with_reducible refine' genQ ?_); intro Q9 hQ9; k_dflt (refine' DoesC.use ?c1u32 ?c2u32 ?k1u32 ?k2u32 ?k3u32 ?k4u32 ?k5u32 ?kKu32 (worthW _ _ _ _ _ _ _ (R.filter fun r => !gtP r) (cyc q) _ _ _ ?hdu32 ?hru32 ?hdru32 hri ?hoku32 ?hlu32 ?hbu32 ?hrbu32 ?hrlu32) ?kdu32 ?kuu32 ?_; (case c1u32 => kn_code); (case c2u32 => kn_code); (case k1u32 => k_asm); (case k2u32 => k_asm); (case k3u32 => k_asm); (case k4u32 => k_asm); (case k5u32 => k_asm); (case kKu32 => first | exact rfl | assumption); (case hdu32 => k_extra "w_in"); (case hru32 => exact RowsIn.sub hR2 (fun p hp => List.mem_cons_of_mem _ hp)); (case hdru32 => k_extra "w_in"); (case hoku32 => exact fun r hr => hRo r (List.mem_filter.mp hr).1); (case hlu32 => exact Nat.le_trans (List.length_filter_le _ _) (Nat.le_trans hRl (by decide))); (case hbu32 => exact Nat.le_trans hq.b1 (by decide)); (case hrbu32 => exact fun x hx => (cycBits hq2 (Nat.le_trans hq.b1 (by decide)) x hx).2); (case hrlu32 => exact (by decide : 6 ≤ 10)); (case kdu32 => ktr_room); (case kuu32 => ktr_units); k_whole); intro r9 news9 h9 tk9 F9 N9 hp9; obtain ⟨⟨t9, e91⟩, e92⟩ := hp9; subst e91; rw [e92] at N9; clear e92; (have hD := worth_down hL1 hL2 q); rw [← hR] at hD; (generalize worthGo (cyc q) (R.filter fun r => !gtP r) q = D at hD ⊢); (have hD1 : 1 ≤ D := by rw [hD]; exact qph_pos hq _))
  k_with "call ref" => (k_here; (with_reducible show wpAny _ _ (call (Value.ref 155) [Value.ref _, Value.int _ _]) _ _ _); (with_reducible refine' genQ ?_); intro Q9 hQ9; k_dflt (refine' DoesC.use ?c1u33 ?c2u33 ?k1u33 ?k2u33 ?k3u33 ?k4u33 ?k5u33 ?kKu33 (productW _ _ [Value.int (p0 : Int) t0, Value.int (p1 : Int) t1, Value.int (p2 : Int) t2] _ [(p0 : Int), (p1 : Int), (p2 : Int)] _ _ _ ?hdu33 ?hiu33 ?hpu33 ?hlu33 ?hbu33) ?kdu33 ?kuu33 ?_; (case c1u33 => kn_code); (case c2u33 => kn_code); (case k1u33 => k_asm); (case k2u33 => k_asm); (case k3u33 => k_asm); (case k4u33 => k_asm); (case k5u33 => k_asm); (case kKu33 => first | exact rfl | assumption); (case hdu33 => k_extra "w_in"); (case hiu33 => exact .cons _ _ (.cons _ _ (.cons _ _ .nil))); (case hpu33 => exact three_ok b0 b1 b2); (case hlu33 => exact (by decide : 3 ≤ 10)); (case hbu33 => exact Nat.le_trans hq.b1 (by decide)); (case kdu33 => ktr_room); (case kuu33 => ktr_units); k_whole); intro r9 news9 h9 tk9 F9 N9 hp9; obtain ⟨⟨t9, e91⟩, e92⟩ := hp9; subst e91; rw [e92] at N9; clear e92; (have hX := prod_ph q b0 b1 b2); (generalize prodGo q [(p0 : Int), (p1 : Int), (p2 : Int)] q = X at hX ⊢); (have hX1 : 1 ≤ X := by rw [hX]; exact qph_pos hq _))
  k_with "call ref" => (k_here; (with_reducible show wpAny _ _ (call (Value.ref 155) [Value.ref _, Value.int _ _]) _ _ _); (with_reducible refine' genQ ?_); intro Q9 hQ9; k_dflt (refine' DoesC.use ?c1u34 ?c2u34 ?k1u34 ?k2u34 ?k3u34 ?k4u34 ?k5u34 ?kKu34 (productW _ _ [Value.int (p3 : Int) t3, Value.int (p4 : Int) t4, Value.int (p5 : Int) t5] _ [(p3 : Int), (p4 : Int), (p5 : Int)] _ _ _ ?hdu34 ?hiu34 ?hpu34 ?hlu34 ?hbu34) ?kdu34 ?kuu34 ?_; (case c1u34 => kn_code); (case c2u34 => kn_code); (case k1u34 => k_asm); (case k2u34 => k_asm); (case k3u34 => k_asm); (case k4u34 => k_asm); (case k5u34 => k_asm); (case kKu34 => first | exact rfl | assumption); (case hdu34 => k_extra "w_in"); (case hiu34 => exact .cons _ _ (.cons _ _ (.cons _ _ .nil))); (case hpu34 => exact three_ok b3 b4 b5); (case hlu34 => exact (by decide : 3 ≤ 10)); (case hbu34 => exact Nat.le_trans hq.b1 (by decide)); (case kdu34 => ktr_room); (case kuu34 => ktr_units); k_whole); intro r9 news9 h9 tk9 F9 N9 hp9; obtain ⟨⟨t9, e91⟩, e92⟩ := hp9; subst e91; rw [e92] at N9; clear e92; (have hY := prod_ph q b3 b4 b5); (generalize prodGo q [(p3 : Int), (p4 : Int), (p5 : Int)] q = Y at hY ⊢); (have hY1 : 1 ≤ Y := by rw [hY]; exact qph_pos hq _); (obtain ⟨M, hNu⟩ := nums hq b0 b1 b2 b3 b4 b5 hX hY hU hD); (obtain ⟨hM1, hM2⟩ := hNu.muls); (have hmu := hNu.mu); (have hmd := hNu.md); clear hX hY hU hD hD7 hDy hDn hR1 hR2 hPl3 hRl hRr hRo hri)
  k_with "exec Return" => (exfalso; omega)
  k_with "call ref" => (k_here; (with_reducible show wpAny _ _ (call (Value.ref 63) [Value.int X _, Value.int U _]) _ _ _); (with_reducible refine' genQ ?_); intro Q9 hQ9; k_dflt (refine' DoesC.use ?c1u36 ?c2u36 ?k1u36 ?k2u36 ?k3u36 ?k4u36 ?k5u36 ?kKu36 (dmO _ (dmX hNu.x hNu.u hNu.mu) ?ddu36 ?dku36 ?dtu36 _ _) ?kdu36 ?kuu36 ?_; (case c1u36 => kn_code); (case c2u36 => kn_code); (case k1u36 => k_asm); (case k2u36 => k_asm); (case k3u36 => k_asm); (case k4u36 => k_asm); (case k5u36 => k_asm); (case kKu36 => first | exact rfl | assumption); (case dtu36 => assumption); (case ddu36 => k_extra "drop_k"); (case dku36 => k_extra "top_ok"); (case kdu36 => ktr_room); (case kuu36 => ktr_units); k_whole); intro r9 news9 h9 tk9 F9 N9 hp9; obtain ⟨d6, t61, t62, tl6, e91, hT6, e92, l91, hf6⟩ := hp9; subst e91; rw [e92] at N9; clear e92; (simp only [putTl] at N9 l91 hf6); (have hd6 : @LT.lt Nat _ 171 d6 := l91 (171, tabObj p171) (by k_dflt (k_extra "w_in"))); k_lt l91; clear hf6)
  k_with "call ref" => (k_here; (with_reducible show wpAny _ _ (call (Value.ref 63) [Value.int Y _, Value.int D _]) _ _ _); (with_reducible refine' genQ ?_); intro Q9 hQ9; k_dflt (refine' DoesC.use ?c1u37 ?c2u37 ?k1u37 ?k2u37 ?k3u37 ?k4u37 ?k5u37 ?kKu37 (dmO _ (dmX hNu.y hNu.d hNu.md) ?ddu37 ?dku37 ?dtu37 _ _) ?kdu37 ?kuu37 ?_; (case c1u37 => kn_code); (case c2u37 => kn_code); (case k1u37 => k_asm); (case k2u37 => k_asm); (case k3u37 => k_asm); (case k4u37 => k_asm); (case k5u37 => k_asm); (case kKu37 => first | exact rfl | assumption); (case dtu37 => assumption); (case ddu37 => k_extra "drop_k"); (case dku37 => k_extra "top_ok"); (case kdu37 => ktr_room); (case kuu37 => ktr_units); k_whole); intro r9 news9 h9 tk9 F9 N9 hp9; obtain ⟨d6, t61, t62, tl6, e91, hT6, e92, l91, hf6⟩ := hp9; subst e91; rw [e92] at N9; clear e92; (simp only [putTl] at N9 l91 hf6); (have hd6 : @LT.lt Nat _ 171 d6 := l91 (171, tabObj p171) (by k_dflt (k_extra "w_in"))); k_lt l91; clear hf6)
  k_with "call ref" => (k_here; (with_reducible show wpAny _ _ (call (Value.ref 63) [Value.int 0 _, Value.int U _]) _ _ _); (with_reducible refine' genQ ?_); intro Q9 hQ9; k_dflt (refine' DoesC.use ?c1u38 ?c2u38 ?k1u38 ?k2u38 ?k3u38 ?k4u38 ?k5u38 ?kKu38 (dmO _ (dm00 hNu.u) ?ddu38 ?dku38 ?dtu38 _ _) ?kdu38 ?kuu38 ?_; (case c1u38 => kn_code); (case c2u38 => kn_code); (case k1u38 => k_asm); (case k2u38 => k_asm); (case k3u38 => k_asm); (case k4u38 => k_asm); (case k5u38 => k_asm); (case kKu38 => first | exact rfl | assumption); (case dtu38 => assumption); (case ddu38 => k_extra "drop_k"); (case dku38 => k_extra "top_ok"); (case kdu38 => ktr_room); (case kuu38 => ktr_units); k_whole); intro r9 news9 h9 tk9 F9 N9 hp9; obtain ⟨d6, t61, t62, tl6, e91, hT6, e92, l91, hf6⟩ := hp9; subst e91; rw [e92] at N9; clear e92; (simp only [putTl] at N9 l91 hf6); (have hd6 : @LT.lt Nat _ 171 d6 := l91 (171, tabObj p171) (by k_dflt (k_extra "w_in"))); k_lt l91; clear hf6)
  k_with "call ref" => (k_here; (with_reducible show wpAny _ _ (call (Value.ref 63) [Value.int (-1) _, Value.int U _]) _ _ _); (with_reducible refine' genQ ?_); intro Q9 hQ9; k_dflt (refine' DoesC.use ?c1u39 ?c2u39 ?k1u39 ?k2u39 ?k3u39 ?k4u39 ?k5u39 ?kKu39 (dmO _ (dm_1 hNu.u) ?ddu39 ?dku39 ?dtu39 _ _) ?kdu39 ?kuu39 ?_; (case c1u39 => kn_code); (case c2u39 => kn_code); (case k1u39 => k_asm); (case k2u39 => k_asm); (case k3u39 => k_asm); (case k4u39 => k_asm); (case k5u39 => k_asm); (case kKu39 => first | exact rfl | assumption); (case dtu39 => assumption); (case ddu39 => k_extra "drop_k"); (case dku39 => k_extra "top_ok"); (case kdu39 => ktr_room); (case kuu39 => ktr_units); k_whole); intro r9 news9 h9 tk9 F9 N9 hp9; obtain ⟨d6, t61, t62, tl6, e91, hT6, e92, l91, hf6⟩ := hp9; subst e91; rw [e92] at N9; clear e92; (simp only [putTl] at N9 l91 hf6); (have hd6 : @LT.lt Nat _ 171 d6 := l91 (171, tabObj p171) (by k_dflt (k_extra "w_in"))); k_lt l91; clear hf6)
  k_with "binaryOp Mult int int" => (k_here; (with_reducible show wpAny _ _ (binaryOp Operator.Mult (Value.int M _) (Value.int _ _)) _ _ _); first | (with_reducible refine' mulTo hM1 hmu ?_) | (with_reducible refine' mulTo hM2 hmd ?_))
  k_with "call ref" => (k_here; (with_reducible show wpAny _ _ (call (Value.ref 115) [Value.ref _, Value.ref _]) _ _ _); (with_reducible refine' genQ ?_); intro Q9 hQ9; k_dflt (refine' DoesC.use ?c1u41 ?c2u41 ?k1u41 ?k2u41 ?k3u41 ?k4u41 ?k5u41 ?kKu41 (equalW _ _ _ _ _ _ (WsIn.sub Wx3 ?sxu41) (WsIn.sub Wy3 ?syu41)) ?kdu41 ?kuu41 ?_; (case c1u41 => kn_code); (case c2u41 => kn_code); (case k1u41 => k_asm); (case k2u41 => k_asm); (case k3u41 => k_asm); (case k4u41 => k_asm); (case k5u41 => k_asm); (case kKu41 => first | exact rfl | assumption); (case sxu41 => k_extra "w_ws"); (case syu41 => k_extra "w_ws"); (case kdu41 => ktr_room); (case kuu41 => ktr_units); k_whole); intro r9 news9 h9 tk9 F9 N9 hp9; obtain ⟨e91, e92⟩ := hp9; subst e91; rw [e92] at N9; clear e92; rw [(@decide_eq_decide _ (X = Y) _ (Int.instDecidableEq X Y)).mpr (equal_eq hq hL1 hL2 hNu.xe hNu.ye)])
  k_with "pyIter ref" => (k_here; (with_reducible show wpAny _ _ (pyIter (Value.ref _)) (fun it s₂ => TurnsAt _ _ _ _ _ _ _ _ _ it s₂) _ _); (rename Fr _ _ _ _ => lF'); (rename News _ _ _ _ => lN'); (rename TailIs _ _ => hTz); (refine' absorbK ?kk7 lN' ?ad7u42 ?at7u42 hTz ?_; (case ad7u42 => k_extra "drop_k"); (case at7u42 => k_extra "top_ok")); intro tl7 rest7 hT7 N7 hs7 hs8 hs9; (have hDv := Nums.dvd hq hNu hL1 hL2); (have hItA : ItemOk _ rest7 g (Value.ref _) := ItemOk.of (x := X) (y := Y) (hs9 _ (by simp only [putTl]; k_dflt (k_extra "w_find"))) hNu.x hNu.y (WsIn.sub Wx3 hs8) (by assumption : TextIs _ (leadG p3 p4 p5 g)) b0 b1 b2 b3 b4 b5 hDv.1); (have hItB : ItemOk _ rest7 g (Value.ref _) := ItemOk.of (x := Y) (y := X) (hs9 _ (by simp only [putTl]; k_dflt (k_extra "w_find"))) hNu.y hNu.x (WsIn.sub Wy3 hs8) (by assumption : TextIs _ (leadG p0 p1 p2 g)) b3 b4 b5 b0 b1 b2 hDv.2); (have hlp7 : (_, PySem.W.listOf #[Value.ref _, Value.ref _] _) ∈ rest7 := hs9 _ (by simp only [putTl]; k_dflt (k_extra "w_find"))); (have m171' := hs8 _ m171); k_dflt (refine' iter_listTurns (vs := [_, _]) ?hh7u42 lF' N7 ?hm7u42 ?hc7u42 ?hd7u42 ?_; (case hh7u42 => exact rfl); (case hm7u42 => exact hT7.mem _ hlp7); (case hc7u42 => exact rfl); (case hd7u42 => exact rfl)); intro I7 l7; (have hI7 : @LT.lt Nat _ 171 I7 := l7 (171, tabObj p171) (hT7.mem _ m171')); (refine' itemsJ (JF _ rest7 g I7 _) ?_ ?_ _ _ _ (JF.start hT7 l7 hItA hItB)); rotate_left; (intro m news7 h tk hJ F5 N5; obtain ⟨u1, u2, u3, u4, u5, u6, u7, u8, hTk, hofk, hvk, emk⟩ := hJ.out; subst emk; clear hJ lF' lN' N7 hTz; (try k_fold)); rotate_left; (intro v r m news7 it h tk hJ hic F5 N5; obtain ⟨u1, u2, u3, u4, u5, u6, u7, u8, hTk, hofk, hvk, emk⟩ := hJ.out; subst emk; obtain ⟨d5, hx5, x5, y5, t51, t52, tL5, z5, a0, a1, a2, a3, a4, a5, ev5, hm5, hk1, hk2, ⟨W5⟩, hz5, ⟨c0, c1, c2⟩, ⟨c3, c4, c5⟩, hdv5⟩ := hvk _ (List.mem_cons_self ..); subst ev5; (have hW51 := W5.h1); (have hW52 := W5.h2); (have hL5 : Le4 a0 a1 a2 g := ⟨c0, c1, c2, by omega⟩); (have hL6 : Le4 a3 a4 a5 (g + 1) := ⟨c3, c4, c5, by omega⟩); (have hp5 := hk1.p); (have hp6 := hk2.p); (have hG5 : G.length = g := by rw [hG.len, List.length_replicate]); clear hJ lF' lN' N7 hTz hx1 hx2 hy1 hy2 hItA hItB hDv; (try k_fold)))
  k_with "call ref" => (k_here; (have hGk := hk1); clear hGk; (with_reducible show wpAny _ _ (call (Value.ref 63) [Value.int _ _, Value.int _ _]) _ _ _); (with_reducible refine' genQ ?_); intro Q9 hQ9; k_dflt (refine' DoesC.use ?c1u43 ?c2u43 ?k1u43 ?k2u43 ?k3u43 ?k4u43 ?k5u43 ?kKu43 (dmO5 _ hk1 hk2 ?o1u43 ?o2u43 ?ddu43 ?dku43 ?dtu43 _ _) ?kdu43 ?kuu43 ?_; (case c1u43 => kn_code); (case c2u43 => kn_code); (case k1u43 => k_asm); (case k2u43 => k_asm); (case k3u43 => k_asm); (case k4u43 => k_asm); (case k5u43 => k_asm); (case kKu43 => first | exact rfl | assumption); (case dtu43 => assumption); (case ddu43 => k_extra "drop_k"); (case dku43 => k_extra "top_ok"); (case o1u43 => first | exact Or.inl rfl | exact Or.inr rfl | (split <;> simp)); (case o2u43 => first | exact Or.inl rfl | exact Or.inr rfl | (split <;> simp)); (case kdu43 => ktr_room); (case kuu43 => ktr_units); k_whole); intro r9 news9 h9 tk9 F9 N9 hp9; obtain ⟨Q5, R5, d6, t61, t62, tl6, e91, hT6, e92, l91, hf6, hE5, hS5, hS6, hR5, hM5⟩ := hp9; subst e91; rw [e92] at N9; clear e92; (simp only [putTl] at N9 l91 hf6); (have hof6 : ∀ p ∈ tl6, p.1 ≠ I7 := offNew hf6 hofk (by k_dflt (k_extra "w_find")) (Nat.lt_trans (by decide) hI7)); (have hd6 : @LT.lt Nat _ 171 d6 := l91 (171, tabObj p171) (by k_dflt (k_extra "w_in"))); k_lt l91; clear hf6)
  k_with "call ref" => (k_here; (with_reducible show wpAny _ _ (call (Value.ref 108) [Value.ref _, Value.int 5 _]) _ _ _); (with_reducible refine' genQ ?_); intro Q9 hQ9; k_dflt (refine' DoesC.use ?c1u44 ?c2u44 ?k1u44 ?k2u44 ?k3u44 ?k4u44 ?k5u44 ?kKu44 (indent _ _ 5 _ _ _ (WsIn.sub W5 ?sxu44) (by decide) (by decide) hL5.bd.l) ?kdu44 ?kuu44 ?_; (case c1u44 => kn_code); (case c2u44 => kn_code); (case k1u44 => k_asm); (case k2u44 => k_asm); (case k3u44 => k_asm); (case k4u44 => k_asm); (case k5u44 => k_asm); (case kKu44 => first | exact rfl | assumption); (case sxu44 => k_extra "w_ws"); (case kdu44 => ktr_room); (case kuu44 => ktr_units); k_whole); intro r9 news9 h9 tk9 F9 N9 hp9; obtain ⟨⟨t9, e91⟩, e92⟩ := hp9; subst e91; rw [e92] at N9; clear e92; rw [indent5 hL5])
  k_with "call ref" => (k_here; (have hGd := hI7); clear hGd; (with_reducible show wpAny _ _ (call (Value.ref 139) [Value.str _ _]) _ _ _); (with_reducible refine' genQ ?_); intro Q9 hQ9; k_dflt (refine' DoesC.use ?c1u45 ?c2u45 ?k1u45 ?k2u45 ?k3u45 ?k4u45 ?k5u45 ?kKu45 (ws0T _ _ _ _ ?a0u45 ?b0u45 ?d0u45 ?g0u45 ?x0u45) ?kdu45 ?kuu45 ?_; (case c1u45 => kn_code); (case c2u45 => kn_code); (case k1u45 => k_asm); (case k2u45 => k_asm); (case k3u45 => k_asm); (case k4u45 => k_asm); (case k5u45 => k_asm); (case kKu45 => first | exact rfl | assumption); (case x0u45 => assumption); (case a0u45 => assumption); (case b0u45 => assumption); (case d0u45 => assumption); (case g0u45 => omega); (case kdu45 => ktr_room); (case kuu45 => ktr_units); k_whole); intro r9 news9 h9 tk9 F9 N9 hp9; obtain ⟨x9, dx9, D9, D19, cvs9, ka9, kb9, kc9, kd9, ke9, tn9, tnt9, tb9, e91, hi9, e92, l91, l92, l93, l94⟩ := hp9; subst e91; (have W9 := WsIn.of hi9 e92); rw [e92] at N9 W9; clear e92; obtain ⟨W9⟩ := W9; clear l91)
  k_with "call ref" => (k_here; (with_reducible show wpAny _ _ (call (Value.ref 129) [Value.ref _, Value.ref _]) _ _ _); (with_reducible refine' genQ ?_); intro Q9 hQ9; k_dflt (refine' DoesC.use ?c1u46 ?c2u46 ?k1u46 ?k2u46 ?k3u46 ?k4u46 ?k5u46 ?kKu46 (lessW _ _ _ _ _ _ (WsIn.sub W5 ?sxu46) (WsIn.sub W9 ?syu46) hL5.bd hL6.bd) ?kdu46 ?kuu46 ?_; (case c1u46 => kn_code); (case c2u46 => kn_code); (case k1u46 => k_asm); (case k2u46 => k_asm); (case k3u46 => k_asm); (case k4u46 => k_asm); (case k5u46 => k_asm); (case kKu46 => first | exact rfl | assumption); (case sxu46 => k_extra "w_ws"); (case syu46 => exact fun _ h => h); (case kdu46 => ktr_room); (case kuu46 => ktr_units); k_whole); intro r9 news9 h9 tk9 F9 N9 hp9; obtain ⟨e91, e92⟩ := hp9; subst e91; rw [e92] at N9; clear e92; rw [lessR hL5 hL6 hdv5 hR5])
  k_with "binaryOp Add str str" => (k_here; (with_reducible show wpAny _ _ (binaryOp Operator.Add (Value.str _ _) (Value.str _ _)) _ _ _); (with_reducible refine' addX1 hz5 c3 c4 c5 hg ?_); intro z tz t8 k8)
  k_with "binaryOp Mult int int" => (k_here; (with_reducible show wpAny _ _ (binaryOp Operator.Mult (Value.int _ _) (Value.int _ _)) _ _ _); (with_reducible refine' PyProof.Rows.mul_int ?_ hM5))
  k_steps
  all_goals (refine' unrEnd_JF ?N87 ?F87 ?I87 ?s87 ?T87 ?o87 ?v87 ?l87 ?z87; (case N87 => assumption); (case F87 => assumption); (case T87 => assumption); (case I87 => k_extra "w_in"); (case s87 => k_extra "w_sub"); (case o87 => assumption); (case v87 => assumption); (case l87 => assumption); (case z87 => (intro z9 a9 b9 c9 d9 e9 f9 g9 h9; simp only [upd, if_neg a9, if_neg b9, if_neg c9, if_neg d9, if_neg e9, if_neg f9, if_neg g9, if_neg h9])))
