import PyProof.Rows.All
import Wide.All
import OpenK.AllK
import Wide.FinOn
import Lean
import PySem.Challenge.RW_sh0088_01
set_option Elab.async false
namespace Mine
open PySem PySem.W PyProof.Rows
set_option maxRecDepth 100000 in
set_option maxHeartbeats 8000000 in
open_top hd for PySem.Challenge.rw_sh0088_01
end Mine
-- the walk asks the words of each proof (k_with) ahead of its own lines
local macro_rules | `(tactic| walk_at $s:str) => `(tactic| k_extra $s)

-- Base
namespace Mine
open PySem PySem.W PyProof.Rows
abbrev P : Program := PySem.Challenge.rw_sh0088_01.row.prog
/-- the place of a call from law's own frame -/
abbrev conA (cn : Str) (cs : Scope) (L a : Addr) (ccd : Value) (cl : List (Str × Addr)) : Around :=
  { handled := none, depth := claimMargin + 10, frames := some [envX cn cs L a ccd cl], guards := some [], units := 40 }
abbrev Con (w : World) (s₀ : Shared) (mg mb : Str → Option Value) (f : Addr) (news : List (Addr × Obj)) (vs : List Value) (R : Tok → Value) : Prop :=
  ∀ (cn : Str) (cs : Scope) (a : Addr) (ccd : Value) (cl : List (Str × Addr)) (A₀ : Around) (base h₀ : Heap) (L : Addr) (m : Str → Option Value) (s : Shared) (Q E : Value → Shared → Prop),
    Below A₀ base [] h₀ → Fr h₀ L s.heap m → (hd.heap_39 w.params).In h₀ → News h₀ L s.heap news →
    Top hd.view_39 (looseW hd.view_39 [Str.ofString "_filemode_table"]) (ExcName.means s₀.heap) mg mb h₀ → cs.kind = .function →
    CbRet h₀ L m news s Q R → wpAny (model P w) (conA cn cs L a ccd cl) (call (.ref f) vs) Q E s
end Mine

-- Plain
namespace Mine
open PySem PySem.W PyProof.Rows

/-- the first sign of a row, by the mode's upper four bits -/
def kindC (k : Nat) : Nat := [63, 112, 99, 63, 100, 63, 98, 63, 45, 63, 108, 63, 115, 63, 63, 63].getD k 0
def cR (b : Bool) : Nat := bif b then 114 else 45
def cW (b : Bool) : Nat := bif b then 119 else 45
def cX : Bool → Bool → Nat
  | false, false => 45
  | true, false => 120
  | false, true => 83
  | true, true => 115
def cT : Bool → Bool → Nat
  | false, false => 45
  | true, false => 120
  | false, true => 84
  | true, true => 116
/-- a row's sign by its place -/
def signAt (n : Nat) : Nat → Nat
  | 0 => kindC (n / 4096)
  | 1 => cR (n.testBit 8)
  | 2 => cW (n.testBit 7)
  | 3 => cX (n.testBit 6) (n.testBit 11)
  | 4 => cR (n.testBit 5)
  | 5 => cW (n.testBit 4)
  | 6 => cX (n.testBit 3) (n.testBit 10)
  | 7 => cR (n.testBit 2)
  | 8 => cW (n.testBit 1)
  | 9 => cT (n.testBit 0) (n.testBit 9)
  | _ => 0
def rowOf (n : Nat) : Str := ⟨#[signAt n 0, signAt n 1, signAt n 2, signAt n 3, signAt n 4, signAt n 5, signAt n 6, signAt n 7, signAt n 8, signAt n 9]⟩

/-- the new mode -/
def rightsOf (d a b : Nat) : Nat :=
  match d with
  | 0 => (a &&& 4095) &&& (b &&& 4095)
  | 1 => (a &&& 4095) ||| (b &&& 4095)
  | 2 => (a &&& 4095) ^^^ (b &&& 4095)
  | 3 => (a &&& 4095) &&& (4095 ^^^ (b &&& 4095))
  | 4 => 4095 ^^^ (a &&& 4095)
  | 5 => ((a &&& 4095) &&& 4088) ||| (((a &&& 4095) &&& 448) >>> 6)
  | _ => a &&& 4095
def kindOfN (d a b : Nat) : Nat := if d ≤ 5 then a / 4096 else b / 4096
def newOf (d a b : Nat) : Nat := 4096 * kindOfN d a b + rightsOf d a b

theorem add_or {x y w : Nat} (hx : x < 2 ^ w) (hy : y < 2 ^ w) (h : x &&& y = 0) (hs : x + y < 2 ^ w) : x + y = x ||| y := by
  have h1 : (BitVec.ofNat w x) &&& (BitVec.ofNat w y) = 0#w := by
    apply BitVec.eq_of_toNat_eq
    simp only [BitVec.toNat_and, BitVec.toNat_ofNat, Nat.mod_eq_of_lt hx, Nat.mod_eq_of_lt hy, h, Nat.zero_mod]
  have h2 := congrArg BitVec.toNat (BitVec.add_eq_or_of_and_eq_zero _ _ h1)
  simp only [BitVec.toNat_add, BitVec.toNat_or, BitVec.toNat_ofNat, Nat.mod_eq_of_lt hx, Nat.mod_eq_of_lt hy, Nat.mod_eq_of_lt hs] at h2
  exact h2

theorem and_lt {x y : Nat} (h : y < 2 ^ 12) : x &&& y < 2 ^ 12 := Nat.and_lt_two_pow _ h

theorem rightsOf_lt (d a b : Nat) : rightsOf d a b < 2 ^ 12 := by
  unfold rightsOf
  split
  · exact and_lt (and_lt (by decide))
  · exact Nat.or_lt_two_pow (and_lt (by decide)) (and_lt (by decide))
  · exact Nat.xor_lt_two_pow (and_lt (by decide)) (and_lt (by decide))
  · exact and_lt (Nat.xor_lt_two_pow (by decide) (and_lt (by decide)))
  · exact Nat.xor_lt_two_pow (by decide) (and_lt (by decide))
  · refine Nat.or_lt_two_pow (and_lt (by decide)) ?_
    rw [Nat.shiftRight_eq_div_pow]
    exact Nat.lt_of_le_of_lt (Nat.div_le_self _ _) (and_lt (by decide))
  · exact and_lt (by decide)

theorem newOf_lt {d a b : Nat} (ha : a < 65536) (hb : b < 65536) : newOf d a b < 65536 := by
  have h := rightsOf_lt d a b
  have hk : kindOfN d a b < 16 := by
    unfold kindOfN
    split <;> omega
  unfold newOf
  omega
theorem newOf_kind {d a b : Nat} : newOf d a b / 4096 = kindOfN d a b := by
  have h := rightsOf_lt d a b
  unfold newOf
  omega
theorem newOf_bit {d a b i : Nat} (hi : i < 12) : (newOf d a b).testBit i = (rightsOf d a b).testBit i := by
  have h := rightsOf_lt d a b
  unfold newOf
  have e : 4096 * kindOfN d a b + rightsOf d a b = 2 ^ 12 * kindOfN d a b + rightsOf d a b := rfl
  rw [e, Nat.testBit_two_pow_mul_add _ h, if_pos hi]

theorem sub_and {x y w : Nat} (hx : x < 2 ^ w) (hy : y < 2 ^ w) : x - (x &&& y) = x &&& ((2 ^ w - 1) ^^^ y) := by
  have h0 : (x &&& y) &&& (x &&& ((2 ^ w - 1) ^^^ y)) = 0 := by
    apply Nat.eq_of_testBit_eq
    intro i
    simp only [Nat.testBit_and, Nat.testBit_xor, Nat.testBit_two_pow_sub_one, Nat.zero_testBit]
    by_cases hi : i < w
    · simp only [hi, decide_true]
      cases x.testBit i <;> cases y.testBit i <;> rfl
    · have : x.testBit i = false := Nat.testBit_lt_two_pow (Nat.lt_of_lt_of_le hx (Nat.pow_le_pow_right (by decide) (Nat.le_of_not_lt hi)))
      simp [this]
  have h1 : (x &&& y) ||| (x &&& ((2 ^ w - 1) ^^^ y)) = x := by
    apply Nat.eq_of_testBit_eq
    intro i
    simp only [Nat.testBit_and, Nat.testBit_or, Nat.testBit_xor, Nat.testBit_two_pow_sub_one]
    by_cases hi : i < w
    · simp only [hi, decide_true]
      cases x.testBit i <;> cases y.testBit i <;> rfl
    · have : x.testBit i = false := Nat.testBit_lt_two_pow (Nat.lt_of_lt_of_le hx (Nat.pow_le_pow_right (by decide) (Nat.le_of_not_lt hi)))
      simp [this]
  have ha : x &&& y < 2 ^ w := Nat.and_lt_two_pow _ hy
  have hb : x &&& ((2 ^ w - 1) ^^^ y) < 2 ^ w := by
    refine Nat.and_lt_two_pow _ (Nat.xor_lt_two_pow ?_ hy)
    exact Nat.sub_lt (Nat.two_pow_pos _) (by decide)
  have h2 : (x &&& y) + (x &&& ((2 ^ w - 1) ^^^ y)) = x := by
    have hw : (x &&& y) < 2 ^ (w + 1) := Nat.lt_of_lt_of_le ha (Nat.pow_le_pow_right (by decide) (Nat.le_succ _))
    have hw2 : (x &&& ((2 ^ w - 1) ^^^ y)) < 2 ^ (w + 1) := Nat.lt_of_lt_of_le hb (Nat.pow_le_pow_right (by decide) (Nat.le_succ _))
    rw [add_or hw hw2 h0 (by rw [Nat.pow_succ]; omega), h1]
  omega

theorem bandN (x y : Nat) : Builtin.bitAnd (x : Int) (y : Int) = ((x &&& y : Nat) : Int) := by
  rw [bitAnd_pp (by omega) (by omega)]
  simp
theorem borN (x y : Nat) : Builtin.bitOr (x : Int) (y : Int) = ((x ||| y : Nat) : Int) := by
  rw [bitOr_and, bandN]
  have h1 := sub_and (x := x) (y := y) (w := x + y) (Nat.lt_of_le_of_lt (Nat.le_add_right x y) Nat.lt_two_pow_self) (Nat.lt_of_le_of_lt (Nat.le_add_left y x) Nat.lt_two_pow_self)
  have hx : x < 2 ^ (x + y) := Nat.lt_of_le_of_lt (Nat.le_add_right x y) Nat.lt_two_pow_self
  have hy : y < 2 ^ (x + y) := Nat.lt_of_le_of_lt (Nat.le_add_left y x) Nat.lt_two_pow_self
  have hle : x &&& y ≤ x := Nat.and_le_left
  have h0 : (x - (x &&& y)) &&& y = 0 := by
    rw [h1]
    apply Nat.eq_of_testBit_eq
    intro i
    simp only [Nat.testBit_and, Nat.testBit_xor, Nat.testBit_two_pow_sub_one, Nat.zero_testBit]
    by_cases hi : i < x + y
    · simp only [hi, decide_true]
      cases x.testBit i <;> cases y.testBit i <;> rfl
    · have : x.testBit i = false := Nat.testBit_lt_two_pow (Nat.lt_of_lt_of_le hx (Nat.pow_le_pow_right (by decide) (Nat.le_of_not_lt hi)))
      simp [this]
  have h2 : (x - (x &&& y)) ||| y = x ||| y := by
    rw [h1]
    apply Nat.eq_of_testBit_eq
    intro i
    simp only [Nat.testBit_and, Nat.testBit_or, Nat.testBit_xor, Nat.testBit_two_pow_sub_one]
    by_cases hi : i < x + y
    · simp only [hi, decide_true]
      cases x.testBit i <;> cases y.testBit i <;> rfl
    · have e1 : x.testBit i = false := Nat.testBit_lt_two_pow (Nat.lt_of_lt_of_le hx (Nat.pow_le_pow_right (by decide) (Nat.le_of_not_lt hi)))
      simp [e1]
  have h3 : (x - (x &&& y)) + y = x ||| y := by
    rw [← h2]
    refine add_or (w := x + y + 1) ?_ ?_ h0 ?_
    · rw [Nat.pow_succ]; omega
    · rw [Nat.pow_succ]; omega
    · rw [Nat.pow_succ]; omega
  omega
theorem bxorN (x y : Nat) : Builtin.bitXor (x : Int) (y : Int) = ((x ^^^ y : Nat) : Int) := by
  unfold Builtin.bitXor
  rw [borN, bandN]
  have hx : x < 2 ^ (x + y) := Nat.lt_of_le_of_lt (Nat.le_add_right x y) Nat.lt_two_pow_self
  have hy : y < 2 ^ (x + y) := Nat.lt_of_le_of_lt (Nat.le_add_left y x) Nat.lt_two_pow_self
  have h0 : (x ^^^ y) &&& (x &&& y) = 0 := by
    apply Nat.eq_of_testBit_eq
    intro i
    simp only [Nat.testBit_and, Nat.testBit_xor, Nat.zero_testBit]
    cases x.testBit i <;> cases y.testBit i <;> rfl
  have h1 : (x ^^^ y) ||| (x &&& y) = x ||| y := by
    apply Nat.eq_of_testBit_eq
    intro i
    simp only [Nat.testBit_and, Nat.testBit_or, Nat.testBit_xor]
    cases x.testBit i <;> cases y.testBit i <;> rfl
  have ha : x ^^^ y < 2 ^ (x + y) := Nat.xor_lt_two_pow hx hy
  have hb : x &&& y < 2 ^ (x + y) := Nat.and_lt_two_pow _ hy
  have h3 : (x ^^^ y) + (x &&& y) = x ||| y := by
    rw [← h1]
    refine add_or (w := x + y + 1) ?_ ?_ h0 ?_
    · rw [Nat.pow_succ]; omega
    · rw [Nat.pow_succ]; omega
    · rw [Nat.pow_succ]; omega
  omega
theorem bandnotN (x y : Nat) : Builtin.bitAnd (x : Int) (Builtin.bitNot (y : Int)) = ((x - (x &&& y) : Nat) : Int) := by
  rw [bitAnd_not, bandN]
  have hle : x &&& y ≤ x := Nat.and_le_left
  omega
end Mine

-- Plain2
namespace Mine
open PySem PySem.W PyProof.Rows

theorem kindN {a : Nat} (ha : a < 65536) : a &&& 61440 = 4096 * (a / 4096) := by
  apply Nat.eq_of_testBit_eq
  intro i
  have e1 : (61440 : Nat) = 2 ^ 12 * (2 ^ 4 - 1) := by decide
  have e2 : 4096 * (a / 4096) = 2 ^ 12 * (a / 2 ^ 12) := rfl
  have e3 : 65536 = 2 ^ 16 := by decide
  rw [e2, Nat.testBit_and, e1, Nat.testBit_two_pow_mul, Nat.testBit_two_pow_mul, Nat.testBit_two_pow_sub_one, Nat.testBit_div_two_pow]
  by_cases h : 12 ≤ i
  · by_cases h2 : i < 16
    · have e4 : i - 12 < 4 := by omega
      have e5 : i - 12 + 12 = i := by omega
      simp [h, e4, e5]
    · have : a.testBit i = false := Nat.testBit_lt_two_pow (Nat.lt_of_lt_of_le (e3 ▸ ha) (Nat.pow_le_pow_right (by decide) (Nat.le_of_not_lt h2)))
      have e5 : i - 12 + 12 = i := by omega
      simp [this, e5]
  · simp [h]

/-- what `_law_in_bits` reckons, as the walk says it -/
theorem bits0 {a b : Nat} (ha : a < 65536) : Builtin.bitAnd (a : Int) 61440 + Builtin.bitAnd (Builtin.bitAnd (a : Int) 4095) (Builtin.bitAnd (b : Int) 4095) = ((newOf 0 a b : Nat) : Int) := by
  have e1 : Builtin.bitAnd (a : Int) 61440 = ((a &&& 61440 : Nat) : Int) := bandN a 61440
  have e2 : Builtin.bitAnd (a : Int) 4095 = ((a &&& 4095 : Nat) : Int) := bandN a 4095
  have e3 : Builtin.bitAnd (b : Int) 4095 = ((b &&& 4095 : Nat) : Int) := bandN b 4095
  rw [e1, e2, e3, bandN, kindN ha]
  simp only [newOf, kindOfN, rightsOf]
  simp
theorem bits1 {a b : Nat} (ha : a < 65536) : Builtin.bitAnd (a : Int) 61440 + Builtin.bitOr (Builtin.bitAnd (a : Int) 4095) (Builtin.bitAnd (b : Int) 4095) = ((newOf 1 a b : Nat) : Int) := by
  have e1 : Builtin.bitAnd (a : Int) 61440 = ((a &&& 61440 : Nat) : Int) := bandN a 61440
  have e2 : Builtin.bitAnd (a : Int) 4095 = ((a &&& 4095 : Nat) : Int) := bandN a 4095
  have e3 : Builtin.bitAnd (b : Int) 4095 = ((b &&& 4095 : Nat) : Int) := bandN b 4095
  rw [e1, e2, e3, borN, kindN ha]
  simp only [newOf, kindOfN, rightsOf]
  simp
theorem bits2 {a b : Nat} (ha : a < 65536) : Builtin.bitAnd (a : Int) 61440 + Builtin.bitXor (Builtin.bitAnd (a : Int) 4095) (Builtin.bitAnd (b : Int) 4095) = ((newOf 2 a b : Nat) : Int) := by
  have e1 : Builtin.bitAnd (a : Int) 61440 = ((a &&& 61440 : Nat) : Int) := bandN a 61440
  have e2 : Builtin.bitAnd (a : Int) 4095 = ((a &&& 4095 : Nat) : Int) := bandN a 4095
  have e3 : Builtin.bitAnd (b : Int) 4095 = ((b &&& 4095 : Nat) : Int) := bandN b 4095
  rw [e1, e2, e3, bxorN, kindN ha]
  simp only [newOf, kindOfN, rightsOf]
  simp
theorem bits3 {a b : Nat} (ha : a < 65536) : Builtin.bitAnd (a : Int) 61440 + Builtin.bitAnd (Builtin.bitAnd (a : Int) 4095) (Builtin.bitNot (Builtin.bitAnd (b : Int) 4095)) = ((newOf 3 a b : Nat) : Int) := by
  have e1 : Builtin.bitAnd (a : Int) 61440 = ((a &&& 61440 : Nat) : Int) := bandN a 61440
  have e2 : Builtin.bitAnd (a : Int) 4095 = ((a &&& 4095 : Nat) : Int) := bandN a 4095
  have e3 : Builtin.bitAnd (b : Int) 4095 = ((b &&& 4095 : Nat) : Int) := bandN b 4095
  rw [e1, e2, e3, bandnotN, kindN ha, sub_and (w := 12) (and_lt (by decide)) (and_lt (by decide))]
  simp only [newOf, kindOfN, rightsOf]
  simp
theorem bits4 {a b : Nat} (ha : a < 65536) : Builtin.bitAnd (a : Int) 61440 + (Builtin.bitAnd 65535 4095 - Builtin.bitAnd (a : Int) 4095) = ((newOf 4 a b : Nat) : Int) := by
  have e1 : Builtin.bitAnd (a : Int) 61440 = ((a &&& 61440 : Nat) : Int) := bandN a 61440
  have e2 : Builtin.bitAnd (a : Int) 4095 = ((a &&& 4095 : Nat) : Int) := bandN a 4095
  have e4 : Builtin.bitAnd 65535 4095 = 4095 := by decide
  have hlt : a &&& 4095 < 2 ^ 12 := and_lt (by decide)
  have h1 := sub_and (x := 4095) (y := a &&& 4095) (w := 12) (by decide) hlt
  have h2 : 4095 &&& (a &&& 4095) = a &&& 4095 := by
    rw [Nat.and_comm, Nat.and_assoc]; rfl
  have h3 : 4095 &&& ((2 ^ 12 - 1) ^^^ (a &&& 4095)) = 4095 ^^^ (a &&& 4095) := by
    have : 4095 ^^^ (a &&& 4095) < 2 ^ 12 := Nat.xor_lt_two_pow (by decide) hlt
    rw [Nat.and_comm, show (4095 : Nat) = 2 ^ 12 - 1 from rfl, Nat.and_two_pow_sub_one_of_lt_two_pow this]
  rw [h2, h3] at h1
  have hlt' : a &&& 4095 < 4096 := hlt
  rw [e1, e2, e4, kindN ha]
  have e5 : (newOf 4 a b : Nat) = 4096 * (a / 4096) + (4095 - (a &&& 4095)) := by
    rw [h1]; rfl
  rw [e5]
  omega
theorem bits5 {a b : Nat} (ha : a < 65536) : Builtin.bitAnd (a : Int) 61440 + Builtin.bitOr (Builtin.bitAnd (Builtin.bitAnd (a : Int) 4095) (Builtin.bitNot 7)) ((Builtin.bitAnd (Builtin.bitAnd (a : Int) 4095) 448).fdiv (2 ^ Int.toNat 6)) = ((newOf 5 a b : Nat) : Int) := by
  have e1 : Builtin.bitAnd (a : Int) 61440 = ((a &&& 61440 : Nat) : Int) := bandN a 61440
  have e2 : Builtin.bitAnd (a : Int) 4095 = ((a &&& 4095 : Nat) : Int) := bandN a 4095
  have e3 : Builtin.bitAnd ((a &&& 4095 : Nat) : Int) 448 = ((a &&& 4095 &&& 448 : Nat) : Int) := bandN (a &&& 4095) 448
  have e4 : Builtin.bitAnd ((a &&& 4095 : Nat) : Int) (Builtin.bitNot 7) = (((a &&& 4095) - (a &&& 4095 &&& 7) : Nat) : Int) := bandnotN (a &&& 4095) 7
  have e5 : (((a &&& 4095 &&& 448 : Nat) : Int)).fdiv (2 ^ Int.toNat 6) = (((a &&& 4095 &&& 448) >>> 6 : Nat) : Int) := by
    rw [Nat.shiftRight_eq_div_pow]
    show (((a &&& 4095 &&& 448 : Nat) : Int)).fdiv 64 = _
    rw [Int.fdiv_eq_ediv_of_nonneg _ (by decide)]
    simp
  rw [e1, e2, e3, e4, e5, borN, kindN ha, sub_and (w := 12) (and_lt (by decide)) (by decide)]
  simp only [newOf, kindOfN, rightsOf]
  simp
theorem bits6 {a b : Nat} (hb : b < 65536) : Builtin.bitAnd (b : Int) 61440 + Builtin.bitAnd (a : Int) 4095 = ((newOf 6 a b : Nat) : Int) := by
  have e1 : Builtin.bitAnd (b : Int) 61440 = ((b &&& 61440 : Nat) : Int) := bandN b 61440
  have e2 : Builtin.bitAnd (a : Int) 4095 = ((a &&& 4095 : Nat) : Int) := bandN a 4095
  rw [e1, e2, kindN hb]
  simp only [newOf, kindOfN, rightsOf]
  simp
end Mine

-- Plain3
namespace Mine
open PySem PySem.W PyProof.Rows

theorem tb (n i : Nat) : n.testBit i = decide (n / 2 ^ i % 2 = 1) := Nat.testBit_eq_decide_div_mod_eq
theorem it_kind : ∀ k : Fin 16, Txt.item (Str.ofString "?pc?d?b?-?l?s???") ((k.val : Nat) : Int) = ⟨#[kindC k.val]⟩ := by decide +kernel
theorem it_R : ∀ k : Fin 2, Txt.item (Str.ofString "-r") ((k.val : Nat) : Int) = ⟨#[cR (decide (k.val = 1))]⟩ := by decide +kernel
theorem it_W : ∀ k : Fin 2, Txt.item (Str.ofString "-w") ((k.val : Nat) : Int) = ⟨#[cW (decide (k.val = 1))]⟩ := by decide +kernel
theorem it_X : ∀ x s : Fin 2, Txt.item (Str.ofString "-xSs") (((x.val + 2 * s.val : Nat)) : Int) = ⟨#[cX (decide (x.val = 1)) (decide (s.val = 1))]⟩ := by decide +kernel
theorem it_T : ∀ x s : Fin 2, Txt.item (Str.ofString "-xTt") (((x.val + 2 * s.val : Nat)) : Int) = ⟨#[cT (decide (x.val = 1)) (decide (s.val = 1))]⟩ := by decide +kernel

theorem sp_R {n i : Nat} {k : Int} (h : k = ((n / 2 ^ i % 2 : Nat) : Int)) : Txt.item (Str.ofString "-r") k = ⟨#[cR (n.testBit i)]⟩ := by
  rw [h, tb]; exact it_R ⟨n / 2 ^ i % 2, Nat.mod_lt _ (by decide)⟩
theorem sp_W {n i : Nat} {k : Int} (h : k = ((n / 2 ^ i % 2 : Nat) : Int)) : Txt.item (Str.ofString "-w") k = ⟨#[cW (n.testBit i)]⟩ := by
  rw [h, tb]; exact it_W ⟨n / 2 ^ i % 2, Nat.mod_lt _ (by decide)⟩
theorem sp_X {n i j : Nat} {k : Int} (h : k = ((n / 2 ^ i % 2 + 2 * (n / 2 ^ j % 2) : Nat) : Int)) : Txt.item (Str.ofString "-xSs") k = ⟨#[cX (n.testBit i) (n.testBit j)]⟩ := by
  rw [h, tb, tb]; exact it_X ⟨n / 2 ^ i % 2, Nat.mod_lt _ (by decide)⟩ ⟨n / 2 ^ j % 2, Nat.mod_lt _ (by decide)⟩
theorem sp_T {n i j : Nat} {k : Int} (h : k = ((n / 2 ^ i % 2 + 2 * (n / 2 ^ j % 2) : Nat) : Int)) : Txt.item (Str.ofString "-xTt") k = ⟨#[cT (n.testBit i) (n.testBit j)]⟩ := by
  rw [h, tb, tb]; exact it_T ⟨n / 2 ^ i % 2, Nat.mod_lt _ (by decide)⟩ ⟨n / 2 ^ j % 2, Nat.mod_lt _ (by decide)⟩
theorem sp_kind {n : Nat} (hn : n < 65536) : Txt.item (Str.ofString "?pc?d?b?-?l?s???") (((n : Nat) : Int).fdiv 4096) = ⟨#[kindC (n / 4096)]⟩ := by
  have e : ((n : Nat) : Int).fdiv 4096 = ((n / 4096 : Nat) : Int) := by
    rw [Int.fdiv_eq_ediv_of_nonneg _ (by decide)]; omega
  rw [e]
  exact it_kind ⟨n / 4096, by omega⟩

theorem fd (x y : Nat) : ((x : Nat) : Int).fdiv ((y : Nat) : Int) = ((x / y : Nat) : Int) := by
  rw [Int.fdiv_eq_ediv_of_nonneg _ (Int.natCast_nonneg _), Int.natCast_ediv]
theorem fm (x y : Nat) : ((x : Nat) : Int).fmod ((y : Nat) : Int) = ((x % y : Nat) : Int) := by
  rw [Int.fmod_eq_emod_of_nonneg _ (Int.natCast_nonneg _), Int.natCast_emod]

theorem s0 : (2 : Int) ^ ((6 : Int) - 3 * (0 + ((0 : Nat) : Int))).toNat = ((64 : Nat) : Int) := by decide
theorem s1 : (2 : Int) ^ ((6 : Int) - 3 * (0 + ((0 + 1 : Nat) : Int))).toNat = ((8 : Nat) : Int) := by decide
theorem s2 : (2 : Int) ^ ((6 : Int) - 3 * (0 + ((0 + 1 + 1 : Nat) : Int))).toNat = ((1 : Nat) : Int) := by decide
theorem u0 : (2 : Int) ^ ((11 : Int) - (0 + ((0 : Nat) : Int))).toNat = ((2048 : Nat) : Int) := by decide
theorem u1 : (2 : Int) ^ ((11 : Int) - (0 + ((0 + 1 : Nat) : Int))).toNat = ((1024 : Nat) : Int) := by decide
theorem u2 : (2 : Int) ^ ((11 : Int) - (0 + ((0 + 1 + 1 : Nat) : Int))).toNat = ((512 : Nat) : Int) := by decide
theorem fd4 (x : Nat) : ((x : Nat) : Int).fdiv 4 = ((x / 4 : Nat) : Int) := fd x 4
theorem fd2 (x : Nat) : ((x : Nat) : Int).fdiv 2 = ((x / 2 : Nat) : Int) := fd x 2
theorem fm8 (x : Nat) : ((x : Nat) : Int).fmod 8 = ((x % 8 : Nat) : Int) := fm x 8
theorem fm2 (x : Nat) : ((x : Nat) : Int).fmod 2 = ((x % 2 : Nat) : Int) := fm x 2

theorem spelt_eq {a : Nat} (ha : a < 65536) :
    Txt.item (Str.ofString "?pc?d?b?-?l?s???") (((a : Nat) : Int).fdiv 4096) ++
      (Txt.item (Str.ofString "-r") (((((a : Nat) : Int).fdiv (2 ^ ((6 : Int) - 3 * (0 + ((0 : Nat) : Int))).toNat)).fmod 8).fdiv 4) ++
        Txt.item (Str.ofString "-w") ((((((a : Nat) : Int).fdiv (2 ^ ((6 : Int) - 3 * (0 + ((0 : Nat) : Int))).toNat)).fmod 8).fdiv 2).fmod 2)) ++
      Txt.item (Str.ofString "-xSs") (((((a : Nat) : Int).fdiv (2 ^ ((6 : Int) - 3 * (0 + ((0 : Nat) : Int))).toNat)).fmod 8).fmod 2 + 2 * (((a : Nat) : Int).fdiv (2 ^ ((11 : Int) - (0 + ((0 : Nat) : Int))).toNat)).fmod 2) ++
      (Txt.item (Str.ofString "-r") (((((a : Nat) : Int).fdiv (2 ^ ((6 : Int) - 3 * (0 + ((0 + 1 : Nat) : Int))).toNat)).fmod 8).fdiv 4) ++
        Txt.item (Str.ofString "-w") ((((((a : Nat) : Int).fdiv (2 ^ ((6 : Int) - 3 * (0 + ((0 + 1 : Nat) : Int))).toNat)).fmod 8).fdiv 2).fmod 2)) ++
      Txt.item (Str.ofString "-xSs") (((((a : Nat) : Int).fdiv (2 ^ ((6 : Int) - 3 * (0 + ((0 + 1 : Nat) : Int))).toNat)).fmod 8).fmod 2 + 2 * (((a : Nat) : Int).fdiv (2 ^ ((11 : Int) - (0 + ((0 + 1 : Nat) : Int))).toNat)).fmod 2) ++
      (Txt.item (Str.ofString "-r") (((((a : Nat) : Int).fdiv (2 ^ ((6 : Int) - 3 * (0 + ((0 + 1 + 1 : Nat) : Int))).toNat)).fmod 8).fdiv 4) ++
        Txt.item (Str.ofString "-w") ((((((a : Nat) : Int).fdiv (2 ^ ((6 : Int) - 3 * (0 + ((0 + 1 + 1 : Nat) : Int))).toNat)).fmod 8).fdiv 2).fmod 2)) ++
      Txt.item (Str.ofString "-xTt") (((((a : Nat) : Int).fdiv (2 ^ ((6 : Int) - 3 * (0 + ((0 + 1 + 1 : Nat) : Int))).toNat)).fmod 8).fmod 2 + 2 * (((a : Nat) : Int).fdiv (2 ^ ((11 : Int) - (0 + ((0 + 1 + 1 : Nat) : Int))).toNat)).fmod 2)
    = rowOf a := by
  rw [sp_kind ha]
  simp only [s0, s1, s2, u0, u1, u2, fd, fm8, fm2, fd4, fd2]
  rw [sp_R (n := a) (i := 8) (by omega), sp_W (n := a) (i := 7) (by omega), sp_X (n := a) (i := 6) (j := 11) (by omega),
    sp_R (n := a) (i := 5) (by omega), sp_W (n := a) (i := 4) (by omega), sp_X (n := a) (i := 3) (j := 10) (by omega),
    sp_R (n := a) (i := 2) (by omega), sp_W (n := a) (i := 1) (by omega), sp_T (n := a) (i := 0) (j := 9) (by omega)]
  rfl
end Mine

-- Plain4
namespace Mine
open PySem PySem.W PyProof.Rows

theorem bit_on {a m : Nat} (i : Nat) (hm : m.testBit i = true) (h : Builtin.bitAnd (a : Int) (m : Int) = (m : Int)) : a.testBit i = true := by
  rw [bandN] at h
  have h' : a &&& m = m := Int.ofNat.inj h
  have e := congrArg (fun z => Nat.testBit z i) h'
  simp only [Nat.testBit_and, hm, Bool.and_true] at e
  exact e
theorem bit_all {a m : Nat} (h : ∀ i, m.testBit i = true → a.testBit i = true) : Builtin.bitAnd (a : Int) (m : Int) = (m : Int) := by
  rw [bandN]
  refine congrArg _ ?_
  apply Nat.eq_of_testBit_eq
  intro i
  rw [Nat.testBit_and]
  cases hm : m.testBit i with
  | false => simp
  | true => simp [h i hm]
theorem one_off {a : Nat} (i : Nat) (h : Builtin.bitAnd (a : Int) ((2 ^ i : Nat) : Int) ≠ ((2 ^ i : Nat) : Int)) : a.testBit i = false := by
  cases e : a.testBit i with
  | false => rfl
  | true =>
    refine absurd (bit_all fun j hj => ?_) h
    rw [Nat.testBit_two_pow] at hj
    have : i = j := by simpa using hj
    rw [← this]; exact e
theorem two_off {a : Nat} (i j : Nat) (h : Builtin.bitAnd (a : Int) ((2 ^ i ||| 2 ^ j : Nat) : Int) ≠ ((2 ^ i ||| 2 ^ j : Nat) : Int)) (hj : a.testBit j = true) : a.testBit i = false := by
  cases e : a.testBit i with
  | false => rfl
  | true =>
    refine absurd (bit_all fun k hk => ?_) h
    rw [Nat.testBit_or, Nat.testBit_two_pow, Nat.testBit_two_pow] at hk
    rcases Bool.or_eq_true_iff.mp hk with q | q
    · have : i = k := by simpa using q
      rw [← this]; exact e
    · have : j = k := by simpa using q
      rw [← this]; exact hj
theorem kind_is {a : Nat} (ha : a < 65536) (k : Nat) (h : Builtin.bitAnd (a : Int) 61440 = ((4096 * k : Nat) : Int)) : signAt a 0 = kindC k := by
  have e : Builtin.bitAnd (a : Int) 61440 = ((a &&& 61440 : Nat) : Int) := bandN a 61440
  rw [e, kindN ha] at h
  have h' : 4096 * (a / 4096) = 4096 * k := Int.ofNat.inj h
  have : a / 4096 = k := by omega
  show kindC (a / 4096) = _
  rw [this]
theorem kind_else0 : ∀ k : Fin 16, (k.val == 10 || k.val == 12 || k.val == 8 || k.val == 6 || k.val == 4 || k.val == 2 || k.val == 1 || kindC k.val == 63) = true := by decide
theorem kind_else {k : Nat} (hk : k < 16) (h1 : k ≠ 10) (h2 : k ≠ 12) (h3 : k ≠ 8) (h4 : k ≠ 6) (h5 : k ≠ 4) (h6 : k ≠ 2) (h7 : k ≠ 1) : kindC k = 63 := by
  have h := kind_else0 ⟨k, hk⟩
  simpa [h1, h2, h3, h4, h5, h6, h7] using h
theorem kind_not {a : Nat} (ha : a < 65536) (k : Nat) (h : Builtin.bitAnd (a : Int) 61440 ≠ ((4096 * k : Nat) : Int)) : a / 4096 ≠ k := by
  intro e
  refine h ?_
  have e' : Builtin.bitAnd (a : Int) 61440 = ((a &&& 61440 : Nat) : Int) := bandN a 61440
  rw [e', kindN ha, e]
theorem txt {c d : Nat} (h : d = c) : (⟨#[c]⟩ : Str) = ⟨#[d]⟩ := by rw [h]

theorem fm0_10 {a : Nat} (ha : a < 65536) (h : Builtin.bitAnd (a : Int) 61440 = 40960) : Str.ofString "l" = ⟨#[signAt a 0]⟩ := by
  rw [kind_is ha 10 h]; decide
theorem fm0_12 {a : Nat} (ha : a < 65536) (h : Builtin.bitAnd (a : Int) 61440 = 49152) : Str.ofString "s" = ⟨#[signAt a 0]⟩ := by
  rw [kind_is ha 12 h]; decide
theorem fm0_8 {a : Nat} (ha : a < 65536) (h : Builtin.bitAnd (a : Int) 61440 = 32768) : Str.ofString "-" = ⟨#[signAt a 0]⟩ := by
  rw [kind_is ha 8 h]; decide
theorem fm0_6 {a : Nat} (ha : a < 65536) (h : Builtin.bitAnd (a : Int) 61440 = 24576) : Str.ofString "b" = ⟨#[signAt a 0]⟩ := by
  rw [kind_is ha 6 h]; decide
theorem fm0_4 {a : Nat} (ha : a < 65536) (h : Builtin.bitAnd (a : Int) 61440 = 16384) : Str.ofString "d" = ⟨#[signAt a 0]⟩ := by
  rw [kind_is ha 4 h]; decide
theorem fm0_2 {a : Nat} (ha : a < 65536) (h : Builtin.bitAnd (a : Int) 61440 = 8192) : Str.ofString "c" = ⟨#[signAt a 0]⟩ := by
  rw [kind_is ha 2 h]; decide
theorem fm0_1 {a : Nat} (ha : a < 65536) (h : Builtin.bitAnd (a : Int) 61440 = 4096) : Str.ofString "p" = ⟨#[signAt a 0]⟩ := by
  rw [kind_is ha 1 h]; decide
theorem fm0_e {a : Nat} (ha : a < 65536) (h10 : Builtin.bitAnd (a : Int) 61440 ≠ 40960) (h12 : Builtin.bitAnd (a : Int) 61440 ≠ 49152) (h8 : Builtin.bitAnd (a : Int) 61440 ≠ 32768) (h6 : Builtin.bitAnd (a : Int) 61440 ≠ 24576) (h4 : Builtin.bitAnd (a : Int) 61440 ≠ 16384) (h2 : Builtin.bitAnd (a : Int) 61440 ≠ 8192) (h1 : Builtin.bitAnd (a : Int) 61440 ≠ 4096) : Str.ofString "?" = ⟨#[signAt a 0]⟩ := by
  have e : signAt a 0 = 63 := kind_else (k := a / 4096) (by omega) (kind_not ha 10 h10) (kind_not ha 12 h12) (kind_not ha 8 h8) (kind_not ha 6 h6) (kind_not ha 4 h4) (kind_not ha 2 h2) (kind_not ha 1 h1)
  rw [e]; decide
theorem fm1_1 {a : Nat} (h : Builtin.bitAnd (a : Int) 256 = 256) : Str.ofString "r" = ⟨#[signAt a 1]⟩ := by
  have e : a.testBit 8 = true := bit_on (m := 256) 8 (by decide) h
  have q : signAt a 1 = 114 := by show cR (a.testBit 8) = _; rw [e]; rfl
  rw [q]; decide
theorem fm1_2 {a : Nat} (h : Builtin.bitAnd (a : Int) 256 ≠ 256) : Str.ofString "-" = ⟨#[signAt a 1]⟩ := by
  have e : a.testBit 8 = false := one_off 8 h
  have q : signAt a 1 = 45 := by show cR (a.testBit 8) = _; rw [e]; rfl
  rw [q]; decide
theorem fm2_1 {a : Nat} (h : Builtin.bitAnd (a : Int) 128 = 128) : Str.ofString "w" = ⟨#[signAt a 2]⟩ := by
  have e : a.testBit 7 = true := bit_on (m := 128) 7 (by decide) h
  have q : signAt a 2 = 119 := by show cW (a.testBit 7) = _; rw [e]; rfl
  rw [q]; decide
theorem fm2_2 {a : Nat} (h : Builtin.bitAnd (a : Int) 128 ≠ 128) : Str.ofString "-" = ⟨#[signAt a 2]⟩ := by
  have e : a.testBit 7 = false := one_off 7 h
  have q : signAt a 2 = 45 := by show cW (a.testBit 7) = _; rw [e]; rfl
  rw [q]; decide
theorem fm4_1 {a : Nat} (h : Builtin.bitAnd (a : Int) 32 = 32) : Str.ofString "r" = ⟨#[signAt a 4]⟩ := by
  have e : a.testBit 5 = true := bit_on (m := 32) 5 (by decide) h
  have q : signAt a 4 = 114 := by show cR (a.testBit 5) = _; rw [e]; rfl
  rw [q]; decide
theorem fm4_2 {a : Nat} (h : Builtin.bitAnd (a : Int) 32 ≠ 32) : Str.ofString "-" = ⟨#[signAt a 4]⟩ := by
  have e : a.testBit 5 = false := one_off 5 h
  have q : signAt a 4 = 45 := by show cR (a.testBit 5) = _; rw [e]; rfl
  rw [q]; decide
theorem fm5_1 {a : Nat} (h : Builtin.bitAnd (a : Int) 16 = 16) : Str.ofString "w" = ⟨#[signAt a 5]⟩ := by
  have e : a.testBit 4 = true := bit_on (m := 16) 4 (by decide) h
  have q : signAt a 5 = 119 := by show cW (a.testBit 4) = _; rw [e]; rfl
  rw [q]; decide
theorem fm5_2 {a : Nat} (h : Builtin.bitAnd (a : Int) 16 ≠ 16) : Str.ofString "-" = ⟨#[signAt a 5]⟩ := by
  have e : a.testBit 4 = false := one_off 4 h
  have q : signAt a 5 = 45 := by show cW (a.testBit 4) = _; rw [e]; rfl
  rw [q]; decide
theorem fm7_1 {a : Nat} (h : Builtin.bitAnd (a : Int) 4 = 4) : Str.ofString "r" = ⟨#[signAt a 7]⟩ := by
  have e : a.testBit 2 = true := bit_on (m := 4) 2 (by decide) h
  have q : signAt a 7 = 114 := by show cR (a.testBit 2) = _; rw [e]; rfl
  rw [q]; decide
theorem fm7_2 {a : Nat} (h : Builtin.bitAnd (a : Int) 4 ≠ 4) : Str.ofString "-" = ⟨#[signAt a 7]⟩ := by
  have e : a.testBit 2 = false := one_off 2 h
  have q : signAt a 7 = 45 := by show cR (a.testBit 2) = _; rw [e]; rfl
  rw [q]; decide
theorem fm8_1 {a : Nat} (h : Builtin.bitAnd (a : Int) 2 = 2) : Str.ofString "w" = ⟨#[signAt a 8]⟩ := by
  have e : a.testBit 1 = true := bit_on (m := 2) 1 (by decide) h
  have q : signAt a 8 = 119 := by show cW (a.testBit 1) = _; rw [e]; rfl
  rw [q]; decide
theorem fm8_2 {a : Nat} (h : Builtin.bitAnd (a : Int) 2 ≠ 2) : Str.ofString "-" = ⟨#[signAt a 8]⟩ := by
  have e : a.testBit 1 = false := one_off 1 h
  have q : signAt a 8 = 45 := by show cW (a.testBit 1) = _; rw [e]; rfl
  rw [q]; decide
theorem fm3_1 {a : Nat} (h : Builtin.bitAnd (a : Int) 2112 = 2112) : Str.ofString "s" = ⟨#[signAt a 3]⟩ := by
  have e : a.testBit 6 = true := bit_on (m := 2112) 6 (by decide) h
  have e2 : a.testBit 11 = true := bit_on (m := 2112) 11 (by decide) h
  have q : signAt a 3 = 115 := by show cX (a.testBit 6) (a.testBit 11) = _; rw [e, e2]; rfl
  rw [q]; decide
theorem fm3_2 {a : Nat} (h1 : Builtin.bitAnd (a : Int) 2112 ≠ 2112) (h : Builtin.bitAnd (a : Int) 2048 = 2048) : Str.ofString "S" = ⟨#[signAt a 3]⟩ := by
  have e2 : a.testBit 11 = true := bit_on (m := 2048) 11 (by decide) h
  have e : a.testBit 6 = false := two_off 6 11 h1 e2
  have q : signAt a 3 = 83 := by show cX (a.testBit 6) (a.testBit 11) = _; rw [e, e2]; rfl
  rw [q]; decide
theorem fm3_3 {a : Nat} (h2 : Builtin.bitAnd (a : Int) 2048 ≠ 2048) (h : Builtin.bitAnd (a : Int) 64 = 64) : Str.ofString "x" = ⟨#[signAt a 3]⟩ := by
  have e : a.testBit 6 = true := bit_on (m := 64) 6 (by decide) h
  have e2 : a.testBit 11 = false := one_off 11 h2
  have q : signAt a 3 = 120 := by show cX (a.testBit 6) (a.testBit 11) = _; rw [e, e2]; rfl
  rw [q]; decide
theorem fm3_4 {a : Nat} (h2 : Builtin.bitAnd (a : Int) 2048 ≠ 2048) (h : Builtin.bitAnd (a : Int) 64 ≠ 64) : Str.ofString "-" = ⟨#[signAt a 3]⟩ := by
  have e : a.testBit 6 = false := one_off 6 h
  have e2 : a.testBit 11 = false := one_off 11 h2
  have q : signAt a 3 = 45 := by show cX (a.testBit 6) (a.testBit 11) = _; rw [e, e2]; rfl
  rw [q]; decide
theorem fm6_1 {a : Nat} (h : Builtin.bitAnd (a : Int) 1032 = 1032) : Str.ofString "s" = ⟨#[signAt a 6]⟩ := by
  have e : a.testBit 3 = true := bit_on (m := 1032) 3 (by decide) h
  have e2 : a.testBit 10 = true := bit_on (m := 1032) 10 (by decide) h
  have q : signAt a 6 = 115 := by show cX (a.testBit 3) (a.testBit 10) = _; rw [e, e2]; rfl
  rw [q]; decide
theorem fm6_2 {a : Nat} (h1 : Builtin.bitAnd (a : Int) 1032 ≠ 1032) (h : Builtin.bitAnd (a : Int) 1024 = 1024) : Str.ofString "S" = ⟨#[signAt a 6]⟩ := by
  have e2 : a.testBit 10 = true := bit_on (m := 1024) 10 (by decide) h
  have e : a.testBit 3 = false := two_off 3 10 h1 e2
  have q : signAt a 6 = 83 := by show cX (a.testBit 3) (a.testBit 10) = _; rw [e, e2]; rfl
  rw [q]; decide
theorem fm6_3 {a : Nat} (h2 : Builtin.bitAnd (a : Int) 1024 ≠ 1024) (h : Builtin.bitAnd (a : Int) 8 = 8) : Str.ofString "x" = ⟨#[signAt a 6]⟩ := by
  have e : a.testBit 3 = true := bit_on (m := 8) 3 (by decide) h
  have e2 : a.testBit 10 = false := one_off 10 h2
  have q : signAt a 6 = 120 := by show cX (a.testBit 3) (a.testBit 10) = _; rw [e, e2]; rfl
  rw [q]; decide
theorem fm6_4 {a : Nat} (h2 : Builtin.bitAnd (a : Int) 1024 ≠ 1024) (h : Builtin.bitAnd (a : Int) 8 ≠ 8) : Str.ofString "-" = ⟨#[signAt a 6]⟩ := by
  have e : a.testBit 3 = false := one_off 3 h
  have e2 : a.testBit 10 = false := one_off 10 h2
  have q : signAt a 6 = 45 := by show cX (a.testBit 3) (a.testBit 10) = _; rw [e, e2]; rfl
  rw [q]; decide
theorem fm9_1 {a : Nat} (h : Builtin.bitAnd (a : Int) 513 = 513) : Str.ofString "t" = ⟨#[signAt a 9]⟩ := by
  have e : a.testBit 0 = true := bit_on (m := 513) 0 (by decide) h
  have e2 : a.testBit 9 = true := bit_on (m := 513) 9 (by decide) h
  have q : signAt a 9 = 116 := by show cT (a.testBit 0) (a.testBit 9) = _; rw [e, e2]; rfl
  rw [q]; decide
theorem fm9_2 {a : Nat} (h1 : Builtin.bitAnd (a : Int) 513 ≠ 513) (h : Builtin.bitAnd (a : Int) 512 = 512) : Str.ofString "T" = ⟨#[signAt a 9]⟩ := by
  have e2 : a.testBit 9 = true := bit_on (m := 512) 9 (by decide) h
  have e : a.testBit 0 = false := two_off 0 9 h1 e2
  have q : signAt a 9 = 84 := by show cT (a.testBit 0) (a.testBit 9) = _; rw [e, e2]; rfl
  rw [q]; decide
theorem fm9_3 {a : Nat} (h2 : Builtin.bitAnd (a : Int) 512 ≠ 512) (h : Builtin.bitAnd (a : Int) 1 = 1) : Str.ofString "x" = ⟨#[signAt a 9]⟩ := by
  have e : a.testBit 0 = true := bit_on (m := 1) 0 (by decide) h
  have e2 : a.testBit 9 = false := one_off 9 h2
  have q : signAt a 9 = 120 := by show cT (a.testBit 0) (a.testBit 9) = _; rw [e, e2]; rfl
  rw [q]; decide
theorem fm9_4 {a : Nat} (h2 : Builtin.bitAnd (a : Int) 512 ≠ 512) (h : Builtin.bitAnd (a : Int) 1 ≠ 1) : Str.ofString "-" = ⟨#[signAt a 9]⟩ := by
  have e : a.testBit 0 = false := one_off 0 h
  have e2 : a.testBit 9 = false := one_off 9 h2
  have q : signAt a 9 = 45 := by show cT (a.testBit 0) (a.testBit 9) = _; rw [e, e2]; rfl
  rw [q]; decide
end Mine

-- Plain5
namespace Mine
open PySem PySem.W PyProof.Rows

/-- the place of a row's sign in its column -/
def dN (n : Nat) : Nat → Nat
  | 1 => (n.testBit 8).toNat
  | 2 => (n.testBit 7).toNat
  | 3 => (n.testBit 6).toNat + 2 * (n.testBit 11).toNat
  | 4 => (n.testBit 5).toNat
  | 5 => (n.testBit 4).toNat
  | 6 => (n.testBit 3).toNat + 2 * (n.testBit 10).toNat
  | 7 => (n.testBit 2).toNat
  | 8 => (n.testBit 1).toNat
  | 9 => (n.testBit 0).toNat + 2 * (n.testBit 9).toNat
  | _ => 0
def dg (n j : Nat) : Int := ((dN n j : Nat) : Int)
def colS : Nat → Str
  | 1 => Str.ofString "-r"
  | 2 => Str.ofString "-w"
  | 3 => Str.ofString "-xSs"
  | 4 => Str.ofString "-r"
  | 5 => Str.ofString "-w"
  | 6 => Str.ofString "-xSs"
  | 7 => Str.ofString "-r"
  | 8 => Str.ofString "-w"
  | 9 => Str.ofString "-xTt"
  | _ => Str.ofString ""
theorem bR : ∀ x : Bool, 0 ≤ ((x.toNat : Nat) : Int) ∧ ((x.toNat : Nat) : Int) < 2 := by decide
theorem bX : ∀ x s : Bool, 0 ≤ ((x.toNat + 2 * s.toNat : Nat) : Int) ∧ ((x.toNat + 2 * s.toNat : Nat) : Int) < 4 := by decide
theorem oR : ∀ x y : Bool, (0 ≤ Builtin.bitAnd ((x.toNat : Nat) : Int) ((y.toNat : Nat) : Int) ∧ Builtin.bitAnd ((x.toNat : Nat) : Int) ((y.toNat : Nat) : Int) ≤ ((x.toNat : Nat) : Int)) ∧ (0 ≤ Builtin.bitOr ((x.toNat : Nat) : Int) ((y.toNat : Nat) : Int) ∧ Builtin.bitOr ((x.toNat : Nat) : Int) ((y.toNat : Nat) : Int) < 2) ∧ (0 ≤ Builtin.bitXor ((x.toNat : Nat) : Int) ((y.toNat : Nat) : Int) ∧ Builtin.bitXor ((x.toNat : Nat) : Int) ((y.toNat : Nat) : Int) < 2) := by decide
theorem oX : ∀ x s y r : Bool, (0 ≤ Builtin.bitAnd ((x.toNat + 2 * s.toNat : Nat) : Int) ((y.toNat + 2 * r.toNat : Nat) : Int) ∧ Builtin.bitAnd ((x.toNat + 2 * s.toNat : Nat) : Int) ((y.toNat + 2 * r.toNat : Nat) : Int) ≤ ((x.toNat + 2 * s.toNat : Nat) : Int)) ∧ (0 ≤ Builtin.bitOr ((x.toNat + 2 * s.toNat : Nat) : Int) ((y.toNat + 2 * r.toNat : Nat) : Int) ∧ Builtin.bitOr ((x.toNat + 2 * s.toNat : Nat) : Int) ((y.toNat + 2 * r.toNat : Nat) : Int) < 4) ∧ (0 ≤ Builtin.bitXor ((x.toNat + 2 * s.toNat : Nat) : Int) ((y.toNat + 2 * r.toNat : Nat) : Int) ∧ Builtin.bitXor ((x.toNat + 2 * s.toNat : Nat) : Int) ((y.toNat + 2 * r.toNat : Nat) : Int) < 4) := by decide
/-- what a turn may know of its numbers -/
structure Known (N : Int) (x y : Int) : Prop where
  x0 : 0 ≤ x
  x1 : x < N
  y0 : 0 ≤ y
  y1 : y < N
  a0 : 0 ≤ Builtin.bitAnd x y
  a1 : Builtin.bitAnd x y ≤ x
  o0 : 0 ≤ Builtin.bitOr x y
  o1 : Builtin.bitOr x y < N
  e0 : 0 ≤ Builtin.bitXor x y
  e1 : Builtin.bitXor x y < N
theorem known1 (a b : Nat) : Known 2 (dg a 1) (dg b 1) := by
  have h1 := bR (a.testBit 8)
  have h2 := bR (b.testBit 8)
  have h3 := oR (a.testBit 8) (b.testBit 8)
  exact ⟨h1.1, h1.2, h2.1, h2.2, h3.1.1, h3.1.2, h3.2.1.1, h3.2.1.2, h3.2.2.1, h3.2.2.2⟩
theorem known2 (a b : Nat) : Known 2 (dg a 2) (dg b 2) := by
  have h1 := bR (a.testBit 7)
  have h2 := bR (b.testBit 7)
  have h3 := oR (a.testBit 7) (b.testBit 7)
  exact ⟨h1.1, h1.2, h2.1, h2.2, h3.1.1, h3.1.2, h3.2.1.1, h3.2.1.2, h3.2.2.1, h3.2.2.2⟩
theorem known3 (a b : Nat) : Known 4 (dg a 3) (dg b 3) := by
  have h1 := bX (a.testBit 6) (a.testBit 11)
  have h2 := bX (b.testBit 6) (b.testBit 11)
  have h3 := oX (a.testBit 6) (a.testBit 11) (b.testBit 6) (b.testBit 11)
  exact ⟨h1.1, h1.2, h2.1, h2.2, h3.1.1, h3.1.2, h3.2.1.1, h3.2.1.2, h3.2.2.1, h3.2.2.2⟩
theorem known4 (a b : Nat) : Known 2 (dg a 4) (dg b 4) := by
  have h1 := bR (a.testBit 5)
  have h2 := bR (b.testBit 5)
  have h3 := oR (a.testBit 5) (b.testBit 5)
  exact ⟨h1.1, h1.2, h2.1, h2.2, h3.1.1, h3.1.2, h3.2.1.1, h3.2.1.2, h3.2.2.1, h3.2.2.2⟩
theorem known5 (a b : Nat) : Known 2 (dg a 5) (dg b 5) := by
  have h1 := bR (a.testBit 4)
  have h2 := bR (b.testBit 4)
  have h3 := oR (a.testBit 4) (b.testBit 4)
  exact ⟨h1.1, h1.2, h2.1, h2.2, h3.1.1, h3.1.2, h3.2.1.1, h3.2.1.2, h3.2.2.1, h3.2.2.2⟩
theorem known6 (a b : Nat) : Known 4 (dg a 6) (dg b 6) := by
  have h1 := bX (a.testBit 3) (a.testBit 10)
  have h2 := bX (b.testBit 3) (b.testBit 10)
  have h3 := oX (a.testBit 3) (a.testBit 10) (b.testBit 3) (b.testBit 10)
  exact ⟨h1.1, h1.2, h2.1, h2.2, h3.1.1, h3.1.2, h3.2.1.1, h3.2.1.2, h3.2.2.1, h3.2.2.2⟩
theorem known7 (a b : Nat) : Known 2 (dg a 7) (dg b 7) := by
  have h1 := bR (a.testBit 2)
  have h2 := bR (b.testBit 2)
  have h3 := oR (a.testBit 2) (b.testBit 2)
  exact ⟨h1.1, h1.2, h2.1, h2.2, h3.1.1, h3.1.2, h3.2.1.1, h3.2.1.2, h3.2.2.1, h3.2.2.2⟩
theorem known8 (a b : Nat) : Known 2 (dg a 8) (dg b 8) := by
  have h1 := bR (a.testBit 1)
  have h2 := bR (b.testBit 1)
  have h3 := oR (a.testBit 1) (b.testBit 1)
  exact ⟨h1.1, h1.2, h2.1, h2.2, h3.1.1, h3.1.2, h3.2.1.1, h3.2.1.2, h3.2.2.1, h3.2.2.2⟩
theorem known9 (a b : Nat) : Known 4 (dg a 9) (dg b 9) := by
  have h1 := bX (a.testBit 0) (a.testBit 9)
  have h2 := bX (b.testBit 0) (b.testBit 9)
  have h3 := oX (a.testBit 0) (a.testBit 9) (b.testBit 0) (b.testBit 9)
  exact ⟨h1.1, h1.2, h2.1, h2.2, h3.1.1, h3.1.2, h3.2.1.1, h3.2.1.2, h3.2.2.1, h3.2.2.2⟩

theorem nb0 (a b : Nat) {i : Nat} (hi : i < 12) : (newOf 0 a b).testBit i = (a.testBit i && b.testBit i) := by
  rw [newOf_bit hi]
  have e : Nat.testBit 4095 i = true := by rw [show (4095 : Nat) = 2 ^ 12 - 1 from rfl, Nat.testBit_two_pow_sub_one]; simpa using hi
  simp [rightsOf, e]
theorem nb1 (a b : Nat) {i : Nat} (hi : i < 12) : (newOf 1 a b).testBit i = (a.testBit i || b.testBit i) := by
  rw [newOf_bit hi]
  have e : Nat.testBit 4095 i = true := by rw [show (4095 : Nat) = 2 ^ 12 - 1 from rfl, Nat.testBit_two_pow_sub_one]; simpa using hi
  simp [rightsOf, e]
theorem nb2 (a b : Nat) {i : Nat} (hi : i < 12) : (newOf 2 a b).testBit i = (a.testBit i ^^ b.testBit i) := by
  rw [newOf_bit hi]
  have e : Nat.testBit 4095 i = true := by rw [show (4095 : Nat) = 2 ^ 12 - 1 from rfl, Nat.testBit_two_pow_sub_one]; simpa using hi
  simp [rightsOf, e]
theorem nb3 (a b : Nat) {i : Nat} (hi : i < 12) : (newOf 3 a b).testBit i = (a.testBit i && !b.testBit i) := by
  rw [newOf_bit hi]
  have e : Nat.testBit 4095 i = true := by rw [show (4095 : Nat) = 2 ^ 12 - 1 from rfl, Nat.testBit_two_pow_sub_one]; simpa using hi
  simp [rightsOf, e]
theorem nb4 (a b : Nat) {i : Nat} (hi : i < 12) : (newOf 4 a b).testBit i = !a.testBit i := by
  rw [newOf_bit hi]
  have e : Nat.testBit 4095 i = true := by rw [show (4095 : Nat) = 2 ^ 12 - 1 from rfl, Nat.testBit_two_pow_sub_one]; simpa using hi
  simp [rightsOf, e]
theorem nb6 (a b : Nat) {i : Nat} (hi : i < 12) : (newOf 6 a b).testBit i = a.testBit i := by
  rw [newOf_bit hi]
  have e : Nat.testBit 4095 i = true := by rw [show (4095 : Nat) = 2 ^ 12 - 1 from rfl, Nat.testBit_two_pow_sub_one]; simpa using hi
  simp [rightsOf, e]
theorem nb5 (a b : Nat) {i : Nat} (hi : i < 12) (h3 : 3 ≤ i) : (newOf 5 a b).testBit i = a.testBit i := by
  rw [newOf_bit hi]
  have e : Nat.testBit 4095 i = true := by rw [show (4095 : Nat) = 2 ^ 12 - 1 from rfl, Nat.testBit_two_pow_sub_one]; simpa using hi
  have e2 : Nat.testBit 4088 i = true := by rw [show (4088 : Nat) = 2 ^ 3 * (2 ^ 9 - 1) from rfl, Nat.testBit_two_pow_mul, Nat.testBit_two_pow_sub_one]; simp; omega
  have e3 : Nat.testBit 448 (6 + i) = false := Nat.testBit_lt_two_pow (Nat.lt_of_lt_of_le (by decide : 448 < 2 ^ 9) (Nat.pow_le_pow_right (by decide) (by omega)))
  simp [rightsOf, e, e2, e3, Nat.testBit_shiftRight]
theorem nb5l (a b : Nat) {i : Nat} (hi : i < 3) : (newOf 5 a b).testBit i = a.testBit (6 + i) := by
  rw [newOf_bit (by omega)]
  have e : Nat.testBit 4095 i = true := by rw [show (4095 : Nat) = 2 ^ 12 - 1 from rfl, Nat.testBit_two_pow_sub_one]; simp; omega
  have e' : Nat.testBit 4095 (6 + i) = true := by rw [show (4095 : Nat) = 2 ^ 12 - 1 from rfl, Nat.testBit_two_pow_sub_one]; simp; omega
  have e2 : Nat.testBit 4088 i = false := by rw [show (4088 : Nat) = 2 ^ 3 * (2 ^ 9 - 1) from rfl, Nat.testBit_two_pow_mul]; simp; omega
  have e3 : Nat.testBit 448 (6 + i) = true := by rw [show (448 : Nat) = 2 ^ 6 * (2 ^ 3 - 1) from rfl, Nat.testBit_two_pow_mul, Nat.testBit_two_pow_sub_one]; simp; omega
  simp [rightsOf, e', e2, e3, Nat.testBit_shiftRight]
theorem nk {d a b : Nat} (hd : d ≤ 5) : signAt (newOf d a b) 0 = signAt a 0 := by
  show kindC (newOf d a b / 4096) = kindC (a / 4096)
  rw [newOf_kind]; simp [kindOfN, hd]
theorem nk6 {a b : Nat} : signAt (newOf 6 a b) 0 = signAt b 0 := by
  show kindC (newOf 6 a b / 4096) = kindC (b / 4096)
  rw [newOf_kind]; simp [kindOfN]
/-- a row's beginning -/
def rowPre (n : Nat) : Nat → Str
  | 0 => ⟨#[signAt n 0]⟩
  | i + 1 => rowPre n i ++ ⟨#[signAt n (i + 1)]⟩
theorem rowPre_all (n : Nat) : rowPre n 9 = rowOf n := rfl

theorem c0R : ∀ x y : Bool, Txt.item (Str.ofString "-r") (Builtin.bitAnd ((x.toNat : Nat) : Int) ((y.toNat : Nat) : Int)) = ⟨#[cR (x && y)]⟩ := by decide +kernel
theorem c0W : ∀ x y : Bool, Txt.item (Str.ofString "-w") (Builtin.bitAnd ((x.toNat : Nat) : Int) ((y.toNat : Nat) : Int)) = ⟨#[cW (x && y)]⟩ := by decide +kernel
theorem c0X : ∀ x s y r : Bool, Txt.item (Str.ofString "-xSs") (Builtin.bitAnd ((x.toNat + 2 * s.toNat : Nat) : Int) ((y.toNat + 2 * r.toNat : Nat) : Int)) = ⟨#[cX (x && y) (s && r)]⟩ := by decide +kernel
theorem c0T : ∀ x s y r : Bool, Txt.item (Str.ofString "-xTt") (Builtin.bitAnd ((x.toNat + 2 * s.toNat : Nat) : Int) ((y.toNat + 2 * r.toNat : Nat) : Int)) = ⟨#[cT (x && y) (s && r)]⟩ := by decide +kernel
theorem c1R : ∀ x y : Bool, Txt.item (Str.ofString "-r") (Builtin.bitOr ((x.toNat : Nat) : Int) ((y.toNat : Nat) : Int)) = ⟨#[cR (x || y)]⟩ := by decide +kernel
theorem c1W : ∀ x y : Bool, Txt.item (Str.ofString "-w") (Builtin.bitOr ((x.toNat : Nat) : Int) ((y.toNat : Nat) : Int)) = ⟨#[cW (x || y)]⟩ := by decide +kernel
theorem c1X : ∀ x s y r : Bool, Txt.item (Str.ofString "-xSs") (Builtin.bitOr ((x.toNat + 2 * s.toNat : Nat) : Int) ((y.toNat + 2 * r.toNat : Nat) : Int)) = ⟨#[cX (x || y) (s || r)]⟩ := by decide +kernel
theorem c1T : ∀ x s y r : Bool, Txt.item (Str.ofString "-xTt") (Builtin.bitOr ((x.toNat + 2 * s.toNat : Nat) : Int) ((y.toNat + 2 * r.toNat : Nat) : Int)) = ⟨#[cT (x || y) (s || r)]⟩ := by decide +kernel
theorem c2R : ∀ x y : Bool, Txt.item (Str.ofString "-r") (Builtin.bitXor ((x.toNat : Nat) : Int) ((y.toNat : Nat) : Int)) = ⟨#[cR (x ^^ y)]⟩ := by decide +kernel
theorem c2W : ∀ x y : Bool, Txt.item (Str.ofString "-w") (Builtin.bitXor ((x.toNat : Nat) : Int) ((y.toNat : Nat) : Int)) = ⟨#[cW (x ^^ y)]⟩ := by decide +kernel
theorem c2X : ∀ x s y r : Bool, Txt.item (Str.ofString "-xSs") (Builtin.bitXor ((x.toNat + 2 * s.toNat : Nat) : Int) ((y.toNat + 2 * r.toNat : Nat) : Int)) = ⟨#[cX (x ^^ y) (s ^^ r)]⟩ := by decide +kernel
theorem c2T : ∀ x s y r : Bool, Txt.item (Str.ofString "-xTt") (Builtin.bitXor ((x.toNat + 2 * s.toNat : Nat) : Int) ((y.toNat + 2 * r.toNat : Nat) : Int)) = ⟨#[cT (x ^^ y) (s ^^ r)]⟩ := by decide +kernel
theorem c3R : ∀ x y : Bool, Txt.item (Str.ofString "-r") (((x.toNat : Nat) : Int) - Builtin.bitAnd ((x.toNat : Nat) : Int) ((y.toNat : Nat) : Int)) = ⟨#[cR (x && !y)]⟩ := by decide +kernel
theorem c3W : ∀ x y : Bool, Txt.item (Str.ofString "-w") (((x.toNat : Nat) : Int) - Builtin.bitAnd ((x.toNat : Nat) : Int) ((y.toNat : Nat) : Int)) = ⟨#[cW (x && !y)]⟩ := by decide +kernel
theorem c3X : ∀ x s y r : Bool, Txt.item (Str.ofString "-xSs") (((x.toNat + 2 * s.toNat : Nat) : Int) - Builtin.bitAnd ((x.toNat + 2 * s.toNat : Nat) : Int) ((y.toNat + 2 * r.toNat : Nat) : Int)) = ⟨#[cX (x && !y) (s && !r)]⟩ := by decide +kernel
theorem c3T : ∀ x s y r : Bool, Txt.item (Str.ofString "-xTt") (((x.toNat + 2 * s.toNat : Nat) : Int) - Builtin.bitAnd ((x.toNat + 2 * s.toNat : Nat) : Int) ((y.toNat + 2 * r.toNat : Nat) : Int)) = ⟨#[cT (x && !y) (s && !r)]⟩ := by decide +kernel
theorem c4R : ∀ x y : Bool, Txt.item (Str.ofString "-r") ((2 : Int) - 1 - ((x.toNat : Nat) : Int)) = ⟨#[cR (!x)]⟩ := by decide +kernel
theorem c4W : ∀ x y : Bool, Txt.item (Str.ofString "-w") ((2 : Int) - 1 - ((x.toNat : Nat) : Int)) = ⟨#[cW (!x)]⟩ := by decide +kernel
theorem c4X : ∀ x s y r : Bool, Txt.item (Str.ofString "-xSs") ((4 : Int) - 1 - ((x.toNat + 2 * s.toNat : Nat) : Int)) = ⟨#[cX (!x) (!s)]⟩ := by decide +kernel
theorem c4T : ∀ x s y r : Bool, Txt.item (Str.ofString "-xTt") ((4 : Int) - 1 - ((x.toNat + 2 * s.toNat : Nat) : Int)) = ⟨#[cT (!x) (!s)]⟩ := by decide +kernel
theorem sg0_1 (a b : Nat) : Txt.item (Str.ofString "-r") (Builtin.bitAnd (dg a 1) (dg b 1)) = ⟨#[signAt (newOf 0 a b) 1]⟩ := by
  have q : signAt (newOf 0 a b) 1 = cR ((newOf 0 a b).testBit 8) := rfl
  rw [q, nb0 a b (by decide : 8 < 12)]
  exact c0R (a.testBit 8) (b.testBit 8)
theorem sg0_2 (a b : Nat) : Txt.item (Str.ofString "-w") (Builtin.bitAnd (dg a 2) (dg b 2)) = ⟨#[signAt (newOf 0 a b) 2]⟩ := by
  have q : signAt (newOf 0 a b) 2 = cW ((newOf 0 a b).testBit 7) := rfl
  rw [q, nb0 a b (by decide : 7 < 12)]
  exact c0W (a.testBit 7) (b.testBit 7)
theorem sg0_3 (a b : Nat) : Txt.item (Str.ofString "-xSs") (Builtin.bitAnd (dg a 3) (dg b 3)) = ⟨#[signAt (newOf 0 a b) 3]⟩ := by
  have q : signAt (newOf 0 a b) 3 = cX ((newOf 0 a b).testBit 6) ((newOf 0 a b).testBit 11) := rfl
  rw [q, nb0 a b (by decide : 6 < 12), nb0 a b (by decide : 11 < 12)]
  exact c0X (a.testBit 6) (a.testBit 11) (b.testBit 6) (b.testBit 11)
theorem sg0_4 (a b : Nat) : Txt.item (Str.ofString "-r") (Builtin.bitAnd (dg a 4) (dg b 4)) = ⟨#[signAt (newOf 0 a b) 4]⟩ := by
  have q : signAt (newOf 0 a b) 4 = cR ((newOf 0 a b).testBit 5) := rfl
  rw [q, nb0 a b (by decide : 5 < 12)]
  exact c0R (a.testBit 5) (b.testBit 5)
theorem sg0_5 (a b : Nat) : Txt.item (Str.ofString "-w") (Builtin.bitAnd (dg a 5) (dg b 5)) = ⟨#[signAt (newOf 0 a b) 5]⟩ := by
  have q : signAt (newOf 0 a b) 5 = cW ((newOf 0 a b).testBit 4) := rfl
  rw [q, nb0 a b (by decide : 4 < 12)]
  exact c0W (a.testBit 4) (b.testBit 4)
theorem sg0_6 (a b : Nat) : Txt.item (Str.ofString "-xSs") (Builtin.bitAnd (dg a 6) (dg b 6)) = ⟨#[signAt (newOf 0 a b) 6]⟩ := by
  have q : signAt (newOf 0 a b) 6 = cX ((newOf 0 a b).testBit 3) ((newOf 0 a b).testBit 10) := rfl
  rw [q, nb0 a b (by decide : 3 < 12), nb0 a b (by decide : 10 < 12)]
  exact c0X (a.testBit 3) (a.testBit 10) (b.testBit 3) (b.testBit 10)
theorem sg0_7 (a b : Nat) : Txt.item (Str.ofString "-r") (Builtin.bitAnd (dg a 7) (dg b 7)) = ⟨#[signAt (newOf 0 a b) 7]⟩ := by
  have q : signAt (newOf 0 a b) 7 = cR ((newOf 0 a b).testBit 2) := rfl
  rw [q, nb0 a b (by decide : 2 < 12)]
  exact c0R (a.testBit 2) (b.testBit 2)
theorem sg0_8 (a b : Nat) : Txt.item (Str.ofString "-w") (Builtin.bitAnd (dg a 8) (dg b 8)) = ⟨#[signAt (newOf 0 a b) 8]⟩ := by
  have q : signAt (newOf 0 a b) 8 = cW ((newOf 0 a b).testBit 1) := rfl
  rw [q, nb0 a b (by decide : 1 < 12)]
  exact c0W (a.testBit 1) (b.testBit 1)
theorem sg0_9 (a b : Nat) : Txt.item (Str.ofString "-xTt") (Builtin.bitAnd (dg a 9) (dg b 9)) = ⟨#[signAt (newOf 0 a b) 9]⟩ := by
  have q : signAt (newOf 0 a b) 9 = cT ((newOf 0 a b).testBit 0) ((newOf 0 a b).testBit 9) := rfl
  rw [q, nb0 a b (by decide : 0 < 12), nb0 a b (by decide : 9 < 12)]
  exact c0T (a.testBit 0) (a.testBit 9) (b.testBit 0) (b.testBit 9)
theorem sg1_1 (a b : Nat) : Txt.item (Str.ofString "-r") (Builtin.bitOr (dg a 1) (dg b 1)) = ⟨#[signAt (newOf 1 a b) 1]⟩ := by
  have q : signAt (newOf 1 a b) 1 = cR ((newOf 1 a b).testBit 8) := rfl
  rw [q, nb1 a b (by decide : 8 < 12)]
  exact c1R (a.testBit 8) (b.testBit 8)
theorem sg1_2 (a b : Nat) : Txt.item (Str.ofString "-w") (Builtin.bitOr (dg a 2) (dg b 2)) = ⟨#[signAt (newOf 1 a b) 2]⟩ := by
  have q : signAt (newOf 1 a b) 2 = cW ((newOf 1 a b).testBit 7) := rfl
  rw [q, nb1 a b (by decide : 7 < 12)]
  exact c1W (a.testBit 7) (b.testBit 7)
theorem sg1_3 (a b : Nat) : Txt.item (Str.ofString "-xSs") (Builtin.bitOr (dg a 3) (dg b 3)) = ⟨#[signAt (newOf 1 a b) 3]⟩ := by
  have q : signAt (newOf 1 a b) 3 = cX ((newOf 1 a b).testBit 6) ((newOf 1 a b).testBit 11) := rfl
  rw [q, nb1 a b (by decide : 6 < 12), nb1 a b (by decide : 11 < 12)]
  exact c1X (a.testBit 6) (a.testBit 11) (b.testBit 6) (b.testBit 11)
theorem sg1_4 (a b : Nat) : Txt.item (Str.ofString "-r") (Builtin.bitOr (dg a 4) (dg b 4)) = ⟨#[signAt (newOf 1 a b) 4]⟩ := by
  have q : signAt (newOf 1 a b) 4 = cR ((newOf 1 a b).testBit 5) := rfl
  rw [q, nb1 a b (by decide : 5 < 12)]
  exact c1R (a.testBit 5) (b.testBit 5)
theorem sg1_5 (a b : Nat) : Txt.item (Str.ofString "-w") (Builtin.bitOr (dg a 5) (dg b 5)) = ⟨#[signAt (newOf 1 a b) 5]⟩ := by
  have q : signAt (newOf 1 a b) 5 = cW ((newOf 1 a b).testBit 4) := rfl
  rw [q, nb1 a b (by decide : 4 < 12)]
  exact c1W (a.testBit 4) (b.testBit 4)
theorem sg1_6 (a b : Nat) : Txt.item (Str.ofString "-xSs") (Builtin.bitOr (dg a 6) (dg b 6)) = ⟨#[signAt (newOf 1 a b) 6]⟩ := by
  have q : signAt (newOf 1 a b) 6 = cX ((newOf 1 a b).testBit 3) ((newOf 1 a b).testBit 10) := rfl
  rw [q, nb1 a b (by decide : 3 < 12), nb1 a b (by decide : 10 < 12)]
  exact c1X (a.testBit 3) (a.testBit 10) (b.testBit 3) (b.testBit 10)
theorem sg1_7 (a b : Nat) : Txt.item (Str.ofString "-r") (Builtin.bitOr (dg a 7) (dg b 7)) = ⟨#[signAt (newOf 1 a b) 7]⟩ := by
  have q : signAt (newOf 1 a b) 7 = cR ((newOf 1 a b).testBit 2) := rfl
  rw [q, nb1 a b (by decide : 2 < 12)]
  exact c1R (a.testBit 2) (b.testBit 2)
theorem sg1_8 (a b : Nat) : Txt.item (Str.ofString "-w") (Builtin.bitOr (dg a 8) (dg b 8)) = ⟨#[signAt (newOf 1 a b) 8]⟩ := by
  have q : signAt (newOf 1 a b) 8 = cW ((newOf 1 a b).testBit 1) := rfl
  rw [q, nb1 a b (by decide : 1 < 12)]
  exact c1W (a.testBit 1) (b.testBit 1)
theorem sg1_9 (a b : Nat) : Txt.item (Str.ofString "-xTt") (Builtin.bitOr (dg a 9) (dg b 9)) = ⟨#[signAt (newOf 1 a b) 9]⟩ := by
  have q : signAt (newOf 1 a b) 9 = cT ((newOf 1 a b).testBit 0) ((newOf 1 a b).testBit 9) := rfl
  rw [q, nb1 a b (by decide : 0 < 12), nb1 a b (by decide : 9 < 12)]
  exact c1T (a.testBit 0) (a.testBit 9) (b.testBit 0) (b.testBit 9)
theorem sg2_1 (a b : Nat) : Txt.item (Str.ofString "-r") (Builtin.bitXor (dg a 1) (dg b 1)) = ⟨#[signAt (newOf 2 a b) 1]⟩ := by
  have q : signAt (newOf 2 a b) 1 = cR ((newOf 2 a b).testBit 8) := rfl
  rw [q, nb2 a b (by decide : 8 < 12)]
  exact c2R (a.testBit 8) (b.testBit 8)
theorem sg2_2 (a b : Nat) : Txt.item (Str.ofString "-w") (Builtin.bitXor (dg a 2) (dg b 2)) = ⟨#[signAt (newOf 2 a b) 2]⟩ := by
  have q : signAt (newOf 2 a b) 2 = cW ((newOf 2 a b).testBit 7) := rfl
  rw [q, nb2 a b (by decide : 7 < 12)]
  exact c2W (a.testBit 7) (b.testBit 7)
theorem sg2_3 (a b : Nat) : Txt.item (Str.ofString "-xSs") (Builtin.bitXor (dg a 3) (dg b 3)) = ⟨#[signAt (newOf 2 a b) 3]⟩ := by
  have q : signAt (newOf 2 a b) 3 = cX ((newOf 2 a b).testBit 6) ((newOf 2 a b).testBit 11) := rfl
  rw [q, nb2 a b (by decide : 6 < 12), nb2 a b (by decide : 11 < 12)]
  exact c2X (a.testBit 6) (a.testBit 11) (b.testBit 6) (b.testBit 11)
theorem sg2_4 (a b : Nat) : Txt.item (Str.ofString "-r") (Builtin.bitXor (dg a 4) (dg b 4)) = ⟨#[signAt (newOf 2 a b) 4]⟩ := by
  have q : signAt (newOf 2 a b) 4 = cR ((newOf 2 a b).testBit 5) := rfl
  rw [q, nb2 a b (by decide : 5 < 12)]
  exact c2R (a.testBit 5) (b.testBit 5)
theorem sg2_5 (a b : Nat) : Txt.item (Str.ofString "-w") (Builtin.bitXor (dg a 5) (dg b 5)) = ⟨#[signAt (newOf 2 a b) 5]⟩ := by
  have q : signAt (newOf 2 a b) 5 = cW ((newOf 2 a b).testBit 4) := rfl
  rw [q, nb2 a b (by decide : 4 < 12)]
  exact c2W (a.testBit 4) (b.testBit 4)
theorem sg2_6 (a b : Nat) : Txt.item (Str.ofString "-xSs") (Builtin.bitXor (dg a 6) (dg b 6)) = ⟨#[signAt (newOf 2 a b) 6]⟩ := by
  have q : signAt (newOf 2 a b) 6 = cX ((newOf 2 a b).testBit 3) ((newOf 2 a b).testBit 10) := rfl
  rw [q, nb2 a b (by decide : 3 < 12), nb2 a b (by decide : 10 < 12)]
  exact c2X (a.testBit 3) (a.testBit 10) (b.testBit 3) (b.testBit 10)
theorem sg2_7 (a b : Nat) : Txt.item (Str.ofString "-r") (Builtin.bitXor (dg a 7) (dg b 7)) = ⟨#[signAt (newOf 2 a b) 7]⟩ := by
  have q : signAt (newOf 2 a b) 7 = cR ((newOf 2 a b).testBit 2) := rfl
  rw [q, nb2 a b (by decide : 2 < 12)]
  exact c2R (a.testBit 2) (b.testBit 2)
theorem sg2_8 (a b : Nat) : Txt.item (Str.ofString "-w") (Builtin.bitXor (dg a 8) (dg b 8)) = ⟨#[signAt (newOf 2 a b) 8]⟩ := by
  have q : signAt (newOf 2 a b) 8 = cW ((newOf 2 a b).testBit 1) := rfl
  rw [q, nb2 a b (by decide : 1 < 12)]
  exact c2W (a.testBit 1) (b.testBit 1)
theorem sg2_9 (a b : Nat) : Txt.item (Str.ofString "-xTt") (Builtin.bitXor (dg a 9) (dg b 9)) = ⟨#[signAt (newOf 2 a b) 9]⟩ := by
  have q : signAt (newOf 2 a b) 9 = cT ((newOf 2 a b).testBit 0) ((newOf 2 a b).testBit 9) := rfl
  rw [q, nb2 a b (by decide : 0 < 12), nb2 a b (by decide : 9 < 12)]
  exact c2T (a.testBit 0) (a.testBit 9) (b.testBit 0) (b.testBit 9)
theorem sg3_1 (a b : Nat) : Txt.item (Str.ofString "-r") ((dg a 1) - Builtin.bitAnd (dg a 1) (dg b 1)) = ⟨#[signAt (newOf 3 a b) 1]⟩ := by
  have q : signAt (newOf 3 a b) 1 = cR ((newOf 3 a b).testBit 8) := rfl
  rw [q, nb3 a b (by decide : 8 < 12)]
  exact c3R (a.testBit 8) (b.testBit 8)
theorem sg3_2 (a b : Nat) : Txt.item (Str.ofString "-w") ((dg a 2) - Builtin.bitAnd (dg a 2) (dg b 2)) = ⟨#[signAt (newOf 3 a b) 2]⟩ := by
  have q : signAt (newOf 3 a b) 2 = cW ((newOf 3 a b).testBit 7) := rfl
  rw [q, nb3 a b (by decide : 7 < 12)]
  exact c3W (a.testBit 7) (b.testBit 7)
theorem sg3_3 (a b : Nat) : Txt.item (Str.ofString "-xSs") ((dg a 3) - Builtin.bitAnd (dg a 3) (dg b 3)) = ⟨#[signAt (newOf 3 a b) 3]⟩ := by
  have q : signAt (newOf 3 a b) 3 = cX ((newOf 3 a b).testBit 6) ((newOf 3 a b).testBit 11) := rfl
  rw [q, nb3 a b (by decide : 6 < 12), nb3 a b (by decide : 11 < 12)]
  exact c3X (a.testBit 6) (a.testBit 11) (b.testBit 6) (b.testBit 11)
theorem sg3_4 (a b : Nat) : Txt.item (Str.ofString "-r") ((dg a 4) - Builtin.bitAnd (dg a 4) (dg b 4)) = ⟨#[signAt (newOf 3 a b) 4]⟩ := by
  have q : signAt (newOf 3 a b) 4 = cR ((newOf 3 a b).testBit 5) := rfl
  rw [q, nb3 a b (by decide : 5 < 12)]
  exact c3R (a.testBit 5) (b.testBit 5)
theorem sg3_5 (a b : Nat) : Txt.item (Str.ofString "-w") ((dg a 5) - Builtin.bitAnd (dg a 5) (dg b 5)) = ⟨#[signAt (newOf 3 a b) 5]⟩ := by
  have q : signAt (newOf 3 a b) 5 = cW ((newOf 3 a b).testBit 4) := rfl
  rw [q, nb3 a b (by decide : 4 < 12)]
  exact c3W (a.testBit 4) (b.testBit 4)
theorem sg3_6 (a b : Nat) : Txt.item (Str.ofString "-xSs") ((dg a 6) - Builtin.bitAnd (dg a 6) (dg b 6)) = ⟨#[signAt (newOf 3 a b) 6]⟩ := by
  have q : signAt (newOf 3 a b) 6 = cX ((newOf 3 a b).testBit 3) ((newOf 3 a b).testBit 10) := rfl
  rw [q, nb3 a b (by decide : 3 < 12), nb3 a b (by decide : 10 < 12)]
  exact c3X (a.testBit 3) (a.testBit 10) (b.testBit 3) (b.testBit 10)
theorem sg3_7 (a b : Nat) : Txt.item (Str.ofString "-r") ((dg a 7) - Builtin.bitAnd (dg a 7) (dg b 7)) = ⟨#[signAt (newOf 3 a b) 7]⟩ := by
  have q : signAt (newOf 3 a b) 7 = cR ((newOf 3 a b).testBit 2) := rfl
  rw [q, nb3 a b (by decide : 2 < 12)]
  exact c3R (a.testBit 2) (b.testBit 2)
theorem sg3_8 (a b : Nat) : Txt.item (Str.ofString "-w") ((dg a 8) - Builtin.bitAnd (dg a 8) (dg b 8)) = ⟨#[signAt (newOf 3 a b) 8]⟩ := by
  have q : signAt (newOf 3 a b) 8 = cW ((newOf 3 a b).testBit 1) := rfl
  rw [q, nb3 a b (by decide : 1 < 12)]
  exact c3W (a.testBit 1) (b.testBit 1)
theorem sg3_9 (a b : Nat) : Txt.item (Str.ofString "-xTt") ((dg a 9) - Builtin.bitAnd (dg a 9) (dg b 9)) = ⟨#[signAt (newOf 3 a b) 9]⟩ := by
  have q : signAt (newOf 3 a b) 9 = cT ((newOf 3 a b).testBit 0) ((newOf 3 a b).testBit 9) := rfl
  rw [q, nb3 a b (by decide : 0 < 12), nb3 a b (by decide : 9 < 12)]
  exact c3T (a.testBit 0) (a.testBit 9) (b.testBit 0) (b.testBit 9)
theorem sg4_1 (a b : Nat) : Txt.item (Str.ofString "-r") ((2 : Int) - 1 - (dg a 1)) = ⟨#[signAt (newOf 4 a b) 1]⟩ := by
  have q : signAt (newOf 4 a b) 1 = cR ((newOf 4 a b).testBit 8) := rfl
  rw [q, nb4 a b (by decide : 8 < 12)]
  exact c4R (a.testBit 8) (b.testBit 8)
theorem sg4_2 (a b : Nat) : Txt.item (Str.ofString "-w") ((2 : Int) - 1 - (dg a 2)) = ⟨#[signAt (newOf 4 a b) 2]⟩ := by
  have q : signAt (newOf 4 a b) 2 = cW ((newOf 4 a b).testBit 7) := rfl
  rw [q, nb4 a b (by decide : 7 < 12)]
  exact c4W (a.testBit 7) (b.testBit 7)
theorem sg4_3 (a b : Nat) : Txt.item (Str.ofString "-xSs") ((4 : Int) - 1 - (dg a 3)) = ⟨#[signAt (newOf 4 a b) 3]⟩ := by
  have q : signAt (newOf 4 a b) 3 = cX ((newOf 4 a b).testBit 6) ((newOf 4 a b).testBit 11) := rfl
  rw [q, nb4 a b (by decide : 6 < 12), nb4 a b (by decide : 11 < 12)]
  exact c4X (a.testBit 6) (a.testBit 11) (b.testBit 6) (b.testBit 11)
theorem sg4_4 (a b : Nat) : Txt.item (Str.ofString "-r") ((2 : Int) - 1 - (dg a 4)) = ⟨#[signAt (newOf 4 a b) 4]⟩ := by
  have q : signAt (newOf 4 a b) 4 = cR ((newOf 4 a b).testBit 5) := rfl
  rw [q, nb4 a b (by decide : 5 < 12)]
  exact c4R (a.testBit 5) (b.testBit 5)
theorem sg4_5 (a b : Nat) : Txt.item (Str.ofString "-w") ((2 : Int) - 1 - (dg a 5)) = ⟨#[signAt (newOf 4 a b) 5]⟩ := by
  have q : signAt (newOf 4 a b) 5 = cW ((newOf 4 a b).testBit 4) := rfl
  rw [q, nb4 a b (by decide : 4 < 12)]
  exact c4W (a.testBit 4) (b.testBit 4)
theorem sg4_6 (a b : Nat) : Txt.item (Str.ofString "-xSs") ((4 : Int) - 1 - (dg a 6)) = ⟨#[signAt (newOf 4 a b) 6]⟩ := by
  have q : signAt (newOf 4 a b) 6 = cX ((newOf 4 a b).testBit 3) ((newOf 4 a b).testBit 10) := rfl
  rw [q, nb4 a b (by decide : 3 < 12), nb4 a b (by decide : 10 < 12)]
  exact c4X (a.testBit 3) (a.testBit 10) (b.testBit 3) (b.testBit 10)
theorem sg4_7 (a b : Nat) : Txt.item (Str.ofString "-r") ((2 : Int) - 1 - (dg a 7)) = ⟨#[signAt (newOf 4 a b) 7]⟩ := by
  have q : signAt (newOf 4 a b) 7 = cR ((newOf 4 a b).testBit 2) := rfl
  rw [q, nb4 a b (by decide : 2 < 12)]
  exact c4R (a.testBit 2) (b.testBit 2)
theorem sg4_8 (a b : Nat) : Txt.item (Str.ofString "-w") ((2 : Int) - 1 - (dg a 8)) = ⟨#[signAt (newOf 4 a b) 8]⟩ := by
  have q : signAt (newOf 4 a b) 8 = cW ((newOf 4 a b).testBit 1) := rfl
  rw [q, nb4 a b (by decide : 1 < 12)]
  exact c4W (a.testBit 1) (b.testBit 1)
theorem sg4_9 (a b : Nat) : Txt.item (Str.ofString "-xTt") ((4 : Int) - 1 - (dg a 9)) = ⟨#[signAt (newOf 4 a b) 9]⟩ := by
  have q : signAt (newOf 4 a b) 9 = cT ((newOf 4 a b).testBit 0) ((newOf 4 a b).testBit 9) := rfl
  rw [q, nb4 a b (by decide : 0 < 12), nb4 a b (by decide : 9 < 12)]
  exact c4T (a.testBit 0) (a.testBit 9) (b.testBit 0) (b.testBit 9)
end Mine

-- Loops
namespace Mine
open PySem PySem.W PySem.Calls PyProof.Rows PyProof.V PySem.Spec
set_option maxRecDepth 100000

/-- what a turn leaves behind -/
def TEnd {σ : Type} (h₀ : Heap) (L : Addr) (Led : σ → List (Addr × Obj)) (Ps : σ → List (Str × Value)) (Inv : σ → Prop) (own : List (Addr × Obj)) (s₁ s₂ : Shared) : Prop :=
  ∃ c h' tk m' news', s₂ = { s₁ with heap := h', toks := tk } ∧ Fr h₀ L h' m' ∧ News h₀ L h' news' ∧ (∀ p ∈ Led c, p ∈ news') ∧ (∀ p ∈ own, p ∈ news') ∧ (∀ p ∈ Ps c, m' p.1 = some p.2) ∧ Inv c
def TPost {σ : Type} (h₀ : Heap) (L : Addr) (Led : σ → List (Addr × Obj)) (Ps : σ → List (Str × Value)) (Inv : σ → Prop) (own : List (Addr × Obj)) (s₁ : Shared) (Q : Flow → Shared → Prop) (f : Flow) (s₂ : Shared) : Prop :=
  match f with
  | .ret v => Q (.ret v) s₂
  | .brk => Q .next s₂
  | _ => TEnd h₀ L Led Ps Inv own s₁ s₂
theorem TEnd.intro {σ : Type} {h₀ : Heap} {L : Addr} {Led : σ → List (Addr × Obj)} {Ps : σ → List (Str × Value)} {Inv : σ → Prop} {own : List (Addr × Obj)} {s₁ : Shared} {h' : Heap} {tk : Nat} {m' : Str → Option Value} {news' : List (Addr × Obj)} (c : σ)
    (F : Fr h₀ L h' m') (N : News h₀ L h' news') (hl : ∀ p ∈ Led c, p ∈ news') (ho : ∀ p ∈ own, p ∈ news') (hp : ∀ p ∈ Ps c, m' p.1 = some p.2) (hi : Inv c) : TEnd h₀ L Led Ps Inv own s₁ { s₁ with heap := h', toks := tk } :=
  ⟨c, h', tk, m', news', rfl, F, N, hl, ho, hp, hi⟩

theorem kstB_self {m : Str → Option Value} {ps : List (Str × Value)} (h : ∀ p ∈ ps, m p.1 = some p.2) : kstB m ps = m := by
  funext z
  exact kstB_eq h fun _ => rfl

section
variable {prog : Program} {w : World} {A : Around} {E : Value → Shared → Prop} {s : Shared} {env : Env} {h₀ : Heap} {target : PySem.Expr} {body : List Stmt} {Q : Flow → Shared → Prop}

theorem turns_inv {σ : Type} {I : Addr} {fp wr : List Addr} {n : Nat} {P Md : Nat → Value → Heap → Prop} {St : Nat → Heap → Prop} {m₀ : Str → Option Value} {hp : Heap} {tk0 : Nat}
    (Led : σ → List (Addr × Obj)) (Ps : σ → List (Str × Value)) (Inv : Nat → σ → Prop) (adr : List Addr) (c₀ : σ)
    (W : KTurns prog w A target I fp wr n P Md St) (hL : env.locals ∉ fp) (hwr : ∀ b ∈ wr, h₀.get? b = none) (hadr : ∀ c, (Led c).map (·.1) = adr) (hoff : ∀ b ∈ fp, b ∉ adr)
    (hst : St 0 hp) (F : Fr h₀ env.locals hp m₀) (N : News h₀ env.locals hp (Led c₀)) (hk : ∀ p ∈ Ps c₀, m₀ p.1 = some p.2) (h0 : Inv 0 c₀)
    (turn : ∀ i c v h tk own u, i < n → P i v h → Inv i c → OwnOff own adr → Fr h₀ env.locals h (kstB u (Ps c)) → News h₀ env.locals h (Led c ++ own) →
      wpAny (model prog w) A (assign target env v) (fun _ s₃ => wpAny (model prog w) A (execs body env) (TPost h₀ env.locals Led Ps (Inv (i + 1)) own { s with heap := h, toks := tk } Q) E s₃) E { s with heap := h, toks := tk })
    (done : ∀ c h tk u, Inv n c → Fr h₀ env.locals h (kstB u (Ps c)) → News h₀ env.locals h (Led c) → Q .next { s with heap := h, toks := tk }) :
    TurnsAt prog w A h₀ env target body Q E (.ref I) { s with heap := hp, toks := tk0 } := by
  let J : Nat → (Str → Option Value) → List (Addr × Obj) → Prop := fun i m₁ news₁ => ∃ c, news₁ = Led c ∧ Inv i c ∧ ∀ p ∈ Ps c, m₁ p.1 = some p.2
  have hnot : ∀ c, ∀ p ∈ Led c, p.1 ∉ wr := fun c p hp hw => hoff p.1 (W.sub _ hw) (by rw [← hadr c]; exact List.mem_map.mpr ⟨p, hp, rfl⟩)
  refine ⟨I, fp, wr, n, P, Md, St, m₀, Led c₀, J, rfl, W, hL, hwr, hnot c₀, hst, F, N, ⟨c₀, rfl, h0, hk⟩, ?_, ?_⟩
  · rintro i v m₁ news₁ h₁ tk₁ own hin hPi ⟨c, rfl, hI, hm⟩ _ hown _ _ _ F₁ N₁
    have ho : OwnOff own adr := fun p hp b hb e => hoff p.1 (hown p hp) (e ▸ hb)
    have F₂ : Fr h₀ env.locals h₁ (kstB m₁ (Ps c)) := by rw [kstB_self hm]; exact F₁
    have N₂ : News h₀ env.locals h₁ (Led c ++ own) := fun p hp => N₁ p ((List.mem_append.mp hp).elim (fun h => List.mem_append.mpr (.inr h)) fun h => List.mem_append.mpr (.inl h))
    refine wpAny_mono (turn i c v h₁ tk₁ own m₁ hin hPi hI ho F₂ N₂) (fun _ s₂ h₂ => wpAny_mono h₂ (fun f s₃ p => ?_) fun _ _ e => e) fun _ _ e => e
    have fin : TEnd h₀ env.locals Led Ps (Inv (i + 1)) own { s with heap := h₁, toks := tk₁ } s₃ → LoopStepU h₀ env.locals wr own (J (i + 1)) { s with heap := h₁, toks := tk₁ } .next s₃ := by
      rintro ⟨c', h', tk', m', news', e, F', N', hl, ho', hp', hi'⟩
      refine ⟨rfl, h', tk', m', Led c', e, F', fun p hp => N' p ((List.mem_append.mp hp).elim (ho' p) (hl p)), hnot c', c', rfl, hi', hp'⟩
    cases f with
    | ret v => exact .ret p
    | brk => exact .brk p
    | next => exact .next (fin p)
    | cont => exact .cont (fin p)
  · rintro h' tk m' news' F' N' _ ⟨c, rfl, hI, hm⟩
    exact done c h' tk m' hI (by rw [kstB_self hm]; exact F') N'

/-- enumerate over a list that stands below the call (the script) -/
theorem enum_base {σ : Type} {elts : List PySem.Expr} {k : Nat} {pos : Pos} {l : Addr} {vs : List Value} {m₀ : Str → Option Value}
    (Led : σ → List (Addr × Obj)) (Ps : σ → List (Str × Value)) (Inv : Nat → σ → Prop) (adr : List Addr) (c₀ : σ)
    (hh : A.handled = none) (hl : h₀.IsList l vs.toArray) (F : Fr h₀ env.locals s.heap m₀) (N : News h₀ env.locals s.heap (Led c₀)) (hadr : ∀ c, (Led c).map (·.1) = adr)
    (hk : ∀ p ∈ Ps c₀, m₀ p.1 = some p.2) (h0 : Inv 0 c₀)
    (turn : ∀ (i : Nat) c x t T h tk own u, vs[i]? = some x → IsTup h T #[.int ((i : Nat) : Int) t, x] → Inv i c → OwnOff own adr → Fr h₀ env.locals h (kstB u (Ps c)) → News h₀ env.locals h (Led c ++ own) →
      wpAny (model prog w) A (assign (.Tuple elts k pos) env (.ref T)) (fun _ s₃ => wpAny (model prog w) A (execs body env) (TPost h₀ env.locals Led Ps (Inv (i + 1)) own { s with heap := h, toks := tk } Q) E s₃) E { s with heap := h, toks := tk })
    (done : ∀ c h tk u, Inv vs.length c → Fr h₀ env.locals h (kstB u (Ps c)) → News h₀ env.locals h (Led c) → Q .next { s with heap := h, toks := tk }) :
    wpAny (model prog w) A (call (.type "enumerate") [.ref l]) (fun xv s₁ => wpAny (model prog w) A (pyIter xv) (fun it s₂ => TurnsAt prog w A h₀ env (.Tuple elts k pos) body Q E it s₂) E s₁) E s := by
  have hls : s.heap.IsList l vs.toArray := hl.at fun o e => F.keep l o e
  obtain ⟨ol, hol, _⟩ := id hl
  have hlb : l < h₀.objs.size := Heap.lt_size hol
  obtain ⟨ol', hol', _⟩ := id hls
  have hlt : l < s.heap.objs.size := Heap.lt_size hol'
  have hLs : env.locals < s.heap.objs.size := F.ns.lt
  refine call_enumerate_list hls fun h' hE hI hsz hk' => ?_
  refine wpAny_pyIter_enum hE ?_
  refine turns_inv (tk0 := s.toks) Led Ps Inv adr c₀ (KTurns.ofWalksU (WalksT.enumerate hh (s.heap.objs.size + 1) s.heap.objs.size l (Nat.succ_ne_self _) (ktu_ne 1 hlt) (Nat.ne_of_lt hlt) vs.toArray).toU) ?_ ?_ hadr ?_ ⟨⟨.none, hE⟩, hI, hls.at fun o e => hk' l o e⟩ (F.keeps hk') (N.grown hk') hk h0 ?_ ?_
  · intro hI'
    have hb' : env.locals = s.heap.objs.size + 1 ∨ env.locals = s.heap.objs.size ∨ env.locals = l := by simpa using hI'
    rcases hb' with e | e | e
    · exact ktu_ne 1 hLs e
    · exact Nat.ne_of_lt hLs e
    · exact absurd hlb (Nat.not_lt.mpr (e ▸ F.above))
  · intro b hb
    have hb' : b = s.heap.objs.size + 1 ∨ b = s.heap.objs.size := by simpa using hb
    rcases hb' with rfl | rfl
    · exact ktu_new F (Nat.le_add_right _ _)
    · exact ktu_new F (Nat.le_refl _)
  · intro b hb ha
    rw [← hadr c₀] at ha
    obtain ⟨p, hp, rfl⟩ := List.mem_map.mp ha
    have hlp := Heap.lt_size (N p hp).1
    have hb' : p.1 = s.heap.objs.size + 1 ∨ p.1 = s.heap.objs.size ∨ p.1 = l := by simpa using hb
    rcases hb' with e | e | e
    · exact ktu_ne 1 hlp e
    · exact Nat.ne_of_lt hlp e
    · have h1 := (N p hp).2.2
      rw [e, hol] at h1
      cases h1
  · rintro i c v h tk own u hin ⟨T, vals, rfl, ⟨t, x, hx, rfl⟩, hT⟩ hI' ho F' N'
    exact turn i c x t T h tk own u (by simpa using hx) hT hI' ho F' N'
  · intro c h tk u hI' F' N'
    exact done c h tk u (by simpa using hI') F' N'

/-- a list of the ledger -/
theorem list_led {σ : Type} {x : Str} {px : Pos} {l : Addr} {vs : List Value} {nn : Nat} {m₀ : Str → Option Value} {news : List (Addr × Obj)}
    (Led : σ → List (Addr × Obj)) (Ps : σ → List (Str × Value)) (Inv : Nat → σ → Prop) (adr : List Addr) (c₀ : σ)
    (hh : A.handled = none) (F : Fr h₀ env.locals s.heap m₀) (N : News h₀ env.locals s.heap news) (hm : (l, listOf vs.toArray nn) ∈ news) (hsub : ∀ p ∈ Led c₀, p ∈ news) (hadr : ∀ c, (Led c).map (·.1) = adr) (hla : l ∉ adr)
    (hk : ∀ p ∈ Ps c₀, m₀ p.1 = some p.2) (h0 : Inv 0 c₀)
    (turn : ∀ i c v h tk own u, vs[i]? = some v → Inv i c → OwnOff own adr → Fr h₀ env.locals h (kstB u (Ps c)) → News h₀ env.locals h (Led c ++ own) →
      wpAny (model prog w) A (assign (.Name x px) env v) (fun _ s₃ => wpAny (model prog w) A (execs body env) (TPost h₀ env.locals Led Ps (Inv (i + 1)) own { s with heap := h, toks := tk } Q) E s₃) E { s with heap := h, toks := tk })
    (done : ∀ c h tk u, Inv vs.length c → Fr h₀ env.locals h (kstB u (Ps c)) → News h₀ env.locals h (Led c) → Q .next { s with heap := h, toks := tk }) :
    wpAny (model prog w) A (pyIter (.ref l)) (fun it s₂ => TurnsAt prog w A h₀ env (.Name x px) body Q E it s₂) E s := by
  have hax := N _ hm
  have hl : s.heap.IsList l vs.toArray := ⟨_, hax.1, rfl, nn, rfl⟩
  have hlt : l < s.heap.objs.size := Heap.lt_size hax.1
  have hne : l ≠ s.heap.objs.size := Nat.ne_of_lt hlt
  refine wpAny_pyIter_list hl ?_
  refine turns_inv (tk0 := s.toks) Led Ps Inv adr c₀ (KTurns.ofWalks (Walks.list hh s.heap.objs.size l hne vs.toArray) fun i v s Q E st q => ?_) ?_ ?_ hadr ?_
    ⟨⟨_, Heap.get?_push_size _ rfl, rfl, rfl⟩, hl.at fun o e => Heap.get?_push_of_some _ e⟩ (F.push _) (fun p hp => ⟨Heap.get?_push_of_some _ (N p (hsub p hp)).1, (N p (hsub p hp)).2⟩) hk h0 ?_ ?_
  · exact letGo_listiter st.1 q
  · intro hI'
    rcases List.mem_cons.mp hI' with e | e
    · exact absurd F.ns.lt (e ▸ Nat.lt_irrefl _)
    · exact hax.2.1 (List.mem_singleton.mp e).symm
  · intro b hb
    rw [List.mem_singleton.mp hb]
    exact next_is_new F
  · intro b hb ha
    rcases List.mem_cons.mp hb with e | e
    · rw [← hadr c₀] at ha
      obtain ⟨p, hp, rfl⟩ := List.mem_map.mp ha
      exact absurd (Heap.lt_size (N p (hsub p hp)).1) (e ▸ Nat.lt_irrefl _)
    · exact hla ((List.mem_singleton.mp e) ▸ ha)
  · intro i c v h tk own u hin hP hI' ho F' N'
    exact turn i c v h tk own u (by simpa using hP) hI' ho F' N'
  · intro c h tk u hI' F' N'
    exact done c h tk u (by simpa using hI') F' N'

/-- zip over two lists of the ledger -/
theorem zip_led {σ : Type} {elts : List PySem.Expr} {k : Nat} {pos : Pos} {l1 l2 : Addr} {xs ys : List Value} {n1 n2 : Nat} {m₀ : Str → Option Value} {news : List (Addr × Obj)}
    (Led : σ → List (Addr × Obj)) (Ps : σ → List (Str × Value)) (Inv : Nat → σ → Prop) (adr : List Addr) (c₀ : σ)
    (hh : A.handled = none) (F : Fr h₀ env.locals s.heap m₀) (N : News h₀ env.locals s.heap news) (hm1 : (l1, listOf xs.toArray n1) ∈ news) (hm2 : (l2, listOf ys.toArray n2) ∈ news) (hlen : xs.length = ys.length)
    (hsub : ∀ p ∈ Led c₀, p ∈ news) (hadr : ∀ c, (Led c).map (·.1) = adr) (hla1 : l1 ∉ adr) (hla2 : l2 ∉ adr)
    (hk : ∀ p ∈ Ps c₀, m₀ p.1 = some p.2) (h0 : Inv 0 c₀)
    (turn : ∀ i c x y T h tk own u, xs[i]? = some x → ys[i]? = some y → IsTup h T #[x, y] → Inv i c → OwnOff own adr → Fr h₀ env.locals h (kstB u (Ps c)) → News h₀ env.locals h (Led c ++ own) →
      wpAny (model prog w) A (assign (.Tuple elts k pos) env (.ref T)) (fun _ s₃ => wpAny (model prog w) A (execs body env) (TPost h₀ env.locals Led Ps (Inv (i + 1)) own { s with heap := h, toks := tk } Q) E s₃) E { s with heap := h, toks := tk })
    (done : ∀ c h tk u, Inv xs.length c → Fr h₀ env.locals h (kstB u (Ps c)) → News h₀ env.locals h (Led c) → Q .next { s with heap := h, toks := tk }) :
    wpAny (model prog w) A (call (.type "zip") [.ref l1, .ref l2]) (fun xv s₁ => wpAny (model prog w) A (pyIter xv) (fun it s₂ => TurnsAt prog w A h₀ env (.Tuple elts k pos) body Q E it s₂) E s₁) E s := by
  have hax1 := N _ hm1
  have hax2 := N _ hm2
  have hl1 : s.heap.IsList l1 xs.toArray := ⟨_, hax1.1, rfl, n1, rfl⟩
  have hl2 : s.heap.IsList l2 ys.toArray := ⟨_, hax2.1, rfl, n2, rfl⟩
  have hlt1 : l1 < s.heap.objs.size := Heap.lt_size hax1.1
  have hlt2 : l2 < s.heap.objs.size := Heap.lt_size hax2.1
  have hLs : env.locals < s.heap.objs.size := F.ns.lt
  have D : ZipApart (s.heap.objs.size + 4) (s.heap.objs.size + 2) (s.heap.objs.size + 3) s.heap.objs.size (s.heap.objs.size + 1) l1 l2 := ktu_apart _ _ _ hlt1 hlt2
  refine call_zip_2 hl1 hl2 fun h' hz hTI hTO hi1 hi2 hsz hk' => ?_
  refine wpAny_pyIter_zip hz ?_
  refine turns_inv (tk0 := s.toks) Led Ps Inv adr c₀ (KTurns.ofWalksU (WalksT.zip2 hh _ _ _ _ _ _ _ D xs.toArray ys.toArray).toU) ?_ ?_ hadr ?_
    ⟨hz, hTI, ⟨_, _, hTO⟩, hi1, hi2, hl1.at fun o e => hk' l1 o e, hl2.at fun o e => hk' l2 o e⟩ (F.keeps hk') (fun p hp => (N.grown hk') p (hsub p hp)) hk h0 ?_ ?_
  · intro hI'
    have hb' : env.locals = s.heap.objs.size + 4 ∨ env.locals = s.heap.objs.size + 2 ∨ env.locals = s.heap.objs.size + 3 ∨ env.locals = s.heap.objs.size ∨ env.locals = s.heap.objs.size + 1 ∨ env.locals = l1 ∨ env.locals = l2 := by simpa using hI'
    have n1 := hax1.2.1
    have n2 := hax2.2.1
    rcases hb' with e | e | e | e | e | e | e
    · exact ktu_ne 4 hLs e
    · exact ktu_ne 2 hLs e
    · exact ktu_ne 3 hLs e
    · exact Nat.ne_of_lt hLs e
    · exact ktu_ne 1 hLs e
    · exact n1 e.symm
    · exact n2 e.symm
  · intro b hb
    have hb' : b = s.heap.objs.size + 4 ∨ b = s.heap.objs.size + 3 ∨ b = s.heap.objs.size ∨ b = s.heap.objs.size + 1 := by simpa using hb
    rcases hb' with rfl | rfl | rfl | rfl
    · exact ktu_new F (Nat.le_add_right _ _)
    · exact ktu_new F (Nat.le_add_right _ _)
    · exact ktu_new F (Nat.le_refl _)
    · exact ktu_new F (Nat.le_add_right _ _)
  · intro b hb ha
    have hb' : b = s.heap.objs.size + 4 ∨ b = s.heap.objs.size + 2 ∨ b = s.heap.objs.size + 3 ∨ b = s.heap.objs.size ∨ b = s.heap.objs.size + 1 ∨ b = l1 ∨ b = l2 := by simpa using hb
    have hlp : b ∈ adr → b < s.heap.objs.size := by
      intro ha'
      rw [← hadr c₀] at ha'
      obtain ⟨p, hp, rfl⟩ := List.mem_map.mp ha'
      exact Heap.lt_size (N p (hsub p hp)).1
    have hlp' := hlp ha
    rcases hb' with e | e | e | e | e | e | e
    · exact ktu_ne 4 hlp' e
    · exact ktu_ne 2 hlp' e
    · exact ktu_ne 3 hlp' e
    · exact Nat.ne_of_lt hlp' e
    · exact ktu_ne 1 hlp' e
    · exact hla1 (e ▸ ha)
    · exact hla2 (e ▸ ha)
  · rintro i c v h tk own u hin ⟨T, vals, rfl, ⟨x, y, hx, hy, rfl⟩, hT⟩ hI' ho F' N'
    exact turn i c x y T h tk own u (by simpa using hx) (by simpa using hy) hT hI' ho F' N'
  · intro c h tk u hI' F' N'
    refine done c h tk u ?_ F' N'
    simpa [hlen] using hI'
end
end Mine

-- Zip3
namespace Mine
open PySem PySem.W PySem.Calls PyProof.Rows PyProof.V PySem.Spec
set_option maxRecDepth 100000

abbrev IsTrip (h : Heap) (T : Addr) (a b c : Value) : Prop := h.get? T = some { cls := .type "tuple", data := .seq #[a, b, c] }

theorem in1 {b B k : Nat} (hb : b ∈ [B]) (h : B ≠ k) : b ≠ k := by
  rw [List.mem_singleton.mp hb]; exact h
theorem in2 {b B l k : Nat} (hb : b ∈ [B, l]) (h : B ≠ k) (h2 : l ≠ k) : b ≠ k := by
  rcases List.mem_cons.mp hb with e | e
  · rw [e]; exact h
  · rw [List.mem_singleton.mp e]; exact h2

section
variable {prog : Program} {w : World} {A : Around} {E : Value → Shared → Prop} {s : Shared}

theorem upd_trip {T : Addr} {a b c x : Value} {k : Nat} {Q : Unit → Shared → Prop} (hT : IsTrip s.heap T a b c)
    (h : ∀ h', h'.get? T = some { cls := .type "tuple", data := .seq ((#[a, b, c] : Array Value).setIfInBounds k x) } → Heap.SameBut T s.heap h' → Q () { s with heap := h' }) :
    wpAny (model prog w) A (updateSeq T (·.setIfInBounds k x)) Q E s := by
  refine wpAny_updateSeq hT rfl (h _ ?_ (Heap.SameBut.update ..))
  rw [Heap.get?_update_self _ hT rfl]
  simp [Obj.mapSeq]

/-- one draw of a zip over three: the iterators at B, B + 1, B + 2; their tuple at B + 3, the owned tuple at B + 4, the zip at B + 5 -/
theorem zip3_next {B l n i : Nat} {P1 P2 P3 : Nat → Value → Prop} {S1 S2 S3 : Nat → Heap → Prop} {a b c : Value} {Q : Value → Shared → Prop}
    (D1 : Draws prog w A B [B, l] n P1 S1) (D2 : Draws prog w A (B + 1) [B + 1] n P2 S2) (D3 : Draws prog w A (B + 2) [B + 2] n P3 S3) (hl : l < B)
    (hz : IsZip s.heap (B + 5) (B + 3) (B + 4) .none) (hTI : IsTrip s.heap (B + 3) (.ref B) (.ref (B + 1)) (.ref (B + 2))) (hTO : IsTrip s.heap (B + 4) a b c)
    (s1 : S1 i s.heap) (s2 : S2 i s.heap) (s3 : S3 i s.heap) (hi : i < n)
    (hQ : ∀ x y v h' tk, P1 i x → P2 i y → P3 i v → IsZip h' (B + 5) (B + 3) (B + 4) (rawInt s.heap.objs.size) → IsTrip h' (B + 4) x y v → S1 (i + 1) h' → S2 (i + 1) h' → S3 (i + 1) h' →
      IsTrip h' s.heap.objs.size x y v → h'.objs.size = s.heap.objs.size + 1 → (∀ (d : Addr) o, d ≠ B → d ≠ B + 1 → d ≠ B + 2 → d ≠ B + 4 → d ≠ B + 5 → s.heap.get? d = some o → h'.get? d = some o) → Q (.ref s.heap.objs.size) { s with heap := h', toks := tk }) :
    wpAny (model prog w) A (Builtin.«zip.__next__» ⟨[.ref (B + 5)], []⟩) (fun fin s' => ∃ v, fin = .done (.ret v) ∧ Q v s') E s := by
  obtain ⟨hp, g, d, tk₀, os⟩ := s
  show wpAny _ _ (field (.ref (B + 5)) 2 >>= _) _ _ _
  refine wpAny_bind (wpAny_field hz rfl (x := .bool false) rfl ?_)
  show wpAny _ _ (field (.ref (B + 5)) 3 >>= _) _ _ _
  refine wpAny_bind (wpAny_field hz rfl (x := .ref (B + 3)) rfl ?_)
  refine wpAny_bind (wpAny_seqItems hTI rfl ?_)
  show wpAny _ _ (Builtin.SmallTypes.ownedTupleIsFree (.ref (B + 5)) >>= _) _ _ _
  refine wpAny_bind ?_
  unfold Builtin.SmallTypes.ownedTupleIsFree
  refine wpAny_bind (wpAny_field hz rfl (x := .none) rfl (wpAny_pure ?_))
  simp only [if_true]
  refine wpAny_bind (wpAny_rule ?_)
  refine wpAny_bind (wpAny_field hz rfl (x := .ref (B + 4)) rfl ?_)
  refine wpAny_bind (wpAny_setField_rec hz (by simp) fun h₁ hz₁ e₁ => ?_)
  replace hz₁ : IsZip h₁ (B + 5) (B + 3) (B + 4) .ellipsis := hz₁
  replace e₁ : Heap.SameBut (B + 5) hp h₁ := e₁
  refine wpAny_bind ?_
  simp only [List.zipIdx_cons, List.zipIdx_nil, List.forIn_cons, List.forIn_nil]
  have n1 : ∀ {x : Addr} {o : Obj}, x ≠ B + 5 → hp.get? x = some o → h₁.get? x = some o := fun hx e => e₁.extBut _ _ hx e
  have s1a : S1 i h₁ := D1.frame _ _ _ s1 fun b hb o e => n1 (in2 hb (by omega) (by omega)) e
  have s2a : S2 i h₁ := D2.frame _ _ _ s2 fun b hb o e => n1 (in1 hb (by omega)) e
  have s3a : S3 i h₁ := D3.frame _ _ _ s3 fun b hb o e => n1 (in1 hb (by omega)) e
  have hTOa : IsTrip h₁ (B + 4) a b c := n1 (by refine neN ?_; omega) hTO
  -- the first
  refine wpAny_bind (wpAny_bind (wpAny_onRaise ?_))
  show wpAny _ _ (Builtin.SmallTypes.nextOf (.ref B) >>= _) _ _ _
  refine wpAny_bind (D1.item i _ _ _ hi s1a fun x h₂ tk₂ hPx s1b e₂ => wpAny_pure ?_)
  replace e₂ : Heap.SameBut B h₁ h₂ := e₂
  have n2 : ∀ {x : Addr} {o : Obj}, x ≠ B → h₁.get? x = some o → h₂.get? x = some o := fun hx e => e₂.extBut _ _ hx e
  have hTOb : IsTrip h₂ (B + 4) a b c := n2 (by refine neN ?_; omega) hTOa
  refine wpAny_bind (wpAny_seqItems hTOb rfl ?_)
  refine wpAny_bind (upd_trip hTOb fun h₃ hTOc e₃ => ?_)
  replace hTOc : IsTrip h₃ (B + 4) x b c := hTOc
  replace e₃ : Heap.SameBut (B + 4) h₂ h₃ := e₃
  refine wpAny_bind (wpAny_letGo (wpAny_pure ?_))
  have n3 : ∀ {x : Addr} {o : Obj}, x ≠ B + 4 → h₂.get? x = some o → h₃.get? x = some o := fun hx e => e₃.extBut _ _ hx e
  have s2b : S2 i h₃ := D2.frame _ _ _ s2a fun b hb o e => n3 (in1 hb (by omega)) (n2 (in1 hb (by omega)) e)
  -- the second
  refine wpAny_bind (wpAny_bind (wpAny_onRaise ?_))
  show wpAny _ _ (Builtin.SmallTypes.nextOf (.ref (B + 1)) >>= _) _ _ _
  refine wpAny_bind (D2.item i _ _ _ hi s2b fun y h₄ tk₄ hPy s2c e₄ => wpAny_pure ?_)
  replace e₄ : Heap.SameBut (B + 1) h₃ h₄ := e₄
  have n4 : ∀ {x : Addr} {o : Obj}, x ≠ B + 1 → h₃.get? x = some o → h₄.get? x = some o := fun hx e => e₄.extBut _ _ hx e
  have hTOd : IsTrip h₄ (B + 4) x b c := n4 (by refine neN ?_; omega) hTOc
  refine wpAny_bind (wpAny_seqItems hTOd rfl ?_)
  refine wpAny_bind (upd_trip hTOd fun h₅ hTOe e₅ => ?_)
  replace hTOe : IsTrip h₅ (B + 4) x y c := hTOe
  replace e₅ : Heap.SameBut (B + 4) h₄ h₅ := e₅
  refine wpAny_bind (wpAny_letGo (wpAny_pure ?_))
  have n5 : ∀ {x : Addr} {o : Obj}, x ≠ B + 4 → h₄.get? x = some o → h₅.get? x = some o := fun hx e => e₅.extBut _ _ hx e
  have s3b : S3 i h₅ := D3.frame _ _ _ s3a fun b hb o e => n5 (in1 hb (by omega)) (n4 (in1 hb (by omega)) (n3 (in1 hb (by omega)) (n2 (in1 hb (by omega)) e)))
  -- the third
  refine wpAny_bind (wpAny_bind (wpAny_onRaise ?_))
  show wpAny _ _ (Builtin.SmallTypes.nextOf (.ref (B + 2)) >>= _) _ _ _
  refine wpAny_bind (D3.item i _ _ _ hi s3b fun v h₆ tk₆ hPv s3c e₆ => wpAny_pure ?_)
  replace e₆ : Heap.SameBut (B + 2) h₅ h₆ := e₆
  have n6 : ∀ {x : Addr} {o : Obj}, x ≠ B + 2 → h₅.get? x = some o → h₆.get? x = some o := fun hx e => e₆.extBut _ _ hx e
  have hTOf : IsTrip h₆ (B + 4) x y c := n6 (by refine neN ?_; omega) hTOe
  refine wpAny_bind (wpAny_seqItems hTOf rfl ?_)
  refine wpAny_bind (upd_trip hTOf fun h₇ hTOg e₇ => ?_)
  replace hTOg : IsTrip h₇ (B + 4) x y v := hTOg
  replace e₇ : Heap.SameBut (B + 4) h₆ h₇ := e₇
  refine wpAny_bind (wpAny_letGo (wpAny_pure (wpAny_pure ?_)))
  have n7 : ∀ {x : Addr} {o : Obj}, x ≠ B + 4 → h₆.get? x = some o → h₇.get? x = some o := fun hx e => e₇.extBut _ _ hx e
  refine wpAny_bind (wpAny_seqItems hTOg rfl ?_)
  refine wpAny_bind (wpAny_newTuple ?_)
  have hsz : h₇.objs.size = hp.objs.size := by rw [e₇.1, e₆.1, e₅.1, e₄.1, e₃.1, e₂.1, e₁.1]
  have hz₇ : IsZip h₇ (B + 5) (B + 3) (B + 4) .ellipsis := n7 (by refine neN ?_; omega) (n6 (by refine neN ?_; omega) (n5 (by refine neN ?_; omega) (n4 (by refine neN ?_; omega) (n3 (by refine neN ?_; omega) (n2 (by refine neN ?_; omega) hz₁)))))
  have up : ∀ (d : Addr) o, d ≠ B → d ≠ B + 1 → d ≠ B + 2 → d ≠ B + 4 → d ≠ B + 5 → hp.get? d = some o → h₇.get? d = some o := fun d o d0 d1 d2 d4 d5 e =>
    n7 d4 (n6 d2 (n5 d4 (n4 d1 (n3 d4 (n2 d0 (n1 d5 e))))))
  have s1c : S1 (i + 1) h₇ := D1.frame _ _ _ s1b fun b hb o e => by
    have h3 : (b : Nat) ≠ B + 4 := in2 hb (by omega) (by omega)
    have h2 : (b : Nat) ≠ B + 1 := in2 hb (by omega) (by omega)
    have h1 : (b : Nat) ≠ B + 2 := in2 hb (by omega) (by omega)
    exact n7 h3 (n6 h1 (n5 h3 (n4 h2 (n3 h3 e))))
  have s2d : S2 (i + 1) h₇ := D2.frame _ _ _ s2c fun b hb o e => n7 (in1 hb (by omega)) (n6 (in1 hb (by omega)) (n5 (in1 hb (by omega)) e))
  have s3d : S3 (i + 1) h₇ := D3.frame _ _ _ s3c fun b hb o e => n7 (in1 hb (by omega)) e
  have hzlt : (B + 5 : Nat) < h₇.objs.size := Heap.lt_size hz₇
  show wpAny _ _ (Builtin.SmallTypes.ownedTupleHandOut (.ref (B + 5)) (.ref h₇.objs.size) >>= _) _ _ _
  refine wpAny_bind ?_
  unfold Builtin.SmallTypes.ownedTupleHandOut
  have hz₈ : IsZip (h₇.push { cls := .type "tuple", data := .seq #[x, y, v] }) (B + 5) (B + 3) (B + 4) .ellipsis := Heap.get?_push_of_some _ hz₇
  refine wpAny_bind (wpAny_setField_rec hz₈ (by simp) fun h₉ hz₉ e₉ => ?_)
  replace hz₉ : IsZip h₉ (B + 5) (B + 3) (B + 4) (rawInt h₇.objs.size) := hz₉
  refine wpAny_setField_rec hz₉ (by simp) fun h₁₀ hz₁₀ e₁₀ => ?_
  replace hz₁₀ : IsZip h₁₀ (B + 5) (B + 3) (B + 4) (rawInt h₇.objs.size) := hz₁₀
  have up2 : ∀ (d : Addr) o, d ≠ B + 5 → h₇.get? d = some o → h₁₀.get? d = some o := fun d o d5 e => e₁₀.extBut _ _ d5 (e₉.extBut _ _ d5 (Heap.get?_push_of_some _ e))
  have hT₁₀ : IsTrip h₁₀ h₇.objs.size x y v := e₁₀.extBut _ _ (Nat.ne_of_gt hzlt) (e₉.extBut _ _ (Nat.ne_of_gt hzlt) (Heap.get?_push_size _ rfl))
  have hsz2 : h₁₀.objs.size = h₇.objs.size + 1 := by rw [e₁₀.1, e₉.1, Heap.size_push]
  rw [hsz] at hz₁₀ hT₁₀ hsz2
  refine wpAny_pure ⟨_, rfl, ?_⟩
  show Q (.ref h₇.objs.size) _
  rw [hsz]
  refine hQ x y v h₁₀ tk₆ hPx hPy hPv hz₁₀ (up2 _ _ (by refine neN ?_; omega) hTOg) ?_ ?_ ?_ hT₁₀ hsz2 fun d o d0 d1 d2 d4 d5 e => up2 _ _ d5 (up d o d0 d1 d2 d4 d5 e)
  · exact D1.frame _ _ _ s1c fun b hb o e => up2 _ _ (in2 hb (by omega) (by omega)) e
  · exact D2.frame _ _ _ s2d fun b hb o e => up2 _ _ (in1 hb (by omega)) e
  · exact D3.frame _ _ _ s3d fun b hb o e => up2 _ _ (in1 hb (by omega)) e

theorem zip3_end {B l n : Nat} {P1 : Nat → Value → Prop} {S1 : Nat → Heap → Prop} {a b c : Value} {Q : Fin → Shared → Prop}
    (D1 : Draws prog w A B [B, l] n P1 S1) (hl : l < B)
    (hz : IsZip s.heap (B + 5) (B + 3) (B + 4) .none) (hTI : IsTrip s.heap (B + 3) (.ref B) (.ref (B + 1)) (.ref (B + 2))) (hTO : IsTrip s.heap (B + 4) a b c) (s1 : S1 n s.heap)
    (hE : ∀ h' e, (∀ (d : Addr) o, d ≠ B → d ≠ B + 1 → d ≠ B + 2 → d ≠ B + 4 → d ≠ B + 5 → s.heap.get? d = some o → h'.get? d = some o) → (∃ o, h'.get? e = some o ∧ o.cls = .type "StopIteration") → E (.ref e) { s with heap := h' }) :
    wpAny (model prog w) A (Builtin.«zip.__next__» ⟨[.ref (B + 5)], []⟩) Q E s := by
  show wpAny _ _ (field (.ref (B + 5)) 2 >>= _) _ _ _
  refine wpAny_bind (wpAny_field hz rfl (x := .bool false) rfl ?_)
  show wpAny _ _ (field (.ref (B + 5)) 3 >>= _) _ _ _
  refine wpAny_bind (wpAny_field hz rfl (x := .ref (B + 3)) rfl ?_)
  refine wpAny_bind (wpAny_seqItems hTI rfl ?_)
  show wpAny _ _ (Builtin.SmallTypes.ownedTupleIsFree (.ref (B + 5)) >>= _) _ _ _
  refine wpAny_bind ?_
  unfold Builtin.SmallTypes.ownedTupleIsFree
  refine wpAny_bind (wpAny_field hz rfl (x := .none) rfl (wpAny_pure ?_))
  simp only [if_true]
  refine wpAny_bind (wpAny_rule ?_)
  refine wpAny_bind (wpAny_field hz rfl (x := .ref (B + 4)) rfl ?_)
  refine wpAny_bind (wpAny_setField_rec hz (by simp) fun h₁ hz₁ e₁ => ?_)
  replace hz₁ : IsZip h₁ (B + 5) (B + 3) (B + 4) .ellipsis := hz₁
  refine wpAny_bind ?_
  simp only [List.zipIdx_cons, List.zipIdx_nil, List.forIn_cons, List.forIn_nil]
  have s1a : S1 n h₁ := D1.frame _ _ _ s1 fun b hb o e => e₁.extBut _ _ (in2 hb (by omega) (by omega)) e
  refine wpAny_bind (wpAny_bind (wpAny_onRaise ?_))
  show wpAny _ _ (Builtin.SmallTypes.nextOf (.ref B) >>= _) _ _ _
  refine wpAny_bind (D1.done _ _ _ s1a fun h₂ e e₂ he => ?_)
  obtain ⟨oe, hoe, hce⟩ := he
  have hz₂ : IsZip h₂ (B + 5) (B + 3) (B + 4) .ellipsis := e₂ _ _ (by refine neN ?_; omega) hz₁
  have hez : e ≠ B + 5 := fun x => by subst x; rw [hz₂] at hoe; cases hoe; simp at hce
  exact wpAny_setField_rec hz₂ (by simp) fun h₅ _ hs₅ => hE h₅ e (fun d o d0 _ _ _ d5 x => hs₅.extBut _ _ d5 (e₂ _ _ d0 (e₁.extBut _ _ d5 x))) ⟨oe, hs₅.extBut _ _ hez hoe, hce⟩
end
end Mine

-- Zip3b
namespace Mine
open PySem PySem.W PySem.Calls PyProof.Rows PyProof.V PySem.Spec
set_option maxRecDepth 100000
open AutoSeq1 (wpAny_loadPart')

theorem typeCall_zip_3 (a b c : Value) : checkTypeCall "zip" ⟨[a, b, c], []⟩ = pure () := by kernel_rfl
theorem newCall_zip_3 (a b c : Value) : checkBuiltinCall "zip.__new__" ⟨[.type "zip", a, b, c], []⟩ = pure () := by kernel_rfl
theorem args_object_init_4 (a b c d : Value) : argsOk "object.__init__" ⟨[a, b, c, d], []⟩ := by
  unfold argsOk; rw [signature?_of (id := "object.__init__") (n := ['_', '_', 't', 'i', 'n', 'i', '_', '_']) (o := ['t', 'c', 'e', 'j', 'b', 'o']) (by kernel_rfl) F.owner_object]; kernel_rfl

/-- the heap behind the making of a zip over a list and two texts -/
abbrev z1 (h : Heap) (l : Addr) : Heap := h.push { cls := .type "list_iterator", data := .fields #[.ref l, .int 0 0] }
abbrev z2 (h : Heap) (l : Addr) (x : Str) (t : Tok) : Heap := (z1 h l).push { cls := .type (strIterType x), data := .fields #[.str x t, .int 0 0] }
abbrev z3 (h : Heap) (l : Addr) (x : Str) (t : Tok) (y : Str) (u : Tok) : Heap := (z2 h l x t).push { cls := .type (strIterType y), data := .fields #[.str y u, .int 0 0] }
abbrev z4 (h : Heap) (l : Addr) (x : Str) (t : Tok) (y : Str) (u : Tok) : Heap := (z3 h l x t y u).push { cls := .type "tuple", data := .seq #[.ref h.objs.size, .ref (z1 h l).objs.size, .ref (z2 h l x t).objs.size] }
abbrev z5 (h : Heap) (l : Addr) (x : Str) (t : Tok) (y : Str) (u : Tok) : Heap := (z4 h l x t y u).push { cls := .type "tuple", data := .seq #[.none, .none, .none] }
abbrev z6 (h : Heap) (l : Addr) (x : Str) (t : Tok) (y : Str) (u : Tok) : Heap := (z5 h l x t y u).push { cls := .type "zip", data := .fields #[.none, .bool false, .bool false, .ref (z3 h l x t y u).objs.size, .ref (z4 h l x t y u).objs.size] }

set_option maxHeartbeats 2000000 in
theorem meets_zip3 (l : Addr) (xs : Array Value) (x : Str) (t : Tok) (y : Str) (u : Tok) :
    Meets (Builtin.«zip.__new__» ⟨[.type "zip", .ref l, .str x t, .str y u], []⟩) (fun _ R s => s.heap.IsList l xs ∧
      R (.ok (.ret (.ref (z5 s.heap l x t y u).objs.size))) { s with heap := z6 s.heap l x t y u }) :=
  .of_wp fun prog w A R s h => by
    obtain ⟨hp, g, d, tk, os⟩ := s; obtain ⟨hl1, h⟩ := h
    have hsub := sub_zip
    have hL1 : Heap.IsList (Shared.heap ⟨hp, g, d, tk, os⟩) l xs := hl1
    wp_walk using wpAny_pyIter_list hL1, wpAny_pyIter_strU
    exact ⟨_, rfl, h⟩
end Mine

-- Zip3c
namespace Mine
open PySem PySem.W PySem.Calls PyProof.Rows PyProof.V PySem.Spec
set_option maxRecDepth 100000
section
variable {prog : Program} {w : World} {A : Around} {E : Value → Shared → Prop} {s : Shared}

theorem call_zip3 {l : Addr} {xs : Array Value} {x y : Str} {t u : Tok} {Q : Value → Shared → Prop} (hl : s.heap.IsList l xs)
    (h : ∀ h', IsZip h' (s.heap.objs.size + 5) (s.heap.objs.size + 3) (s.heap.objs.size + 4) .none →
      IsTrip h' (s.heap.objs.size + 3) (.ref s.heap.objs.size) (.ref (s.heap.objs.size + 1)) (.ref (s.heap.objs.size + 2)) → IsTrip h' (s.heap.objs.size + 4) .none .none .none →
      h'.IsListIter s.heap.objs.size l 0 → h'.IsStrIter (s.heap.objs.size + 1) (strIterType x) x t 0 → h'.IsStrIter (s.heap.objs.size + 2) (strIterType y) y u 0 →
      (∀ c o, s.heap.get? c = some o → h'.get? c = some o) → Q (.ref (s.heap.objs.size + 5)) { s with heap := h' }) :
    wpAny (model prog w) A (call (.type "zip") [.ref l, .str x t, .str y u]) Q E s := by
  refine callType_new F.called_zip (by decide) (typeCall_zip_3 _ _ _) (newCall_zip_3 _ _ _) (fun obj => args_object_init_4 obj _ _ _) F.entry_zip_new
    (meets_zip3 l xs x t y u) ⟨hl, ?_⟩
  have e1 : (z1 s.heap l).objs.size = s.heap.objs.size + 1 := Heap.size_push ..
  have e2 : (z2 s.heap l x t).objs.size = s.heap.objs.size + 2 := by rw [Heap.size_push, e1]
  have e3 : (z3 s.heap l x t y u).objs.size = s.heap.objs.size + 3 := by rw [Heap.size_push, e2]
  have e4 : (z4 s.heap l x t y u).objs.size = s.heap.objs.size + 4 := by rw [Heap.size_push, e3]
  have e5 : (z5 s.heap l x t y u).objs.size = s.heap.objs.size + 5 := by rw [Heap.size_push, e4]
  have up1 : ∀ c o, (z1 s.heap l).get? c = some o → (z6 s.heap l x t y u).get? c = some o := fun c o q =>
    Heap.get?_push_of_some _ (Heap.get?_push_of_some _ (Heap.get?_push_of_some _ (Heap.get?_push_of_some _ (Heap.get?_push_of_some _ q))))
  have g6 : (z6 s.heap l x t y u).get? (z5 s.heap l x t y u).objs.size = some _ := Heap.get?_push_size _ rfl
  have g5 : (z6 s.heap l x t y u).get? (z4 s.heap l x t y u).objs.size = some _ := Heap.get?_push_of_some _ (Heap.get?_push_size _ rfl)
  have g4 : (z6 s.heap l x t y u).get? (z3 s.heap l x t y u).objs.size = some _ := Heap.get?_push_of_some _ (Heap.get?_push_of_some _ (Heap.get?_push_size _ rfl))
  have g3 : (z6 s.heap l x t y u).get? (z2 s.heap l x t).objs.size = some _ := Heap.get?_push_of_some _ (Heap.get?_push_of_some _ (Heap.get?_push_of_some _ (Heap.get?_push_size _ rfl)))
  have g2 : (z6 s.heap l x t y u).get? (z1 s.heap l).objs.size = some _ := Heap.get?_push_of_some _ (Heap.get?_push_of_some _ (Heap.get?_push_of_some _ (Heap.get?_push_of_some _ (Heap.get?_push_size _ rfl))))
  have g1 : (z6 s.heap l x t y u).get? s.heap.objs.size = some _ := up1 _ _ (Heap.get?_push_size _ rfl)
  show _ ∧ _
  rw [e3, e4, e5] at g6
  rw [e4] at g5
  rw [e1, e2, e3] at g4
  rw [e2] at g3
  rw [e1] at g2
  rw [e5]
  exact ⟨⟨_, g6, rfl⟩, h _ g6 g4 g5 ⟨_, g1, rfl, rfl⟩ ⟨_, g2, rfl, rfl⟩ ⟨_, g3, rfl, rfl⟩ fun c o q => up1 c o (Heap.get?_push_of_some _ q)⟩

/-- a text's draws, of whatever iterator's kind -/
theorem draws_str (hh : A.handled = none) (it : Addr) (x : Str) (t : Tok) :
    Draws prog w A it [it] x.cps.size (fun i v => ∃ c u, x.cps[i]? = some c ∧ v = .str ⟨#[c]⟩ u) (fun i h => h.IsStrIter it (strIterType x) x t i) := by
  unfold strIterType
  split
  · exact Draws.strAscii hh it x t
  · exact Draws.strWide hh it x t

theorem walks_zip3 {B l n : Nat} {P1 P2 P3 : Nat → Value → Prop} {S1 S2 S3 : Nat → Heap → Prop}
    (D1 : Draws prog w A.in1 B [B, l] n P1 S1) (D2 : Draws prog w A.in1 (B + 1) [B + 1] n P2 S2) (D3 : Draws prog w A.in1 (B + 2) [B + 2] n P3 S3) (hl : l < B) :
    WalksU prog w A (B + 5 : Nat) [B + 5, B + 3, B + 4, B, B + 1, B + 2, l] [B + 5, B + 4, B, B + 1, B + 2] n
      (fun i vals => ∃ x y v, P1 i x ∧ P2 i y ∧ P3 i v ∧ vals = #[x, y, v])
      (fun i h => IsZip h (B + 5) (B + 3) (B + 4) .none ∧ IsTrip h (B + 3) (.ref B) (.ref (B + 1)) (.ref (B + 2)) ∧ (∃ a b c, IsTrip h (B + 4) a b c) ∧ S1 i h ∧ S2 i h ∧ S3 i h)
      (fun i T h => IsZip h (B + 5) (B + 3) (B + 4) (rawInt T) ∧ IsTrip h (B + 3) (.ref B) (.ref (B + 1)) (.ref (B + 2)) ∧ (∃ a b c, IsTrip h (B + 4) a b c) ∧ S1 (i + 1) h ∧ S2 (i + 1) h ∧ S3 (i + 1) h ∧
        T ∉ [B + 5, B + 4, B, B + 1, B + 2]) where
  sub := fun c hc => by simp at hc ⊢; rcases hc with rfl | rfl | rfl | rfl | rfl <;> simp
  frame := fun i h h' hst hk => by
    obtain ⟨hz, hTI, ⟨a, b, c, hTO⟩, s1, s2, s3⟩ := hst
    refine ⟨hk _ (by simp) _ hz, hk _ (by simp) _ hTI, ⟨a, b, c, hk _ (by simp) _ hTO⟩, D1.frame _ _ _ s1 fun b hb o e => hk b ?_ o e, D2.frame _ _ _ s2 fun b hb o e => hk b ?_ o e, D3.frame _ _ _ s3 fun b hb o e => hk b ?_ o e⟩
    · simp at hb ⊢; rcases hb with rfl | rfl <;> simp
    · simp at hb ⊢; simp [hb]
    · simp at hb ⊢; simp [hb]
  item := fun i s Q E hi hst hQ => by
    obtain ⟨hz, hTI, ⟨a, b, c, hTO⟩, s1, s2, s3⟩ := hst
    have hT : s.TypeIs (.ref (B + 5)) "zip" := ⟨_, hz, rfl⟩
    unfold pyNext
    refine wpAny_bind (wpAny_attempt (wpAny_callSpecial?_slot (name := Str.ofString "__next__") hT F.slot_zip_next
      (wpAny_call_entry F.slot_zip_next hT F.entry_zip_next
        (zip3_next D1 D2 D3 hl hz hTI hTO s1 s2 s3 hi fun x y v h' tk p1 p2 p3 a1 a2 t1 t2 t3 a3 a4 a5 => wpAny_pure ?_) (F.args_zip_next_1 _))))
    have lt : ∀ {c : Addr} {o : Obj}, s.heap.get? c = some o → s.heap.objs.size ≠ c := fun e => Nat.ne_of_gt (Heap.lt_size e)
    obtain ⟨o1, l1⟩ := D1.live _ _ s1
    obtain ⟨o2, l2⟩ := D2.live _ _ s2
    obtain ⟨o3, l3⟩ := D3.live _ _ s3
    refine hQ s.heap.objs.size #[x, y, v] h' tk ⟨x, y, v, p1, p2, p3, rfl⟩ ⟨_, a3, rfl, _, rfl⟩ ⟨a1, a5 _ _ (by refine neN ?_; omega) (by refine neN ?_; omega) (by refine neN ?_; omega) (by refine neN ?_; omega) (by refine neN ?_; omega) hTI, ⟨_, _, _, a2⟩, t1, t2, t3, ?_⟩ ?_
    · intro hm
      simp only [List.mem_cons, List.not_mem_nil, or_false] at hm
      rcases hm with e | e | e | e | e
      · exact lt hz e
      · exact lt hTO e
      · exact lt l1 e
      · exact lt l2 e
      · exact lt l3 e
    · intro d o hd e
      simp only [List.mem_cons, List.not_mem_nil, or_false, not_or] at hd
      exact a5 d o hd.2.2.1 hd.2.2.2.1 hd.2.2.2.2 hd.2.1 hd.1 e
  go := fun elts k pos i T s Q E hm hQ => by
    obtain ⟨hz, hTI, ⟨a, b, c, hTO⟩, s1, s2, s3, hT⟩ := hm
    refine wpAny_letOwnedTupleGo_zip hz fun h' hz' hs' => hQ h' ⟨hz', hs'.extBut _ _ (by refine neN ?_; omega) hTI, ⟨a, b, c, hs'.extBut _ _ (by refine neN ?_; omega) hTO⟩,
      D1.frame _ _ _ s1 fun b hb o e => hs'.extBut _ _ (in2 hb (by omega) (by omega)) e, D2.frame _ _ _ s2 fun b hb o e => hs'.extBut _ _ (in1 hb (by omega)) e, D3.frame _ _ _ s3 fun b hb o e => hs'.extBut _ _ (in1 hb (by omega)) e⟩ fun d o hd e => hs'.extBut _ _ (fun x => hd (by simp [x])) e
  apart := fun i T h hm => hm.2.2.2.2.2.2
  done := fun s Q E hst hQ => by
    obtain ⟨hz, hTI, ⟨a, b, c, hTO⟩, s1, s2, s3⟩ := hst
    have hT : s.TypeIs (.ref (B + 5)) "zip" := ⟨_, hz, rfl⟩
    unfold pyNext
    refine wpAny_bind (wpAny_attempt (wpAny_callSpecial?_slot (name := Str.ofString "__next__") hT F.slot_zip_next
      (wpAny_call_entry F.slot_zip_next hT F.entry_zip_next (zip3_end D1 hl hz hTI hTO s1 fun h' e hk he => ?_) (F.args_zip_next_1 _))))
    obtain ⟨o, ho, hc⟩ := he
    refine wpAny_bind (wpAny_isInstance (T := "StopIteration") (b := true) ⟨o, ho, hc⟩ isSubtype_stop ?_)
    refine wpAny_pure (hQ h' s.toks fun d o hd e => ?_)
    simp only [List.mem_cons, List.not_mem_nil, or_false, not_or] at hd
    exact hk d o hd.2.2.1 hd.2.2.2.1 hd.2.2.2.2 hd.2.1 hd.1 e
  self := fun i s Q E hst hQ => wpAny_pyIter_zip hst.1 hQ
end

section
variable {prog : Program} {w : World} {A : Around} {E : Value → Shared → Prop} {s : Shared} {env : Env} {h₀ : Heap} {body : List Stmt} {Q : Flow → Shared → Prop}
/-- zip over a list of the ledger and two texts of its length -/
theorem zip3_led {σ : Type} {elts : List PySem.Expr} {k : Nat} {pos : Pos} {l : Addr} {xs : List Value} {nn : Nat} {x y : Str} {tx ty : Tok} {m₀ : Str → Option Value} {news : List (Addr × Obj)}
    (Led : σ → List (Addr × Obj)) (Ps : σ → List (Str × Value)) (Inv : Nat → σ → Prop) (adr : List Addr) (c₀ : σ)
    (hh : A.handled = none) (F : Fr h₀ env.locals s.heap m₀) (N : News h₀ env.locals s.heap news) (hm : (l, listOf xs.toArray nn) ∈ news) (hx : x.cps.size = xs.length) (hy : y.cps.size = xs.length)
    (hsub : ∀ p ∈ Led c₀, p ∈ news) (hadr : ∀ c, (Led c).map (·.1) = adr) (hla : l ∉ adr)
    (hk : ∀ p ∈ Ps c₀, m₀ p.1 = some p.2) (h0 : Inv 0 c₀)
    (turn : ∀ (i : Nat) c v a b t1 t2 T h tk own u, xs[i]? = some v → x.cps[i]? = some a → y.cps[i]? = some b → IsTup h T #[v, .str ⟨#[a]⟩ t1, .str ⟨#[b]⟩ t2] → Inv i c → OwnOff own adr → Fr h₀ env.locals h (kstB u (Ps c)) → News h₀ env.locals h (Led c ++ own) →
      wpAny (model prog w) A (assign (.Tuple elts k pos) env (.ref T)) (fun _ s₃ => wpAny (model prog w) A (execs body env) (TPost h₀ env.locals Led Ps (Inv (i + 1)) own { s with heap := h, toks := tk } Q) E s₃) E { s with heap := h, toks := tk })
    (done : ∀ c h tk u, Inv xs.length c → Fr h₀ env.locals h (kstB u (Ps c)) → News h₀ env.locals h (Led c) → Q .next { s with heap := h, toks := tk }) :
    wpAny (model prog w) A (call (.type "zip") [.ref l, .str x tx, .str y ty]) (fun xv s₁ => wpAny (model prog w) A (pyIter xv) (fun it s₂ => TurnsAt prog w A h₀ env (.Tuple elts k pos) body Q E it s₂) E s₁) E s := by
  have hax := N _ hm
  have hl : s.heap.IsList l xs.toArray := ⟨_, hax.1, rfl, nn, rfl⟩
  have hlt : l < s.heap.objs.size := Heap.lt_size hax.1
  have hLs : env.locals < s.heap.objs.size := F.ns.lt
  refine call_zip3 hl fun h' hz hTI hTO hi1 hi2 hi3 hk' => ?_
  refine wpAny_pyIter_zip hz ?_
  have D1 : Draws prog w A.in1 s.heap.objs.size [s.heap.objs.size, l] xs.length (fun i v => xs.toArray[i]? = some v) (fun i h => h.IsListIter s.heap.objs.size l i ∧ h.IsList l xs.toArray) := by
    have D := Draws.list (prog := prog) (w := w) (A := A.in1) hh s.heap.objs.size l (Nat.ne_of_lt hlt) xs.toArray
    rw [List.size_toArray] at D
    exact D
  have D2 := draws_str (prog := prog) (w := w) (A := A.in1) hh (s.heap.objs.size + 1) x tx
  have D3 := draws_str (prog := prog) (w := w) (A := A.in1) hh (s.heap.objs.size + 2) y ty
  rw [hx] at D2
  rw [hy] at D3
  refine turns_inv (tk0 := s.toks) Led Ps Inv adr c₀ (KTurns.ofWalksU (walks_zip3 D1 D2 D3 hlt)) ?_ ?_ hadr ?_
    ⟨hz, hTI, ⟨_, _, _, hTO⟩, ⟨hi1, hl.at fun o e => hk' l o e⟩, hi2, hi3⟩ (F.keeps hk') (fun p hp => (N.grown hk') p (hsub p hp)) hk h0 ?_ ?_
  · intro hI'
    simp only [List.mem_cons, List.not_mem_nil, or_false] at hI'
    rcases hI' with e | e | e | e | e | e | e
    · exact ktu_ne 5 hLs e
    · exact ktu_ne 3 hLs e
    · exact ktu_ne 4 hLs e
    · exact Nat.ne_of_lt hLs e
    · exact ktu_ne 1 hLs e
    · exact ktu_ne 2 hLs e
    · exact hax.2.1 e.symm
  · intro b hb
    simp only [List.mem_cons, List.not_mem_nil, or_false] at hb
    rcases hb with rfl | rfl | rfl | rfl | rfl
    · exact ktu_new F (Nat.le_add_right _ _)
    · exact ktu_new F (Nat.le_add_right _ _)
    · exact ktu_new F (Nat.le_refl _)
    · exact ktu_new F (Nat.le_add_right _ _)
    · exact ktu_new F (Nat.le_add_right _ _)
  · intro b hb ha
    have hlp : b ∈ adr → b < s.heap.objs.size := by
      intro ha'
      rw [← hadr c₀] at ha'
      obtain ⟨p, hp, rfl⟩ := List.mem_map.mp ha'
      exact Heap.lt_size (N p (hsub p hp)).1
    have hlp' := hlp ha
    simp only [List.mem_cons, List.not_mem_nil, or_false] at hb
    rcases hb with e | e | e | e | e | e | e
    · exact ktu_ne 5 hlp' e
    · exact ktu_ne 3 hlp' e
    · exact ktu_ne 4 hlp' e
    · exact Nat.ne_of_lt hlp' e
    · exact ktu_ne 1 hlp' e
    · exact ktu_ne 2 hlp' e
    · exact hla (e ▸ ha)
  · rintro i c v h tk own u hin ⟨T, vals, rfl, ⟨v, y1, y2, hv, ⟨a, t1, hx', rfl⟩, ⟨b, t2, hy', rfl⟩, rfl⟩, hT⟩ hI' ho F' N'
    exact turn i c v a b t1 t2 T h tk own u (by simpa using hv) hx' hy' hT hI' ho F' N'
  · intro c h tk u hI' F' N'
    exact done c h tk u hI' F' N'
end
end Mine

-- EnumT
namespace Mine
open PySem PySem.W PySem.Calls PyProof.Rows PyProof.V PySem.Spec
set_option maxRecDepth 100000
open AutoSeq1 (wpAny_loadPart')

section
variable {prog : Program} {w : World} {A : Around} {E : Value → Shared → Prop} {s : Shared}

theorem nextT_item {it t : Addr} {i : Nat} {items : Array Value} {x : Value} {Q : Value → Shared → Prop} (hit : s.heap.IsTupleIter it t i) (ht : s.heap.IsTuple t items) (hx : items[i]? = some x)
    (hQ : ∀ h', h'.IsTupleIter it t (i + 1) → Heap.SameBut it s.heap h' → Q x { s with heap := h' }) : wpAny (model prog w) A (Builtin.SmallTypes.nextOf (.ref it)) Q E s := by
  obtain ⟨o, ho, hc, hd⟩ := id hit
  obtain ⟨ol, hol, _, nl, hdl⟩ := ht
  unfold Builtin.SmallTypes.nextOf
  refine wpAny_bind (wpAny_callSpecial?_slot (name := Str.ofString "__next__") hit.typeIs F.slot_tuple_iterator_next
    (wpAny_call_entry F.slot_tuple_iterator_next hit.typeIs F.entry_tuple_iterator_next ?_ (F.args_tuple_iterator_next_1 _)))
  show wpAny _ _ (field (.ref it) 0 >>= _) _ _ s
  refine wpAny_bind (wpAny_field ho hd (x := .ref t) rfl ?_)
  show wpAny _ _ (if (Value.ref t == Value.none) = true then _ else _) _ _ s
  rw [if_neg (show ¬ ((Value.ref t == Value.none) = true) from Bool.false_ne_true)]
  show wpAny _ _ (field (.ref it) 1 >>= _) _ _ s
  refine wpAny_bind (wpAny_field ho hd (x := .int i 0) rfl ?_)
  show wpAny _ _ (seqItems? (.ref t) >>= _) _ _ s
  refine wpAny_bind (wpAny_seqItems hol hdl ?_)
  simp only [Int.toNat_natCast, hx]
  refine wpAny_bind (wpAny_setField ho hd (by simp) (wpAny_pure ⟨x, rfl, wpAny_pure (hQ _ ?_ (Heap.SameBut.update ..))⟩))
  exact ⟨_, Heap.get?_update_self _ ho (Obj.isFreed_of_fields (Obj.data_mapFields hd _)), (Obj.cls_mapFields ..).trans hc, by
    rw [Obj.data_mapFields hd]; simp [rawInt]⟩

theorem nextT_end {it t : Addr} {i : Nat} {items : Array Value} {Q : Value → Shared → Prop} (hh : A.handled = none) (hit : s.heap.IsTupleIter it t i) (ht : s.heap.IsTuple t items) (hx : items[i]? = none)
    (hE : ∀ h' e, Heap.ExtBut it s.heap h' → (∃ o, h'.get? e = some o ∧ o.cls = .type "StopIteration") → E (.ref e) { s with heap := h' }) :
    wpAny (model prog w) A (Builtin.SmallTypes.nextOf (.ref it)) Q E s := by
  obtain ⟨o, ho, hc, hd⟩ := id hit
  obtain ⟨ol, hol, _, nl, hdl⟩ := ht
  unfold Builtin.SmallTypes.nextOf
  refine wpAny_bind (wpAny_callSpecial?_slot (name := Str.ofString "__next__") hit.typeIs F.slot_tuple_iterator_next
    (wpAny_call_entry F.slot_tuple_iterator_next hit.typeIs F.entry_tuple_iterator_next ?_ (F.args_tuple_iterator_next_1 _)))
  show wpAny _ _ (field (.ref it) 0 >>= _) _ _ s
  refine wpAny_bind (wpAny_field ho hd (x := .ref t) rfl ?_)
  show wpAny _ _ (if (Value.ref t == Value.none) = true then _ else _) _ _ s
  rw [if_neg (show ¬ ((Value.ref t == Value.none) = true) from Bool.false_ne_true)]
  show wpAny _ _ (field (.ref it) 1 >>= _) _ _ s
  refine wpAny_bind (wpAny_field ho hd (x := .int i 0) rfl ?_)
  show wpAny _ _ (seqItems? (.ref t) >>= _) _ _ s
  refine wpAny_bind (wpAny_seqItems hol hdl ?_)
  simp only [Int.toNat_natCast, hx]
  refine wpAny_bind (wpAny_rule (wpAny_bind (wpAny_setField ho hd (by simp) ?_)))
  show wpAny _ _ (newExc (.type "StopIteration") [] >>= _) _ _ _
  refine wpAny_bind ?_
  simp only [newExc, newTuple]
  refine wpAny_bind (wpAny_newObj_type ?_ (by size_fits))
  refine wpAny_bind (m := firstArgMember _ _) (wpAny_of_eq (a := Value.none) (by first | rfl | (simp only [firstArgMember]; rfl)) ?_)
  refine wpAny_newObj_type ?_ (by size_fits)
  simp only [raiseNew]
  refine wpAny_bind (wpAny_handled ?_)
  first | rw [show A.in1.handled = none from hh] | rw [hh]
  refine wpAny_bind (wpAny_pure (wpAny_throw ?_))
  exact hE _ _ (((Heap.SameBut.update ..).extBut.push _).push _) ⟨_, Heap.get?_push_size _ rfl, rfl⟩

theorem draws_tup (hh : A.handled = none) (it t : Addr) (hne : t ≠ it) (items : Array Value) :
    Draws prog w A it [it, t] items.size (fun i v => items[i]? = some v) (fun i h => h.IsTupleIter it t i ∧ h.IsTuple t items) where
  live := fun _ _ st => let ⟨o, ho, _⟩ := st.1; ⟨o, ho⟩
  frame := fun _ _ _ st hk => ⟨st.1.at fun o e => hk it (by simp) o e, st.2.at fun o e => hk t (by simp) o e⟩
  item := fun i s Q E hi st hQ => by
    refine nextT_item st.1 st.2 (x := items[i]) (by simp [hi]) fun h' hit' hs' => ?_
    exact hQ _ h' s.toks (by simp [hi]) ⟨hit', st.2.extBut hs'.extBut hne⟩ hs'
  done := fun s Q E st hE => nextT_end hh st.1 st.2 (by simp) hE

theorem meets_enumT (l : Addr) (items : Array Value) (n : Nat) (dct : Option Addr) (sl : Array (Option Value)) :
    Meets (Builtin.«enumerate.__new__» ⟨[.type "enumerate", .ref l], []⟩) (fun _ R s => s.heap.get? l = some { cls := .type "tuple", dict := dct, data := .seq items n, slots := sl } ∧
      R (.ok (.ret (.ref (s.heap.push { cls := .type "tuple_iterator", data := .fields #[.ref l, .int 0 0] }).objs.size)))
        { s with heap := (s.heap.push { cls := .type "tuple_iterator", data := .fields #[.ref l, .int 0 0] }).push { cls := .type "enumerate", data := .fields #[.none, .bool false, .ref s.heap.objs.size, rawInt 0, .none, .none] } }) :=
  .of_wp fun prog w A R s h => by
    obtain ⟨hp, g, d, tk, os⟩ := s; obtain ⟨hl, h⟩ := h
    have hsub := sub_enumerate
    have hL : Heap.IsTuple (Shared.heap ⟨hp, g, d, tk, os⟩) l items := ⟨_, hl, rfl, n, rfl⟩
    wp_walk using wpAny_loadPart' hl
    refine wpAny_stack_any fun st => wpAny_pure ?_
    split
    · rename_i c _ _ _ _ _
      cases (c == Value.type "enumerate")
      · wp_walk using wpAny_loadPart' hl, wpAny_pyIter_tuple hL
        exact ⟨_, rfl, h⟩
      · wp_walk using wpAny_loadPart' hl, wpAny_pyIter_tuple hL
        exact ⟨_, rfl, h⟩
    · wp_walk using wpAny_loadPart' hl, wpAny_pyIter_tuple hL
      exact ⟨_, rfl, h⟩

theorem call_enumT {l : Addr} {items : Array Value} {Q : Value → Shared → Prop} (hL : s.heap.IsTuple l items)
    (h : ∀ h', IsEnum h' (s.heap.objs.size + 1) s.heap.objs.size 0 .none → h'.IsTupleIter s.heap.objs.size l 0 →
      (∀ b o, s.heap.get? b = some o → h'.get? b = some o) → Q (.ref (s.heap.objs.size + 1)) { s with heap := h' }) :
    wpAny (model prog w) A (call (.type "enumerate") [.ref l]) Q E s := by
  obtain ⟨⟨c, dct, dt, sl⟩, hl, hc, n, hd⟩ := hL
  replace hc : c = .type "tuple" := hc
  replace hd : dt = .seq items n := hd
  subst hc hd
  refine callType_new F.called_enumerate (by decide) (F.typeCall_enumerate_1 _) (F.newCall_enumerate_1 _) (fun obj => F.args_object_init_2 obj _) F.entry_enumerate_new
    (meets_enumT l items n dct sl) ⟨hl, ?_⟩
  have hz : (s.heap.push { cls := .type "tuple_iterator", data := .fields #[.ref l, .int 0 0] }).objs.size = s.heap.objs.size + 1 := Heap.size_push ..
  show _ ∧ _
  rw [hz]
  have he : IsEnum ((s.heap.push { cls := .type "tuple_iterator", data := .fields #[.ref l, .int 0 0] }).push
      { cls := .type "enumerate", data := .fields #[.none, .bool false, .ref s.heap.objs.size, rawInt 0, .none, .none] }) (s.heap.objs.size + 1) s.heap.objs.size 0 .none := by
    have := Heap.get?_push_size (s.heap.push { cls := .type "tuple_iterator", data := .fields #[.ref l, .int 0 0] })
      (o := { cls := .type "enumerate", data := .fields #[.none, .bool false, .ref s.heap.objs.size, rawInt 0, .none, .none] }) rfl
    rw [hz] at this; exact this
  exact ⟨⟨_, he, rfl⟩, h _ he ⟨_, Heap.get?_push_of_some _ (Heap.get?_push_size _ rfl), rfl, rfl⟩ fun b o x => Heap.get?_push_of_some _ (Heap.get?_push_of_some _ x)⟩
end

section
variable {prog : Program} {w : World} {A : Around} {E : Value → Shared → Prop} {s : Shared} {env : Env} {h₀ : Heap} {body : List Stmt} {Q : Flow → Shared → Prop} {K : Frag}
/-- enumerate over a tuple of the written part -/
theorem enum_K {σ : Type} {elts : List PySem.Expr} {k : Nat} {pos : Pos} {l : Addr} {lo : Obj} {vs : List Value} {nn : Nat} {m₀ : Str → Option Value}
    (Led : σ → List (Addr × Obj)) (Ps : σ → List (Str × Value)) (Inv : Nat → σ → Prop) (adr : List Addr) (c₀ : σ)
    (hh : A.handled = none) (X₀ : K.In h₀) (hlk : K.lookup l = some lo) (hc : lo.cls = .type "tuple") (hd : lo.data = .seq vs.toArray nn) (F : Fr h₀ env.locals s.heap m₀) (N : News h₀ env.locals s.heap (Led c₀)) (hadr : ∀ c, (Led c).map (·.1) = adr)
    (hk : ∀ p ∈ Ps c₀, m₀ p.1 = some p.2) (h0 : Inv 0 c₀)
    (turn : ∀ (i : Nat) c x t T h tk own u, vs[i]? = some x → IsTup h T #[.int ((i : Nat) : Int) t, x] → Inv i c → OwnOff own adr → Fr h₀ env.locals h (kstB u (Ps c)) → News h₀ env.locals h (Led c ++ own) →
      wpAny (model prog w) A (assign (.Tuple elts k pos) env (.ref T)) (fun _ s₃ => wpAny (model prog w) A (execs body env) (TPost h₀ env.locals Led Ps (Inv (i + 1)) own { s with heap := h, toks := tk } Q) E s₃) E { s with heap := h, toks := tk })
    (done : ∀ c h tk u, Inv vs.length c → Fr h₀ env.locals h (kstB u (Ps c)) → News h₀ env.locals h (Led c) → Q .next { s with heap := h, toks := tk }) :
    wpAny (model prog w) A (call (.type "enumerate") [.ref l]) (fun xv s₁ => wpAny (model prog w) A (pyIter xv) (fun it s₂ => TurnsAt prog w A h₀ env (.Tuple elts k pos) body Q E it s₂) E s₁) E s := by
  have hol : h₀.get? l = some lo := X₀ _ _ hlk
  have hlb : l < h₀.objs.size := Heap.lt_size hol
  have hols : s.heap.get? l = some lo := F.keep _ _ hol
  have hls : s.heap.IsTuple l vs.toArray := ⟨lo, hols, hc, nn, hd⟩
  have hlt : l < s.heap.objs.size := Heap.lt_size hols
  have hLs : env.locals < s.heap.objs.size := F.ns.lt
  refine call_enumT hls fun h' hE hI hk' => ?_
  refine wpAny_pyIter_enum hE ?_
  have D := draws_tup (prog := prog) (w := w) (A := A.in1) hh s.heap.objs.size l (Nat.ne_of_lt hlt) vs.toArray
  rw [List.size_toArray] at D
  refine turns_inv (tk0 := s.toks) Led Ps Inv adr c₀ (KTurns.ofWalksU (WalksT.enumerateD D (s.heap.objs.size + 1) (Nat.succ_ne_self _) ?_ (by simp)).toU) ?_ ?_ hadr ?_ ⟨⟨.none, hE⟩, hI, hls.at fun o e => hk' l o e⟩ (F.keeps hk') (N.grown hk') hk h0 ?_ ?_
  · intro hm
    rcases List.mem_cons.mp hm with e | e
    · exact Nat.succ_ne_self _ e
    · exact ktu_ne 1 hlt (List.mem_singleton.mp e).symm
  · intro hI'
    have hb' : env.locals = s.heap.objs.size + 1 ∨ env.locals = s.heap.objs.size ∨ env.locals = l := by simpa using hI'
    rcases hb' with e | e | e
    · exact ktu_ne 1 hLs e
    · exact Nat.ne_of_lt hLs e
    · exact absurd hlb (Nat.not_lt.mpr (e ▸ F.above))
  · intro b hb
    have hb' : b = s.heap.objs.size + 1 ∨ b = s.heap.objs.size := by simpa using hb
    rcases hb' with rfl | rfl
    · exact ktu_new F (Nat.le_add_right _ _)
    · exact ktu_new F (Nat.le_refl _)
  · intro b hb ha
    rw [← hadr c₀] at ha
    obtain ⟨p, hp, rfl⟩ := List.mem_map.mp ha
    have hlp := Heap.lt_size (N p hp).1
    have hb' : p.1 = s.heap.objs.size + 1 ∨ p.1 = s.heap.objs.size ∨ p.1 = l := by simpa using hb
    rcases hb' with e | e | e
    · exact ktu_ne 1 hlp e
    · exact Nat.ne_of_lt hlp e
    · have h1 := (N p hp).2.2
      rw [e, hol] at h1
      cases h1
  · rintro i c v h tk own u hin ⟨T, vals, rfl, ⟨t, x, hx, rfl⟩, hT⟩ hI' ho F' N'
    exact turn i c x t T h tk own u (by simpa using hx) hT hI' ho F' N'
  · intro c h tk u hI' F' N'
    exact done c h tk u hI' F' N'

/-- a loop with an else over a tuple of the written part, turn by turn -/
def ElseRest (prog : Program) (w : World) (A : Around) (E : Value → Shared → Prop) (h₀ : Heap) (env : Env) (target : PySem.Expr) (body orelse : List Stmt) (Q : Flow → Shared → Prop) (s : Shared) (I : Addr) : List Value → (Str → Option Value) → List (Addr × Obj) → Prop
  | [], m, news => ∀ h tk, Fr h₀ env.locals h m → News h₀ env.locals h news → wpAny (model prog w) A (execs orelse env) Q E { s with heap := h, toks := tk }
  | v :: r, m, news => ∀ (it : Obj) h tk, Fr h₀ env.locals h m → News h₀ env.locals h ((I, it) :: news) →
      wpAny (model prog w) A (assign target env v) (fun _ s₂ => wpAny (model prog w) A (execs body env) (UnrPost h₀ env.locals { s with heap := h, toks := tk } I it (ElseRest prog w A E h₀ env target body orelse Q s I r) Q) E s₂) E { s with heap := h, toks := tk }
theorem ElseRest.zero {target : PySem.Expr} {orelse : List Stmt} {I : Addr} {m : Str → Option Value} {news : List (Addr × Obj)} (h : ∀ h tk, Fr h₀ env.locals h m → News h₀ env.locals h news → wpAny (model prog w) A (execs orelse env) Q E { s with heap := h, toks := tk }) :
    ElseRest prog w A E h₀ env target body orelse Q s I [] m news := h
theorem ElseRest.succ {target : PySem.Expr} {orelse : List Stmt} {I : Addr} {v : Value} {r : List Value} {m : Str → Option Value} {news : List (Addr × Obj)}
    (h : ∀ (it : Obj) h tk, Fr h₀ env.locals h m → News h₀ env.locals h ((I, it) :: news) →
      wpAny (model prog w) A (assign target env v) (fun _ s₂ => wpAny (model prog w) A (execs body env) (UnrPost h₀ env.locals { s with heap := h, toks := tk } I it (ElseRest prog w A E h₀ env target body orelse Q s I r) Q) E s₂) E { s with heap := h, toks := tk }) :
    ElseRest prog w A E h₀ env target body orelse Q s I (v :: r) m news := h

theorem for_else_K {target : PySem.Expr} {iter : PySem.Expr} {orelse : List Stmt} {pos : Pos} {l : Addr} {lo : Obj} {vs : List Value} {nn : Nat} {m₀ : Str → Option Value} {news : List (Addr × Obj)}
    (hh : A.handled = none) (X₀ : K.In h₀) (F₀ : Fr h₀ env.locals s.heap m₀) (N₀ : News h₀ env.locals s.heap news) (hlk : K.lookup l = some lo) (hc : lo.cls = .type "tuple") (hd : lo.data = .seq vs.toArray nn)
    (hit : wpAny (model prog w) A (eval iter env) (fun v s' => v = .ref l ∧ s' = s) E s)
    (rest : ∀ I : Addr, (∀ p ∈ news, p.1 < I) → ElseRest prog w A E h₀ env target body orelse Q s I vs m₀ news)
    (hs : ∀ x, foldedSetIterable iter env x = pure x)
    (hE : PassesOwn (model prog w) A env E) :
    wpAny (model prog w) A (exec (.For target iter body orelse pos) env) Q E s := by
  refine wpAny_For (wpAny_mono hit (fun xv s₁ h₁ => ?_) fun _ _ e => e) hs
  obtain ⟨rfl, rfl⟩ := h₁
  have hol : h₀.get? l = some lo := X₀ _ _ hlk
  have hls : s₁.heap.IsTuple l vs.toArray := ⟨lo, F₀.keep _ _ hol, hc, nn, hd⟩
  have hlt : l < s₁.heap.objs.size := Heap.lt_size (F₀.keep _ _ hol)
  have hne : l ≠ s₁.heap.objs.size := Nat.ne_of_lt hlt
  have hLI : env.locals ≠ s₁.heap.objs.size := Nat.ne_of_lt F₀.ns.lt
  have hnewI := next_is_new F₀
  refine wpAny_pyIter_tuple hls ?_
  have W := Walks.tuple (prog := prog) (w := w) hh s₁.heap.objs.size l hne vs.toArray
  refine codeAny_forLoop_any (R := fun r s' => match r with | .ok f => Q f s' | .error e => cameBackBy (model prog w) A env E e s')
    (fun k s' => ∃ h' tk m' news' i, s' = { s₁ with heap := h', toks := tk } ∧ (h'.IsTupleIter s₁.heap.objs.size l i ∧ h'.IsTuple l vs.toArray) ∧ Fr h₀ env.locals h' m' ∧ News h₀ env.locals h' news' ∧ (∀ p ∈ news', p.1 ≠ s₁.heap.objs.size) ∧
      ElseRest prog w A E h₀ env target body orelse Q s₁ s₁.heap.objs.size (vs.drop i) m' news' ∧ i ≤ vs.length ∧ k = vs.length + 1 - i) ?_ (vs.length + 1)
    ⟨_, s₁.toks, m₀, news, 0, rfl, ⟨⟨_, Heap.get?_push_size _ rfl, rfl, rfl⟩, hls.at fun o e => Heap.get?_push_of_some _ e⟩, F₀.push _, (fun p hp => ⟨Heap.get?_push_of_some _ (N₀ p hp).1, (N₀ p hp).2⟩),
      (fun p hp => Nat.ne_of_lt (Heap.lt_size (N₀ p hp).1)), (by rw [List.drop_zero]; exact rest _ fun p hp => Heap.lt_size (N₀ p hp).1), Nat.zero_le _, rfl⟩
  rintro k s' ⟨h', tk, m', news', i, rfl, hst, F', N', hoff, hR, hi, rfl⟩
  have keepF : ∀ h₁ : Heap, (∀ b o, b ∉ [s₁.heap.objs.size] → h'.get? b = some o → h₁.get? b = some o) → Fr h₀ env.locals h₁ m' ∧ News h₀ env.locals h₁ news' := fun h₁ hk =>
    ⟨⟨F'.ns.at' fun o e => hk _ o (fun q => hLI (List.mem_singleton.mp q)) e, fun b o e => hk b o (fun q => by rw [List.mem_singleton.mp q, hnewI] at e; cases e) (F'.keep b o e), F'.above⟩,
      fun p hp => ⟨hk _ _ (fun q => hoff p hp (List.mem_singleton.mp q)) (N' p hp).1, (N' p hp).2⟩⟩
  by_cases hlt' : i < vs.length
  · refine W.item i _ _ _ (by simpa using hlt') hst fun v h₁ tk₁ hv hst₁ hk₁ => ?_
    have hv' : vs[i]? = some v := by simpa using hv
    have hdrop : vs.drop i = v :: vs.drop (i + 1) := by
      rw [List.drop_eq_getElem_cons hlt']
      congr 1
      exact Option.some.inj ((List.getElem?_eq_getElem hlt').symm.trans hv')
    rw [hdrop] at hR
    obtain ⟨F₁, N₁⟩ := keepF h₁ hk₁
    obtain ⟨itO, hitO, hitc, hitd⟩ := id hst₁.1
    have N₂ : News h₀ env.locals h₁ ((s₁.heap.objs.size, itO) :: news') := fun p hp => by
      rcases List.mem_cons.mp hp with rfl | hp
      · exact ⟨hitO, hLI.symm, hnewI⟩
      · exact N₁ p hp
    refine letGo_tupleiter hst₁.1 ?_
    refine wpAny_mono (wpAny_passesOwn hE (hR itO h₁ tk₁ F₁ N₂)) (fun _ s₂ h₂ => wpAny_mono (wpAny_passesOwn hE h₂) (fun f s₃ p => ?_) fun _ _ e => e) fun _ _ e => e
    have fin : UnrEnd h₀ env.locals { s₁ with heap := h₁, toks := tk₁ } s₁.heap.objs.size itO (ElseRest prog w A E h₀ env target body orelse Q s₁ s₁.heap.objs.size (vs.drop (i + 1))) s₃ →
        ∃ m, m < vs.length + 1 - i ∧ ∃ h' tk m' news' j, s₃ = { s₁ with heap := h', toks := tk } ∧ (h'.IsTupleIter s₁.heap.objs.size l j ∧ h'.IsTuple l vs.toArray) ∧ Fr h₀ env.locals h' m' ∧ News h₀ env.locals h' news' ∧ (∀ p ∈ news', p.1 ≠ s₁.heap.objs.size) ∧
          ElseRest prog w A E h₀ env target body orelse Q s₁ s₁.heap.objs.size (vs.drop j) m' news' ∧ j ≤ vs.length ∧ m = vs.length + 1 - j := by
      rintro ⟨h₃, tk₃, m₃, news₃, rfl, F₃, N₃, ho₃, r₃⟩
      exact ⟨vs.length + 1 - (i + 1), by omega, h₃, tk₃, m₃, news₃, i + 1, rfl, ⟨⟨itO, (N₃ _ (List.mem_cons_self ..)).1, hitc, hitd⟩, ⟨lo, F₃.keep _ _ hol, hc, nn, hd⟩⟩, F₃, (fun p hp => N₃ p (List.mem_cons_of_mem _ hp)), ho₃, r₃, hlt', rfl⟩
    cases f with
    | ret v => exact p
    | brk => exact p
    | next => exact fin p
    | cont => exact fin p
  · have hin : i = vs.length := by omega
    subst hin
    refine W.done _ _ _ (by simpa using hst) fun h₁ tk₁ hk₁ => ?_
    obtain ⟨F₁, N₁⟩ := keepF h₁ hk₁
    rw [List.drop_length] at hR
    exact wpAny_passesOwn hE (hR h₁ tk₁ F₁ N₁)
end
end Mine

-- C1
namespace Mine
open PySem PySem.W PyProof.Rows
set_option maxRecDepth 100000 in
set_option maxHeartbeats 8000000 in
theorem bits_con (w : World) (s₀ : Shared) (mg mb : Str → Option Value) (news : List (Addr × Obj)) (d : Int) (a b : Nat) (td ta tb : Tok) (h1 : 0 ≤ d) (h2 : d < 7) (h3 : a < 65536) (h4 : b < 65536) :
    Con w s₀ mg mb 131 news [.int d td, .int (a : Int) ta, .int (b : Int) tb] (fun t => .int ((newOf d.toNat a b : Nat) : Int) t) := by
  w_top off
  k_with_none
  k_with "execs nil" => refine wpAny_execs_nil ?_
  unfold Con P
  k_fill
  dsimp only [CbRet]
  intros
  rename_i hret
  refine wpAny_call ?_
  k_dflt cell_enter
  k_steps
  all_goals refine cb_retI hret ?_ (by k_asm) (by k_asm)
  all_goals first
    | (obtain rfl : d = 0 := by omega); exact bits0 h3
    | (obtain rfl : d = 1 := by omega); exact bits1 h3
    | (obtain rfl : d = 2 := by omega); exact bits2 h3
    | (obtain rfl : d = 3 := by omega); exact bits3 h3
    | (obtain rfl : d = 4 := by omega); exact bits4 h3
    | (obtain rfl : d = 5 := by omega); exact bits5 h3
    | (obtain rfl : d = 6 := by omega); exact bits6 h4
end Mine

-- C2
namespace Mine
open PySem PySem.W PyProof.Rows

/-- a turn's end with one made list above the iterator, the rest of the ledger unnamed -/
theorem unr1 {h₀ : Heap} {L I : Addr} {it : Obj} {rest : (Str → Option Value) → List (Addr × Obj) → Prop} {s₁ : Shared} {h' : Heap} {tk : Nat} {m' : Str → Option Value} {a : Addr × Obj} {news : List (Addr × Obj)}
    (F : Fr h₀ L h' m') (N : News h₀ L h' (a :: (I, it) :: news)) (off : ∀ p ∈ news, p.1 < I) (r : rest m' news) : UnrEnd h₀ L s₁ I it rest { s₁ with heap := h', toks := tk } :=
  UnrEnd.intro F N news (fun _ hp => List.mem_cons_of_mem _ hp) (fun p hp => Nat.ne_of_lt (off p hp)) r
set_option maxRecDepth 100000 in
set_option maxHeartbeats 8000000 in
theorem spelt_con (w : World) (s₀ : Shared) (mg mb : Str → Option Value) (news : List (Addr × Obj)) (a : Nat) (ta : Tok) (h3 : a < 65536) :
    Con w s₀ mg mb 124 news [.int (a : Int) ta] (fun t => .str (rowOf a) t) := by
  w_top off
  k_with_none
  k_with "UnrEnd" => (refine unr1 (by assumption) (by assumption) (by assumption) ?_)
  k_with "execs nil" => refine wpAny_execs_nil ?_
  unfold Con P
  k_fill
  dsimp only [CbRet]
  intros
  rename_i hret
  refine wpAny_call ?_
  k_dflt cell_enter
  k_steps
  all_goals refine cb_retS hret ?_ (by k_asm) (by k_asm)
  exact spelt_eq h3
end Mine

-- C3
namespace Mine
open PySem PySem.W PySem.Calls PyProof.Rows PyProof.V PySem.Spec

def PermIs (a i : Nat) (vs : List Value) : Prop := vs.length = i ∧ ∀ j, j < i → ∃ t, vs[j]? = some (.str ⟨#[signAt a j]⟩ t)

section
variable {prog : Program} {w : World} {A : Around} {E : Value → Shared → Prop} {s : Shared} {env : Env} {h₀ : Heap} {body : List Stmt} {Q : Flow → Shared → Prop} {K : Frag}
abbrev fmLed (p : Addr) (news : List (Addr × Obj)) (c : List Value × Nat) : List (Addr × Obj) := (p, listOf c.1.toArray c.2) :: news
abbrev fmPs (p : Addr) (a : Nat) (ta : Tok) (_ : List Value × Nat) : List (Str × Value) := [(Str.ofString "perm", .ref p), (Str.ofString "mode", .int (a : Int) ta)]
theorem fm_loop {elts : List PySem.Expr} {k : Nat} {pos : Pos} {l p : Addr} {lo : Obj} {vs : List Value} {nn n0 : Nat} {m₀ : Str → Option Value} {news : List (Addr × Obj)} {a : Nat} {ta : Tok}
    (hh : A.handled = none) (X₀ : K.In h₀) (hlk : K.lookup l = some lo) (hc : lo.cls = .type "tuple") (hd : lo.data = .seq vs.toArray nn) (F : Fr h₀ env.locals s.heap m₀) (N : News h₀ env.locals s.heap ((p, listOf #[] n0) :: news))
    (hp : m₀ (Str.ofString "perm") = some (.ref p)) (hm : m₀ (Str.ofString "mode") = some (.int (a : Int) ta)) (hoff : ∀ q ∈ news, q.1 < p)
    (turn : ∀ (i : Nat) us n x t T h tk own u, vs[i]? = some x → us.length = i → PermIs a i us → IsTup h T #[.int ((i : Nat) : Int) t, x] → OwnOff (news ++ own) [p] → Fr h₀ env.locals h (kstB u (fmPs p a ta (us, n))) → News h₀ env.locals h ((p, listOf us.toArray n) :: (news ++ own)) →
      wpAny (model prog w) A (assign (.Tuple elts k pos) env (.ref T)) (fun _ s₃ => wpAny (model prog w) A (execs body env) (TPost h₀ env.locals (fmLed p news) (fmPs p a ta) (fun c => PermIs a (i + 1) c.1) own { s with heap := h, toks := tk } Q) E s₃) E { s with heap := h, toks := tk })
    (done : ∀ us n h tk u, PermIs a vs.length us → Fr h₀ env.locals h (kstB u (fmPs p a ta (us, n))) → News h₀ env.locals h ((p, listOf us.toArray n) :: news) → Q .next { s with heap := h, toks := tk }) :
    wpAny (model prog w) A (call (.type "enumerate") [.ref l]) (fun xv s₁ => wpAny (model prog w) A (pyIter xv) (fun it s₂ => TurnsAt prog w A h₀ env (.Tuple elts k pos) body Q E it s₂) E s₁) E s := by
  refine enum_K (fmLed p news) (fmPs p a ta) (fun i c => PermIs a i c.1) (p :: news.map (·.1)) ([], n0) hh X₀ hlk hc hd F N (fun _ => rfl) ?_ ⟨rfl, fun j hj => absurd hj (Nat.not_lt_zero _)⟩ ?_ ?_
  · intro q hq
    rcases List.mem_cons.mp hq with rfl | hq
    · exact hp
    · rw [List.mem_singleton.mp hq]; exact hm
  · rintro i ⟨us, n⟩ x t T h tk own u hx hT hI ho F' N'
    refine turn i us n x t T h tk own u hx hI.1 hI hT ?_ F' N'
    intro q hq b hb
    rw [List.mem_singleton.mp hb]
    rcases List.mem_append.mp hq with hq | hq
    · exact Nat.ne_of_lt (hoff q hq)
    · exact ho q hq p (List.mem_cons_self ..)
  · rintro ⟨us, n⟩ h tk u hI F' N'
    exact done us n h tk u hI F' N'

theorem fm_end {p : Addr} {news own all : List (Addr × Obj)} {a i : Nat} {ta t : Tok} {us : List Value} {v : Value} {n' : Nat} {L : Addr} {h' : Heap} {m' : Str → Option Value} {s₁ : Shared} {tk : Nat}
    (F : Fr h₀ L h' m') (N : News h₀ L h' all) (sub : ∀ q ∈ (p, listOf (us.toArray.push v) n') :: (news ++ own), q ∈ all)
    (hp : m' (Str.ofString "perm") = some (.ref p)) (hm : m' (Str.ofString "mode") = some (.int (a : Int) ta)) (hI : PermIs a i us) (hv : v = .str ⟨#[signAt a i]⟩ t) :
    TEnd h₀ L (fmLed p news) (fmPs p a ta) (fun c => PermIs a (i + 1) c.1) own s₁ { s₁ with heap := h', toks := tk } := by
  refine TEnd.intro (us ++ [v], n') F N ?_ (fun q hq => sub q (List.mem_cons_of_mem _ (List.mem_append_right _ hq))) ?_ ?_
  · intro q hq
    refine sub q ?_
    rcases List.mem_cons.mp hq with rfl | hq
    · rw [List.push_toArray]; exact List.mem_cons_self ..
    · exact List.mem_cons_of_mem _ (List.mem_append_left _ hq)
  · intro q hq
    rcases List.mem_cons.mp hq with rfl | hq
    · exact hp
    · rw [List.mem_singleton.mp hq]; exact hm
  · refine ⟨by simp [hI.1], fun j hj => ?_⟩
    rcases Nat.lt_or_ge j i with h | h
    · obtain ⟨t', e⟩ := hI.2 j h
      exact ⟨t', by rw [List.getElem?_append_left (by rw [hI.1]; exact h)]; exact e⟩
    · have e : j = i := by omega
      subst e
      exact ⟨t, by rw [← hI.1, List.getElem?_append_right (Nat.le_refl _), Nat.sub_self, hv, hI.1]; rfl⟩
theorem ten10 : ∀ i : Nat, i < 10 → i = 0 ∨ i = 1 ∨ i = 2 ∨ i = 3 ∨ i = 4 ∨ i = 5 ∨ i = 6 ∨ i = 7 ∨ i = 8 ∨ i = 9 := by decide
theorem ten {vs : List Value} {i : Nat} {x : Value} (hl : vs.length = 10) (hx : vs[i]? = some x) : i = 0 ∨ i = 1 ∨ i = 2 ∨ i = 3 ∨ i = 4 ∨ i = 5 ∨ i = 6 ∨ i = 7 ∨ i = 8 ∨ i = 9 :=
  ten10 i (hl ▸ (List.getElem?_eq_some_iff.mp hx).1)
theorem vstr {x y : Str} {t : Tok} (h : x = y) : Value.str x t = Value.str y t := by rw [h]
abbrev signs10 (a : Nat) : List Str := [⟨#[signAt a 0]⟩, ⟨#[signAt a 1]⟩, ⟨#[signAt a 2]⟩, ⟨#[signAt a 3]⟩, ⟨#[signAt a 4]⟩, ⟨#[signAt a 5]⟩, ⟨#[signAt a 6]⟩, ⟨#[signAt a 7]⟩, ⟨#[signAt a 8]⟩, ⟨#[signAt a 9]⟩]
theorem strs_at : ∀ (us : List Value) (ss : List Str), us.length = ss.length → (∀ (j : Nat) (x : Str), ss[j]? = some x → ∃ t, us[j]? = some (Value.str x t)) → StrsAre us ss
  | [], [], _, _ => .nil
  | [], _ :: _, h, _ => nomatch h
  | _ :: _, [], h, _ => nomatch h
  | u :: us, x :: ss, h, hj => by
    obtain ⟨t, e⟩ := hj 0 x rfl
    cases e
    exact .cons x t (strs_at us ss (Nat.succ.inj h) fun j y hy => hj (j + 1) y hy)
theorem signs_at (a : Nat) (j : Nat) (x : Str) (h : (signs10 a)[j]? = some x) : j < 10 ∧ x = ⟨#[signAt a j]⟩ := by
  match j, h with
  | 0, h | 1, h | 2, h | 3, h | 4, h | 5, h | 6, h | 7, h | 8, h | 9, h => exact ⟨Nat.le_of_ble_eq_true rfl, (Option.some.inj h).symm⟩
theorem perm_strs {a : Nat} {us : List Value} (h : PermIs a 10 us) : StrsAre us (signs10 a) := by
  refine strs_at us (signs10 a) h.1 fun j x hx => ?_
  obtain ⟨hj, rfl⟩ := signs_at a j x hx
  exact h.2 j hj
theorem join_row (a : Nat) : Txt.join (Str.ofString "") (signs10 a) = rowOf a := rfl
theorem unr0 {L I : Addr} {it : Obj} {rest : (Str → Option Value) → List (Addr × Obj) → Prop} {s₁ : Shared} {h' : Heap} {tk : Nat} {m' : Str → Option Value} {news : List (Addr × Obj)}
    (F : Fr h₀ L h' m') (N : News h₀ L h' ((I, it) :: news)) (off : ∀ p ∈ news, p.1 < I) (r : rest m' news) : UnrEnd h₀ L s₁ I it rest { s₁ with heap := h', toks := tk } :=
  UnrEnd.intro F N news (fun _ hp => hp) (fun p hp => Nat.ne_of_lt (off p hp)) r
end


set_option maxRecDepth 100000 in
set_option maxHeartbeats 8000000 in
theorem filemode_con (w : World) (s₀ : Shared) (mg mb : Str → Option Value) (news : List (Addr × Obj)) (a : Nat) (ta : Tok) (h3 : a < 65536) :
    Con w s₀ mg mb 117 news [.int (a : Int) ta] (fun t => .str (rowOf a) t) := by
  w_top off
  k_with_none
  k_with "execs nil" => refine wpAny_execs_nil ?_
  k_with "exec For Tuple Call cons nil" => (k_here; (rename Fr _ _ _ _ => lF'); (with_unfolding_all refine' For_turns lF' ?_; k_whole))
  k_with "call type:enumerate" => (k_here; (with_unfolding_all refine' fm_loop ?hh ?X ?lk ?hc ?hd ?F ?N ?hp ?hm ?hoff ?_ ?_); (case hh => exact rfl); (case X => k_asm); (case lk => k_is); (case hc => exact rfl); (case hd => exact rfl); (case F => k_asm); (case N => k_asm); (case hp => exact rfl); (case hm => exact rfl); (case hoff => assumption); all_goals (first | (intro i us n x t T h' tk' own u hx hlen hI hT hO F' N'; (have hi10 := ten rfl hx); rcases hi10 with e | e | e | e | e | e | e | e | e | e <;> (subst e; cases hx; (try k_fold))) | (intro us n h' tk' u hI F' N'; (try k_fold))))
  k_with "exec For Tuple Name cons cons" => (k_here; k_dflt (refine' for_else_K ?hh ?X ?F ?N ?lk ?hc ?hd ?hit ?_ ?hs ?hE); (case hh => exact rfl); (case X => k_asm); (case F => k_asm); (case N => k_asm); (case hit => k_dflt (exact ld (by k_asm) (by rfl) ⟨rfl, rfl⟩)); (case lk => k_is); (case hc => exact rfl); (case hd => exact rfl); (case hs => (intro _; rfl)); (case hE => passes_own); (intro i' l1; (have l2 := ltN (l1 _ (List.mem_cons_self ..))); (try dsimp only at l2)))
  k_with "ElseRest" => (with_unfolding_all first | (refine ElseRest.succ (fun it' h' tk' F' N' => ?_)) | (refine ElseRest.zero (fun h' tk' F' N' => ?_)))
  k_with "UnrEnd" => (refine unr0 (by assumption) (by assumption) (by assumption) ?_)
  k_with "call builtin:str.join" => (k_here; k_dflt (refine join_listW (News.isList (by assumption) (.head _)) (perm_strs (by assumption)) (by decide) (Nat.le_of_ble_eq_true rfl) ?_); intro _ _)
  k_with "TPost" => (dsimp only [TPost])
  unfold Con P
  k_fill
  dsimp only [CbRet]
  intros
  rename_i hret
  have kmark := kstMark
  refine wpAny_call ?_
  k_dflt cell_enter
  k_steps
  all_goals first
    | (refine cb_retS hret ?_ (by k_asm) (cb_drop (news' := (_, _) :: news) (by assumption) (fun p hp => List.mem_cons_of_mem _ hp)); exact join_row a)
    | (refine fm_end (by assumption) (by assumption) (fun q hq => by first | exact hq | exact List.mem_cons_of_mem _ hq) (by rfl) (by rfl) (by assumption) (vstr ?_)
       with_reducible first | exact fm0_10 h3 (by assumption) | exact fm0_12 h3 (by assumption) | exact fm0_8 h3 (by assumption) | exact fm0_6 h3 (by assumption) | exact fm0_4 h3 (by assumption) | exact fm0_2 h3 (by assumption) | exact fm0_1 h3 (by assumption) | exact fm0_e h3 (by assumption) (by assumption) (by assumption) (by assumption) (by assumption) (by assumption) (by assumption) | exact fm1_1 (by assumption) | exact fm1_2 (by assumption) | exact fm2_1 (by assumption) | exact fm2_2 (by assumption) | exact fm4_1 (by assumption) | exact fm4_2 (by assumption) | exact fm5_1 (by assumption) | exact fm5_2 (by assumption) | exact fm7_1 (by assumption) | exact fm7_2 (by assumption) | exact fm8_1 (by assumption) | exact fm8_2 (by assumption) | exact fm3_1 (by assumption) | exact fm3_2 (by assumption) (by assumption) | exact fm3_3 (by assumption) (by assumption) | exact fm3_4 (by assumption) (by assumption) | exact fm6_1 (by assumption) | exact fm6_2 (by assumption) (by assumption) | exact fm6_3 (by assumption) (by assumption) | exact fm6_4 (by assumption) (by assumption) | exact fm9_1 (by assumption) | exact fm9_2 (by assumption) (by assumption) | exact fm9_3 (by assumption) (by assumption) | exact fm9_4 (by assumption) (by assumption))
end Mine

-- C4
namespace Mine
open PySem PySem.W PySem.Calls PyProof.Rows PyProof.V PySem.Spec

section
variable {prog : Program} {w : World} {A : Around} {E : Value → Shared → Prop} {s : Shared} {env : Env} {h₀ : Heap} {body : List Stmt} {Q : Flow → Shared → Prop}

theorem tok_any {α : Type} {M : Model} {t : Sem α} {R : α → Shared → Prop} {h : Heap} {g : Array GenState} {d : Drawn} {os : OsState} {X : Nat} (H : ∀ tk, wpAny M A t R E ⟨h, g, d, tk, os⟩) : wpAny M A t R E ⟨h, g, d, X, os⟩ := H X

open PySem.Builtin.Str in
theorem occ_R : ∀ b : Bool, occurrences (Str.ofString "-r") ⟨#[cR b]⟩ 0 (Str.ofString "-r").length 1 = [b.toNat] := by decide +kernel
open PySem.Builtin.Str in
theorem occ_W : ∀ b : Bool, occurrences (Str.ofString "-w") ⟨#[cW b]⟩ 0 (Str.ofString "-w").length 1 = [b.toNat] := by decide +kernel
open PySem.Builtin.Str in
theorem occ_X : ∀ x s : Bool, occurrences (Str.ofString "-xSs") ⟨#[cX x s]⟩ 0 (Str.ofString "-xSs").length 1 = [x.toNat + 2 * s.toNat] := by decide +kernel
open PySem.Builtin.Str in
theorem occ_T : ∀ x s : Bool, occurrences (Str.ofString "-xTt") ⟨#[cT x s]⟩ 0 (Str.ofString "-xTt").length 1 = [x.toNat + 2 * s.toNat] := by decide +kernel
open PySem.Builtin.Str in
theorem occ_j (n : Nat) : ∀ j, 1 ≤ j → j ≤ 9 → occurrences (colS j) ⟨#[signAt n j]⟩ 0 (colS j).length 1 = [dN n j]
  | 1, _, _ => occ_R _
  | 2, _, _ => occ_W _
  | 3, _, _ => occ_X _ _
  | 4, _, _ => occ_R _
  | 5, _, _ => occ_W _
  | 6, _, _ => occ_X _ _
  | 7, _, _ => occ_R _
  | 8, _, _ => occ_W _
  | 9, _, _ => occ_T _ _
  | 0, h, _ => absurd h (by decide)
  | _ + 10, _, h => absurd h (by omega)
/-- a sign's place in its column -/
theorem ix_call {n j : Nat} {t u : Tok} {col : Str} {R : Value → Shared → Prop} (hc : col = colS j) (h1 : 1 ≤ j) (h9 : j ≤ 9) (h : R (.int (dg n j) s.toks) { s with toks := s.toks + 1 }) :
    wpAny (model prog w) A (call (.builtin "str.index") [.str col t, .str ⟨#[signAt n j]⟩ u]) R E s := by
  subst hc
  exact SC.index (occ_j n j h1 h9) h
theorem ix_i3 {n : Nat} {t u : Tok} {R : Value → Shared → Prop} (h : R (.int (dg n 3) s.toks) { s with toks := s.toks + 1 }) :
    wpAny (model prog w) A (call (.builtin "str.index") [.str (Str.ofString "-xSs") t, .str (Txt.item (rowOf n) 3) u]) R E s := SC.index (occ_j n 3 (by decide) (by decide)) h
theorem ix_i9 {n : Nat} {t u : Tok} {R : Value → Shared → Prop} (h : R (.int (dg n 9) s.toks) { s with toks := s.toks + 1 }) :
    wpAny (model prog w) A (call (.builtin "str.index") [.str (Str.ofString "-xTt") t, .str (Txt.item (rowOf n) 9) u]) R E s := SC.index (occ_j n 9 (by decide) (by decide)) h

theorem sub_n (n : Nat) {value slice : PySem.Expr} {x : PySem.Str} {t u : Tok} {i : Int} {R : Value → Shared → Prop} (hn : n ≤ 16) (hk : x.length = n) (h0 : 0 ≤ i) (h1 : i < (n : Int)) (h : R (.str (Txt.item x i) s.toks) { s with toks := s.toks + 1 })
    (hs : subscripted slice false (.str x t) (.int i u) = operate [.str x t, .int i u] (getItem (.str x t) (.int i u)) := by with_unfolding_all rfl)
    (ht : ∀ r, letTemporaryGo value (.str x t) r = pure () := by intro _; with_unfolding_all rfl) :
    wpAny (model prog w) A (subscriptTail value slice (.str x t) (.int i u)) R E s := KXi.item hk (by omega) h1 (by omega) (fun _ => h) hs ht

def szN : Nat → Int
  | 1 => 2 | 2 => 2 | 3 => 4 | 4 => 2 | 5 => 2 | 6 => 4 | 7 => 2 | 8 => 2 | 9 => 4 | _ => 0
theorem known_all (a b : Nat) : ∀ j, 1 ≤ j → j ≤ 9 → Known (szN j) (dg a j) (dg b j)
  | 1, _, _ => known1 a b
  | 2, _, _ => known2 a b
  | 3, _, _ => known3 a b
  | 4, _, _ => known4 a b
  | 5, _, _ => known5 a b
  | 6, _, _ => known6 a b
  | 7, _, _ => known7 a b
  | 8, _, _ => known8 a b
  | 9, _, _ => known9 a b
  | 0, h, _ => absurd h (by decide)
  | _ + 10, _, h => absurd h (by omega)

theorem slice_tail (n : Nat) : Txt.slice (rowOf n) (some 1) none = ⟨#[signAt n 1, signAt n 2, signAt n 3, signAt n 4, signAt n 5, signAt n 6, signAt n 7, signAt n 8, signAt n 9]⟩ := by
  have e : PySem.Builtin.Str.strSliceIndices (some 1) none 1 (rowOf n).length = [1, 2, 3, 4, 5, 6, 7, 8, 9] := by
    show PySem.Builtin.Str.strSliceIndices (some 1) none 1 10 = _
    decide +kernel
  unfold Txt.slice
  rw [e]
  rfl
theorem slice_head (n : Nat) : Txt.slice (rowOf n) none (some 7) = ⟨#[signAt n 0, signAt n 1, signAt n 2, signAt n 3, signAt n 4, signAt n 5, signAt n 6]⟩ := by
  have e : PySem.Builtin.Str.strSliceIndices none (some 7) 1 (rowOf n).length = [0, 1, 2, 3, 4, 5, 6] := by
    show PySem.Builtin.Str.strSliceIndices none (some 7) 1 10 = _
    decide +kernel
  unfold Txt.slice
  rw [e]
  rfl
theorem slice_mid (n : Nat) : Txt.slice (rowOf n) (some 1) (some 3) = ⟨#[signAt n 1, signAt n 2]⟩ := by
  have e : PySem.Builtin.Str.strSliceIndices (some 1) (some 3) 1 (rowOf n).length = [1, 2] := by
    show PySem.Builtin.Str.strSliceIndices (some 1) (some 3) 1 10 = _
    decide +kernel
  unfold Txt.slice
  rw [e]
  rfl
theorem slice_size (n : Nat) : (Txt.slice (rowOf n) (some 1) none).cps.size = 9 := by rw [slice_tail]; rfl
theorem slice_at (n i : Nat) (hi : i < 9) : (Txt.slice (rowOf n) (some 1) none).cps[i]? = some (signAt n (i + 1)) := by
  rw [slice_tail]
  match i, hi with
  | 0, _ => rfl
  | 1, _ => rfl
  | 2, _ => rfl
  | 3, _ => rfl
  | 4, _ => rfl
  | 5, _ => rfl
  | 6, _ => rfl
  | 7, _ => rfl
  | 8, _ => rfl
  | _ + 9, h => exact absurd h (by omega)
theorem rowPre_len (n : Nat) : ∀ i, (rowPre n i).length = i + 1
  | 0 => rfl
  | i + 1 => by rw [rowPre, Str.length_append, rowPre_len n i]; rfl

abbrev sgLed (news : List (Addr × Obj)) (_ : Nat × Tok) : List (Addr × Obj) := news
abbrev sgPs (n : Nat) (d : Int) (td : Tok) (c : Nat × Tok) : List (Str × Value) := [(Str.ofString "row", .str (rowPre n c.1) c.2), (Str.ofString "deed", .int d td)]
theorem sg_loop {elts : List PySem.Expr} {k : Nat} {pos : Pos} {l : Addr} {xs : List Value} {nn : Nat} {a b : Nat} {tx ty : Tok} {m₀ : Str → Option Value} {news : List (Addr × Obj)} {d : Int} {td tr : Tok} {x0 : Str}
    (hh : A.handled = none) (F : Fr h₀ env.locals s.heap m₀) (N : News h₀ env.locals s.heap ((l, listOf xs.toArray nn) :: news)) (hx : xs.length = 9) (hoff : ∀ q ∈ news, q.1 < l)
    (hr : m₀ (Str.ofString "row") = some (.str x0 tr)) (h0 : x0 = ⟨#[signAt a 0]⟩) (h5 : d.toNat ≤ 5) (hd : m₀ (Str.ofString "deed") = some (.int d td))
    (turn : ∀ (i : Nat) tr v t1 t2 T h tk own u, i < 9 → xs[i]? = some v → IsTup h T #[v, .str ⟨#[signAt a (i + 1)]⟩ t1, .str ⟨#[signAt b (i + 1)]⟩ t2] → Known (szN (i + 1)) (dg a (i + 1)) (dg b (i + 1)) → (rowPre (newOf d.toNat a b) i).length = i + 1 →
      Fr h₀ env.locals h (kstB u (sgPs (newOf d.toNat a b) d td (i, tr))) → News h₀ env.locals h (news ++ own) →
      wpAny (model prog w) A (assign (.Tuple elts k pos) env (.ref T)) (fun _ s₃ => wpAny (model prog w) A (execs body env) (TPost h₀ env.locals (sgLed news) (sgPs (newOf d.toNat a b) d td) (fun c => c.1 = i + 1) own { s with heap := h, toks := tk } Q) E s₃) E { s with heap := h, toks := tk })
    (done : ∀ tr h tk u, Fr h₀ env.locals h (kstB u (sgPs (newOf d.toNat a b) d td (9, tr))) → News h₀ env.locals h news → Q .next { s with heap := h, toks := tk }) :
    wpAny (model prog w) A (call (.type "zip") [.ref l, .str (Txt.slice (rowOf a) (some 1) none) tx, .str (Txt.slice (rowOf b) (some 1) none) ty]) (fun xv s₁ => wpAny (model prog w) A (pyIter xv) (fun it s₂ => TurnsAt prog w A h₀ env (.Tuple elts k pos) body Q E it s₂) E s₁) E s := by
  refine zip3_led (sgLed news) (sgPs (newOf d.toNat a b) d td) (fun i c => c.1 = i) (news.map (·.1)) (0, tr) hh F N (List.mem_cons_self ..) (by rw [hx, slice_size]) (by rw [hx, slice_size]) (fun p hp => List.mem_cons_of_mem _ hp) (fun _ => rfl) ?_ ?_ rfl ?_ ?_
  · intro hm
    obtain ⟨q, hq, e⟩ := List.mem_map.mp hm
    exact absurd (hoff q hq) (by rw [e]; exact Nat.lt_irrefl _)
  · intro p hp
    rcases List.mem_cons.mp hp with rfl | hp
    · show m₀ _ = some (.str ⟨#[signAt (newOf d.toNat a b) 0]⟩ tr)
      rw [nk h5, ← h0]; exact hr
    · rw [List.mem_singleton.mp hp]; exact hd
  · rintro i ⟨c, tr⟩ v c1 c2 t1 t2 T h tk own u hv e1 e2 hT (rfl : c = i) ho F' N'
    have hi : c < 9 := by
      obtain ⟨q, _⟩ := List.getElem?_eq_some_iff.mp hv
      omega
    rw [slice_at a c hi] at e1
    rw [slice_at b c hi] at e2
    cases e1
    cases e2
    exact turn c tr v t1 t2 T h tk own u hi hv hT (known_all a b _ (by omega) (by omega)) (rowPre_len _ c) F' N'
  · rintro ⟨c, tr⟩ h tk u hI F' N'
    have hc : c = 9 := by
      have : c = xs.length := hI
      omega
    subst hc
    exact done tr h tk u F' N'

theorem sg_end {news own all : List (Addr × Obj)} {n i : Nat} {d : Int} {td t : Tok} {L : Addr} {h' : Heap} {m' : Str → Option Value} {s₁ : Shared} {tk : Nat} {x y : Str}
    (F : Fr h₀ L h' m') (N : News h₀ L h' all) (sub : ∀ q ∈ news ++ own, q ∈ all) (hr : m' (Str.ofString "row") = some (.str (x ++ y) t)) (hd : m' (Str.ofString "deed") = some (.int d td)) (hx : x = rowPre n i) (hy : y = ⟨#[signAt n (i + 1)]⟩) :
    TEnd h₀ L (sgLed news) (sgPs n d td) (fun c => c.1 = i + 1) own s₁ { s₁ with heap := h', toks := tk } := by
  refine TEnd.intro (i + 1, t) F N (fun q hq => sub q (List.mem_append_left _ hq)) (fun q hq => sub q (List.mem_append_right _ hq)) ?_ rfl
  intro p hp
  rcases List.mem_cons.mp hp with rfl | hp
  · rw [hr, hx, hy]; rfl
  · rw [List.mem_singleton.mp hp]; exact hd
end


theorem last_range (a : Nat) : 0 ≤ (dg a 3).fmod 2 + (dg a 9).fdiv 2 * 2 ∧ (dg a 3).fmod 2 + (dg a 9).fdiv 2 * 2 < 4 := by
  show 0 ≤ (((dN a 3 : Nat) : Int)).fmod 2 + (((dN a 9 : Nat) : Int)).fdiv 2 * 2 ∧ (((dN a 3 : Nat) : Int)).fmod 2 + (((dN a 9 : Nat) : Int)).fdiv 2 * 2 < 4
  rw [fm2, fd2]
  have h := (known9 a a).x1
  have h' : ((dN a 9 : Nat) : Int) < 4 := h
  omega
theorem last_item (a b : Nat) : Txt.item (Str.ofString "-xTt") ((dg a 3).fmod 2 + (dg a 9).fdiv 2 * 2) = ⟨#[signAt (newOf 5 a b) 9]⟩ := by
  have q : signAt (newOf 5 a b) 9 = cT ((newOf 5 a b).testBit 0) ((newOf 5 a b).testBit 9) := rfl
  rw [q, nb5l a b (by decide : 0 < 3), nb5 a b (by decide : 9 < 12) (by decide)]
  have h : ∀ x s y r : Bool, Txt.item (Str.ofString "-xTt") ((((x.toNat + 2 * s.toNat : Nat) : Int)).fmod 2 + (((y.toNat + 2 * r.toNat : Nat) : Int)).fdiv 2 * 2) = ⟨#[cT x r]⟩ := by decide +kernel
  exact h (a.testBit 6) (a.testBit 11) (a.testBit 0) (a.testBit 9)
theorem row5 (a b : Nat) : Txt.slice (rowOf a) none (some 7) ++ Txt.slice (rowOf a) (some 1) (some 3) ++ Txt.item (Str.ofString "-xTt") ((dg a 3).fmod 2 + (dg a 9).fdiv 2 * 2) = rowOf (newOf 5 a b) := by
  rw [last_item a b, slice_head, slice_mid]
  have e0 : signAt (newOf 5 a b) 0 = signAt a 0 := nk (by decide)
  have e1 : signAt (newOf 5 a b) 1 = signAt a 1 := by show cR _ = cR _; rw [nb5 a b (by decide) (by decide)]
  have e2 : signAt (newOf 5 a b) 2 = signAt a 2 := by show cW _ = cW _; rw [nb5 a b (by decide) (by decide)]
  have e3 : signAt (newOf 5 a b) 3 = signAt a 3 := by show cX _ _ = cX _ _; rw [nb5 a b (by decide) (by decide), nb5 a b (by decide) (by decide)]
  have e4 : signAt (newOf 5 a b) 4 = signAt a 4 := by show cR _ = cR _; rw [nb5 a b (by decide) (by decide)]
  have e5 : signAt (newOf 5 a b) 5 = signAt a 5 := by show cW _ = cW _; rw [nb5 a b (by decide) (by decide)]
  have e6 : signAt (newOf 5 a b) 6 = signAt a 6 := by show cX _ _ = cX _ _; rw [nb5 a b (by decide) (by decide), nb5 a b (by decide) (by decide)]
  have e7 : signAt (newOf 5 a b) 7 = signAt a 1 := by show cR _ = cR _; rw [nb5l a b (by decide)]
  have e8 : signAt (newOf 5 a b) 8 = signAt a 2 := by show cW _ = cW _; rw [nb5l a b (by decide)]
  show _ = (⟨#[_, _, _, _, _, _, _, _, _, _]⟩ : Str)
  rw [e0, e1, e2, e3, e4, e5, e6, e7, e8]
  rfl
theorem row6 (a b : Nat) : Txt.item (rowOf b) 0 ++ Txt.slice (rowOf a) (some 1) none = rowOf (newOf 6 a b) := by
  rw [slice_tail]
  have e0 : signAt (newOf 6 a b) 0 = signAt b 0 := nk6
  have e1 : signAt (newOf 6 a b) 1 = signAt a 1 := by show cR _ = cR _; rw [nb6 a b (by decide)]
  have e2 : signAt (newOf 6 a b) 2 = signAt a 2 := by show cW _ = cW _; rw [nb6 a b (by decide)]
  have e3 : signAt (newOf 6 a b) 3 = signAt a 3 := by show cX _ _ = cX _ _; rw [nb6 a b (by decide), nb6 a b (by decide)]
  have e4 : signAt (newOf 6 a b) 4 = signAt a 4 := by show cR _ = cR _; rw [nb6 a b (by decide)]
  have e5 : signAt (newOf 6 a b) 5 = signAt a 5 := by show cW _ = cW _; rw [nb6 a b (by decide)]
  have e6 : signAt (newOf 6 a b) 6 = signAt a 6 := by show cX _ _ = cX _ _; rw [nb6 a b (by decide), nb6 a b (by decide)]
  have e7 : signAt (newOf 6 a b) 7 = signAt a 7 := by show cR _ = cR _; rw [nb6 a b (by decide)]
  have e8 : signAt (newOf 6 a b) 8 = signAt a 8 := by show cW _ = cW _; rw [nb6 a b (by decide)]
  have e9 : signAt (newOf 6 a b) 9 = signAt a 9 := by show cT _ _ = cT _ _; rw [nb6 a b (by decide), nb6 a b (by decide)]
  show _ = (⟨#[_, _, _, _, _, _, _, _, _, _]⟩ : Str)
  rw [e0, e1, e2, e3, e4, e5, e6, e7, e8, e9]
  rfl

set_option maxRecDepth 100000 in
set_option maxHeartbeats 8000000 in
theorem signs5 (w : World) (s₀ : Shared) (mg mb : Str → Option Value) (news : List (Addr × Obj)) (a b : Nat) (td ta tb : Tok) :
    Con w s₀ mg mb 138 news [.int 5 td, .str (rowOf a) ta, .str (rowOf b) tb] (fun t => .str (rowOf (newOf 5 a b)) t) := by
  w_top off
  k_with_none
  k_with "execs nil" => refine wpAny_execs_nil ?_
  k_with "execs cons" => (refine tok_any (fun tk => ?_); refine wpAny_execs_cons ?_)
  k_with "exec For Tuple Call cons nil" => (k_here; (rename Fr _ _ _ _ => lF'); (with_unfolding_all refine' For_turns lF' ?_; k_whole))
  k_with "subscriptTail Name Name str int" => (k_here; k_dflt (first | refine sub_n 2 (by decide) (by rfl) (by with_reducible omega) (by with_reducible omega) ?_ | refine sub_n 4 (by decide) (by rfl) (by with_reducible omega) (by with_reducible omega) ?_ | refine sub_n 10 (by decide) (by rfl) (by with_reducible omega) (by with_reducible omega) ?_))
  k_with "subscriptTail Name BinOp str int" => (k_here; k_dflt (first | refine sub_n 2 (by decide) (by rfl) (by with_reducible omega) (by with_reducible omega) ?_ | refine sub_n 4 (by decide) (by rfl) (by with_reducible omega) (by with_reducible omega) ?_))
  k_with "call builtin:str.index" => (k_here; k_dflt (first | refine ix_i3 ?_ | refine ix_i9 ?_))
  k_with "TPost" => (dsimp only [TPost])
  unfold Con P
  k_fill
  dsimp only [CbRet]
  intros
  rename_i hret
  have hla : (rowOf a).length = 10 := rfl
  have hlb : (rowOf b).length = 10 := rfl
  obtain ⟨hr0, hr1⟩ := last_range a
  refine wpAny_call ?_
  k_dflt cell_enter
  k_steps
  all_goals (refine cb_retS hret ?_ (by k_asm) (by k_asm); exact row5 a b)
set_option maxRecDepth 100000 in
set_option maxHeartbeats 8000000 in
theorem signs6 (w : World) (s₀ : Shared) (mg mb : Str → Option Value) (news : List (Addr × Obj)) (a b : Nat) (td ta tb : Tok) :
    Con w s₀ mg mb 138 news [.int 6 td, .str (rowOf a) ta, .str (rowOf b) tb] (fun t => .str (rowOf (newOf 6 a b)) t) := by
  w_top off
  k_with_none
  k_with "execs nil" => refine wpAny_execs_nil ?_
  k_with "execs cons" => (refine tok_any (fun tk => ?_); refine wpAny_execs_cons ?_)
  k_with "exec For Tuple Call cons nil" => (k_here; (rename Fr _ _ _ _ => lF'); (with_unfolding_all refine' For_turns lF' ?_; k_whole))
  k_with "subscriptTail Name Name str int" => (k_here; k_dflt (first | refine sub_n 2 (by decide) (by rfl) (by with_reducible omega) (by with_reducible omega) ?_ | refine sub_n 4 (by decide) (by rfl) (by with_reducible omega) (by with_reducible omega) ?_ | refine sub_n 10 (by decide) (by rfl) (by with_reducible omega) (by with_reducible omega) ?_))
  k_with "subscriptTail Name BinOp str int" => (k_here; k_dflt (first | refine sub_n 2 (by decide) (by rfl) (by with_reducible omega) (by with_reducible omega) ?_ | refine sub_n 4 (by decide) (by rfl) (by with_reducible omega) (by with_reducible omega) ?_))
  k_with "call builtin:str.index" => (k_here; k_dflt (first | refine ix_i3 ?_ | refine ix_i9 ?_))
  k_with "TPost" => (dsimp only [TPost])
  unfold Con P
  k_fill
  dsimp only [CbRet]
  intros
  rename_i hret
  have hla : (rowOf a).length = 10 := rfl
  have hlb : (rowOf b).length = 10 := rfl
  refine wpAny_call ?_
  k_dflt cell_enter
  k_steps
  all_goals (refine cb_retS hret ?_ (by k_asm) (by k_asm); exact row6 a b)
end Mine

-- C5
namespace Mine
open PySem PySem.W PySem.Calls PyProof.Rows PyProof.V PySem.Spec
section
variable {prog : Program} {w : World} {A : Around} {E : Value → Shared → Prop} {s : Shared} {env : Env} {h₀ : Heap} {body : List Stmt} {Q : Flow → Shared → Prop}
theorem col_len : ∀ j, 1 ≤ j → j ≤ 9 → (((colS j).length : Nat) : Int) = szN j
  | 1, _, _ => rfl
  | 2, _, _ => rfl
  | 3, _, _ => rfl
  | 4, _, _ => rfl
  | 5, _, _ => rfl
  | 6, _, _ => rfl
  | 7, _, _ => rfl
  | 8, _, _ => rfl
  | 9, _, _ => rfl
  | 0, h, _ => absurd h (by decide)
  | _ + 10, _, h => absurd h (by omega)
theorem col_le : ∀ j, (colS j).length ≤ 16
  | 1 => by decide
  | 2 => by decide
  | 3 => by decide
  | 4 => by decide
  | 5 => by decide
  | 6 => by decide
  | 7 => by decide
  | 8 => by decide
  | 9 => by decide
  | 0 => by decide
  | _ + 10 => Nat.le_of_ble_eq_true rfl
theorem sgA0 (a b : Nat) : ∀ j, 1 ≤ j → j ≤ 9 → Txt.item (colS j) (Builtin.bitAnd (dg a j) (dg b j)) = ⟨#[signAt (newOf 0 a b) j]⟩
  | 1, _, _ => sg0_1 a b
  | 2, _, _ => sg0_2 a b
  | 3, _, _ => sg0_3 a b
  | 4, _, _ => sg0_4 a b
  | 5, _, _ => sg0_5 a b
  | 6, _, _ => sg0_6 a b
  | 7, _, _ => sg0_7 a b
  | 8, _, _ => sg0_8 a b
  | 9, _, _ => sg0_9 a b
  | 0, h, _ => absurd h (by decide)
  | _ + 10, _, h => absurd h (by omega)
theorem sgA1 (a b : Nat) : ∀ j, 1 ≤ j → j ≤ 9 → Txt.item (colS j) (Builtin.bitOr (dg a j) (dg b j)) = ⟨#[signAt (newOf 1 a b) j]⟩
  | 1, _, _ => sg1_1 a b
  | 2, _, _ => sg1_2 a b
  | 3, _, _ => sg1_3 a b
  | 4, _, _ => sg1_4 a b
  | 5, _, _ => sg1_5 a b
  | 6, _, _ => sg1_6 a b
  | 7, _, _ => sg1_7 a b
  | 8, _, _ => sg1_8 a b
  | 9, _, _ => sg1_9 a b
  | 0, h, _ => absurd h (by decide)
  | _ + 10, _, h => absurd h (by omega)
theorem sgA2 (a b : Nat) : ∀ j, 1 ≤ j → j ≤ 9 → Txt.item (colS j) (Builtin.bitXor (dg a j) (dg b j)) = ⟨#[signAt (newOf 2 a b) j]⟩
  | 1, _, _ => sg2_1 a b
  | 2, _, _ => sg2_2 a b
  | 3, _, _ => sg2_3 a b
  | 4, _, _ => sg2_4 a b
  | 5, _, _ => sg2_5 a b
  | 6, _, _ => sg2_6 a b
  | 7, _, _ => sg2_7 a b
  | 8, _, _ => sg2_8 a b
  | 9, _, _ => sg2_9 a b
  | 0, h, _ => absurd h (by decide)
  | _ + 10, _, h => absurd h (by omega)
theorem sgA3 (a b : Nat) : ∀ j, 1 ≤ j → j ≤ 9 → Txt.item (colS j) ((dg a j) - Builtin.bitAnd (dg a j) (dg b j)) = ⟨#[signAt (newOf 3 a b) j]⟩
  | 1, _, _ => sg3_1 a b
  | 2, _, _ => sg3_2 a b
  | 3, _, _ => sg3_3 a b
  | 4, _, _ => sg3_4 a b
  | 5, _, _ => sg3_5 a b
  | 6, _, _ => sg3_6 a b
  | 7, _, _ => sg3_7 a b
  | 8, _, _ => sg3_8 a b
  | 9, _, _ => sg3_9 a b
  | 0, h, _ => absurd h (by decide)
  | _ + 10, _, h => absurd h (by omega)
theorem sgA4 (a b : Nat) : ∀ j, 1 ≤ j → j ≤ 9 → Txt.item (colS j) (szN j - 1 - (dg a j)) = ⟨#[signAt (newOf 4 a b) j]⟩
  | 1, _, _ => sg4_1 a b
  | 2, _, _ => sg4_2 a b
  | 3, _, _ => sg4_3 a b
  | 4, _, _ => sg4_4 a b
  | 5, _, _ => sg4_5 a b
  | 6, _, _ => sg4_6 a b
  | 7, _, _ => sg4_7 a b
  | 8, _, _ => sg4_8 a b
  | 9, _, _ => sg4_9 a b
  | 0, h, _ => absurd h (by decide)
  | _ + 10, _, h => absurd h (by omega)
theorem sub_col {j : Nat} {value slice : PySem.Expr} {t u : Tok} {i : Int} {R : Value → Shared → Prop} (h1 : 1 ≤ j) (h9 : j ≤ 9) (h0 : 0 ≤ i) (hi : i < szN j) (h : R (.str (Txt.item (colS j) i) s.toks) { s with toks := s.toks + 1 })
    (hs : subscripted slice false (.str (colS j) t) (.int i u) = operate [.str (colS j) t, .int i u] (getItem (.str (colS j) t) (.int i u)) := by with_unfolding_all rfl)
    (ht : ∀ r, letTemporaryGo value (.str (colS j) t) r = pure () := by intro _; with_unfolding_all rfl) :
    wpAny (model prog w) A (subscriptTail value slice (.str (colS j) t) (.int i u)) R E s :=
  sub_n (colS j).length (col_le j) rfl h0 (by rw [col_len j h1 h9]; exact hi) h hs ht
theorem len_col {j : Nat} {t : Tok} {R : Value → Shared → Prop} (h1 : 1 ≤ j) (h9 : j ≤ 9) (h : R (.int (szN j) (s.toks + 1)) { s with toks := s.toks + 1 + 1 }) :
    wpAny (model prog w) A (call (.builtin "len") [.str (colS j) t]) R E s := by
  have hl := col_le j
  refine len_str (by omega) ?_
  rw [col_len j h1 h9]; exact h
theorem cols9 {t1 t2 t3 t4 t5 t6 t7 t8 t9 : Tok} : ∀ i, i < 9 → ∃ t, [Value.str (Str.ofString "-r") t1, .str (Str.ofString "-w") t2, .str (Str.ofString "-xSs") t3, .str (Str.ofString "-r") t4, .str (Str.ofString "-w") t5, .str (Str.ofString "-xSs") t6, .str (Str.ofString "-r") t7, .str (Str.ofString "-w") t8, .str (Str.ofString "-xTt") t9][i]? = some (.str (colS (i + 1)) t)
  | 0, _ => ⟨_, rfl⟩
  | 1, _ => ⟨_, rfl⟩
  | 2, _ => ⟨_, rfl⟩
  | 3, _ => ⟨_, rfl⟩
  | 4, _ => ⟨_, rfl⟩
  | 5, _ => ⟨_, rfl⟩
  | 6, _ => ⟨_, rfl⟩
  | 7, _ => ⟨_, rfl⟩
  | 8, _ => ⟨_, rfl⟩
  | _ + 9, h => absurd h (by omega)
theorem sg_loop2 {elts : List PySem.Expr} {k : Nat} {pos : Pos} {l : Addr} {xs : List Value} {nn : Nat} {a b : Nat} {tx ty : Tok} {m₀ : Str → Option Value} {news : List (Addr × Obj)} {d : Int} {td tr : Tok} {x0 : Str}
    (hh : A.handled = none) (F : Fr h₀ env.locals s.heap m₀) (N : News h₀ env.locals s.heap ((l, listOf xs.toArray nn) :: news)) (hx : xs.length = 9) (hxs : ∀ i, i < 9 → ∃ t, xs[i]? = some (.str (colS (i + 1)) t)) (hoff : ∀ q ∈ news, q.1 < l)
    (hr : m₀ (Str.ofString "row") = some (.str x0 tr)) (h0 : x0 = ⟨#[signAt a 0]⟩) (h5 : d.toNat ≤ 5) (hd : m₀ (Str.ofString "deed") = some (.int d td))
    (turn : ∀ (j : Nat) tr tv t1 t2 T h tk own u, 1 ≤ j → j ≤ 9 → IsTup h T #[.str (colS j) tv, .str ⟨#[signAt a j]⟩ t1, .str ⟨#[signAt b j]⟩ t2] → Known (szN j) (dg a j) (dg b j) → (((colS j).length : Nat) : Int) = szN j → (rowPre (newOf d.toNat a b) (j - 1)).length = j →
      Fr h₀ env.locals h (kstB u (sgPs (newOf d.toNat a b) d td (j - 1, tr))) → News h₀ env.locals h (news ++ own) →
      wpAny (model prog w) A (assign (.Tuple elts k pos) env (.ref T)) (fun _ s₃ => wpAny (model prog w) A (execs body env) (TPost h₀ env.locals (sgLed news) (sgPs (newOf d.toNat a b) d td) (fun c => c.1 = j) own { s with heap := h, toks := tk } Q) E s₃) E { s with heap := h, toks := tk })
    (done : ∀ tr h tk u, Fr h₀ env.locals h (kstB u (sgPs (newOf d.toNat a b) d td (9, tr))) → News h₀ env.locals h news → Q .next { s with heap := h, toks := tk }) :
    wpAny (model prog w) A (call (.type "zip") [.ref l, .str (Txt.slice (rowOf a) (some 1) none) tx, .str (Txt.slice (rowOf b) (some 1) none) ty]) (fun xv s₁ => wpAny (model prog w) A (pyIter xv) (fun it s₂ => TurnsAt prog w A h₀ env (.Tuple elts k pos) body Q E it s₂) E s₁) E s := by
  refine sg_loop hh F N hx hoff hr h0 h5 hd ?_ done
  intro i tr v t1 t2 T h tk own u hi hv hT hK hL F' N'
  obtain ⟨tv, e⟩ := hxs i hi
  rw [hv] at e
  cases e
  exact turn (i + 1) tr tv t1 t2 T h tk own u (by omega) (by omega) hT hK (col_len _ (by omega) (by omega)) hL F' N'
theorem sg_end2 {news own all : List (Addr × Obj)} {n j : Nat} {d : Int} {td t : Tok} {L : Addr} {h' : Heap} {m' : Str → Option Value} {s₁ : Shared} {tk : Nat} {x y : Str} (h1 : 1 ≤ j)
    (F : Fr h₀ L h' m') (N : News h₀ L h' all) (sub : ∀ q ∈ news ++ own, q ∈ all) (hr : m' (Str.ofString "row") = some (.str (x ++ y) t)) (hd : m' (Str.ofString "deed") = some (.int d td)) (hx : x = rowPre n (j - 1)) (hy : y = ⟨#[signAt n j]⟩) :
    TEnd h₀ L (sgLed news) (sgPs n d td) (fun c => c.1 = j) own s₁ { s₁ with heap := h', toks := tk } := by
  obtain ⟨i, rfl⟩ : ∃ i, j = i + 1 := ⟨j - 1, by omega⟩
  exact sg_end F N sub hr hd hx hy
theorem iadd_fits2 {x col : Str} {j : Nat} {i : Int} (h : x.length = j) (hj : j ≤ 9) : x.length + (Txt.item col i).length ≤ sizeLine := by
  have e : (Txt.item col i).length = 1 := rfl
  rw [h, e, sizeLine_eq]
  omega
end

set_option maxRecDepth 100000 in
set_option maxHeartbeats 8000000 in
theorem signs04 (w : World) (s₀ : Shared) (mg mb : Str → Option Value) (news : List (Addr × Obj)) (d : Int) (a b : Nat) (td ta tb : Tok) (hd0 : 0 ≤ d) (hd4 : d ≤ 4) :
    Con w s₀ mg mb 138 news [.int d td, .str (rowOf a) ta, .str (rowOf b) tb] (fun t => .str (rowOf (newOf d.toNat a b)) t) := by
  w_top off
  k_with_none
  k_with "execs nil" => refine wpAny_execs_nil ?_
  k_with "execs cons" => (refine tok_any (fun tk => ?_); refine wpAny_execs_cons ?_)
  k_with "execs cons" => (exfalso; omega)
  k_with "exec For Tuple Call cons nil" => (k_here; (rename Fr _ _ _ _ => lF'); (with_unfolding_all refine' For_turns lF' ?_; k_whole))
  k_with "subscriptTail Name Name str int" => (k_here; k_dflt (refine sub_n 10 (by decide) (by rfl) (by decide) (by decide) ?_))
  k_with "subscriptTail Name Constant str int" => (k_here; k_dflt (refine sub_n 10 (by decide) (by rfl) (by decide) (by decide) ?_))
  k_with "subscriptTail Name BinOp str int" => (k_here; k_dflt (refine sub_col (by with_reducible assumption) (by with_reducible assumption) (by with_reducible omega) (by with_reducible omega) ?_))
  k_with "call builtin:str.index" => (k_here; k_dflt (refine ix_call ?c ?a ?b ?_; (case c => rfl); (case a => with_reducible assumption); (case b => with_reducible assumption)))
  k_with "inplaceOp Add str str" => (k_here; k_dflt (refine SB.iadd ?_ ?z; (case z => exact iadd_fits2 (by with_reducible assumption) (by with_reducible assumption))); intro t9 tk9)
  k_with "call builtin:len" => (k_here; k_dflt (refine len_col (by with_reducible assumption) (by with_reducible assumption) ?_))
  k_with "TPost" => (dsimp only [TPost])
  k_with "call type:zip" => (k_here; (with_unfolding_all refine' sg_loop2 ?hh ?F ?N ?hx ?hxs ?hoff ?hr ?h0 ?h5 ?hd ?_ ?_); (case hh => exact rfl); (case F => k_asm); (case N => k_asm); (case hx => exact rfl); (case hxs => exact cols9); (case hoff => assumption); (case hr => exact rfl); (case hd => exact rfl); (case h0 => exact rfl); (case h5 => omega); all_goals (first | (intro j tr tv t1 t2 T h' tk' own u h1 h9 hT hK hC hL F' N'; (obtain ⟨k0, k1, k2, k3, k4, k5, k6, k7, k8, k9⟩ := hK); (try k_fold)) | (intro tr h' tk' u F' N'; (try k_fold))))
  unfold Con P
  k_fill
  dsimp only [CbRet]
  intros
  rename_i hret
  have kmark := kstMark
  refine wpAny_call ?_
  k_dflt cell_enter
  k_steps
  · obtain rfl : d = 0 := by omega
    exact sg_end2 (by assumption) (by assumption) (by assumption) (fun q hq => by first | exact hq | exact List.mem_cons_of_mem _ hq) (by rfl) (by rfl) (by rfl) (sgA0 a b _ (by assumption) (by assumption))
  · obtain rfl : d = 1 := by omega
    exact sg_end2 (by assumption) (by assumption) (by assumption) (fun q hq => by first | exact hq | exact List.mem_cons_of_mem _ hq) (by rfl) (by rfl) (by rfl) (sgA1 a b _ (by assumption) (by assumption))
  · obtain rfl : d = 2 := by omega
    exact sg_end2 (by assumption) (by assumption) (by assumption) (fun q hq => by first | exact hq | exact List.mem_cons_of_mem _ hq) (by rfl) (by rfl) (by rfl) (sgA2 a b _ (by assumption) (by assumption))
  · obtain rfl : d = 3 := by omega
    exact sg_end2 (by assumption) (by assumption) (by assumption) (fun q hq => by first | exact hq | exact List.mem_cons_of_mem _ hq) (by rfl) (by rfl) (by rfl) (sgA3 a b _ (by assumption) (by assumption))
  · obtain rfl : d = 4 := by omega
    exact sg_end2 (by assumption) (by assumption) (by assumption) (fun q hq => by first | exact hq | exact List.mem_cons_of_mem _ hq) (by rfl) (by rfl) (by rfl) (sgA4 a b _ (by assumption) (by assumption))
  · refine cb_retS hret ?_ (by k_asm) (by k_asm); rfl
end Mine

-- Cons7
namespace Mine
open PySem PySem.W PySem.Calls PyProof.Rows PyProof.V PySem.Spec
theorem signs_con (w : World) (s₀ : Shared) (mg mb : Str → Option Value) (news : List (Addr × Obj)) (d : Int) (a b : Nat) (td ta tb : Tok) (h1 : 0 ≤ d) (h2 : d < 7) :
    Con w s₀ mg mb 138 news [.int d td, .str (rowOf a) ta, .str (rowOf b) tb] (fun t => .str (rowOf (newOf d.toNat a b)) t) := by
  have hd : d ≤ 4 ∨ d = 5 ∨ d = 6 := by omega
  rcases hd with hd | rfl | rfl
  · exact signs04 w s₀ mg mb news d a b td ta tb h1 hd
  · exact signs5 w s₀ mg mb news a b td ta tb
  · exact signs6 w s₀ mg mb news a b td ta tb
/-- a contract at a place of the law -/
theorem con_use {w : World} {s₀ : Shared} {mg mb : Str → Option Value} {f : Addr} {news : List (Addr × Obj)} {vs : List Value} {R : Tok → Value} {A A₀ : Around} {base h₀ : Heap} {L a : Addr} {cn : Str} {cs : Scope} {ccd : Value} {cl : List (Str × Addr)} {m : Str → Option Value} {s : Shared} {Q E : Value → Shared → Prop}
    (C : Con w s₀ mg mb f news vs R) (B : Below A₀ base [] h₀) (F : Fr h₀ L s.heap m) (X : (hd.heap_39 w.params).In h₀) (N : News h₀ L s.heap news)
    (T : Top hd.view_39 (looseW hd.view_39 [Str.ofString "_filemode_table"]) (ExcName.means s₀.heap) mg mb h₀) (hk : cs.kind = .function)
    (h1 : A.handled = none) (h2 : A.depth ≤ claimMargin + 10) (h3 : A.frames = some [envX cn cs L a ccd cl]) (h4 : A.guards = some []) (h5 : A.units ≤ 40)
    (ret : ∀ t h' tk', Fr h₀ L h' m → News h₀ L h' news → Q (R t) { s with heap := h', toks := tk' }) : wpAny (model P w) A (call (.ref f) vs) Q E s :=
  fun Γ p hΓ => C cn cs a ccd cl A₀ base h₀ L m s Q E B F X N T hk ret Γ p
    ⟨hΓ.1.trans h1, Nat.le_trans hΓ.2.1 h2, fun l hl => hΓ.2.2.1 l (h3.trans hl), fun g hg => hΓ.2.2.2.1 g (h4.trans hg), Nat.le_trans hΓ.2.2.2.2 h5⟩
end Mine

-- Law2
namespace Mine
open PySem PySem.W PySem.Calls PyProof.Rows PyProof.V PySem.Spec
section
variable {prog : Program} {w : World} {A : Around} {E : Value → Shared → Prop} {s : Shared} {env : Env} {h₀ : Heap} {body : List Stmt} {Q : Flow → Shared → Prop}


abbrev l1Led (cl ca : Addr) (w0 : Obj) (c : List Value × Nat) : List (Addr × Obj) := [(cl, listOf c.1.toArray c.2), (ca, w0)]
abbrev l1Ps (cl : Addr) (_ : List Value × Nat) : List (Str × Value) := [(Str.ofString "cells", .ref cl)]
def Ints11 (us : List Value) : Prop := ∃ ks : List Int, IntsAre us ks ∧ ks.length = 11
theorem ints11_lit {n0 n1 n2 n3 n4 n5 n6 n7 n8 n9 n10 : Int} {t0 t1 t2 t3 t4 t5 t6 t7 t8 t9 t10 : Tok} : Ints11 [.int n0 t0, .int n1 t1, .int n2 t2, .int n3 t3, .int n4 t4, .int n5 t5, .int n6 t6, .int n7 t7, .int n8 t8, .int n9 t9, .int n10 t10] :=
  ⟨[n0, n1, n2, n3, n4, n5, n6, n7, n8, n9, n10], .cons _ _ (.cons _ _ (.cons _ _ (.cons _ _ (.cons _ _ (.cons _ _ (.cons _ _ (.cons _ _ (.cons _ _ (.cons _ _ (.cons _ _ .nil)))))))))), rfl⟩
theorem ints_cons {us : List Value} {ks : List Int} {n : Nat} (h : IntsAre us ks) (hk : ks.length = n + 1) : ∃ x t us' ks', us = .int x t :: us' ∧ IntsAre us' ks' ∧ ks'.length = n := by
  cases h with
  | nil => cases hk
  | cons x t h' => exact ⟨x, t, _, _, rfl, h', by simpa using hk⟩
theorem law1 {elts : List PySem.Expr} {k : Nat} {pos : Pos} {l cl ca : Addr} {w0 : Obj} {vs us0 : List Value} {ns : List Int} {n0 : Nat} {m₀ : Str → Option Value}
    (hh : A.handled = none) (hl : h₀.IsList l vs.toArray) (hi : IntsAre vs ns) (F : Fr h₀ env.locals s.heap m₀) (N : News h₀ env.locals s.heap [(cl, listOf us0.toArray n0), (ca, w0)])
    (hp : m₀ (Str.ofString "cells") = some (.ref cl)) (h11 : Ints11 us0)
    (turn : ∀ (i : Nat) us ks nn n t t' T h tk own u, IntsAre us ks → ks.length = 11 → us.length = 11 → IsTup h T #[.int ((i : Nat) : Int) t, .int n t'] → OwnOff own [cl, ca] → Fr h₀ env.locals h (kstB u (l1Ps cl (us, nn))) → News h₀ env.locals h ([(cl, listOf us.toArray nn), (ca, w0)] ++ own) →
      wpAny (model prog w) A (assign (.Tuple elts k pos) env (.ref T)) (fun _ s₃ => wpAny (model prog w) A (execs body env) (TPost h₀ env.locals (l1Led cl ca w0) (l1Ps cl) (fun c => Ints11 c.1) own { s with heap := h, toks := tk } Q) E s₃) E { s with heap := h, toks := tk })
    (done : ∀ (n0 n1 n2 n3 n4 n5 n6 n7 n8 n9 n10 : Int) (t0 t1 t2 t3 t4 t5 t6 t7 t8 t9 t10 : Tok) nn h tk u, Fr h₀ env.locals h (kstB u (l1Ps cl ([], nn))) → News h₀ env.locals h [(cl, listOf #[.int n0 t0, .int n1 t1, .int n2 t2, .int n3 t3, .int n4 t4, .int n5 t5, .int n6 t6, .int n7 t7, .int n8 t8, .int n9 t9, .int n10 t10] nn), (ca, w0)] → Q .next { s with heap := h, toks := tk }) :
    wpAny (model prog w) A (call (.type "enumerate") [.ref l]) (fun xv s₁ => wpAny (model prog w) A (pyIter xv) (fun it s₂ => TurnsAt prog w A h₀ env (.Tuple elts k pos) body Q E it s₂) E s₁) E s := by
  refine enum_base (l1Led cl ca w0) (l1Ps cl) (fun _ c => Ints11 c.1) [cl, ca] (us0, n0) hh hl F N (fun _ => rfl) ?_ h11 ?_ ?_
  · intro q hq
    rw [List.mem_singleton.mp hq]; exact hp
  · rintro i ⟨us, nn⟩ x t T h tk own u hx hT ⟨ks, hI, hk⟩ ho F' N'
    have hlt : i < ns.length := by
      have := hi.length
      obtain ⟨q, _⟩ := List.getElem?_eq_some_iff.mp hx
      omega
    obtain ⟨t', e⟩ := hi.get i ns[i] (by simp [hlt])
    rw [hx] at e
    cases e
    exact turn i us ks nn _ t t' T h tk own u hI hk (by rw [← hk]; exact hI.length) hT ho F' N'
  · rintro ⟨us, nn⟩ h tk u ⟨ks, hI, hk⟩ F' N'
    obtain ⟨n0, t0, us1, ks1, e0, hI1, hk1⟩ := ints_cons hI hk
    subst e0
    obtain ⟨n1, t1, us2, ks2, e1, hI2, hk2⟩ := ints_cons hI1 hk1
    subst e1
    obtain ⟨n2, t2, us3, ks3, e2, hI3, hk3⟩ := ints_cons hI2 hk2
    subst e2
    obtain ⟨n3, t3, us4, ks4, e3, hI4, hk4⟩ := ints_cons hI3 hk3
    subst e3
    obtain ⟨n4, t4, us5, ks5, e4, hI5, hk5⟩ := ints_cons hI4 hk4
    subst e4
    obtain ⟨n5, t5, us6, ks6, e5, hI6, hk6⟩ := ints_cons hI5 hk5
    subst e5
    obtain ⟨n6, t6, us7, ks7, e6, hI7, hk7⟩ := ints_cons hI6 hk6
    subst e6
    obtain ⟨n7, t7, us8, ks8, e7, hI8, hk8⟩ := ints_cons hI7 hk7
    subst e7
    obtain ⟨n8, t8, us9, ks9, e8, hI9, hk9⟩ := ints_cons hI8 hk8
    subst e8
    obtain ⟨n9, t9, us10, ks10, e9, hI10, hk10⟩ := ints_cons hI9 hk9
    subst e9
    obtain ⟨n10, t10, us11, ks11, e10, hI11, hk11⟩ := ints_cons hI10 hk10
    subst e10
    have e11 : us11 = [] := by
      have := hI11.length
      exact List.eq_nil_of_length_eq_zero (by omega)
    subst e11
    exact done n0 n1 n2 n3 n4 n5 n6 n7 n8 n9 n10 t0 t1 t2 t3 t4 t5 t6 t7 t8 t9 t10 nn h tk u F' N'
theorem l1_end {cl ca : Addr} {w0 : Obj} {own : List (Addr × Obj)} {us' : List Value} {ks' : List Int} {nn' : Nat} {L : Addr} {h' : Heap} {m' : Str → Option Value} {s₁ : Shared} {tk : Nat}
    (F : Fr h₀ L h' m') (N : News h₀ L h' ((cl, listOf us'.toArray nn') :: (ca, w0) :: own)) (hp : m' (Str.ofString "cells") = some (.ref cl)) (hI : IntsAre us' ks') (hk : ks'.length = 11) :
    TEnd h₀ L (l1Led cl ca w0) (l1Ps cl) (fun c => Ints11 c.1) own s₁ { s₁ with heap := h', toks := tk } := by
  refine TEnd.intro (us', nn') F N (fun q hq => ?_) (fun q hq => List.mem_cons_of_mem _ (List.mem_cons_of_mem _ hq)) ?_ ⟨ks', hI, hk⟩
  · rcases List.mem_cons.mp hq with rfl | hq
    · exact List.mem_cons_self ..
    · rw [List.mem_singleton.mp hq]; exact List.mem_cons_of_mem _ (List.mem_cons_self ..)
  · intro q hq
    rw [List.mem_singleton.mp hq]; exact hp

theorem fm_nat (x : Int) : ∃ a : Nat, x.fmod 65536 = (a : Int) ∧ a < 65536 := by
  have h0 : (0 : Int) ≤ x.fmod 65536 := by rw [Int.fmod_eq_emod_of_nonneg _ (by decide)]; omega
  have h1 : x.fmod 65536 < 65536 := by rw [Int.fmod_eq_emod_of_nonneg _ (by decide)]; omega
  obtain ⟨a, e⟩ := Int.eq_ofNat_of_zero_le h0
  exact ⟨a, e, by rw [e] at h1; exact Int.ofNat_lt.mp h1⟩
theorem ints_at {us : List Value} {k : Int} {ks : List Int} (h : IntsAre us (k :: ks)) : ∃ t us', us = .int k t :: us' ∧ IntsAre us' ks := by
  cases h with
  | cons _ t h' => exact ⟨t, _, rfl, h'⟩
theorem ints_no {us : List Value} (h : IntsAre us []) : us = [] := by
  cases h; rfl
theorem ints3m {ys : List Value} {n0 n1 n2 : Int} (h : IntsAre ys (List.map (fun x => x.fmod 65536) [n0, n1, n2])) :
    ∃ (a b c : Nat) (t0 t1 t2 : Tok), a < 65536 ∧ b < 65536 ∧ c < 65536 ∧ ys = [.int (a : Int) t0, .int (b : Int) t1, .int (c : Int) t2] := by
  obtain ⟨a, ea, ha⟩ := fm_nat n0
  obtain ⟨b, eb, hb⟩ := fm_nat n1
  obtain ⟨c, ec, hc⟩ := fm_nat n2
  have h' : IntsAre ys [(a : Int), (b : Int), (c : Int)] := by
    have e : List.map (fun x : Int => x.fmod 65536) [n0, n1, n2] = [(a : Int), (b : Int), (c : Int)] := by
      simp only [List.map_cons, List.map_nil, ea, eb, ec]
    rw [e] at h; exact h
  obtain ⟨t0, y0, rfl, h0⟩ := ints_at h'
  obtain ⟨t1, y1, rfl, h1⟩ := ints_at h0
  obtain ⟨t2, y2, rfl, h2⟩ := ints_at h1
  cases ints_no h2
  exact ⟨a, b, c, t0, t1, t2, ha, hb, hc, rfl⟩

def MA (ms : List Value) (ns : List Nat) : Prop := ms.length = ns.length ∧ ∀ (j n : Nat), ns[j]? = some n → ∃ t, ms[j]? = some (.int (n : Int) t)
def RA (rs : List Value) (ns : List Nat) : Prop := rs.length = ns.length ∧ ∀ (j n : Nat), ns[j]? = some n → ∃ t, rs[j]? = some (.str (rowOf n) t)
theorem MA.nil : MA [] [] := ⟨rfl, fun j n h => by cases h⟩
theorem RA.nil : RA [] [] := ⟨rfl, fun j n h => by cases h⟩
theorem MA.cons {ms : List Value} {ns : List Nat} {n : Nat} {t : Tok} (h : MA ms ns) : MA (.int (n : Int) t :: ms) (n :: ns) := by
  refine ⟨by simp only [List.length_cons, h.1], fun j m hj => ?_⟩
  cases j with
  | zero => simp only [List.getElem?_cons_zero, Option.some.injEq] at hj; subst hj; exact ⟨t, rfl⟩
  | succ j => simp only [List.getElem?_cons_succ] at hj ⊢; exact h.2 j m hj
theorem RA.cons {rs : List Value} {ns : List Nat} {n : Nat} {t : Tok} (h : RA rs ns) : RA (.str (rowOf n) t :: rs) (n :: ns) := by
  refine ⟨by simp only [List.length_cons, h.1], fun j m hj => ?_⟩
  cases j with
  | zero => simp only [List.getElem?_cons_zero, Option.some.injEq] at hj; subst hj; exact ⟨t, rfl⟩
  | succ j => simp only [List.getElem?_cons_succ] at hj ⊢; exact h.2 j m hj
theorem MA.snoc {ms : List Value} {ns : List Nat} {n : Nat} {t : Tok} (h : MA ms ns) : MA (ms ++ [.int (n : Int) t]) (ns ++ [n]) := by
  refine ⟨by simp only [List.length_append, h.1, List.length_singleton], fun j m hj => ?_⟩
  by_cases hlt : j < ns.length
  · rw [List.getElem?_append_left hlt] at hj
    rw [List.getElem?_append_left (by rw [h.1]; exact hlt)]
    exact h.2 j m hj
  · rw [List.getElem?_append_right (Nat.le_of_not_lt hlt)] at hj
    rw [List.getElem?_append_right (by rw [h.1]; exact Nat.le_of_not_lt hlt), h.1]
    cases e : j - ns.length with
    | zero => rw [e] at hj; simp only [List.getElem?_cons_zero, Option.some.injEq] at hj; subst hj; exact ⟨t, rfl⟩
    | succ q => rw [e] at hj; simp at hj
theorem RA.snoc {rs : List Value} {ns : List Nat} {n : Nat} {t : Tok} (h : RA rs ns) : RA (rs ++ [.str (rowOf n) t]) (ns ++ [n]) := by
  refine ⟨by simp only [List.length_append, h.1, List.length_singleton], fun j m hj => ?_⟩
  by_cases hlt : j < ns.length
  · rw [List.getElem?_append_left hlt] at hj
    rw [List.getElem?_append_left (by rw [h.1]; exact hlt)]
    exact h.2 j m hj
  · rw [List.getElem?_append_right (Nat.le_of_not_lt hlt)] at hj
    rw [List.getElem?_append_right (by rw [h.1]; exact Nat.le_of_not_lt hlt), h.1]
    cases e : j - ns.length with
    | zero => rw [e] at hj; simp only [List.getElem?_cons_zero, Option.some.injEq] at hj; subst hj; exact ⟨t, rfl⟩
    | succ q => rw [e] at hj; simp at hj
abbrev St2 : Type := List Value × List Value × Nat × Nat × List Nat
abbrev l2Led (am ar ca : Addr) (w0 : Obj) (c : St2) : List (Addr × Obj) := [(am, listOf c.1.toArray c.2.2.1), (ar, listOf c.2.1.toArray c.2.2.2.1), (ca, w0)]
abbrev l2Ps (am ar : Addr) (_ : St2) : List (Str × Value) := [(Str.ofString "modes", .ref am), (Str.ofString "rows", .ref ar)]
def l2Inv (i : Nat) (c : St2) : Prop := c.2.2.2.2.length = 3 + i ∧ (∀ n ∈ c.2.2.2.2, n < 65536) ∧ MA c.1 c.2.2.2.2 ∧ RA c.2.1 c.2.2.2.2
def Apart3 (am ar ca : Addr) (own : List (Addr × Obj)) : Prop := am ≠ ar ∧ am ≠ ca ∧ ar ≠ ca ∧ OwnOff own [am, ar, ca]
theorem law2 {x : Str} {px : Pos} {l am ar ca : Addr} {w0 : Obj} {vs : List Value} {ks : List Int} {nn n1 n2 : Nat} {m₀ : Str → Option Value} {news : List (Addr × Obj)} {a b c : Nat} {ta tb tc ua ub uc : Tok}
    (hh : A.handled = none) (F : Fr h₀ env.locals s.heap m₀) (N : News h₀ env.locals s.heap news) (hm : (l, listOf vs.toArray nn) ∈ news) (hi : IntsAre vs ks)
    (hl1 : (am, listOf #[.int (a : Int) ta, .int (b : Int) tb, .int (c : Int) tc] n1) ∈ news) (hl2 : (ar, listOf #[.str (rowOf a) ua, .str (rowOf b) ub, .str (rowOf c) uc] n2) ∈ news) (hl3 : (ca, w0) ∈ news)
    (e1 : l ≠ am) (e2 : l ≠ ar) (e3 : l ≠ ca) (d1 : am ≠ ar) (d2 : am ≠ ca) (d3 : ar ≠ ca) (hp1 : m₀ (Str.ofString "modes") = some (.ref am)) (hp2 : m₀ (Str.ofString "rows") = some (.ref ar)) (ha : a < 65536) (hb : b < 65536) (hc : c < 65536) {dd : Data} (_hd : w0.data = dd) (h8 : vs.length = 8)
    (turn : ∀ (i : Nat) ms rs q1 q2 ns k t h tk own u, ns.length = 3 + i → 3 ≤ ns.length → i < 8 → ms.length = 3 + i → rs.length = 3 + i → (∀ n ∈ ns, n < 65536) → MA ms ns → RA rs ns → Apart3 am ar ca own → OwnOff own [am, ar, ca] → Fr h₀ env.locals h (kstB u (l2Ps am ar (ms, rs, q1, q2, ns))) →
      News h₀ env.locals h ((am, listOf ms.toArray q1) :: (ar, listOf rs.toArray q2) :: (ca, w0) :: own) →
      wpAny (model prog w) A (assign (.Name x px) env (.int k t)) (fun _ s₃ => wpAny (model prog w) A (execs body env) (TPost h₀ env.locals (l2Led am ar ca w0) (l2Ps am ar) (l2Inv (i + 1)) own { s with heap := h, toks := tk } Q) E s₃) E { s with heap := h, toks := tk })
    (done : ∀ ms rs q1 q2 ns h tk u, ns.length = 11 → ms.length = ns.length → rs.length = ns.length → (∀ n ∈ ns, n < 65536) → MA ms ns → RA rs ns → Fr h₀ env.locals h (kstB u (l2Ps am ar (ms, rs, q1, q2, ns))) →
      News h₀ env.locals h [(am, listOf ms.toArray q1), (ar, listOf rs.toArray q2), (ca, w0)] → Q .next { s with heap := h, toks := tk }) :
    wpAny (model prog w) A (pyIter (.ref l)) (fun it s₂ => TurnsAt prog w A h₀ env (.Name x px) body Q E it s₂) E s := by
  refine list_led (l2Led am ar ca w0) (l2Ps am ar) l2Inv [am, ar, ca] ([.int (a : Int) ta, .int (b : Int) tb, .int (c : Int) tc], [.str (rowOf a) ua, .str (rowOf b) ub, .str (rowOf c) uc], n1, n2, [a, b, c]) hh F N hm ?_ (fun _ => rfl) ?_ ?_ ?_ ?_ ?_
  · intro q hq
    rcases List.mem_cons.mp hq with rfl | hq
    · exact hl1
    rcases List.mem_cons.mp hq with rfl | hq
    · exact hl2
    rw [List.mem_singleton.mp hq]; exact hl3
  · intro hq
    rcases List.mem_cons.mp hq with e | hq
    · exact e1 e
    rcases List.mem_cons.mp hq with e | hq
    · exact e2 e
    exact e3 (List.mem_singleton.mp hq)
  · intro q hq
    rcases List.mem_cons.mp hq with rfl | hq
    · exact hp1
    rw [List.mem_singleton.mp hq]; exact hp2
  · refine ⟨rfl, ?_, MA.nil.cons.cons.cons, RA.nil.cons.cons.cons⟩
    intro n hn
    rcases List.mem_cons.mp hn with rfl | hn
    · exact ha
    rcases List.mem_cons.mp hn with rfl | hn
    · exact hb
    rw [List.mem_singleton.mp hn]; exact hc
  · rintro i ⟨ms, rs, q1, q2, ns⟩ v h tk own u hv ⟨hlen, hlt, hM, hR⟩ ho F' N'
    have hi' : i < vs.length := (List.getElem?_eq_some_iff.mp hv).1
    have hlt' : i < ks.length := by have := hi.length; omega
    obtain ⟨t', e⟩ := hi.get i ks[i] (by simp [hlt'])
    rw [hv] at e
    cases e
    exact turn i ms rs q1 q2 ns _ t' h tk own u hlen (by have : ns.length = 3 + i := hlen; omega) (h8 ▸ hi') (hM.1.trans hlen) (hR.1.trans hlen) hlt hM hR ⟨d1, d2, d3, ho⟩ ho F' N'
  · rintro ⟨ms, rs, q1, q2, ns⟩ h tk u ⟨hlen, hlt, hM, hR⟩ F' N'
    exact done ms rs q1 q2 ns h tk u (by have : ns.length = 3 + vs.length := hlen; omega) hM.1 hR.1 hlt hM hR F' N'
theorem fmi {x y : Int} (h : 0 < y) : 0 ≤ x.fmod y ∧ x.fmod y < y := by
  rw [Int.fmod_eq_emod_of_nonneg _ (Int.le_of_lt h)]
  exact ⟨Int.emod_nonneg _ (by omega), Int.emod_lt_of_pos _ h⟩
theorem fml {x y : Int} (h : 0 < y) : 0 ≤ x.fmod y := (fmi h).1
theorem fmh {x y z : Int} (h : 0 < y) (e : y = z) : x.fmod y < z := e ▸ (fmi h).2
def nAt (ns : List Nat) (k : Int) : Nat := ns.getD k.toNat 0
theorem nAt_some {ns : List Nat} {k : Int} (h0 : 0 ≤ k) (h1 : k < (ns.length : Int)) : ns[k.toNat]? = some (nAt ns k) := by
  have h2 : k.toNat < ns.length := by omega
  unfold nAt
  rw [List.getD_eq_getElem?_getD, List.getElem?_eq_getElem h2]; rfl
theorem nAt_lt {ns : List Nat} {k : Int} (h : ∀ n ∈ ns, n < 65536) : nAt ns k < 65536 := by
  unfold nAt
  rw [List.getD_eq_getElem?_getD]
  cases e : ns[k.toNat]? with
  | none => exact Nat.le_of_ble_eq_true rfl
  | some n => exact h n (List.mem_of_getElem? e)
theorem m_item {value slice : PySem.Expr} {L l : Addr} {ms : List Value} {nn : Nat} {ns : List Nat} {news : List (Addr × Obj)} {k : Int} {u : Tok} {Q : Value → Shared → Prop}
    (N : News h₀ L s.heap news) (hm : (l, listOf ms.toArray nn) ∈ news) (hM : MA ms ns) (h0 : 0 ≤ k) (h1 : k < (ns.length : Int)) (h2 : ns.length < 2 ^ 60) (h : ∀ t, Q (.int (nAt ns k : Int) t) s)
    (hs : subscripted slice false (.ref l) (.int k u) = operate [.ref l, .int k u] (getItem (.ref l) (.int k u)) := by with_unfolding_all rfl) :
    wpAny (model prog w) A (subscriptTail value slice (.ref l) (.int k u)) Q E s := by
  have hl : s.heap.IsList l ms.toArray := ⟨_, (N _ hm).1, rfl, nn, rfl⟩
  obtain ⟨t, e⟩ := hM.2 _ _ (nAt_some h0 h1)
  exact tail_any hl.typeIs slot_list_getitem.lookup (wpAny_getItem_list hl h0 (by omega) (by simpa using e) (h t)) hs
theorem upd1 {am ar ca : Addr} {own : List (Addr × Obj)} {o o' x w0 : Obj} (h : Apart3 am ar ca own) : Upd am o o' ((am, o) :: (ar, x) :: (ca, w0) :: own) ((am, o') :: (ar, x) :: (ca, w0) :: own) := by
  refine .head fun p hp => ?_
  rcases List.mem_cons.mp hp with rfl | hp
  · exact fun e => h.1 e.symm
  rcases List.mem_cons.mp hp with rfl | hp
  · exact fun e => h.2.1 e.symm
  exact h.2.2.2 p hp am (List.mem_cons_self ..)
theorem upd2 {am ar ca : Addr} {own : List (Addr × Obj)} {o o' x w0 : Obj} (h : Apart3 am ar ca own) : Upd ar o o' ((am, x) :: (ar, o) :: (ca, w0) :: own) ((am, x) :: (ar, o') :: (ca, w0) :: own) := by
  refine .tail h.1 (.head fun p hp => ?_)
  rcases List.mem_cons.mp hp with rfl | hp
  · exact fun e => h.2.2.1 e.symm
  exact h.2.2.2 p hp ar (List.mem_cons_of_mem _ (List.mem_cons_self ..))
theorem app_fit {ms : List Value} {n : Nat} (h : ms.length = n) (hn : n < 100) : ms.toArray.size ≤ sizeLine := by
  rw [PySem.sizeLine_eq, List.size_toArray]; omega
theorem m_len {L l : Addr} {ms : List Value} {nn : Nat} {ns : List Nat} {news : List (Addr × Obj)} {Q : Value → Shared → Prop}
    (N : News h₀ L s.heap news) (hm : (l, listOf ms.toArray nn) ∈ news) (hM : MA ms ns) (h2 : ns.length < 2 ^ 60) (h : ∀ t tk, Q (.int (ns.length : Int) t) { s with toks := tk }) :
    wpAny (model prog w) A (call (.builtin "len") [.ref l]) Q E s := by
  have hl : s.heap.IsList l ms.toArray := ⟨_, (N _ hm).1, rfl, nn, rfl⟩
  have e : ms.toArray.size = ns.length := by rw [List.size_toArray]; exact hM.1
  refine call_len_list hl (by rw [e]; omega) ?_
  rw [e]
  exact h _ _
theorem r_item {value slice : PySem.Expr} {L l : Addr} {ms : List Value} {nn : Nat} {ns : List Nat} {news : List (Addr × Obj)} {k : Int} {u : Tok} {Q : Value → Shared → Prop}
    (N : News h₀ L s.heap news) (hm : (l, listOf ms.toArray nn) ∈ news) (hM : RA ms ns) (h0 : 0 ≤ k) (h1 : k < (ns.length : Int)) (h2 : ns.length < 2 ^ 60) (h : ∀ t, Q (.str (rowOf (nAt ns k)) t) s)
    (hs : subscripted slice false (.ref l) (.int k u) = operate [.ref l, .int k u] (getItem (.ref l) (.int k u)) := by with_unfolding_all rfl) :
    wpAny (model prog w) A (subscriptTail value slice (.ref l) (.int k u)) Q E s := by
  have hl : s.heap.IsList l ms.toArray := ⟨_, (N _ hm).1, rfl, nn, rfl⟩
  obtain ⟨t, e⟩ := hM.2 _ _ (nAt_some h0 h1)
  exact tail_any hl.typeIs slot_list_getitem.lookup (wpAny_getItem_list hl h0 (by omega) (by simpa using e) (h t)) hs
theorem l2_end {am ar ca : Addr} {w0 : Obj} {own : List (Addr × Obj)} {ms rs : List Value} {ns : List Nat} {n : Nat} {t1 t2 : Tok} {q1 q2 i : Nat} {L : Addr} {h' : Heap} {m' : Str → Option Value} {s₁ : Shared} {tk : Nat} {news' : List (Addr × Obj)} 
    (F : Fr h₀ L h' m') (N : News h₀ L h' news') (sub : ∀ p ∈ (am, listOf (ms.toArray.push (.int (n : Int) t1)) q1) :: (ar, listOf (rs.toArray.push (.str (rowOf n) t2)) q2) :: (ca, w0) :: own, p ∈ news')
    (hp1 : m' (Str.ofString "modes") = some (.ref am)) (hp2 : m' (Str.ofString "rows") = some (.ref ar)) (hlen : ns.length = 3 + i) (hlt : ∀ n ∈ ns, n < 65536) (hn : n < 65536) (hM : MA ms ns) (hR : RA rs ns) :
    TEnd h₀ L (l2Led am ar ca w0) (l2Ps am ar) (l2Inv (i + 1)) own s₁ { s₁ with heap := h', toks := tk } := by
  refine TEnd.intro (ms ++ [.int (n : Int) t1], rs ++ [.str (rowOf n) t2], q1, q2, ns ++ [n]) F N ?_ ?_ ?_ ⟨?_, ?_, hM.snoc, hR.snoc⟩
  · intro q hq
    refine sub q ?_
    rcases List.mem_cons.mp hq with rfl | hq
    · refine List.mem_cons.mpr (.inl ?_)
      simp only [List.push_toArray]
    rcases List.mem_cons.mp hq with rfl | hq
    · refine List.mem_cons_of_mem _ (List.mem_cons.mpr (.inl ?_))
      simp only [List.push_toArray]
    rw [List.mem_singleton.mp hq]
    exact List.mem_cons_of_mem _ (List.mem_cons_of_mem _ (List.mem_cons_self ..))
  · intro q hq
    exact sub q (List.mem_cons_of_mem _ (List.mem_cons_of_mem _ (List.mem_cons_of_mem _ hq)))
  · intro q hq
    rcases List.mem_cons.mp hq with rfl | hq
    · exact hp1
    rw [List.mem_singleton.mp hq]; exact hp2
  · simp only [List.length_append, List.length_singleton]; omega
  · intro m hm
    rcases List.mem_append.mp hm with h | h
    · exact hlt m h
    · rw [List.mem_singleton.mp h]; exact hn
end
end Mine

-- Law5
namespace Mine
open PySem PySem.W PySem.Calls PyProof.Rows PyProof.V PySem.Spec
section
variable {prog : Program} {w : World} {A : Around} {E : Value → Shared → Prop} {s : Shared} {env : Env} {h₀ : Heap} {body : List Stmt} {Q : Flow → Shared → Prop}
abbrev l5Led (ca : Addr) (c : Obj) : List (Addr × Obj) := [(ca, c)]
abbrev l5Ps (_ : Obj) : List (Str × Value) := []
def CellIs (c : Obj) : Prop := ∃ v, c.data = .cell v
theorem law5 {elts : List PySem.Expr} {k : Nat} {pos : Pos} {l1 l2 ca : Addr} {w0 : Obj} {v0 : Option Value} {ms rs : List Value} {ns : List Nat} {n1 n2 : Nat} {m₀ : Str → Option Value} {news : List (Addr × Obj)}
    (hh : A.handled = none) (F : Fr h₀ env.locals s.heap m₀) (N : News h₀ env.locals s.heap news) (hM : MA ms ns) (hR : RA rs ns) (hlt : ∀ n ∈ ns, n < 65536) (hc : w0.data = .cell v0)
    (hm1 : (l1, listOf ms.toArray n1) ∈ news) (hm2 : (l2, listOf rs.toArray n2) ∈ news) (hm3 : (ca, w0) ∈ news) (e1 : l1 ≠ ca) (e2 : l2 ≠ ca)
    (turn : ∀ (n : Nat) t t' T (o : Obj) v h tk own u, n < 65536 → IsTup h T #[.int (n : Int) t, .str (rowOf n) t'] → o.data = .cell v → OwnOff own [ca] → Fr h₀ env.locals h (kstB u []) → News h₀ env.locals h ((ca, o) :: own) →
      wpAny (model prog w) A (assign (.Tuple elts k pos) env (.ref T)) (fun _ s₃ => wpAny (model prog w) A (execs body env) (TPost h₀ env.locals (l5Led ca) l5Ps CellIs own { s with heap := h, toks := tk } Q) E s₃) E { s with heap := h, toks := tk })
    (done : ∀ (o : Obj) h tk u, Fr h₀ env.locals h (kstB u []) → News h₀ env.locals h [(ca, o)] → Q .next { s with heap := h, toks := tk }) :
    wpAny (model prog w) A (call (.type "zip") [.ref l1, .ref l2]) (fun xv s₁ => wpAny (model prog w) A (pyIter xv) (fun it s₂ => TurnsAt prog w A h₀ env (.Tuple elts k pos) body Q E it s₂) E s₁) E s := by
  refine zip_led (l5Led ca) l5Ps (fun _ => CellIs) [ca] w0 hh F N hm1 hm2 (hM.1.trans hR.1.symm) ?_ (fun _ => rfl) ?_ ?_ ?_ ⟨v0, hc⟩ ?_ ?_
  · intro q hq
    rw [List.mem_singleton.mp hq]; exact hm3
  · intro hq; exact e1 (List.mem_singleton.mp hq)
  · intro hq; exact e2 (List.mem_singleton.mp hq)
  · intro q hq; cases hq
  · rintro i o x y T h tk own u hx hy hT ⟨v, hv⟩ ho F' N'
    have hi : i < ns.length := by
      have := (List.getElem?_eq_some_iff.mp hx).1
      have := hM.1
      omega
    obtain ⟨t, et⟩ := hM.2 i ns[i] (List.getElem?_eq_getElem hi)
    obtain ⟨t', et'⟩ := hR.2 i ns[i] (List.getElem?_eq_getElem hi)
    rw [hx] at et
    rw [hy] at et'
    cases et
    cases et'
    exact turn ns[i] t t' T o v h tk own u (hlt _ (List.getElem_mem hi)) hT hv ho F' N'
  · rintro o h tk u ⟨v, hv⟩ F' N'
    exact done o h tk u F' N'
theorem l5_end {ca : Addr} {o : Obj} {v : Option Value} {own : List (Addr × Obj)} {L : Addr} {h' : Heap} {m' : Str → Option Value} {s₁ : Shared} {tk : Nat} {news' : List (Addr × Obj)}
    (F : Fr h₀ L h' m') (N : News h₀ L h' news') (sub : ∀ p ∈ (ca, o) :: own, p ∈ news') (hd : o.data = .cell v) :
    TEnd h₀ L (l5Led ca) l5Ps CellIs own s₁ { s₁ with heap := h', toks := tk } := by
  refine TEnd.intro o F N ?_ (fun q hq => sub q (List.mem_cons_of_mem _ hq)) ?_ ⟨v, hd⟩
  · intro q hq
    rw [List.mem_singleton.mp hq]; exact sub _ (List.mem_cons_self ..)
  · intro q hq; cases hq
end
end Mine

-- Comp7
namespace Mine
open PySem PySem.W PySem.Calls PyProof.Rows PyProof.V PySem.Spec PySem.SeqAt
section
variable {prog : Program} {w : World} {A : Around} {E : Value → Shared → Prop} {s : Shared} {env : Env} {h₀ : Heap} {L : Addr} {m : Str → Option Value} {Q : Value → Shared → Prop}

/-- a turn of a comprehension that makes nothing but its value -/
def TxEnd (s : Shared) (h : Heap) (v : Value) (y : Value) (s' : Shared) : Prop := y = v ∧ ∃ tk, s' = { s with heap := h, toks := tk }
theorem TxEnd.intro {h : Heap} {v y : Value} {tk : Nat} (e : y = v) : TxEnd s h v y { s with heap := h, toks := tk } := ⟨e, tk, rfl⟩

def SrcTx (prog : Program) (w : World) (A : Around) (h₀ : Heap) (L : Addr) (m : Str → Option Value) (env : Env) (elt : PySem.Expr) (x : Str) (scope : Scope) (cl : List (Str × Addr)) (Q : Value → Shared → Prop) (xv : Value) (s₁ : Shared) : Prop :=
  ∃ (tx : Str) (t : Tok) (g : Nat → Bool) (news : List (Addr × Obj)), xv = .str tx t ∧ tx.cps.all (· < 128) = true ∧ tx.cps.size ≤ sizeLine ∧ A.handled = none ∧ Fr h₀ L s₁.heap m ∧ News h₀ L s₁.heap news ∧
    (∀ c t I oI C oC D m₂ ys h tk (E' : Value → Shared → Prop), LCg.NsObj oC m₂ → m₂ x = some (.str ⟨#[c]⟩ t) → Fr h₀ L h m → News h₀ L h ((I, oI) :: (C, oC) :: (D, LCg.lst ys) :: news) →
      wpAny (model prog w) A (eval elt (compEnvC scope cl C env)) (TxEnd { s₁ with heap := h, toks := tk } h (.bool (g c))) E' { s₁ with heap := h, toks := tk }) ∧
    (∀ D h tk, Fr h₀ L h m → News h₀ L h ((D, LCg.lst (tx.cps.toList.map fun c => .bool (g c))) :: news) → LCg.Off1 D news → Q (.ref D) { s₁ with heap := h, toks := tk })

theorem tx_rest {elt : PySem.Expr} {x : Str} {scope : Scope} {cl : List (Str × Addr)} {Fin : List Value → List (Addr × Obj) → Prop} {news : List (Addr × Obj)} {tx : Str} {g : Nat → Bool}
    (turn : ∀ c t I oI C oC D m₂ ys h tk (E' : Value → Shared → Prop), LCg.NsObj oC m₂ → m₂ x = some (.str ⟨#[c]⟩ t) → Fr h₀ L h m → News h₀ L h ((I, oI) :: (C, oC) :: (D, LCg.lst ys) :: news) →
      wpAny (model prog w) A (eval elt (compEnvC scope cl C env)) (TxEnd { s with heap := h, toks := tk } h (.bool (g c))) E' { s with heap := h, toks := tk })
    (fin : Fin (tx.cps.toList.map fun c => .bool (g c)) news) :
    LCg.CompRest prog w A h₀ L m env elt x scope cl s (fun _ => True) (SignAt tx) Fin tx.cps.size 0 [] news := by
  have key : ∀ (j i : Nat), i + j = tx.cps.size → LCg.CompRest prog w A h₀ L m env elt x scope cl s (fun _ => True) (SignAt tx) Fin j i ((tx.cps.toList.take i).map fun c => .bool (g c)) news := by
    intro j
    induction j with
    | zero =>
      intro i hi
      refine LCg.CompRest.zero ?_
      have e : i = tx.cps.toList.length := by simpa using hi
      subst e
      rw [List.take_length]
      exact fin
    | succ j ih =>
      intro i hi
      refine LCg.CompRest.succ ?_
      intro v I oI C oC D m₂ h tk E' hv hC hx F N off ne
      obtain ⟨c, u, hc, hv'⟩ := hv
      rw [hv'] at hx
      refine wpAny_mono (turn c u I oI C oC D m₂ _ h tk E' hC hx F N) (fun y s₂ hq => ?_) fun _ _ e => e
      obtain ⟨hy, tk', rfl⟩ := hq
      refine ⟨h, tk', news, rfl, F, N, off, trivial, ?_⟩
      have e : (tx.cps.toList.take i).map (fun c => Value.bool (g c)) ++ [y] = (tx.cps.toList.take (i + 1)).map fun c => Value.bool (g c) := by
        have hc' : tx.cps.toList[i]? = some c := by simpa using hc
        rw [hy, List.take_add_one, hc']
        simp
      show LCg.CompRest prog w A h₀ L m env elt x scope cl s (fun _ => True) (SignAt tx) Fin j (i + 1) (List.map (fun c => Value.bool (g c)) (List.take i tx.cps.toList) ++ [y]) news
      rw [e]
      exact ih (i + 1) (by omega)
  exact key tx.cps.size 0 (by omega)

theorem ListComp_Tx {elt iter : PySem.Expr} {x : Str} {px : Pos} {scope : Scope} {cl : List (Str × Addr)} {pos : Pos} (F₀ : Fr h₀ L s.heap m)
    (hclos : closureFor scope env = pure cl) (hcell : ∀ y ∈ scope.names, y.2 ≠ .cell) (hkind : scope.kind = .function)
    (hnames : ∀ y ∈ scope.names, y.2 = .local → scope.names.lookup y.1 = some .local) (hx : scope.names.lookup x = some .local)
    (h : wpAny (model prog w) A (eval iter env) (SrcTx prog w A h₀ L m env elt x scope cl Q) E s)
    (hs : ∀ x, foldedSetIterable iter env x = pure x := by intro _; rfl) :
    wpAny (model prog w) A (eval (.ListComp elt [⟨.Name x px, iter, [], 0⟩] scope pos) env) Q E s := by
  rw [eval_ListComp]
  refine wpAny_comprehension_free (use := none) rfl hs hclos hkind hnames (wpAny_mono h (fun xv s₁ h₁ => ?_) fun _ _ e => e)
  obtain ⟨tx, t, g, news, rfl, ha, hsz, hh, F, N, turn, done⟩ := h₁
  refine wpAny_pyIter_ascii ha ?_
  have up : ∀ b o, s₁.heap.get? b = some o → (s₁.heap.push { cls := .type "str_ascii_iterator", data := .fields #[.str tx t, .int 0 0] }).get? b = some o := fun b o e => Heap.get?_push_of_some _ e
  refine LCg.block_U (S := fun _ => True) (Fin := fun ys nw => ys = tx.cps.toList.map (fun c => .bool (g c)) ∧ nw = news) (Walks.strAscii hh s₁.heap.objs.size tx t) hsz (fun i h st => by obtain ⟨o, e, _⟩ := st; exact ⟨o, e⟩)
    (fun i h h' o nw st e e' _ _ _ => by
      obtain ⟨o', q, r⟩ := st
      rw [e] at q; cases q
      exact ⟨o, e', r⟩)
    hcell hkind hx ⟨_, Heap.get?_push_size _ rfl, rfl, rfl⟩ (fun b hb => ?_)
    (F.keeps up) (N.grown up) (Nat.ne_of_lt F.ns.lt) (next_is_new F) (fun p hp => Nat.ne_of_lt (Heap.lt_size (N p hp).1)) trivial (tx_rest (fun c t I oI C oC D m₂ ys h tk E' => turn c t I oI C oC D m₂ ys h tk E') ⟨rfl, rfl⟩) ?_
  · rw [List.mem_singleton.mp hb]
    show s₁.heap.objs.size < (s₁.heap.push _).objs.size
    rw [Heap.size_push]; exact Nat.lt_succ_self _
  · rintro D C h tk m' ys news' F' N' o1 hn hC₀ hD₀ hCL hDL hCD offC ⟨rfl, rfl⟩
    refine ⟨m', hn, fun h'' hs'' => done D h'' tk (F'.change hs'' hCL hC₀) (fun p hp => ?_) o1⟩
    refine ⟨hs''.extBut _ _ ?_ (N' p hp).1, (N' p hp).2⟩
    rcases List.mem_cons.mp hp with rfl | hp
    · exact Ne.symm hCD
    · exact offC p hp

theorem SrcTx.intro {elt : PySem.Expr} {x : Str} {scope : Scope} {cl : List (Str × Addr)} {tx : Str} {t : Tok} {news : List (Addr × Obj)} (g : Nat → Bool)
    (ha : tx.cps.all (· < 128) = true) (hsz : tx.cps.size ≤ sizeLine) (hh : A.handled = none) (F : Fr h₀ L s.heap m) (N : News h₀ L s.heap news)
    (turn : ∀ c t I oI C oC D m₂ ys h tk (E' : Value → Shared → Prop), LCg.NsObj oC m₂ → m₂ x = some (.str ⟨#[c]⟩ t) → Fr h₀ L h m → News h₀ L h ((I, oI) :: (C, oC) :: (D, LCg.lst ys) :: news) →
      wpAny (model prog w) A (eval elt (compEnvC scope cl C env)) (TxEnd { s with heap := h, toks := tk } h (.bool (g c))) E' { s with heap := h, toks := tk })
    (done : ∀ D h tk, Fr h₀ L h m → News h₀ L h ((D, LCg.lst (tx.cps.toList.map fun c => .bool (g c))) :: news) → Q (.ref D) { s with heap := h, toks := tk }) :
    SrcTx prog w A h₀ L m env elt x scope cl Q (.str tx t) s :=
  ⟨tx, t, g, news, rfl, ha, hsz, hh, F, N, turn, fun D h tk F' N' _ => done D h tk F' N'⟩

theorem SrcTx.row {elt : PySem.Expr} {x : Str} {scope : Scope} {cl : List (Str × Addr)} {tx : Str} {t : Tok} {news : List (Addr × Obj)} {n : Nat} {o : Obj} {tr : Tok} (_ : o.data = .cell (some (.str (rowOf n) tr)))
    (ha : tx.cps.all (· < 128) = true) (hsz : tx.cps.size ≤ sizeLine) (hh : A.handled = none) (F : Fr h₀ L s.heap m) (N : News h₀ L s.heap news)
    (turn : ∀ c t I oI C oC D m₂ ys h tk (E' : Value → Shared → Prop), LCg.NsObj oC m₂ → m₂ x = some (.str ⟨#[c]⟩ t) → Fr h₀ L h m → News h₀ L h ((I, oI) :: (C, oC) :: (D, LCg.lst ys) :: news) →
      wpAny (model prog w) A (eval elt (compEnvC scope cl C env)) (TxEnd { s with heap := h, toks := tk } h (.bool (Txt.item (rowOf n) 0 == (⟨#[c]⟩ : Str)))) E' { s with heap := h, toks := tk })
    (done : ∀ D h tk, Fr h₀ L h m → News h₀ L h ((D, LCg.lst (tx.cps.toList.map fun c => .bool (Txt.item (rowOf n) 0 == (⟨#[c]⟩ : Str)))) :: news) → Q (.ref D) { s with heap := h, toks := tk }) :
    SrcTx prog w A h₀ L m env elt x scope cl Q (.str tx t) s := SrcTx.intro _ ha hsz hh F N turn done

/-- the signs that the judges stand for -/
abbrev pcdb : Str := Str.ofString "pcdb-ls"
theorem judge_eq {n : Nat} (hn : n < 65536) : (pcdb.cps.toList.map fun c => Value.bool (Txt.item (rowOf n) 0 == (⟨#[c]⟩ : Str))) =
    [.bool (Builtin.bitAnd (n : Int) 61440 == 4096), .bool (Builtin.bitAnd (n : Int) 61440 == 8192), .bool (Builtin.bitAnd (n : Int) 61440 == 16384), .bool (Builtin.bitAnd (n : Int) 61440 == 24576),
     .bool (Builtin.bitAnd (n : Int) 61440 == 32768), .bool (Builtin.bitAnd (n : Int) 61440 == 40960), .bool (Builtin.bitAnd (n : Int) 61440 == 49152)] := by
  have e1 : Builtin.bitAnd (n : Int) 61440 = ((4096 * (n / 4096) : Nat) : Int) := (bandN n 61440).trans (congrArg _ (kindN hn))
  have e2 : Txt.item (rowOf n) 0 = ⟨#[kindC (n / 4096)]⟩ := rfl
  have e3 : pcdb.cps.toList = [112, 99, 100, 98, 45, 108, 115] := by decide +kernel
  rw [e1, e2, e3]
  have hk : n / 4096 < 16 := by omega
  generalize n / 4096 = k at hk
  have key : ∀ k : Fin 16, ([112, 99, 100, 98, 45, 108, 115].map fun c : Nat => ((⟨#[kindC k.val]⟩ : Str) == (⟨#[c]⟩ : Str))) =
      [((4096 * k.val : Nat) : Int) == 4096, ((4096 * k.val : Nat) : Int) == 8192, ((4096 * k.val : Nat) : Int) == 16384, ((4096 * k.val : Nat) : Int) == 24576, ((4096 * k.val : Nat) : Int) == 32768, ((4096 * k.val : Nat) : Int) == 40960, ((4096 * k.val : Nat) : Int) == 49152] := by decide +kernel
  have h := congrArg (List.map Value.bool) (key ⟨k, hk⟩)
  simpa using h

theorem readsAll_bools {h : Heap} : ∀ bs : List Bool, ReadsAll h (bs.map Value.bool) (bs.map PyData.bool) []
  | [] => .nil
  | b :: r => by
    have := ReadsAll.cons (Reads.bool (h := h) b) (readsAll_bools (h := h) r)
    simpa using this
theorem canLayAll0_bools : ∀ bs : List Bool, PyData.canLayAll0 (bs.map PyData.bool) = true
  | [] => by simp [PyData.canLayAll0]
  | _ :: r => by simp [PyData.canLayAll0, PyData.canLay0, canLayAll0_bools r]
theorem depthAll_bools : ∀ bs : List Bool, PyData.depthAll (bs.map PyData.bool) = 0
  | [] => by simp [PyData.depthAll]
  | _ :: r => by simp [PyData.depthAll, PyData.depth, depthAll_bools r]
theorem shaped_bools (bs : List Bool) : SeqAt.shaped (.list (bs.map PyData.bool)) = true := by
  simp [SeqAt.shaped, PyData.canLay0, PyData.depth, canLayAll0_bools, depthAll_bools]
theorem noMix_bools : ∀ bs : List Bool, noMixAll (bs.map PyData.bool) (bs.map PyData.bool) = true
  | [] => by simp [noMixAll]
  | _ :: r => by simp [noMixAll, noMix, noMix_bools r]
theorem same_bools : ∀ bs : List Bool, PySem.Spec.sameAll (bs.map PyData.bool) (bs.map PyData.bool) = true
  | [] => by simp [PySem.Spec.sameAll]
  | _ :: r => by simp [PySem.Spec.sameAll, PySem.Spec.same, same_bools r]
/-- the seven judges' yes and no, and the first sign's -/
theorem said_ne {n : Nat} {a b : Addr} {k1 : Nat} {news : List (Addr × Obj)} (hn : n < 65536) (N : News h₀ L s.heap news)
    (h1 : (a, listOf #[Value.bool (Builtin.bitAnd (n : Int) 61440 == 4096), Value.bool (Builtin.bitAnd (n : Int) 61440 == 8192), Value.bool (Builtin.bitAnd (n : Int) 61440 == 16384), Value.bool (Builtin.bitAnd (n : Int) 61440 == 24576),
     Value.bool (Builtin.bitAnd (n : Int) 61440 == 32768), Value.bool (Builtin.bitAnd (n : Int) 61440 == 40960), Value.bool (Builtin.bitAnd (n : Int) 61440 == 49152)] k1) ∈ news)
    (h2 : (b, LCg.lst (pcdb.cps.toList.map fun c => Value.bool (Txt.item (rowOf n) 0 == (⟨#[c]⟩ : Str)))) ∈ news) (hu : A.units + 64 < cLine) (h : Q (.bool false) s) :
    wpAny (model prog w) A (compareOp .NotEq (.ref a) (.ref b)) Q E s := by
  rw [judge_eq hn] at h2
  have r1 := readsAll_bools (h := s.heap) [Builtin.bitAnd (n : Int) 61440 == 4096, Builtin.bitAnd (n : Int) 61440 == 8192, Builtin.bitAnd (n : Int) 61440 == 16384, Builtin.bitAnd (n : Int) 61440 == 24576,
     Builtin.bitAnd (n : Int) 61440 == 32768, Builtin.bitAnd (n : Int) 61440 == 40960, Builtin.bitAnd (n : Int) 61440 == 49152]
  refine ne_dataH_same (Reads.list (N _ h1).1 rfl rfl r1) (Reads.list (N _ h2).1 rfl rfl r1) (shaped_bools _) (shaped_bools _) hu (by simp only [noMix]; exact noMix_bools _) ?_
  simp only [PySem.Spec.same]
  rw [same_bools]
  exact h
end
end Mine

-- L7
open PySem PySem.W PySem.Calls PyProof.Rows PyProof.V PySem.Spec Mine
set_option maxRecDepth 100000 in
set_option maxHeartbeats 8000000 in
theorem PySem.Challenge.cw_sh0088_01_holds : PySem.Challenge.rw_sh0088_01.Holds :=
  Mine.hd (by
    k_with_none
    k_with "execs nil" => refine wpAny_execs_nil ?_
    k_with "execs cons" => (refine tok_any (fun tk => ?_); refine wpAny_execs_cons ?_)
    k_with "exec For Tuple Call cons nil" => (k_here; (rename Fr _ _ _ _ => lF'); (with_unfolding_all refine' For_turns lF' ?_; k_whole))
    k_with "TPost" => (dsimp only [TPost])
    k_with "TEnd" => (k_dflt (refine l1_end (by assumption) (by assumption) (by rfl) (by assumption) (by simp only [List.length_set]; assumption)))
    k_with "CompSrc" => (k_here; k_dflt ((rename IntsAre _ (List.map _ _) => hM9); (with_unfolding_all obtain ⟨a9, b9, c9, ta9, tb9, tc9, ha9, hb9, hc9, e9⟩ := ints3m hM9); (clear hM9); (subst e9); (refine LCg.CompSrc.ledger (by rfl) (by k_asm) (by k_asm) (by k_mem) (by exact Nat.le_of_ble_eq_true rfl) ?_); intro g'; lcg_lit))
    k_with "call ref" => (k_here; k_dflt (refine' con_use (spelt_con _ _ _ _ _ _ _ ?a1) ?B ?F ?X ?N ?T ?hk ?h1 ?h2 ?h3 ?h4 ?h5 ?_; (case a1 => assumption); (case B => k_asm); (case F => k_asm); (case X => k_asm); (case N => k_asm); (case T => k_asm); (case h3 => rfl); (case hk => rfl); (case h1 => rfl); (case h2 => exact Nat.le_of_ble_eq_true rfl); (case h4 => rfl); (case h5 => exact Nat.le_of_ble_eq_true rfl); (intro t9 h9 tk9 F9 N9; (try dsimp only))))
    k_with "call ref" => (k_here; k_dflt (refine' con_use (bits_con _ _ _ _ _ _ _ _ _ _ _ ?a1 ?a2 ?a3 ?a4) ?B ?F ?X ?N ?T ?hk ?h1 ?h2 ?h3 ?h4 ?h5 ?_; (case a1 => exact fml (by decide)); (case a2 => exact fmh (by decide) rfl); (case a3 => exact nAt_lt (by with_reducible assumption)); (case a4 => exact nAt_lt (by with_reducible assumption)); (case B => k_asm); (case F => k_asm); (case X => k_asm); (case N => k_asm); (case T => k_asm); (case h3 => rfl); (case hk => rfl); (case h1 => rfl); (case h2 => exact Nat.le_of_ble_eq_true rfl); (case h4 => rfl); (case h5 => exact Nat.le_of_ble_eq_true rfl); (intro t9 h9 tk9 F9 N9; (try dsimp only))))
    k_with "call ref" => (k_here; k_dflt (refine' con_use (signs_con _ _ _ _ _ _ _ _ _ _ _ ?a1 ?a2) ?B ?F ?X ?N ?T ?hk ?h1 ?h2 ?h3 ?h4 ?h5 ?_; (case a1 => exact fml (by decide)); (case a2 => exact fmh (by decide) rfl); (case B => k_asm); (case F => k_asm); (case X => k_asm); (case N => k_asm); (case T => k_asm); (case h3 => rfl); (case hk => rfl); (case h1 => rfl); (case h2 => exact Nat.le_of_ble_eq_true rfl); (case h4 => rfl); (case h5 => exact Nat.le_of_ble_eq_true rfl); (intro t9 h9 tk9 F9 N9; (try dsimp only))))
    k_with "subscriptTail Name Name ref int" => (k_here; k_dflt ((refine' m_item ?N ?hm ?hM ?h0 ?h1 ?h2 ?_ ?hs); (case N => k_asm); (case hm => k_mem); (case hM => with_reducible assumption); (case h0 => exact fml (by omega)); (case h1 => exact fmh (by omega) rfl); (case h2 => omega); (case hs => with_unfolding_all rfl); intro t9))
    k_with "subscriptTail Name Name ref int" => (k_here; k_dflt ((refine' r_item ?N ?hm ?hM ?h0 ?h1 ?h2 ?_ ?hs); (case N => k_asm); (case hm => k_mem); (case hM => with_reducible assumption); (case h0 => exact fml (by omega)); (case h1 => exact fmh (by omega) rfl); (case h2 => omega); (case hs => with_unfolding_all rfl); intro t9))
    k_with "call builtin:list.append" => (k_here; k_dflt (refine' append_K ?k1 ?k2 ?k3 ?_ ?z; (case k1 => k_asm); (case k2 => k_asm); (case k3 => first | exact upd1 (by with_reducible assumption) | exact upd2 (by with_reducible assumption)); (case z => exact app_fit (by with_reducible assumption) (by with_reducible omega)); k_whole); intro h' F' N'; (try k_sweep))
    k_with "call builtin:len" => (k_here; k_dflt ((refine' m_len ?N ?hm ?hM ?h2 ?_); (case N => k_asm); (case hm => k_mem); (case hM => with_reducible assumption); (case h2 => omega); intro t9 tk9))
    k_with "TEnd" => (k_dflt (refine l2_end (by assumption) (by assumption) (fun q hq => by first | exact hq | exact List.mem_cons_of_mem _ hq) (by rfl) (by rfl) (by with_reducible assumption) (by with_reducible assumption) (newOf_lt (nAt_lt (by with_reducible assumption)) (nAt_lt (by with_reducible assumption))) (by with_reducible assumption) (by with_reducible assumption)))
    k_with "call type:enumerate" => (k_here; k_dflt ((with_unfolding_all refine' law1 ?hh ?hl ?hi ?F ?N ?hp ?h11 ?_ ?_); (case hh => exact rfl); (case hl => assumption); (case hi => assumption); (case F => k_asm); (case N => k_asm); (case hp => exact rfl); (case h11 => exact ints11_lit); all_goals (first | (intro i us ks nn n t t' T h' tk' own u hI hk hu hT hO F' N'; (try k_fold)) | (intro n0 n1 n2 n3 n4 n5 n6 n7 n8 n9 n10 t0 t1 t2 t3 t4 t5 t6 t7 t8 t9 t10 nn h' tk' u F' N'; (try k_fold)))))
    k_with "exec For Name Subscript cons nil" => (k_here; k_dflt ((rename Fr _ _ _ _ => lF'); (with_unfolding_all refine' For_turns lF' ?_; k_whole)))
    k_with "pyIter ref" => (k_here; k_dflt ((with_unfolding_all refine' law2 ?hh ?F ?N ?hm ?hi ?hl1 ?hl2 ?hl3 ?e1 ?e2 ?e3 ?d1 ?d2 ?d3 ?hp1 ?hp2 ?ha ?hb ?hc ?hd ?h8 ?_ ?_); (case hd => assumption); (case hh => exact rfl); (case F => k_asm); (case N => k_asm); (case hp1 => exact rfl); (case hp2 => exact rfl); (case hm => k_mem); (case hi => l_ints); (case hl1 => k_mem); (case hl2 => k_mem); (case hl3 => k_mem); (case e1 => k_ne); (case e2 => k_ne); (case e3 => k_ne); (case d1 => with_reducible k_ne); (case d2 => exact Ne.symm (And.right (And.right (by with_reducible assumption)))); (case d3 => exact Ne.symm (And.right (And.right (And.right (by with_reducible assumption))))); (case h8 => exact rfl); (case ha => assumption); (case hb => assumption); (case hc => assumption); all_goals (first | (intro i ms rs q1 q2 ns k t h' tk' own u hlen hge hi hml hrl hlt hM hR hA3 hO F' N'; (try k_fold)) | (intro ms rs q1 q2 ns h' tk' u hlen hml hrl hlt hM hR F' N'; (try k_fold)))))
    k_with "call type:zip" => (k_here; k_dflt ((refine' law5 ?hh ?F ?N ?hM ?hR ?hlt ?hc ?hm1 ?hm2 ?hm3 ?e1 ?e2 ?_ ?_); (case hh => exact rfl); (case F => k_asm); (case N => k_asm); (case hM => with_reducible assumption); (case hR => with_reducible assumption); (case hlt => with_reducible assumption); (case hc => assumption); (case hm1 => k_mem); (case hm2 => k_mem); (case hm3 => k_mem); (case e1 => exact Ne.symm (And.right (And.right (by with_reducible assumption)))); (case e2 => exact Ne.symm (And.right (And.right (And.right (by with_reducible assumption))))); all_goals (first | (intro n5 t5 t6 T5 o5 v5 h' tk' own u hn5 hT hd5 hO F' N'; (try k_fold)) | (intro o5 h' tk' u F' N'; (try k_fold)))))
    k_with "call ref" => (k_here; k_dflt (refine' con_use (filemode_con _ _ _ _ _ _ _ ?a1) ?B ?F ?X ?N ?T ?hk ?h1 ?h2 ?h3 ?h4 ?h5 ?_; (case a1 => with_reducible assumption); (case B => k_asm); (case F => k_asm); (case X => k_asm); (case N => k_asm); (case T => k_asm); (case h3 => rfl); (case hk => rfl); (case h1 => rfl); (case h2 => exact Nat.le_of_ble_eq_true rfl); (case h4 => rfl); (case h5 => exact Nat.le_of_ble_eq_true rfl); (intro t9 h9 tk9 F9 N9; (try dsimp only))))
    k_with "eval ListComp" => (k_here; k_dflt (refine ListComp_Tx (by k_asm) (by with_unfolding_all rfl) (by decide) (by rfl) (by decide) (by rfl) ?_))
    k_with "SrcTx" => (k_here; k_dflt (refine SrcTx.row (by with_reducible assumption) (by decide +kernel) (by exact Nat.le_of_ble_eq_true rfl) (by rfl) (by k_asm) (by k_asm) (fun c t I' oI' C' oC' D' m' ys' h' tk' E' hC' hx' F' N' => ?_) (fun D' h' tk' F' N' => ?_)))
    k_with "subscriptTail Name Constant str int" => (k_here; k_dflt (refine sub_n 10 (by decide) (by rfl) (by decide) (by decide) ?_))
    k_with "TxEnd" => (k_dflt (refine TxEnd.intro ?_; rfl))
    k_with "compareOp NotEq ref ref" => (k_here; k_dflt (refine' said_ne ?hn ?N ?h1 ?h2 ?hu ?_; (case hn => with_reducible assumption); (case N => k_asm); (case h1 => k_mem); (case h2 => k_mem); (case hu => units_room)))
    k_with "TEnd" => (k_dflt (refine l5_end (by assumption) (by assumption) (fun q hq => by first | exact hq | exact List.mem_cons_of_mem _ hq | exact List.mem_cons_of_mem _ (List.mem_cons_of_mem _ hq)) (by with_reducible assumption)))
    w_strict (k_go0; (all_goals try k_fold); have kmark := kstMark; k_steps))
