import PyProof.Rows.All
import Wide.All
import OpenK.AllK
import Wide.FinOn
import KE.KSortTup
import Lean
import PySem.Challenge.RW_ij0180_02
set_option Elab.async false
set_option linter.unusedVariables false
set_option maxRecDepth 100000
set_option maxHeartbeats 8000000
set_option compiler.extract_closed false
set_option genSizeOf false
namespace Mine
section
section
open Nat.Internal.Linear
noncomputable abbrev Fct := Nat × Nat × Expr × Expr
def Fct.holds (c : Context) (f : Fct) : Prop := match f with
  | (_, 0, l, r) => l.denote c ≤ r.denote c
  | (_, 1, l, r) => l.denote c = r.denote c
  | (_, 2, l, r) => l.denote c = r.denote c
  | (_, 3, l, r) => ¬ r.denote c < l.denote c
  | (_, _, l, r) => ¬ r.denote c ≤ l.denote c
noncomputable def Fct.lo : Fct → Expr
  | (k, 2, _, r) => .mulL k r
  | (k, 0, l, _) => .mulL k l
  | (k, 1, l, _) => .mulL k l
  | (k, 3, l, _) => .mulL k l
  | (k, _, l, _) => .mulL k (.add l (.num 1))
noncomputable def Fct.hi : Fct → Expr
  | (k, 2, l, _) => .mulL k l
  | (k, _, _, r) => .mulL k r
noncomputable def sumE (f : Fct → Expr) (l : List Fct) (e : Expr) : Expr := l.foldr (fun x y => .add (f x) y) e
def impF (c : Context) (l : List Fct) (P : Prop) : Prop := l.foldr (fun f Q => f.holds c → Q) P
theorem Fct.ok {c : Context} : ∀ {f : Fct}, f.holds c → f.lo.denote c ≤ f.hi.denote c
  | (k, 0, _, _), h => Nat.mul_le_mul_left k h
  | (k, 1, _, _), h => Nat.mul_le_mul_left k (Nat.le_of_eq h)
  | (k, 2, _, _), h => Nat.mul_le_mul_left k (Nat.le_of_eq (Eq.symm h))
  | (k, 3, _, _), h => Nat.mul_le_mul_left k (Nat.le_of_not_lt h)
  | (k, _ + 4, _, _), h => Nat.mul_le_mul_left k (Nat.lt_of_not_le h)
theorem impF_of {c : Context} {P : Prop} : ∀ {l : List Fct} {a b : Expr}, ((sumE Fct.lo l a).denote c + b.denote c ≤ a.denote c + (sumE Fct.hi l b).denote c → P) → impF c l P
  | [], _, _, h => h (Nat.le_refl _)
  | f :: l, a, b, h => fun hf => impF_of (l := l) (a := a) (b := b) fun hs => h (by
      have h1 := Fct.ok hf
      show (f.lo.denote c + (sumE Fct.lo l a).denote c) + b.denote c ≤ a.denote c + (f.hi.denote c + (sumE Fct.hi l b).denote c)
      omega)
theorem fle (c : Context) (l : List Fct) (a b : Expr) (h : (ExprCnstr.toNormPoly ⟨false, .add a (sumE Fct.hi l (.num 0)), .add b (sumE Fct.lo l (.num 0))⟩).isValid = true) : impF c l (a.denote c ≤ b.denote c) :=
  impF_of (a := .num 0) (b := .num 0) fun hs => by
    have h1 : a.denote c + (sumE Fct.hi l (.num 0)).denote c ≤ b.denote c + (sumE Fct.lo l (.num 0)).denote c := (ExprCnstr.eq_true_of_isValid c _ h).mpr trivial
    have h2 : (sumE Fct.lo l (.num 0)).denote c + 0 ≤ 0 + (sumE Fct.hi l (.num 0)).denote c := hs
    omega
end
section
theorem subA (a b : Nat) : a ≤ a - b + b := Nat.le_add_of_sub_le (Nat.le_refl _)
end
section
open Int.Internal.Linear
noncomputable abbrev FctI := Nat × Nat × Expr × Expr
def FctI.holds (c : Context) (f : FctI) : Prop := match f with
  | (_, 0, l, r) => l.denote c ≤ r.denote c
  | (_, 1, l, r) => l.denote c = r.denote c
  | (_, 2, l, r) => l.denote c = r.denote c
  | (_, 3, l, r) => ¬ r.denote c < l.denote c
  | (_, _, l, r) => ¬ r.denote c ≤ l.denote c
noncomputable def FctI.lo : FctI → Expr
  | (k, 2, _, r) => .mulL k r
  | (k, 0, l, _) => .mulL k l
  | (k, 1, l, _) => .mulL k l
  | (k, 3, l, _) => .mulL k l
  | (k, _, l, _) => .mulL k (.add l (.num 1))
noncomputable def FctI.hi : FctI → Expr
  | (k, 2, l, _) => .mulL k l
  | (k, _, _, r) => .mulL k r
noncomputable def sumI (f : FctI → Expr) (l : List FctI) (e : Expr) : Expr := l.foldr (fun x y => .add (f x) y) e
def impI (c : Context) (l : List FctI) (P : Prop) : Prop := l.foldr (fun f Q => f.holds c → Q) P
theorem FctI.ok {c : Context} : ∀ {f : FctI}, f.holds c → f.lo.denote c ≤ f.hi.denote c
  | (k, 0, _, _), h => Int.mul_le_mul_of_nonneg_left h (Int.natCast_nonneg k)
  | (k, 1, _, _), h => Int.mul_le_mul_of_nonneg_left (Int.le_of_eq h) (Int.natCast_nonneg k)
  | (k, 2, _, _), h => Int.mul_le_mul_of_nonneg_left (Int.le_of_eq (Eq.symm h)) (Int.natCast_nonneg k)
  | (k, 3, _, _), h => Int.mul_le_mul_of_nonneg_left (Int.not_lt.mp h) (Int.natCast_nonneg k)
  | (k, _ + 4, _, _), h => Int.mul_le_mul_of_nonneg_left (Int.lt_of_not_ge h) (Int.natCast_nonneg k)
theorem impI_of {c : Context} {P : Prop} : ∀ {l : List FctI} {a b : Expr}, ((sumI FctI.lo l a).denote c + b.denote c ≤ a.denote c + (sumI FctI.hi l b).denote c → P) → impI c l P
  | [], _, _, h => h (Int.le_refl _)
  | f :: l, a, b, h => fun hf => impI_of (l := l) (a := a) (b := b) fun hs => h (by
      have h1 := FctI.ok hf
      show (f.lo.denote c + (sumI FctI.lo l a).denote c) + b.denote c ≤ a.denote c + (f.hi.denote c + (sumI FctI.hi l b).denote c)
      omega)
theorem ile (c : Context) (l : List FctI) (a b : Expr) (m : Nat) (h : (Expr.add a (sumI FctI.hi l (.num m))).norm = (Expr.add b (sumI FctI.lo l (.num 0))).norm) : impI c l (a.denote c ≤ b.denote c) :=
  impI_of (a := .num 0) (b := .num m) fun hs => by
    have h1 : (Expr.add a (sumI FctI.hi l (.num m))).denote c = (Expr.add b (sumI FctI.lo l (.num 0))).denote c := by
      rw [← Expr.denote_norm, ← Expr.denote_norm, h]
    have h2 : a.denote c + (sumI FctI.hi l (.num m)).denote c = b.denote c + (sumI FctI.lo l (.num 0)).denote c := h1
    have h3 : (sumI FctI.lo l (.num 0)).denote c + (m : Int) ≤ 0 + (sumI FctI.hi l (.num m)).denote c := hs
    omega
end
section
namespace Lx
section
open Nat.Internal.Linear
noncomputable abbrev v := Expr.var
noncomputable abbrev n := Expr.num
noncomputable abbrev p := Expr.add
noncomputable abbrev ml := Expr.mulL
noncomputable abbrev mr := Expr.mulR
noncomputable abbrev s (e : Expr) := Expr.add e (.num 1)
noncomputable abbrev v0 := Expr.var 0
noncomputable abbrev v1 := Expr.var 1
noncomputable abbrev v2 := Expr.var 2
noncomputable abbrev v3 := Expr.var 3
noncomputable abbrev v4 := Expr.var 4
noncomputable abbrev v5 := Expr.var 5
noncomputable abbrev v6 := Expr.var 6
noncomputable abbrev v7 := Expr.var 7
noncomputable abbrev v8 := Expr.var 8
noncomputable abbrev v9 := Expr.var 9
noncomputable abbrev v10 := Expr.var 10
noncomputable abbrev v11 := Expr.var 11
noncomputable abbrev n0 := Expr.num 0
noncomputable abbrev n1 := Expr.num 1
noncomputable abbrev n2 := Expr.num 2
noncomputable abbrev n3 := Expr.num 3
noncomputable abbrev n4 := Expr.num 4
noncomputable abbrev e1 (a0 : Nat) : Context := (.leaf a0)
noncomputable abbrev e2 (a0 a1 : Nat) : Context := (.branch 1 (.leaf a0) (.leaf a1))
noncomputable abbrev e3 (a0 a1 a2 : Nat) : Context := (.branch 1 (.leaf a0) (.branch 2 (.leaf a1) (.leaf a2)))
noncomputable abbrev e4 (a0 a1 a2 a3 : Nat) : Context := (.branch 2 (.branch 1 (.leaf a0) (.leaf a1)) (.branch 3 (.leaf a2) (.leaf a3)))
noncomputable abbrev e5 (a0 a1 a2 a3 a4 : Nat) : Context := (.branch 2 (.branch 1 (.leaf a0) (.leaf a1)) (.branch 3 (.leaf a2) (.branch 4 (.leaf a3) (.leaf a4))))
noncomputable abbrev e6 (a0 a1 a2 a3 a4 a5 : Nat) : Context := (.branch 3 (.branch 1 (.leaf a0) (.branch 2 (.leaf a1) (.leaf a2))) (.branch 4 (.leaf a3) (.branch 5 (.leaf a4) (.leaf a5))))
noncomputable abbrev e7 (a0 a1 a2 a3 a4 a5 a6 : Nat) : Context := (.branch 3 (.branch 1 (.leaf a0) (.branch 2 (.leaf a1) (.leaf a2))) (.branch 5 (.branch 4 (.leaf a3) (.leaf a4)) (.branch 6 (.leaf a5) (.leaf a6))))
noncomputable abbrev e8 (a0 a1 a2 a3 a4 a5 a6 a7 : Nat) : Context := (.branch 4 (.branch 2 (.branch 1 (.leaf a0) (.leaf a1)) (.branch 3 (.leaf a2) (.leaf a3))) (.branch 6 (.branch 5 (.leaf a4) (.leaf a5)) (.branch 7 (.leaf a6) (.leaf a7))))
noncomputable abbrev e9 (a0 a1 a2 a3 a4 a5 a6 a7 a8 : Nat) : Context := (.branch 4 (.branch 2 (.branch 1 (.leaf a0) (.leaf a1)) (.branch 3 (.leaf a2) (.leaf a3))) (.branch 6 (.branch 5 (.leaf a4) (.leaf a5)) (.branch 7 (.leaf a6) (.branch 8 (.leaf a7) (.leaf a8)))))
noncomputable abbrev e10 (a0 a1 a2 a3 a4 a5 a6 a7 a8 a9 : Nat) : Context := (.branch 5 (.branch 2 (.branch 1 (.leaf a0) (.leaf a1)) (.branch 3 (.leaf a2) (.branch 4 (.leaf a3) (.leaf a4)))) (.branch 7 (.branch 6 (.leaf a5) (.leaf a6)) (.branch 8 (.leaf a7) (.branch 9 (.leaf a8) (.leaf a9)))))
noncomputable abbrev e11 (a0 a1 a2 a3 a4 a5 a6 a7 a8 a9 a10 : Nat) : Context := (.branch 5 (.branch 2 (.branch 1 (.leaf a0) (.leaf a1)) (.branch 3 (.leaf a2) (.branch 4 (.leaf a3) (.leaf a4)))) (.branch 8 (.branch 6 (.leaf a5) (.branch 7 (.leaf a6) (.leaf a7))) (.branch 9 (.leaf a8) (.branch 10 (.leaf a9) (.leaf a10)))))
noncomputable abbrev e12 (a0 a1 a2 a3 a4 a5 a6 a7 a8 a9 a10 a11 : Nat) : Context := (.branch 6 (.branch 3 (.branch 1 (.leaf a0) (.branch 2 (.leaf a1) (.leaf a2))) (.branch 4 (.leaf a3) (.branch 5 (.leaf a4) (.leaf a5)))) (.branch 9 (.branch 7 (.leaf a6) (.branch 8 (.leaf a7) (.leaf a8))) (.branch 10 (.leaf a9) (.branch 11 (.leaf a10) (.leaf a11)))))
theorem fF (c : Context) (l : List Fct) (h : (ExprCnstr.toNormPoly ⟨false, .add (.num 1) (sumE Fct.hi l (.num 0)), .add (.num 0) (sumE Fct.lo l (.num 0))⟩).isValid = true) : impF c l False :=
  impF_of (a := .num 0) (b := .num 0) fun hs => by
    have h1 : 1 + (sumE Fct.hi l (.num 0)).denote c ≤ 0 + (sumE Fct.lo l (.num 0)).denote c := (ExprCnstr.eq_true_of_isValid c _ h).mpr trivial
    have h2 : (sumE Fct.lo l (.num 0)).denote c + 0 ≤ 0 + (sumE Fct.hi l (.num 0)).denote c := hs
    omega
theorem sc {a b : Nat} (h : b ≤ a) : a - b + b = a := Nat.sub_add_cancel h
theorem la {a b : Nat} (h : a ≤ b) (k : b ≤ a) : a = b := Nat.le_antisymm h k
theorem nl {a b : Nat} (h : a < b) : a ≠ b := Nat.ne_of_lt h
theorem nh {a b : Nat} (h : b < a) : a ≠ b := Nat.ne_of_gt h
theorem tl {P : Prop} (a b : Nat) (h : b ≤ a → P) (k : a ≤ b → a - b = 0 → P) : P := (Nat.le_total b a).elim h fun e => k e (Nat.sub_eq_zero_of_le e)
theorem ne {P : Prop} {a b : Nat} (e : a ≠ b) (h : a < b → P) (k : b < a → P) : P := (Nat.lt_or_gt_of_ne e).elim h k
theorem nb {a b : Nat} (h : b < a → False) : a ≤ b := Nat.le_of_not_lt h
theorem nc {a b : Nat} (h : b ≤ a → False) : a < b := Nat.lt_of_not_le h
end
section
open Int.Internal.Linear
noncomputable abbrev w := Expr.var
noncomputable abbrev k (k : Nat) : Expr := .num k
noncomputable abbrev q := Expr.add
noncomputable abbrev sb := Expr.sub
noncomputable abbrev ng := Expr.neg
noncomputable abbrev kl (k : Nat) := Expr.mulL k
noncomputable abbrev kr (e : Expr) (k : Nat) := Expr.mulR e k
noncomputable abbrev t (e : Expr) := Expr.add e (.num 1)
noncomputable abbrev w0 := Expr.var 0
noncomputable abbrev w1 := Expr.var 1
noncomputable abbrev w2 := Expr.var 2
noncomputable abbrev w3 := Expr.var 3
noncomputable abbrev w4 := Expr.var 4
noncomputable abbrev w5 := Expr.var 5
noncomputable abbrev w6 := Expr.var 6
noncomputable abbrev w7 := Expr.var 7
noncomputable abbrev w8 := Expr.var 8
noncomputable abbrev w9 := Expr.var 9
noncomputable abbrev w10 := Expr.var 10
noncomputable abbrev w11 := Expr.var 11
noncomputable abbrev k0 := Expr.num 0
noncomputable abbrev k1 := Expr.num 1
noncomputable abbrev k2 := Expr.num 2
noncomputable abbrev k3 := Expr.num 3
noncomputable abbrev k4 := Expr.num 4
noncomputable abbrev i1 (a0 : Int) : Context := (.leaf a0)
noncomputable abbrev i2 (a0 a1 : Int) : Context := (.branch 1 (.leaf a0) (.leaf a1))
noncomputable abbrev i3 (a0 a1 a2 : Int) : Context := (.branch 1 (.leaf a0) (.branch 2 (.leaf a1) (.leaf a2)))
noncomputable abbrev i4 (a0 a1 a2 a3 : Int) : Context := (.branch 2 (.branch 1 (.leaf a0) (.leaf a1)) (.branch 3 (.leaf a2) (.leaf a3)))
noncomputable abbrev i5 (a0 a1 a2 a3 a4 : Int) : Context := (.branch 2 (.branch 1 (.leaf a0) (.leaf a1)) (.branch 3 (.leaf a2) (.branch 4 (.leaf a3) (.leaf a4))))
noncomputable abbrev i6 (a0 a1 a2 a3 a4 a5 : Int) : Context := (.branch 3 (.branch 1 (.leaf a0) (.branch 2 (.leaf a1) (.leaf a2))) (.branch 4 (.leaf a3) (.branch 5 (.leaf a4) (.leaf a5))))
noncomputable abbrev i7 (a0 a1 a2 a3 a4 a5 a6 : Int) : Context := (.branch 3 (.branch 1 (.leaf a0) (.branch 2 (.leaf a1) (.leaf a2))) (.branch 5 (.branch 4 (.leaf a3) (.leaf a4)) (.branch 6 (.leaf a5) (.leaf a6))))
noncomputable abbrev i8 (a0 a1 a2 a3 a4 a5 a6 a7 : Int) : Context := (.branch 4 (.branch 2 (.branch 1 (.leaf a0) (.leaf a1)) (.branch 3 (.leaf a2) (.leaf a3))) (.branch 6 (.branch 5 (.leaf a4) (.leaf a5)) (.branch 7 (.leaf a6) (.leaf a7))))
noncomputable abbrev i9 (a0 a1 a2 a3 a4 a5 a6 a7 a8 : Int) : Context := (.branch 4 (.branch 2 (.branch 1 (.leaf a0) (.leaf a1)) (.branch 3 (.leaf a2) (.leaf a3))) (.branch 6 (.branch 5 (.leaf a4) (.leaf a5)) (.branch 7 (.leaf a6) (.branch 8 (.leaf a7) (.leaf a8)))))
noncomputable abbrev i10 (a0 a1 a2 a3 a4 a5 a6 a7 a8 a9 : Int) : Context := (.branch 5 (.branch 2 (.branch 1 (.leaf a0) (.leaf a1)) (.branch 3 (.leaf a2) (.branch 4 (.leaf a3) (.leaf a4)))) (.branch 7 (.branch 6 (.leaf a5) (.leaf a6)) (.branch 8 (.leaf a7) (.branch 9 (.leaf a8) (.leaf a9)))))
noncomputable abbrev i11 (a0 a1 a2 a3 a4 a5 a6 a7 a8 a9 a10 : Int) : Context := (.branch 5 (.branch 2 (.branch 1 (.leaf a0) (.leaf a1)) (.branch 3 (.leaf a2) (.branch 4 (.leaf a3) (.leaf a4)))) (.branch 8 (.branch 6 (.leaf a5) (.branch 7 (.leaf a6) (.leaf a7))) (.branch 9 (.leaf a8) (.branch 10 (.leaf a9) (.leaf a10)))))
noncomputable abbrev i12 (a0 a1 a2 a3 a4 a5 a6 a7 a8 a9 a10 a11 : Int) : Context := (.branch 6 (.branch 3 (.branch 1 (.leaf a0) (.branch 2 (.leaf a1) (.leaf a2))) (.branch 4 (.leaf a3) (.branch 5 (.leaf a4) (.leaf a5)))) (.branch 9 (.branch 7 (.leaf a6) (.branch 8 (.leaf a7) (.leaf a8))) (.branch 10 (.leaf a9) (.branch 11 (.leaf a10) (.leaf a11)))))
theorem cl {a b : Nat} (h : a ≤ b) : (a : Int) ≤ (b : Int) := Int.ofNat_le.mpr h
theorem ce {a b : Nat} (h : a = b) : (a : Int) = (b : Int) := congrArg Nat.cast h
theorem cn (a : Nat) : (0 : Int) ≤ (a : Int) := Int.natCast_nonneg a
end
end Lx
theorem nAnd {p q : Prop} (h : ¬ (p ∧ q)) : ¬ p ∨ ¬ q := Classical.not_and_iff_not_or_not.mp h
theorem iF (h : (1 : Int) ≤ 0) : False := absurd h (by decide)
end
open Lx
theorem ar3 : (-(1 : Int)) < (9223372036854775808 : Int) := ile (i1 (0 : Int)) [] (t (ng k1)) (k 9223372036854775808) 9223372036854775808 rfl
theorem ar4 : (-(9223372036854775808 : Int)) ≤ (-(1 : Int)) := ile (i1 (0 : Int)) [] (ng (k 9223372036854775808)) (ng k1) 9223372036854775807 rfl
theorem ar5 : (0 : Nat) < (10 : Nat) := fle (e1 0) [] (p n0 n1) (n 10) rfl
theorem ar7 : (0 : Nat) ≤ (0 : Nat) + (1 : Nat) := fle (e1 0) [] n0 (p n0 n1) rfl
theorem ar8 : (0 : Nat) ≤ (300 : Nat) := fle (e1 0) [] n0 (n 300) rfl
theorem ar12 {x0 : Int} (h0 : (-(9223372036854775808 : Int)) ≤ x0) (h1 : x0 < (9223372036854775808 : Int)) : (-(9223372036854775808 : Int)) ≤ x0 ∧ x0 < (9223372036854775808 : Int) := ⟨h0, h1⟩
theorem ar13 {x0 : Int} (h0 : (0 : Int) ≤ x0) (h1 : x0 < (256 : Int)) : (0 : Int) ≤ x0 ∧ x0 < (256 : Int) := ⟨h0, h1⟩
theorem ar14 {x0 : Int} (h0 : (0 : Int) ≤ x0) (h1 : x0 ≤ (1114111 : Int)) : (0 : Int) ≤ x0 ∧ x0 ≤ (1114111 : Int) := ⟨h0, h1⟩
theorem ar15 {x0 : Int} (h0 : (0 : Int) ≤ x0) : ¬(x0 < (0 : Int)) := Int.not_lt.mpr (ile (i1 x0) [(1,0,k0,w0)] k0 w0 0 rfl h0)
theorem ar26 {x0 : Int} {x1 : Nat} (h0 : (0 : Int) ≤ x0) (h1 : x0 ≤ (x1 : Int)) (h2 : x1 ≤ 16777216) : (-(9223372036854775808 : Int)) ≤ x0 ∧ x0 < (9223372036854775808 : Int) := by lia
theorem ar36 {x0 : Nat} (h0 : ((x0 = 9 ∨ x0 = 10) ∨ x0 = 13) ∨ (32 ≤ x0 ∧ x0 ≤ 126) ∧ ¬(x0 = 61)) : x0 = 9 ∨ x0 = 10 ∨ x0 = 13 ∨ 32 ≤ x0 ∧ x0 ≤ 126 := by lia
theorem ar38 {x0 : Nat} (h0 : 32 ≤ x0 ∧ x0 ≤ 126) : x0 < 127 := fle (e1 x0) [(1,0,v0,n 126)] (s v0) (n 127) rfl h0.2
theorem ar44 {x0 : Nat} (h0 : 0 < x0) : x0 ≠ 0 := nh (fle (e1 x0) [(1,0,p n0 n1,v0)] (p n0 n1) v0 rfl h0)
theorem ar45 {x0 : Nat} (h0 : 1 ≤ x0) : ¬(x0 < 1) := Nat.not_lt.mpr (fle (e1 x0) [(1,0,n1,v0)] n1 v0 rfl h0)
theorem ar56 {x0 : Nat} (h0 : 4 ≤ x0) : (x0 : Int) - 1 = ((x0 - 1 : Nat) : Int) := by lia
theorem ar58 {x0 : Nat} (h0 : 4 ≤ x0) : (4 : Int) ≤ (x0 : Int) := ile (i1 ((x0 : Nat) : Int)) [(1,0,k4,w0)] k4 w0 0 rfl (cl h0)
theorem ar59 {x0 : Nat} (h0 : (455 : Int) < (x0 : Int)) : 455 < x0 := Int.ofNat_le.mp (ile (i1 ((x0 : Nat) : Int)) [(1,0,t (k 455),w0)] (t (k 455)) w0 0 rfl h0)
theorem ar61 {x0 : Nat} (h0 : 455 < x0) : x0 / 35 < x0 := nc fun hc => fF (e2 x0 (x0 / 35)) [(1,0,s (n 455),v0),(2,0,v0,v1),(1,0,ml 35 v1,v0)] rfl h0 hc (Nat.mul_div_le x0 35)
theorem ar65 {x0 : Nat} (h0 : x0 = 32 ∨ x0 = 9) : x0 < 256 := h0.elim (fun y1 => fle (e1 x0) [(1,1,v0,n 32)] (s v0) (n 256) rfl y1) (fun y1 => fle (e1 x0) [(1,1,v0,n 9)] (s v0) (n 256) rfl y1)
theorem ar72 {x0 : Nat} (h0 : x0 < 128) : x0 % 256 < 128 := fle (e2 x0 (x0 % 256)) [(1,0,s v0,n 128),(1,0,v1,v0)] (s v1) (n 128) rfl h0 (Nat.mod_le x0 256)
theorem ar74 {x0 : Nat} (h0 : x0 < 128) : x0 < 128 := h0
theorem ar75 {x0 : Nat} (h0 : x0 < 4611686018427387904) : (x0 : Int) < (9223372036854775808 : Int) := ile (i1 ((x0 : Nat) : Int)) [(1,0,t w0,k 4611686018427387904)] (t w0) (k 9223372036854775808) 4611686018427387904 rfl (cl h0)
theorem ar76 {x0 : Nat} (h0 : x0 < 256) : (x0 : Int) < (256 : Int) := ile (i1 ((x0 : Nat) : Int)) [(1,0,t w0,k 256)] (t w0) (k 256) 0 rfl (cl h0)
theorem ar77 {x0 : Nat} (h0 : x0 < 256) : ((16 * (x0 / 16) + x0 % 16 : Nat) : Int) ≤ (1114111 : Int) := by lia
theorem ar80 {x0 : Nat} (h0 : x0 < 256) : (x0 : Int) < (9223372036854775808 : Int) := ile (i1 ((x0 : Nat) : Int)) [(1,0,t w0,k 256)] (t w0) (k 9223372036854775808) 9223372036854775552 rfl (cl h0)
theorem ar81 {x0 : Nat} (h0 : x0 < 256) : x0 / 16 < 16 := nc fun hc => fF (e2 x0 (x0 / 16)) [(1,0,s v0,n 256),(16,0,n 16,v1),(1,0,ml 16 v1,v0)] rfl h0 hc (Nat.mul_div_le x0 16)
theorem ar83 {x0 : Nat} (h0 : x0 < 256) : ¬(256 ≤ x0) := Nat.not_le.mpr (fle (e1 x0) [(1,0,s v0,n 256)] (s v0) (n 256) rfl h0)
theorem ar84 {x0 : Nat} (h0 : x0 < 26) : (65 : Int) ≤ ((65 + x0 : Nat) : Int) ∧ ((65 + x0 : Nat) : Int) ≤ (90 : Int) := ⟨(ile (i1 ((x0 : Nat) : Int)) [(1,0,k0,w0)] (k 65) (q (k 65) w0) 0 rfl (cn x0)),(ile (i1 ((x0 : Nat) : Int)) [(1,0,t w0,k 26)] (q (k 65) w0) (k 90) 0 rfl (cl h0))⟩
theorem ar85 {x0 : Nat} (h0 : x0 < 3) : (x0 : Int) < (9223372036854775808 : Int) := ile (i1 ((x0 : Nat) : Int)) [(1,0,t w0,k3)] (t w0) (k 9223372036854775808) 9223372036854775805 rfl (cl h0)
theorem ar86 {x0 : Nat} (h0 : x0 < 36) (h1 : ¬(x0 < 26)) : (48 : Int) ≤ ((22 + x0 : Nat) : Int) ∧ ((22 + x0 : Nat) : Int) ≤ (57 : Int) := ⟨(ile (i1 ((x0 : Nat) : Int)) [(1,0,k 26,w0)] (k 48) (q (k 22) w0) 0 rfl (cl (nb h1))),(ile (i1 ((x0 : Nat) : Int)) [(1,0,t w0,k 36)] (q (k 22) w0) (k 57) 0 rfl (cl h0))⟩
theorem ar87 {x0 : Nat} (h0 : x0 < 36) : (x0 : Int) < (18446744073709551616 : Int) := ile (i1 ((x0 : Nat) : Int)) [(1,0,t w0,k 36)] (t w0) (k 18446744073709551616) 18446744073709551580 rfl (cl h0)
theorem ar88 {x0 : Nat} (h0 : x0 < 36) : ¬((65 : Int) ≤ ((22 + x0 : Nat) : Int)) ∨ ¬(((22 + x0 : Nat) : Int) ≤ (90 : Int)) := .inl (Int.not_le.mpr (ile (i1 ((x0 : Nat) : Int)) [(1,0,t w0,k 36)] (t (q (k 22) w0)) (k 65) 7 rfl (cl h0)))
theorem ar89 {x0 : Nat} (h0 : x0 < 64) : x0 / 30 + 1 ≤ 300 := fle (e2 x0 (x0 / 30)) [(1,0,s v0,n 64),(1,0,ml 30 v1,v0)] (s v1) (n 300) rfl h0 (Nat.mul_div_le x0 30)
theorem ar92 {x0 : Nat} (h0 : x0 = 9) : x0 < 127 := fle (e1 x0) [(1,1,v0,n 9)] (s v0) (n 127) rfl h0
theorem ar102 {x0 : Nat} (h0 : x0 ≤ 1000000) : x0 < 4611686018427387904 := fle (e1 x0) [(1,0,v0,n 1000000)] (s v0) (n 4611686018427387904) rfl h0
theorem ar103 {x0 : Nat} (h0 : x0 ≤ 1000000) : x0 ≤ 16000000 := fle (e1 x0) [(1,0,v0,n 1000000)] v0 (n 16000000) rfl h0
theorem ar106 {x0 : Nat} (h0 : x0 ≤ 1114111) : (x0 : Int) ≤ (1114111 : Int) := ile (i1 ((x0 : Nat) : Int)) [(1,0,w0,k 1114111)] w0 (k 1114111) 0 rfl (cl h0)
theorem ar107 {x0 : Nat} (h0 : x0 ≤ 126) : x0 < 127 := fle (e1 x0) [(1,0,v0,n 126)] (s v0) (n 127) rfl h0
theorem ar112 {x0 : Nat} (h0 : x0 ≤ 16000000) : x0 ≤ 16777216 := fle (e1 x0) [(1,0,v0,n 16000000)] v0 (n 16777216) rfl h0
theorem ar113 {x0 : Nat} (h0 : x0 ≤ 16777216) : (x0 : Int) < (9223372036854775808 : Int) := ile (i1 ((x0 : Nat) : Int)) [(1,0,w0,k 16777216)] (t w0) (k 9223372036854775808) 9223372036837998591 rfl (cl h0)
theorem ar114 {x0 : Nat} (h0 : x0 ≤ 16777216) : (x0 : Int) < (9223372036854775808 : Int) := ile (i1 ((x0 : Nat) : Int)) [(1,0,w0,k 16777216)] (t w0) (k 9223372036854775808) 9223372036837998591 rfl (cl h0)
theorem ar115 {x0 : Nat} (h0 : x0 ≤ 16777216) : x0 ≤ 1099511627776 := fle (e1 x0) [(1,0,v0,n 16777216)] v0 (n 1099511627776) rfl h0
theorem ar116 {x0 : Nat} (h0 : x0 ≤ 16777216) : ¬((x0 : Int) ≥ (9223372036854775808 : Int)) := Int.not_le.mpr (ile (i1 ((x0 : Nat) : Int)) [(1,0,w0,k 16777216)] (t w0) (k 9223372036854775808) 9223372036837998591 rfl (cl h0))
theorem ar119 {x0 : Nat} (h0 : x0 ≤ 2) : 0 + 1 + x0 + (0 + 1 + 1 + 1) ≤ 1000 := fle (e1 x0) [(1,0,v0,n2)] (p (p (p n0 n1) v0) (s (s (p n0 n1)))) (n 1000) rfl h0
theorem ar120 {x0 : Nat} (h0 : x0 ≤ 2) : 1 + (1 + x0) ≤ 1000 := fle (e1 x0) [(1,0,v0,n2)] (p n1 (p n1 v0)) (n 1000) rfl h0
theorem ar122 {x0 : Nat} (h0 : x0 ≤ 26) : 36 - (x0 : Int) = ((36 - x0 : Nat) : Int) := by lia
theorem ar123 {x0 : Nat} (h0 : x0 ≤ 26) : 36 - (x0 : Int) ≠ (0 : Int) := Int.ne_of_gt (ile (i1 ((x0 : Nat) : Int)) [(1,0,w0,k 26)] (q k0 k1) (sb (k 36) w0) 9 rfl (cl h0))
theorem ar124 {x0 : Nat} (h0 : x0 ≤ 26) : (-(18446744073709551616 : Int)) < 36 - (x0 : Int) := ile (i1 ((x0 : Nat) : Int)) [(1,0,w0,k 26)] (t (ng (k 18446744073709551616))) (sb (k 36) w0) 18446744073709551625 rfl (cl h0)
theorem ar125 {x0 : Nat} (h0 : x0 ≤ 26) : 0 < 36 - x0 := fle (e2 x0 (36 - x0)) [(1,0,v0,n 26),(1,2,p v1 v0,n 36)] (p n0 n1) v1 rfl h0 (sc (fle (e2 x0 (36 - x0)) [(1,0,v0,n 26)] v0 (n 36) rfl h0))
theorem ar126 {x0 : Nat} (h0 : x0 ≤ 26) : 10 ≤ 36 - x0 := fle (e2 x0 (36 - x0)) [(1,0,v0,n 26),(1,2,p v1 v0,n 36)] (n 10) v1 rfl h0 (sc (fle (e2 x0 (36 - x0)) [(1,0,v0,n 26)] v0 (n 36) rfl h0))
theorem ar127 {x0 : Nat} (h0 : x0 ≤ 300) : ¬(x0 > 300) := Nat.not_lt.mpr (fle (e1 x0) [(1,0,v0,n 300)] v0 (n 300) rfl h0)
theorem ar130 {x0 : Nat} (h0 : ¬((455 : Int) < (x0 : Int))) : ¬(455 < x0) := Nat.not_lt.mpr (Int.ofNat_le.mp (ile (i1 ((x0 : Nat) : Int)) [(1,3,w0,k 455)] w0 (k 455) 0 rfl h0))
theorem ar132 {x0 : Nat} (h0 : ¬(x0 < 256)) : 256 ≤ x0 := fle (e1 x0) [(1,3,n 256,v0)] (n 256) v0 rfl h0
theorem ar135 {x0 : Nat} : ((22 + x0 : Nat) : Int) - 22 = (x0 : Int) := Int.le_antisymm (ile (i1 ((x0 : Nat) : Int)) [] (sb (q (k 22) w0) (k 22)) w0 0 rfl) (ile (i1 ((x0 : Nat) : Int)) [] w0 (sb (q (k 22) w0) (k 22)) 0 rfl)
theorem ar136 {x0 : Nat} : ((65 + x0 : Nat) : Int) - 65 = (x0 : Int) := Int.le_antisymm (ile (i1 ((x0 : Nat) : Int)) [] (sb (q (k 65) w0) (k 65)) w0 0 rfl) (ile (i1 ((x0 : Nat) : Int)) [] w0 (sb (q (k 65) w0) (k 65)) 0 rfl)
theorem ar141 {x0 : Nat} : ((x0 + 1 : Nat) : Int) ≠ (0 : Int) := Int.ne_of_gt (ile (i1 ((x0 : Nat) : Int)) [(1,0,k0,w0)] (q k0 k1) (t w0) 0 rfl (cn x0))
theorem ar142 {x0 : Nat} : (x0 : Int) + 3 = ((x0 + 3 : Nat) : Int) := Int.le_antisymm (ile (i1 ((x0 : Nat) : Int)) [] (q w0 k3) (q w0 k3) 0 rfl) (ile (i1 ((x0 : Nat) : Int)) [] (q w0 k3) (q w0 k3) 0 rfl)
theorem ar143 {x0 : Nat} : (x0 : Int) + 38 = ((x0 + 38 : Nat) : Int) := Int.le_antisymm (ile (i1 ((x0 : Nat) : Int)) [] (q w0 (k 38)) (q w0 (k 38)) 0 rfl) (ile (i1 ((x0 : Nat) : Int)) [] (q w0 (k 38)) (q w0 (k 38)) 0 rfl)
theorem ar144 {x0 : Nat} : 0 + 1 * x0 = x0 := la (fle (e1 x0) [] (p n0 (ml 1 v0)) v0 rfl) (fle (e1 x0) [] v0 (p n0 (ml 1 v0)) rfl)
theorem ar145 {x0 : Nat} : 0 + (x0 + 1) = x0 + 1 := la (fle (e1 x0) [] (p n0 (s v0)) (s v0) rfl) (fle (e1 x0) [] (s v0) (p n0 (s v0)) rfl)
theorem ar146 {x0 : Nat} : 0 + x0 = x0 := la (fle (e1 x0) [] (p n0 v0) v0 rfl) (fle (e1 x0) [] v0 (p n0 v0) rfl)
theorem ar148 {x0 : Nat} : 36 * (x0 : Int) = ((36 * x0 : Nat) : Int) := Int.le_antisymm (ile (i1 ((x0 : Nat) : Int)) [] (kl 36 w0) (kl 36 w0) 0 rfl) (ile (i1 ((x0 : Nat) : Int)) [] (kl 36 w0) (kl 36 w0) 0 rfl)
theorem ar149 {x0 : Nat} : 36 - (x0 : Int) < (18446744073709551616 : Int) := ile (i1 ((x0 : Nat) : Int)) [(1,0,k0,w0)] (t (sb (k 36) w0)) (k 18446744073709551616) 18446744073709551579 rfl (cn x0)
theorem ar151 {x0 : Nat} : x0 + 1 + 1 < x0 + 3 := fle (e1 x0) [] (s (s (s v0))) (p v0 n3) rfl
theorem ar152 {x0 : Nat} : x0 + 1 - x0 = 1 := let c := e2 ((x0 + 1) - x0) x0; la (fle c [(1,1,p v0 v1,s v1)] v0 n1 rfl (sc (fle c [] v1 (s v1) rfl))) (fle c [(1,2,p v0 v1,s v1)] n1 v0 rfl (sc (fle c [] v1 (s v1) rfl)))
theorem ar153 {x0 : Nat} : x0 + 3 - x0 = 3 := let c := e2 ((x0 + 3) - x0) x0; la (fle c [(1,1,p v0 v1,p v1 n3)] v0 n3 rfl (sc (fle c [] v1 (p v1 n3) rfl))) (fle c [(1,2,p v0 v1,p v1 n3)] n3 v0 rfl (sc (fle c [] v1 (p v1 n3) rfl)))
theorem ar154 {x0 : Nat} : (x0 : Int) = ((x0 + 1 : Nat) : Int) - 1 := Int.le_antisymm (ile (i1 ((x0 : Nat) : Int)) [] w0 (sb (t w0) k1) 0 rfl) (ile (i1 ((x0 : Nat) : Int)) [] (sb (t w0) k1) w0 0 rfl)
theorem ar155 {x0 : Nat} : (x0 : Int) ≠ (-(1 : Int)) := Int.ne_of_gt (ile (i1 ((x0 : Nat) : Int)) [(1,0,k0,w0)] (t (ng k1)) w0 0 rfl (cn x0))
theorem ar158 {x0 : Nat} : (-(9223372036854775808 : Int)) ≤ (x0 : Int) := ile (i1 ((x0 : Nat) : Int)) [(1,0,k0,w0)] (ng (k 9223372036854775808)) w0 9223372036854775808 rfl (cn x0)
theorem ar159 {x0 : Nat} : (-(18446744073709551616 : Int)) < (x0 : Int) := ile (i1 ((x0 : Nat) : Int)) [(1,0,k0,w0)] (t (ng (k 18446744073709551616))) w0 18446744073709551615 rfl (cn x0)
theorem ar160 {x0 : Nat} : (0 : Int) ≤ ((16 * (x0 / 16) + x0 % 16 : Nat) : Int) := ile (i3 (((x0 / 16) : Nat) : Int) (((x0 % 16) : Nat) : Int) ((x0 : Nat) : Int)) [(16,0,k0,w0),(1,0,k0,w1)] k0 (q (kl 16 w0) w1) 0 rfl (cn (x0 / 16)) (cn (x0 % 16))
theorem ar163 {x0 : Nat} : (0 : Int) ≤ (x0 : Int) := ile (i1 ((x0 : Nat) : Int)) [(1,0,k0,w0)] k0 w0 0 rfl (cn x0)
theorem ar170 {x0 : Nat} : x0 % 16 < 16 := fle (e2 (x0 % 16) x0) [(1,0,s v0,n 16)] (s v0) (n 16) rfl (Nat.mod_lt x0 (by decide))
theorem ar171 {x0 : Nat} : x0 + 1 < x0 + 3 := fle (e1 x0) [] (s (s v0)) (p v0 n3) rfl
theorem ar173 {x0 : Nat} : x0 + 1 ≠ 0 := nh (fle (e1 x0) [] (p n0 n1) (s v0) rfl)
theorem ar174 {x0 : Nat} : x0 + 1 ≤ 1 + x0 := fle (e1 x0) [] (s v0) (p n1 v0) rfl
theorem ar175 {x0 : Nat} : x0 + 1 ≤ x0 + 1 + 1 := fle (e1 x0) [] (s v0) (s (s v0)) rfl
theorem ar176 {x0 : Nat} : x0 - 1 ≤ x0 := fle (e2 (x0 - 1) x0) [(1,0,v0,v1)] v0 v1 rfl (Nat.sub_le x0 1)
theorem ar177 {x0 : Nat} : x0 < x0 + 1 := fle (e1 x0) [] (s v0) (s v0) rfl
theorem ar178 {x0 : Nat} : x0 < x0 + 3 := fle (e1 x0) [] (s v0) (p v0 n3) rfl
theorem ar181 {x0 : Nat} : x0 ≠ x0 + 1 := nl (fle (e1 x0) [] (s v0) (s v0) rfl)
theorem ar183 {x0 : Nat} : x0 ≤ x0 + 1 + 1 := fle (e1 x0) [] v0 (s (s v0)) rfl
theorem ar184 {x0 : Nat} : x0 ≤ x0 + 1 := fle (e1 x0) [] v0 (s v0) rfl
theorem ar186 {x0 : Nat} : x0 ≤ x0 := fle (e1 x0) [] v0 v0 rfl
theorem ar187 {x0 : Nat} : ¬((x0 : Int) + 1 = (0 : Int)) := Int.ne_of_gt (ile (i1 ((x0 : Nat) : Int)) [(1,0,k0,w0)] (q k0 k1) (t w0) 0 rfl (cn x0))
theorem ar188 {x0 : Nat} : ¬((x0 : Int) < (0 : Int)) := Int.not_lt.mpr (ile (i1 ((x0 : Nat) : Int)) [(1,0,k0,w0)] k0 w0 0 rfl (cn x0))
theorem ar189 {x0 : Nat} : ¬(x0 + 2 ≤ x0 + 1) := Nat.not_le.mpr (fle (e1 x0) [] (s (s v0)) (p v0 n2) rfl)
theorem ar195 {x0 x1 : Nat} (h0 : (x1 : Int) + 1 - (x0 : Int) = (2 : Int)) : x0 + 1 = x1 := by lia
theorem ar196 {x0 x1 : Nat} (h0 : (x1 : Int) + 1 - (x0 : Int) = (2 : Int)) : ¬(x0 + 2 ≤ x1) := Nat.not_le.mpr (Int.ofNat_le.mp (ile (i2 ((x1 : Nat) : Int) ((x0 : Nat) : Int)) [(1,1,sb (t w0) w1,k2)] (t w0) (q w1 k2) 0 rfl h0))
theorem ar197 {x0 x1 : Nat} (h0 : (x1 : Int) + 1 - (x0 : Int) ≠ (2 : Int)) : ¬(x0 + 1 = x1) := by lia
theorem ar198 {x0 x1 : Nat} (h0 : 36 * ((x0 : Int) + 1) - (x1 : Int) < (1 : Int)) : 36 * (x0 + 1) < x1 + 1 := Int.ofNat_le.mp (ile (i2 ((x0 : Nat) : Int) ((x1 : Nat) : Int)) [(1,0,t (sb (kl 36 (t w0)) w1),k1)] (t (kl 36 (t w0))) (t w1) 0 rfl h0)
theorem ar201 {x0 x1 : Nat} (h0 : (x0 : Int) + 1 = (x1 : Int)) : x0 + 1 = x1 := by lia
theorem ar202 {x0 x1 : Nat} (h0 : (x0 : Int) + 1 ≠ (x1 : Int)) (h1 : x0 + 1 = x1) : False := by lia
theorem ar203 {x0 x1 : Nat} (h0 : x0 + 3 * 0 + 100 < x1) : x0 < x1 := fle (e2 x0 x1) [(1,0,s (p (p v0 (ml 3 n0)) (n 100)),v1)] (s v0) v1 rfl h0
theorem ar205 {x0 x1 : Nat} (h0 : (x0 : Int) < (x1 : Int)) (h1 : x0 + 1 ≠ x1) : x0 + 1 < x1 := by lia
theorem ar206 {x0 x1 : Nat} (h0 : (x0 : Int) < (x1 : Int)) (h1 : x1 ≤ 26) : x0 < 36 := Int.ofNat_le.mp (ile (i2 ((x0 : Nat) : Int) ((x1 : Nat) : Int)) [(1,0,t w0,w1),(1,0,w1,k 26)] (t w0) (k 36) 10 rfl h0 (cl h1))
theorem ar207 {x0 x1 : Nat} (h0 : (x0 : Int) < (x1 : Int)) : x0 + 1 ≤ x1 := Int.ofNat_le.mp (ile (i2 ((x0 : Nat) : Int) ((x1 : Nat) : Int)) [(1,0,t w0,w1)] (t w0) w1 0 rfl h0)
theorem ar208 {x0 x1 : Nat} (h0 : (x0 : Int) < (x1 : Int)) : x0 < x1 := Int.ofNat_le.mp (ile (i2 ((x0 : Nat) : Int) ((x1 : Nat) : Int)) [(1,0,t w0,w1)] (t w0) w1 0 rfl h0)
theorem ar211 {x0 x1 : Nat} (h0 : (x0 : Int) = (x1 : Int)) : x0 = x1 := la (Int.ofNat_le.mp (ile (i2 ((x0 : Nat) : Int) ((x1 : Nat) : Int)) [(1,1,w0,w1)] w0 w1 0 rfl h0)) (Int.ofNat_le.mp (ile (i2 ((x0 : Nat) : Int) ((x1 : Nat) : Int)) [(1,2,w0,w1)] w1 w0 0 rfl h0))
theorem ar213 {x0 x1 : Nat} (h0 : (x0 : Int) ≤ (x1 : Int) + 2) (h1 : x1 + 2 < x0) : False := iF (ile (i2 ((x0 : Nat) : Int) ((x1 : Nat) : Int)) [(1,0,w0,q w1 k2),(1,0,t (q w1 k2),w0)] k1 k0 0 rfl h0 (cl h1))
theorem ar214 {x0 x1 : Nat} (h0 : x1 + 1 ≤ x0 ∧ x0 ≤ x1 + 2) : x0 ≤ x1 + 1 + 1 := fle (e2 x1 x0) [(1,0,v1,p v0 n2)] v1 (s (s v0)) rfl h0.2
theorem ar215 {x0 x1 : Nat} (h0 : (x1 : Int) < (x0 : Int)) : x0 - x0 < x0 - x1 := Int.ofNat_le.mp (ile (i4 ((x1 : Nat) : Int) ((x0 : Nat) : Int) (((x0 - x0) : Nat) : Int) (((x0 - x1) : Nat) : Int)) [(1,0,t w0,w1),(1,1,q w2 w1,w1),(1,0,w1,q w3 w0)] (t w2) w3 0 rfl h0 (ce (sc (fle (e1 x0) [] v0 v0 rfl))) (cl (subA x0 x1)))
theorem ar216 {x0 x1 : Nat} (h0 : 0 < x1) (h1 : x0 + x1 ≤ x0 + 1) : x0 + 1 = x0 + x1 := la (fle (e2 x1 x0) [(1,0,p n0 n1,v0)] (s v1) (p v1 v0) rfl h0) (fle (e2 x1 x0) [(1,0,p v1 v0,s v1)] (p v1 v0) (s v1) rfl h1)
theorem ar217 {x0 x1 : Nat} (h0 : 0 < x1) : x0 + 1 + (x1 - 1) = x0 + x1 := by lia
theorem ar218 {x0 x1 : Nat} (h0 : 0 < x1) : x0 + 1 - (x0 + x1) = 0 := by omega
theorem ar219 {x0 x1 : Nat} (h0 : 0 < x1) : ¬(x0 + x1 = 0) := nh (fle (e2 x1 x0) [(1,0,p n0 n1,v0)] (p n0 n1) (p v1 v0) rfl h0)
theorem ar220 {x0 x1 : Nat} (h0 : 1 ≤ x1) (h1 : x1 ≤ x0) : x0 ≠ 0 := nh (fle (e2 x1 x0) [(1,0,n1,v0),(1,0,v0,v1)] (p n0 n1) v1 rfl h0 h1)
theorem ar222 {x0 x1 : Nat} (h0 : (26 : Int) < 36 * ((x0 : Int) + 1) - (x1 : Int)) : ¬(36 * (x0 + 1) < x1 + 1) := Nat.not_lt.mpr (Int.ofNat_le.mp (ile (i2 ((x0 : Nat) : Int) ((x1 : Nat) : Int)) [(1,0,t (k 26),sb (kl 36 (t w0)) w1)] (t w1) (kl 36 (t w0)) 26 rfl h0))
theorem ar223 {x0 x1 : Nat} (h0 : (26 : Int) < 36 * ((x1 : Int) + 1) - (x0 : Int)) : x0 + 26 < 36 * (x1 + 1) := Int.ofNat_le.mp (ile (i2 ((x1 : Nat) : Int) ((x0 : Nat) : Int)) [(1,0,t (k 26),sb (kl 36 (t w0)) w1)] (t (q w1 (k 26))) (kl 36 (t w0)) 0 rfl h0)
theorem ar224 {x0 x1 : Nat} (h0 : (3 : Int) ≤ (x1 : Int) + 1 - (x0 : Int)) : x0 + 2 ≤ x1 := Int.ofNat_le.mp (ile (i2 ((x1 : Nat) : Int) ((x0 : Nat) : Int)) [(1,0,k3,sb (t w0) w1)] (q w1 k2) w0 0 rfl h0)
theorem ar230 {x0 x1 : Nat} (h0 : 4 ≤ x1) : ((x0 + (x1 - 1) : Nat) : Int) - 1 = ((x0 + (x1 - 2) : Nat) : Int) := by lia
theorem ar231 {x0 x1 : Nat} (h0 : 4 ≤ x1) : ((x0 + (x1 - 1) : Nat) : Int) - 2 = ((x0 + (x1 - 3) : Nat) : Int) := by lia
theorem ar234 {x0 x1 : Nat} (h0 : x0 + 0 = x1) : x0 = x1 := la (fle (e2 x0 x1) [(1,1,p v0 n0,v1)] v0 v1 rfl h0) (fle (e2 x0 x1) [(1,2,p v0 n0,v1)] v1 v0 rfl h0)
theorem ar235 {x0 x1 : Nat} (h0 : x0 + 1 < x1) : x0 + 1 ≤ x1 := fle (e2 x0 x1) [(1,0,s (s v0),v1)] (s v0) v1 rfl h0
theorem ar236 {x0 x1 : Nat} (h0 : x0 + 1 = x1) : x0 + 1 ≤ x1 := fle (e2 x0 x1) [(1,1,s v0,v1)] (s v0) v1 rfl h0
theorem ar237 {x0 x1 : Nat} (h0 : x0 + 1 = x1) : ¬(x0 + 1 < x1) := Nat.not_lt.mpr (fle (e2 x0 x1) [(1,2,s v0,v1)] v1 (s v0) rfl h0)
theorem ar240 {x0 x1 : Nat} (h0 : x0 + 1 ≤ x1 + 1) : x0 ≤ x1 := fle (e2 x0 x1) [(1,0,s v0,s v1)] v0 v1 rfl h0
theorem ar242 {x0 x1 : Nat} (h0 : x0 + 1 ≤ x1) : x0 < x1 := fle (e2 x0 x1) [(1,0,s v0,v1)] (s v0) v1 rfl h0
theorem ar243 {x0 x1 : Nat} (h0 : x0 + 1 ≤ x1) : x0 ≤ x1 := fle (e2 x0 x1) [(1,0,s v0,v1)] v0 v1 rfl h0
theorem ar244 {x0 x1 : Nat} (h0 : x0 + 2 < x1) : x0 + 1 ≤ x1 := fle (e2 x0 x1) [(1,0,s (p v0 n2),v1)] (s v0) v1 rfl h0
theorem ar245 {x0 x1 : Nat} (h0 : x0 + 2 < x1) : x0 + 3 ≤ x1 := fle (e2 x0 x1) [(1,0,s (p v0 n2),v1)] (p v0 n3) v1 rfl h0
theorem ar249 {x0 x1 : Nat} (h0 : x0 + x1 ≤ 1000000) : x0 + x1 ≤ 16000000 := fle (e2 x0 x1) [(1,0,p v0 v1,n 1000000)] (p v0 v1) (n 16000000) rfl h0
theorem ar250 {x0 x1 : Nat} (h0 : x0 + x1 ≤ 16000000) : x0 + x1 ≤ 16777216 := fle (e2 x0 x1) [(1,0,p v0 v1,n 16000000)] (p v0 v1) (n 16777216) rfl h0
theorem ar251 {x0 x1 : Nat} (h0 : x0 + x1 ≤ 16000000) : x0 ≤ 16000000 := fle (e2 x0 x1) [(1,0,p v0 v1,n 16000000)] v0 (n 16000000) rfl h0
theorem ar252 {x0 x1 : Nat} (h0 : x0 - x1 = 0) (h1 : x1 < x0) : False := fF (e3 (x0 - x1) x1 x0) [(1,1,v0,n0),(1,0,s v1,v2),(1,2,p v0 v1,v2)] rfl h0 h1 (sc (fle (e3 (x0 - x1) x1 x0) [(1,0,s v1,v2)] v1 v2 rfl h1))
theorem ar254 {x0 x1 : Nat} (h0 : x1 + 0 = x0 + 1) : x0 ≤ x1 := fle (e2 x1 x0) [(1,2,p v0 n0,s v1)] v1 v0 rfl h0
theorem ar255 {x0 x1 : Nat} (h0 : x1 + 1 = 0) : x0 = 0 := la (nb fun hc => fF (e2 x1 x0) [(1,1,s v0,n0)] rfl h0) (fle (e2 x1 x0) [] n0 v1 rfl)
theorem ar256 {x0 x1 : Nat} (h0 : x1 + 1 = x0) : x0 - (x1 + 1) < x0 - x1 := let c := e4 x1 x0 (x0 - (x1 + 1)) (x0 - x1); fle c [(1,1,p v2 (s v0),v1),(1,2,p v3 v0,v1)] (s v2) v3 rfl (sc (fle c [(1,1,s v0,v1)] (s v0) v1 rfl h0)) (sc (fle c [(1,1,s v0,v1)] v0 v1 rfl h0))
theorem ar259 {x0 x1 : Nat} (h0 : x0 < 16) (h1 : x1 < 16) : 16 * x0 + x1 < 256 := fle (e2 x0 x1) [(16,0,s v0,n 16),(1,0,s v1,n 16)] (s (p (ml 16 v0) v1)) (n 256) rfl h0 h1
theorem ar260 {x0 x1 : Nat} (h0 : x0 < x1 + 1) (h1 : ¬(x1 = x0)) : x0 < x1 := (Nat.lt_or_gt_of_ne h1).elim (fun y1 => fle (e2 x0 x1) [(2,0,s v0,s v1),(1,0,s v1,v0)] (s v0) v1 rfl h0 y1) (fun y1 => y1)
theorem ar261 {x0 x1 : Nat} (h0 : x0 < x1) (h1 : x1 < 4611686018427387904) : (x0 : Int) < (9223372036854775808 : Int) := by lia
theorem ar262 {x0 x1 : Nat} (h0 : x0 < x1) (h1 : x1 ≤ 26) : x0 < 36 := fle (e2 x0 x1) [(1,0,s v0,v1),(1,0,v1,n 26)] (s v0) (n 36) rfl h0 h1
theorem ar263 {x0 x1 : Nat} (h0 : x0 < x1) : (x0 : Int) < (x1 : Int) := ile (i2 ((x0 : Nat) : Int) ((x1 : Nat) : Int)) [(1,0,t w0,w1)] (t w0) w1 0 rfl (cl h0)
theorem ar266 {x0 x1 : Nat} (h0 : x0 < x1) : x0 < x1 + 1 := fle (e2 x0 x1) [(1,0,s v0,v1)] (s v0) (s v1) rfl h0
theorem ar267 {x0 x1 : Nat} (h0 : x0 < x1) : x0 ≤ x1 := fle (e2 x0 x1) [(1,0,s v0,v1)] v0 v1 rfl h0
theorem ar268 {x0 x1 : Nat} (h0 : x0 < x1) : ¬(x0 ≥ x1) := Nat.not_le.mpr (fle (e2 x0 x1) [(1,0,s v0,v1)] (s v0) v1 rfl h0)
theorem ar273 {x0 x1 : Nat} (h0 : x0 ≠ x1) (h1 : x0 ≤ x1) : x0 < x1 := (Nat.lt_or_gt_of_ne h0).elim (fun y1 => y1) (fun y1 => fle (e2 x1 x0) [(1,0,s v0,v1),(2,0,v1,v0)] (s v1) v0 rfl y1 h1)
theorem ar274 {x0 x1 : Nat} (h0 : x0 ≤ 0 + 1 + x1) : x0 + 1 ≤ 0 + 1 + 1 + x1 := fle (e2 x0 x1) [(1,0,v0,p (p n0 n1) v1)] (s v0) (p (s (p n0 n1)) v1) rfl h0
theorem ar287 {x0 x1 : Nat} (h0 : x0 ≤ 1000000) (h1 : x1 = 16777216) : x0 < x1 := fle (e2 x0 x1) [(1,0,v0,n 1000000),(1,2,v1,n 16777216)] (s v0) v1 rfl h0 h1
theorem ar288 {x0 x1 : Nat} (h0 : x0 ≤ 1000000) (h1 : x1 = 16777216) : x0 ≤ x1 := fle (e2 x0 x1) [(1,0,v0,n 1000000),(1,2,v1,n 16777216)] v0 v1 rfl h0 h1
theorem ar289 {x0 x1 : Nat} (h0 : x0 ≤ 1000000) : x0 - x1 ≤ 1000000 := fle (e3 x0 (x0 - x1) x1) [(1,0,v0,n 1000000),(1,0,v1,v0)] v1 (n 1000000) rfl h0 (Nat.sub_le x0 x1)
theorem ar290 {x0 x1 : Nat} (h0 : x0 ≤ 16000000) (h1 : x1 = 16777216) : x0 ≤ x1 := fle (e2 x0 x1) [(1,0,v0,n 16000000),(1,2,v1,n 16777216)] v0 v1 rfl h0 h1
theorem ar291 {x0 x1 : Nat} (h0 : x0 ≤ 2) (h1 : x1 = 16777216) : 0 + 1 + x0 + (0 + 1 + 1 + 1) ≤ x1 := fle (e2 x0 x1) [(1,0,v0,n2),(1,2,v1,n 16777216)] (p (p (p n0 n1) v0) (s (s (p n0 n1)))) v1 rfl h0 h1
theorem ar292 {x0 x1 : Nat} (h0 : x0 ≤ 2) (h1 : x1 = 16777216) : 1 + (1 + x0) ≤ x1 := fle (e2 x0 x1) [(1,0,v0,n2),(1,2,v1,n 16777216)] (p n1 (p n1 v0)) v1 rfl h0 h1
theorem ar293 {x0 x1 : Nat} (h0 : x0 ≤ 2) (h1 : x1 = 16777216) : 1 + x0 ≤ x1 := fle (e2 x0 x1) [(1,0,v0,n2),(1,2,v1,n 16777216)] (p n1 v0) v1 rfl h0 h1
theorem ar297 {x0 x1 : Nat} (h0 : x0 ≤ x1 + 1) (h1 : ¬(x0 ≤ x1)) : x0 = x1 + 1 := la (fle (e2 x0 x1) [(1,0,v0,s v1)] v0 (s v1) rfl h0) (fle (e2 x0 x1) [(1,4,v1,v0)] (s v1) v0 rfl h1)
theorem ar299 {x0 x1 : Nat} (h0 : x0 ≤ x1 + 1) : x0 ≤ x1 + 1 + 1 := fle (e2 x0 x1) [(1,0,v0,s v1)] v0 (s (s v1)) rfl h0
theorem ar300 {x0 x1 : Nat} (h0 : x0 ≤ x1 + 1) : x0 ≤ x1 + 1 := h0
theorem ar302 {x0 x1 : Nat} (h0 : x0 ≤ x1) (h1 : x1 ≤ 1000000) : x0 ≤ 1000000 := fle (e2 x0 x1) [(1,0,v0,v1),(1,0,v1,n 1000000)] v0 (n 1000000) rfl h0 h1
theorem ar303 {x0 x1 : Nat} (h0 : x0 ≤ x1) (h1 : ¬(x0 < x1)) : x0 = x1 := la (fle (e2 x0 x1) [(1,0,v0,v1)] v0 v1 rfl h0) (fle (e2 x0 x1) [(1,3,v1,v0)] v1 v0 rfl h1)
theorem ar304 {x0 x1 : Nat} (h0 : x0 ≤ x1) (h1 : ¬(x0 = x1)) : x0 ≤ x1 - 1 := by lia
theorem ar305 {x0 x1 : Nat} (h0 : x0 ≤ x1) : (x0 : Int) ≤ (x1 : Int) := ile (i2 ((x0 : Nat) : Int) ((x1 : Nat) : Int)) [(1,0,w0,w1)] w0 w1 0 rfl (cl h0)
theorem ar307 {x0 x1 : Nat} (h0 : x0 ≤ x1) : x0 + (x1 - x0) = x1 := let c := e3 x0 x1 (x1 - x0); la (fle c [(1,1,p v2 v0,v1)] (p v0 v2) v1 rfl (sc (fle c [(1,0,v0,v1)] v0 v1 rfl h0))) (fle c [(1,2,p v2 v0,v1)] v1 (p v0 v2) rfl (sc (fle c [(1,0,v0,v1)] v0 v1 rfl h0)))
theorem ar310 {x0 x1 : Nat} (h0 : x0 ≤ x1) : x0 < x1 + 1 := fle (e2 x0 x1) [(1,0,v0,v1)] (s v0) (s v1) rfl h0
theorem ar311 {x0 x1 : Nat} (h0 : x0 ≤ x1) : x0 ≤ x1 + 1 + 1 := fle (e2 x0 x1) [(1,0,v0,v1)] v0 (s (s v1)) rfl h0
theorem ar312 {x0 x1 : Nat} (h0 : x0 ≤ x1) : x0 ≤ x1 + 1 := fle (e2 x0 x1) [(1,0,v0,v1)] v0 (s v1) rfl h0
theorem ar313 {x0 x1 : Nat} (h0 : x0 ≤ x1) : x0 ≤ x1 := h0
theorem ar314 {x0 x1 : Nat} (h0 : x1 < 36 - x0) : x0 + x1 < 36 := by omega
theorem ar316 {x0 x1 : Nat} (h0 : x1 < 16) : (16 * x0 + x1) / 16 = x0 := by lia
theorem ar317 {x0 x1 : Nat} (h0 : x1 < x0) : x0 + 1 - (x1 + 1) < x0 + 1 - x1 := let c := e4 x1 x0 ((x0 + 1) - (x1 + 1)) ((x0 + 1) - x1); fle c [(1,1,p v2 (s v0),s v1),(1,2,p v3 v0,s v1)] (s v2) v3 rfl (sc (fle c [(1,0,s v0,v1)] (s v0) (s v1) rfl h0)) (sc (fle c [(1,0,s v0,v1)] v0 (s v1) rfl h0))
theorem ar318 {x0 x1 : Nat} (h0 : x1 < x0) : 0 < x0 := fle (e2 x1 x0) [(1,0,s v0,v1)] (p n0 n1) v1 rfl h0
theorem ar319 {x0 x1 : Nat} (h0 : x1 < x0) : x0 - 1 = x1 + (x0 - x1 - 1) := by lia
theorem ar321 {x0 x1 : Nat} (h0 : x1 < x0) : x0 = x1 + 1 + (x0 - (x1 + 1)) := let c := e3 x1 x0 (x0 - (x1 + 1)); la (fle c [(1,2,p v2 (s v0),v1)] v1 (p (s v0) v2) rfl (sc (fle c [(1,0,s v0,v1)] (s v0) v1 rfl h0))) (fle c [(1,1,p v2 (s v0),v1)] (p (s v0) v2) v1 rfl (sc (fle c [(1,0,s v0,v1)] (s v0) v1 rfl h0)))
theorem ar325 {x0 x1 : Nat} (h0 : x1 ≤ x0 + 1) (h1 : ¬(x1 ≤ x0)) : x0 + 1 = x1 := la (fle (e2 x1 x0) [(1,4,v1,v0)] (s v1) v0 rfl h1) (fle (e2 x1 x0) [(1,0,v0,s v1)] v0 (s v1) rfl h0)
theorem ar326 {x0 x1 : Nat} (h0 : x1 ≤ x0) (h1 : ¬(x1 = x0)) : x0 - 1 < x0 := by lia
theorem ar329 {x0 x1 : Nat} (h0 : x1 ≤ x0) : x0 + 1 - x1 = x0 - x1 + 1 := by lia
theorem ar331 {x0 x1 : Nat} (h0 : x1 ≤ x0) : ¬((x0 : Int) - 0 < (x1 : Int)) := Int.not_lt.mpr (ile (i2 ((x1 : Nat) : Int) ((x0 : Nat) : Int)) [(1,0,w0,w1)] w0 (sb w1 k0) 0 rfl (cl h0))
theorem ar333 {x0 x1 : Nat} (h0 : ¬(36 * ((x0 : Int) + 1) - (x1 : Int) < (1 : Int))) : 36 * ((x0 : Int) + 1) - (x1 : Int) = ((36 * (x0 + 1) - x1 : Nat) : Int) := by omega
theorem ar334 {x0 x1 : Nat} (h0 : ¬(36 * ((x0 : Int) + 1) - (x1 : Int) < (1 : Int))) : ¬(36 * (x0 + 1) < x1 + 1) := Nat.not_lt.mpr (Int.ofNat_le.mp (ile (i2 ((x0 : Nat) : Int) ((x1 : Nat) : Int)) [(1,3,k1,sb (kl 36 (t w0)) w1)] (t w1) (kl 36 (t w0)) 0 rfl h0))
theorem ar336 {x0 x1 : Nat} (h0 : ¬((x0 : Int) < (x1 : Int))) : (x0 : Int) - (x1 : Int) = ((x0 - x1 : Nat) : Int) := by lia
theorem ar337 {x0 x1 : Nat} (h0 : ¬((x0 : Int) < (x1 : Int))) : ¬(x0 < x1) := Nat.not_lt.mpr (Int.ofNat_le.mp (ile (i2 ((x0 : Nat) : Int) ((x1 : Nat) : Int)) [(1,3,w1,w0)] w1 w0 0 rfl h0))
theorem ar338 {x0 x1 : Nat} (h0 : ¬((26 : Int) < 36 * ((x1 : Int) + 1) - (x0 : Int))) : ¬(x0 + 26 < 36 * (x1 + 1)) := Nat.not_lt.mpr (Int.ofNat_le.mp (ile (i2 ((x1 : Nat) : Int) ((x0 : Nat) : Int)) [(1,3,sb (kl 36 (t w0)) w1,k 26)] (kl 36 (t w0)) (q w1 (k 26)) 0 rfl h0))
theorem ar339 {x0 x1 : Nat} (h0 : ¬((3 : Int) ≤ (x1 : Int) + 1 - (x0 : Int))) : ¬(x0 + 2 ≤ x1) := Nat.not_le.mpr (Int.ofNat_le.mp (ile (i2 ((x1 : Nat) : Int) ((x0 : Nat) : Int)) [(1,4,sb (t w0) w1,k3)] (t w0) (q w1 k2) 0 rfl h0))
theorem ar341 {x0 x1 : Nat} (h0 : ¬(x1 + 2 < x0)) : (x0 : Int) ≤ (x1 : Int) + 2 := ile (i2 ((x1 : Nat) : Int) ((x0 : Nat) : Int)) [(1,0,w1,q w0 k2)] w1 (q w0 k2) 0 rfl (cl (nb h0))
theorem ar342 {x0 x1 : Nat} (h0 : ¬(x1 + 2 < x0)) : x0 ≤ x1 + 2 := fle (e2 x1 x0) [(1,3,v1,p v0 n2)] v1 (p v0 n2) rfl h0
theorem ar343 {x0 x1 : Nat} (h0 : ¬(x1 < x0)) : x0 - x1 = 0 := by omega
theorem ar344 {x0 x1 : Nat} (h0 : ¬(x1 < x0)) : x0 ≤ x1 + 1 := fle (e2 x1 x0) [(1,3,v1,v0)] v1 (s v0) rfl h0
theorem ar345 {x0 x1 : Nat} (h0 : ¬(x1 < x0)) : x0 ≤ x1 := fle (e2 x1 x0) [(1,3,v1,v0)] v1 v0 rfl h0
theorem ar346 {x0 x1 : Nat} (h0 : ¬(x1 ≤ x0)) : x0 + 1 - x1 = 0 := by omega
theorem ar347 {x0 x1 : Nat} (h0 : ¬(x1 ≤ x0)) : x0 ≤ x1 := fle (e2 x1 x0) [(1,4,v1,v0)] v1 v0 rfl h0
theorem ar348 {x0 x1 : Nat} : (x0 : Int) + (x1 : Int) + 1 = ((x0 + x1 + 1 : Nat) : Int) := by lia
theorem ar349 {x0 x1 : Nat} : (x0 : Int) - 1 + ((x1 : Int) + 1) = ((x0 + x1 : Nat) : Int) := by lia
theorem ar350 {x0 x1 : Nat} : x0 + 1 + x1 - x0 = x1 + 1 := by lia
theorem ar353 {x0 x1 : Nat} : x0 + 1 + x1 = x0 + (x1 + 1) := la (fle (e2 x0 x1) [] (p (s v0) v1) (p v0 (s v1)) rfl) (fle (e2 x0 x1) [] (p v0 (s v1)) (p (s v0) v1) rfl)
theorem ar354 {x0 x1 : Nat} : x0 + (x1 - 1) - x0 = x1 - 1 := la (fle (e4 ((x0 + (x1 - 1)) - x0) (x1 - 1) x0 x1) [(1,1,p v0 v2,p v2 v1)] v0 v1 rfl (sc (fle (e4 ((x0 + (x1 - 1)) - x0) (x1 - 1) x0 x1) [] v2 (p v2 v1) rfl))) (fle (e4 (x1 - 1) ((x0 + (x1 - 1)) - x0) x1 x0) [(1,2,p v1 v3,p v3 v0)] v0 v1 rfl (sc (fle (e4 (x1 - 1) ((x0 + (x1 - 1)) - x0) x1 x0) [] v3 (p v3 v0) rfl)))
theorem ar355 {x0 x1 : Nat} : x0 + (x1 - 2) - x0 = x1 - 2 := by lia
theorem ar356 {x0 x1 : Nat} : x0 + x1 + 1 = x0 + (x1 + 1) := la (fle (e2 x0 x1) [] (s (p v0 v1)) (p v0 (s v1)) rfl) (fle (e2 x0 x1) [] (p v0 (s v1)) (s (p v0 v1)) rfl)
theorem ar358 {x0 x1 : Nat} : (-(9223372036854775808 : Int)) ≤ ((x0 + (x1 - 2) : Nat) : Int) := by lia
theorem ar359 {x0 x1 : Nat} : (-(9223372036854775808 : Int)) ≤ ((x0 + (x1 - 3) : Nat) : Int) := by lia
theorem ar360 {x0 x1 : Nat} : (0 : Int) ≤ ((x0 + (x1 - 2) : Nat) : Int) := ile (i3 ((x0 : Nat) : Int) (((x1 - 2) : Nat) : Int) ((x1 : Nat) : Int)) [(1,0,k0,w0),(1,0,k0,w1)] k0 (q w0 w1) 0 rfl (cn x0) (cn (x1 - 2))
theorem ar361 {x0 x1 : Nat} : (0 : Int) ≤ ((x0 + (x1 - 3) : Nat) : Int) := ile (i3 ((x0 : Nat) : Int) (((x1 - 3) : Nat) : Int) ((x1 : Nat) : Int)) [(1,0,k0,w0),(1,0,k0,w1)] k0 (q w0 w1) 0 rfl (cn x0) (cn (x1 - 3))
theorem ar362 {x0 x1 : Nat} : (0 : Int) ≤ ((x0 + x1 : Nat) : Int) := ile (i2 ((x0 : Nat) : Int) ((x1 : Nat) : Int)) [(1,0,k0,w0),(1,0,k0,w1)] k0 (q w0 w1) 0 rfl (cn x0) (cn x1)
theorem ar363 {x0 x1 : Nat} : 0 < x0 + x1 + 1 := fle (e2 x0 x1) [] (p n0 n1) (s (p v0 v1)) rfl
theorem ar364 {x0 x1 : Nat} : 1 ≤ x0 + (x1 + 1) := fle (e2 x0 x1) [] n1 (p v0 (s v1)) rfl
theorem ar369 {x0 x1 : Nat} : x0 + (x1 + 1) = x0 + 1 + x1 := la (fle (e2 x0 x1) [] (p v0 (s v1)) (p (s v0) v1) rfl) (fle (e2 x0 x1) [] (p (s v0) v1) (p v0 (s v1)) rfl)
theorem ar370 {x0 x1 : Nat} : x0 - x1 ≤ x0 - x1 := fle (e3 (x0 - x1) x0 x1) [] v0 v0 rfl
theorem ar371 {x0 x1 : Nat} : x0 - x1 ≤ x0 := fle (e3 (x0 - x1) x0 x1) [(1,0,v0,v1)] v0 v1 rfl (Nat.sub_le x0 x1)
theorem ar372 {x0 x1 : Nat} : x0 < x0 + (x1 + 1) := fle (e2 x0 x1) [] (s v0) (p v0 (s v1)) rfl
theorem ar373 {x0 x1 : Nat} : x0 ≤ x0 + 1 + x1 := fle (e2 x0 x1) [] v0 (p (s v0) v1) rfl
theorem ar374 {x0 x1 : Nat} : x0 ≤ x0 + (x1 + 1) := fle (e2 x0 x1) [] v0 (p v0 (s v1)) rfl
theorem ar375 {x0 x1 : Nat} : x0 ≤ x0 + x1 := fle (e2 x0 x1) [] v0 (p v0 v1) rfl
theorem ar381 {x0 x1 x2 : Nat} (h0 : (x1 : Int) - (x2 : Int) = ((x1 - x2 : Nat) : Int)) (h1 : 1 ≤ x2) (h2 : x0 ≤ x1 - x2) : x0 < x1 := by omega
theorem ar382 {x0 x1 x2 : Nat} (h0 : x2 + 1 + 1 + 1 ≤ x1) (h1 : x0 < x2 + 3) : x0 < x1 := fle (e3 x2 x1 x0) [(1,0,s (s (s v0)),v1),(1,0,s v2,p v0 n3)] (s v2) v1 rfl h0 h1
theorem ar383 {x0 x1 x2 : Nat} (h0 : (x0 : Int) ≤ (x2 : Int) - 1 - (x1 : Int)) (h1 : x2 ≤ 1000000) : ((x0 + (x1 - 2) : Nat) : Int) < (9223372036854775808 : Int) := ile (i4 ((x0 : Nat) : Int) ((x2 : Nat) : Int) ((x1 : Nat) : Int) (((x1 - 2) : Nat) : Int)) [(1,0,w0,sb (sb w1 k1) w2),(1,0,w1,k 1000000),(1,0,w3,w2)] (t (q w0 w3)) (k 9223372036854775808) 9223372036853775808 rfl h0 (cl h1) (cl (Nat.sub_le x1 2))
theorem ar384 {x0 x1 x2 : Nat} (h0 : (x0 : Int) ≤ (x2 : Int) - 1 - (x1 : Int)) (h1 : x2 ≤ 1000000) : ((x0 + (x1 - 3) : Nat) : Int) < (9223372036854775808 : Int) := ile (i4 ((x0 : Nat) : Int) ((x2 : Nat) : Int) ((x1 : Nat) : Int) (((x1 - 3) : Nat) : Int)) [(1,0,w0,sb (sb w1 k1) w2),(1,0,w1,k 1000000),(1,0,w3,w2)] (t (q w0 w3)) (k 9223372036854775808) 9223372036853775808 rfl h0 (cl h1) (cl (Nat.sub_le x1 3))
theorem ar385 {x0 x1 x2 : Nat} (h0 : (x0 : Int) ≤ (x2 : Int) - 1 - (x1 : Int)) : ((x0 + (x1 - 2) : Nat) : Int) < (x2 : Int) := by omega
theorem ar386 {x0 x1 x2 : Nat} (h0 : (x0 : Int) ≤ (x2 : Int) - 1 - (x1 : Int)) : ((x0 + (x1 - 3) : Nat) : Int) < (x2 : Int) := by omega
theorem ar387 {x0 x1 x2 : Nat} (h0 : (x0 : Int) ≤ (x2 : Int) - 1 - (x1 : Int)) : x0 + (x1 - 1) < x2 := by lia
theorem ar388 {x0 x1 x2 : Nat} (h0 : (x0 : Int) ≤ (x2 : Int) - 1 - (x1 : Int)) : x0 + (x1 - 1) ≤ x2 := by lia
theorem ar389 {x0 x1 x2 : Nat} (h0 : (x0 : Int) ≤ (x2 : Int) - 1 - (x1 : Int)) : x0 + (x1 - 2) < x2 := by omega
theorem ar390 {x0 x1 x2 : Nat} (h0 : (x0 : Int) ≤ (x2 : Int) - 1 - (x1 : Int)) : x0 + (x1 - 2) ≤ x2 := Int.ofNat_le.mp (ile (i4 ((x0 : Nat) : Int) ((x2 : Nat) : Int) ((x1 : Nat) : Int) (((x1 - 2) : Nat) : Int)) [(1,0,w0,sb (sb w1 k1) w2),(1,0,w3,w2)] (q w0 w3) w1 1 rfl h0 (cl (Nat.sub_le x1 2)))
theorem ar391 {x0 x1 x2 : Nat} (h0 : (x0 : Int) ≤ (x2 : Int) - 1 - (x1 : Int)) : x0 + (x1 - 3) < x2 := by omega
theorem ar392 {x0 x1 x2 : Nat} (h0 : (x0 : Int) ≤ (x2 : Int) - 1 - (x1 : Int)) : x0 + (x1 - 3) ≤ x2 := Int.ofNat_le.mp (ile (i4 ((x0 : Nat) : Int) ((x2 : Nat) : Int) ((x1 : Nat) : Int) (((x1 - 3) : Nat) : Int)) [(1,0,w0,sb (sb w1 k1) w2),(1,0,w3,w2)] (q w0 w3) w1 1 rfl h0 (cl (Nat.sub_le x1 3)))
theorem ar393 {x0 x1 x2 : Nat} (h0 : (x1 : Int) ≤ (x0 : Int) - 1 - (x2 : Int)) (h1 : 4 ≤ x2) : x0 - (x1 + (x2 - 1)) < x0 - x1 := by lia
theorem ar394 {x0 x1 x2 : Nat} (h0 : (x1 : Int) ≤ (x0 : Int) - 1 - (x2 : Int)) (h1 : 4 ≤ x2) : x0 - (x1 + (x2 - 2)) < x0 - x1 := by lia
theorem ar395 {x0 x1 x2 : Nat} (h0 : (x1 : Int) ≤ (x0 : Int) - 1 - (x2 : Int)) (h1 : 4 ≤ x2) : x0 - (x1 + (x2 - 3)) < x0 - x1 := by omega
theorem ar396 {x0 x1 x2 : Nat} (h0 : (x2 : Int) ≤ (x1 : Int) - 1 - (x0 : Int)) : x0 < x1 - x2 := Int.ofNat_le.mp (ile (i4 ((x2 : Nat) : Int) ((x1 : Nat) : Int) ((x0 : Nat) : Int) (((x1 - x2) : Nat) : Int)) [(1,0,w0,sb (sb w1 k1) w2),(1,0,w1,q w3 w0)] (t w2) w3 0 rfl h0 (cl (subA x1 x2)))
theorem ar397 {x0 x1 x2 : Nat} (h0 : 0 < x2) (h1 : x0 + x2 ≤ x1) : x0 < x1 := fle (e3 x2 x0 x1) [(1,0,p n0 n1,v0),(1,0,p v1 v0,v2)] (s v1) v2 rfl h0 h1
theorem ar398 {x0 x1 x2 : Nat} (h0 : 1 ≤ x1) (h1 : x0 ≤ x2) : x0 + 1 ≤ x1 + x2 := fle (e3 x1 x0 x2) [(1,0,n1,v0),(1,0,v1,v2)] (s v1) (p v0 v2) rfl h0 h1
theorem ar399 {x0 x1 x2 : Nat} (h0 : 1 ≤ x2) (h1 : x0 ≤ x1 - x2) (h2 : ¬(x1 < x2)) : x0 < x1 := fle (e4 x2 x0 (x1 - x2) x1) [(1,0,n1,v0),(1,0,v1,v2),(1,1,p v2 v0,v3)] (s v1) v3 rfl h0 h1 (sc (fle (e4 x2 x0 (x1 - x2) x1) [(1,3,v0,v3)] v0 v3 rfl h2))
theorem ar400 {x0 x1 x2 : Nat} (h0 : x0 + 1 ≤ x2 + 1) : x0 - (x1 - 1) ≤ x2 := fle (e5 x0 x2 (x0 - (x1 - 1)) (x1 - 1) x1) [(1,0,s v0,s v1),(1,0,v2,v0)] v2 v1 rfl h0 (Nat.sub_le x0 (x1 - 1))
theorem ar404 {x0 x1 x2 : Nat} (h0 : x0 + (x1 + 1) = x2 + 1) : x0 + 1 + x1 = x2 + 1 := la (fle (e3 x0 x1 x2) [(1,1,p v0 (s v1),s v2)] (p (s v0) v1) (s v2) rfl h0) (fle (e3 x0 x1 x2) [(1,2,p v0 (s v1),s v2)] (s v2) (p (s v0) v1) rfl h0)
theorem ar405 {x0 x1 x2 : Nat} (h0 : x0 + (x1 + 1) = x2) : x0 + 1 + x1 = x2 := la (fle (e3 x0 x1 x2) [(1,1,p v0 (s v1),v2)] (p (s v0) v1) v2 rfl h0) (fle (e3 x0 x1 x2) [(1,2,p v0 (s v1),v2)] v2 (p (s v0) v1) rfl h0)
theorem ar408 {x0 x1 x2 : Nat} (h0 : x0 + (x2 + 1) = x1) : x0 < x1 := fle (e3 x0 x2 x1) [(1,1,p v0 (s v1),v2)] (s v0) v2 rfl h0
theorem ar412 {x0 x1 x2 : Nat} (h0 : x0 + x1 ≤ x2 + 1) (h1 : x2 < 16000000) : x0 + (0 + 1) ≤ 16777216 := fle (e3 x0 x1 x2) [(1,0,p v0 v1,s v2),(1,0,s v2,n 16000000)] (p v0 (p n0 n1)) (n 16777216) rfl h0 h1
theorem ar413 {x0 x1 x2 : Nat} (h0 : x0 + x1 ≤ x2 + 1) (h1 : x2 < 16000000) : x0 + 1 ≤ 16777216 := fle (e3 x0 x1 x2) [(1,0,p v0 v1,s v2),(1,0,s v2,n 16000000)] (s v0) (n 16777216) rfl h0 h1
theorem ar414 {x0 x1 x2 : Nat} (h0 : x0 + x1 ≤ x2) : x0 + x1 ≤ x2 := h0
theorem ar415 {x0 x1 x2 : Nat} (h0 : x0 + x2 < 1152921504606846976) (h1 : x1 < x2) : x0 + x1 + 1 < 18446744073709551616 := fle (e3 x0 x2 x1) [(1,0,s (p v0 v1),n 1152921504606846976),(1,0,s v2,v1)] (s (s (p v0 v2))) (n 18446744073709551616) rfl h0 h1
theorem ar416 {x0 x1 x2 : Nat} (h0 : x0 + x2 ≤ 1000000) (h1 : x1 = 16777216) : x0 ≤ x1 := fle (e3 x0 x2 x1) [(1,0,p v0 v1,n 1000000),(1,2,v2,n 16777216)] v0 v2 rfl h0 h1
theorem ar418 {x0 x1 x2 : Nat} (h0 : x1 + 0 = x2 + 1) (h1 : x0 ≤ x2) : x0 ≤ x1 := fle (e3 x1 x2 x0) [(1,2,p v0 n0,s v1),(1,0,v2,v1)] v2 v0 rfl h0 h1
theorem ar422 {x0 x1 x2 : Nat} (h0 : x1 - x0 = x2) (h1 : x0 ≤ x2) (h2 : x1 ≤ x2) : x0 = 0 := by lia
theorem ar426 {x0 x1 x2 : Nat} (h0 : x2 + 0 = x0 + 1) : x0 - x1 ≤ x2 - x1 := let c := e5 x2 x0 x1 (x0 - x1) (x2 - x1); (Nat.le_total x1 x0).elim (fun y1 => fle c [(1,2,p v0 n0,s v1),(1,1,p v3 v2,v1),(1,2,p v4 v2,v0)] v3 v4 rfl h0 (sc (fle c [(1,0,v2,v1)] v2 v1 rfl y1)) (sc (fle c [(1,2,p v0 n0,s v1),(1,0,v2,v1)] v2 v0 rfl h0 y1))) (fun y1 => fle c [(1,1,v3,n0)] v3 v4 rfl (Nat.sub_eq_zero_of_le y1))
theorem ar427 {x0 x1 x2 : Nat} (h0 : x2 + 1 ≤ x1 + 1) (h1 : x0 ≤ x2) : x0 ≤ x1 := fle (e3 x2 x1 x0) [(1,0,s v0,s v1),(1,0,v2,v0)] v2 v1 rfl h0 h1
theorem ar428 {x0 x1 x2 : Nat} (h0 : x2 + x0 ≤ 1000000) (h1 : x1 = 16777216) : x0 ≤ x1 := fle (e3 x2 x0 x1) [(1,0,p v0 v1,n 1000000),(1,2,v2,n 16777216)] v1 v2 rfl h0 h1
theorem ar431 {x0 x1 x2 : Nat} (h0 : x0 < x1 + 1 + x2) : x0 < x1 + (x2 + 1) := fle (e3 x0 x1 x2) [(1,0,s v0,p (s v1) v2)] (s v0) (p v1 (s v2)) rfl h0
theorem ar433 {x0 x1 x2 : Nat} (h0 : x0 < x1) (h1 : x0 = x2) (h2 : ¬((x2 : Int) < (x1 : Int))) : False := iF (ile (i3 ((x0 : Nat) : Int) ((x1 : Nat) : Int) ((x2 : Nat) : Int)) [(1,0,t w0,w1),(1,2,w0,w2),(1,3,w1,w2)] k1 k0 0 rfl (cl h0) (ce h1) h2)
theorem ar434 {x0 x1 x2 : Nat} (h0 : x0 < x1) : (x0 : Int) - ((x1 : Int) - 1 - (x2 : Int)) = (x2 : Int) + 1 - ((x1 - x0 : Nat) : Int) := by lia
theorem ar435 {x0 x1 x2 : Nat} (h0 : x0 < x2) (h1 : x1 = (min x1 (x2 - x0))) : x0 + x1 ≤ x2 := fle (e5 x0 x2 x1 (min x1 (x2 - x0)) (x2 - x0)) [(1,1,v2,v3),(1,0,v3,v4),(1,1,p v4 v0,v1)] (p v0 v2) v1 rfl h1 (Nat.min_le_right x1 (x2 - x0)) (sc (fle (e5 x0 x2 x1 (min x1 (x2 - x0)) (x2 - x0)) [(1,0,s v0,v1)] v0 v1 rfl h0))
theorem ar439 {x0 x1 x2 : Nat} (h0 : x0 = x2 + 1) (h1 : x1 = 16777216) (h2 : x2 ≤ 16000000) : x0 ≤ x1 := fle (e3 x0 x2 x1) [(1,1,v0,s v1),(1,2,v2,n 16777216),(1,0,v1,n 16000000)] v0 v2 rfl h0 h1 h2
theorem ar441 {x0 x1 x2 : Nat} (h0 : x0 = x2) (h1 : ¬(x1 < x2)) : x0 ≤ x1 := fle (e3 x0 x2 x1) [(1,1,v0,v1),(1,3,v1,v2)] v0 v2 rfl h0 h1
theorem ar443 {x0 x1 x2 : Nat} (h0 : x0 ≤ x1 + 1 + 1 + x2) : x0 + 1 ≤ x1 + 1 + 1 + 1 + x2 := fle (e3 x0 x1 x2) [(1,0,v0,p (s (s v1)) v2)] (s v0) (p (s (s (s v1))) v2) rfl h0
theorem ar447 {x0 x1 x2 : Nat} (h0 : x0 ≤ x1 + 1 + x2) : x0 ≤ x1 + (x2 + 1) := fle (e3 x0 x1 x2) [(1,0,v0,p (s v1) v2)] v0 (p v1 (s v2)) rfl h0
theorem ar448 {x0 x1 x2 : Nat} (h0 : x0 ≤ x1 - (x2 - 1) + 1) : x0 + 1 ≤ x1 + 1 + 1 := fle (e5 x0 (x1 - (x2 - 1)) x1 (x2 - 1) x2) [(1,0,v0,s v1),(1,0,v1,v2)] (s v0) (s (s v2)) rfl h0 (Nat.sub_le x1 (x2 - 1))
theorem ar449 {x0 x1 x2 : Nat} (h0 : x0 ≤ (x1 - x2) / 10) : x0 ≤ x1 / 10 := nb fun hc => fF (e6 x0 ((x1 - x2) / 10) (x1 / 10) (x1 - x2) x1 x2) [(10,0,v0,v1),(10,0,s v2,v0),(1,0,ml 10 v1,v3),(1,0,s v4,ml 10 (s v2)),(1,0,v3,v4)] rfl h0 hc (Nat.mul_div_le (x1 - x2) 10) (Nat.lt_mul_div_succ x1 (by decide)) (Nat.sub_le x1 x2)
theorem ar450 {x0 x1 x2 : Nat} (h0 : x0 ≤ 1000) (h1 : x2 = 16777216) : (min (x0 - 1) x1) + 1 ≤ x2 := fle (e5 x0 x2 (min (x0 - 1) x1) (x0 - 1) x1) [(1,0,v0,n 1000),(1,2,v1,n 16777216),(1,0,v2,v3),(1,0,v3,v0)] (s v2) v1 rfl h0 h1 (Nat.min_le_left (x0 - 1) x1) (Nat.sub_le x0 1)
theorem ar455 {x0 x1 x2 : Nat} (h0 : x0 ≤ 1000000) (h1 : x1 ≤ 1000) (h2 : x2 = 16777216) : x0 - 1 + x1 ≤ x2 := fle (e4 x0 x1 x2 (x0 - 1)) [(1,0,v0,n 1000000),(1,0,v1,n 1000),(1,2,v2,n 16777216),(1,0,v3,v0)] (p v3 v1) v2 rfl h0 h1 h2 (Nat.sub_le x0 1)
theorem ar460 {x0 x1 x2 : Nat} (h0 : x0 ≤ x1 + x2) : x0 + 1 ≤ x1 + 1 + 1 + 1 + x2 := fle (e3 x0 x1 x2) [(1,0,v0,p v1 v2)] (s v0) (p (s (s (s v1))) v2) rfl h0
theorem ar462 {x0 x1 x2 : Nat} (h0 : x0 ≤ x2 + 1) (h1 : x2 < x1) : x0 ≤ x1 := fle (e3 x0 x2 x1) [(1,0,v0,s v1),(1,0,s v1,v2)] v0 v2 rfl h0 h1
theorem ar463 {x0 x1 x2 : Nat} (h0 : x0 ≤ x2 + 1) (h1 : x2 = x1) : x0 ≤ x1 + 1 := fle (e3 x0 x2 x1) [(1,0,v0,s v1),(1,1,v1,v2)] v0 (s v2) rfl h0 h1
theorem ar464 {x0 x1 x2 : Nat} (h0 : x0 ≤ x2 + 1) (h1 : x2 ≤ x1 / 10) : x0 + 1 ≤ x1 / 10 + 2 := fle (e4 x0 x2 (x1 / 10) x1) [(1,0,v0,s v1),(1,0,v1,v2)] (s v0) (p v2 n2) rfl h0 h1
theorem ar470 {x0 x1 x2 : Nat} (h0 : x0 ≤ x2) (h1 : x2 ≤ x1) : x0 ≤ x1 := fle (e3 x0 x2 x1) [(1,0,v0,v1),(1,0,v1,v2)] v0 v2 rfl h0 h1
theorem ar472 {x0 x1 x2 : Nat} (h0 : x1 < x0) (h1 : x2 < x1) : x0 - x1 < x0 - x2 := let c := e5 x1 x0 x2 (x0 - x1) (x0 - x2); fle c [(1,0,s v2,v0),(1,1,p v3 v0,v1),(1,2,p v4 v2,v1)] (s v3) v4 rfl h1 (sc (fle c [(1,0,s v0,v1)] v0 v1 rfl h0)) (sc (fle c [(1,0,s v0,v1),(1,0,s v2,v0)] v2 v1 rfl h0 h1))
theorem ar473 {x0 x1 x2 : Nat} (h0 : x1 = x0 + 1 + x2) : x0 + 1 ≤ x1 := fle (e3 x1 x0 x2) [(1,2,v0,p (s v1) v2)] (s v1) v0 rfl h0
theorem ar474 {x0 x1 x2 : Nat} (h0 : x1 = x0 + 1 + x2) : x0 ≤ x1 := fle (e3 x1 x0 x2) [(1,2,v0,p (s v1) v2)] v1 v0 rfl h0
theorem ar476 {x0 x1 x2 : Nat} (h0 : x1 = x0 + (x2 + 1)) : x0 < x1 := fle (e3 x1 x0 x2) [(1,2,v0,p v1 (s v2))] (s v1) v0 rfl h0
theorem ar477 {x0 x1 x2 : Nat} (h0 : x1 ≤ 16000000) (h1 : x2 = 16777216) : (min x0 x1) + 1 + (x1 - x0) ≤ x2 := by omega
theorem ar478 {x0 x1 x2 : Nat} (h0 : x1 ≤ 16000000) (h1 : x2 = 16777216) : (min x0 x1) + 1 ≤ x2 := fle (e4 x1 x2 (min x0 x1) x0) [(1,0,v0,n 16000000),(1,2,v1,n 16777216),(1,0,v2,v0)] (s v2) v1 rfl h0 h1 (Nat.min_le_right x0 x1)
theorem ar479 {x0 x1 x2 : Nat} (h0 : x1 ≤ x2) : (min x0 x1) ≤ x2 := fle (e4 x1 x2 (min x0 x1) x0) [(1,0,v0,v1),(1,0,v2,v0)] v2 v1 rfl h0 (Nat.min_le_right x0 x1)
theorem ar480 {x0 x1 x2 : Nat} (h0 : x2 = x0 + x1) (h1 : x2 ≤ 16000000) : x0 + x1 + 1 < 18446744073709551616 := fle (e3 x2 x0 x1) [(1,2,v0,p v1 v2),(1,0,v0,n 16000000)] (s (s (p v1 v2))) (n 18446744073709551616) rfl h0 h1
theorem ar481 {x0 x1 x2 : Nat} (h0 : x2 = x0) (h1 : ¬(x1 < x2)) : x0 ≤ x1 := fle (e3 x2 x0 x1) [(1,2,v0,v1),(1,3,v0,v2)] v1 v2 rfl h0 h1
theorem ar483 {x0 x1 x2 : Nat} (h0 : ¬((x1 : Int) ≤ (x0 : Int) - 1 - (x2 : Int))) : x0 - x1 ≤ x2 := by omega
theorem ar484 {x0 x1 x2 : Nat} (h0 : ¬((x2 : Int) ≤ (x1 : Int) - 1 - (x0 : Int))) : ¬(x0 < x1 - x2 ∧ 4 ≤ x0) := by omega
theorem ar485 {x0 x1 x2 : Nat} (h0 : ¬(x2 < x0)) : x0 - x1 ≤ x2 + 1 - x1 := let c := e5 x2 x0 x1 (x0 - x1) ((x2 + 1) - x1); (Nat.le_total x1 x0).elim (fun y1 => fle c [(1,3,v1,v0),(1,1,p v3 v2,v1),(1,2,p v4 v2,s v0)] v3 v4 rfl h0 (sc (fle c [(1,0,v2,v1)] v2 v1 rfl y1)) (sc (fle c [(1,3,v1,v0),(1,0,v2,v1)] v2 (s v0) rfl h0 y1))) (fun y1 => fle c [(1,1,v3,n0)] v3 v4 rfl (Nat.sub_eq_zero_of_le y1))
theorem ar486 {x0 x1 x2 : Nat} (h0 : ¬(x2 < x0)) : x0 - x1 ≤ x2 - x1 := by omega
theorem ar488 {x0 x1 x2 : Nat} : x0 + x1 + x2 = x0 + (x1 + x2) := la (fle (e3 x0 x1 x2) [] (p (p v0 v1) v2) (p v0 (p v1 v2)) rfl) (fle (e3 x0 x1 x2) [] (p v0 (p v1 v2)) (p (p v0 v1) v2) rfl)
theorem ar489 {x0 x1 x2 : Nat} : (min (x0 - x1) (x2 - x1)) ≤ x2 := fle (e6 (min (x0 - x1) (x2 - x1)) x2 (x0 - x1) (x2 - x1) x0 x1) [(1,0,v0,v3),(1,0,v3,v1)] v0 v1 rfl (Nat.min_le_right (x0 - x1) (x2 - x1)) (Nat.sub_le x2 x1)
theorem ar493 {x0 x1 x2 x3 : Nat} (h0 : (x2 : Int) < (x1 : Int)) (h1 : x1 + x3 = x2) : x0 < x1 := by lia
theorem ar495 {x0 x1 x2 x3 : Nat} (h0 : 1 ≤ x2) (h1 : x0 ≤ x3 + 1) (h2 : x3 ≤ x1 - x2) (h3 : ¬(x1 < x2)) : x0 + 1 ≤ x1 + 1 := fle (e5 x2 x0 x3 (x1 - x2) x1) [(1,0,n1,v0),(1,0,v1,s v2),(1,0,v2,v3),(1,1,p v3 v0,v4)] (s v1) (s v4) rfl h0 h1 h2 (sc (fle (e5 x2 x0 x3 (x1 - x2) x1) [(1,3,v0,v4)] v0 v4 rfl h3))
theorem ar496 {x0 x1 x2 x3 : Nat} (h0 : 1 ≤ x2) (h1 : x0 ≤ x3) : x0 + 1 ≤ x1 + x2 + x3 := fle (e4 x2 x0 x3 x1) [(1,0,n1,v0),(1,0,v1,v2)] (s v1) (p (p v3 v0) v2) rfl h0 h1
theorem ar498 {x0 x1 x2 x3 : Nat} (h0 : x0 + x1 = x3) (h1 : x3 ≤ x2 + 1) : x0 + x1 ≤ x2 + 1 := fle (e4 x0 x1 x3 x2) [(1,1,p v0 v1,v2),(1,0,v2,s v3)] (p v0 v1) (s v3) rfl h0 h1
theorem ar501 {x0 x1 x2 x3 : Nat} (h0 : x0 + x3 ≤ 1000000) (h1 : x1 ≤ 1000000) (h2 : x2 = 16777216) : x0 + (x1 + 1) ≤ x2 := fle (e4 x0 x3 x1 x2) [(1,0,p v0 v1,n 1000000),(1,0,v2,n 1000000),(1,2,v3,n 16777216)] (p v0 (s v2)) v3 rfl h0 h1 h2
theorem ar505 {x0 x1 x2 x3 : Nat} (h0 : x3 + x2 = x0 - x1) (h1 : ¬(x0 < x1)) : x0 = x1 + x2 + x3 := let c := e5 x3 x2 (x0 - x1) x0 x1; la (fle c [(1,2,p v0 v1,v2),(1,2,p v2 v4,v3)] v3 (p (p v4 v1) v0) rfl h0 (sc (fle c [(1,3,v4,v3)] v4 v3 rfl h1))) (fle c [(1,1,p v0 v1,v2),(1,1,p v2 v4,v3)] (p (p v4 v1) v0) v3 rfl h0 (sc (fle c [(1,3,v4,v3)] v4 v3 rfl h1)))
theorem ar508 {x0 x1 x2 x3 : Nat} (h0 : x0 ≤ 0 + x3) (h1 : x3 ≤ x2) : x0 ≤ x1 + (x2 + 1) := fle (e4 x0 x3 x2 x1) [(1,0,v0,p n0 v1),(1,0,v1,v2)] v0 (p v3 (s v2)) rfl h0 h1
theorem ar512 {x0 x1 x2 x3 : Nat} (h0 : x0 ≤ (min x2 x3)) (h1 : x3 ≤ x1) : x0 ≤ x1 := fle (e5 x0 (min x2 x3) x3 x1 x2) [(1,0,v0,v1),(1,0,v2,v3),(1,0,v1,v2)] v0 v3 rfl h0 h1 (Nat.min_le_right x2 x3)
theorem ar515 {x0 x1 x2 x3 : Nat} : x0 + x1 + x2 + x3 = x0 + (x1 + x2 + x3) := la (fle (e4 x0 x1 x2 x3) [] (p (p (p v0 v1) v2) v3) (p v0 (p (p v1 v2) v3)) rfl) (fle (e4 x0 x1 x2 x3) [] (p v0 (p (p v1 v2) v3)) (p (p (p v0 v1) v2) v3) rfl)
theorem ar524 {x0 x1 x2 x3 x4 : Nat} (h0 : x1 + (x2 + 1) = x3) (h1 : x4 + x3 ≤ 16000000) (h2 : x0 = x4 + x1) : x0 ≤ 16000000 := fle (e5 x1 x2 x3 x4 x0) [(1,1,p v0 (s v1),v2),(1,0,p v3 v2,n 16000000),(1,1,v4,p v3 v0)] v4 (n 16000000) rfl h0 h1 h2
theorem ar526 {x0 x1 x2 x3 x4 : Nat} (h0 : x2 + (x3 + 1) = x4 + 1) (h1 : x0 ≤ x2) (h2 : x4 < x1) : x0 < x1 := fle (e5 x2 x3 x4 x0 x1) [(1,1,p v0 (s v1),s v2),(1,0,v3,v0),(1,0,s v2,v4)] (s v3) v4 rfl h0 h1 h2
theorem ar529 {x0 x1 x2 x3 x4 : Nat} (h0 : x2 + x3 ≤ 1000000) (h1 : x0 = x2 + 1 + x4) (h2 : x1 = 16777216) (h3 : x4 ≤ 1000000) : x0 ≤ x1 := fle (e5 x2 x3 x0 x4 x1) [(1,0,p v0 v1,n 1000000),(1,1,v2,p (s v0) v3),(1,2,v4,n 16777216),(1,0,v3,n 1000000)] v2 v4 rfl h0 h1 h2 h3
theorem ar537 {x0 x1 x2 x3 x4 : Nat} (h0 : x2 = 16777216) (h1 : x3 = x0 + (x1 + x4)) (h2 : x3 ≤ 1000000) : x0 + x1 ≤ x2 := fle (e5 x2 x3 x0 x1 x4) [(1,2,v0,n 16777216),(1,2,v1,p v2 (p v3 v4)),(1,0,v1,n 1000000)] (p v2 v3) v0 rfl h0 h1 h2
theorem ar541 {x0 x1 x2 x3 x4 x5 : Nat} (h0 : x0 + 1 = x1 + x2) (h1 : x3 = x1 + (x2 + x4)) (h2 : x5 ≤ 16000000) (h3 : x3 ≤ x5) : x0 ≤ 16000000 := fle (e6 x0 x1 x2 x3 x4 x5) [(1,1,s v0,p v1 v2),(1,2,v3,p v1 (p v2 v4)),(1,0,v5,n 16000000),(1,0,v3,v5)] v0 (n 16000000) rfl h0 h1 h2 h3
theorem ar547 {x0 x1 x2 x3 x4 x5 x6 : Nat} (h0 : x0 + (x2 + 1) = x3 + x4) (h1 : x1 = 16777216) (h2 : x5 = x3 + (x4 + x6)) (h3 : x5 ≤ 1000000) : x0 + 1 ≤ x1 := fle (e7 x0 x2 x3 x4 x1 x5 x6) [(1,1,p v0 (s v1),p v2 v3),(1,2,v4,n 16777216),(1,2,v5,p v2 (p v3 v6)),(1,0,v5,n 1000000)] (s v0) v4 rfl h0 h1 h2 h3
theorem ar548 {x0 x1 x2 x3 x4 x5 x6 : Nat} (h0 : x0 + x1 = x2 + x3) (h1 : x4 = x2 + (x3 + x5)) (h2 : x6 ≤ 16000000) (h3 : x4 ≤ x6) : x0 ≤ 16000000 := by lia
end
open PySem PySem.W PyProof.Rows
section
abbrev Ext (h h' : Heap) : Prop := ∀ b o, h.get? b = some o → h'.get? b = some o
theorem Ext.refl (h : Heap) : Ext h h := fun _ _ e => e
theorem Ext.trans {a b c : Heap} (x : Ext a b) (y : Ext b c) : Ext a c := fun _ _ e => y _ _ (x _ _ e)
inductive D where
 | none
 | bool (b : Bool)
 | int (i : Int)
 | str (l : List Nat)
 | tstr (l : List Nat) (t : Tok)
 | bytes (l : List UInt8)
 | tup (l : List D)
 | lst (l : List D)
mutual
inductive Rep (O : List Addr) (h : Heap) : Value → D → Prop
 | none : Rep O h .none .none
 | bool {b : Bool} : Rep O h (.bool b) (.bool b)
 | int {i : Int} {t : Tok} : Rep O h (.int i t) (.int i)
 | str {l : List Nat} {t : Tok} : Rep O h (.str ⟨l.toArray⟩ t) (.str l)
 | tstr {l : List Nat} {t : Tok} : Rep O h (.str ⟨l.toArray⟩ t) (.tstr l t)
 | bytes {l : List UInt8} {t : Tok} : Rep O h (.bytes l.toArray t) (.bytes l)
 | tup {a : Addr} {vs : List Value} {ds : List D} : a ∉ O → h.IsTuple a vs.toArray → Reps O h vs ds → Rep O h (.ref a) (.tup ds)
 | lst {a : Addr} {vs : List Value} {ds : List D} : a ∉ O → h.PlainList a vs.toArray → Reps O h vs ds → Rep O h (.ref a) (.lst ds)
inductive Reps (O : List Addr) (h : Heap) : List Value → List D → Prop
 | nil : Reps O h [] []
 | cons {v : Value} {d : D} {vs : List Value} {ds : List D} : Rep O h v d → Reps O h vs ds → Reps O h (v :: vs) (d :: ds)
end
theorem alive_of {h : Heap} {O O' : List Addr} {a : Addr} {o : Obj} (hO : ∀ a ∈ O', a ∈ O ∨ h.get? a = none) (ha : a ∉ O) (e : h.get? a = some o) : a ∉ O' := fun hm =>
 (hO a hm).elim ha fun h0 => by rw [e] at h0; cases h0
def Stab (o : Obj) : Prop := o.cls = .type "tuple" ∨ o.cls = .type "list" ∨ o.cls = .type "builtin_function_or_method"
theorem Rep.both {O : List Addr} {h : Heap} {P : Value → D → Prop} {R : List Value → List D → Prop} (n : P .none .none) (b : ∀ b, P (.bool b) (.bool b)) (i : ∀ i t, P (.int i t) (.int i)) (s : ∀ l t, P (.str ⟨l.toArray⟩ t) (.str l)) (ts : ∀ l t, P (.str ⟨l.toArray⟩ t) (.tstr l t)) (by' : ∀ l t, P (.bytes l.toArray t) (.bytes l))
   (tu : ∀ a vs ds, a ∉ O → h.IsTuple a vs.toArray → R vs ds → P (.ref a) (.tup ds)) (ls : ∀ a vs ds, a ∉ O → h.PlainList a vs.toArray → R vs ds → P (.ref a) (.lst ds)) (nl : R [] []) (cn : ∀ v d vs ds, P v d → R vs ds → R (v :: vs) (d :: ds)) :
   (∀ v d, Rep O h v d → P v d) ∧ ∀ vs ds, Reps O h vs ds → R vs ds :=
 ⟨fun _ _ r => @Rep.rec O h (fun v d _ => P v d) (fun v d _ => R v d) n (b _) (i _ _) (s _ _) (ts _ _) (by' _ _) (fun a b _ c => tu _ _ _ a b c) (fun a b _ c => ls _ _ _ a b c) nl (fun _ _ a b => cn _ _ _ _ a b) _ _ r,
  fun _ _ r => @Reps.rec O h (fun v d _ => P v d) (fun v d _ => R v d) n (b _) (i _ _) (s _ _) (ts _ _) (by' _ _) (fun a b _ c => tu _ _ _ a b c) (fun a b _ c => ls _ _ _ a b c) nl (fun _ _ a b => cn _ _ _ _ a b) _ _ r⟩
theorem Reps.ind {O : List Addr} {h : Heap} {R : List Value → List D → Prop} (nl : R [] []) (cn : ∀ v d vs ds, Rep O h v d → Reps O h vs ds → R vs ds → R (v :: vs) (d :: ds)) {vs : List Value} {ds : List D} (r : Reps O h vs ds) : R vs ds :=
 @Reps.rec O h (fun _ _ _ => True) (fun v d _ => R v d) trivial trivial trivial trivial trivial trivial (fun _ _ _ _ => trivial) (fun _ _ _ _ => trivial) nl (fun a b _ c => cn _ _ _ _ a b c) _ _ r
theorem moveB {h h' : Heap} {O O' : List Addr} (hO : ∀ a ∈ O', a ∈ O ∨ h.get? a = none) (hk : ∀ b o, b ∉ O → h.get? b = some o → Stab o → h'.get? b = some o) :
   (∀ v d, Rep O h v d → Rep O' h' v d) ∧ ∀ vs ds, Reps O h vs ds → Reps O' h' vs ds :=
 Rep.both .none (fun _ => .bool) (fun _ _ => .int) (fun _ _ => .str) (fun _ _ => .tstr) (fun _ _ => .bytes) (fun _ _ _ ha x q => x.elim fun o r => .tup (alive_of hO ha r.1) ⟨o, hk _ _ ha r.1 (.inl r.2.1), r.2⟩ q)
   (fun _ _ _ ha x q => x.elim fun k ho => .lst (alive_of hO ha ho) ⟨k, hk _ _ ha ho (.inr (.inl rfl))⟩ q) .nil fun _ _ _ _ a b => .cons a b
theorem Rep.moveS {h h' : Heap} {O O' : List Addr} (hO : ∀ a ∈ O', a ∈ O ∨ h.get? a = Option.none) (hk : ∀ b o, b ∉ O → h.get? b = some o → Stab o → h'.get? b = some o) {v : Value} {d : D} (r : Rep O h v d) : Rep O' h' v d := (moveB hO hk).1 _ _ r
theorem Reps.moveS {h h' : Heap} {O O' : List Addr} (hO : ∀ a ∈ O', a ∈ O ∨ h.get? a = none) (hk : ∀ b o, b ∉ O → h.get? b = some o → Stab o → h'.get? b = some o) {v : List Value} {d : List D} (r : Reps O h v d) : Reps O' h' v d := (moveB hO hk).2 _ _ r
theorem Rep.move {h h' : Heap} {O O' : List Addr} (hO : ∀ a ∈ O', a ∈ O ∨ h.get? a = Option.none) (hk : ∀ b o, b ∉ O → h.get? b = some o → h'.get? b = some o) {v : Value} {d : D} (r : Rep O h v d) : Rep O' h' v d := r.moveS hO fun b o h1 h2 _ => hk b o h1 h2
theorem Reps.move {h h' : Heap} {O O' : List Addr} (hO : ∀ a ∈ O', a ∈ O ∨ h.get? a = Option.none) (hk : ∀ b o, b ∉ O → h.get? b = some o → h'.get? b = some o) {v : List Value} {d : List D} (r : Reps O h v d) : Reps O' h' v d := r.moveS hO fun b o h1 h2 _ => hk b o h1 h2
theorem Rep.ext {h h' : Heap} {O : List Addr} {v : Value} {d : D} (r : Rep O h v d) (hk : Ext h h') : Rep O h' v d := r.move (fun _ h => .inl h) fun b o _ e => hk b o e
theorem Reps.ext {h h' : Heap} {O : List Addr} {v : List Value} {d : List D} (r : Reps O h v d) (hk : Ext h h') : Reps O h' v d := r.move (fun _ h => .inl h) fun b o _ e => hk b o e
theorem Reps.length {h : Heap} {O : List Addr} {vs : List Value} {ds : List D} (r : Reps O h vs ds) : vs.length = ds.length := r.ind (R := fun vs ds => vs.length = ds.length) rfl fun _ _ _ _ _ _ e => congrArg Nat.succ e
theorem Reps.append {h : Heap} {O : List Addr} {vs ws : List Value} {ds es : List D} (r : Reps O h vs ds) (q : Reps O h ws es) : Reps O h (vs ++ ws) (ds ++ es) :=
 r.ind (R := fun vs ds => Reps O h (vs ++ ws) (ds ++ es)) q fun _ _ _ _ a _ e => .cons a e
theorem Reps.get {h : Heap} {O : List Addr} {vs : List Value} {ds : List D} {i : Nat} {d : D} (r : Reps O h vs ds) (e : ds[i]? = some d) : ∃ v, vs[i]? = some v ∧ Rep O h v d :=
 r.ind (R := fun vs ds => ∀ i, ds[i]? = some d → ∃ v, vs[i]? = some v ∧ Rep O h v d) (fun _ e => nomatch List.getElem?_nil.symm.trans e) (fun v _ _ _ a _ f i => Nat.casesOn i (fun e => ⟨v, rfl, Option.some.inj e ▸ a⟩) fun i => f i) i e
theorem Reps.get' {h : Heap} {O : List Addr} {vs : List Value} {ds : List D} {i : Nat} {v : Value} (r : Reps O h vs ds) (e : vs[i]? = some v) : ∃ d, ds[i]? = some d ∧ Rep O h v d :=
 r.ind (R := fun vs ds => ∀ i, vs[i]? = some v → ∃ d, ds[i]? = some d ∧ Rep O h v d) (fun _ e => nomatch List.getElem?_nil.symm.trans e) (fun _ d _ _ a _ f i => Nat.casesOn i (fun e => ⟨d, rfl, Option.some.inj e ▸ a⟩) fun i => f i) i e
theorem Reps.take {h : Heap} {O : List Addr} {vs : List Value} {ds : List D} (n : Nat) (r : Reps O h vs ds) : Reps O h (vs.take n) (ds.take n) :=
 r.ind (R := fun vs ds => ∀ n, Reps O h (vs.take n) (ds.take n)) (fun n => Nat.casesOn n .nil fun _ => .nil) (fun _ _ _ _ a _ f n => Nat.casesOn n .nil fun n => .cons a (f n)) n
theorem Reps.drop {h : Heap} {O : List Addr} {vs : List Value} {ds : List D} (n : Nat) (r : Reps O h vs ds) : Reps O h (vs.drop n) (ds.drop n) :=
 r.ind (R := fun vs ds => ∀ n, Reps O h (vs.drop n) (ds.drop n)) (fun n => Nat.casesOn n .nil fun _ => .nil) (fun _ _ _ _ a b f n => Nat.casesOn n (.cons a b) fun n => f n) n
def RepI (O : List Addr) (h : Heap) (v : Value) (d : D) : Prop :=
 D.casesOn d (v = .none) (fun b => v = .bool b) (fun i => ∃ t, v = .int i t) (fun l => ∃ t, v = .str ⟨l.toArray⟩ t) (fun l t => v = .str ⟨l.toArray⟩ t) (fun l => ∃ t, v = .bytes l.toArray t)
   (fun l => ∃ a vs, v = .ref a ∧ a ∉ O ∧ h.IsTuple a vs.toArray ∧ Reps O h vs l) (fun l => ∃ a vs, v = .ref a ∧ a ∉ O ∧ h.PlainList a vs.toArray ∧ Reps O h vs l)
theorem Rep.inv {O : List Addr} {h : Heap} {v : Value} {d : D} (r : Rep O h v d) : RepI O h v d :=
 Rep.casesOn (motive_1 := fun v d _ => RepI O h v d) r rfl rfl ⟨_, rfl⟩ ⟨_, rfl⟩ rfl ⟨_, rfl⟩ (fun a b c => ⟨_, _, rfl, a, b, c⟩) (fun a b c => ⟨_, _, rfl, a, b, c⟩)
theorem Rep.intE {O : List Addr} {h : Heap} {v : Value} {i : Int} (r : Rep O h v (.int i)) : ∃ t, v = .int i t := r.inv
theorem Rep.strE {O : List Addr} {h : Heap} {v : Value} {l : List Nat} (r : Rep O h v (.str l)) : ∃ t, v = .str ⟨l.toArray⟩ t := r.inv
theorem Rep.tstrE {O : List Addr} {h : Heap} {v : Value} {l : List Nat} {t : Tok} (r : Rep O h v (.tstr l t)) : v = .str ⟨l.toArray⟩ t := r.inv
theorem Rep.bytesE {O : List Addr} {h : Heap} {v : Value} {l : List UInt8} (r : Rep O h v (.bytes l)) : ∃ t, v = .bytes l.toArray t := r.inv
theorem Rep.boolE {O : List Addr} {h : Heap} {v : Value} {b : Bool} (r : Rep O h v (.bool b)) : v = .bool b := r.inv
theorem Rep.noneE {O : List Addr} {h : Heap} {v : Value} (r : Rep O h v .none) : v = .none := r.inv
theorem Rep.lstE {O : List Addr} {h : Heap} {v : Value} {l : List D} (r : Rep O h v (.lst l)) : ∃ a vs, v = .ref a ∧ a ∉ O ∧ h.PlainList a vs.toArray ∧ Reps O h vs l := r.inv
theorem Rep.tupE {O : List Addr} {h : Heap} {v : Value} {l : List D} (r : Rep O h v (.tup l)) : ∃ a vs, v = .ref a ∧ a ∉ O ∧ h.IsTuple a vs.toArray ∧ Reps O h vs l := r.inv
theorem Reps.nilE {O : List Addr} {h : Heap} {vs : List Value} (r : Reps O h vs []) : vs = [] := List.eq_nil_of_length_eq_zero r.length
theorem Reps.consE {O : List Addr} {h : Heap} {vs : List Value} {d : D} {ds : List D} (r : Reps O h vs (d :: ds)) : ∃ v ws, vs = v :: ws ∧ Rep O h v d ∧ Reps O h ws ds :=
 r.ind (R := fun vs ds => List.casesOn ds True fun d ds => ∃ v ws, vs = v :: ws ∧ Rep O h v d ∧ Reps O h ws ds) trivial fun _ _ _ _ a b _ => ⟨_, _, rfl, a, b⟩
theorem Reps.oneE {O : List Addr} {h : Heap} {vs : List Value} {d : D} (r : Reps O h vs [d]) : ∃ v, vs = [v] ∧ Rep O h v d :=
 r.consE.elim fun v x => x.elim fun _ y => ⟨v, y.1.trans (y.2.2.nilE ▸ rfl), y.2.1⟩
theorem Reps.twoE {O : List Addr} {h : Heap} {vs : List Value} {d e : D} (r : Reps O h vs [d, e]) : ∃ v u, vs = [v, u] ∧ Rep O h v d ∧ Rep O h u e :=
 r.consE.elim fun v x => x.elim fun _ y => y.2.2.oneE.elim fun u z => ⟨v, u, y.1.trans (z.1 ▸ rfl), y.2.1, z.2⟩
theorem Reps.threeE {O : List Addr} {h : Heap} {vs : List Value} {d e f : D} (r : Reps O h vs [d, e, f]) : ∃ v u x, vs = [v, u, x] ∧ Rep O h v d ∧ Rep O h u e ∧ Rep O h x f :=
 r.consE.elim fun v x => x.elim fun _ y => y.2.2.twoE.elim fun u z => z.elim fun q z => ⟨v, u, q, y.1.trans (z.1 ▸ rfl), y.2.1, z.2⟩
inductive Ent where
 | v (d : D)
 | own (l : List D)
 | ba (l : List UInt8)
 | app (x : Str)
noncomputable def appObj (a : Addr) : Obj := { cls := .type "builtin_function_or_method", data := .fields #[.builtin "list.append", .ref a] }
noncomputable abbrev Loc := List (Str × Ent)
noncomputable def Ent.isOwn : Ent → Bool
 | .own _ | .ba _ => true
 | _ => false
structure Cfg where
 A : Around
 env : Env
 h₀ : Heap
 O₀ : List Addr
 fp : List Addr
 FR : (Str → Option Value) → Heap → Prop
 loc : Str → Bool
structure CfgOk (prog : Program) (w : World) (C : Cfg) : Prop where
 keep : ∀ m h, C.FR m h → Ext C.h₀ h
 alive : ∀ m h, C.FR m h → ∀ a ∈ C.fp, ∃ o, h.get? a = some o
 new : ∀ a ∈ C.fp, C.h₀.get? a = none
 old : ∀ a ∈ C.O₀, ∃ o, C.h₀.get? a = some o
 move : ∀ m h h', C.FR m h → (∀ a ∈ C.fp, ∀ o, h.get? a = some o → h'.get? a = some o) → Ext C.h₀ h' → C.FR m h'
 load : ∀ (s : Shared) m x v (Q : Value → Shared → Prop) (E : Value → Shared → Prop), C.FR m s.heap → C.loc x = true → m x = some v → Q v s → wpAny (model prog w) C.A (loadName C.env x) Q E s
 store : ∀ (s : Shared) m x v (Q : Unit → Shared → Prop) (E : Value → Shared → Prop), C.FR m s.heap → C.loc x = true →
   (∀ h' tk, C.FR (fun y => if y = x then some v else m y) h' → (∀ b o, b ∉ C.fp → s.heap.get? b = some o → h'.get? b = some o) → Q () { s with heap := h', toks := tk }) → wpAny (model prog w) C.A (storeName C.env x v) Q E s
noncomputable def ERep (C : Cfg) (O : List Addr) (m : Str → Option Value) (h : Heap) (v : Value) : Ent → Prop
 | .v d => Rep O h v d
 | .own l => ∃ a vs, v = .ref a ∧ a ∈ O ∧ a ∉ C.O₀ ∧ a ∉ C.fp ∧ h.PlainList a vs.toArray ∧ Reps O h vs l
 | .ba l => ∃ a, v = .ref a ∧ a ∈ O ∧ a ∉ C.O₀ ∧ a ∉ C.fp ∧ h.get? a = some { cls := .type "bytearray", data := .bytearray l.toArray 0 }
 | .app x => ∃ q a, v = .ref q ∧ q ∉ O ∧ h.get? q = some (appObj a) ∧ m x = some (.ref a)
structure StX (C : Cfg) (m : Str → Option Value) (O : List Addr) (σ : Loc) (h : Heap) : Prop where
 fr : C.FR m h
 sub : ∀ a ∈ C.O₀, a ∈ O
 fin : ∀ a ∈ C.fp, a ∈ O
 alive : ∀ a ∈ O, ∃ o, h.get? a = some o
 new : ∀ a ∈ O, a ∈ C.O₀ ∨ C.h₀.get? a = none
 ents : ∀ x e, σ.lookup x = some e → ∃ v, m x = some v ∧ ERep C O m h v e
 apart : ∀ x y e e' a, x ≠ y → σ.lookup x = some e → σ.lookup y = some e' → e.isOwn = true → e'.isOwn = true → m x = some (.ref a) → m y ≠ some (.ref a)
end
section
structure Room (A : Around) (n : Nat) : Prop where
 depth : A.depth + n < recursionLimit
 units : A.units + 3 * n + 100 < cLine
 handled : A.handled = none
structure Base (hB : Heap) (mg mb : Str → Option Value) : Prop where
 g : hB.Ns mainGlobals mg
 b : hB.Ns builtinsNs mb
 nolimit : hB.NoLimit
 builtins : ∀ x : Str, x ≠ "__name__" → mb x = bootBuiltins x
structure Own (hB : Heap) (O : List Addr) (h : Heap) : Prop where
 alive : ∀ a ∈ O, ∃ o, h.get? a = some o
 new : ∀ a ∈ O, hB.get? a = none
structure CfgG (hB : Heap) (C : Cfg) : Prop where
 base : Ext hB C.h₀
 globals : C.env.globals = mainGlobals
 builtins : C.env.builtins = builtinsNs
 kind : C.env.scope.kind = .function
def FnV (prog : Program) (w : World) (hB : Heap) (f : Value) (args : List D) (d : D) (n : Nat) : Prop :=
 ∀ (A : Around) (s : Shared) (O : List Addr) (vals : List Value) (Q : Value → Shared → Prop) (E : Value → Shared → Prop), Room A n → Ext hB s.heap → Own hB O s.heap → Reps O s.heap vals args →
   (∀ v h' tk, Ext s.heap h' → Rep O h' v d → Q v { s with heap := h', toks := tk }) → wpAny (model prog w) A (call f vals []) Q E s
section
variable (prog : Program) (w : World) (hB : Heap) (C : Cfg)
def Ev (r : Bool) (σ : Loc) (e : Expr) (d : D) : Prop :=
 ∀ (s : Shared) m O (Q : Value → Shared → Prop) (E : Value → Shared → Prop), StX C m O σ s.heap →
   (∀ v h' tk, Ext s.heap h' → Rep (if r then C.O₀ else O) h' v d → Q v { s with heap := h', toks := tk }) → wpAny (model prog w) C.A (eval e C.env) Q E s
def EvT (σ : Loc) (e : Expr) (b : Bool) : Prop :=
 ∀ (s : Shared) m O (Q : Bool → Shared → Prop) (E : Value → Shared → Prop), StX C m O σ s.heap →
   (∀ h' tk, Ext s.heap h' → Q b { s with heap := h', toks := tk }) → wpAny (model prog w) C.A (isTrue e C.env (eval e C.env)) Q E s
def EvA (r : Bool) (σ : Loc) (pos : Pos) (es : List Expr) (ds : List D) : Prop :=
 ∀ (s : Shared) m O (Q : List Value → Shared → Prop) (E : Value → Shared → Prop), StX C m O σ s.heap →
   (∀ vs h' tk, Ext s.heap h' → Reps (if r then C.O₀ else O) h' vs ds → Q vs { s with heap := h', toks := tk }) → wpAny (model prog w) C.A (spliced (backTo pos (starEach es C.env))) Q E s
inductive Fl where
 | next | brk | cont | ret (d : D)
noncomputable def FlR (O : List Addr) (h : Heap) : Flow → Fl → Prop
 | .next, .next => True
 | .brk, .brk => True
 | .cont, .cont => True
 | .ret v, .ret d => Rep O h v d
 | _, _ => False
structure Grow (O : List Addr) (h : Heap) (O' : List Addr) (h' : Heap) : Prop where
 keep : ∀ b o, b ∉ O → h.get? b = some o → h'.get? b = some o
 sub : ∀ a ∈ O, a ∈ O'
 new : ∀ a ∈ O', a ∈ O ∨ h.get? a = none
def Wp (σ : Loc) (ss : List Stmt) (Φ : Fl → Loc → Prop) : Prop :=
 ∀ (s : Shared) m O (Q : Flow → Shared → Prop) (E : Value → Shared → Prop), StX C m O σ s.heap →
   (∀ f φ σ' h' tk m' O', Φ φ σ' → FlR C.O₀ h' f φ → StX C m' O' σ' h' → Grow O s.heap O' h' → Q f { s with heap := h', toks := tk }) → wpAny (model prog w) C.A (execs ss C.env) Q E s
end
theorem nos {α : Type} {P : Prop} {x : Option α} {o : α} (h0 : x = none) (e : x = some o) : P := nomatch h0.symm.trans e
theorem none_of {α : Type} {x : Option α} (h : ∀ o, x = some o → False) : x = none := Option.eq_none_iff_forall_ne_some.mpr h
theorem FlR.elim {O : List Addr} {h : Heap} {P : ∀ f φ, FlR O h f φ → Prop} (next : P .next .next trivial) (brk : P .brk .brk trivial) (cont : P .cont .cont trivial) (ret : ∀ v d (r : Rep O h v d), P (.ret v) (.ret d) r) (f : Flow) (φ : Fl) (hf : FlR O h f φ) : P f φ hf :=
 Flow.casesOn (motive := fun f => ∀ hf : FlR O h f φ, P f φ hf) f (Fl.casesOn (motive := fun φ => ∀ hf : FlR O h .next φ, P .next φ hf) φ (fun _ => next) (fun hf => False.elim hf) (fun hf => False.elim hf) fun _ hf => (fun hf => False.elim hf) hf)
   (Fl.casesOn (motive := fun φ => ∀ hf : FlR O h .brk φ, P .brk φ hf) φ (fun hf => False.elim hf) (fun _ => brk) (fun hf => False.elim hf) fun _ hf => (fun hf => False.elim hf) hf) (Fl.casesOn (motive := fun φ => ∀ hf : FlR O h .cont φ, P .cont φ hf) φ (fun hf => False.elim hf) (fun hf => False.elim hf) (fun _ => cont) fun _ hf => (fun hf => False.elim hf) hf)
   (fun v => Fl.casesOn (motive := fun φ => ∀ hf : FlR O h (.ret v) φ, P (.ret v) φ hf) φ (fun hf => False.elim hf) (fun hf => False.elim hf) (fun hf => False.elim hf) fun d => ret v d) hf
theorem Grow.refl (O : List Addr) (h : Heap) : Grow O h O h := ⟨fun _ _ _ e => e, fun _ h => h, fun _ h => .inl h⟩
theorem Grow.trans {O₁ O₂ O₃ : List Addr} {h₁ h₂ h₃ : Heap} (x : Grow O₁ h₁ O₂ h₂) (y : Grow O₂ h₂ O₃ h₃) : Grow O₁ h₁ O₃ h₃ where
 keep := fun b o hb e => y.keep b o (alive_of x.new hb e) (x.keep b o hb e)
 sub := fun a ha => y.sub a (x.sub a ha)
 new := fun a ha => (y.new a ha).elim (x.new a) fun h0 => (Classical.em (a ∈ O₁)).imp id fun hm => none_of fun o e => nos h0 (x.keep a o hm e)
theorem Grow.ext {O : List Addr} {h h' : Heap} (x : Ext h h') : Grow O h O h' := ⟨fun b o _ e => x b o e, fun _ h => h, fun _ h => .inl h⟩
theorem Rep.grow {O O' : List Addr} {h h' : Heap} {v : Value} {d : D} (r : Rep O h v d) (g : Grow O h O' h') : Rep O' h' v d := r.move g.new g.keep
theorem Reps.grow {O O' : List Addr} {h h' : Heap} {v : List Value} {d : List D} (r : Reps O h v d) (g : Grow O h O' h') : Reps O' h' v d := r.move g.new g.keep
theorem Rep.weak {O O' : List Addr} {h : Heap} {v : Value} {d : D} (r : Rep O h v d) (hs : ∀ a ∈ O', a ∈ O) : Rep O' h v d := r.move (fun a ha => .inl (hs a ha)) fun _ _ _ e => e
theorem Reps.weak {O O' : List Addr} {h : Heap} {v : List Value} {d : List D} (r : Reps O h v d) (hs : ∀ a ∈ O', a ∈ O) : Reps O' h v d := r.move (fun a ha => .inl (hs a ha)) fun _ _ _ e => e
theorem wpAny_ifT {α : Type} {M : Model} {A : Around} {c : Prop} [Decidable c] {a b : Sem α} {Q : α → Shared → Prop} {E : Value → Shared → Prop} {s : Shared} (h : c) (k : wpAny M A a Q E s) : wpAny M A (if c then a else b) Q E s := (if_pos h).symm ▸ k
theorem wpAny_ifF {α : Type} {M : Model} {A : Around} {c : Prop} [Decidable c] {a b : Sem α} {Q : α → Shared → Prop} {E : Value → Shared → Prop} {s : Shared} (h : ¬ c) (k : wpAny M A b Q E s) : wpAny M A (if c then a else b) Q E s := (if_neg h).symm ▸ k
theorem wpAny_ext {α : Type} {M : Model} {A : Around} {t : Sem α} {Q Q' : α → Shared → Prop} {E : Value → Shared → Prop} {s : Shared} (h : wpAny M A t Q E s) (hQ : ∀ a s, Q a s → Q' a s) : wpAny M A t Q' E s := wpAny_mono h hQ fun _ _ e => e
section
variable {prog : Program} {w : World} {hB : Heap} {C : Cfg} {σ : Loc} {m : Str → Option Value} {O : List Addr} {h h' : Heap}
theorem ERep.ext {v : Value} {e : Ent} (r : ERep C O m h v e) (x : Ext h h') : ERep C O m h' v e := by
 cases e with
 | v d => exact Rep.ext r x
 | own l => exact r.imp fun a y => y.imp fun vs z => ⟨z.1, z.2.1, z.2.2.1, z.2.2.2.1, z.2.2.2.2.1.at fun o => x _ o, z.2.2.2.2.2.ext x⟩
 | ba l => exact r.imp fun a y => ⟨y.1, y.2.1, y.2.2.1, y.2.2.2.1, x _ _ y.2.2.2.2⟩
 | app y => exact r.imp fun q y => y.imp fun a z => ⟨z.1, z.2.1, x _ _ z.2.2.1, z.2.2.2⟩
theorem StX.ext (H : CfgOk prog w C) (S : StX C m O σ h) (x : Ext h h') : StX C m O σ h' where
 fr := H.move m h h' S.fr (fun a _ o e => x a o e) ((H.keep m h S.fr).trans x)
 sub := S.sub
 fin := S.fin
 alive := fun a ha => (S.alive a ha).imp fun o => x _ o
 new := S.new
 ents := fun y e he => (S.ents y e he).imp fun v z => ⟨z.1, z.2.ext x⟩
 apart := S.apart
theorem StX.own (H : CfgOk prog w C) (G : CfgG hB C) (hO : Own hB C.O₀ C.h₀) (S : StX C m O σ h) : Own hB O h where
 alive := S.alive
 new := fun a ha => (S.new a ha).elim (hO.new a) fun h0 => none_of fun o e => nos h0 (G.base a o e)
theorem evR {e : Expr} {d : D} (h : Ev prog w C false σ e d) : Ev prog w C true σ e d := fun s m O Q E S k => h s m O Q E S fun v h' tk x r => k v h' tk x (r.weak S.sub)
theorem ev_of_r {r : Bool} {e : Expr} {d : D} (h : Ev prog w C false σ e d) : Ev prog w C r σ e d := by
 cases r
 · exact h
 · exact evR h
end
end
section
structure Ok (prog : Program) (w : World) (hB : Heap) (mg mb : Str → Option Value) (C : Cfg) (n : Nat) : Prop where
 H : CfgOk prog w C
 G : CfgG hB C
 O₀ : Own hB C.O₀ C.h₀
 B : Base hB mg mb
 R : Room C.A n
theorem Room.le {A : Around} {n k : Nat} (r : Room A n) (h : k ≤ n) : Room A k :=
 ⟨Nat.lt_of_le_of_lt (Nat.add_le_add_left h _) r.depth, Nat.lt_of_le_of_lt (Nat.add_le_add_right (Nat.add_le_add_left (Nat.mul_le_mul_left 3 h) _) 100) r.units, r.handled⟩
theorem Room.call {A : Around} {n : Nat} (r : Room A n) : A.depth < recursionLimit := Nat.lt_of_le_of_lt (Nat.le_add_right _ _) r.depth
theorem Room.deeper {A : Around} {n : Nat} (r : Room A (n + 1)) {env : Env} : Room (A.deeper env) n :=
 ⟨Nat.lt_of_le_of_lt (Nat.le_of_eq (show A.depth + 1 + n = A.depth + (n + 1) by rw [Nat.add_assoc, Nat.add_comm 1 n])) r.depth, Nat.lt_of_le_of_lt (Nat.le_of_eq (show A.units + 3 + 3 * n + 100 = A.units + 3 * (n + 1) + 100 by rw [Nat.mul_add, Nat.add_assoc A.units, Nat.add_comm 3])) r.units, r.handled⟩
noncomputable def OR (C : Cfg) (r : Bool) (O : List Addr) : List Addr := if r then C.O₀ else O
section
variable {prog : Program} {w : World} {hB : Heap} {mg mb : Str → Option Value} {C : Cfg} {n : Nat} {σ : Loc} {m : Str → Option Value} {O : List Addr} {h h' : Heap} {r : Bool}
theorem StX.base (K : Ok prog w hB mg mb C n) (S : StX C m O σ h) : Ext hB h := K.G.base.trans (K.H.keep m h S.fr)
theorem StX.own' (K : Ok prog w hB mg mb C n) (S : StX C m O σ h) : Own hB (OR C r O) h := by
 cases r with
 | false => exact S.own K.H K.G K.O₀
 | true => exact ⟨fun a ha => S.alive a (S.sub a ha), K.O₀.new⟩
theorem StX.ext' (K : Ok prog w hB mg mb C n) (S : StX C m O σ h) (x : Ext h h') : StX C m O σ h' := S.ext K.H x
theorem Own.ext {O : List Addr} (S : Own hB O h) (x : Ext h h') : Own hB O h' := ⟨fun a ha => let ⟨o, e⟩ := S.alive a ha; ⟨o, x _ _ e⟩, S.new⟩
theorem Own.fresh {O : List Addr} {a : Addr} (S : Own hB O h) (ha : h.get? a = none) : a ∉ O := fun hm => let ⟨o, e⟩ := S.alive a hm; by rw [ha] at e; cases e
theorem get_size (h : Heap) : h.get? h.objs.size = none := by
 cases e : h.get? h.objs.size with
 | none => rfl
 | some o => exact absurd (Heap.lt_size e) (Nat.lt_irrefl _)
theorem ext_push (h : Heap) (o : Obj) : Ext h (h.push o) := fun _ _ e => Heap.get?_push_of_some _ e
theorem ev_int (i : Int) {k pos} : Ev prog w C r σ (.Constant (.int i) k pos) (.int i) := fun _ _ _ _ _ _ q => wpAny_Constant_int (q _ _ _ (Ext.refl _) .int)
theorem ev_str {x : Str} {k pos} {l : List Nat} (e : x = ⟨l.toArray⟩) : Ev prog w C r σ (.Constant (.str x) k pos) (.str l) := fun _ _ _ _ _ _ q => by
 subst e; exact wpAny_Constant_str (q _ _ _ (Ext.refl _) .str)
theorem ev_none {k pos} : Ev prog w C r σ (.Constant .none k pos) .none := fun _ _ _ _ _ _ q => wpAny_Constant_none (q _ _ _ (Ext.refl _) .none)
theorem ev_bool {b : Bool} {k pos} : Ev prog w C r σ (.Constant (.bool b) k pos) (.bool b) := fun _ _ _ _ _ _ q => wpAny_Constant_bool (q _ _ _ (Ext.refl _) .bool)
theorem ev_name (K : Ok prog w hB mg mb C n) {x : Str} {pos} {d : D} (hx : σ.lookup x = some (.v d)) (hl : C.loc x = true) (hd : (x == ("__debug__" : Str)) = false := by decide) : Ev prog w C r σ (.Name x pos) d := fun s m O Q E S q => by
 obtain ⟨v, hv, hr⟩ := S.ents x _ hx
 refine wpAny_Name (K.H.load s m x v _ _ S.fr hl hv (q v s.heap s.toks (Ext.refl _) ?_)) hd
 cases r with
 | false => exact hr
 | true => exact Rep.weak hr S.sub
theorem ev_own (K : Ok prog w hB mg mb C n) {x : Str} {pos} {l : List D} (hx : σ.lookup x = some (.own l)) (hl : C.loc x = true) (hd : (x == ("__debug__" : Str)) = false := by decide) : Ev prog w C true σ (.Name x pos) (.lst l) := fun s m O Q E S q => by
 obtain ⟨v, hv, a, vs, rfl, h1, h2, h3, h4, h5⟩ := S.ents x _ hx
 exact wpAny_Name (K.H.load s m x _ _ _ S.fr hl hv (q _ s.heap s.toks (Ext.refl _) (.lst h2 h4 (h5.weak S.sub)))) hd
def Op1 (prog : Program) (w : World) (hB : Heap) (t : Value → Sem Value) (da d : D) : Prop :=
 ∀ (A : Around) (s : Shared) (O : List Addr) (a : Value) (Q : Value → Shared → Prop) (E : Value → Shared → Prop), Room A 0 → Ext hB s.heap → Own hB O s.heap → Rep O s.heap a da →
   (∀ v h' tk, Ext s.heap h' → Rep O h' v d → Q v { s with heap := h', toks := tk }) → wpAny (model prog w) A (t a) Q E s
def Op2 (prog : Program) (w : World) (hB : Heap) (t : Value → Value → Sem Value) (da db d : D) : Prop :=
 ∀ (A : Around) (s : Shared) (O : List Addr) (a b : Value) (Q : Value → Shared → Prop) (E : Value → Shared → Prop), Room A 0 → Ext hB s.heap → Own hB O s.heap → Rep O s.heap a da → Rep O s.heap b db →
   (∀ v h' tk, Ext s.heap h' → Rep O h' v d → Q v { s with heap := h', toks := tk }) → wpAny (model prog w) A (t a b) Q E s
def OpT (prog : Program) (w : World) (hB : Heap) (d : D) (b : Bool) : Prop :=
 ∀ (A : Around) (s : Shared) (O : List Addr) (a : Value) (Q : Bool → Shared → Prop) (E : Value → Shared → Prop), Room A 0 → Ext hB s.heap → Own hB O s.heap → Rep O s.heap a d →
   (∀ h' tk, Ext s.heap h' → Q b { s with heap := h', toks := tk }) → wpAny (model prog w) A (truthy a) Q E s
theorem fnV_s {f : Value} {d : D} {l0 : List Nat} (k : ∀ (A : Around) (s : Shared) (O : List Addr) (t0 : Tok) (Q : Value → Shared → Prop) (E : Value → Shared → Prop), Room A n → Own hB O s.heap → (∀ v h' tk, Ext s.heap h' → Rep O h' v d → Q v { s with heap := h', toks := tk }) → wpAny (model prog w) A (call f [.str ⟨l0.toArray⟩ t0] []) Q E s) : FnV prog w hB f [.str l0] d n := fun A s O vals Q E R X Ow rs q =>
 rs.oneE.elim fun v y => y.2.strE.elim fun t0 e0 => by rw [y.1, e0]; exact k A s O t0 Q E R Ow q
theorem fnV_b {f : Value} {d : D} {l0 : List UInt8} (k : ∀ (A : Around) (s : Shared) (O : List Addr) (t0 : Tok) (Q : Value → Shared → Prop) (E : Value → Shared → Prop), Room A n → Own hB O s.heap → (∀ v h' tk, Ext s.heap h' → Rep O h' v d → Q v { s with heap := h', toks := tk }) → wpAny (model prog w) A (call f [.bytes l0.toArray t0] []) Q E s) : FnV prog w hB f [.bytes l0] d n := fun A s O vals Q E R X Ow rs q =>
 rs.oneE.elim fun v y => y.2.bytesE.elim fun t0 e0 => by rw [y.1, e0]; exact k A s O t0 Q E R Ow q
theorem fnV_i {f : Value} {d : D} {l0 : Int} (k : ∀ (A : Around) (s : Shared) (O : List Addr) (t0 : Tok) (Q : Value → Shared → Prop) (E : Value → Shared → Prop), Room A n → Own hB O s.heap → (∀ v h' tk, Ext s.heap h' → Rep O h' v d → Q v { s with heap := h', toks := tk }) → wpAny (model prog w) A (call f [.int l0 t0] []) Q E s) : FnV prog w hB f [.int l0] d n := fun A s O vals Q E R X Ow rs q =>
 rs.oneE.elim fun v y => y.2.intE.elim fun t0 e0 => by rw [y.1, e0]; exact k A s O t0 Q E R Ow q
theorem fnV_l {f : Value} {d : D} {l0 : List D} (k : ∀ (A : Around) (s : Shared) (O : List Addr) (a : Addr) (vs : List Value) (Q : Value → Shared → Prop) (E : Value → Shared → Prop), Room A n → Own hB O s.heap → a ∉ O → s.heap.PlainList a vs.toArray → Reps O s.heap vs l0 → (∀ v h' tk, Ext s.heap h' → Rep O h' v d → Q v { s with heap := h', toks := tk }) → wpAny (model prog w) A (call f [.ref a] []) Q E s) : FnV prog w hB f [.lst l0] d n := fun A s O vals Q E R X Ow rs q =>
 rs.oneE.elim fun v y => y.2.lstE.elim fun a z => z.elim fun vs z => by rw [y.1, z.1]; exact k A s O a vs Q E R Ow z.2.1 z.2.2.1 z.2.2.2 q
theorem fnV_ss {f : Value} {d : D} {l0 : List Nat} {l1 : List Nat} (k : ∀ (A : Around) (s : Shared) (O : List Addr) (t0 : Tok) (t1 : Tok) (Q : Value → Shared → Prop) (E : Value → Shared → Prop), Room A n → Own hB O s.heap → (∀ v h' tk, Ext s.heap h' → Rep O h' v d → Q v { s with heap := h', toks := tk }) → wpAny (model prog w) A (call f [.str ⟨l0.toArray⟩ t0, .str ⟨l1.toArray⟩ t1] []) Q E s) : FnV prog w hB f [.str l0, .str l1] d n := fun A s O vals Q E R X Ow rs q =>
 rs.twoE.elim fun v y => y.elim fun u y => y.2.1.strE.elim fun t0 e0 => y.2.2.strE.elim fun t1 e1 => by rw [y.1, e0, e1]; exact k A s O t0 t1 Q E R Ow q
theorem fnV_bb {f : Value} {d : D} {l0 : List UInt8} {l1 : List UInt8} (k : ∀ (A : Around) (s : Shared) (O : List Addr) (t0 : Tok) (t1 : Tok) (Q : Value → Shared → Prop) (E : Value → Shared → Prop), Room A n → Own hB O s.heap → (∀ v h' tk, Ext s.heap h' → Rep O h' v d → Q v { s with heap := h', toks := tk }) → wpAny (model prog w) A (call f [.bytes l0.toArray t0, .bytes l1.toArray t1] []) Q E s) : FnV prog w hB f [.bytes l0, .bytes l1] d n := fun A s O vals Q E R X Ow rs q =>
 rs.twoE.elim fun v y => y.elim fun u y => y.2.1.bytesE.elim fun t0 e0 => y.2.2.bytesE.elim fun t1 e1 => by rw [y.1, e0, e1]; exact k A s O t0 t1 Q E R Ow q
theorem fnV_bs {f : Value} {d : D} {l0 : List UInt8} {l1 : List Nat} (k : ∀ (A : Around) (s : Shared) (O : List Addr) (t0 : Tok) (t1 : Tok) (Q : Value → Shared → Prop) (E : Value → Shared → Prop), Room A n → Own hB O s.heap → (∀ v h' tk, Ext s.heap h' → Rep O h' v d → Q v { s with heap := h', toks := tk }) → wpAny (model prog w) A (call f [.bytes l0.toArray t0, .str ⟨l1.toArray⟩ t1] []) Q E s) : FnV prog w hB f [.bytes l0, .str l1] d n := fun A s O vals Q E R X Ow rs q =>
 rs.twoE.elim fun v y => y.elim fun u y => y.2.1.bytesE.elim fun t0 e0 => y.2.2.strE.elim fun t1 e1 => by rw [y.1, e0, e1]; exact k A s O t0 t1 Q E R Ow q
theorem fnV_si {f : Value} {d : D} {l0 : List Nat} {l1 : Int} (k : ∀ (A : Around) (s : Shared) (O : List Addr) (t0 : Tok) (t1 : Tok) (Q : Value → Shared → Prop) (E : Value → Shared → Prop), Room A n → Own hB O s.heap → (∀ v h' tk, Ext s.heap h' → Rep O h' v d → Q v { s with heap := h', toks := tk }) → wpAny (model prog w) A (call f [.str ⟨l0.toArray⟩ t0, .int l1 t1] []) Q E s) : FnV prog w hB f [.str l0, .int l1] d n := fun A s O vals Q E R X Ow rs q =>
 rs.twoE.elim fun v y => y.elim fun u y => y.2.1.strE.elim fun t0 e0 => y.2.2.intE.elim fun t1 e1 => by rw [y.1, e0, e1]; exact k A s O t0 t1 Q E R Ow q
theorem fnV_sl {f : Value} {d : D} {l0 : List Nat} {l1 : List D} (k : ∀ (A : Around) (s : Shared) (O : List Addr) (t0 : Tok) (a : Addr) (vs : List Value) (Q : Value → Shared → Prop) (E : Value → Shared → Prop), Room A n → Own hB O s.heap → a ∉ O → s.heap.PlainList a vs.toArray → Reps O s.heap vs l1 → (∀ v h' tk, Ext s.heap h' → Rep O h' v d → Q v { s with heap := h', toks := tk }) → wpAny (model prog w) A (call f [.str ⟨l0.toArray⟩ t0, .ref a] []) Q E s) : FnV prog w hB f [.str l0, .lst l1] d n := fun A s O vals Q E R X Ow rs q =>
 rs.twoE.elim fun v y => y.elim fun u y => y.2.1.strE.elim fun t0 e0 => y.2.2.lstE.elim fun a z => z.elim fun vs z => by rw [y.1, e0, z.1]; exact k A s O t0 a vs Q E R Ow z.2.1 z.2.2.1 z.2.2.2 q
theorem fnV_bss {f : Value} {d : D} {l0 : List UInt8} {l1 : List Nat} {l2 : List Nat} (k : ∀ (A : Around) (s : Shared) (O : List Addr) (t0 : Tok) (t1 : Tok) (t2 : Tok) (Q : Value → Shared → Prop) (E : Value → Shared → Prop), Room A n → Own hB O s.heap → (∀ v h' tk, Ext s.heap h' → Rep O h' v d → Q v { s with heap := h', toks := tk }) → wpAny (model prog w) A (call f [.bytes l0.toArray t0, .str ⟨l1.toArray⟩ t1, .str ⟨l2.toArray⟩ t2] []) Q E s) : FnV prog w hB f [.bytes l0, .str l1, .str l2] d n := fun A s O vals Q E R X Ow rs q =>
 rs.threeE.elim fun v y => y.elim fun u y => y.elim fun x y => y.2.1.bytesE.elim fun t0 e0 => y.2.2.1.strE.elim fun t1 e1 => y.2.2.2.strE.elim fun t2 e2 => by rw [y.1, e0, e1, e2]; exact k A s O t0 t1 t2 Q E R Ow q
theorem op2_ii {t : Value → Value → Sem Value} {d : D} {a : Int} {b : Int} (k : ∀ (A : Around) (s : Shared) (O : List Addr) (t₁ t₂ : Tok) (Q : Value → Shared → Prop) (E : Value → Shared → Prop), (∀ v h' tk, Ext s.heap h' → Rep O h' v d → Q v { s with heap := h', toks := tk }) → wpAny (model prog w) A (t (.int a t₁) (.int b t₂)) Q E s) : Op2 prog w hB t (.int a) (.int b) d :=
 fun A s O x y Q E R X Ow ra rb q => ra.intE.elim fun t₁ e => rb.intE.elim fun t₂ e' => by rw [e, e']; exact k A s O t₁ t₂ Q E q
theorem op2_ss {t : Value → Value → Sem Value} {d : D} {a : List Nat} {b : List Nat} (k : ∀ (A : Around) (s : Shared) (O : List Addr) (t₁ t₂ : Tok) (Q : Value → Shared → Prop) (E : Value → Shared → Prop), (∀ v h' tk, Ext s.heap h' → Rep O h' v d → Q v { s with heap := h', toks := tk }) → wpAny (model prog w) A (t (.str ⟨a.toArray⟩ t₁) (.str ⟨b.toArray⟩ t₂)) Q E s) : Op2 prog w hB t (.str a) (.str b) d :=
 fun A s O x y Q E R X Ow ra rb q => ra.strE.elim fun t₁ e => rb.strE.elim fun t₂ e' => by rw [e, e']; exact k A s O t₁ t₂ Q E q
theorem Ev.then {e : Expr} {d : D} (h : Ev prog w C r σ e d) {s : Shared} {m O} {Q : Value → Shared → Prop} {E} (K : Ok prog w hB mg mb C n) (S : StX C m O σ s.heap)
   (q : ∀ v h' tk, Ext s.heap h' → StX C m O σ h' → Rep (OR C r O) h' v d → Q v { s with heap := h', toks := tk }) : wpAny (model prog w) C.A (eval e C.env) Q E s :=
 h s m O Q E S fun v h' tk x hr => q v h' tk x (S.ext' K x) hr
theorem ev_un (K : Ok prog w hB mg mb C n) {e : Expr} {op : UnaryOp} {pos} {da d : D} (h1 : Ev prog w C r σ e da) (h2 : Op1 prog w hB (unaryOp op) da d) : Ev prog w C r σ (.UnaryOp op e pos) d := fun s m O Q E S q =>
 wpAny_UnaryOp (h1.then K S fun a h₁ t₁ x₁ S₁ ra => h2 _ _ (OR C r O) a _ _ (K.R.le (Nat.zero_le _)) (S₁.base K) (S₁.own' K) ra fun v h' tk x hr => q v h' tk (x₁.trans x) hr)
theorem ev_bin (K : Ok prog w hB mg mb C n) {l e : Expr} {op : Operator} {pos} {da db d : D} (h1 : Ev prog w C r σ l da) (h2 : Ev prog w C r σ e db) (h3 : Op2 prog w hB (binaryOp op) da db d) : Ev prog w C r σ (.BinOp l op e pos) d := fun s m O Q E S q =>
 wpAny_BinOp (h1.then K S fun a h₁ t₁ x₁ S₁ ra => h2.then K S₁ fun b h₂ t₂ x₂ S₂ rb => h3 _ _ (OR C r O) a b _ _ (K.R.le (Nat.zero_le _)) (S₂.base K) (S₂.own' K) (ra.ext x₂) rb fun v h' tk x hr => q v h' tk ((x₁.trans x₂).trans x) hr)
theorem ev_cmp (K : Ok prog w hB mg mb C n) {l e : Expr} {op : CmpOp} {pos} {da db d : D} (h1 : Ev prog w C r σ l da) (h2 : Ev prog w C r σ e db) (h3 : Op2 prog w hB (compareOp op) da db d) (hm : behindInMarks op e = false := by with_unfolding_all rfl) : Ev prog w C r σ (.Compare l [op] [e] pos) d := fun s m O Q E S q =>
 wpAny_Compare1 (hm := hm) (h1.then K S fun a h₁ t₁ x₁ S₁ ra => h2.then K S₁ fun b h₂ t₂ x₂ S₂ rb => h3 _ _ (OR C r O) a b _ _ (K.R.le (Nat.zero_le _)) (S₂.base K) (S₂.own' K) (ra.ext x₂) rb fun v h' tk x hr => q v h' tk ((x₁.trans x₂).trans x) hr)
theorem evT_cmp (K : Ok prog w hB mg mb C n) {l e : Expr} {op : CmpOp} {pos} {da db : D} {b : Bool} (h1 : Ev prog w C true σ l da) (h2 : Ev prog w C true σ e db) (h3 : Op2 prog w hB (compareOp op) da db (.bool b)) (hm : behindInMarks op e = false := by with_unfolding_all rfl) : EvT prog w C σ (.Compare l [op] [e] pos) b := fun s m O Q E S q =>
 wpAny_isTrue_Compare1 (hm := hm) (h1.then K S fun a h₁ t₁ x₁ S₁ ra => h2.then K S₁ fun b h₂ t₂ x₂ S₂ rb => h3 _ _ (OR C true O) a b _ _ (K.R.le (Nat.zero_le _)) (S₂.base K) (S₂.own' K) (ra.ext x₂) rb fun v h' tk x hr => by
   cases hr
   exact wpAny_truthy_bool (q h' tk ((x₁.trans x₂).trans x)))
theorem evT_val (K : Ok prog w hB mg mb C n) {e : Expr} {d : D} {b : Bool} (h1 : Ev prog w C true σ e d) (h2 : OpT prog w hB d b)
   (hi : ∀ env whole, PySem.isTrue e env whole = (do let v ← whole; standAt (Expr.pos e); holding [v] (truthy v)) := by intro _ _; rfl) : EvT prog w C σ e b := fun s m O Q E S q =>
 wpAny_isTrue_value (h1.then K S fun a h₁ t₁ x₁ S₁ ra => h2 _ _ (OR C true O) a _ _ (K.R.le (Nat.zero_le _)) (S₁.base K) (S₁.own' K) ra fun h' tk x => q h' tk (x₁.trans x)) (hi _ _)
theorem evT_not {e : Expr} {pos} {b : Bool} (h1 : EvT prog w C σ e b) : EvT prog w C σ (.UnaryOp .Not e pos) (!b) := fun s m O Q E S q =>
 wpAny_isTrue_Not (h1 s m O _ E S fun h' tk x => q h' tk x)
def EvAll (prog : Program) (w : World) (C : Cfg) (op : BoolOp) (σ : Loc) (es : List Expr) (b : Bool) : Prop :=
 ∀ (s : Shared) m O (Q : Bool → Shared → Prop) (E : Value → Shared → Prop), StX C m O σ s.heap →
   (∀ h' tk, Ext s.heap h' → Q b { s with heap := h', toks := tk }) → wpAny (model prog w) C.A (allTrue op es C.env) Q E s
theorem evAnd_nil : EvAll prog w C .And σ [] true := fun s m O Q E S q => wpAny_allTrue_And_nil (q s.heap s.toks (Ext.refl _))
theorem evOr_nil : EvAll prog w C .Or σ [] false := fun s m O Q E S q => wpAny_allTrue_Or_nil (q s.heap s.toks (Ext.refl _))
theorem evAnd_cons (K : Ok prog w hB mg mb C n) {e : Expr} {es : List Expr} {b c : Bool} (h1 : EvT prog w C σ e b) (h2 : b = true → EvAll prog w C .And σ es c) : EvAll prog w C .And σ (e :: es) (b && c) := fun s m O Q E S q =>
 wpAny_allTrue_And_cons (h1 s m O _ E S fun h' tk x => by
   cases b with
   | false => exact q h' tk x
   | true => exact h2 rfl _ m O Q E (S.ext' K x) fun h'' tk' x' => q h'' tk' (x.trans x'))
theorem evOr_cons (K : Ok prog w hB mg mb C n) {e : Expr} {es : List Expr} {b c : Bool} (h1 : EvT prog w C σ e b) (h2 : b = false → EvAll prog w C .Or σ es c) : EvAll prog w C .Or σ (e :: es) (b || c) := fun s m O Q E S q =>
 wpAny_allTrue_Or_cons (h1 s m O _ E S fun h' tk x => by
   cases b with
   | true => exact q h' tk x
   | false => exact h2 rfl _ m O Q E (S.ext' K x) fun h'' tk' x' => q h'' tk' (x.trans x'))
theorem evT_bool {op : BoolOp} {es : List Expr} {pos} {b : Bool} (h1 : EvAll prog w C op σ es b) : EvT prog w C σ (.BoolOp op es pos) b := fun s m O Q E S q => wpAny_isTrue_BoolOp (h1 s m O Q E S q)
theorem ev_if (K : Ok prog w hB mg mb C n) {t a c : Expr} {pos} {b : Bool} {d : D} (h1 : EvT prog w C σ t b) (h2 : b = true → Ev prog w C r σ a d) (h3 : b = false → Ev prog w C r σ c d) : Ev prog w C r σ (.IfExp t a c pos) d := fun s m O Q E S q =>
 wpAny_IfExp (h1 s m O _ E S fun h' tk x => by
   cases b with
   | true => exact h2 rfl _ m O Q E (S.ext' K x) fun v h'' tk' x' => q v h'' tk' (x.trans x')
   | false => exact h3 rfl _ m O Q E (S.ext' K x) fun v h'' tk' x' => q v h'' tk' (x.trans x'))
theorem evA_nil {pos} : EvA prog w C r σ pos [] [] := fun s m O Q E S q => args_nil (q [] s.heap s.toks (Ext.refl _) .nil)
theorem evA_cons (K : Ok prog w hB mg mb C n) {pos} {e : Expr} {es : List Expr} {d : D} {ds : List D} (h1 : Ev prog w C r σ e d) (h2 : EvA prog w C r σ pos es ds)
   (hs : ∀ env, starEach (e :: es) env = (false, eval e env) :: starEach es env := by intro _; rfl) : EvA prog w C r σ pos (e :: es) (d :: ds) := fun s m O Q E S q =>
 args_cons (h1.then K S fun v h₁ t₁ x₁ S₁ rv => h2 _ m O _ E S₁ fun vs h₂ t₂ x₂ rs => q (v :: vs) h₂ t₂ (x₁.trans x₂) (.cons (rv.ext x₂) rs)) (hs _)
theorem isTuple_push (h : Heap) (vs : List Value) : (h.push { cls := .type "tuple", data := .seq vs.toArray }).IsTuple h.objs.size vs.toArray := ⟨_, Heap.get?_push_size _ rfl, rfl, _, rfl⟩
theorem isList_push (h : Heap) (vs : List Value) : (h.push { cls := .type "list", data := .seq vs.toArray }).PlainList h.objs.size vs.toArray := ⟨0, Heap.get?_push_size _ rfl⟩
theorem ev_tup (K : Ok prog w hB mg mb C n) {es : List Expr} {k : Nat} {pos} {ds : List D} (h1 : EvA prog w C r σ pos es ds) (hz : ds.length ≤ sizeLine := by decide) : Ev prog w C r σ (.Tuple es k pos) (.tup ds) := fun s m O Q E S q =>
 Tuple_ (h1 s m O _ E S fun vs h₁ t₁ x₁ rs => wpAny_newObj_type (q _ _ _ (x₁.trans (ext_push _ _)) (.tup (((S.ext' K x₁).own' (r := r) K).fresh (get_size _)) (isTuple_push _ _) (rs.ext (ext_push _ _)))) (by show vs.toArray.size ≤ sizeLine; rw [List.size_toArray, rs.length]; exact hz))
theorem ev_lst (K : Ok prog w hB mg mb C n) {es : List Expr} {pos} {ds : List D} (h1 : EvA prog w C r σ pos es ds) (hz : ds.length ≤ sizeLine := by decide) : Ev prog w C r σ (.List es pos) (.lst ds) := fun s m O Q E S q =>
 List_ (h1 s m O _ E S fun vs h₁ t₁ x₁ rs => wpAny_newObj_type (q _ _ _ (x₁.trans (ext_push _ _)) (.lst (((S.ext' K x₁).own' (r := r) K).fresh (get_size _)) (isList_push _ _) (rs.ext (ext_push _ _)))) (by show vs.toArray.size ≤ sizeLine; rw [List.size_toArray, rs.length]; exact hz))
structure IsG (mg : Str → Option Value) (C : Cfg) (x : Str) : Prop where
 kind : C.env.kindOf x = some .globalImplicit
theorem load_global (K : Ok prog w hB mg mb C n) {s : Shared} {x : Str} {pos} {v : Value} {Q : Value → Shared → Prop} {E} (S : StX C m O σ s.heap) (hk : C.env.kindOf x = some .globalImplicit) (hv : mg x = some v) (q : Q v s)
   (hd : (x == ("__debug__" : Str)) = false := by decide) : wpAny (model prog w) C.A (eval (.Name x pos) C.env) Q E s :=
 Calls.Name_function_global K.G.kind hk (Calls.loadGlobal_global (mg := mg) (by rw [K.G.globals]; exact K.B.g.keeps (S.base K)) hv q) hd
theorem load_builtin (K : Ok prog w hB mg mb C n) {s : Shared} {x : Str} {pos} {v : Value} {Q : Value → Shared → Prop} {E} (S : StX C m O σ s.heap) (hk : C.env.kindOf x = some .globalImplicit) (hm : mg x = none) (hv : bootBuiltins x = some v) (q : Q v s)
   (hn : x ≠ "__name__" := by decide) (hd : (x == ("__debug__" : Str)) = false := by decide) : wpAny (model prog w) C.A (eval (.Name x pos) C.env) Q E s :=
 Calls.Name_function_global K.G.kind hk (Calls.loadGlobal_builtin (mg := mg) (mb := mb) (by rw [K.G.globals]; exact K.B.g.keeps (S.base K)) hm (by rw [K.G.builtins]; exact K.B.b.keeps (S.base K)) ((K.B.builtins x hn).trans hv) q) hd
theorem ev_glob (K : Ok prog w hB mg mb C n) {x : Str} {pos} {v : Value} {d : D} (hk : C.env.kindOf x = some .globalImplicit) (hv : mg x = some v) (hr : Rep [] hB v d) (hd : (x == ("__debug__" : Str)) = false := by decide) : Ev prog w C r σ (.Name x pos) d := fun s m O Q E S q =>
 load_global K S hk hv (q v s.heap s.toks (Ext.refl _) (hr.move (fun a ha => .inr (((S.own' (r := r) K)).new a ha)) fun b o _ e => S.base K b o e)) hd
end
end
section
noncomputable def noApp (x : Str) : Loc → Bool
 | [] => true
 | (_, .app y) :: r => (y != x) && noApp x r
 | _ :: r => noApp x r
theorem lookup_cons' (y x : Str) (e : Ent) (σ : Loc) : List.lookup y ((x, e) :: σ) = if y = x then some e else σ.lookup y := by
 rw [List.lookup_cons]
 by_cases q : y = x
 · subst q; simp
 · have : (y == x) = false := by simpa using q
   rw [this, if_neg q]
theorem lookup_cases {x y : Str} {e e' : Ent} {σ : Loc} (q : ((x, e) :: σ).lookup y = some e') : (y = x ∧ e = e') ∨ (y ≠ x ∧ σ.lookup y = some e') := by
 rw [lookup_cons'] at q
 by_cases h : y = x
 · rw [if_pos h] at q; exact .inl ⟨h, Option.some.inj q⟩
 · rw [if_neg h] at q; exact .inr ⟨h, q⟩
theorem noApp_lookup {x y : Str} {z : Str} {σ : Loc} (hn : noApp x σ = true) (hl : σ.lookup y = some (.app z)) : z ≠ x := by
 induction σ with
 | nil => cases hl
 | cons p σ ih =>
   obtain ⟨k, e⟩ := p
   rcases lookup_cases hl with h | h
   · obtain ⟨_, rfl⟩ := h
     exact bne_iff_ne.mp (Bool.and_eq_true_iff.mp hn).1
   · refine ih ?_ h.2
     cases e with
     | app w => exact (Bool.and_eq_true_iff.mp hn).2
     | _ => exact hn
def Sub (σ' σ : Loc) : Prop := ∀ x e, σ'.lookup x = some e → σ.lookup x = some e
theorem Sub.nil {σ : Loc} : Sub [] σ := fun _ _ e => by cases e
theorem Sub.cons {σ σ' : Loc} {x : Str} {e : Ent} (h : σ.lookup x = some e) (r : Sub σ' σ) : Sub ((x, e) :: σ') σ := fun y e' hy => by
 exact (lookup_cases hy).elim (fun q => q.1 ▸ q.2 ▸ h) fun q => r y e' q.2
theorem Sub.refl (σ : Loc) : Sub σ σ := fun _ _ e => e
theorem Sub.trans {a b c : Loc} (x : Sub a b) (y : Sub b c) : Sub a c := fun z e h => y z e (x z e h)
section
variable {prog : Program} {w : World} {hB : Heap} {mg mb : Str → Option Value} {C : Cfg} {n : Nat} {σ σ' : Loc} {m : Str → Option Value} {O : List Addr} {h h' : Heap} {r : Bool}
theorem StX.sub' (S : StX C m O σ h) (hs : Sub σ' σ) : StX C m O σ' h where
 fr := S.fr
 sub := S.sub
 fin := S.fin
 alive := S.alive
 new := S.new
 ents := fun x e he => S.ents x e (hs x e he)
 apart := fun x y e e' a hne he he' => S.apart x y e e' a hne (hs _ _ he) (hs _ _ he')
noncomputable abbrev upd (m : Str → Option Value) (x : Str) (v : Value) : Str → Option Value := fun y => if y = x then some v else m y
theorem ERep.moved {v : Value} {e : Ent} {m' : Str → Option Value} {O' : List Addr} (r : ERep C O m h v e) (hO : ∀ a ∈ O', a ∈ O ∨ h.get? a = none) (hs : ∀ a ∈ O, a ∈ O') (hk : ∀ b o, b ∉ O → h.get? b = some o → h'.get? b = some o)
   (hown : e.isOwn = true → ∀ a, v = .ref a → ∀ o, h.get? a = some o → h'.get? a = some o) (happ : ∀ x, e = .app x → m' x = m x) : ERep C O' m' h' v e := by
 cases e with
 | v d => exact Rep.move hO hk r
 | own l => exact r.imp fun a x => x.imp fun vs y => ⟨y.1, hs _ y.2.1, y.2.2.1, y.2.2.2.1, y.2.2.2.2.1.at fun o => hown rfl a y.1 o, y.2.2.2.2.2.move hO hk⟩
 | ba l => exact r.imp fun a y => ⟨y.1, hs _ y.2.1, y.2.2.1, y.2.2.2.1, hown rfl a y.1 _ y.2.2.2.2⟩
 | app y => exact r.imp fun q x => x.imp fun a z => ⟨z.1, alive_of hO z.2.1 z.2.2.1, hk _ _ z.2.1 z.2.2.1, (happ y rfl).trans z.2.2.2⟩
theorem ERep.obj {v : Value} {e : Ent} {a : Addr} (r : ERep C O m h v e) (ho : e.isOwn = true) (hv : v = .ref a) : a ∈ O ∧ a ∉ C.fp ∧ ∃ o, h.get? a = some o := by
 subst hv
 cases e with
 | v d => cases ho
 | app x => cases ho
 | own l => exact r.elim fun a' x => x.elim fun vs y => by rw [Value.ref.inj y.1]; exact ⟨y.2.1, y.2.2.2.1, y.2.2.2.2.1.elim fun k e => ⟨_, e⟩⟩
 | ba l => exact r.elim fun a' y => by rw [Value.ref.inj y.1]; exact ⟨y.2.1, y.2.2.2.1, _, y.2.2.2.2⟩
theorem apart_cons {m' : Str → Option Value} {y : Str} {e : Ent} (h0 : e.isOwn = true → ∀ z e' a, z ≠ y → σ.lookup z = some e' → e'.isOwn = true → m' y = some (.ref a) → m' z ≠ some (.ref a))
   (h1 : ∀ z z' e₁ e₂ a, z ≠ y → z' ≠ y → z ≠ z' → σ.lookup z = some e₁ → σ.lookup z' = some e₂ → e₁.isOwn = true → e₂.isOwn = true → m' z = some (.ref a) → m' z' ≠ some (.ref a)) :
   ∀ x z e' e'' a, x ≠ z → ((y, e) :: σ).lookup x = some e' → ((y, e) :: σ).lookup z = some e'' → e'.isOwn = true → e''.isOwn = true → m' x = some (.ref a) → m' z ≠ some (.ref a) := fun x z e' e'' a hne hx hz o1 o2 hm =>
 (lookup_cases hx).elim (fun q => (lookup_cases hz).elim (fun r => absurd (q.1.trans r.1.symm) hne) fun r => h0 (q.2 ▸ o1) z e'' a r.1 r.2 o2 (q.1 ▸ hm)) fun q =>
   (lookup_cases hz).elim (fun r g => h0 (r.2 ▸ o2) x e' a q.1 q.2 o1 (r.1 ▸ g) hm) fun r => h1 x z e' e'' a q.1 r.1 hne q.2 r.2 o1 o2 hm
theorem StX.setV (K : Ok prog w hB mg mb C n) {x : Str} {v : Value} {d : D} (S : StX C m O σ h) (hr : Rep O h v d) (hF : C.FR (upd m x v) h') (hk : ∀ b o, b ∉ C.fp → h.get? b = some o → h'.get? b = some o)
   (hn : noApp x σ = true) : StX C (upd m x v) O ((x, .v d) :: σ) h' where
 fr := hF
 sub := S.sub
 fin := S.fin
 alive := fun a ha => (Classical.em (a ∈ C.fp)).elim (K.H.alive _ _ hF a) fun hm => (S.alive a ha).imp fun o e => hk a o hm e
 new := S.new
 ents := fun y e hy =>
   have hkO : ∀ b o, b ∉ O → h.get? b = some o → h'.get? b = some o := fun b o hb => hk b o fun hm => hb (S.fin b hm)
   (lookup_cases hy).elim (fun q => ⟨v, if_pos q.1, q.2 ▸ Rep.move (fun _ h => .inl h) hkO hr⟩) fun q => (S.ents y e q.2).imp fun u r =>
     ⟨(if_neg q.1).trans r.1, r.2.moved (fun _ h => .inl h) (fun _ h => h) hkO (fun ho a hva o => hk a o (r.2.obj ho hva).2.1) fun z hz => if_neg (noApp_lookup hn (hz ▸ q.2))⟩
 apart := apart_cons (fun h => Bool.noConfusion h) fun z z' e₁ e₂ a hz hz' hne l1 l2 o1 o2 g1 g2 => S.apart z z' e₁ e₂ a hne l1 l2 o1 o2 ((if_neg hz).symm.trans g1) ((if_neg hz').symm.trans g2)
theorem StX.setOwn (K : Ok prog w hB mg mb C n) {x : Str} {a : Addr} {e : Ent} {h₁ : Heap} (S : StX C m O σ h) (hx : Ext h h₁) (ha : h.get? a = none) (ho : ∃ o, h₁.get? a = some o) (he : e.isOwn = true)
   (hF : C.FR (upd m x (.ref a)) h') (hk : ∀ b o, b ∉ C.fp → h₁.get? b = some o → h'.get? b = some o) (hr : ERep C (a :: O) (upd m x (.ref a)) h' (.ref a) e) (hn : noApp x σ = true) : StX C (upd m x (.ref a)) (a :: O) ((x, e) :: σ) h' := by
 have hfp : a ∉ C.fp := fun hm => (K.H.alive _ _ S.fr a hm).elim fun o q => nos ha q
 have hkO : ∀ b o, b ∉ O → h.get? b = some o → h'.get? b = some o := fun b o hb q => hk b o (fun hm => hb (S.fin b hm)) (hx b o q)
 have hO : ∀ b ∈ a :: O, b ∈ O ∨ h.get? b = none := fun b hb => (List.mem_cons.mp hb).elim (fun q => .inr (q ▸ ha)) .inl
 refine ⟨hF, fun b hb => List.mem_cons_of_mem _ (S.sub b hb), fun b hb => List.mem_cons_of_mem _ (S.fin b hb), fun b hb => ?_, fun b hb => ?_, fun y e' hy => ?_, apart_cons (fun _ z e' b hz l o g1 g2 => ?_) ?_⟩
 · refine (Classical.em (b ∈ C.fp)).elim (K.H.alive _ _ hF b) fun hm => (List.mem_cons.mp hb).elim (fun q => ?_) fun hb => (S.alive b hb).imp fun o q => hk _ _ hm (hx _ _ q)
   subst q
   exact ho.imp fun o q => hk _ _ hm q
 · exact (List.mem_cons.mp hb).elim (fun q => .inr (none_of fun o q' => nos ha (K.H.keep _ _ S.fr a o (q ▸ q')))) (S.new b)
 · exact (lookup_cases hy).elim (fun q => ⟨.ref a, if_pos q.1, q.2 ▸ hr⟩) fun q => (S.ents y e' q.2).imp fun u r =>
     ⟨(if_neg q.1).trans r.1, r.2.moved hO (fun _ h => List.mem_cons_of_mem _ h) hkO (fun ho b hva o q => hk b o (r.2.obj ho hva).2.1 (hx b o q)) fun z hz => if_neg (noApp_lookup hn (hz ▸ q.2))⟩
 · have e1 : a = b := Value.ref.inj (Option.some.inj ((if_pos rfl).symm.trans g1))
   exact (S.ents z e' l).elim fun u r => (r.2.obj o (Option.some.inj (r.1.symm.trans ((if_neg hz).symm.trans g2)))).2.2.elim fun o q => nos ha (e1 ▸ q)
 · exact fun z z' e₁ e₂ b hz hz' hne l1 l2 o1 o2 g1 g2 => S.apart z z' e₁ e₂ b hne l1 l2 o1 o2 ((if_neg hz).symm.trans g1) ((if_neg hz').symm.trans g2)
theorem StX.change (K : Ok prog w hB mg mb C n) {x : Str} {a : Addr} {e₀ e : Ent} (S : StX C m O σ h) (hx : σ.lookup x = some e₀) (h0 : e₀.isOwn = true) (hm : m x = some (.ref a)) (haO : a ∈ O) (hafp : a ∉ C.fp) (ha0 : a ∉ C.O₀)
   (hs : ∀ b o, b ≠ a → h.get? b = some o → h'.get? b = some o) (ho : ∃ o, h'.get? a = some o) (he : e.isOwn = true) (hr : ERep C O m h' (.ref a) e) : StX C m O ((x, e) :: σ) h' := by
 have hh0 : C.h₀.get? a = none := (S.new a haO).resolve_left ha0
 have hk0 : Ext C.h₀ h' := fun b o q => hs b o (fun e => nos hh0 (e ▸ q)) (K.H.keep _ _ S.fr b o q)
 have hkO : ∀ b o, b ∉ O → h.get? b = some o → h'.get? b = some o := fun b o hb => hs b o fun e => hb (e ▸ haO)
 refine ⟨K.H.move m h h' S.fr (fun b hb o => hs b o fun e => hafp (e ▸ hb)) hk0, S.sub, S.fin, fun b hb => ?_, S.new, fun y e' hy => ?_, apart_cons (fun _ z e' b hz l o g1 => S.apart x z e₀ e' b (Ne.symm hz) hx l h0 o g1) fun z z' e₁ e₂ b _ _ hne => S.apart z z' e₁ e₂ b hne⟩
 · by_cases q : b = a
   · exact q ▸ ho
   · exact (S.alive b hb).imp fun o e => hs b o q e
 · exact (lookup_cases hy).elim (fun q => ⟨.ref a, q.1 ▸ hm, q.2 ▸ hr⟩) fun q => (S.ents y e' q.2).imp fun u r =>
     ⟨r.1, r.2.moved (fun _ h => .inl h) (fun _ h => h) hkO (fun h1 b hva o => hs b o fun e => S.apart x y e₀ e' a (Ne.symm q.1) hx q.2 h0 h1 hm (r.1.trans (congrArg some (hva.trans (congrArg Value.ref e))))) fun z _ => rfl⟩
end
end
section
section
variable (prog : Program) (w : World) (C : Cfg)
def As (σ : Loc) (t : Expr) (d : D) (σ' : Loc) : Prop :=
 ∀ (s : Shared) m O v (Q : Unit → Shared → Prop) (E : Value → Shared → Prop), StX C m O σ s.heap → Rep O s.heap v d →
   (∀ m' h' tk, StX C m' O σ' h' → (∀ b o, b ∉ O → s.heap.get? b = some o → h'.get? b = some o) → Q () { s with heap := h', toks := tk }) → wpAny (model prog w) C.A (assign t C.env v) Q E s
def AsL (σ : Loc) (ts : List Expr) (ds : List D) (σ' : Loc) : Prop :=
 ∀ (s : Shared) m O vs (Q : Unit → Shared → Prop) (E : Value → Shared → Prop), StX C m O σ s.heap → Reps O s.heap vs ds →
   (∀ m' h' tk, StX C m' O σ' h' → (∀ b o, b ∉ O → s.heap.get? b = some o → h'.get? b = some o) → Q () { s with heap := h', toks := tk }) → wpAny (model prog w) C.A (assignInOrder ((assignEach ts C.env).map (·.2)) vs) Q E s
def AsB (σ : Loc) (ts : List Str) (ds : List D) (σ' : Loc) : Prop :=
 ∀ (s : Shared) m O vs (Q : Unit → Shared → Prop) (E : Value → Shared → Prop), StX C m O σ s.heap → Reps O s.heap vs ds →
   (∀ m' h' tk, StX C m' O σ' h' → (∀ b o, b ∉ O → s.heap.get? b = some o → h'.get? b = some o) → Q () { s with heap := h', toks := tk }) → wpAny (model prog w) C.A (assignInOrder (ts.map fun n => bindName C.env n) vs) Q E s
def Seq (rest : List Stmt) (Φ : Fl → Loc → Prop) (φ : Fl) (σ' : Loc) : Prop :=
 match φ with
 | .next => Wp prog w C σ' rest Φ
 | φ => Φ φ σ'
end
section
variable {prog : Program} {w : World} {hB : Heap} {mg mb : Str → Option Value} {C : Cfg} {n : Nat} {σ σ' σ'' : Loc} {m : Str → Option Value} {O : List Addr} {h h' : Heap} {r : Bool} {Φ Ψ : Fl → Loc → Prop} {rest : List Stmt}
theorem storeV (K : Ok prog w hB mg mb C n) {s : Shared} {x : Str} {v : Value} {d : D} {Q : Unit → Shared → Prop} {E} (S : StX C m O σ s.heap) (hr : Rep O s.heap v d) (hl : C.loc x = true) (hn : noApp x σ = true)
   (q : ∀ m' h' tk, StX C m' O ((x, .v d) :: σ) h' → (∀ b o, b ∉ O → s.heap.get? b = some o → h'.get? b = some o) → Q () { s with heap := h', toks := tk }) : wpAny (model prog w) C.A (storeName C.env x v) Q E s :=
 K.H.store s m x v Q E S.fr hl fun h' tk hF hk => q _ h' tk (S.setV K hr hF hk hn) fun b o hb => hk b o fun hm => hb (S.fin b hm)
theorem as_name (K : Ok prog w hB mg mb C n) {x : Str} {pos} {d : D} (hl : C.loc x = true) (hn : noApp x σ = true) : As prog w C σ (.Name x pos) d ((x, .v d) :: σ) := fun s m O v Q E S hr q =>
 wpAny_assign_Name (storeV K S hr hl hn q)
theorem asL_nil : AsL prog w C σ [] [] σ := fun s m O vs Q E S hr q => by
 cases hr
 exact wpAny_pure (q m s.heap s.toks S fun _ _ _ e => e)
theorem asL_cons (K : Ok prog w hB mg mb C n) {t : Expr} {ts : List Expr} {d : D} {ds : List D} (h1 : As prog w C σ t d σ') (h2 : AsL prog w C σ' ts ds σ'') (ht : ∀ env, assignEach (t :: ts) env = (false, assign t env) :: assignEach ts env := by intro _; rfl) :
   AsL prog w C σ (t :: ts) (d :: ds) σ'' := fun s m O vs Q E S hr q => by
 cases hr with
 | cons ra rs =>
   rw [ht]
   show wpAny _ _ (assignInOrder (assign t C.env :: (assignEach ts C.env).map (·.2)) _) Q E s
   rw [assignInOrder]
   refine wpAny_bind (wpAny_holding (h1 s m O _ _ E S ra fun m' h' tk S' hk => ?_))
   exact h2 _ m' O _ Q E S' (rs.move (fun _ h => .inl h) hk) fun m'' h'' tk' S'' hk' => q m'' h'' tk' S'' fun b o hb e => hk' b o hb (hk b o hb e)
theorem asB_nil : AsB prog w C σ [] [] σ := fun s m O vs Q E S hr q => by
 cases hr
 exact wpAny_pure (q m s.heap s.toks S fun _ _ _ e => e)
theorem asB_cons (K : Ok prog w hB mg mb C n) {x : Str} {ts : List Str} {d : D} {ds : List D} (hl : C.loc x = true) (hn : noApp x σ = true) (h2 : AsB prog w C ((x, .v d) :: σ) ts ds σ'') :
   AsB prog w C σ (x :: ts) (d :: ds) σ'' := fun s m O vs Q E S hr q => by
 cases hr with
 | cons ra rs =>
   show wpAny _ _ (assignInOrder (bindName C.env x :: ts.map fun n => bindName C.env n) _) Q E s
   rw [assignInOrder]
   refine wpAny_bind (wpAny_holding (wpAny_bindName (storeV K S ra hl hn fun m' h' tk S' hk => ?_)))
   exact h2 _ m' O _ Q E S' (rs.move (fun _ h => .inl h) hk) fun m'' h'' tk' S'' hk' => q m'' h'' tk' S'' fun b o hb e => hk' b o hb (hk b o hb e)
theorem Wp.mono (h1 : Wp prog w C σ rest Φ) (h2 : ∀ φ σ', Φ φ σ' → Ψ φ σ') : Wp prog w C σ rest Ψ := fun s m O Q E S q => h1 s m O Q E S fun f φ σ' h' tk m' O' hp => q f φ σ' h' tk m' O' (h2 _ _ hp)
theorem Wp.sub (h1 : Wp prog w C σ' rest Φ) (hs : Sub σ' σ) : Wp prog w C σ rest Φ := fun s m O Q E S q => h1 s m O Q E (S.sub' hs) q
theorem wp_nil (h1 : Φ .next σ) : Wp prog w C σ [] Φ := fun s m O Q E S q => wpAny_execs_nil (q .next .next σ s.heap s.toks m O h1 trivial S (Grow.refl _ _))
theorem Wp.run {ss : List Stmt} (h1 : Wp prog w C σ ss (Seq prog w C rest Φ)) {s : Shared} {Q : Flow → Shared → Prop} {E} (S : StX C m O σ s.heap)
   (q : ∀ f φ σ' h' tk m' O', Φ φ σ' → FlR C.O₀ h' f φ → StX C m' O' σ' h' → Grow O s.heap O' h' → Q f { s with heap := h', toks := tk }) :
   wpAny (model prog w) C.A (execs ss C.env) (fun f s' => match f with | .next => wpAny (model prog w) C.A (execs rest C.env) Q E s' | f => Q f s') E s :=
 h1 s m O _ E S fun f φ σ' h' tk m' O' hp hf S' g => by
   cases f, φ, hf using FlR.elim with
   | next => exact hp _ m' O' Q E S' fun f φ σ'' h'' tk' m'' O'' hp' hf' S'' g' => q f φ σ'' h'' tk' m'' O'' hp' hf' S'' (g.trans g')
   | brk => exact q .brk .brk σ' h' tk m' O' hp trivial S' g
   | cont => exact q .cont .cont σ' h' tk m' O' hp trivial S' g
   | ret v d hr => exact q (.ret _) (.ret _) σ' h' tk m' O' hp hr S' g
theorem wp_if (K : Ok prog w hB mg mb C n) {t : Expr} {a b : List Stmt} {pos} {c : Bool} (h1 : EvT prog w C σ t c) (h2 : c = true → Wp prog w C σ a (Seq prog w C rest Φ)) (h3 : c = false → Wp prog w C σ b (Seq prog w C rest Φ)) :
   Wp prog w C σ (.If t a b pos :: rest) Φ := fun s m O Q E S q =>
 wpAny_execs_cons (wpAny_If (h1 s m O _ E S fun h' tk x => by
   have S' := S.ext' K x
   cases c with
   | true => exact (h2 rfl).run S' fun f φ σ' h'' tk' m' O' hp hf S'' g => q f φ σ' h'' tk' m' O' hp hf S'' ((Grow.ext x).trans g)
   | false => exact (h3 rfl).run S' fun f φ σ' h'' tk' m' O' hp hf S'' g => q f φ σ' h'' tk' m' O' hp hf S'' ((Grow.ext x).trans g)))
theorem wp_assign (K : Ok prog w hB mg mb C n) {x : Str} {e : Expr} {p pos} {d : D} (h1 : Ev prog w C false σ e d) (h2 : Wp prog w C ((x, .v d) :: σ) rest Φ) (hl : C.loc x = true) (hn : noApp x σ = true)
   (hs : swapsWith e (some (.Name x p)) pos.line C.env = pure false := by rfl) : Wp prog w C σ (.Assign [.Name x p] e pos :: rest) Φ := fun s m O Q E S q =>
 wpAny_execs_cons (wpAny_Assign_Name (hs := hs) (h1.then K S fun v h' tk x S' hr => storeV K S' hr hl hn fun m' h'' tk' S'' hk =>
   h2 _ m' O Q E S'' fun f φ σ' h3 tk3 m3 O3 hp hf S3 g => q f φ σ' h3 tk3 m3 O3 hp hf S3 (((Grow.ext x).trans ⟨hk, fun _ h => h, fun _ h => .inl h⟩).trans g)))
theorem wp_aug (K : Ok prog w hB mg mb C n) {x : Str} {e : Expr} {op : Operator} {p pos} {d₀ d₁ d : D} (hx : σ.lookup x = some (.v d₀)) (h1 : Ev prog w C false σ e d₁) (h3 : Op2 prog w hB (inplaceOp op) d₀ d₁ d) (h2 : Wp prog w C ((x, .v d) :: σ) rest Φ)
   (hl : C.loc x = true) (hn : noApp x σ = true) : Wp prog w C σ (.AugAssign (.Name x p) op e pos :: rest) Φ := fun s m O Q E S q => by
 obtain ⟨v₀, hv₀, hr₀⟩ := S.ents x _ hx
 refine wpAny_execs_cons (wpAny_AugAssign_Name (K.H.load s m x v₀ _ _ S.fr hl hv₀ (h1.then K S fun v h' tk x S' hr => h3 _ _ O v₀ v _ _ (K.R.le (Nat.zero_le _)) (S'.base K) (S'.own' (r := false) K) (Rep.ext hr₀ x) hr fun u h2' tk2 x2 hr2 => ?_)))
 exact storeV K (S'.ext' K x2) hr2 hl hn fun m' h'' tk' S'' hk =>
   h2 _ m' O Q E S'' fun f φ σ' h3 tk3 m3 O3 hp hf S3 g => q f φ σ' h3 tk3 m3 O3 hp hf S3 (((Grow.ext (x.trans x2)).trans ⟨hk, fun _ h => h, fun _ h => .inl h⟩).trans g)
theorem wp_ret (K : Ok prog w hB mg mb C n) {e : Expr} {pos} {d : D} (h1 : Ev prog w C true σ e d) (h2 : Φ (.ret d) σ) : Wp prog w C σ (.Return (some e) pos :: rest) Φ := fun s m O Q E S q =>
 wpAny_execs_cons (wpAny_Return_some (h1.then K S fun v h' tk x S' hr => q (.ret v) (.ret d) σ h' tk m O h2 hr S' (Grow.ext x)))
theorem wp_brk {pos} (h2 : Φ .brk σ) : Wp prog w C σ (.Break pos :: rest) Φ := fun s m O Q E S q => wpAny_execs_cons (wpAny_Break (q .brk .brk σ s.heap s.toks m O h2 trivial S (Grow.refl _ _)))
theorem wp_cont {pos} (h2 : Φ .cont σ) : Wp prog w C σ (.Continue pos :: rest) Φ := fun s m O Q E S q => wpAny_execs_cons (wpAny_Continue (q .cont .cont σ s.heap s.toks m O h2 trivial S (Grow.refl _ _)))
theorem wp_unpack (K : Ok prog w hB mg mb C n) {ts : List Expr} {k : Nat} {tp : Pos} {e : Expr} {pos : Pos} {ds : List D} (h1 : Ev prog w C false σ e (.tup ds)) (ha : AsL prog w C σ ts ds σ') (h2 : Wp prog w C σ' rest Φ)
   (hn : ts.length = ds.length := by rfl) (hlen : ∀ env, (assignEach ts env).length = ts.length := by intro _; rfl) (hstar : ∀ env, (assignEach ts env).findIdx? (·.1) = none := by intro _; rfl)
   (hs : swapsWithSole [.Tuple ts k tp] e pos.line C.env = pure false := by rfl) (hw : swappedStores [.Tuple ts k tp] e C.env = pure none := by rfl) : Wp prog w C σ (.Assign [.Tuple ts k tp] e pos :: rest) Φ := fun s m O Q E S q =>
 wpAny_execs_cons (Assign_Tuple (hs := hs) (hw := hw) (h1.then K S fun v h' tk x S' hr => by
   refine hr.tupE.elim fun a y => y.elim fun vs z => ?_
   rw [z.1]
   refine wpAny_assign_Tuple K.R.handled z.2.2.1 (by rw [hlen, hn, List.size_toArray, z.2.2.2.length]) (hstar _) fun h₂ he => ?_
   have x₂ : Ext h' h₂ := fun b o e => he b o (Nat.ne_of_lt (Heap.lt_size e)) e
   refine ha _ m O _ _ E (S'.ext' K x₂) (by rw [List.toList_toArray]; exact z.2.2.2.ext x₂) fun m' h3 tk' S'' hk => ?_
   exact h2 _ m' O Q E S'' fun f φ σ' h4 tk4 m4 O4 hp hf S4 g => q f φ σ' h4 tk4 m4 O4 hp hf S4 (((Grow.ext (x.trans x₂)).trans ⟨hk, fun _ h => h, fun _ h => .inl h⟩).trans g)))
theorem Reps.reverse {h : Heap} {vs : List Value} {ds : List D} (r : Reps O h vs ds) : Reps O h vs.reverse ds.reverse :=
 r.ind (R := fun vs ds => Reps O h vs.reverse ds.reverse) .nil fun _ _ _ _ a _ ih => by rw [List.reverse_cons, List.reverse_cons]; exact ih.append (.cons a .nil)
theorem wp_swap (K : Ok prog w hB mg mb C n) {ts : List Expr} {names : List Str} {k : Nat} {tp : Pos} {e : Expr} {pos : Pos} {ds : List D} (h1 : Ev prog w C false σ e (.tup ds)) (ha : AsB prog w C σ names.reverse ds.reverse σ') (h2 : Wp prog w C σ' rest Φ)
   (hn : names.length = ds.length := by rfl)
   (hs : swapsWithSole [.Tuple ts k tp] e pos.line C.env = pure false := by rfl) (hw : swappedStores [.Tuple ts k tp] e C.env = pure (some names) := by rfl) : Wp prog w C σ (.Assign [.Tuple ts k tp] e pos :: rest) Φ := fun s m O Q E S q =>
 wpAny_execs_cons (Assign_Tuple_swapped (hs := hs) (hw := hw) (h1.then K S fun v h' tk x S' hr => by
   refine hr.tupE.elim fun a y => y.elim fun vs z => ?_
   rw [z.1, show names.length = vs.toArray.size by rw [hn, List.size_toArray, z.2.2.2.length]]
   refine wpAny_unpackItems_tuple K.R.handled z.2.2.1 fun h₂ he => ?_
   have x₂ : Ext h' h₂ := fun b o e => he b o (Nat.ne_of_lt (Heap.lt_size e)) e
   refine ha _ m O _ _ E (S'.ext' K x₂) (by simpa using Reps.reverse (O := O) (z.2.2.2.ext x₂)) fun m' h3 tk' S'' hk => ?_
   exact h2 _ m' O Q E S'' fun f φ σ' h4 tk4 m4 O4 hp hf S4 g => q f φ σ' h4 tk4 m4 O4 hp hf S4 (((Grow.ext (x.trans x₂)).trans ⟨hk, fun _ h => h, fun _ h => .inl h⟩).trans g)))
end
end
section
noncomputable def itCls : List String := ["list_iterator", "tuple_iterator", "str_iterator", "str_ascii_iterator"]
def IsItr (o : Obj) : Prop := ∃ n ∈ itCls, o.cls = .type n
theorem IsItr.notStab {o : Obj} (h : IsItr o) : ¬ Stab o := by
 obtain ⟨n, hn, hc⟩ := h
 have key : ∀ x ∈ itCls, x ≠ "tuple" ∧ x ≠ "list" ∧ x ≠ "builtin_function_or_method" := by decide
 have hv : ∀ y, o.cls = .type y → n = y := fun y e => Value.type.inj (hc.symm.trans e)
 exact fun h => h.elim (fun e => (key n hn).1 (hv _ e)) fun h => h.elim (fun e => (key n hn).2.1 (hv _ e)) fun e => (key n hn).2.2 (hv _ e)
theorem letGo_skip {prog : Program} {w : World} {A : Around} {t : Expr} {I : Addr} {o : Obj} {v : Value} {Q : Unit → Shared → Prop} {E : Value → Shared → Prop} {s : Shared} (ho : s.heap.get? I = some o) (hi : IsItr o) (q : Q () s) :
   wpAny (model prog w) A (letOwnedTupleGo t (.ref I) v) Q E s := by
 obtain ⟨n, hn, hc⟩ := hi
 have hcn : (["enumerate", "zip", "dict_itemiterator", "dict_reverseitemiterator", "odict_iterator", "itertools.zip_longest", "itertools.pairwise"] : List String).contains n = false :=
   (show ∀ x ∈ itCls, (["enumerate", "zip", "dict_itemiterator", "dict_reverseitemiterator", "odict_iterator", "itertools.zip_longest", "itertools.pairwise"] : List String).contains x = false by decide) n hn
 have key : wpAny (model prog w) A (letOwnedTupleGo (.Tuple [] 0 default) (.ref I) v) Q E s := by
   cases v with
   | ref a =>
     refine wpAny_bind (wpAny_load ho ?_)
     rw [hc]
     cases hd : o.data <;> first | exact wpAny_pure q | (refine wpAny_ifF ?_ (wpAny_pure q); rw [hcn]; exact Bool.false_ne_true)
   | _ => exact wpAny_pure q
 cases t <;> first | exact wpAny_pure q | exact key
section
variable (prog : Program) (w : World) (C : Cfg)
def It (σ : Loc) (e : Expr) (ds : List D) : Prop :=
 ∀ (s : Shared) m O (Q : Value → Shared → Prop) (E : Value → Shared → Prop), StX C m O σ s.heap →
   (∀ I fp wr P St h' tk, Ext s.heap h' → Walks prog w C.A I fp wr ds.length P St → St 0 h' → I ∈ wr → (∀ b ∈ fp, b ∉ O) → (∀ b ∈ fp, ∃ o, h'.get? b = some o ∧ (b ∉ wr → Stab o)) → (∀ b ∈ wr, s.heap.get? b = none) →
     (∀ i h, St i h → ∀ b ∈ wr, ∃ o, h.get? b = some o ∧ IsItr o) → (∀ i v, P i v → ∃ d, ds[i]? = some d ∧ Rep O h' v d) → Q (.ref I) { s with heap := h', toks := tk }) →
   wpAny (model prog w) C.A (eval e C.env) (fun x s₁ => wpAny (model prog w) C.A (pyIter x) Q E s₁) E s
def LoopEnd (next : Loc → Prop) (rest : List Stmt) (Φ : Fl → Loc → Prop) (φ : Fl) (σ' : Loc) : Prop :=
 match φ with
 | .next => next σ'
 | .cont => next σ'
 | .brk => Wp prog w C σ' rest Φ
 | .ret d => Φ (.ret d) σ'
end
section
variable {prog : Program} {w : World} {hB : Heap} {mg mb : Str → Option Value} {C : Cfg} {n : Nat} {σ σ' σ'' : Loc} {m : Str → Option Value} {O : List Addr} {h h' : Heap} {r : Bool} {Φ Ψ : Fl → Loc → Prop} {rest : List Stmt}
theorem Wp.fin (h1 : Wp prog w C σ rest Φ) {s : Shared} {m : Str → Option Value} {O O' : List Addr} {h' : Heap} {t' : Nat} {Q : Flow → Shared → Prop} {E : Value → Shared → Prop} (S : StX C m O' σ h')
   (q : ∀ f φ σ' h' tk m' O', Φ φ σ' → FlR C.O₀ h' f φ → StX C m' O' σ' h' → Grow O s.heap O' h' → Q f { s with heap := h', toks := tk }) (g : Grow O s.heap O' h') : wpAny (model prog w) C.A (execs rest C.env) Q E { s with heap := h', toks := t' } :=
 h1 _ m O' Q E S fun f φ σ'' h₄ t₄ m₄ O₄ hp' hf' S₄ g₄ => q f φ σ'' h₄ t₄ m₄ O₄ hp' hf' S₄ (g.trans g₄)
inductive WInv (C : Cfg) {α : Type} (st : α → Loc) (P : α → Prop) (meas : α → Nat) (s : Shared) (O : List Addr) : Nat → Shared → Prop
 | mk (a : α) (m' : Str → Option Value) (O' : List Addr) (h' : Heap) (tk : Nat) (pa : P a) (S' : StX C m' O' (st a) h') (g : Grow O s.heap O' h') : WInv C st P meas s O (meas a) { s with heap := h', toks := tk }
theorem wp_while (K : Ok prog w hB mg mb C n) {α : Type} {test : Expr} {body : List Stmt} {pos : Pos} (st : α → Loc) (P : α → Prop) (meas : α → Nat) (a₀ : α) (h0 : Sub (st a₀) σ) (p0 : P a₀)
   (turn : ∀ a, P a → ∃ c, EvT prog w C (st a) test c ∧ (c = true → Wp prog w C (st a) body (LoopEnd prog w C (fun σ' => ∃ a', P a' ∧ meas a' < meas a ∧ Sub (st a') σ') rest Φ)) ∧ (c = false → Wp prog w C (st a) rest Φ)) :
   Wp prog w C σ (.While test body [] pos :: rest) Φ := fun s m O Q E S q => by
 refine wpAny_execs_cons (wpAny_While (codeAny_whileLoop (WInv C st P meas s O) ?_ (meas a₀) (.mk a₀ m O s.heap s.toks p0 (S.sub' h0) (Grow.refl _ _))))
 intro k s' I
 cases I with | mk a m' O' h' tk pa S' g
 refine (turn a pa).elim fun c hh => hh.1 _ m' O' _ _ S' fun h₂ t₂ x => ?_
 have S₂ := S'.ext' K x
 have g₂ := g.trans (Grow.ext x)
 cases c with
 | true =>
   refine hh.2.1 rfl _ m' O' _ _ S₂ fun f φ σ' h₃ t₃ m₃ O₃ hp hfl S₃ g₃ => ?_
   have next : (∃ a', P a' ∧ meas a' < meas a ∧ Sub (st a') σ') → ∃ k, k < meas a ∧ WInv C st P meas s O k { s with heap := h₃, toks := t₃ } := fun x => x.elim fun a' y => ⟨_, y.2.1, .mk a' m₃ O₃ h₃ t₃ y.1 (S₃.sub' y.2.2) (g₂.trans g₃)⟩
   cases f, φ, hfl using FlR.elim with
   | next => exact next hp
   | brk => exact Wp.fin (s := s) hp S₃ q (g₂.trans g₃)
   | cont => exact next hp
   | ret v d hr => exact q (.ret v) (.ret d) σ' h₃ t₃ m₃ O₃ hp hr S₃ (g₂.trans g₃)
 | false => exact wpAny_execs_nil (Wp.fin (s := s) (hh.2.2 rfl) S₂ q g₂)
theorem ERep.still {v : Value} {e : Ent} (r : ERep C O m h v e) (ho : ∀ b o, b ∈ O → h.get? b = some o → h'.get? b = some o) (hs : ∀ b o, h.get? b = some o → Stab o → h'.get? b = some o) : ERep C O m h' v e := by
 cases e with
 | v d => exact Rep.moveS (fun _ h => .inl h) (fun b o _ => hs b o) r
 | own l => exact r.imp fun a x => x.imp fun vs y => ⟨y.1, y.2.1, y.2.2.1, y.2.2.2.1, y.2.2.2.2.1.imp fun k e => ho _ _ y.2.1 e, y.2.2.2.2.2.moveS (fun _ h => .inl h) fun b o _ => hs b o⟩
 | ba l => exact r.imp fun a y => ⟨y.1, y.2.1, y.2.2.1, y.2.2.2.1, ho _ _ y.2.1 y.2.2.2.2⟩
 | app y => exact r.imp fun q x => x.imp fun a y => ⟨y.1, y.2.1, hs _ _ y.2.2.1 (.inr (.inr rfl)), y.2.2.2⟩
theorem StX.walked (K : Ok prog w hB mg mb C n) {hs h₂ : Heap} {wr : List Addr} (S : StX C m O σ h) (hk : ∀ b o, b ∉ wr → h.get? b = some o → h₂.get? b = some o)
   (hwO : ∀ b ∈ wr, b ∉ O) (hwn : ∀ b ∈ wr, C.h₀.get? b = none) (hst : ∀ b ∈ wr, ∀ o, h.get? b = some o → ¬ Stab o) : StX C m O σ h₂ :=
 have hO : ∀ b o, b ∈ O → h.get? b = some o → h₂.get? b = some o := fun b o hb => hk b o fun hw => hwO b hw hb
 {
   fr := K.H.move m h h₂ S.fr (fun b hb o => hO b o (S.fin b hb)) fun b o e => hk b o (fun hw => nos (hwn b hw) e) (K.H.keep _ _ S.fr b o e)
   sub := S.sub
   fin := S.fin
   alive := fun b hb => (S.alive b hb).imp fun o => hO b o hb
   new := S.new
   ents := fun y e hy => (S.ents y e hy).imp fun _ r => ⟨r.1, r.2.still hO fun b o e hs => hk b o (fun hb => hst b hb o e hs) e⟩
   apart := S.apart }
theorem Grow.step {wr O₁ O₂ O₃ : List Addr} {h₁ h₂ h₃ h₄ : Heap} (g : Grow O₁ h₁ O₂ h₂) (hk : ∀ b o, b ∉ O₂ → b ∉ wr → h₂.get? b = some o → h₃.get? b = some o) (hwn : ∀ b ∈ wr, h₁.get? b = none) (g₂ : Grow O₂ h₃ O₃ h₄) : Grow O₁ h₁ O₃ h₄ :=
 have hw : ∀ b o, h₁.get? b = some o → b ∉ wr := fun b o e hw => nos (hwn b hw) e
 {
   keep := fun b o hb e => have hb' := alive_of g.new hb e; g₂.keep b o hb' (hk b o hb' (hw b o e) (g.keep b o hb e))
   sub := fun a ha => g₂.sub a (g.sub a ha)
   new := fun a ha => (g₂.new a ha).elim (g.new a) fun h0 => (Classical.em (a ∈ O₁)).imp id fun hm => none_of fun o e => nos h0 (hk a o (alive_of g.new hm e) (hw a o e) (g.keep a o hm e)) }
structure FAt (C : Cfg) (σi : Loc) (h₀ h₁ : Heap) (O wr : List Addr) (St : Nat → Heap → Prop) (i : Nat) (m' : Str → Option Value) (O' : List Addr) (h' : Heap) : Prop where
 S : StX C m' O' σi h'
 st : St i h'
 g : Grow O h₀ O' h'
 kp : ∀ b o, b ∉ O → b ∉ wr → h₁.get? b = some o → h'.get? b = some o
 nw : ∀ a ∈ O', a ∈ O ∨ h₁.get? a = none
structure FIt (prog : Program) (w : World) (C : Cfg) (O : List Addr) (h₀ h₁ : Heap) (k : Nat) (I : Addr) (fp wr : List Addr) (P : Nat → Value → Prop) (St : Nat → Heap → Prop) : Prop where
 W : Walks prog w C.A I fp wr k P St
 fO : ∀ b ∈ fp, b ∉ O
 fa : ∀ b ∈ fp, ∃ o, h₁.get? b = some o
 wn : ∀ b ∈ wr, h₀.get? b = none
 itr : ∀ i h, St i h → ∀ b ∈ wr, ∃ o, h.get? b = some o ∧ IsItr o
 c0 : ∀ b ∈ wr, C.h₀.get? b = none
section
variable {h₀ h₁ h₂ h₃ h₄ : Heap} {k i : Nat} {I : Addr} {fp wr O' O₄ : List Addr} {P : Nat → Value → Prop} {St : Nat → Heap → Prop} {m' m₄ : Str → Option Value} {σ₄ : Loc}
theorem FIt.ns (F : FIt prog w C O h₀ h₁ k I fp wr P St) (st : St i h) {b : Addr} (hb : b ∈ wr) {o : Obj} (e : h.get? b = some o) : ¬ Stab o := fun hs => (F.itr i h st b hb).elim fun o' x => x.2.notStab (Option.some.inj (e.symm.trans x.1) ▸ hs)
theorem FAt.fpO (F : FIt prog w C O h₀ h₁ k I fp wr P St) (A : FAt C σ h₀ h₁ O wr St i m' O' h') {b : Addr} (hb : b ∈ fp) : b ∉ O' := fun hm => (A.nw b hm).elim (F.fO b hb) fun h0 => (F.fa b hb).elim fun _ e => nos h0 e
theorem FAt.stay (F : FIt prog w C O h₀ h₁ k I fp wr P St) (A : FAt C σ h₀ h₁ O wr St i m' O' h') (hk : ∀ b o, b ∉ wr → h'.get? b = some o → h₂.get? b = some o) (b : Addr) (o : Obj) (e : h'.get? b = some o) (hs : Stab o) : h₂.get? b = some o := hk b o (fun hb => F.ns A.st hb e hs) e
theorem FAt.frame (K : Ok prog w hB mg mb C n) (F : FIt prog w C O h₀ h₁ k I fp wr P St) (A : FAt C σ h₀ h₁ O wr St i m' O' h') (hk : ∀ b o, b ∉ wr → h'.get? b = some o → h₂.get? b = some o) : StX C m' O' σ h₂ :=
 A.S.walked K (hs := h₂) hk (fun b hb => A.fpO F (F.W.sub b hb)) F.c0 fun b hb o e => F.ns A.st hb e
theorem FAt.rep (F : FIt prog w C O h₀ h₁ k I fp wr P St) (st0 : St 0 h₁) (A : FAt C σ h₀ h₁ O wr St i m' O' h') (hk : ∀ b o, b ∉ wr → h'.get? b = some o → h₂.get? b = some o) {v : Value} {d : D} (r : Rep O h₁ v d) : Rep O' h₂ v d :=
 r.moveS A.nw fun b o hb e hs => A.stay F hk b o (A.kp b o hb (fun hw => F.ns st0 hw e hs) e) hs
theorem FAt.next (F : FIt prog w C O h₀ h₁ k I fp wr P St) (A : FAt C σ h₀ h₁ O wr St i m' O' h') (st₂ : St (i + 1) h₂) (hk : ∀ b o, b ∉ wr → h'.get? b = some o → h₂.get? b = some o) (hk₃ : ∀ b o, b ∉ O' → h₂.get? b = some o → h₃.get? b = some o) (g₄ : Grow O' h₃ O₄ h₄) (S₄ : StX C m₄ O₄ σ₄ h₄) :
   FAt C σ₄ h₀ h₁ O wr St (i + 1) m₄ O₄ h₄ :=
 have hk' : ∀ b o, b ∉ O' → b ∉ wr → h'.get? b = some o → h₃.get? b = some o := fun b o hb hw e => hk₃ b o hb (hk b o hw e)
 {
   S := S₄
   st := F.W.frame (i + 1) h₂ h₄ st₂ fun b hb o e => have hb' := A.fpO F hb; g₄.keep b o hb' (hk₃ b o hb' e)
   g := A.g.step hk' F.wn g₄
   kp := fun b o hb hw e => have hb' : b ∉ O' := fun hm => (A.nw b hm).elim hb fun h0 => nos h0 e; g₄.keep b o hb' (hk' b o hb' hw (A.kp b o hb hw e))
   nw := fun a ha => (g₄.new a ha).elim (A.nw a) fun h0 => (Classical.em (a ∈ O)).imp id fun hm => none_of fun o e =>
     have ho : a ∉ O' := fun hx => (A.nw a hx).elim hm fun h0 => nos h0 e
     (Classical.em (a ∈ wr)).elim (fun hw => (F.itr (i + 1) h₂ st₂ a hw).elim fun o' x => nos h0 (hk₃ a o' ho x.1)) fun hw => nos h0 (hk' a o ho hw (A.kp a o hm hw e)) }
end
theorem hitr' {h₀ h₁ h₂ : Heap} {k i : Nat} {I : Addr} {fp wr : List Addr} {P : Nat → Value → Prop} {St : Nat → Heap → Prop} (F : FIt prog w C O h₀ h₁ k I fp wr P St) (st : St i h₂) (hI : I ∈ wr) : ∃ o, h₂.get? I = some o ∧ IsItr o := F.itr i h₂ st I hI
theorem list_at {α β : Type} {f : α → β} {xs : List α} {i : Nat} {d : β} (e : (xs.map f)[i]? = some d) : ∃ x, f x = d ∧ xs = xs.take i ++ x :: xs.drop (i + 1) ∧ xs.take (i + 1) = xs.take i ++ [x] := by
 rw [List.getElem?_map, Option.map_eq_some_iff] at e
 obtain ⟨x, hx, hf⟩ := e
 obtain ⟨hl, e⟩ := List.getElem?_eq_some_iff.mp hx
 exact ⟨x, hf, by rw [← e, ← List.drop_eq_getElem_cons hl]; exact (List.take_append_drop i xs).symm, by rw [List.take_add_one, hx]; rfl⟩
inductive FInv (C : Cfg) {α : Type} (inv : List α → Loc) (xs : List α) (N : Nat) (s : Shared) (h₁ : Heap) (O wr : List Addr) (St : Nat → Heap → Prop) : Nat → Shared → Prop
 | mk (i : Nat) (m' : Str → Option Value) (O' : List Addr) (h' : Heap) (tk : Nat) (htk : N ≤ tk) (hi : i ≤ xs.length) (A : FAt C (inv (xs.take i)) s.heap h₁ O wr St i m' O' h') : FInv C inv xs N s h₁ O wr St (xs.length - i) { s with heap := h', toks := tk }
theorem wp_for (K : Ok prog w hB mg mb C n) {α : Type} {tgt e : Expr} {body : List Stmt} {pos : Pos} (f : α → D) (xs : List α) (inv : List α → Loc) (st : List α → α → Loc) (hit : It prog w C σ e (xs.map f)) (h0 : Sub (inv []) σ)
   (asg : ∀ pre x post, xs = pre ++ x :: post → As prog w C (inv pre) tgt (f x) (st pre x))
   (turn : ∀ pre x post, xs = pre ++ x :: post → Wp prog w C (st pre x) body (LoopEnd prog w C (fun σ' => Sub (inv (pre ++ [x])) σ') rest Φ)) (fin : Wp prog w C (inv xs) rest Φ)
   (hfs : ∀ x, foldedSetIterable e C.env x = pure x := by intro _; rfl) : Wp prog w C σ (.For tgt e body [] pos :: rest) Φ := fun s m O Q E S q => by
 refine wpAny_execs_cons (wpAny_For (hs := hfs) (hit s m O _ E S fun I fp wr P St h₁ t₁ x₁ W st0 hI hfO hfa hwn hitr hP => ?_))
 rw [List.length_map] at W
 have F : FIt prog w C O s.heap h₁ xs.length I fp wr P St := ⟨W, hfO, fun b hb => (hfa b hb).imp fun _ x => x.1, hwn, hitr, fun b hb => none_of fun o e => nos (hwn b hb) (K.H.keep _ _ S.fr b o e)⟩
 refine codeAny_forLoop_any (FInv C inv xs 0 s h₁ O wr St) ?_ xs.length (.mk 0 m O h₁ t₁ (Nat.zero_le _) (Nat.zero_le _) ⟨(S.ext' K x₁).sub' h0, st0, Grow.ext x₁, fun _ _ _ _ e => e, fun _ h => .inl h⟩)
 clear hit W hfO hfa hwn hitr h0 x₁ S
 intro k s' J
 cases J with | mk i m' O' h' tk _ hi A
 cases Nat.lt_or_eq_of_le hi with
 | inl hlt =>
   refine F.W.item i _ _ _ hlt A.st fun v h₂ t₂ hPv st₂ hk₂ => ?_
   refine (hP i v hPv).elim fun d hd => (list_at hd.1).elim fun x hx => ?_
   have hr := A.rep F st0 hk₂ hd.2
   refine (hitr' F st₂ hI).elim fun oI hoI => letGo_skip hoI.1 hoI.2 (asg _ x _ hx.2.1 _ m' O' v _ _ (A.frame K F hk₂) (hx.1 ▸ hr) fun m₃ h₃ t₃ S₃ hk₃ => ?_)
   refine turn _ x _ hx.2.1 _ m₃ O' _ _ S₃ fun fl φ σ' h₄ t₄ m₄ O₄ hp hfl S₄ g₄ => ?_
   have A₄ := A.next F st₂ hk₂ hk₃ g₄ S₄
   have next : Sub (inv (xs.take i ++ [x])) σ' → ∃ k, k < xs.length - i ∧ FInv C inv xs 0 s h₁ O wr St k { s with heap := h₄, toks := t₄ } := fun hs => ⟨_, Nat.sub_lt_sub_left hlt (Nat.lt_succ_self i), .mk (i + 1) m₄ O₄ h₄ t₄ (Nat.zero_le _) hlt { A₄ with S := S₄.sub' (hx.2.2 ▸ hs) }⟩
   cases fl, φ, hfl using FlR.elim with
   | next => exact next hp
   | brk => exact Wp.fin (s := s) hp S₄ q A₄.g
   | cont => exact next hp
   | ret v d hr => exact q (.ret v) (.ret d) σ' h₄ t₄ m₄ O₄ hp hr S₄ A₄.g
 | inr hin =>
   refine F.W.done _ _ _ (hin ▸ A.st) fun h₂ t₂ hk₂ => wpAny_execs_nil ?_
   exact Wp.fin (s := s) fin ((show xs.take i = xs from hin ▸ List.take_length) ▸ A.frame K F hk₂) q (A.g.step (fun b o _ hw => hk₂ b o hw) F.wn (Grow.refl _ _))
end
end
section
noncomputable def plainCfg (A : Around) (fd : FuncData) (L a : Addr) (h₀ : Heap) (O₀ : List Addr) : Cfg where
 A := A
 env := callEnv fd L a
 h₀ := h₀
 O₀ := O₀
 fp := [L]
 FR := fun m h => Fr h₀ L h m
 loc := fun x => decide ((callEnv fd L a).kindOf x = some .local)
theorem plainCfg_ok {prog : Program} {w : World} {A : Around} {fd : FuncData} {L a : Addr} {h₀ : Heap} {O₀ : List Addr} (hL : h₀.objs.size ≤ L) (hk : fd.scope.kind = .function) (hO : ∀ a ∈ O₀, ∃ o, h₀.get? a = some o) :
   CfgOk prog w (plainCfg A fd L a h₀ O₀) where
 keep := fun m h F => F.keep
 alive := fun m h F b hb => by
   rw [List.mem_singleton.mp hb]
   exact F.ns.imp fun o x => x.elim fun _ x => x.elim fun _ x => x.1
 new := fun b hb => by
   rw [List.mem_singleton.mp hb]
   exact none_of fun o e => Nat.lt_irrefl _ (Nat.lt_of_lt_of_le (Heap.lt_size e) hL)
 old := hO
 move := fun m h h' F hk hx => ⟨F.ns.at' fun o e => hk L (List.mem_singleton.mpr rfl) o e, hx, F.above⟩
 load := fun s m x v Q E F hl hv q => wpAny_loadName_local hk (of_decide_eq_true hl) F.ns hv q
 store := fun s m x v Q E F hl q => by
   refine wpAny_storeName_local (of_decide_eq_true hl) F.ns (fun h' hn hs => q h' _ (F.set hn hs) fun b o hb e => (hs.2 b fun q => hb (q ▸ List.mem_singleton.mpr rfl)).trans e) ?_
   show (fd.scope.kind == .class || (fd.scope.kind == .module && L != fd.globals)) = false
   rw [hk]; rfl
inductive Binds (O : List Addr) (h : Heap) : List (Str × Value) → Loc → Prop
 | nil : Binds O h [] []
 | cons {x : Str} {v : Value} {d : D} {bs : List (Str × Value)} {σ : Loc} : Rep O h v d → Binds O h bs σ → Binds O h ((x, v) :: bs) ((x, .v d) :: σ)
theorem Binds.append {O : List Addr} {h : Heap} {b c : List (Str × Value)} {σ τ : Loc} (r : Binds O h b σ) (q : Binds O h c τ) : Binds O h (b ++ c) (σ ++ τ) := by
 induction r with
 | nil => exact q
 | cons a _ ih => exact .cons a ih
theorem Binds.reverse {O : List Addr} {h : Heap} {b : List (Str × Value)} {σ : Loc} (r : Binds O h b σ) : Binds O h b.reverse σ.reverse := by
 induction r with
 | nil => exact .nil
 | cons a _ ih => rw [List.reverse_cons, List.reverse_cons]; exact ih.append (.cons a .nil)
theorem Binds.find {O : List Addr} {h : Heap} {x : Str} {e : Ent} {b : List (Str × Value)} {σ : Loc} (r : Binds O h b σ) (q : σ.lookup x = some e) : ∃ v d, b.lookup x = some v ∧ e = .v d ∧ Rep O h v d := by
 induction r with
 | nil => cases q
 | @cons y v d _ _ a _ ih =>
   rcases lookup_cases q with h | h
   · exact ⟨v, d, by rw [h.1, List.lookup_cons_self], h.2.symm, a⟩
   · rw [List.lookup_cons, beq_eq_false_iff_ne.mpr h.1]; exact ih h.2
theorem Binds.mem {O : List Addr} {h : Heap} {b : List (Str × Value)} {σ : Loc} (r : Binds O h b σ) {x : Str × Value} (q : x ∈ b) : ∃ e, (x.1, e) ∈ σ := by
 induction r with
 | nil => cases q
 | cons a _ ih => exact (List.mem_cons.mp q).elim (fun q => ⟨_, by rw [q]; exact .head _⟩) fun q => (ih q).imp fun _ => .tail _
theorem Binds.zip {O : List Addr} {h : Heap} {names : List Str} {vs : List Value} {ds : List D} (e : names.length = ds.length) (r : Reps O h vs ds) : Binds O h (names.zip vs) (names.zip (ds.map .v)) :=
 r.ind (R := fun vs ds => ∀ names : List Str, names.length = ds.length → Binds O h (names.zip vs) (names.zip (ds.map .v))) (fun names _ => by rw [List.zip_nil_right, List.map_nil, List.zip_nil_right]; exact .nil)
   (fun v d vs ds a _ ih names => List.casesOn (motive := fun names => List.length names = (d :: ds).length → Binds O h (names.zip (v :: vs)) (names.zip ((d :: ds).map .v))) names (fun e => nomatch e) fun x names e => .cons a (ih names (Nat.succ.inj e))) names e
structure IsFn (hB : Heap) (fa : Addr) (fd : FuncData) (body : List Stmt) : Prop where
 get : ∃ o, hB.get? fa = some o ∧ o.data = .func fd
 body : fd.body = .stmts body
 code : hB.CodeRec fd.code fd.qualname
 globals : fd.globals = mainGlobals
 builtins : fd.builtins = builtinsNs
 kind : fd.scope.kind = .function
 nogen : fd.scope.isGenerator = false
 noco : fd.scope.isCoroutine = false
 nocell : ∀ x ∈ fd.scope.names, x.2 ≠ .cell
def RetIs (d : D) (φ : Fl) (_ : Loc) : Prop :=
 match φ with
 | .ret d' => d' = d
 | .next => d = .none
 | _ => False
section
variable {prog : Program} {w : World} {hB : Heap} {mg mb : Str → Option Value}
theorem frame_ok (B : Base hB mg mb) {fa : Addr} {fd : FuncData} {body : List Stmt} (H : IsFn hB fa fd body) {A : Around} {h : Heap} {O : List Addr} {n : Nat} (R : Room A (n + 1)) (X : Ext hB h) (Ow : Own hB O h) :
   Ok prog w hB mg mb (plainCfg (A.deeper (callEnv fd h.objs.size fa)) fd h.objs.size fa h O) n where
 H := plainCfg_ok (Nat.le_refl _) H.kind Ow.alive
 G := ⟨X, H.globals, H.builtins, H.kind⟩
 O₀ := Ow
 B := B
 R := R.deeper
theorem frame_st {fa : Addr} {fd : FuncData} {A : Around} {h h₁ : Heap} {O : List Addr} {binds : List (Str × Value)} {σ₀ : Loc} (Ow : Own hB O h) (hB' : Binds O h binds σ₀) (hns : h₁.Ns h.objs.size (fun x => binds.reverse.lookup x)) (hx : Ext h h₁) :
   StX (plainCfg A fd h.objs.size fa h O) (fun x => binds.reverse.lookup x) (h.objs.size :: O) σ₀.reverse h₁ :=
 have hL : h.get? h.objs.size = none := get_size _
 {
   fr := ⟨hns, hx, Nat.le_refl _⟩
   sub := fun a ha => .tail _ ha
   fin := fun a ha => List.mem_singleton.mp ha ▸ .head _
   alive := fun a ha => (List.mem_cons.mp ha).elim (fun e => e ▸ hns.imp fun o x => x.elim fun _ x => x.elim fun _ x => x.1) fun ha => (Ow.alive a ha).imp fun o e => hx _ _ e
   new := fun a ha => (List.mem_cons.mp ha).elim (fun e => .inr (e ▸ hL)) .inl
   ents := fun x e he => (hB'.reverse.find he).imp fun v y => y.elim fun d z => ⟨z.1, z.2.1 ▸ Rep.move (fun a ha => (List.mem_cons.mp ha).elim (fun e => .inr (e ▸ hL)) .inl) (fun b o _ e => hx b o e) z.2.2⟩
   apart := fun x y e e' a _ he _ h1 => (hB'.reverse.find he).elim fun v y => y.elim fun d z => Bool.noConfusion ((show Ent.isOwn (.v d) = true from z.2.1 ▸ h1)) }
theorem ret_is {O : List Addr} {h : Heap} {f : Flow} {φ : Fl} {d : D} {σ : Loc} (hf : FlR O h f φ) (hp : RetIs d φ σ) : Rep O h (match (motive := Flow → Value) f with | .ret v => v | _ => .none) d := by
 cases f, φ, hf using FlR.elim with
 | next => exact (show d = .none from hp) ▸ .none
 | brk => cases hp
 | cont => cases hp
 | ret v d' r => exact (show d' = d from hp) ▸ r
theorem fn_of (B : Base hB mg mb) {fa : Addr} {fd : FuncData} {body : List Stmt} (H : IsFn hB fa fd body) {names : List Str} {args : List D} {d : D} {n : Nat}
   (hlen : names.length = args.length)
   (hbind : ∀ (s : Shared) (vals : List Value), Ext hB s.heap → vals.length = names.length → ∃ binds, BindsTo s fd ⟨vals, []⟩ binds ∧ ∀ O, Own hB O s.heap → Reps O s.heap vals args → Binds O s.heap binds σ₀)
   (hloc : ∀ x ∈ σ₀, fd.scope.names.lookup x.1 = some .local)
   (hbody : ∀ A L h₀ O₀, Ok prog w hB mg mb (plainCfg A fd L fa h₀ O₀) n → Wp prog w (plainCfg A fd L fa h₀ O₀) σ₀.reverse body (RetIs d)) : FnV prog w hB (.ref fa) args d (n + 1) := by
 intro A s O vals Q E R X Ow hr q
 refine H.get.elim fun o ho => (hbind s vals X (hr.length.trans hlen.symm)).elim fun binds hb => ?_
 have hB' := hb.2 O Ow hr
 refine wpAny_call (codeAny_call_def R.call (X _ _ ho.1) ho.2 (B.nolimit.keeps X) (H.code.keeps X) H.body hb.1 H.nocell (fun x hx => (hB'.mem hx).elim fun _ he => hloc _ he) (fun h₁ hns hx => ?_) H.noco H.nogen H.kind)
 exact hbody _ _ _ _ (frame_ok B H R X Ow) _ _ _ _ _ (frame_st Ow hB' hns hx) fun f φ σ' h' tk m' O' hp hf S' g => q _ h' tk S'.fr.keep (ret_is hf hp)
theorem binds_plain {fd : FuncData} {names : List Str} {args : List D} (hlen : names.length = args.length) (hb : ∀ vals : List Value, vals.length = names.length → bindArgs fd ⟨vals, []⟩ = pure (names.zip vals)) :
   ∀ (s : Shared) (vals : List Value), Ext hB s.heap → vals.length = names.length → ∃ binds, BindsTo s fd ⟨vals, []⟩ binds ∧ ∀ O, Own hB O s.heap → Reps O s.heap vals args → Binds O s.heap binds (names.zip (args.map .v)) :=
 fun s vals _ hv => ⟨_, BindsTo.of_eq (hb vals hv), fun _ _ hr => Binds.zip hlen hr⟩
variable {C : Cfg} {n : Nat} {σ : Loc} {r : Bool}
theorem ev_call (K : Ok prog w hB mg mb C n) {f : Str} {fp pos : Pos} {fa : Addr} {fd : FuncData} {body : List Stmt} {e : Expr} {es : List Expr} {ds : List D} {d : D} {k : Nat} (hk : C.env.kindOf f = some .globalImplicit) (hm : mg f = some (.ref fa)) (H : IsFn hB fa fd body)
   (h1 : EvA prog w C r σ pos (e :: es) ds) (h2 : FnV prog w hB (.ref fa) ds d k) (hkn : k ≤ n := by lia)
   (hs : ∀ env, starEach (e :: es) env = (false, eval e env) :: starEach es env := by intro _; rfl) (hd : (f == ("__debug__" : Str)) = false := by decide)
   (hc : ∀ env, eval (.Call (.Name f fp) (e :: es) [] pos) env = (do callWith pos (← eval (.Name f fp) env) [] (backTo pos (starEach (e :: es) env)) (backToKw pos (keywordEach [] env))) := by intro _; rfl) :
   Ev prog w C r σ (.Call (.Name f fp) (e :: es) [] pos) d := fun s m O Q E S q => by
 obtain ⟨o, ho, hdata⟩ := H.get
 refine Call_ (load_global K S hk hm ?_ hd) (hc _)
 refine callWith_def_at (S.base K _ _ ho) hdata (h1 s m O _ E S fun vs h' tk x rs => ⟨x _ _ (S.base K _ _ ho), ?_⟩) (hs _)
 exact h2 _ _ (OR C r O) vs Q E (K.R.le hkn) ((S.base K).trans x) ((S.ext' K x).own' K) rs fun v h'' tk' x' hr => q v h'' tk' (x.trans x') hr
end
end
section
theorem updList {h : Heap} {a : Addr} {vs ws : List Value} {n : Nat} {f : Array Value → Array Value} (ho : h.get? a = some { cls := .type "list", data := .seq vs.toArray n }) (hf : f vs.toArray = ws.toArray) :
   (h.update a (Obj.mapSeq f)).PlainList a ws.toArray := by
 refine ⟨if ws.toArray.size == vs.toArray.size then n else n + 1, ?_⟩
 have e : Obj.mapSeq f { cls := .type "list", data := .seq vs.toArray n } = { cls := .type "list", data := .seq ws.toArray (if ws.toArray.size == vs.toArray.size then n else n + 1) } := by
   show ({ cls := .type "list", dict := none, data := .seq (f vs.toArray) (if (f vs.toArray).size == vs.toArray.size then n else n + 1), slots := #[] } : Obj) = _
   rw [hf]
 rw [Heap.get?_update_self _ ho (by rw [e]; rfl), e]
section
variable {prog : Program} {w : World} {hB : Heap} {mg mb : Str → Option Value} {C : Cfg} {n : Nat} {σ σ' σ'' : Loc} {m : Str → Option Value} {O : List Addr} {h h' : Heap} {r : Bool} {Φ Ψ : Fl → Loc → Prop} {rest : List Stmt}
theorem wp_newlist (K : Ok prog w hB mg mb C n) {x : Str} {p lp pos : Pos} (h2 : Wp prog w C ((x, .own []) :: σ) rest Φ) (hl : C.loc x = true) (hn : noApp x σ = true) : Wp prog w C σ (.Assign [.Name x p] (.List [] lp) pos :: rest) Φ := fun s m O Q E S q => by
 refine wpAny_execs_cons (wpAny_Assign_Name (hs := rfl) (List_ (args_nil (wpAny_newObj_type ?_ (by show ([] : List Value).toArray.size ≤ sizeLine; decide)))))
 have ha : s.heap.get? s.heap.objs.size = none := get_size _
 have hx : Ext s.heap (s.heap.push { cls := .type "list", data := .seq ([] : List Value).toArray }) := ext_push _ _
 have hp := isList_push s.heap []
 refine K.H.store _ m x _ _ E (K.H.move m _ _ S.fr (fun b hb o e => hx b o e) ((K.H.keep _ _ S.fr).trans hx)) hl fun h' tk hF hk => ?_
 have hfp : s.heap.objs.size ∉ C.fp := fun hm => by obtain ⟨o, q⟩ := K.H.alive _ _ S.fr _ hm; rw [ha] at q; cases q
 have hO0 : s.heap.objs.size ∉ C.O₀ := fun hm => by obtain ⟨o, q⟩ := S.alive _ (S.sub _ hm); rw [ha] at q; cases q
 have S' : StX C (upd m x (.ref s.heap.objs.size)) (s.heap.objs.size :: O) ((x, .own []) :: σ) h' := S.setOwn K hx ha (let ⟨k, e⟩ := hp; ⟨_, e⟩) rfl hF hk
   ⟨_, [], rfl, .head _, hO0, hfp, hp.at fun o e => hk _ _ hfp e, .nil⟩ hn
 refine h2 _ _ _ Q E S' fun f φ σ' h3 tk3 m3 O3 hp' hf S3 g => q f φ σ' h3 tk3 m3 O3 hp' hf S3 (Grow.trans ⟨fun b o hb e => ?_, fun b hb => .tail _ hb, fun b hb => ?_⟩ g)
 · exact hk b o (fun hm => hb (S.fin b hm)) (hx b o e)
 · exact (List.mem_cons.mp hb).elim (fun e => .inr (e ▸ ha)) .inl
theorem wp_ownMeth (K : Ok prog w hB mg mb C n) {pl : Env → Sem Bool} {x name : Str} {id : String} {np ap cp pos : Pos} {es : List Expr} {e : Expr} {ds : List D} {l l' : List D} (hx : σ.lookup x = some (.own l)) (hl : C.loc x = true)
   (slot : Slot "list" name id) (hty : typeOf (.builtin id) = pure (.type "method_descriptor"))
   (h1 : EvA prog w C false σ cp (e :: es) ds)
   (hc : ∀ (A : Around) (s : Shared) (O O' : List Addr) (a : Addr) (vs args : List Value) (Q : Value → Shared → Prop) (E : Value → Shared → Prop), Room A 0 → s.heap.PlainList a vs.toArray → Reps O s.heap vs l → Reps O s.heap args ds →
     (∀ h' ws, h'.PlainList a ws.toArray → Heap.SameBut a s.heap h' → Reps O s.heap ws l' → Q .none { s with heap := h' }) → wpAny (model prog w) A (call (.builtin id) (.ref a :: args)) Q E s)
   (h2 : Wp prog w C ((x, .own l') :: σ) rest Φ) (hd : (x == ("__debug__" : Str)) = false := by decide) (hs : ∀ env, starEach (e :: es) env = (false, eval e env) :: starEach es env := by intro _; rfl)
   (hpl : ∀ env, (List.any (backTo cp (starEach es env)) fun x => x.1) = false := by intro _; rfl)
   (hi : interactive C.env = false := by rfl)
   (hm : ∀ env, eval (.Call (.Attribute (.Name x np) name ap) (e :: es) [] cp) env = (do let ov ← eval (.Name x np) env; standAt ap.atName; let (f, first) ← holding [ov] (getMethod ov name (pl env)); callWith cp f first (backTo cp (starEach (e :: es) env)) []) := by intro _; rfl) :
   Wp prog w C σ (.Expr (.Call (.Attribute (.Name x np) name ap) (e :: es) [] cp) pos :: rest) Φ := fun s m O Q E S q => by
 obtain ⟨v, hv, a, vs, rfl, e1, e2, e3, e4, e5⟩ := S.ents x _ hx
 refine wpAny_execs_cons (wpAny_Expr (hi := hi) (hs := rfl) ?_)
 refine MethodCall_ (pl := pl C.env) ?_ (hm _)
 refine wpAny_Name (K.H.load s m x _ _ _ S.fr hl hv ?_) hd
 refine getMethod_list_of slot hty e4.isList (let ⟨k, ek⟩ := e4; ⟨_, ek, rfl⟩) ?_
 refine callWith_method1 (h1 s m O _ E S fun args h₁ t₁ x₁ ra => ?_) (hs _) (hpl _)
 have S₁ := S.ext' K x₁
 refine hc _ _ O O a vs args _ E (K.R.le (Nat.zero_le _)) (e4.at fun o => x₁ _ o) (e5.ext x₁) ra fun h₂ ws hp hsb hr => ?_
 have hgrow : ∀ b o, b ∉ O → h₁.get? b = some o → h₂.get? b = some o := fun b o hb e => (hsb.2 b fun q => hb (q ▸ e1)).trans e
 have S₂ : StX C m O ((x, .own l') :: σ) h₂ := S₁.change K hx rfl hv e1 e3 e2 (fun b o hb e => (hsb.2 b hb).trans e) (let ⟨k, ek⟩ := hp; ⟨_, ek⟩) rfl
   ⟨a, ws, rfl, e1, e2, e3, hp, hr.move (fun _ h => .inl h) hgrow⟩
 exact h2 _ m O Q E S₂ fun f φ σ' h3 tk3 m3 O3 hp' hf S3 g => q f φ σ' h3 tk3 m3 O3 hp' hf S3 (((Grow.ext x₁).trans ⟨hgrow, fun _ h => h, fun _ h => .inl h⟩).trans g)
theorem wp_append (K : Ok prog w hB mg mb C n) {pl : Env → Sem Bool} {x : Str} {np ap cp pos : Pos} {e : Expr} {d : D} {l : List D} (hx : σ.lookup x = some (.own l)) (hl : C.loc x = true) (h1 : Ev prog w C false σ e d) (hsz : l.length ≤ sizeLine)
   (h2 : Wp prog w C ((x, .own (l ++ [d])) :: σ) rest Φ) (hd : (x == ("__debug__" : Str)) = false := by decide) (hs : ∀ env, starEach [e] env = (false, eval e env) :: starEach [] env := by intro _; rfl)
   (hi : interactive C.env = false := by rfl)
   (hm : ∀ env, eval (.Call (.Attribute (.Name x np) "append" ap) [e] [] cp) env = (do let ov ← eval (.Name x np) env; standAt ap.atName; let (f, first) ← holding [ov] (getMethod ov "append" (pl env)); callWith cp f first (backTo cp (starEach [e] env)) []) := by intro _; rfl) :
   Wp prog w C σ (.Expr (.Call (.Attribute (.Name x np) "append" ap) [e] [] cp) pos :: rest) Φ :=
 wp_ownMeth K hx hl slot_list_append type_list_append (evA_cons K h1 evA_nil hs) (fun A s O O' a vs args Q E R hp hr ha q => by
   cases ha with
   | cons hv hn =>
     cases hn
     refine wpAny_list_append_plain hp (fun h' hp' hsb => q h' (vs ++ [_]) (by simpa using hp') hsb (hr.append (.cons hv .nil))) ?_
     rw [List.size_toArray, hr.length]; exact hsz) h2 hd hs (fun _ => rfl) hi hm
theorem wp_extend (K : Ok prog w hB mg mb C n) {pl : Env → Sem Bool} {x : Str} {np ap cp pos : Pos} {e : Expr} {l l₂ : List D} (hx : σ.lookup x = some (.own l)) (hl : C.loc x = true) (h1 : Ev prog w C false σ e (.lst l₂)) (hsz : l.length + l₂.length ≤ sizeLine)
   (h2 : Wp prog w C ((x, .own (l ++ l₂)) :: σ) rest Φ) (hd : (x == ("__debug__" : Str)) = false := by decide) (hs : ∀ env, starEach [e] env = (false, eval e env) :: starEach [] env := by intro _; rfl)
   (hi : interactive C.env = false := by rfl)
   (hm : ∀ env, eval (.Call (.Attribute (.Name x np) "extend" ap) [e] [] cp) env = (do let ov ← eval (.Name x np) env; standAt ap.atName; let (f, first) ← holding [ov] (getMethod ov "extend" (pl env)); callWith cp f first (backTo cp (starEach [e] env)) []) := by intro _; rfl) :
   Wp prog w C σ (.Expr (.Call (.Attribute (.Name x np) "extend" ap) [e] [] cp) pos :: rest) Φ :=
 wp_ownMeth K hx hl PySem.F.slot_list_extend PySem.F.type_list_extend (evA_cons K h1 evA_nil hs) (fun A s O O' a vs args Q E R hp hr ha q => by
   cases ha with
   | cons hv hn =>
     cases hn
     cases hv with
     | @lst b ws _ hb hpb hrb =>
       obtain ⟨n1, ho⟩ := hp
       obtain ⟨n2, hob⟩ := hpb
       have hsz' : vs.toArray.size + ws.toArray.size ≤ sizeLine := by rw [List.size_toArray, List.size_toArray, hr.length, hrb.length]; exact hsz
       refine call_meets PySem.F.slot_list_extend ⟨_, ho, rfl⟩ PySem.F.entry_list_extend (PySem.F.args_list_extend_2 _ _) (AutoSeq1.list_extend_list_list_0 a vs.toArray n1 b ws.toArray n2 (extend_door hsz') (Nat.le_trans (Nat.le_add_right _ _) hsz')) ⟨ho, hob, ?_⟩
       exact q _ (vs ++ ws) (updList ho (by simp)) (Heap.SameBut.update ..) (hr.append hrb)) h2 hd hs (fun _ => rfl) hi hm
theorem wp_insert (K : Ok prog w hB mg mb C n) {pl : Env → Sem Bool} {x : Str} {np ap cp pos : Pos} {e₁ e₂ : Expr} {d : D} {k : Int} {l : List D} (hx : σ.lookup x = some (.own l)) (hl : C.loc x = true) (h1 : Ev prog w C false σ e₁ (.int k)) (h3 : Ev prog w C false σ e₂ d)
   (hk0 : 0 ≤ k) (hk1 : k ≤ l.length) (hsz : l.length ≤ sizeLine)
   (h2 : Wp prog w C ((x, .own (l.take k.toNat ++ d :: l.drop k.toNat)) :: σ) rest Φ) (hd : (x == ("__debug__" : Str)) = false := by decide) (hs : ∀ env, starEach [e₁, e₂] env = (false, eval e₁ env) :: starEach [e₂] env := by intro _; rfl) (hs2 : ∀ env, starEach [e₂] env = (false, eval e₂ env) :: starEach [] env := by intro _; rfl)
   (hpl : ∀ env, (List.any (backTo cp (starEach [e₂] env)) fun x => x.1) = false := by intro _; rfl)
   (hi : interactive C.env = false := by rfl)
   (hm : ∀ env, eval (.Call (.Attribute (.Name x np) "insert" ap) [e₁, e₂] [] cp) env = (do let ov ← eval (.Name x np) env; standAt ap.atName; let (f, first) ← holding [ov] (getMethod ov "insert" (pl env)); callWith cp f first (backTo cp (starEach [e₁, e₂] env)) []) := by intro _; rfl) :
   Wp prog w C σ (.Expr (.Call (.Attribute (.Name x np) "insert" ap) [e₁, e₂] [] cp) pos :: rest) Φ :=
 wp_ownMeth K hx hl PySem.F.slot_list_insert PySem.F.type_list_insert (evA_cons K h1 (evA_cons K h3 evA_nil hs2) hs) (fun A s O O' a vs args Q E R hp hr ha q => by
   cases ha with
   | cons hv hn =>
     cases hn with
     | @cons y _ _ _ hy hn =>
       cases hn
       cases hv with
       | @int _ u =>
         obtain ⟨n1, ho⟩ := hp
         have hlen := hr.length
         have hfit : ¬(!Builtin.List.listFitsIndex k) = true := by
           rw [sizeLine_eq] at hsz
           simp only [Builtin.List.listFitsIndex]
           simp; exact ar26 hk0 hk1 hsz
         refine call_meets PySem.F.slot_list_insert ⟨_, ho, rfl⟩ PySem.F.entry_list_insert (PySem.F.args_list_insert_3 _ _ _) (AutoListH.list_insert_list_int_val_1 a vs.toArray n1 k u y hfit (by rw [List.size_toArray, hlen]; exact hsz)) ⟨ho, ?_⟩
         refine q _ (vs.take k.toNat ++ y :: vs.drop k.toNat) (updList ho ?_) (Heap.SameBut.update ..) ((hr.take _).append (.cons hy (hr.drop _)))
         have hkk : (if k < 0 then (k + ((vs.toArray.size : Nat) : Int)).toNat else min k.toNat vs.toArray.size) = k.toNat := by
           rw [if_neg (by exact ar15 hk0), List.size_toArray, hlen]; lia
         dsimp only
         rw [hkk]
         simp
         exact List.take_of_length_le (by simp)) h2 hd hs hpl hi hm
end
end
section
noncomputable def slc {α : Type} (l : List α) (lo hi : Option Int) : List α := (l.drop (lo.elim 0 (clipAt l.length))).take (hi.elim l.length (clipAt l.length) - lo.elim 0 (clipAt l.length))
theorem strIdx_eq (lo hi : Option Int) (n : Nat) : Builtin.Str.strSliceIndices lo hi 1 n = (List.range (hi.elim n (clipAt n) - lo.elim 0 (clipAt n))).map (lo.elim 0 (clipAt n) + ·) := by
 have e : Builtin.Str.strSliceIndices lo hi 1 n = sliceRange (sliceBounds lo hi none n).1 (sliceBounds lo hi none n).2.1 1 := by
   cases lo <;> cases hi <;> rfl
 rw [e, sliceBounds_plain]
 exact sliceRange_one _ _
theorem strPick_eq (l : List Nat) (lo hi : Option Int) : (Builtin.Str.strSliceIndices lo hi 1 (Str.length ⟨l.toArray⟩)).filterMap ((Str.mk l.toArray).cps[·]?) = slc l lo hi := by
 rw [strIdx_eq, pick_run]
 simp [slc, Str.length]
theorem slc_length_le {α : Type} (l : List α) (lo hi : Option Int) : (slc l lo hi).length ≤ l.length := by
 unfold slc; rw [List.length_take, List.length_drop]; exact ar489
theorem Reps.slc {O : List Addr} {h : Heap} {vs : List Value} {ds : List D} (r : Reps O h vs ds) (lo hi : Option Int) : Reps O h (Mine.slc vs lo hi) (Mine.slc ds lo hi) := by
 unfold Mine.slc
 rw [r.length]
 exact (r.drop _).take _
section
variable {prog : Program} {w : World} {hB : Heap} {mg mb : Str → Option Value} {C : Cfg} {n : Nat} {σ σ' σ'' : Loc} {m : Str → Option Value} {O : List Addr} {h h' : Heap} {r : Bool} {Φ Ψ : Fl → Loc → Prop} {rest : List Stmt}
theorem subscripted_ops (slice : Expr) (o i : Value) : ∃ ops, subscripted slice false o i = operate ops (getItem o i) := by
 unfold subscripted
 split
 · exact ⟨_, rfl⟩
 · contradiction
 · exact ⟨_, rfl⟩
theorem tail_of {A : Around} {E : Value → Shared → Prop} {s : Shared} {value slice : Expr} {o i : Value} {T id : String} {Q : Value → Shared → Prop} (hT : s.TypeIs o T)
   (hl : typeLookup (.type T) "__getitem__" = pure (some (.builtin id))) (h : wpAny (model prog w) A (getItem o i) Q E s) : wpAny (model prog w) A (subscriptTail value slice o i) Q E s := by
 obtain ⟨ops, hs⟩ := subscripted_ops slice o i
 exact tail_any hT hl h hs
noncomputable def SubOk : D → Bool
 | .str _ | .bytes _ | .lst _ | .tup _ => true
 | _ => false
theorem subType {O : List Addr} {s : Shared} {v : Value} {d : D} (hr : Rep O s.heap v d) (h : SubOk d = true) : ∃ T id, s.TypeIs v T ∧ typeLookup (.type T) "__getitem__" = pure (some (.builtin id)) := by
 cases hr with
 | str => exact ⟨"str", _, typeIs_str _ _ _, PySem.F.slot_str_getitem.lookup⟩
 | bytes => exact ⟨"bytes", _, typeIs_bytes _ _ _, FB.slot_bytes_getitem.lookup⟩
 | tup _ ht _ => exact ⟨"tuple", _, ht.typeIs, PySem.F.slot_tuple_getitem.lookup⟩
 | lst _ ht _ => exact ⟨"list", _, ht.isList.typeIs, slot_list_getitem.lookup⟩
 | _ => cases h
theorem ev_sub (K : Ok prog w hB mg mb C n) {e i : Expr} {pos} {de di d : D} (h1 : Ev prog w C r σ e de) (h2 : Ev prog w C r σ i di) (h3 : Op2 prog w hB getItem de di d) (hok : SubOk de = true := by rfl) : Ev prog w C r σ (.Subscript e i pos) d := fun s m O Q E S q =>
 Subscript_ (h1.then K S fun a h₁ t₁ x₁ S₁ ra => h2.then K S₁ fun b h₂ t₂ x₂ S₂ rb => by
   have ra' := ra.ext x₂
   obtain ⟨T, id, hT, hl⟩ := subType (s := { s with heap := h₂, toks := t₂ }) ra' hok
   exact tail_of hT hl (h3 _ _ (OR C r O) a b _ _ (K.R.le (Nat.zero_le _)) (S₂.base K) (S₂.own' K) ra' rb fun v h' tk x hr => q v h' tk ((x₁.trans x₂).trans x) hr))
def EvP (prog : Program) (w : World) (C : Cfg) (σ : Loc) (e : Option Expr) (i : Option Int) : Prop :=
 ∀ (s : Shared) m O (Q : Value → Shared → Prop) (E : Value → Shared → Prop), StX C m O σ s.heap →
   (∀ v h' tk, Ext s.heap h' → IsPart v i → Q v { s with heap := h', toks := tk }) → wpAny (model prog w) C.A (evalPart e C.env) Q E s
theorem evP_none : EvP prog w C σ none none := fun s m O Q E S q => evalPart_none_step (q _ _ _ (Ext.refl _) .none)
theorem evP_some (K : Ok prog w hB mg mb C n) {e : Expr} {i : Int} (h1 : Ev prog w C true σ e (.int i)) : EvP prog w C σ (some e) (some i) := fun s m O Q E S q =>
 evalPart_some_step (h1.then K S fun v h' tk x S' hr => by cases hr; exact q _ h' tk x (.int _ _))
def OpSl (prog : Program) (w : World) (hB : Heap) (lo hi : Option Int) (de d : D) : Prop :=
 ∀ (A : Around) (s : Shared) (O : List Addr) (a : Value) (sl : Addr) (vl vu : Value) (Q : Value → Shared → Prop) (E : Value → Shared → Prop), Room A 0 → Ext hB s.heap → Own hB O s.heap → Rep O s.heap a de → s.heap.IsSliceOf sl vl vu .none → IsPart vl lo → IsPart vu hi →
   (∀ v h' tk, Ext s.heap h' → Rep O h' v d → Q v { s with heap := h', toks := tk }) → wpAny (model prog w) A (getItem a (.ref sl)) Q E s
theorem ev_slice (K : Ok prog w hB mg mb C n) {e : Expr} {lo hi : Option Expr} {p pos} {de d : D} {i j : Option Int} (h1 : Ev prog w C r σ e de) (hl : EvP prog w C σ lo i) (hu : EvP prog w C σ hi j) (h3 : OpSl prog w hB i j de d) (hok : SubOk de = true := by rfl) :
   Ev prog w C r σ (.Subscript e (.Slice lo hi none p) pos) d := fun s m O Q E S q =>
 Subscript_ (h1.then K S fun a h₁ t₁ x₁ S₁ ra => wpAny_Slice (hl _ m O _ E S₁ fun vl h₂ t₂ x₂ pl => hu _ m O _ E (S₁.ext' K x₂) fun vu h₃ t₃ x₃ pu => evalPart_none_step (by
   have hp := ext_push h₃ { cls := .type "slice", data := .fields #[vl, vu, .none] }
   have ra' := ra.ext ((x₂.trans x₃).trans hp)
   have S₃ := S₁.ext' K ((x₂.trans x₃).trans hp)
   obtain ⟨T, id, hT, hlk⟩ := subType (s := { s with heap := h₃.push { cls := .type "slice", data := .fields #[vl, vu, .none] }, toks := t₃ }) ra' hok
   exact tail_of hT hlk (h3 _ _ (OR C r O) a _ vl vu _ _ (K.R.le (Nat.zero_le _)) (S₃.base K) (S₃.own' K) ra' (Heap.IsSliceOf.new ..) pl pu fun v h' tk x hr => q v h' tk ((x₁.trans ((x₂.trans x₃).trans hp)).trans x) hr))))
theorem opSl_str {l : List Nat} (lo hi : Option Int) (hsz : l.length ≤ sizeLine) : OpSl prog w hB lo hi (.str l) (.str (slc l lo hi)) := by
 intro A s O a sl vl vu Q E R X Ow ra hs pl pu q
 cases ra with
 | @str _ t =>
   have key : ∀ (l' u' : Option (Int × Tok)), partValue l' = vl → partValue u' = vu → l'.map (·.1) = lo → u'.map (·.1) = hi → wpAny (model prog w) A (getItem (.str ⟨l.toArray⟩ t) (.ref sl)) Q E s := by
     intro l' u' e1 e2 e3 e4
     subst e1 e2
     refine wpAny_getItem_str_slice (l := l') (u := u') (st := none) hs rfl ?_
     have hpick : (slicePicked ⟨l.toArray⟩ l' u' none).filterMap ((Str.mk l.toArray).cps[·]?) = slc l lo hi := by
       unfold slicePicked; rw [e3, e4]; exact strPick_eq l lo hi
     unfold sliceMade
     split
     · rename_i hc
       have hlen : (slicePicked ⟨l.toArray⟩ l' u' none).length = l.length := by
         simp only [Option.map_none, Option.getD_none, Bool.and_eq_true, beq_iff_eq, Str.length] at hc
         simpa using hc.2
       have hid : slc l lo hi = l := by
         unfold slicePicked at hlen
         rw [e3, e4] at hlen
         have hz : (Option.map (fun x : Int × Tok => x.1) none).getD 1 = (1 : Int) := rfl
         rw [hz, strIdx_eq, List.length_map, List.length_range] at hlen
         simp only [Str.length, List.size_toArray] at hlen
         unfold slc
         have hle : hi.elim l.length (clipAt l.length) ≤ l.length := by
           cases hi with
           | none => exact Nat.le_refl _
           | some i => have := clipAt_cast l.length i; simp only [Option.elim]; lia
         have hlo : lo.elim 0 (clipAt l.length) ≤ l.length := by
           cases lo with
           | none => exact Nat.zero_le _
           | some i => have := clipAt_cast l.length i; simp only [Option.elim]; lia
         have h0 : lo.elim 0 (clipAt l.length) = 0 := by exact ar422 hlen hlo hle
         rw [h0, List.drop_zero, Nat.sub_zero]
         rw [h0, Nat.sub_zero] at hlen
         rw [hlen]; exact List.take_length
       rw [hid] at q
       exact q _ s.heap s.toks (Ext.refl _) .str
     · rw [hpick]
       refine ⟨?_, q _ s.heap _ (Ext.refl _) .str⟩
       show (slc l lo hi).toArray.size ≤ sizeLine
       rw [List.size_toArray]; exact Nat.le_trans (slc_length_le _ _ _) hsz
   cases pl with
   | none =>
     cases pu with
     | none => exact key none none rfl rfl rfl rfl
     | int j u => exact key none (some (j, u)) rfl rfl rfl rfl
   | int i t' =>
     cases pu with
     | none => exact key (some (i, t')) none rfl rfl rfl rfl
     | int j u => exact key (some (i, t')) (some (j, u)) rfl rfl rfl rfl
theorem opSl_lst {l : List D} (lo hi : Option Int) (hsz : l.length ≤ sizeLine) : OpSl prog w hB lo hi (.lst l) (.lst (slc l lo hi)) := by
 intro A s O a sl vl vu Q E R X Ow ra hs pl pu q
 cases ra with
 | @lst b vs _ hb hpl hr =>
   refine wpAny_getItem_list_slice hpl.isList hs pl pu .none (by simp) ?_ (by rw [List.size_toArray, hr.length]; exact hsz)
   have e : slicePick vs.toArray lo hi none = (slc vs lo hi).toArray := by
     rw [slicePick_plain]; simp [slc]
   rw [e]
   refine q _ _ _ (ext_push _ _) (.lst (Ow.fresh (get_size _)) ⟨0, Heap.get?_push_size _ rfl⟩ ((hr.ext (ext_push _ _)).slc lo hi))
theorem opSl_bytes {l : List UInt8} (lo hi : Option Int) (hsz : l.length ≤ sizeLine) : OpSl prog w hB lo hi (.bytes l) (.bytes (slc l lo hi)) := by
 intro A s O a sl vl vu Q E R X Ow ra hs pl pu q
 cases ra with
 | @bytes _ t =>
   have e : KBy.picked l.toArray lo hi = (slc l lo hi).toArray := by rw [KBc.picked_eq]; simp [slc]
   refine getItem_meets (typeIs_bytes s _ t) (by decide) FB.slot_bytes_getitem FB.entry_bytes_getitem (FB.args_bytes_getitem_2 _ _) (KBc.meets_slice2 l.toArray t sl pl pu) ⟨hs, ?_, fun t' k => ?_⟩
   · rw [e, List.size_toArray]; exact Nat.le_trans (slc_length_le _ _ _) hsz
   · rw [e]; exact q _ s.heap k (Ext.refl _) .bytes
theorem op_item_str {l : List Nat} {i : Int} {j c : Nat} (hlo : -(2 ^ 63) ≤ i) (hhi : i < 2 ^ 63) (hj : seqIndex? i l.length = some j) (hc : l[j]? = some c) : Op2 prog w hB getItem (.str l) (.int i) (.str [c]) := by
 intro A s O a b Q E R X Ow ra rb q
 cases ra with
 | str =>
   cases rb with
   | int =>
     refine getItem_str (c := c) ?_ ?_ (q _ s.heap _ (Ext.refl _) (.str (l := [c])))
     · simp; exact ar12 hlo hhi
     · show (seqIndex? i l.toArray.size).bind _ = some c
       rw [List.size_toArray, hj]; simpa using hc
theorem op_item_lst {l : List D} {i : Int} {d : D} (h0 : 0 ≤ i) (hhi : i < 2 ^ 63) (hc : l[i.toNat]? = some d) : Op2 prog w hB getItem (.lst l) (.int i) d := by
 intro A s O a b Q E R X Ow ra rb q
 cases ra with
 | lst _ hpl hr =>
   cases rb with
   | int =>
     obtain ⟨v, hv, hrv⟩ := hr.get hc
     exact wpAny_getItem_list hpl.isList h0 hhi (by simpa using hv) (q v s.heap s.toks (Ext.refl _) hrv)
theorem op_item_tup {l : List D} {i : Int} {j : Nat} {d : D} (hlo : -(2 ^ 63) ≤ i) (hhi : i < 2 ^ 63) (hj : seqIndex? i l.length = some j) (hc : l[j]? = some d) : Op2 prog w hB getItem (.tup l) (.int i) d := by
 intro A s O a b Q E R X Ow ra rb q
 cases ra with
 | tup _ hpl hr =>
   cases rb with
   | int =>
     obtain ⟨v, hv, hrv⟩ := hr.get hc
     exact getItem_tuple hpl hlo hhi (by rw [List.size_toArray, hr.length]; exact hj) (by simpa using hv) (q v s.heap s.toks (Ext.refl _) hrv)
theorem op_item_bytes {l : List UInt8} {i : Int} {b : UInt8} (h0 : 0 ≤ i) (hsz : l.length ≤ 1099511627776) (hc : l[i.toNat]? = some b) : Op2 prog w hB getItem (.bytes l) (.int i) (.int b.toNat) := by
 intro A s O a b' Q E R X Ow ra rb q
 cases ra with
 | bytes =>
   cases rb with
   | int =>
     have hlt : i.toNat < l.length := by
       rw [List.getElem?_eq_some_iff] at hc; exact hc.1
     refine getItem_bytes hsz h0 (by lia) ?_
     have : l.getD i.toNat 0 = b := by rw [List.getD_eq_getElem?_getD, hc]; rfl
     rw [this]
     exact q _ s.heap _ (Ext.refl _) .int
theorem it_lst (K : Ok prog w hB mg mb C n) {e : Expr} {ds : List D} (h1 : Ev prog w C false σ e (.lst ds)) : It prog w C σ e ds := fun s m O Q E S q =>
 h1.then K S fun v h₁ t₁ x₁ S₁ hr => by
   cases hr with
   | @lst ax vs _ hO hp hrs =>
     refine wpAny_pyIter_list hp.isList ?_
     have hp' := ext_push h₁ { cls := .type "list_iterator", data := .fields #[.ref ax, .int 0 0] }
     have hax : ax ≠ h₁.objs.size := by obtain ⟨k, e⟩ := hp; exact Nat.ne_of_lt (Heap.lt_size e)
     have hlen : vs.toArray.size = ds.length := by rw [List.size_toArray, hrs.length]
     have W := Walks.list (prog := prog) (w := w) K.R.handled h₁.objs.size ax hax vs.toArray
     rw [hlen] at W
     refine q _ _ _ _ _ _ _ (x₁.trans hp') W ⟨⟨_, Heap.get?_push_size _ rfl, rfl, rfl⟩, (hp.at fun o e => hp' _ o e).isList⟩ (List.mem_singleton.mpr rfl) (fun b hb => ?_) (fun b hb => ?_) (fun b hb => ?_) (fun i h st b hb => ?_) fun i v hv => ?_
     · rcases List.mem_cons.mp hb with rfl | hb
       · exact (S₁.own' (r := false) K).fresh (get_size _)
       · rw [List.mem_singleton.mp hb]; exact hO
     · rcases List.mem_cons.mp hb with rfl | hb
       · exact ⟨_, Heap.get?_push_size _ rfl, fun hn => absurd (List.mem_singleton.mpr rfl) hn⟩
       · rw [List.mem_singleton.mp hb]; obtain ⟨k, e⟩ := hp; exact ⟨_, hp' _ _ e, fun _ => .inr (.inl rfl)⟩
     · rw [List.mem_singleton.mp hb]
       cases e : s.heap.get? h₁.objs.size with
       | none => rfl
       | some o => exact absurd (Heap.lt_size (x₁ _ _ e)) (Nat.lt_irrefl _)
     · rw [List.mem_singleton.mp hb]
       obtain ⟨o, ho, hc, _⟩ := st.1
       exact ⟨o, ho, _, by simp [itCls], hc⟩
     · obtain ⟨d, hd, hrd⟩ := hrs.get' (i := i) (by simpa using hv)
       exact ⟨d, hd, hrd.ext hp'⟩
theorem it_tup (K : Ok prog w hB mg mb C n) {e : Expr} {ds : List D} (h1 : Ev prog w C false σ e (.tup ds)) : It prog w C σ e ds := fun s m O Q E S q =>
 h1.then K S fun v h₁ t₁ x₁ S₁ hr => by
   cases hr with
   | @tup ax vs _ hO hp hrs =>
     refine wpAny_pyIter_tuple hp ?_
     have hp' := ext_push h₁ { cls := .type "tuple_iterator", data := .fields #[.ref ax, .int 0 0] }
     have hax : ax ≠ h₁.objs.size := by obtain ⟨k, e, _⟩ := hp; exact Nat.ne_of_lt (Heap.lt_size e)
     have hlen : vs.toArray.size = ds.length := by rw [List.size_toArray, hrs.length]
     have W := Walks.tuple (prog := prog) (w := w) K.R.handled h₁.objs.size ax hax vs.toArray
     rw [hlen] at W
     obtain ⟨ot, hot, hct⟩ := id hp
     refine q _ _ _ _ _ _ _ (x₁.trans hp') W ⟨⟨_, Heap.get?_push_size _ rfl, rfl, rfl⟩, ⟨ot, hp' _ _ hot, hct⟩⟩ (List.mem_singleton.mpr rfl) (fun b hb => ?_) (fun b hb => ?_) (fun b hb => ?_) (fun i h st b hb => ?_) fun i v hv => ?_
     · rcases List.mem_cons.mp hb with rfl | hb
       · exact (S₁.own' (r := false) K).fresh (get_size _)
       · rw [List.mem_singleton.mp hb]; exact hO
     · rcases List.mem_cons.mp hb with rfl | hb
       · exact ⟨_, Heap.get?_push_size _ rfl, fun hn => absurd (List.mem_singleton.mpr rfl) hn⟩
       · rw [List.mem_singleton.mp hb]; exact ⟨_, hp' _ _ hot, fun _ => .inl hct.1⟩
     · rw [List.mem_singleton.mp hb]
       cases e : s.heap.get? h₁.objs.size with
       | none => rfl
       | some o => exact absurd (Heap.lt_size (x₁ _ _ e)) (Nat.lt_irrefl _)
     · rw [List.mem_singleton.mp hb]
       obtain ⟨o, ho, hc, _⟩ := st.1
       exact ⟨o, ho, _, by simp [itCls], hc⟩
     · obtain ⟨d, hd, hrd⟩ := hrs.get' (i := i) (by simpa using hv)
       exact ⟨d, hd, hrd.ext hp'⟩
theorem it_str (K : Ok prog w hB mg mb C n) {e : Expr} {l : List Nat} (h1 : Ev prog w C false σ e (.str l)) : It prog w C σ e (l.map fun c => .str [c]) := fun s m O Q E S q =>
 h1.then K S fun v h₁ t₁ x₁ S₁ hr => by
   cases hr with
   | @str _ t =>
     have hlen : (Str.mk l.toArray).cps.size = (l.map fun c => D.str [c]).length := by simp
     have sign : ∀ i v h O, SignAt ⟨l.toArray⟩ i v → ∃ d, (l.map fun c => D.str [c])[i]? = some d ∧ Rep O h v d := by
       rintro i v h O ⟨c, u, hc, rfl⟩
       have hc' : l[i]? = some c := by simpa using hc
       exact ⟨.str [c], by rw [List.getElem?_map, hc']; rfl, .str (l := [c])⟩
     have fin : ∀ ty, ty ∈ itCls → Walks prog w C.A h₁.objs.size [h₁.objs.size] [h₁.objs.size] (Str.mk l.toArray).cps.size (SignAt ⟨l.toArray⟩) (fun i h => h.IsStrIter h₁.objs.size ty ⟨l.toArray⟩ t i) →
         Q (.ref h₁.objs.size) { s with heap := h₁.push { cls := .type ty, data := .fields #[.str ⟨l.toArray⟩ t, .int 0 0] }, toks := t₁ } := by
       intro ty hty W
       rw [hlen] at W
       refine q _ _ _ _ _ _ _ (x₁.trans (ext_push _ _)) W ⟨_, Heap.get?_push_size _ rfl, rfl, rfl⟩ (List.mem_singleton.mpr rfl) (fun b hb => ?_) (fun b hb => ?_) (fun b hb => ?_) (fun i h st b hb => ?_) fun i v hv => sign i v _ _ hv
       · rw [List.mem_singleton.mp hb]; exact (S₁.own' (r := false) K).fresh (get_size _)
       · rw [List.mem_singleton.mp hb]; exact ⟨_, Heap.get?_push_size _ rfl, fun hn => absurd (List.mem_singleton.mpr rfl) hn⟩
       · rw [List.mem_singleton.mp hb]
         cases e : s.heap.get? h₁.objs.size with
         | none => rfl
         | some o => exact absurd (Heap.lt_size (x₁ _ _ e)) (Nat.lt_irrefl _)
       · rw [List.mem_singleton.mp hb]
         obtain ⟨o, ho, hc, _⟩ := st
         exact ⟨o, ho, ty, hty, hc⟩
     cases ha : (Str.mk l.toArray).cps.all (· < 128)
     · exact wpAny_pyIter_wide ha (fin "str_iterator" (by simp [itCls]) (Walks.strWide K.R.handled _ _ _))
     · exact wpAny_pyIter_ascii ha (fin "str_ascii_iterator" (by simp [itCls]) (Walks.strAscii K.R.handled _ _ _))
end
end
section
section
variable {prog : Program} {w : World} {hB : Heap} {mg mb : Str → Option Value} {C : Cfg} {n : Nat} {σ σ' σ'' : Loc} {m : Str → Option Value} {O : List Addr} {h h' : Heap} {r : Bool} {Φ Ψ : Fl → Loc → Prop} {rest : List Stmt}
theorem op_add (a b : Int) : Op2 prog w hB (binaryOp .Add) (.int a) (.int b) (.int (a + b)) := by
 exact op2_ii fun A s O t₁ t₂ Q E q => add_int (q _ s.heap _ (Ext.refl _) .int)
theorem op_sub (a b : Int) : Op2 prog w hB (binaryOp .Sub) (.int a) (.int b) (.int (a - b)) := by
 exact op2_ii fun A s O t₁ t₂ Q E q => sub_int (q _ s.heap _ (Ext.refl _) .int)
theorem op_mul (a b : Int) (hm : IntMulOk a b) : Op2 prog w hB (binaryOp .Mult) (.int a) (.int b) (.int (a * b)) := by
 exact op2_ii fun A s O t₁ t₂ Q E q => mul_int (q _ s.heap _ (Ext.refl _) .int) hm
theorem op_mod (a b : Int) (hb : b ≠ 0) : Op2 prog w hB (binaryOp .Mod) (.int a) (.int b) (.int (a.fmod b)) := by
 exact op2_ii fun A s O t₁ t₂ Q E q => mod_int' hb (q _ s.heap _ (Ext.refl _) .int)
theorem noPylong (a b : Int) (hb : b.natAbs < 2 ^ 64) : Builtin.divisionGoesByPylong a b = false := by
 unfold Builtin.divisionGoesByPylong
 have h1 : (if b == 0 then 0 else b.natAbs.log2 / 30 + 1) ≤ 300 := by
   split
   · exact ar8
   · have : b.natAbs.log2 < 64 := by
       by_cases h0 : b.natAbs = 0
       · rw [h0]; decide
       · exact (Nat.log2_lt h0).mpr hb
     exact ar89 this
 have h2 : decide ((if b == 0 then 0 else b.natAbs.log2 / 30 + 1) > 300) = false := decide_eq_false (by exact ar127 h1)
 simp only [h2, Bool.false_and]
theorem op_div (a b : Int) (hb : b ≠ 0) (hs : b.natAbs < 2 ^ 64) : Op2 prog w hB (binaryOp .FloorDiv) (.int a) (.int b) (.int (a.fdiv b)) := by
 exact op2_ii fun A s O t₁ t₂ Q E q => floordiv_int hb (q _ s.heap _ (Ext.refl _) .int) (.inl (noPylong a b hs))
theorem op_iadd (a b : Int) : Op2 prog w hB (inplaceOp .Add) (.int a) (.int b) (.int (a + b)) := by
 exact op2_ii fun A s O t₁ t₂ Q E q => iadd_int (q _ s.heap _ (Ext.refl _) .int)
theorem op_isub (a b : Int) : Op2 prog w hB (inplaceOp .Sub) (.int a) (.int b) (.int (a - b)) := by
 exact op2_ii fun A s O t₁ t₂ Q E q => isub_int (q _ s.heap _ (Ext.refl _) .int)
theorem op_idiv (a b : Int) (hb : b ≠ 0) (hs : b.natAbs < 2 ^ 64) : Op2 prog w hB (inplaceOp .FloorDiv) (.int a) (.int b) (.int (a.fdiv b)) := by
 exact op2_ii fun A s O t₁ t₂ Q E q => ifloordiv_int hb (q _ s.heap _ (Ext.refl _) .int) (.inl (noPylong a b hs))
theorem op_neg (a : Int) : Op1 prog w hB (unaryOp .USub) (.int a) (.int (-a)) := by
 intro A s O x Q E R X Ow ra q; obtain ⟨t, rfl⟩ := ra.intE; exact neg_int (q _ s.heap _ (Ext.refl _) .int)
theorem op_eq (a b : Int) : Op2 prog w hB (compareOp .Eq) (.int a) (.int b) (.bool (a == b)) := by
 exact op2_ii fun A s O t₁ t₂ Q E q => eq_int (q _ s.heap s.toks (Ext.refl _) .bool)
theorem op_ne (a b : Int) : Op2 prog w hB (compareOp .NotEq) (.int a) (.int b) (.bool (a != b)) := by
 exact op2_ii fun A s O t₁ t₂ Q E q => ne_int (q _ s.heap s.toks (Ext.refl _) .bool)
theorem op_lt (a b : Int) : Op2 prog w hB (compareOp .Lt) (.int a) (.int b) (.bool (decide (a < b))) := by
 exact op2_ii fun A s O t₁ t₂ Q E q => lt_int (q _ s.heap s.toks (Ext.refl _) .bool)
theorem op_le (a b : Int) : Op2 prog w hB (compareOp .LtE) (.int a) (.int b) (.bool (decide (a ≤ b))) := by
 exact op2_ii fun A s O t₁ t₂ Q E q => le_int (q _ s.heap s.toks (Ext.refl _) .bool)
theorem op_gt (a b : Int) : Op2 prog w hB (compareOp .Gt) (.int a) (.int b) (.bool (decide (b < a))) := by
 exact op2_ii fun A s O t₁ t₂ Q E q => gt_int (q _ s.heap s.toks (Ext.refl _) .bool)
theorem op_ge (a b : Int) : Op2 prog w hB (compareOp .GtE) (.int a) (.int b) (.bool (decide (b ≤ a))) := by
 exact op2_ii fun A s O t₁ t₂ Q E q => ge_int (q _ s.heap s.toks (Ext.refl _) .bool)
theorem op_isNone (d : D) : Op2 prog w hB (compareOp .Is) d .none (.bool (match d with | .none => true | _ => false)) := by
 intro A s O x y Q E R X Ow ra rb q; cases rb
 refine is_none ?_
 cases ra <;> exact q _ s.heap s.toks (Ext.refl _) .bool
theorem str_append (a b : List Nat) : (Str.mk a.toArray ++ Str.mk b.toArray) = Str.mk (a ++ b).toArray := by
 apply Str.ext'
 rw [Str.cps_append]; simp
theorem op_cat (a b : List Nat) (hs : a.length + b.length ≤ sizeLine) : Op2 prog w hB (binaryOp .Add) (.str a) (.str b) (.str (a ++ b)) := by
 exact op2_ss fun A s O t₁ t₂ Q E q => add_str (fun t' tk => by rw [str_append]; exact q _ s.heap _ (Ext.refl _) .str) (by simpa [Str.length] using hs)
theorem op_icat (a b : List Nat) (hs : a.length + b.length ≤ sizeLine) : Op2 prog w hB (inplaceOp .Add) (.str a) (.str b) (.str (a ++ b)) := by
 exact op2_ss fun A s O t₁ t₂ Q E q => iadd_str (fun t' tk => by rw [str_append]; exact q _ s.heap _ (Ext.refl _) .str) (by simpa [Str.length] using hs)
theorem str_beq (a b : List Nat) : (Str.mk a.toArray == Str.mk b.toArray) = (a == b) := by
 rw [Bool.eq_iff_iff]; simp
theorem op_seq (a b : List Nat) : Op2 prog w hB (compareOp .Eq) (.str a) (.str b) (.bool (a == b)) := by
 exact op2_ss fun A s O t₁ t₂ Q E q => eq_str (by rw [str_beq]; exact q _ s.heap s.toks (Ext.refl _) .bool)
theorem op_sne (a b : List Nat) : Op2 prog w hB (compareOp .NotEq) (.str a) (.str b) (.bool (a != b)) := by
 exact op2_ss fun A s O t₁ t₂ Q E q => ne_str (by rw [bne, str_beq]; exact q _ s.heap s.toks (Ext.refl _) .bool)
theorem op_sle1 (a b : Nat) : Op2 prog w hB (compareOp .LtE) (.str [a]) (.str [b]) (.bool (decide (a ≤ b))) := by
 refine op2_ss fun A s O t₁ t₂ Q E q => ?_
 refine PySem.P.le_str ?_
 have e : (!(decide ((Str.mk [b].toArray).cps.toList < (Str.mk [a].toArray).cps.toList))) = decide (a ≤ b) := by
   have : ((Str.mk [b].toArray).cps.toList < (Str.mk [a].toArray).cps.toList) ↔ b < a := by simp [List.cons_lt_cons_iff]
   rw [Bool.eq_iff_iff]; simp [this]
 rw [e]
 exact q _ s.heap s.toks (Ext.refl _) .bool
theorem op_sgt1 (a b : Nat) : Op2 prog w hB (compareOp .Gt) (.str [a]) (.str [b]) (.bool (decide (b < a))) := by
 refine op2_ss fun A s O t₁ t₂ Q E q => ?_
 refine PySem.P.gt_str ?_
 have e : (decide ((Str.mk [b].toArray).cps.toList < (Str.mk [a].toArray).cps.toList)) = decide (b < a) := by
   rw [Bool.eq_iff_iff]; simp [List.cons_lt_cons_iff]
 rw [e]
 exact q _ s.heap s.toks (Ext.refl _) .bool
theorem opT_bool (b : Bool) : OpT prog w hB (.bool b) b := by
 intro A s O x Q E R X Ow ra q; cases ra.boolE; exact wpAny_truthy_bool (q s.heap s.toks (Ext.refl _))
theorem opT_int (a : Int) : OpT prog w hB (.int a) (a != 0) := by
 intro A s O x Q E R X Ow ra q; obtain ⟨t, rfl⟩ := ra.intE; exact PySem.P.truthy_int (q s.heap s.toks (Ext.refl _))
theorem opT_str (a : List Nat) (hs : a.length ≤ sizeLine) : OpT prog w hB (.str a) (!a.isEmpty) := by
 intro A s O x Q E R X Ow ra q
 obtain ⟨t, rfl⟩ := ra.strE
 rw [sizeLine_eq] at hs
 refine PySem.P.truthy_str (by simp [Str.length]; exact ar114 hs) ?_
 have e : (((Str.mk a.toArray).length : Int) != 0) = !a.isEmpty := by
   cases a with
   | nil => rfl
   | cons c r => rw [Bool.eq_iff_iff]; simp [Str.length]; exact ar187
 rw [e]
 exact q s.heap _ (Ext.refl _)
theorem op_not {d : D} {b : Bool} (h1 : OpT prog w hB d b) : Op1 prog w hB (unaryOp .Not) d (.bool (!b)) := by
 intro A s O x Q E R X Ow ra q
 exact not_value (h1 A s O x _ E R X Ow ra fun h' tk x => q _ h' tk x .bool)
theorem evT_chain (K : Ok prog w hB mg mb C n) {l e₁ e₂ : Expr} {op₁ op₂ : CmpOp} {pos} {da db dc : D} {b c : Bool} (h1 : Ev prog w C true σ l da) (h2 : Ev prog w C true σ e₁ db) (h3 : Ev prog w C true σ e₂ dc)
   (h4 : Op2 prog w hB (compareOp op₁) da db (.bool b)) (h5 : Op2 prog w hB (compareOp op₂) db dc (.bool c)) (hm : lastMarks [op₁, op₂] [e₁, e₂] = false := by with_unfolding_all rfl) : EvT prog w C σ (.Compare l [op₁, op₂] [e₁, e₂] pos) (b && c) := fun s m O Q E S q =>
 isTrue_chain (hm := hm) (h1.then K S fun a h₁ t₁ x₁ S₁ ra => test_link (h2.then K S₁ fun y h₂ t₂ x₂ S₂ ry => h4 _ _ (OR C true O) a y _ _ (K.R.le (Nat.zero_le _)) (S₂.base K) (S₂.own' K) (ra.ext x₂) ry fun v h₃ t₃ x₃ hr => by
   cases hr
   refine wpAny_truthy_bool ?_
   cases b with
   | false => exact q h₃ t₃ ((x₁.trans x₂).trans x₃)
   | true =>
     refine test_last (h3.then K (S₂.ext' K x₃) fun z h₄ t₄ x₄ S₄ rz => h5 _ _ (OR C true O) y z _ _ (K.R.le (Nat.zero_le _)) (S₄.base K) (S₄.own' K) (ry.ext (x₃.trans x₄)) rz fun v h₅ t₅ x₅ hr => ?_)
     cases hr
     exact wpAny_truthy_bool (q h₅ t₅ ((((x₁.trans x₂).trans x₃).trans x₄).trans x₅))))
end
end
section
noncomputable def holdsOne (c : Code) : Bool := match c with
 | .builtin id ⟨.ref _ :: _, _⟩ => Builtin.Bytes.decodersThatHold.contains id
 | _ => false
structure NoHold (Γ : Ctx) : Prop where
 code : holdsOne Γ.code = false
 below : ∀ x ∈ Γ.below, holdsOne x.1 = false
def wpQ {α : Type} (M : Model) (A : Around) (t : Sem α) (Q : α → Shared → Prop) (E : Value → Shared → Prop) (s : Shared) : Prop :=
 ∀ Γ p, Γ.In A → NoHold Γ → Sem.wp M Γ t (fun a _ s' => Q a s') (fun e _ s' => E e s') p s
def codeQ (M : Model) (A : Around) (c : Code) (R : Result → Shared → Prop) (s : Shared) : Prop :=
 ∀ Γ p, Γ.code = c → Γ.Below A → NoHold Γ → wpCode M Γ R p s
theorem NoHold.enter {Γ : Ctx} (h : NoHold Γ) {c : Code} (hc : holdsOne c = false) (e : Option Value) (p : Pos) : NoHold (Γ.enter c e p) :=
 ⟨hc, fun x hx => (List.mem_cons.mp hx).elim (fun q => q ▸ h.code) (h.below x)⟩
theorem NoHold.goto {Γ : Ctx} (h : NoHold Γ) {c : Code} (hc : holdsOne c = false) : NoHold (Γ.goto c) := ⟨hc, h.below⟩
theorem holdsOne_call (f : Value) (a : Args) : holdsOne (.call f a) = false := rfl
theorem holdsOne_func (b : List Stmt) (e : Env) : holdsOne (.func b e) = false := rfl
section
variable {α β : Type} {M : Model} {A : Around} {E : Value → Shared → Prop} {s : Shared}
theorem wpQ_of {t : Sem α} {Q : α → Shared → Prop} (h : wpAny M A t Q E s) : wpQ M A t Q E s := fun Γ p hi _ => h Γ p hi
theorem codeQ_of {c : Code} {R : Result → Shared → Prop} (h : codeAny M A c R s) : codeQ M A c R s := fun Γ p hc hb _ => h Γ p hc hb
theorem wpQ_mono {t : Sem α} {Q Q' : α → Shared → Prop} {E' : Value → Shared → Prop} (h : wpQ M A t Q E s) (hQ : ∀ a s, Q a s → Q' a s) (hE : ∀ e s, E e s → E' e s) : wpQ M A t Q' E' s :=
 fun Γ p hi hn => Sem.wp_mono M Γ t (fun a _ s' => hQ a s') (fun e _ s' => hE e s') p s (h Γ p hi hn)
theorem codeQ_mono {c : Code} {R R' : Result → Shared → Prop} (h : codeQ M A c R s) (hR : ∀ r s, R r s → R' r s) : codeQ M A c R' s := fun Γ p hc hb hn => wpCode_mono hR (h Γ p hc hb hn)
theorem wpQ_step {t : Sem α} {Q : α → Shared → Prop} {Q' : α → Shared → Prop} (h : wpAny M A t Q' E s) (hQ : ∀ a s, Q' a s → Q a s) : wpQ M A t Q E s := wpQ_mono (wpQ_of h) hQ fun _ _ e => e
theorem wpQ_pure {a : α} {Q : α → Shared → Prop} (h : Q a s) : wpQ M A (pure a) Q E s := fun _ _ _ _ => h
theorem wpQ_bind {m : Sem α} {f : α → Sem β} {Q : β → Shared → Prop} (h : wpQ M A m (fun a s' => wpQ M A (f a) Q E s') E s) : wpQ M A (m >>= f) Q E s := fun Γ p hi hn => by
 rw [Sem.wp_bind']
 exact Sem.wp_mono M Γ m (fun a p' s' h' => h' Γ p' hi hn) (fun _ _ _ h' => h') p s (h Γ p hi hn)
theorem wpQ_holding {vs : List Value} {m : Sem α} {Q : α → Shared → Prop} (h : wpQ M A m Q E s) : wpQ M A (holding vs m) Q E s := fun Γ p hi hn => by rw [Sem.wp_holding]; exact h Γ p hi hn
theorem wpQ_onRaise {m : Sem α} {k : Value → Sem Unit} {Q : α → Shared → Prop} (h : wpQ M A m Q (fun e s' => wpQ M A (k e) (fun _ s'' => E e s'') E s') s) : wpQ M A (m.onRaise k) Q E s := fun Γ p hi hn => by
 rw [Sem.wp_onRaise]
 exact Sem.wp_mono M Γ m (fun _ _ _ h' => h') (fun e p' s' h' => h' Γ p' hi hn) p s (h Γ p hi hn)
theorem wpQ_standAt {pos : Pos} {Q : Unit → Shared → Prop} (h : Q () s) : wpQ M A (standAt pos) Q E s := fun _ _ _ _ => h
theorem wpQ_of_eq {t : Sem α} {a : α} {Q : α → Shared → Prop} (e : t = pure a) (h : Q a s) : wpQ M A t Q E s := by rw [e]; exact wpQ_pure h
theorem wpQ_runValue {c : Code} {Q : Value → Shared → Prop} (hh : holdsOne c = false)
   (hc : codeQ M A c (fun r s' => match r with | .ok (.ret v) => Q v s' | .ok _ => False | .error e => E e s') s) : wpQ M A (runValue c) Q E s := fun Γ p hi hn => by
 rw [Sem.wp_runValue]; exact hc _ p rfl (hi.enter c none p (by intro x; cases x)) (hn.enter hh _ _)
theorem wpQ_call {f : Value} {pos : List Value} {kw : List (Str × Value)} {Q : Value → Shared → Prop}
   (hc : codeQ M A (.call f ⟨pos, kw⟩) (fun r s' => match r with | .ok (.ret v) => Q v s' | .ok _ => False | .error e => E e s') s) : wpQ M A (call f pos kw) Q E s := wpQ_runValue (holdsOne_call _ _) hc
theorem wpQ_run {c : Code} {h : Option Value} {Q : Flow → Shared → Prop} (hh : holdsOne c = false)
   (hc : codeQ M (A.mark h) c (fun r s' => match r with | .ok f => Q f s' | .error e => E e s') s) (hnb : h ≠ some byPass := by intro x; cases x) : wpQ M A (run c h) Q E s :=
 fun Γ p hi hn => by rw [Sem.wp_run]; exact hc _ p rfl (hi.enter c h p hnb) (hn.enter hh _ _)
theorem codeQ_of_tree {c : Code} {R : Result → Shared → Prop}
   (h : wpQ M (A.under c) (M.den c) (fun fin s' => match fin with | .done f => R (.ok f) s' | .again c' => c'.quiet = true ∧ holdsOne c' = false ∧ codeQ M A c' R s')
     (fun e s' => R (.error e) s') s) : codeQ M A c R s := fun Γ p hc hb hn => by
 rw [wpCode_iff_wp, hc]
 refine Sem.wp_mono M Γ _ (fun fin p' s' h' => ?_) (fun _ _ _ h' => h') p s (h Γ p (hc ▸ hb.in) hn)
 cases fin with
 | done f => exact h'
 | again c' => exact ⟨h'.1, h'.2.2 (Γ.goto c') p' rfl (hb.goto c') (hn.goto h'.2.1)⟩
end
section
variable {prog : Program} {w : World} {A : Around} {s : Shared}
theorem codeQ_func {R : Result → Shared → Prop} {body : List Stmt} {env : Env}
   (h : wpQ (model prog w) (A.deeper env) (execs body env) (fun f s' => R (.ok (.ret (match f with | .ret v => v | _ => .none))) s')
     (fun e s' => wpQ (model prog w) (A.deeper env) (leaving env e) (fun _ s'' => R (.error e) s'') (fun e' s'' => R (.error e') s'') s') s) :
   codeQ (model prog w) A (.func body env) R s := by
 refine codeQ_of_tree ?_
 show wpQ _ (A.deeper env) (do point; match ← (execs body env).onRaise (leaving env) with | .ret v => ret v | _ => ret .none) _ _ s
 refine wpQ_bind (wpQ_of (wpAny_point (wpQ_bind (wpQ_onRaise (wpQ_mono h (fun f s' h' => ?_) fun _ _ h' => h')))))
 cases f <;> exact wpQ_pure h'
end
end
section
open PySem PySem.W PySem.Calls PyProof.Rows
abbrev WalkQ (q : Program) (loose : List Str) (XP : (Str → Option Value) → Heap → Prop) (YP : World → Heap → Prop) (r : RowW) (d : DefRec) (kwd : List (Str × Expr)) : Prop :=
 ∀ (w : World) (s₀ s₁ : Shared) (mg mb : Str → Option Value), Ground q loose r.records XP w s₀ mg mb s₁.heap → YP w s₁.heap → ∀ (a : Addr) (o : Obj) (pm cd doc dV kV : Value), s₁.heap.get? a = some o →
   o.data = .func { docDef d.name d.params d.body d.scope pm cd doc with defaults := dV, kwdefaults := kV } → s₁.heap.CodeRec cd d.name → Dflts mg s₁.heap d.params kwd dV kV → mg d.name = some (.ref a) → s₁.gens = #[] →
   ∀ (args : List WData) (vals : List Value) (as : List Addr), r.claim.pre args = true → WData.layableAll args = true → ReadsAllW r.records (classAt s₀.heap) s₁.heap vals args as → WellAll w.params s₁.heap vals args → (∀ a ∈ as, (a == sysModules) = false) →
     wpQ (model r.prog w) callerA (PySem.call (.ref a) vals) (fun v s' => GoodWG r.claim (classAt s₀.heap) (ExcName.means s₀.heap) args s₁ (.ok (.ret v)) s')
       (fun e s' => GoodWG r.claim (classAt s₀.heap) (ExcName.means s₀.heap) args s₁ (.error e) s') s₁
theorem caller_quiet : NoHold ⟨.builtin "claim.caller" {}, none, none, [], none⟩ := ⟨rfl, fun _ h => nomatch h⟩
theorem endsQ {prog : Program} {w : World} {t : Sem Fin} {s : Shared} {R : Result → Shared → Prop} (hreg : s.asleep)
   (h : wpQ (model prog w) callerA t (fun fin s' => ∃ f, fin = .done f ∧ (R (.ok f) s' ∧ leftWithCleanup s'.gens = false)) (fun e s' => R (.error e) s' ∧ leftWithCleanup s'.gens = false) s) :
   ∃ n r s' s'', runN (denote table) prog w n s ⟨t, .builtin "claim.caller" {}, default, []⟩ = .halted (outcomeOf r) s' ∧
     schedN (denote table) prog w n (.single s ⟨t, .builtin "claim.caller" {}, default, []⟩) = .halted (outcomeOf r) s' ∧ s'.forget = s''.forget ∧ R r s'' := by
 have h0 := Sem.wp_mono (model prog w) ⟨.builtin "claim.caller" {}, none, none, [], none⟩ t (fun fin p' s' h' => by
   obtain ⟨f, rfl, hf⟩ := h'
   exact (show Sem.finPost (model prog w) ⟨.builtin "claim.caller" {}, none, none, [], none⟩ (fun r s' => R r s' ∧ leftWithCleanup s'.gens = false) (.done f) p' s' from hf)) (fun _ _ _ h' => h') default s (h _ default caller_in caller_quiet)
 obtain ⟨n, r, s₁, s₂, hs, hn, hfo, hR⟩ := wp_halts_full (M := model prog w) (R := R) hreg h0
 exact ⟨n, r, s₂, s₁, hn, hs, hfo, hR⟩
theorem callFromQ {c : ClaimW} {tree : List Value → Sem Fin} {w : World} {s : Shared} {free : Addr → Prop} {gens : Prop} {kept : Heap → Prop} (hz : s.asleep) (hgens : s.gens = #[])
   (hspec : ∀ args, c.pre args = true → WData.layableAll args = true →
     ∀ ord : List DictEntry → List DictEntry, (∀ l, (ord l).Perm l) →
     ∃ vs s₁, layAllW c.records (classAt s.heap) w.params ord args s = some (vs, s₁) ∧
       wpQ (model c.prog w) callerA (tree vs) (fun fin s' => ∃ f, fin = .done f ∧ (c.Ends s args vs s₁ (.ok f) s' ∧ s'.os = s.os ∧ AllBare s'.gens ∧ kept s'.heap))
         (fun e s' => c.Ends s args vs s₁ (.error e) s' ∧ s'.os = s.os ∧ AllBare s'.gens ∧ kept s'.heap) s₁) :
   c.CallFrom (fun vs => ⟨tree vs, .builtin "claim.caller" {}, default, []⟩) w free gens kept s := by
 intro args hpre hlay ord hord
 obtain ⟨vs, s₁, hlaid, hcode⟩ := hspec args hpre hlay ord hord
 have hal := layAllW_rest _ _ _ hlaid
 have hq := wpQ_mono hcode
   (Q' := fun fin s' => ∃ f, fin = .done f ∧ ((c.Ends s args vs s₁ (.ok f) s' ∧ s'.os = s.os ∧ kept s'.heap) ∧ leftWithCleanup s'.gens = false))
   (E' := fun e s' => (c.Ends s args vs s₁ (.error e) s' ∧ s'.os = s.os ∧ kept s'.heap) ∧ leftWithCleanup s'.gens = false)
   (fun fin s' ⟨f, e, h1, h2, h3, h4⟩ => ⟨f, e, ⟨h1, h2, h4⟩, leftWithCleanup_false_of_bare h3⟩)
   (fun e s' ⟨h1, h2, h3, h4⟩ => ⟨⟨h1, h2, h4⟩, leftWithCleanup_false_of_bare h3⟩)
 obtain ⟨k, r, s', s'', hrun, hsched, hfo, hcase, hos, hkp⟩ := endsQ (R := fun r s' => c.Ends s args vs s₁ r s' ∧ s'.os = s.os ∧ kept s'.heap) (Shared.asleep_of_life hal.2.2.2 hz) hq
 obtain ⟨eh, _, _, eo, _⟩ := Shared.forget_eq hfo
 have hlife : s'.heap.life = s.heap.life := (runN_life _ _ _ hrun).trans hal.2.2.2
 refine ⟨vs, s₁, hlaid, k, _, s', hsched, ?_, (fun _ i x hx => by rw [hgens] at hx; simp at hx), eh ▸ hkp, by rw [hlife], Shared.rest_eq (eo ▸ hos)⟩
 rcases hcase.congr eh with ⟨v, rfl, d1, d2, d3, d4, d5⟩ | ⟨e, ob, cls, rfl, d1, d2, d3, d4, d5⟩
 · exact .inl ⟨v, rfl, d1, d2, d3, fun b o y _ => d4 b o y, d5⟩
 · exact .inr ⟨e, ob, cls, rfl, d1, d2, d3, d4, fun b o y _ => d5 b o y⟩
theorem hOpen {r : OpenRow} {q : Program} {loose : List Str} {Xt : Shared → Bool} {XP : (Str → Option Value) → Heap → Prop} {α : Type} {Yf : Shared → α} {Ya : World → α} {YP : World → Heap → Prop} {d : DefRec} {kwd : List (Str × Expr)} {N : Nat}
   (left : LeftO r.prog q loose Xt Yf Ya N) (hY : ∀ w s, Yf s = Ya w → YP w s.heap) (hYk : ∀ w h h', YP w h → (∀ b o, h.get? b = some o → h'.get? b = some o) → YP w h')
   (hX : ∀ s, Xt s = true → XP (s.heap.nsMap mainGlobals) s.heap) (hXk : ∀ mg h h', XP mg h → (∀ b o, h.get? b = some o → h'.get? b = some o) → XP mg h')
   (hdef : defOf q r.name = some (d, kwd)) (hp : r.prog.theDef r.name = some (d.params, d.body, d.scope)) (hk : kwWritten? d.params.kwonlyargs d.params.kw_defaults = some kwd) (hRf : ∀ s, Xt s = true → RecFacts r.records s.heap) (hwr : (!r.writes || r.records.isEmpty) = true)
   (k1 : r.wellSaid = true) (ok : (chainsOk q && opensWell r.prog && (frees r.toRowW && r.within.isEmpty)) = true) (hb : r.prog.bare) (hw : r.toRowW.promised)
   (call : WalkQ q loose XP YP r.toRowW d kwd) : r.Holds := by
 obtain ⟨ok, k5⟩ := Bool.and_eq_true_iff.mp ok
 obtain ⟨hch, o1⟩ := Bool.and_eq_true_iff.mp ok
 obtain ⟨k5, k6⟩ := Bool.and_eq_true_iff.mp k5
 obtain ⟨hsame, hu, ha, hap, hm⟩ := frees_parts k5
 have hi := ident_freeW hu ha hap
 have hwi : r.claim.within = [] := List.isEmpty_iff.mp k6
 refine ⟨k1, hw, ⟨hb, o1, by show r.makers.map _ = []; rw [hm]; rfl⟩, hw.witness, fun w => ⟨(left.behind hX hch w).1, fun s' hs' => ?_⟩⟩
 obtain ⟨s₀, hf, hg0, s, hT, hz, hgens, hg, G00, y⟩ := (left.behind (XP := fun mg h => XP mg h ∧ RecFacts r.records h) (fun s hs => ⟨hX s hs, hRf s hs⟩) hch w).2 s' hs'
 have G0 : Ground q loose [] XP w s (s.heap.nsMap mainGlobals) (s.heap.nsMap builtinsNs) s.heap := ⟨G00.T, G00.B, G00.D, G00.TE, G00.TD, G00.W, G00.X.1, G00.cls, G00.has, G00.apart, G00.once, G00.K⟩
 have RF := G00.X.2
 refine ⟨s₀, hf, hg0, s, hT, fun n hn => ?_, RF.1, RF.2.1, ?_⟩
 · obtain rfl : n = r.name := by split at hn <;> simp_all
   exact pinned_of_view hg G0 hdef hp hk
 have hgens : s.gens = #[] := Array.eq_empty_of_size_eq_zero (beq_iff_eq.mp hgens)
 have G : Ground q loose r.records XP w s _ _ s.heap := RF.ground G0
 refine callFromQ (c := r.claim) (tree := fun vs => do match ← nsGet mainNs r.name with
     | some f => do ret (← PySem.call f vs)
     | none => unsupported "claim.caller:no-such-global") hz hgens fun args hpre hlay ord hord => ?_
 obtain ⟨⟨vs, s₁⟩, hlaid⟩ := Option.isSome_iff_exists.mp (layAllW_isSome (P := w.params) (ord := ord) G.has args r.args s (pre_splitW hpre).1)
 have keeps := layAllW_keeps _ _ _ hlaid
 have hal := layAllW_rest _ _ _ hlaid
 obtain ⟨as, hrd, hin, hold⟩ := reads_layAllW hord _ _ _ hlaid hlay s₁.heap (fun _ _ e => e)
 have L : Laid r.records w s s₁ args vs as := ⟨⟨ord, hord, hlaid⟩, hrd, hin, hold, keeps, hal.1.trans hgens, hal.2.2.1⟩
 have G₁ := G.keeps hXk keeps
 obtain ⟨a, o, pm, cd, doc, dV, kV, h1, h2, h3, h4, h5⟩ := G₁.fn hdef
 have h := call w s s₁ _ _ G₁ (hYk _ _ _ (hY w s y) keeps) a o pm cd doc dV kV h2 h3 h4 h5 (defOf_name hdef ▸ h1) L.gens args vs as hpre hlay L.reads L.well (L.low G.low)
 have fin : ∀ {res : Result} {s' : Shared}, GoodWG r.claim (classAt s.heap) (ExcName.means s.heap) args s₁ res s' → r.claim.Ends s args vs s₁ res s' ∧ s'.os = s.os ∧ AllBare s'.gens ∧
     (r.writes = true → namesKept r.prog r.keeps s.heap s'.heap ∧ ∀ x ∈ r.claim.records, ∀ a, classAt s.heap x.1 = some a → recordClass s'.heap a x.1 (x.2.map (·.1)) = true) := fun g =>
   have z := g.laid (c := r.claim) hsame hwi hi L
   ⟨z.1, z.2.1, z.2.2, fun q => ⟨namesKept_of hT hg r.keeps keeps g.2.1.old, noTable hwr q⟩⟩
 exact ⟨vs, s₁, hlaid, wpQ_bind (wpQ_of (wpAny_nsGet G₁.T.g (by rw [h1]; exact wpQ_bind (wpQ_mono h (fun v s' g => wpQ_pure ⟨_, rfl, fin g⟩) fun e s' g => fin g))))⟩
end
section
namespace S
theorem owner_bytearray : Manifest.owners.lookup (String.ofList ['y', 'a', 'r', 'r', 'a', 'e', 't', 'y', 'b'].reverse) = some Manifest.sig_bytearray := by kernel_rfl
theorem owner_bytes : Manifest.owners.lookup (String.ofList ['s', 'e', 't', 'y', 'b'].reverse) = some Manifest.sig_bytes := by kernel_rfl
theorem plainAttrs_bytearray : PlainAttrs "bytearray" where
 ga := ⟨"bytearray.__getattribute__", by rw [typeLookup_type, builtinLookup_eq_fast]; kernel_rfl, by decide +kernel⟩
 noGetattr := by rw [typeLookup_type, builtinLookup_eq_fast]; kernel_rfl
theorem plainAttrs_bytes : PlainAttrs "bytes" where
 ga := ⟨"bytes.__getattribute__", by rw [typeLookup_type, builtinLookup_eq_fast]; kernel_rfl, by decide +kernel⟩
 noGetattr := by rw [typeLookup_type, builtinLookup_eq_fast]; kernel_rfl
theorem slot_bytearray_append : Slot "bytearray" "append" "bytearray.append" :=
 .of (owner := "bytearray") (n := "append") (by rw [typeLookup_type, builtinLookup_eq_fast]; kernel_rfl) (by decide +kernel) (by decide +kernel) (by decide +kernel)
   (by first | exact .inl (by decide +kernel) | exact .inr (by decide +kernel)) (by rw [isSubtype_type]; kernel_rfl)
theorem type_bytearray_append : typeOf (.builtin "bytearray.append") = pure (.type "method_descriptor") := by show builtinType _ = _; rw [builtinType_eq_fast]; kernel_rfl
theorem entry_bytearray_append : entryFor table "bytearray.append" = some Builtin.«bytearray.append» := entryFor_of_fast (by kernel_rfl)
theorem args_bytearray_append (a b : Value) : argsOk "bytearray.append" ⟨[a, b], []⟩ := by
 unfold argsOk; rw [signature?_of (id := "bytearray.append") (n := ['d', 'n', 'e', 'p', 'p', 'a']) (o := ['y', 'a', 'r', 'r', 'a', 'e', 't', 'y', 'b']) (by kernel_rfl) owner_bytearray]; kernel_rfl
theorem slot_bytearray_extend : Slot "bytearray" "extend" "bytearray.extend" :=
 .of (owner := "bytearray") (n := "extend") (by rw [typeLookup_type, builtinLookup_eq_fast]; kernel_rfl) (by decide +kernel) (by decide +kernel) (by decide +kernel)
   (by first | exact .inl (by decide +kernel) | exact .inr (by decide +kernel)) (by rw [isSubtype_type]; kernel_rfl)
theorem type_bytearray_extend : typeOf (.builtin "bytearray.extend") = pure (.type "method_descriptor") := by show builtinType _ = _; rw [builtinType_eq_fast]; kernel_rfl
theorem entry_bytearray_extend : entryFor table "bytearray.extend" = some Builtin.«bytearray.extend» := entryFor_of_fast (by kernel_rfl)
theorem args_bytearray_extend (a b : Value) : argsOk "bytearray.extend" ⟨[a, b], []⟩ := by
 unfold argsOk; rw [signature?_of (id := "bytearray.extend") (n := ['d', 'n', 'e', 't', 'x', 'e']) (o := ['y', 'a', 'r', 'r', 'a', 'e', 't', 'y', 'b']) (by kernel_rfl) owner_bytearray]; kernel_rfl
theorem slot_bytes_rfind : Slot "bytes" "rfind" "bytes.rfind" :=
 .of (owner := "bytes") (n := "rfind") (by rw [typeLookup_type, builtinLookup_eq_fast]; kernel_rfl) (by decide +kernel) (by decide +kernel) (by decide +kernel)
   (by first | exact .inl (by decide +kernel) | exact .inr (by decide +kernel)) (by rw [isSubtype_type]; kernel_rfl)
theorem type_bytes_rfind : typeOf (.builtin "bytes.rfind") = pure (.type "method_descriptor") := by show builtinType _ = _; rw [builtinType_eq_fast]; kernel_rfl
theorem entry_bytes_rfind : entryFor table "bytes.rfind" = some Builtin.«bytes.rfind» := entryFor_of_fast (by kernel_rfl)
theorem args_bytes_rfind (a b : Value) : argsOk "bytes.rfind" ⟨[a, b], []⟩ := by
 unfold argsOk; rw [signature?_of (id := "bytes.rfind") (n := ['d', 'n', 'i', 'f', 'r']) (o := ['s', 'e', 't', 'y', 'b']) (by kernel_rfl) owner_bytes]; kernel_rfl
theorem slot_bytes_upper : Slot "bytes" "upper" "bytes.upper" :=
 .of (owner := "bytes") (n := "upper") (by rw [typeLookup_type, builtinLookup_eq_fast]; kernel_rfl) (by decide +kernel) (by decide +kernel) (by decide +kernel)
   (by first | exact .inl (by decide +kernel) | exact .inr (by decide +kernel)) (by rw [isSubtype_type]; kernel_rfl)
theorem type_bytes_upper : typeOf (.builtin "bytes.upper") = pure (.type "method_descriptor") := by show builtinType _ = _; rw [builtinType_eq_fast]; kernel_rfl
theorem entry_bytes_upper : entryFor table "bytes.upper" = some Builtin.«bytes.upper» := entryFor_of_fast (by kernel_rfl)
theorem args_bytes_upper (a : Value) : argsOk "bytes.upper" ⟨[a], []⟩ := by
 unfold argsOk; rw [signature?_of (id := "bytes.upper") (n := ['r', 'e', 'p', 'p', 'u']) (o := ['s', 'e', 't', 'y', 'b']) (by kernel_rfl) owner_bytes]; kernel_rfl
theorem slot_bytes_decode : Slot "bytes" "decode" "bytes.decode" :=
 .of (owner := "bytes") (n := "decode") (by rw [typeLookup_type, builtinLookup_eq_fast]; kernel_rfl) (by decide +kernel) (by decide +kernel) (by decide +kernel)
   (by first | exact .inl (by decide +kernel) | exact .inr (by decide +kernel)) (by rw [isSubtype_type]; kernel_rfl)
theorem type_bytes_decode : typeOf (.builtin "bytes.decode") = pure (.type "method_descriptor") := by show builtinType _ = _; rw [builtinType_eq_fast]; kernel_rfl
theorem entry_bytes_decode : entryFor table "bytes.decode" = some Builtin.«bytes.decode» := entryFor_of_fast (by kernel_rfl)
theorem args_bytes_decode (a b : Value) : argsOk "bytes.decode" ⟨[a, b], []⟩ := by
 unfold argsOk; rw [signature?_of (id := "bytes.decode") (n := ['e', 'd', 'o', 'c', 'e', 'd']) (o := ['s', 'e', 't', 'y', 'b']) (by kernel_rfl) owner_bytes]; kernel_rfl
end S
end
section
section
variable {prog : Program} {w : World} {A : Around} {E : Value → Shared → Prop} {s : Shared}
theorem wpQ_ite {α : Type} {M : Model} {c : Bool} {a b : Sem α} {Q : α → Shared → Prop} (h1 : c = true → wpQ M A a Q E s) (h2 : c = false → wpQ M A b Q E s) : wpQ M A (if c = true then a else b) Q E s := by
 cases c with
 | true => exact h1 rfl
 | false => exact h2 rfl
theorem codeQ_builtinU {id : String} {args : Args} {b : Builtin} {R : Result → Shared → Prop} (hb : entryFor table id = some b)
   (h : wpQ (model prog w) (A.under (.builtin id args)) (b args) (fun fin s' => match fin with | .done f => R (.ok f) s' | .again c' => c'.quiet = true ∧ holdsOne c' = false ∧ codeQ (model prog w) A c' R s') (fun e s' => R (.error e) s') s) :
   codeQ (model prog w) A (.builtin id args) R s := by
 refine codeQ_of_tree ?_
 show wpQ _ _ (match entryFor table id with | some b => b args | none => unsupported ((withoutEnding? id "#data").getD id)) _ _ s
 rw [hb]; exact h
theorem codeQ_builtin {id : String} {args : Args} {b : Builtin} {R : Result → Shared → Prop} (hp : plainId id = true) (hb : entryFor table id = some b)
   (h : wpQ (model prog w) A.in1 (b args) (fun fin s' => match fin with | .done f => R (.ok f) s' | .again c' => c'.quiet = true ∧ holdsOne c' = false ∧ codeQ (model prog w) A c' R s') (fun e s' => R (.error e) s') s) :
   codeQ (model prog w) A (.builtin id args) R s := by
 refine codeQ_of_tree ?_
 rw [Around.under_plainId hp args]
 show wpQ _ _ (match entryFor table id with | some b => b args | none => unsupported ((withoutEnding? id "#data").getD id)) _ _ s
 rw [hb]; exact h
theorem wpQ_method {T : String} {name : Str} {id : String} {B : Builtin} {self : Value} {rest : List Value} {Q : Value → Shared → Prop} (slot : Slot T name id) (hT : s.TypeIs self T)
   (entry : entryFor table id = some B) (args : argsOk id ⟨self :: rest, []⟩) (hh : holdsOne (.builtin id ⟨self :: rest, []⟩) = false)
   (h : wpQ (model prog w) A.in1 (B ⟨self :: rest, []⟩) (fun fin s' => ∃ v, fin = .done (.ret v) ∧ Q v s') E s) : wpQ (model prog w) A (call (.builtin id) (self :: rest)) Q E s := by
 refine wpQ_call (codeQ_of_tree ?_)
 show wpQ _ A.in1 (do checkBuiltinCall id ⟨self :: rest, []⟩; again (.builtin id ⟨self :: rest, []⟩)) _ _ s
 refine wpQ_bind (wpQ_of (slot.check _ _ _ _ _ _ _ _ hT args (wpQ_pure ⟨plainId_quiet slot.plain _, hh, codeQ_builtin slot.plain entry (wpQ_mono h (fun fin s' h' => ?_) fun _ _ e => e)⟩)))
 obtain ⟨v, rfl, hv⟩ := h'
 exact hv
theorem hold_any {f : Code × Pos → Bool} (hf : ∀ c q, c.isGuard = false → holdsOne c = false → f (c, q) = false) : ∀ l : List (Code × Pos), guardsOf l = [] → (∀ x ∈ l, holdsOne x.1 = false) → l.any f = false := fun l hg hn =>
 List.any_eq_false.mpr fun x hm => Bool.not_eq_true _ ▸ hf x.1 x.2 ((Bool.not_eq_true _).mp fun hc => by
   have h1 : x.1 ∈ guardsOf l := List.mem_filter.mpr ⟨List.mem_map.mpr ⟨_, hm, rfl⟩, hc⟩
   rw [hg] at h1; cases h1) (hn x hm)
theorem not_guard {id x : String} {args : Args} (hg : (Code.builtin id args).isGuard = false) (hx : guardIds.contains x = true) : ¬ id = x := fun e => Bool.noConfusion (hx.symm.trans (e ▸ hg))
open Builtin.Bytes in
theorem held_off (v self : Value) (id : String) (l : List Value) (k : List (Str × Value)) (h : holdsOne (.builtin id ⟨v :: l, k⟩) = false) : (Builtin.Bytes.sameRef v self && decodersThatHold.contains id) = false :=
 Value.casesOn (motive := fun v => holdsOne (.builtin id ⟨v :: l, k⟩) = false → (Builtin.Bytes.sameRef v self && decodersThatHold.contains id) = false) v (fun _ => rfl) (fun _ => rfl) (fun _ => rfl) (fun _ _ => rfl) (fun _ _ _ => rfl) (fun _ _ _ => rfl) (fun _ _ _ => rfl) (fun _ _ _ => rfl) (fun _ _ => rfl) (fun _ _ => rfl) (fun _ h => (congrArg (_ && ·) h).trans (Bool.and_false _)) h
open Builtin.Bytes in
theorem wpQ_exported {M : Model} {a : Addr} {Q : Bool → Shared → Prop} (hg : A.guards = some []) (h : Q false s) : wpQ M A (exported (.ref a)) Q E s := fun Γ p hi hn => by
 show Q (((Γ.code, p) :: Γ.below).any _) s
 refine (show ∀ b : Bool, b = false → Q b s from fun b hb => hb ▸ h) _ (hold_any ?_ _ ((guardsOf_cons ..).trans (hi.2.2.2.1 [] hg)) (List.forall_mem_cons.mpr ⟨hn.code, hn.below⟩))
 intro c q h1 h2
 cases c with
 | builtin id args =>
   obtain ⟨pos, kw⟩ := args
   delta exported.match_1
   refine (dif_neg (not_guard h1 (x := "bytearray.__contains__") (by decide))).trans ?_
   refine (dif_neg (not_guard h1 (x := "bytearray.__mod__") (by decide))).trans ?_
   refine (dif_neg (not_guard h1 (x := "bytearray.__rmod__") (by decide))).trans ?_
   refine (dif_neg (not_guard h1 (x := "_struct.pack_into.held") (by decide))).trans ?_
   refine (dif_neg (not_guard h1 (x := "bytearray.find.held") (by decide))).trans ?_
   cases pos with
   | nil => rfl
   | cons v l => exact held_off v _ id l kw h2
 | _ => rfl
noncomputable abbrev baObj (b : List UInt8) : Obj := { cls := .type "bytearray", data := .bytearray b.toArray 0 }
theorem pastItsLine_ba {b : List UInt8} (h : b.length ≤ sizeLine) : (baObj b).data.pastItsLine = none := by
 show (if b.toArray.size > sizeLine then some _ else none) = none
 exact if_neg (Nat.not_lt.mpr (by rw [List.size_toArray]; exact h))
open Builtin.Bytes in
theorem wpQ_checkResize {a : Addr} {b : List UInt8} {Q : Unit → Shared → Prop} (hg : A.guards = some []) (ho : s.heap.get? a = some (baObj b)) (h : Q () s) : wpQ (model prog w) A (checkResize (.ref a)) Q E s := by
 unfold checkResize
 refine wpQ_bind ?_
 unfold orM
 refine wpQ_bind (wpQ_exported hg ?_)
 show wpQ _ _ (exportsOf (.ref a) >>= fun n => pure (decide (n > 0))) _ _ s
 refine wpQ_bind (wpQ_of ?_)
 unfold exportsOf
 refine wpAny_bind (wpAny_load ho ?_)
 exact wpAny_pure (wpQ_pure (wpQ_pure h))
open Builtin.Bytes in
theorem wpAny_baWrite {a : Addr} {b c : List UInt8} {f : Array UInt8 → Array UInt8} {Q : Unit → Shared → Prop} (ho : s.heap.get? a = some (baObj b)) (hf : f b.toArray = c.toArray) (hsz : c.length ≤ sizeLine)
   (h : ∀ h', h'.get? a = some (baObj c) → Heap.SameBut a s.heap h' → Q () { s with heap := h' }) : wpAny (model prog w) A (write (.ref a) f) Q E s := by
 show wpAny _ _ (updateBytearray a f) _ _ s
 unfold updateBytearray
 refine wpAny_bind (wpAny_load ho ?_)
 refine wpAny_bind (wpAny_update ho ?_)
 have e : Obj.mapBytearray f (baObj b) = baObj c := by
   show ({ cls := .type "bytearray", dict := none, data := .bytearray (f b.toArray) 0, slots := #[] } : Obj) = _
   rw [hf]
 have ho' : (s.heap.update a (Obj.mapBytearray f)).get? a = some (baObj c) := by
   rw [Heap.get?_update_self _ ho (by rw [e]; rfl), e]
 exact wpAny_lookBehind ho' (pastItsLine_ba hsz) (h _ ho' (Heap.SameBut.update ..))
theorem push_byte (b : List UInt8) (c : UInt8) : b.toArray.push c = (b ++ [c]).toArray := by simp
theorem wpQ_baAppend {a : Addr} {b : List UInt8} {i : Int} {t : Tok} {Q : Value → Shared → Prop} (hg : A.guards = some []) (ho : s.heap.get? a = some (baObj b)) (h0 : 0 ≤ i) (h1 : i < 256) (hsz : b.length + 1 ≤ sizeLine)
   (h : ∀ h', h'.get? a = some (baObj (b ++ [i.toNat.toUInt8])) → Heap.SameBut a s.heap h' → Q .none { s with heap := h' }) :
   wpQ (model prog w) A (call (.builtin "bytearray.append") [.ref a, .int i t]) Q E s := by
 refine wpQ_method S.slot_bytearray_append ⟨_, ho, rfl⟩ S.entry_bytearray_append (S.args_bytearray_append _ _) (show Builtin.Bytes.decodersThatHold.contains "bytearray.append" = false by decide) ?_
 unfold Builtin.«bytearray.append»
 refine wpQ_bind (m := selfAndOne "bytearray.append" _) (wpQ_pure ?_)
 refine wpQ_bind (wpQ_of ?_)
 unfold Builtin.Bytes.byteValue
 refine wpAny_bind (m := asIndex (.int i t)) (wpAny_of_eq (a := i) rfl ?_)
 have hi : (decide (i < 0) || decide (i ≥ 256)) = false := by simp; exact ar13 h0 h1
 show wpAny _ _ (if (decide (i < 0) || decide (i ≥ 256)) = true then _ else _) _ _ s
 rw [hi]
 refine wpAny_pure ?_
 refine wpQ_bind (wpQ_checkResize (by exact hg) ho ?_)
 refine wpQ_bind (wpQ_of (wpAny_baWrite ho (push_byte _ _) (by rw [List.length_append]; exact hsz) fun h' ho' hs => ?_))
 exact wpQ_pure ⟨.none, rfl, h h' ho' hs⟩
end
end
section
namespace S
theorem lk_bytes_buffer : typeLookup (.type "bytes") "__buffer__" = pure (some (.builtin "bytes.__buffer__")) := by rw [typeLookup_type, builtinLookup_eq_fast]; kernel_rfl
theorem lk_bytes_release : typeLookup (.type "bytes") "__release_buffer__" = pure none := by rw [typeLookup_type, builtinLookup_eq_fast]; kernel_rfl
theorem lk_ba_buffer : typeLookup (.type "bytearray") "__buffer__" = pure (some (.builtin "bytearray.__buffer__")) := by rw [typeLookup_type, builtinLookup_eq_fast]; kernel_rfl
theorem lk_ba_release : typeLookup (.type "bytearray") "__release_buffer__" = pure (some (.builtin "bytearray.__release_buffer__")) := by rw [typeLookup_type, builtinLookup_eq_fast]; kernel_rfl
theorem sub_bytes : isSubtype (.type "bytes") (.type "bytes") = pure true := by rw [isSubtype_type]; kernel_rfl
theorem sub_ba : isSubtype (.type "bytearray") (.type "bytearray") = pure true := by rw [isSubtype_type]; kernel_rfl
end S
section
variable {prog : Program} {w : World} {A : Around} {E : Value → Shared → Prop} {s : Shared}
open Builtin.Bytes
theorem wpAny_slotIsOwn {v : Value} {T name id : String} {Q : Bool → Shared → Prop} (hT : s.TypeIs v T) (hl : typeLookup (.type T) (name : Str) = pure (some (.builtin id))) (he : id.endsWith ("." ++ name) = true) (hd : id.dropRight (name.length + 1) = T)
   (hsub : isSubtype (.type T) (.type T) = pure true) (h : Q true s) : wpAny (model prog w) A (slotIsOwn v name) Q E s := by
 unfold slotIsOwn
 refine wpAny_bind (wpAny_specialOf hT hl ?_)
 dsimp only
 rw [he]
 simp only [Bool.not_true, Bool.false_eq_true, if_false]
 rw [hd]
 exact wpAny_isInstance hT hsub h
theorem wpAny_slotIsOwn_none {v : Value} {T name : String} {Q : Bool → Shared → Prop} (hT : s.TypeIs v T) (hl : typeLookup (.type T) (name : Str) = pure none) (h : Q true s) : wpAny (model prog w) A (slotIsOwn v name) Q E s := by
 unfold slotIsOwn
 exact wpAny_bind (wpAny_specialOf hT hl (wpAny_pure h))
theorem wpAny_buffer_bytes {id : String} {b : Array UInt8} {t : Tok} {full : Bool} {Q : Option (Array UInt8) → Shared → Prop} (h : Q (some b) s) : wpAny (model prog w) A (buffer? id (.bytes b t) full) Q E s := by
 have hT := typeIs_bytes s b t
 unfold buffer?
 refine wpAny_bind (wpAny_specialOf hT S.lk_bytes_buffer ?_)
 refine wpAny_bind (wpAny_slotIsOwn hT S.lk_bytes_buffer (by decide +kernel) (by decide +kernel) S.sub_bytes ?_)
 simp only [Bool.not_true, Bool.false_eq_true, if_false]
 refine wpAny_bind (wpAny_specialOf hT S.lk_bytes_buffer ?_)
 refine wpAny_bind (m := ownRelease _) ?_
 unfold ownRelease
 refine wpAny_bind (wpAny_slotIsOwn_none hT S.lk_bytes_release (wpAny_pure ?_))
 simp only [Bool.not_true, Bool.false_eq_true, if_false]
 exact wpAny_bind (m := payload _) (wpAny_pure (wpAny_pure h))
theorem wpAny_buffer_ba {id : String} {a : Addr} {b : List UInt8} {full : Bool} {Q : Option (Array UInt8) → Shared → Prop} (ho : s.heap.get? a = some (baObj b)) (h : Q (some b.toArray) s) : wpAny (model prog w) A (buffer? id (.ref a) full) Q E s := by
 have hT : s.TypeIs (.ref a) "bytearray" := ⟨_, ho, rfl⟩
 unfold buffer?
 refine wpAny_bind (wpAny_specialOf hT S.lk_ba_buffer ?_)
 refine wpAny_bind (wpAny_slotIsOwn hT S.lk_ba_buffer (by decide +kernel) (by decide +kernel) S.sub_ba ?_)
 simp only [Bool.not_true, Bool.false_eq_true, if_false]
 refine wpAny_bind (wpAny_specialOf hT S.lk_ba_buffer ?_)
 refine wpAny_bind (m := ownRelease _) ?_
 unfold ownRelease
 refine wpAny_bind (wpAny_slotIsOwn hT S.lk_ba_release (by decide +kernel) (by decide +kernel) S.sub_ba (wpAny_pure ?_))
 simp only [Bool.not_true, Bool.false_eq_true, if_false]
 refine wpAny_bind (m := payload _) ?_
 unfold payload payload?
 exact wpAny_bind (wpAny_bind (wpAny_load ho (wpAny_pure (wpAny_pure (wpAny_pure h)))))
theorem wpAny_ba_payload {a : Addr} {b : List UInt8} {Q : Array UInt8 → Shared → Prop} (ho : s.heap.get? a = some (baObj b)) (h : Q b.toArray s) : wpAny (model prog w) A (payload (.ref a)) Q E s := by
 unfold payload payload?
 exact wpAny_bind (wpAny_bind (wpAny_load ho (wpAny_pure (wpAny_pure h))))
theorem wpQ_baExtend {a : Addr} {b : List UInt8} {c : List UInt8} {t : Tok} {Q : Value → Shared → Prop} (hg : A.guards = some []) (ho : s.heap.get? a = some (baObj b)) (hsz : b.length + c.length ≤ sizeLine)
   (h : ∀ h', h'.get? a = some (baObj (b ++ c)) → Heap.SameBut a s.heap h' → Q .none { s with heap := h' }) :
   wpQ (model prog w) A (call (.builtin "bytearray.extend") [.ref a, .bytes c.toArray t]) Q E s := by
 have hT := typeIs_bytes s c.toArray t
 refine wpQ_method S.slot_bytearray_extend ⟨_, ho, rfl⟩ S.entry_bytearray_extend (S.args_bytearray_extend _ _) (show Builtin.Bytes.decodersThatHold.contains "bytearray.extend" = false by decide) ?_
 unfold Builtin.«bytearray.extend»
 refine wpQ_bind (m := selfAndOne "bytearray.extend" _) (wpQ_pure ?_)
 refine wpQ_bind (wpQ_of (wpAny_specialOf hT S.lk_bytes_buffer ?_))
 simp only [Option.isSome_some, if_true]
 refine wpQ_bind (wpQ_of (wpAny_rule ?_))
 refine wpQ_bind (wpQ_of (wpAny_ba_payload ho ?_))
 refine wpQ_bind (m := takeBufferQuiet? _ _ _) (wpQ_of ?_)
 unfold takeBufferQuiet?
 refine wpAny_bind (wpAny_attempt ?_)
 unfold takeBuffer?
 refine wpAny_bind (wpAny_specialOf hT S.lk_bytes_buffer ?_)
 refine wpAny_bind (wpAny_slotIsOwn hT S.lk_bytes_buffer (by decide +kernel) (by decide +kernel) S.sub_bytes ?_)
 simp only [Bool.not_true, Bool.false_eq_true, if_false]
 refine wpAny_bind (wpAny_specialOf hT S.lk_bytes_buffer ?_)
 refine wpAny_bind (wpAny_buffer_bytes (wpAny_pure (wpAny_pure ?_)))
 show wpQ _ _ ((if (!c.toArray.isEmpty) = true then checkResize (.ref a) >>= fun _ => write (.ref a) (· ++ c.toArray) >>= fun _ => ret .none else write (.ref a) (· ++ c.toArray) >>= fun _ => ret .none)) _ _ s
 have fin : wpQ (model prog w) A.in1 (write (.ref a) (· ++ c.toArray) >>= fun _ => ret .none) (fun fin s' => ∃ v, fin = .done (.ret v) ∧ Q v s') E s :=
   wpQ_bind (wpQ_of (wpAny_baWrite (c := b ++ c) ho (by simp) (by rw [List.length_append]; exact hsz) fun h' ho' hs => wpQ_pure ⟨.none, rfl, h h' ho' hs⟩))
 cases hc : c.toArray.isEmpty
 · simp only [Bool.not_false, if_true]
   exact wpQ_bind (wpQ_checkResize hg ho fin)
 · simp only [Bool.not_true, Bool.false_eq_true, if_false]
   exact fin
end
end
section
namespace S
theorem mro_bytes : mroOf (.type "bytes") = pure [.type "bytes", .type "object"] := by rw [mroOf_type]; kernel_rfl
theorem lookup_bytes_new : typeLookup (.type "bytes") "__new__" = pure (some (.builtin "bytes.__new__")) := by rw [typeLookup_type, builtinLookup_eq_fast]; kernel_rfl
theorem slot_bytes_init : Slot "bytes" "__init__" "object.__init__" :=
 .of (owner := "object") (n := "__init__") (by rw [typeLookup_type, builtinLookup_eq_fast]; kernel_rfl) (by decide +kernel) (by decide +kernel) (by decide +kernel)
   (by first | exact .inl (by decide +kernel) | exact .inr (by decide +kernel)) (by rw [isSubtype_type]; kernel_rfl)
theorem called_bytes : TypeCalled "bytes" "bytes.__new__" "object.__init__" :=
 ⟨by decide +kernel, by decide +kernel, ⟨_, _, mro_bytes⟩, madeBy_type mro_bytes lookup_bytes_new (by decide +kernel), by decide +kernel, by rw [isSubtype_type]; kernel_rfl, slot_bytes_init⟩
theorem typeCall_bytes_1 (a : Value) : checkTypeCall "bytes" ⟨[a], []⟩ = pure () := by kernel_rfl
theorem newCall_bytes_1 (a : Value) : checkBuiltinCall "bytes.__new__" ⟨[.type "bytes", a], []⟩ = pure () := by kernel_rfl
theorem entry_bytes_new : entryFor table "bytes.__new__" = some Builtin.«bytes.__new__» := entryFor_of_fast (by kernel_rfl)
theorem lk_ba_bytes : typeLookup (.type "bytearray") "__bytes__" = pure none := by rw [typeLookup_type, builtinLookup_eq_fast]; kernel_rfl
theorem lk_ba_index : typeLookup (.type "bytearray") "__index__" = pure none := by rw [typeLookup_type, builtinLookup_eq_fast]; kernel_rfl
theorem mro_ba : mroOf (.type "bytearray") = pure [.type "bytearray", .type "object"] := by rw [mroOf_type]; kernel_rfl
theorem lookup_ba_new : typeLookup (.type "bytearray") "__new__" = pure (some (.builtin "bytearray.__new__")) := by rw [typeLookup_type, builtinLookup_eq_fast]; kernel_rfl
theorem slot_ba_init : Slot "bytearray" "__init__" "bytearray.__init__" :=
 .of (owner := "bytearray") (n := "__init__") (by rw [typeLookup_type, builtinLookup_eq_fast]; kernel_rfl) (by decide +kernel) (by decide +kernel) (by decide +kernel)
   (by first | exact .inl (by decide +kernel) | exact .inr (by decide +kernel)) (by rw [isSubtype_type]; kernel_rfl)
theorem called_ba : TypeCalled "bytearray" "bytearray.__new__" "bytearray.__init__" :=
 ⟨by decide +kernel, by decide +kernel, ⟨_, _, mro_ba⟩, madeBy_type mro_ba lookup_ba_new (by decide +kernel), by decide +kernel, by rw [isSubtype_type]; kernel_rfl, slot_ba_init⟩
theorem typeCall_ba_0 : checkTypeCall "bytearray" ⟨[], []⟩ = pure () := by kernel_rfl
theorem newCall_ba_0 : checkBuiltinCall "bytearray.__new__" ⟨[.type "bytearray"], []⟩ = pure () := by kernel_rfl
theorem entry_ba_new : entryFor table "bytearray.__new__" = some Builtin.«list.__new__» := entryFor_alias (id' := "list.__new__") (by kernel_rfl) (by decide +kernel) (by decide +kernel) (by kernel_rfl)
theorem entry_ba_init : entryFor table "bytearray.__init__" = some Builtin.«bytearray.__init__» := entryFor_of_fast (by kernel_rfl)
theorem args_ba_init (a : Value) : argsOk "bytearray.__init__" ⟨[a], []⟩ := by
 unfold argsOk; rw [signature?_of (id := "bytearray.__init__") (n := ['_', '_', 't', 'i', 'n', 'i', '_', '_']) (o := ['y', 'a', 'r', 'r', 'a', 'e', 't', 'y', 'b']) (by kernel_rfl) owner_bytearray]; kernel_rfl
end S
section
variable {prog : Program} {w : World} {A : Around} {E : Value → Shared → Prop} {s : Shared}
open Builtin.Bytes
theorem meets_bytes_new (a : Addr) (b : List UInt8) (hsz : b.length ≤ sizeLine) :
   Meets (Builtin.«bytes.__new__» ⟨[.type "bytes", .ref a], []⟩) (fun _ R s => s.heap.get? a = some (baObj b) ∧ ∀ t k, R (.ok (.ret (.bytes b.toArray t))) { s with toks := k }) := by
 refine .of_wp fun prog w A R s hS => ?_
 obtain ⟨ho, h⟩ := hS
 have hT : s.TypeIs (.ref a) "bytearray" := ⟨_, ho, rfl⟩
 unfold Builtin.«bytes.__new__»
 dsimp only
 refine wpAny_bind (m := isType _) (wpAny_pure ?_)
 simp only [Bool.not_true, Bool.false_eq_true, if_false]
 refine wpAny_bind (wpAny_of_eq S.sub_bytes ?_)
 simp only [Bool.not_true, Bool.false_eq_true, if_false]
 refine wpAny_bind (m := bindOptional _ _ _ _ _) (wpAny_of_eq (a := [some (.ref a), none, none]) (by kernel_rfl) ?_)
 refine wpAny_bind (m := checkCodecArg _ _ _ none) (wpAny_pure ?_)
 refine wpAny_bind (m := checkCodecArg _ _ _ none) (wpAny_pure ?_)
 simp only [Option.isSome_none, Bool.false_eq_true, if_false]
 refine wpAny_bind (wpAny_specialOf hT S.lk_ba_bytes ?_)
 dsimp only
 refine wpAny_bind (m := (do return (← asStr? (.ref a)).isSome)) ?_
 refine wpAny_bind (m := asStr? _) ?_
 show wpAny _ _ (do match (← load a).data with | .prim (.str s _) => pure (some s) | _ => pure none) _ _ s
 refine wpAny_bind (wpAny_load ho (wpAny_pure (wpAny_pure ?_)))
 simp only [Option.isSome_none, Bool.false_eq_true, if_false]
 refine wpAny_bind (wpAny_specialOf hT S.lk_ba_index ?_)
 simp only [Option.isNone_none, if_true]
 refine wpAny_bind (wpAny_buffer_ba ho ?_)
 refine wpAny_bind (wpAny_rule (wpAny_bind (wpAny_mkBytes ?_ (by rw [List.size_toArray]; exact hsz))))
 exact wpAny_pure ⟨_, rfl, h _ _⟩
theorem call_bytes_ba {a : Addr} {b : List UInt8} {Q : Value → Shared → Prop} (ho : s.heap.get? a = some (baObj b)) (hsz : b.length ≤ sizeLine) (h : ∀ t k, Q (.bytes b.toArray t) { s with toks := k }) :
   wpAny (model prog w) A (call (.type "bytes") [.ref a]) Q E s :=
 callType_new S.called_bytes (by decide) (S.typeCall_bytes_1 _) (S.newCall_bytes_1 _) (fun obj => PySem.F.args_object_init_2 _ _) S.entry_bytes_new (meets_bytes_new a b hsz) ⟨ho, fun t k => ⟨typeIs_bytes _ _ _, h t k⟩⟩
set_option maxRecDepth 1000000 in
set_option maxHeartbeats 4000000 in
theorem owner_ba_new : ("bytearray.__new__".splitOn ".__new__").headD "" = "bytearray" := by simp +decide [String.splitOn, String.splitOnAux]
theorem code_ba_new {Q₁ : Value → Shared → Prop} (h : Q₁ (.ref s.heap.objs.size) { s with heap := s.heap.push (baObj []) }) :
   codeAny (model prog w) A (.call (.builtin "bytearray.__new__") ⟨[.type "bytearray"], []⟩) (wants Q₁ E) s := by
 refine codeAny_of_tree ?_
 show wpAny _ A.in1 (do checkBuiltinCall "bytearray.__new__" ⟨[.type "bytearray"], []⟩; again (.builtin "bytearray.__new__" ⟨[.type "bytearray"], []⟩)) _ _ s
 refine wpAny_bind (wpAny_of_eq S.newCall_ba_0 (wpAny_pure ⟨plainId_quiet (by decide +kernel) _, codeAny_builtin_stack S.entry_ba_new rfl fun p st => ?_⟩))
 rw [Around.under_plainId (by decide +kernel) _]
 have hsub := S.sub_ba
 have hown := owner_ba_new
 obtain ⟨hp, g, d, tk, os⟩ := s
 simp only [hown]
 wp_walk
 exact h
theorem wpQ_baInit {a : Addr} {Q : Value → Shared → Prop} (hg : A.guards = some []) (ho : s.heap.get? a = some (baObj []))
   (h : ∀ h', h'.get? a = some (baObj []) → Heap.SameBut a s.heap h' → Q .none { s with heap := h' }) : wpQ (model prog w) A (call (.builtin "bytearray.__init__") [.ref a]) Q E s := by
 have hT : s.TypeIs (.ref a) "bytearray" := ⟨_, ho, rfl⟩
 refine wpQ_method S.slot_ba_init hT S.entry_ba_init (S.args_ba_init _) (show Builtin.Bytes.decodersThatHold.contains "bytearray.__init__" = false by decide) ?_
 unfold Builtin.«bytearray.__init__»
 dsimp only
 refine wpQ_bind (m := ownRelease _) (wpQ_of ?_)
 unfold ownRelease
 refine wpAny_bind (wpAny_slotIsOwn hT S.lk_ba_release (by decide +kernel) (by decide +kernel) S.sub_ba (wpAny_pure ?_))
 simp only [Bool.not_true, Bool.false_eq_true, if_false]
 refine wpQ_bind (m := bindOptional _ _ _ _ _) (wpQ_of_eq (a := [none, none, none]) (by kernel_rfl) ?_)
 dsimp only
 refine wpQ_bind (m := checkCodecArg _ _ _ none) (wpQ_pure ?_)
 refine wpQ_bind (m := checkCodecArg _ _ _ none) (wpQ_pure ?_)
 refine wpQ_bind ?_
 unfold orM
 refine wpQ_bind (wpQ_exported hg ?_)
 show wpQ _ _ (exportsOf (.ref a) >>= fun n => pure (decide (n > 0))) _ _ s
 refine wpQ_bind (wpQ_of ?_)
 unfold exportsOf
 refine wpAny_bind (wpAny_load ho ?_)
 refine wpAny_pure (wpQ_pure ?_)
 simp only [gt_iff_lt, Nat.lt_irrefl, decide_false, Bool.false_eq_true, if_false]
 refine wpQ_bind (wpQ_of (wpAny_baWrite (c := []) ho rfl (by decide) fun h' ho' hs => ?_))
 exact wpQ_pure ⟨.none, rfl, h h' ho' hs⟩
end
end
section
section
variable {prog : Program} {w : World} {A : Around} {E : Value → Shared → Prop} {s : Shared}
open Builtin.Bytes
theorem wpQ_baNew {Q : Value → Shared → Prop} (hg : A.guards = some []) (h : ∀ h', h'.get? s.heap.objs.size = some (baObj []) → Ext s.heap h' → Q (.ref s.heap.objs.size) { s with heap := h' }) :
   wpQ (model prog w) A (call (.type "bytearray") []) Q E s := by
 refine wpQ_call (codeQ_of_tree ?_)
 show wpQ _ _ (callAny (.type "bytearray") _) _ _ _
 refine wpQ_pure ⟨Code.quiet_builtin _ (by decide +kernel), rfl, codeQ_builtinU PySem.F.entry_type_call ?_⟩
 rw [Around.under_plain (weight_type_call_type "bytearray" [] []) rfl]
 have h1 := S.called_ba.notType
 have h2 := S.called_ba.canCreate
 unfold Builtin.«type.__call__»
 dsimp only
 rw [h1]
 simp only [Bool.false_eq_true, if_false]
 rw [h2]
 simp only [Bool.false_eq_true, if_false]
 refine wpQ_bind (m := checkTypeCall "bytearray" ⟨[], []⟩) ?_
 rw [S.typeCall_ba_0]
 refine wpQ_pure ?_
 refine wpQ_bind (wpQ_of_eq S.mro_ba ?_)
 simp only [List.isEmpty_cons, Bool.false_eq_true, if_false]
 refine wpQ_bind (wpQ_of_eq S.called_ba.made ?_)
 dsimp only
 refine wpQ_bind (wpQ_pure ?_)
 refine wpQ_bind (wpQ_holding (wpQ_of (wpAny_call (code_ba_new ?_))))
 have hT : Shared.TypeIs { s with heap := s.heap.push (baObj []) } (.ref s.heap.objs.size) "bytearray" := ⟨_, Heap.get?_push_size _ rfl, rfl⟩
 refine wpQ_bind (wpQ_of (wpAny_isInstance hT S.sub_ba ?_))
 simp only [Bool.not_true, Bool.false_eq_true, if_false]
 refine wpQ_bind (wpQ_holding ?_)
 unfold callSpecial?
 refine wpQ_bind (wpQ_of (wpAny_specialOf hT S.slot_ba_init.lookup ?_))
 dsimp only
 refine wpQ_holding (wpQ_bind (wpQ_of_eq (S.slot_ba_init.bind _) ?_))
 dsimp only
 refine wpQ_bind ?_
 show wpQ _ _ (call (.builtin "bytearray.__init__") [.ref s.heap.objs.size]) _ _ _
 refine wpQ_baInit hg (Heap.get?_push_size _ rfl) fun h' ho' hs => ?_
 refine wpQ_pure ?_
 dsimp only
 refine wpQ_pure ?_
 exact h h' ho' fun b o e => hs.extBut b o (Nat.ne_of_lt (Heap.lt_size e)) (Heap.get?_push_of_some _ e)
end
end
section
section
variable {prog : Program} {w : World} {hB : Heap} {mg mb : Str → Option Value} {C : Cfg} {n : Nat} {σ σ' σ'' : Loc} {m : Str → Option Value} {O : List Addr} {h h' : Heap} {r : Bool} {Φ Ψ : Fl → Loc → Prop} {rest : List Stmt}
theorem as_tup (K : Ok prog w hB mg mb C n) {ts : List Expr} {k : Nat} {pos : Pos} {ds : List D} (ha : AsL prog w C σ ts ds σ') (hn : ts.length = ds.length := by rfl) (hlen : ∀ env, (assignEach ts env).length = ts.length := by intro _; rfl)
   (hstar : ∀ env, (assignEach ts env).findIdx? (·.1) = none := by intro _; rfl) : As prog w C σ (.Tuple ts k pos) (.tup ds) σ' := fun s m O v Q E S hr q => by
 cases hr with
 | tup hO ht hrs =>
   refine wpAny_assign_Tuple K.R.handled ht (by rw [hlen, hn, List.size_toArray, hrs.length]) (hstar _) fun h₂ he => ?_
   have x₂ : Ext s.heap h₂ := fun b o e => he b o (Nat.ne_of_lt (Heap.lt_size e)) e
   exact ha _ m O _ _ E (S.ext' K x₂) (by rw [List.toList_toArray]; exact hrs.ext x₂) fun m' h3 tk' S'' hk => q m' h3 tk' S'' fun b o hb e => hk b o hb (x₂ b o e)
end
section
variable (prog : Program) (w : World) (C : Cfg)
def EvQ (r : Bool) (σ : Loc) (e : Expr) (d : D) : Prop :=
 ∀ (s : Shared) m O (Q : Value → Shared → Prop) (E : Value → Shared → Prop), StX C m O σ s.heap →
   (∀ v h' tk, Ext s.heap h' → Rep (if r then C.O₀ else O) h' v d → Q v { s with heap := h', toks := tk }) → wpQ (model prog w) C.A (eval e C.env) Q E s
def EvAQ (r : Bool) (σ : Loc) (pos : Pos) (es : List Expr) (ds : List D) : Prop :=
 ∀ (s : Shared) m O (Q : List Value → Shared → Prop) (E : Value → Shared → Prop), StX C m O σ s.heap →
   (∀ vs h' tk, Ext s.heap h' → Reps (if r then C.O₀ else O) h' vs ds → Q vs { s with heap := h', toks := tk }) → wpQ (model prog w) C.A (spliced (backTo pos (starEach es C.env))) Q E s
def WpQ (σ : Loc) (ss : List Stmt) (Φ : Fl → Loc → Prop) : Prop :=
 ∀ (s : Shared) m O (Q : Flow → Shared → Prop) (E : Value → Shared → Prop), StX C m O σ s.heap →
   (∀ f φ σ' h' tk m' O', Φ φ σ' → FlR C.O₀ h' f φ → StX C m' O' σ' h' → Grow O s.heap O' h' → Q f { s with heap := h', toks := tk }) → wpQ (model prog w) C.A (execs ss C.env) Q E s
def SeqQ (rest : List Stmt) (Φ : Fl → Loc → Prop) (φ : Fl) (σ' : Loc) : Prop :=
 match φ with
 | .next => WpQ prog w C σ' rest Φ
 | φ => Φ φ σ'
def LoopEndQ (next : Loc → Prop) (rest : List Stmt) (Φ : Fl → Loc → Prop) (φ : Fl) (σ' : Loc) : Prop :=
 match φ with
 | .next => next σ'
 | .cont => next σ'
 | .brk => WpQ prog w C σ' rest Φ
 | .ret d => Φ (.ret d) σ'
end
def FnQ (prog : Program) (w : World) (hB : Heap) (f : Value) (args : List D) (d : D) (n : Nat) : Prop :=
 ∀ (A : Around) (s : Shared) (O : List Addr) (vals : List Value) (Q : Value → Shared → Prop) (E : Value → Shared → Prop), Room A n → A.guards = some [] → Ext hB s.heap → Own hB O s.heap → Reps O s.heap vals args →
   (∀ v h' tk, Ext s.heap h' → Rep O h' v d → Q v { s with heap := h', toks := tk }) → wpQ (model prog w) A (call f vals []) Q E s
section
variable {M : Model} {A : Around} {E : Value → Shared → Prop} {s : Shared} {env : Env}
theorem wpQ_execs_cons {st rest} {Q : Flow → Shared → Prop}
   (h : wpQ M A (exec st env) (fun f s' => match f with | .next => wpQ M A (execs rest env) Q E s' | f => Q f s') E s) : wpQ M A (execs (st :: rest) env) Q E s := by
 rw [execs_cons]
 refine wpQ_bind (wpQ_mono h (fun f s' h' => ?_) fun _ _ e => e)
 cases f <;> first | exact h' | exact wpQ_pure h'
theorem wpQ_bindName {x : Str} {v : Value} {Q : Unit → Shared → Prop} (h : wpQ M A (storeName env x v) Q E s) : wpQ M A (bindName env x v) Q E s := fun Γ p hi hn => by
 rw [Sem.wp_bindName]; exact h Γ p hi hn
theorem wpQ_Assign_Name {x pos' value pos} {Q : Flow → Shared → Prop}
   (h : wpQ M A (eval value env) (fun v s₁ => wpQ M A (storeName env x v) (fun _ => Q .next) E s₁) E s)
   (hs : swapsWith value (some (.Name x pos')) pos.line env = pure false := by rfl) : wpQ M A (exec (.Assign [.Name x pos'] value pos) env) Q E s := by
 rw [exec_Assign_Name env x pos' value pos hs]
 refine wpQ_bind (wpQ_standAt (wpQ_bind (wpQ_mono h (fun v s₁ h₁ => ?_) fun _ _ e => e)))
 exact wpQ_bind (wpQ_standAt (wpQ_bind (wpQ_bindName (wpQ_mono h₁ (fun _ _ q => wpQ_pure q) fun _ _ e => e))))
theorem wpQ_BinOp {l op r pos} {Q : Value → Shared → Prop}
   (h : wpQ M A (eval l env) (fun a s₁ => wpQ M A (eval r env) (fun b s₂ => wpAny M A (binaryOp op a b) Q E s₂) E s₁) E s) : wpQ M A (eval (.BinOp l op r pos) env) Q E s := by
 rw [eval_BinOp]
 refine wpQ_bind (wpQ_mono h (fun a s₁ h₁ => wpQ_bind (wpQ_holding (wpQ_mono h₁ (fun b s₂ h₂ => wpQ_bind (wpQ_standAt (wpQ_of (wpAny_operate' h₂)))) fun _ _ e => e))) fun _ _ e => e)
theorem wpQ_Return_some {e pos} {Q : Flow → Shared → Prop} (h : wpQ M A (eval e env) (fun v => Q (.ret v)) E s) : wpQ M A (exec (.Return (some e) pos) env) Q E s := by
 rw [exec_Return_some]
 exact wpQ_bind (wpQ_standAt (wpQ_bind (wpQ_mono h (fun v s' q => wpQ_pure q) fun _ _ e => e)))
theorem wpQ_If {test body orelse pos} {Q : Flow → Shared → Prop}
   (h : wpAny M A (isTrue test env (eval test env)) (fun b s₂ => if b then wpQ M A (execs body env) Q E s₂ else wpQ M A (execs orelse env) Q E s₂) E s) : wpQ M A (exec (.If test body orelse pos) env) Q E s := by
 rw [exec_If]
 refine wpQ_bind (wpQ_standAt (wpQ_bind (wpQ_mono (wpQ_of h) (fun b s₂ h₂ => ?_) fun _ _ e => e)))
 cases b <;> exact h₂
theorem wpQ_evalArgs {f : Value} {x : Sem Value} {rest : List (Bool × Sem Value)} {Q : Args → Shared → Prop}
   (h : wpQ M A (spliced ((false, x) :: rest)) (fun vs s' => Q ⟨vs, []⟩ s') E s) : wpQ M A (evalArgs f true ((false, x) :: rest) []) Q E s := by
 unfold evalArgs
 show wpQ M A (spliced ((false, x) :: rest) >>= _) Q E s
 refine wpQ_bind (wpQ_mono h (fun vs s' h' => ?_) fun _ _ x => x)
 refine wpQ_holding ?_
 exact wpQ_bind (wpQ_pure (wpQ_bind (wpQ_pure (wpQ_pure h'))))
theorem wpQ_args_cons {e : Expr} {rest : List Expr} {pos : Pos} {Q : List Value → Shared → Prop} (he : starEach (e :: rest) env = (false, eval e env) :: starEach rest env)
   (h : wpQ M A (eval e env) (fun v s₁ => wpQ M A (spliced (backTo pos (starEach rest env))) (fun vs s₂ => Q (v :: vs) s₂) E s₁) E s) : wpQ M A (spliced (backTo pos (starEach (e :: rest) env))) Q E s := by
 rw [he]
 show wpQ M A (spliced ((false, eval e env) :: backTo pos (starEach rest env))) Q E s
 rw [spliced]
 refine wpQ_bind (wpQ_mono h (fun v s₁ h₁ => ?_) fun _ _ x => x)
 simp only [Bool.false_eq_true, if_false]
 exact wpQ_bind (wpQ_pure (wpQ_bind (wpQ_holding (wpQ_mono h₁ (fun vs s₂ h₂ => wpQ_pure h₂) fun _ _ x => x))))
section
variable {M : Model} {A : Around} {E : Value → Shared → Prop} {s : Shared} {env : Env}
theorem wpQ_Call {func : Expr} {args : List Expr} {pos : Pos} {Q : Value → Shared → Prop}
   (hc : eval (.Call func args [] pos) env = (do callWith pos (← eval func env) [] (backTo pos (starEach args env)) (backToKw pos (keywordEach [] env))))
   (h : wpAny M A (eval func env) (fun f s₁ => wpQ M A (callWith pos f [] (backTo pos (starEach args env)) []) Q E s₁) E s) : wpQ M A (eval (.Call func args [] pos) env) Q E s := by
 rw [hc]
 exact wpQ_bind (wpQ_of h)
theorem wpQ_tail {t : Sem Value} {Q : Value → Shared → Prop} (h : wpQ M A t Q E s) : wpQ M A (t >>= fun r => holding [r] point >>= fun _ => pure r) Q E s :=
 wpQ_bind (wpQ_mono h (fun r s₂ hr => wpQ_bind (wpQ_holding (wpQ_of (wpAny_point (wpQ_pure hr))))) fun _ _ x => x)
theorem wpQ_callWith_def {pos : Pos} {a : Addr} {o : Obj} {fd : FuncData} {e : Expr} {rest : List Expr} {Q : Value → Shared → Prop} (he : starEach (e :: rest) env = (false, eval e env) :: starEach rest env)
   (hpl : (List.any (backTo pos (starEach rest env)) fun x => x.1) = false)
   (h : wpQ M A (spliced (backTo pos (starEach (e :: rest) env))) (fun vs s₁ => (s₁.heap.get? a = some o ∧ o.data = .func fd) ∧ wpQ M A (call (.ref a) vs) Q E s₁) E s) :
   wpQ M A (callWith pos (.ref a) [] (backTo pos (starEach (e :: rest) env)) []) Q E s := by
 rw [he] at h ⊢
 have hany : (List.any (backTo pos ((false, eval e env) :: starEach rest env)) fun x => x.1) = false := by
   show (false || (backTo pos (starEach rest env)).any fun x => x.1) = false
   rw [hpl]; rfl
 unfold callWith
 have h' : wpQ M A (evalArgs (.ref a) true (backTo pos ((false, eval e env) :: starEach rest env)) []) (fun x s₁ => (s₁.heap.get? a = some o ∧ o.data = .func fd) ∧ wpQ M A (call (.ref a) x.pos x.kw) Q E s₁) E s := wpQ_evalArgs h
 refine wpQ_bind (wpQ_holding (wpQ_mono h' (fun x s₁ h₁ => wpQ_bind (wpQ_standAt ?_)) fun _ _ x => x))
 simp only [hany, List.any_nil, Bool.or_false]
 refine wpQ_bind (m := keeperOf (.ref a)) (wpQ_of ?_)
 unfold keeperOf
 refine wpAny_bind (wpAny_load h₁.1.1 ?_)
 rw [h₁.1.2]
 refine wpAny_pure ?_
 dsimp only
 split
 · exact wpQ_tail h₁.2
 · exact wpQ_tail (show wpQ M A ((call (.ref a) ([] ++ x.pos) x.kw).keep [plainCall]) Q E s₁ from fun Γ p hi hn => by rw [Sem.wp_keep]; exact h₁.2 Γ p hi hn)
end
end
end
section
section
variable {M : Model} {A : Around} {E : Value → Shared → Prop} {s : Shared} {env : Env}
theorem wpQ_noted {α : Type} {m : Sem α} {Q : α → Shared → Prop} (h : wpQ M A m Q (notedBy M A env E) s) : wpQ M A (m.onRaise fun x => do noteFrame x env; theTreesLotGoes x) Q E s :=
 wpQ_onRaise (wpQ_mono h (fun _ _ q => q) fun _ _ hx => wpQ_of (wpAny_bind (wpAny_mono hx (fun _ _ e => wpAny_theTreesLotGoes e) fun _ _ e => e)))
theorem wpQ_runOwn {c : Code} {Q : Flow → Shared → Prop} (hh : holdsOne c = false)
   (hc : codeQ M (A.mark none) c (fun r s' => match r with | .ok f => Q f s' | .error e => cameBackBy M A env E e s') s) : wpQ M A (runOwn c env none) Q E s := by
 unfold runOwn
 exact wpQ_onRaise (wpQ_mono (wpQ_run (E := cameBackBy M A env E) hh hc) (fun _ _ h => h) fun _ _ h => wpQ_of h)
theorem wpQ_While {test body orelse pos} {Q : Flow → Shared → Prop}
   (h : codeQ M A (.whileLoop test body orelse env) (fun r s' => match r with | .ok f => Q f s' | .error e => cameBackBy M A env E e s') s) :
   wpQ M A (exec (.While test body orelse pos) env) Q E s := by
 rw [exec_While]; exact wpQ_bind (wpQ_standAt (wpQ_runOwn rfl h))
theorem wpQ_For {target iter body orelse pos} {Q : Flow → Shared → Prop}
   (h : wpAny M A (eval iter env) (fun x s₁ => wpAny M A (pyIter x) (fun it s₂ =>
     codeQ M A (.forLoop target it body orelse env) (fun r s' => match r with | .ok f => Q f s' | .error e => cameBackBy M A env E e s') s₂) E s₁) E s)
   (hs : ∀ x, foldedSetIterable iter env x = pure x := by intro _; rfl) :
   wpQ M A (exec (.For target iter body orelse pos) env) Q E s := by
 rw [exec_For]
 refine wpQ_bind (wpQ_standAt (wpQ_bind (wpQ_step h (fun x s₁ h₁ => wpQ_bind (wpQ_of_eq (hs x) (wpQ_bind (wpQ_standAt (wpQ_bind (wpQ_holding (wpQ_step h₁ fun it s₂ h₂ => wpQ_runOwn rfl h₂))))))))))
theorem codeQ_loop' {c : Code} {R : Result → Shared → Prop} (hq : c.quiet = true) (hh : holdsOne c = false) (I : Nat → Shared → Prop)
   (turn : ∀ n s, I n s → wpQ M (A.under c) (M.den c)
     (fun fin s' => match fin with
       | .done f => R (.ok f) s'
       | .again c' => (c' = c ∧ ∃ m, m < n ∧ I m s') ∨ (c'.quiet = true ∧ holdsOne c' = false ∧ codeQ M A c' R s')) (fun e s' => R (.error e) s') s)
   (n : Nat) (h : I n s) : codeQ M A c R s := by
 induction n using Nat.strongRecOn generalizing s with
 | ind n ih =>
   refine codeQ_of_tree (wpQ_mono (turn n s h) (fun fin s' hf => ?_) fun _ _ h' => h')
   cases fin with
   | done f => exact hf
   | again c' =>
     rcases hf with ⟨rfl, m, hm, hI⟩ | hf
     · exact ⟨hq, hh, ih m hm hI⟩
     · exact hf
end
section
variable {prog : Program} {w : World} {A : Around} {E : Value → Shared → Prop} {s : Shared}
theorem codeQ_block {stmts : List Stmt} {env : Env} {R : Result → Shared → Prop}
   (h : wpQ (model prog w) A (execs stmts env) (fun f s' => R (.ok f) s') (notedBy (model prog w) A env fun e s' => R (.error e) s') s) : codeQ (model prog w) A (.block stmts env) R s := by
 refine codeQ_of_tree ?_
 show wpQ _ _ (do return Fin.done (← (execs stmts env).onRaise (fun x => do noteFrame x env; theTreesLotGoes x))) _ _ s
 exact wpQ_bind (wpQ_noted (wpQ_mono h (fun f s' h' => wpQ_pure h') fun _ _ h' => h'))
theorem codeQ_whileLoop {R : Result → Shared → Prop} {test body orelse env} (I : Nat → Shared → Prop)
   (turn : ∀ n s, I n s →
     wpAny (model prog w) A (isTrue test env (eval test env)) (fun b s₂ =>
       if b then wpQ (model prog w) A (execs body env) (fun f s₃ => match f with
           | .next | .cont => ∃ m, m < n ∧ I m s₃
           | .brk => R (.ok .next) s₃
           | .ret v => R (.ok (.ret v)) s₃) (notedBy (model prog w) A env fun e s' => R (.error e) s') s₂
       else wpQ (model prog w) A (execs orelse env) (fun f s₃ => R (.ok f) s₃) (notedBy (model prog w) A env fun e s' => R (.error e) s') s₂)
       (notedBy (model prog w) A env fun e s' => R (.error e) s') s)
   (n : Nat) (h : I n s) : codeQ (model prog w) A (.whileLoop test body orelse env) R s := by
 refine codeQ_loop' rfl rfl I (fun n s hI => ?_) n h
 show wpQ _ A ((whileTurn test body orelse env).onRaise (fun x => do noteFrame x env; theTreesLotGoes x)) _ _ s
 refine wpQ_noted ?_
 simp only [whileTurn]
 refine wpQ_bind (wpQ_step (turn n s hI) (fun b s₂ h₂ => ?_))
 cases b with
 | false =>
   simp only [Bool.false_eq_true, if_false] at h₂ ⊢
   exact wpQ_bind (wpQ_mono h₂ (fun f s₃ h₃ => wpQ_pure h₃) fun _ _ h' => h')
 | true =>
   simp only [if_true] at h₂ ⊢
   refine wpQ_bind (wpQ_mono h₂ (fun f s₃ h₃ => ?_) fun _ _ h' => h')
   cases f with
   | next => exact wpQ_pure (.inl ⟨rfl, h₃⟩)
   | cont => exact wpQ_pure (.inl ⟨rfl, h₃⟩)
   | brk => exact wpQ_pure h₃
   | ret v => exact wpQ_pure h₃
theorem codeQ_forLoop_any {R : Result → Shared → Prop} {target it body orelse env} (I : Nat → Shared → Prop)
   (turn : ∀ n s, I n s → wpAny (model prog w) A (pyNext it) (fun r s₁ => match r with
     | none => wpQ (model prog w) A (execs orelse env) (fun f s₃ => R (.ok f) s₃) (notedBy (model prog w) A env fun e s' => R (.error e) s') s₁
     | some v => wpAny (model prog w) A (letOwnedTupleGo target it v) (fun _ s₁' =>
         wpAny (model prog w) A (assign target env v) (fun _ s₂ => wpQ (model prog w) A (execs body env) (fun f s₃ => match f with
           | .next | .cont => ∃ m, m < n ∧ I m s₃
           | .brk => R (.ok .next) s₃
           | .ret v => R (.ok (.ret v)) s₃) (notedBy (model prog w) A env fun e s' => R (.error e) s') s₂) (notedBy (model prog w) A env fun e s' => R (.error e) s') s₁') (notedBy (model prog w) A env fun e s' => R (.error e) s') s₁) (notedBy (model prog w) A env fun e s' => R (.error e) s') s)
   (n : Nat) (h : I n s) : codeQ (model prog w) A (.forLoop target it body orelse env) R s := by
 refine codeQ_loop' rfl rfl I (fun n s hI => ?_) n h
 show wpQ _ A ((forTurn target it body orelse env).onRaise (fun x => do noteFrame x env; theTreesLotGoes x)) _ _ s
 refine wpQ_noted ?_
 simp only [forTurn]
 refine wpQ_bind (wpQ_standAt (wpQ_bind (wpQ_onRaise (wpQ_mono (wpQ_of (turn n s hI)) (fun r s₁ h₁ => ?_) fun _ _ h' => wpQ_standAt h'))))
 cases r with
 | none => exact wpQ_pure (.inr ⟨rfl, rfl, codeQ_block h₁⟩)
 | some v =>
   refine wpQ_bind (wpQ_step h₁ (fun _ s₁' h₁' => ?_))
   refine wpQ_bind (wpQ_step h₁' (fun _ s₂ h₂ => wpQ_bind (wpQ_mono h₂ (fun f s₃ h₃ => ?_) fun _ _ h' => h')))
   cases f with
   | next => exact wpQ_pure (.inl ⟨rfl, h₃⟩)
   | cont => exact wpQ_pure (.inl ⟨rfl, h₃⟩)
   | brk => exact wpQ_pure h₃
   | ret v => exact wpQ_pure h₃
end
section
variable {prog : Program} {w : World} {hB : Heap} {mg mb : Str → Option Value} {C : Cfg} {n : Nat} {σ σ' σ'' : Loc} {m : Str → Option Value} {O : List Addr} {h h' : Heap} {r : Bool} {Φ Ψ : Fl → Loc → Prop} {rest : List Stmt}
theorem evQ_of {e : Expr} {d : D} (h : Ev prog w C r σ e d) : EvQ prog w C r σ e d := fun s m O Q E S q => wpQ_of (h s m O Q E S q)
theorem evAQ_of {pos : Pos} {es : List Expr} {ds : List D} (h : EvA prog w C r σ pos es ds) : EvAQ prog w C r σ pos es ds := fun s m O Q E S q => wpQ_of (h s m O Q E S q)
theorem fnQ_of {f : Value} {args : List D} {d : D} {n : Nat} (h : FnV prog w hB f args d n) : FnQ prog w hB f args d n := fun A s O vals Q E R _ X Ow rs q => wpQ_of (h A s O vals Q E R X Ow rs q)
theorem evAQ_cons (K : Ok prog w hB mg mb C n) {pos : Pos} {e : Expr} {es : List Expr} {d : D} {ds : List D} (h1 : EvQ prog w C r σ e d) (h2 : EvAQ prog w C r σ pos es ds)
   (hs : ∀ env, starEach (e :: es) env = (false, eval e env) :: starEach es env := by intro _; rfl) : EvAQ prog w C r σ pos (e :: es) (d :: ds) := fun s m O Q E S q => by
 refine wpQ_args_cons (hs _) (h1 s m O _ E S fun v h₁ t₁ x₁ r₁ => h2 _ m O _ E (S.ext' K x₁) fun vs h₂ t₂ x₂ r₂ => q _ _ _ (x₁.trans x₂) (.cons (r₁.ext x₂) r₂))
theorem evQ_call (K : Ok prog w hB mg mb C n) (hg : C.A.guards = some []) {f : Str} {fp pos : Pos} {fa : Addr} {fd : FuncData} {body : List Stmt} {e : Expr} {es : List Expr} {ds : List D} {d : D} {k : Nat} (hk : C.env.kindOf f = some .globalImplicit) (hm : mg f = some (.ref fa)) (H : IsFn hB fa fd body)
   (h1 : EvAQ prog w C r σ pos (e :: es) ds) (h2 : FnQ prog w hB (.ref fa) ds d k) (hkn : k ≤ n := by omega)
   (hs : ∀ env, starEach (e :: es) env = (false, eval e env) :: starEach es env := by intro _; rfl) (hd : (f == ("__debug__" : Str)) = false := by decide)
   (hpl : ∀ env, (List.any (backTo pos (starEach es env)) fun x => x.1) = false := by intro _; rfl)
   (hc : ∀ env, eval (.Call (.Name f fp) (e :: es) [] pos) env = (do callWith pos (← eval (.Name f fp) env) [] (backTo pos (starEach (e :: es) env)) (backToKw pos (keywordEach [] env))) := by intro _; rfl) :
   EvQ prog w C r σ (.Call (.Name f fp) (e :: es) [] pos) d := fun s m O Q E S q => by
 obtain ⟨o, ho, hdata⟩ := H.get
 refine wpQ_Call (hc _) (load_global K S hk hm ?_ hd)
 refine wpQ_callWith_def (hs _) (hpl _) (h1 s m O _ E S fun vs h' tk x rs => ⟨⟨x _ _ (S.base K _ _ ho), hdata⟩, ?_⟩)
 exact h2 _ _ (OR C r O) vs Q E (K.R.le hkn) hg ((S.base K).trans x) ((S.ext' K x).own' K) rs fun v h'' tk' x' hr => q v h'' tk' (x.trans x') hr
theorem evQ_bin (K : Ok prog w hB mg mb C n) {l e : Expr} {op : Operator} {pos} {da db d : D} (h1 : EvQ prog w C r σ l da) (h2 : EvQ prog w C r σ e db) (h3 : Op2 prog w hB (binaryOp op) da db d) : EvQ prog w C r σ (.BinOp l op e pos) d := fun s m O Q E S q =>
 wpQ_BinOp (h1 s m O _ E S fun a h₁ t₁ x₁ ra => h2 _ m O _ E (S.ext' K x₁) fun b h₂ t₂ x₂ rb => h3 _ _ (OR C r O) a b _ _ (K.R.le (Nat.zero_le _)) ((S.ext' K x₁).ext' K x₂ |>.base K) ((S.ext' K x₁).ext' K x₂ |>.own' K) (Rep.ext ra x₂) rb fun v h' tk x hr => q v h' tk ((x₁.trans x₂).trans x) hr)
theorem WpQ.mono {ss : List Stmt} (h : WpQ prog w C σ ss Φ) (hΦ : ∀ f σ', Φ f σ' → Ψ f σ') : WpQ prog w C σ ss Ψ := fun s m O Q E S q => h s m O Q E S fun f φ σ' h' tk m' O' hp hf S' g => q f φ σ' h' tk m' O' (hΦ _ _ hp) hf S' g
theorem WpQ.sub {ss : List Stmt} (h : WpQ prog w C σ ss Φ) (hs : Sub σ σ') : WpQ prog w C σ' ss Φ := fun s m O Q E S q => h s m O Q E (S.sub' hs) q
theorem wpQ_of_wp {ss : List Stmt} (h : Wp prog w C σ ss Φ) : WpQ prog w C σ ss Φ := fun s m O Q E S q => wpQ_of (h s m O Q E S q)
theorem wpQ_nil (h : Φ .next σ) : WpQ prog w C σ [] Φ := fun s m O Q E S q => wpQ_of (wpAny_execs_nil (q .next .next σ s.heap s.toks m O h trivial S (Grow.refl _ _)))
end
end
section
section
variable {M : Model} {A : Around} {E : Value → Shared → Prop} {s : Shared} {env : Env}
theorem wpQ_execs_lift {st : Stmt} {rest : List Stmt} {Q : Flow → Shared → Prop}
   (h : wpAny M A (execs [st] env) (fun f s' => match f with | .next => wpQ M A (execs rest env) Q E s' | f => Q f s') E s) : wpQ M A (execs (st :: rest) env) Q E s := fun Γ p hi hn => by
 have h1 := h Γ p hi
 rw [execs_cons, Sem.wp_bind'] at h1 ⊢
 refine Sem.wp_mono M Γ _ (fun f p' s' h2 => ?_) (fun _ _ _ e => e) _ _ h1
 cases f with
 | next => exact h2 Γ p' hi hn
 | brk => exact h2
 | cont => exact h2
 | ret v => exact h2
theorem wpQ_Expr {e pos} {Q : Flow → Shared → Prop} (h : wpQ M A (eval e env) (fun v s' => match v with | .ref _ => False | _ => Q .next s') E s)
   (hi : interactive env = false := by rfl) (hs : swapsWith e none pos.line env = pure false := by rfl) :
   wpQ M A (exec (.Expr e pos) env) Q E s := by
 rw [exec_Expr env e pos hi hs]
 refine wpQ_bind (wpQ_standAt (wpQ_bind (wpQ_mono h (fun v s' h' => ?_) fun _ _ x => x)))
 have hv : ∀ a, v ≠ .ref a := fun a hva => by subst hva; exact h'
 rw [dropValue_plain hv]
 refine wpQ_pure ?_
 cases v <;> first | exact h' | exact (hv _ rfl).elim
theorem wpQ_MethodCall {o : Expr} {name : Str} {apos pos : Pos} {args : List Expr} {pl : Sem Bool} {Q : Value → Shared → Prop}
   (h : wpQ M A (eval o env) (fun ov s₁ => wpAny M A (getMethod ov name pl) (fun fx s₂ => wpQ M A (callWith pos fx.1 fx.2 (backTo pos (starEach args env)) []) Q E s₂) E s₁) E s)
   (he : eval (.Call (.Attribute o name apos) args [] pos) env = (do
     let ov ← eval o env
     standAt apos.atName
     let (f, first) ← holding [ov] (getMethod ov name pl)
     callWith pos f first (backTo pos (starEach args env)) [])) :
   wpQ M A (eval (.Call (.Attribute o name apos) args [] pos) env) Q E s := by
 rw [he]
 exact wpQ_bind (wpQ_mono h (fun ov s₁ h₁ => wpQ_bind (wpQ_standAt (wpQ_bind (wpQ_holding (wpQ_step h₁ fun fx s₂ h₂ => h₂))))) fun _ _ x => x)
theorem wpQ_callWith_builtin {pos : Pos} {id : String} {first : List Value} {args : List (Bool × Sem Value)} {Q : Value → Shared → Prop} (hplain : args.any (·.1) = false)
   (h : wpQ M A (evalArgs (.builtin id) true args []) (fun a s₁ => wpQ M A (call (.builtin id) (first ++ a.pos) a.kw) Q E s₁) E s) :
   wpQ M A (callWith pos (.builtin id) first args []) Q E s := by
 unfold callWith
 refine wpQ_bind (wpQ_holding (wpQ_mono h (fun a s₁ h₁ => wpQ_bind (wpQ_standAt ?_)) fun _ _ x => x))
 simp only [hplain, List.any_nil, Bool.or_false]
 refine wpQ_bind (wpQ_pure ?_)
 exact wpQ_tail h₁
theorem wpQ_callWith_type0 {pos : Pos} {T : String} {Q : Value → Shared → Prop} (h : wpQ M A (call (.type T) []) Q E s) :
   wpQ M A (callWith pos (.type T) [] (backTo pos (starEach [] env)) []) Q E s := by
 unfold callWith
 refine wpQ_bind (wpQ_holding (wpQ_of (PySem.evalArgs_none (wpQ_bind (wpQ_standAt ?_)))))
 refine wpQ_bind (wpQ_pure ?_)
 exact wpQ_tail h
theorem wpQ_callWith_method1 {pos : Pos} {id : String} {first : List Value} {e : Expr} {rest : List Expr} {Q : Value → Shared → Prop}
   (he : starEach (e :: rest) env = (false, eval e env) :: starEach rest env)
   (hplain : (backTo pos (starEach rest env)).any (·.1) = false)
   (h : wpQ M A (spliced (backTo pos (starEach (e :: rest) env))) (fun vs s₁ => wpQ M A (call (.builtin id) (first ++ vs)) Q E s₁) E s) :
   wpQ M A (callWith pos (.builtin id) first (backTo pos (starEach (e :: rest) env)) []) Q E s := by
 rw [he] at h ⊢
 exact wpQ_callWith_builtin (by show (false || (backTo pos (starEach rest env)).any (·.1)) = false; rw [hplain]; rfl) (wpQ_evalArgs h)
end
section
variable {prog : Program} {w : World} {hB : Heap} {mg mb : Str → Option Value} {C : Cfg} {n : Nat} {σ σ' σ'' : Loc} {m : Str → Option Value} {O : List Addr} {h h' : Heap} {r : Bool} {Φ Ψ : Fl → Loc → Prop} {rest : List Stmt}
theorem SeqQ.runQ {s : Shared} {Q : Flow → Shared → Prop} {E} 
   (q : ∀ f φ σ' h' tk m' O', Φ φ σ' → FlR C.O₀ h' f φ → StX C m' O' σ' h' → Grow O s.heap O' h' → Q f { s with heap := h', toks := tk }) :
   ∀ f φ σ' h' tk m' O', SeqQ prog w C rest Φ φ σ' → FlR C.O₀ h' f φ → StX C m' O' σ' h' → Grow O s.heap O' h' →
    (match (motive := Flow → Prop) f with | .next => wpQ (model prog w) C.A (execs rest C.env) Q E { s with heap := h', toks := tk } | f => Q f { s with heap := h', toks := tk }) := fun f φ σ' h' tk m' O' hp hf S' g => by
   cases f, φ, hf using FlR.elim with
   | next => exact (show WpQ prog w C σ' rest Φ from hp) _ m' O' Q E S' fun f φ σ'' h'' tk' m'' O'' hp' hf' S'' g' => q f φ σ'' h'' tk' m'' O'' hp' hf' S'' (g.trans g')
   | brk => exact q .brk .brk σ' h' tk m' O' hp trivial S' g
   | cont => exact q .cont .cont σ' h' tk m' O' hp trivial S' g
   | ret v d hr => exact q (.ret _) (.ret _) σ' h' tk m' O' hp hr S' g
theorem WpQ.fin (h1 : WpQ prog w C σ rest Φ) {s : Shared} {m : Str → Option Value} {O O' : List Addr} {h' : Heap} {t' : Nat} {Q : Flow → Shared → Prop} {E : Value → Shared → Prop} (S : StX C m O' σ h')
   (q : ∀ f φ σ' h' tk m' O', Φ φ σ' → FlR C.O₀ h' f φ → StX C m' O' σ' h' → Grow O s.heap O' h' → Q f { s with heap := h', toks := tk }) (g : Grow O s.heap O' h') : wpQ (model prog w) C.A (execs rest C.env) Q E { s with heap := h', toks := t' } :=
 h1 _ m O' Q E S fun f φ σ'' h₄ t₄ m₄ O₄ hp' hf' S₄ g₄ => q f φ σ'' h₄ t₄ m₄ O₄ hp' hf' S₄ (g.trans g₄)
theorem wpQ_lift {st : Stmt} (h1 : Wp prog w C σ [st] (SeqQ prog w C rest Φ)) : WpQ prog w C σ (st :: rest) Φ := fun s m O Q E S q =>
 wpQ_execs_lift (h1 s m O _ E S (SeqQ.runQ q))
theorem wpQ_liftN {st : Stmt} (h1 : Wp prog w C σ [st] (fun φ σ' => φ = .next ∧ WpQ prog w C σ' rest Φ)) : WpQ prog w C σ (st :: rest) Φ :=
 wpQ_lift (h1.mono fun φ σ' h => by obtain ⟨rfl, h⟩ := h; exact h)
theorem wpQ_if (K : Ok prog w hB mg mb C n) {t : Expr} {a b : List Stmt} {pos} {c : Bool} (h1 : EvT prog w C σ t c) (h2 : c = true → WpQ prog w C σ a (SeqQ prog w C rest Φ)) (h3 : c = false → WpQ prog w C σ b (SeqQ prog w C rest Φ)) :
   WpQ prog w C σ (.If t a b pos :: rest) Φ := fun s m O Q E S q =>
 wpQ_execs_cons (wpQ_If (h1 s m O _ E S fun h' tk x => by
   have S' := S.ext' K x
   cases c with
   | true => exact h2 rfl _ m O _ E S' (SeqQ.runQ fun f φ σ' h'' tk' m' O' hp hf S'' g => q f φ σ' h'' tk' m' O' hp hf S'' ((Grow.ext x).trans g))
   | false => exact h3 rfl _ m O _ E S' (SeqQ.runQ fun f φ σ' h'' tk' m' O' hp hf S'' g => q f φ σ' h'' tk' m' O' hp hf S'' ((Grow.ext x).trans g))))
theorem wpQ_assign (K : Ok prog w hB mg mb C n) {x : Str} {e : Expr} {p pos} {d : D} (h1 : EvQ prog w C false σ e d) (h2 : WpQ prog w C ((x, .v d) :: σ) rest Φ) (hl : C.loc x = true) (hn : noApp x σ = true)
   (hs : swapsWith e (some (.Name x p)) pos.line C.env = pure false := by rfl) : WpQ prog w C σ (.Assign [.Name x p] e pos :: rest) Φ := fun s m O Q E S q =>
 wpQ_execs_cons (wpQ_Assign_Name (hs := hs) (h1 s m O _ E S fun v h' tk x hr => wpQ_of (storeV K (S.ext' K x) hr hl hn fun m' h'' tk' S'' hk =>
   h2 _ m' O Q E S'' fun f φ σ' h3 tk3 m3 O3 hp hf S3 g => q f φ σ' h3 tk3 m3 O3 hp hf S3 (((Grow.ext x).trans ⟨hk, fun _ h => h, fun _ h => .inl h⟩).trans g))))
theorem wpQ_ret (K : Ok prog w hB mg mb C n) {e : Expr} {pos} {d : D} (h1 : EvQ prog w C true σ e d) (h2 : Φ (.ret d) σ) : WpQ prog w C σ (.Return (some e) pos :: rest) Φ := fun s m O Q E S q =>
 wpQ_execs_cons (wpQ_Return_some (h1 s m O _ E S fun v h' tk x hr => q (.ret v) (.ret d) σ h' tk m O h2 hr (S.ext' K x) (Grow.ext x)))
theorem wpQ_while (K : Ok prog w hB mg mb C n) {α : Type} {test : Expr} {body : List Stmt} {pos : Pos} (st : α → Loc) (P : α → Prop) (meas : α → Nat) (a₀ : α) (h0 : Sub (st a₀) σ) (p0 : P a₀)
   (turn : ∀ a, P a → ∃ c, EvT prog w C (st a) test c ∧ (c = true → WpQ prog w C (st a) body (LoopEndQ prog w C (fun σ' => ∃ a', P a' ∧ meas a' < meas a ∧ Sub (st a') σ') rest Φ)) ∧ (c = false → WpQ prog w C (st a) rest Φ)) :
   WpQ prog w C σ (.While test body [] pos :: rest) Φ := fun s m O Q E S q => by
 refine wpQ_execs_cons (wpQ_While (codeQ_whileLoop (WInv C st P meas s O) ?_ (meas a₀) (.mk a₀ m O s.heap s.toks p0 (S.sub' h0) (Grow.refl _ _))))
 intro k s' I
 cases I with | mk a m' O' h' tk pa S' g
 refine (turn a pa).elim fun c hh => hh.1 _ m' O' _ _ S' fun h₂ t₂ x => ?_
 have S₂ := S'.ext' K x
 have g₂ := g.trans (Grow.ext x)
 cases c with
 | true =>
   refine hh.2.1 rfl _ m' O' _ _ S₂ fun f φ σ' h₃ t₃ m₃ O₃ hp hfl S₃ g₃ => ?_
   have next : (∃ a', P a' ∧ meas a' < meas a ∧ Sub (st a') σ') → ∃ k, k < meas a ∧ WInv C st P meas s O k { s with heap := h₃, toks := t₃ } := fun x => x.elim fun a' y => ⟨_, y.2.1, .mk a' m₃ O₃ h₃ t₃ y.1 (S₃.sub' y.2.2) (g₂.trans g₃)⟩
   cases f, φ, hfl using FlR.elim with
   | next => exact next hp
   | brk => exact WpQ.fin (s := s) hp S₃ q (g₂.trans g₃)
   | cont => exact next hp
   | ret v d hr => exact q (.ret v) (.ret d) σ' h₃ t₃ m₃ O₃ hp hr S₃ (g₂.trans g₃)
 | false => exact wpQ_of (wpAny_execs_nil (WpQ.fin (s := s) (hh.2.2 rfl) S₂ q g₂))
theorem wpQ_newBa (K : Ok prog w hB mg mb C n) (hg : C.A.guards = some []) {x : Str} {p np cp pos : Pos} (hk : C.env.kindOf "bytearray" = some .globalImplicit) (hm : mg "bytearray" = none) (h2 : WpQ prog w C ((x, .ba []) :: σ) rest Φ) (hl : C.loc x = true) (hn : noApp x σ = true)
   (hc : ∀ env, eval (.Call (.Name "bytearray" np) [] [] cp) env = (do callWith cp (← eval (.Name "bytearray" np) env) [] (backTo cp (starEach [] env)) (backToKw cp (keywordEach [] env))) := by intro _; rfl) : WpQ prog w C σ (.Assign [.Name x p] (.Call (.Name "bytearray" np) [] [] cp) pos :: rest) Φ := fun s m O Q E S q => by
 refine wpQ_execs_cons (wpQ_Assign_Name (hs := rfl) (wpQ_Call (hc _) (load_builtin K S hk hm (v := .type "bytearray") (by decide +kernel) (wpQ_callWith_type0 ?_))))
 refine wpQ_baNew hg fun h₁ ho hx => wpQ_of ?_
 have ha : s.heap.get? s.heap.objs.size = none := get_size _
 refine K.H.store _ m x _ _ E (K.H.move m _ _ S.fr (fun b hb o e => hx b o e) ((K.H.keep _ _ S.fr).trans hx)) hl fun h' tk hF hk => ?_
 have hfp : s.heap.objs.size ∉ C.fp := fun hm => by obtain ⟨o, q⟩ := K.H.alive _ _ S.fr _ hm; rw [ha] at q; cases q
 have hO0 : s.heap.objs.size ∉ C.O₀ := fun hm => by obtain ⟨o, q⟩ := S.alive _ (S.sub _ hm); rw [ha] at q; cases q
 have S' : StX C (upd m x (.ref s.heap.objs.size)) (s.heap.objs.size :: O) ((x, .ba []) :: σ) h' := S.setOwn K hx ha ⟨_, ho⟩ rfl hF hk
   ⟨_, rfl, .head _, hO0, hfp, hk _ _ hfp ho⟩ hn
 refine h2 _ _ _ Q E S' fun f φ σ' h3 tk3 m3 O3 hp' hf S3 g => q f φ σ' h3 tk3 m3 O3 hp' hf S3 (Grow.trans ⟨fun b o hb e => ?_, fun b hb => .tail _ hb, fun b hb => ?_⟩ g)
 · exact hk b o (fun hm => hb (S.fin b hm)) (hx b o e)
 · exact (List.mem_cons.mp hb).elim (fun e => .inr (e ▸ ha)) .inl
theorem wpQ_baMeth (K : Ok prog w hB mg mb C n) {pl : Env → Sem Bool} {x name : Str} {id : String} {np ap cp pos : Pos} {e : Expr} {d : D} {l l' : List UInt8} (hx : σ.lookup x = some (.ba l)) (hl : C.loc x = true)
   (slot : Slot "bytearray" name id) (hty : typeOf (.builtin id) = pure (.type "method_descriptor"))
   (h1 : Ev prog w C false σ e d)
   (hc : ∀ (s : Shared) (O : List Addr) (a : Addr) (v : Value) (Q : Value → Shared → Prop) (E : Value → Shared → Prop), s.heap.get? a = some (baObj l) → Rep O s.heap v d →
     (∀ h', h'.get? a = some (baObj l') → Heap.SameBut a s.heap h' → Q .none { s with heap := h' }) → wpQ (model prog w) C.A (call (.builtin id) [.ref a, v]) Q E s)
   (h2 : WpQ prog w C ((x, .ba l') :: σ) rest Φ) (hd : (x == ("__debug__" : Str)) = false := by decide) (hs : ∀ env, starEach [e] env = (false, eval e env) :: starEach [] env := by intro _; rfl)
   (hi : interactive C.env = false := by rfl)
   (hm : ∀ env, eval (.Call (.Attribute (.Name x np) name ap) [e] [] cp) env = (do let ov ← eval (.Name x np) env; standAt ap.atName; let (f, first) ← holding [ov] (getMethod ov name (pl env)); callWith cp f first (backTo cp (starEach [e] env)) []) := by intro _; rfl) :
   WpQ prog w C σ (.Expr (.Call (.Attribute (.Name x np) name ap) [e] [] cp) pos :: rest) Φ := fun s m O Q E S q => by
 obtain ⟨v, hv, a, rfl, e1, e2, e3, e4⟩ := S.ents x _ hx
 refine wpQ_execs_cons (wpQ_Expr (hi := hi) (hs := rfl) ?_)
 refine wpQ_MethodCall (pl := pl C.env) (wpQ_of ?_) (hm _)
 refine wpAny_Name (K.H.load s m x _ _ _ S.fr hl hv ?_) hd
 refine getMethod_builtin ⟨_, e4, rfl⟩ Mine.S.plainAttrs_bytearray slot hty (fun a' e => by cases e; exact ⟨_, e4, rfl⟩) ?_
 refine wpQ_callWith_method1 (hs _) rfl ?_
 refine wpQ_of (evA_cons K h1 evA_nil hs s m O _ E S fun args h₁ t₁ x₁ ra => ?_)
 have S₁ := S.ext' K x₁
 cases ra with
 | cons rv rn =>
 cases rn
 refine hc _ O a _ _ E (x₁ _ _ e4) rv fun h₂ hp hsb => ?_
 have hgrow : ∀ b o, b ∉ O → h₁.get? b = some o → h₂.get? b = some o := fun b o hb e => (hsb.2 b fun q => hb (q ▸ e1)).trans e
 have S₂ : StX C m O ((x, .ba l') :: σ) h₂ := S₁.change K hx rfl hv e1 e3 e2 (fun b o hb e => (hsb.2 b hb).trans e) ⟨_, hp⟩ rfl
   ⟨a, rfl, e1, e2, e3, hp⟩
 exact h2 _ m O Q E S₂ fun f φ σ' h3 tk3 m3 O3 hp' hf S3 g => q f φ σ' h3 tk3 m3 O3 hp' hf S3 (((Grow.ext x₁).trans ⟨hgrow, fun _ h => h, fun _ h => .inl h⟩).trans g)
theorem wpQ_baApp (K : Ok prog w hB mg mb C n) {pl : Env → Sem Bool} (hg : C.A.guards = some []) {x : Str} {np ap cp pos : Pos} {e : Expr} {k : Int} {l : List UInt8} (hx : σ.lookup x = some (.ba l)) (hl : C.loc x = true)
   (h1 : Ev prog w C false σ e (.int k)) (h0 : 0 ≤ k) (h256 : k < 256) (hsz : l.length + 1 ≤ sizeLine)
   (h2 : WpQ prog w C ((x, .ba (l ++ [k.toNat.toUInt8])) :: σ) rest Φ) (hd : (x == ("__debug__" : Str)) = false := by decide) (hs : ∀ env, starEach [e] env = (false, eval e env) :: starEach [] env := by intro _; rfl)
   (hi : interactive C.env = false := by rfl)
   (hm : ∀ env, eval (.Call (.Attribute (.Name x np) "append" ap) [e] [] cp) env = (do let ov ← eval (.Name x np) env; standAt ap.atName; let (f, first) ← holding [ov] (getMethod ov "append" (pl env)); callWith cp f first (backTo cp (starEach [e] env)) []) := by intro _; rfl) :
   WpQ prog w C σ (.Expr (.Call (.Attribute (.Name x np) "append" ap) [e] [] cp) pos :: rest) Φ :=
 wpQ_baMeth K hx hl S.slot_bytearray_append S.type_bytearray_append h1 (fun s O a v Q E ho hr q => by
   cases hr
   exact wpQ_baAppend hg ho h0 h256 hsz q) h2 hd hs hi hm
theorem wpQ_baExt (K : Ok prog w hB mg mb C n) {pl : Env → Sem Bool} (hg : C.A.guards = some []) {x : Str} {np ap cp pos : Pos} {e : Expr} {l c : List UInt8} (hx : σ.lookup x = some (.ba l)) (hl : C.loc x = true)
   (h1 : Ev prog w C false σ e (.bytes c)) (hsz : l.length + c.length ≤ sizeLine)
   (h2 : WpQ prog w C ((x, .ba (l ++ c)) :: σ) rest Φ) (hd : (x == ("__debug__" : Str)) = false := by decide) (hs : ∀ env, starEach [e] env = (false, eval e env) :: starEach [] env := by intro _; rfl)
   (hi : interactive C.env = false := by rfl)
   (hm : ∀ env, eval (.Call (.Attribute (.Name x np) "extend" ap) [e] [] cp) env = (do let ov ← eval (.Name x np) env; standAt ap.atName; let (f, first) ← holding [ov] (getMethod ov "extend" (pl env)); callWith cp f first (backTo cp (starEach [e] env)) []) := by intro _; rfl) :
   WpQ prog w C σ (.Expr (.Call (.Attribute (.Name x np) "extend" ap) [e] [] cp) pos :: rest) Φ :=
 wpQ_baMeth K hx hl S.slot_bytearray_extend S.type_bytearray_extend h1 (fun s O a v Q E ho hr q => by
   cases hr
   exact wpQ_baExtend hg ho hsz q) h2 hd hs hi hm
theorem ev_bytesBa (K : Ok prog w hB mg mb C n) {x : Str} {np fp cp : Pos} {l : List UInt8} (hk : C.env.kindOf "bytes" = some .globalImplicit) (hm : mg "bytes" = none) (hx : σ.lookup x = some (.ba l)) (hl : C.loc x = true) (hsz : l.length ≤ sizeLine) (hd : (x == ("__debug__" : Str)) = false := by decide)
   (hc : ∀ env, eval (.Call (.Name "bytes" fp) [.Name x np] [] cp) env = (do callWith cp (← eval (.Name "bytes" fp) env) [] (backTo cp (starEach [.Name x np] env)) (backToKw cp (keywordEach [] env))) := by intro _; rfl) : Ev prog w C r σ (.Call (.Name "bytes" fp) [.Name x np] [] cp) (.bytes l) := fun s m O Q E S q => by
 obtain ⟨v, hv, a, rfl, e1, e2, e3, e4⟩ := S.ents x _ hx
 refine Call_ (load_builtin K S hk hm (v := .type "bytes") (by decide +kernel) (PyProof.Rows.callWith_type1 (args_cons (wpAny_Name (K.H.load s m x _ _ _ S.fr hl hv (args_nil ?_)) hd)))) (hc _)
 exact call_bytes_ba e4 hsz fun t k => q _ _ _ (Ext.refl _) .bytes
end
end
section
section
variable {prog : Program} {w : World} {A : Around} {s : Shared}
theorem codeQ_call_function {R : Result → Shared → Prop} {a : Addr} {args : Args} {o : Obj} {fd : FuncData} {body : List Stmt} (hroom : A.depth < recursionLimit)
   (ho : s.heap.get? a = some o)
   (hd' : o.data = .func fd) (hco : fd.scope.isCoroutine = false) (hgen : fd.scope.isGenerator = false) (hbody : fd.body = .stmts body) (hcd : s.heap.CodeRec fd.code fd.qualname)
   (h : wpAny (model prog w) A.in1 (bindArgs fd args) (fun binds s₁ =>
     wpAny (model prog w) A.in1 (newFunctionEnv fd.scope fd.globals fd.closure binds (fd.qualname ++ ".<locals>.") (some a) fd.code none fd.builtins)
       (fun env s₂ => s₂.heap.NoLimit ∧ codeQ (model prog w) A (.func body env) R s₂) (fun e s' => R (.error e) s') s₁) (fun e s' => R (.error e) s') s) :
   codeQ (model prog w) A (.call (.ref a) args) R s := by
 refine codeQ_of_tree ?_
 show wpQ _ A.in1 (callAny (.ref a) args) _ _ s
 simp only [callAny]
 refine wpQ_bind (wpQ_of (wpAny_load ho ?_))
 obtain ⟨c, oc, vs, tq, hc, hoc, hdc, hq⟩ := hcd
 simp only [hd', callFunction, hco, hgen, hbody, hc]
 rw [hc] at h
 refine wpQ_bind (m := field (.ref c) 1) (wpQ_of (wpAny_field hoc hdc hq (wpQ_bind (wpQ_pure ?_))))
 exact wpQ_bind (wpQ_step h (fun binds s₁ h₁ => wpQ_bind (wpQ_step h₁ (fun env s₂ h₂ => wpQ_bind (wpQ_of (wpAny_enterFrame h₂.1 hroom
   (wpQ_pure (And.intro rfl ⟨rfl, h₂.2⟩))))))))
theorem codeQ_call_def {R : Result → Shared → Prop} {a : Addr} {o : Obj} {fd : FuncData} {body : List Stmt} {args : Args} {binds : List (Str × Value)}
   (hroom : A.depth < recursionLimit) (ho : s.heap.get? a = some o) (hdata : o.data = .func fd) (hlim : s.heap.NoLimit) (hcd : s.heap.CodeRec fd.code fd.qualname)
   (hbody : fd.body = .stmts body) (hbind : BindsTo s fd args binds)
   (hcell : ∀ x ∈ fd.scope.names, x.2 ≠ .cell) (hloc : ∀ x ∈ binds, fd.scope.names.lookup x.1 = some .local)
   (h : ∀ h₀, h₀.Ns s.heap.objs.size (fun x => binds.reverse.lookup x) → (∀ b o, s.heap.get? b = some o → h₀.get? b = some o) →
     wpQ (model prog w) (A.deeper (callEnv fd s.heap.objs.size a)) (execs body (callEnv fd s.heap.objs.size a)) (fun f s' => R (.ok (.ret (match f with | .ret v => v | _ => .none))) s')
       (fun e s' => wpQ (model prog w) (A.deeper (callEnv fd s.heap.objs.size a)) (leaving (callEnv fd s.heap.objs.size a) e) (fun _ s'' => R (.error e) s'') (fun e' s'' => R (.error e') s'') s')
       { s with heap := h₀, toks := s.toks + binds.length })
   (hco : fd.scope.isCoroutine = false := by rfl) (hgen : fd.scope.isGenerator = false := by rfl) (hk : fd.scope.kind = .function := by rfl) :
   codeQ (model prog w) A (.call (.ref a) args) R s := by
 refine codeQ_call_function hroom ho hdata hco hgen hbody hcd (hbind _ _ _ _ ?_)
 refine wpAny_newFunctionEnv hcell hloc (fun h₀ hns₀ hsb₀ => ⟨hlim.fresh _ hsb₀, codeQ_func (h h₀ hns₀ fun b o e => ?_)⟩) hk
 exact hsb₀.extBut b o (Nat.ne_of_lt (Heap.lt_size e)) (Heap.get?_push_of_some _ e)
end
section
variable {prog : Program} {w : World} {hB : Heap} {mg mb : Str → Option Value}
theorem fnQ_def (B : Base hB mg mb) {fa : Addr} {fd : FuncData} {body : List Stmt} (H : IsFn hB fa fd body) {names : List Str} {args : List D} {d : D} {n : Nat} {σ₀ : Loc}
   (hlen : names.length = args.length)
   (hbind : ∀ (s : Shared) (vals : List Value), Ext hB s.heap → vals.length = names.length → ∃ binds, BindsTo s fd ⟨vals, []⟩ binds ∧ ∀ O, Own hB O s.heap → Reps O s.heap vals args → Binds O s.heap binds σ₀)
   (hloc : ∀ x ∈ σ₀, fd.scope.names.lookup x.1 = some .local)
   (hbody : ∀ A L h₀ O₀, A.guards = some [] → Ok prog w hB mg mb (plainCfg A fd L fa h₀ O₀) n → WpQ prog w (plainCfg A fd L fa h₀ O₀) σ₀.reverse body (RetIs d)) : FnQ prog w hB (.ref fa) args d (n + 1) := by
 intro A s O vals Q E R hg X Ow hr q
 refine H.get.elim fun o ho => (hbind s vals X (hr.length.trans hlen.symm)).elim fun binds hb => ?_
 have hB' := hb.2 O Ow hr
 refine wpQ_call (codeQ_call_def R.call (X _ _ ho.1) ho.2 (B.nolimit.keeps X) (H.code.keeps X) H.body hb.1 H.nocell (fun x hx => (hB'.mem hx).elim fun _ he => hloc _ he) (fun h₁ hns hx => ?_) H.noco H.nogen H.kind)
 exact hbody _ _ _ _ (show (A.deeper (callEnv fd s.heap.objs.size fa)).guards = some [] from hg) (frame_ok B H R X Ow) _ _ _ _ _ (frame_st (h₁ := h₁) Ow hB' hns hx) fun f φ σ' h' tk m' O' hp hf S' g => q _ h' tk S'.fr.keep (ret_is hf hp)
end
end
section
section
variable {prog : Program} {w : World} {hB : Heap} {mg mb : Str → Option Value} {C : Cfg} {n : Nat} {σ σ' σ'' : Loc} {m : Str → Option Value} {O : List Addr} {h h' : Heap} {r : Bool} {Φ Ψ : Fl → Loc → Prop} {rest : List Stmt}
theorem not_stab {o : Obj} {n : String} (h : o.cls = .type n) (hn : n ≠ "tuple" ∧ n ≠ "list" ∧ n ≠ "builtin_function_or_method") : ¬ Stab o :=
 have hv : ∀ y, o.cls = .type y → n = y := fun y e => Value.type.inj (h.symm.trans e)
 fun h => h.elim (fun e => hn.1 (hv _ e)) fun h => h.elim (fun e => hn.2.1 (hv _ e)) fun e => hn.2.2 (hv _ e)
inductive EInv (C : Cfg) (inv : List D → Loc) (l : List D) (s : Shared) (O : List Addr) (ep ip la : Addr) : Nat → Shared → Prop
 | mk (i : Nat) (m' : Str → Option Value) (O' : List Addr) (h' : Heap) (tk : Nat) (old : Value) (hi : i ≤ l.length) (S' : StX C m' O' (inv (l.take i)) h') (he : IsEnum h' ep ip (i : Int) old) (hit : h'.IsListIter ip la i)
     (g : Grow O s.heap O' h') (hep : ep ∉ O') (hip : ip ∉ O') : EInv C inv l s O ep ip la (l.length - i) { s with heap := h', toks := tk }
theorem wpQ_forEnum (K : Ok prog w hB mg mb C n) {xi xv le : Str} {pi pv pt np fp cp pos : Pos} {x1 : Nat} {body : List Stmt} {l : List D} (inv : List D → Loc) (st : List D → D → Loc) (h0 : Sub (inv []) σ)
   (hk : C.env.kindOf "enumerate" = some .globalImplicit) (hm : mg "enumerate" = none) (hle : σ.lookup le = some (.v (.lst l))) (hll : C.loc le = true)
   (asg : ∀ pre x post, l = pre ++ x :: post → As prog w C (inv pre) (.Tuple [.Name xi pi, .Name xv pv] x1 pt) (.tup [.int pre.length, x]) (st pre x))
   (turn : ∀ pre x post, l = pre ++ x :: post → WpQ prog w C (st pre x) body (LoopEndQ prog w C (fun σ' => Sub (inv (pre ++ [x])) σ') rest Φ)) (fin : WpQ prog w C (inv l) rest Φ)
   (hd : (le == ("__debug__" : Str)) = false := by decide)
   (hfs : ∀ env x, foldedSetIterable (.Call (.Name "enumerate" fp) [.Name le np] [] cp) env x = pure x := by intro _ _; rfl)
   (hc : ∀ env, eval (.Call (.Name "enumerate" fp) [.Name le np] [] cp) env = (do callWith cp (← eval (.Name "enumerate" fp) env) [] (backTo cp (starEach [.Name le np] env)) (backToKw cp (keywordEach [] env))) := by intro _; rfl) :
   WpQ prog w C σ (.For (.Tuple [.Name xi pi, .Name xv pv] x1 pt) (.Call (.Name "enumerate" fp) [.Name le np] [] cp) body [] pos :: rest) Φ := fun s m O Q E S q => by
 refine (S.ents le _ hle).elim fun v hv => (Rep.lstE hv.2).elim fun la y => y.elim fun vs z => ?_
 obtain ⟨rfl, hla, ⟨nl, hol⟩, hrs⟩ := z
 refine wpQ_execs_cons (wpQ_For (hs := hfs _) (Call_ (load_builtin K S hk hm (v := .type "enumerate") (by decide +kernel) (PyProof.Rows.callWith_type1 (args_cons (wpAny_Name (K.H.load s m le _ _ _ S.fr hll hv.1 (args_nil ?_)) hd)))) (hc _)))
 refine call_enumerate_1 hol fun h₁ he hit hz hx₁ => ?_
 refine wpAny_pyIter_enum he ?_
 have hen : s.heap.get? (s.heap.objs.size + 1) = none := none_of fun o e => Nat.not_lt.mpr (Nat.le_succ _) (Heap.lt_size e)
 have hin : s.heap.get? s.heap.objs.size = none := get_size _
 have hne : s.heap.objs.size + 1 ≠ s.heap.objs.size := Nat.succ_ne_self _
 generalize s.heap.objs.size + 1 = ep at *
 generalize s.heap.objs.size = ip at *
 have hlen : vs.length = l.length := hrs.length
 have dead : ∀ a, s.heap.get? a = none → a ∉ O := fun a h0 hm => (S.alive a hm).elim fun o e => nos h0 e
 have dead0 : ∀ b ∈ [ep, ip], s.heap.get? b = none := fun b hb => (List.mem_cons.mp hb).elim (fun e => e ▸ hen) fun hb => List.mem_singleton.mp hb ▸ hin
 have hwn : ∀ b ∈ [ep, ip], C.h₀.get? b = none := fun b hb => none_of fun o e => nos (dead0 b hb) (K.H.keep _ _ S.fr b o e)
 refine codeQ_forLoop_any (EInv C inv l s O ep ip la) ?_ l.length
   (.mk 0 m O h₁ s.toks .none (Nat.zero_le _) ((S.ext' K hx₁).sub' h0) he hit (Grow.ext hx₁) (dead _ hen) (dead _ hin))
 clear he hit hx₁ hz h0 dead hen hin
 intro k s' I
 cases I with | mk i m' O' h' tk old hi S' he' hit' g hep' hip'
 have hl' : h'.IsList la vs.toArray := ⟨_, g.keep la _ hla hol, rfl, nl, rfl⟩
 have hwO : ∀ b ∈ [ep, ip], b ∉ O' := fun b hb => (List.mem_cons.mp hb).elim (fun e => e ▸ hep') fun hb => List.mem_singleton.mp hb ▸ hip'
 have hst : ∀ b ∈ [ep, ip], ∀ o, h'.get? b = some o → ¬ Stab o := fun b hb o e => (List.mem_cons.mp hb).elim (fun q => not_stab (n := "enumerate") (congrArg Obj.cls (Option.some.inj (Eq.trans (Eq.symm (q ▸ e)) he'))) (by decide))
   fun hb => hit'.elim fun o' y => not_stab (n := "list_iterator") ((congrArg Obj.cls (Option.some.inj (Eq.trans (Eq.symm (List.mem_singleton.mp hb ▸ e)) y.1))).trans y.2.1) (by decide)
 cases Nat.lt_or_eq_of_le hi with
 | inl hlt =>
   obtain ⟨x, hx, hsplit, htake⟩ := list_at (f := fun x : D => x) (xs := l) (i := i) (by rw [List.map_id', List.getElem?_eq_getElem hlt])
   obtain ⟨u, hu⟩ : ∃ u, vs[i]? = some u := ⟨_, List.getElem?_eq_getElem (hlen ▸ hlt)⟩
   refine wpAny_pyNext_enum_item he' hit' hl' (by rw [List.getElem?_toArray]; exact hu) hne fun h₂ he₂ hit₂ ht₂ hz₂ hk₂ => ?_
   refine wpAny_letOwnedTupleGo_enum he₂ fun h₃ he₃ hs₃ => ?_
   have htn : h'.get? h'.objs.size = none := get_size _
   have hk₃ : ∀ b o, b ∉ [ep, ip] → h'.get? b = some o → h₃.get? b = some o := fun b o hb e => (hs₃.2 _ fun q => hb (q ▸ .head _)).trans (hk₂ b o (fun q => hb (q ▸ .head _)) (fun q => hb (q ▸ .tail _ (.head _))) e)
   have S₃ : StX C m' O' (inv (l.take i)) h₃ := S'.walked K (hs := h') hk₃ hwO hwn hst
   have hri : Rep O' h₃ u x := ((hrs.grow g).get' hu).elim fun d hd => by
     have e := hd.1
     rw [List.getElem?_eq_getElem hlt, Option.some.injEq, ← hx] at e
     subst e
     exact hd.2.moveS (fun _ h => .inl h) fun b o _ e hs => hk₃ b o (fun hb => hst b hb o e hs) e
   have hrt : Rep O' h₃ (.ref h'.objs.size) (.tup [.int (l.take i).length, x]) := by
     rw [List.length_take, Nat.min_eq_left hi]
     exact .tup (vs := [.int i tk, u]) (fun hm => (S'.alive _ hm).elim fun o e => nos htn e) ⟨_, (hs₃.2 _ fun q => nos htn (q ▸ he')).trans ht₂, rfl, _, rfl⟩ (.cons .int (.cons hri .nil))
   refine asg _ _ _ hsplit _ m' O' _ _ _ S₃ hrt fun m₄ h₄ t₄ S₄ hk₄ => ?_
   refine turn _ _ _ hsplit _ m₄ O' _ _ S₄ fun fl φ σ' h₅ t₅ m₅ O₅ hp hfl S₅ g₅ => ?_
   have G₅ : Grow O s.heap O₅ h₅ := g.step (fun b o hb hw e => hk₄ b o hb (hk₃ b o hw e)) dead0 g₅
   have he₅ : IsEnum h₅ ep ip ((i + 1 : Nat) : Int) u := g₅.keep _ _ hep' (hk₄ _ _ hep' he₃)
   have hit₄ : h₄.IsListIter ip la (i + 1) := hit₂.at fun o e => hk₄ _ _ hip' ((hs₃.2 _ (Ne.symm hne)).trans e)
   have next : Sub (inv (l.take i ++ [x])) σ' → ∃ k, k < l.length - i ∧ EInv C inv l s O ep ip la k { s with heap := h₅, toks := t₅ } := fun hs =>
     ⟨_, Nat.sub_lt_sub_left hlt (Nat.lt_succ_self i), .mk (i + 1) m₅ O₅ h₅ t₅ _ hlt (S₅.sub' (htake ▸ hs)) he₅ (hit₄.at fun o e => g₅.keep _ _ hip' e) G₅ (fun hm => (g₅.new _ hm).elim hep' fun h0 => nos h0 (hk₄ _ _ hep' he₃)) fun hm => (g₅.new _ hm).elim hip' fun h0 => hit₄.elim fun o y => nos h0 y.1⟩
   cases fl, φ, hfl using FlR.elim with
   | next => exact next hp
   | brk => exact WpQ.fin (s := s) hp S₅ q G₅
   | cont => exact next hp
   | ret v d hr => exact q (.ret _) (.ret _) σ' h₅ t₅ m₅ O₅ hp hr S₅ G₅
 | inr hin' =>
   refine wpAny_pyNext_enum_end K.R.handled he' hit' hl' (by rw [List.getElem?_toArray]; exact List.getElem?_eq_none (hlen ▸ Nat.le_of_eq hin'.symm)) fun h₂ hk₂ => ?_
   have hk : ∀ b o, b ∉ [ep, ip] → h'.get? b = some o → h₂.get? b = some o := fun b o hb e => hk₂ b o (fun q => hb (q ▸ .tail _ (.head _))) e
   exact wpQ_of (wpAny_execs_nil (WpQ.fin (s := s) fin ((show l.take i = l from hin' ▸ List.take_length) ▸ S'.walked K (hs := h') hk hwO hwn hst) q (g.step (fun b o _ hw => hk b o hw) dead0 (Grow.refl _ _))))
end
end
section
section
variable {prog : Program} {w : World} {hB : Heap} {mg mb : Str → Option Value} {C : Cfg} {n : Nat} {σ σ' σ'' : Loc} {m : Str → Option Value} {O : List Addr} {h h' : Heap} {r : Bool} {Φ Ψ : Fl → Loc → Prop} {rest : List Stmt}
theorem ev_callF (K : Ok prog w hB mg mb C n) {f : Str} {id : String} {fp pos : Pos} {e : Expr} {es : List Expr} {ds : List D} {d : D} (hk : C.env.kindOf f = some .globalImplicit) (hm : mg f = none) (hv : bootBuiltins f = some (.builtin id))
   (h1 : EvA prog w C r σ pos (e :: es) ds) (h2 : FnV prog w hB (.builtin id) ds d 0)
   (hn : f ≠ "__name__" := by decide) (hd : (f == ("__debug__" : Str)) = false := by decide) (hs : ∀ env, starEach (e :: es) env = (false, eval e env) :: starEach es env := by intro _; rfl)
   (hpl : ∀ env, (List.any (backTo pos (starEach es env)) fun x => x.1) = false := by intro _; rfl)
   (hc : ∀ env, eval (.Call (.Name f fp) (e :: es) [] pos) env = (do callWith pos (← eval (.Name f fp) env) [] (backTo pos (starEach (e :: es) env)) (backToKw pos (keywordEach [] env))) := by intro _; rfl) :
   Ev prog w C r σ (.Call (.Name f fp) (e :: es) [] pos) d := fun s m O Q E S q => by
 refine Call_ (load_builtin K S hk hm hv ?_ hn hd) (hc _)
 refine PyProof.Rows.callWith_builtin1 (h1 s m O _ E S fun vs h' tk x rs => ?_) (hs _) (hpl _)
 exact h2 _ _ (OR C r O) vs Q E (K.R.le (Nat.zero_le _)) ((S.base K).trans x) ((S.ext' K x).own' K) rs fun v h'' tk' x' hr => q v h'' tk' (x.trans x') hr
theorem ev_callT (K : Ok prog w hB mg mb C n) {f : Str} {T : String} {fp pos : Pos} {e : Expr} {es : List Expr} {ds : List D} {d : D} (hk : C.env.kindOf f = some .globalImplicit) (hm : mg f = none) (hv : bootBuiltins f = some (.type T))
   (h1 : EvA prog w C r σ pos (e :: es) ds) (h2 : FnV prog w hB (.type T) ds d 0)
   (hn : f ≠ "__name__" := by decide) (hd : (f == ("__debug__" : Str)) = false := by decide) (hs : ∀ env, starEach (e :: es) env = (false, eval e env) :: starEach es env := by intro _; rfl)
   (hpl : ∀ env, (List.any (backTo pos (starEach es env)) fun x => x.1) = false := by intro _; rfl)
   (hc : ∀ env, eval (.Call (.Name f fp) (e :: es) [] pos) env = (do callWith pos (← eval (.Name f fp) env) [] (backTo pos (starEach (e :: es) env)) (backToKw pos (keywordEach [] env))) := by intro _; rfl) :
   Ev prog w C r σ (.Call (.Name f fp) (e :: es) [] pos) d := fun s m O Q E S q => by
 refine Call_ (load_builtin K S hk hm hv ?_ hn hd) (hc _)
 refine PyProof.Rows.callWith_type1 (h1 s m O _ E S fun vs h' tk x rs => ?_) (hs _) (hpl _)
 exact h2 _ _ (OR C r O) vs Q E (K.R.le (Nat.zero_le _)) ((S.base K).trans x) ((S.ext' K x).own' K) rs fun v h'' tk' x' hr => q v h'' tk' (x.trans x') hr
def HasT (T : String) (d : D) : Prop := ∀ O (s : Shared) v, Rep O s.heap v d → s.TypeIs v T ∧ ∀ a, v = .ref a → ∃ o, s.heap.get? a = some o ∧ o.dict = none
theorem hasT_str (l : List Nat) : HasT "str" (.str l) := fun O s v r => by cases r; exact ⟨typeIs_str _ _ _, fun _ e => nomatch e⟩
theorem hasT_bytes (l : List UInt8) : HasT "bytes" (.bytes l) := fun O s v r => by cases r; exact ⟨typeIs_bytes _ _ _, fun _ e => nomatch e⟩
theorem ev_meth0 (K : Ok prog w hB mg mb C n) {pl : Env → Sem Bool} {o : Expr} {name : Str} {T id : String} {ap pos : Pos} {d₀ d : D} (hT : HasT T d₀) (pa : PlainAttrs T) (slot : Slot T name id) (hty : typeOf (.builtin id) = pure (.type "method_descriptor"))
   (h0 : Ev prog w C r σ o d₀) (h2 : FnV prog w hB (.builtin id) [d₀] d 0)
   (hm : ∀ env, eval (.Call (.Attribute o name ap) [] [] pos) env = (do let ov ← eval o env; standAt ap.atName; let (f, first) ← holding [ov] (getMethod ov name (pl env)); callWith pos f first (backTo pos (starEach [] env)) []) := by intro _; rfl) :
   Ev prog w C r σ (.Call (.Attribute o name ap) [] [] pos) d := fun s m O Q E S q => by
 refine MethodCall_ (pl := pl C.env) (h0 s m O _ E S fun v h₁ t₁ x₁ rv => ?_) (hm _)
 have S₁ := S.ext' K x₁
 refine getMethod_builtin (hT _ { s with heap := h₁, toks := t₁ } v rv).1 pa slot hty (hT _ { s with heap := h₁, toks := t₁ } v rv).2 ?_
 refine callWith_method0 ?_
 exact h2 _ _ (OR C r O) [v] Q E (K.R.le (Nat.zero_le _)) (S₁.base K) (S₁.own' K) (.cons rv .nil) fun v h'' tk' x' hr => q v h'' tk' (x₁.trans x') hr
theorem ev_meth (K : Ok prog w hB mg mb C n) {pl : Env → Sem Bool} {o : Expr} {name : Str} {T id : String} {ap pos : Pos} {e : Expr} {es : List Expr} {ds : List D} {d₀ d : D} (hT : HasT T d₀) (pa : PlainAttrs T) (slot : Slot T name id) (hty : typeOf (.builtin id) = pure (.type "method_descriptor"))
   (h0 : Ev prog w C r σ o d₀) (h1 : EvA prog w C r σ pos (e :: es) ds) (h2 : FnV prog w hB (.builtin id) (d₀ :: ds) d 0)
   (hs : ∀ env, starEach (e :: es) env = (false, eval e env) :: starEach es env := by intro _; rfl) (hpl : ∀ env, (List.any (backTo pos (starEach es env)) fun x => x.1) = false := by intro _; rfl)
   (hm : ∀ env, eval (.Call (.Attribute o name ap) (e :: es) [] pos) env = (do let ov ← eval o env; standAt ap.atName; let (f, first) ← holding [ov] (getMethod ov name (pl env)); callWith pos f first (backTo pos (starEach (e :: es) env)) []) := by intro _; rfl) :
   Ev prog w C r σ (.Call (.Attribute o name ap) (e :: es) [] pos) d := fun s m O Q E S q => by
 refine MethodCall_ (pl := pl C.env) (h0 s m O _ E S fun v h₁ t₁ x₁ rv => ?_) (hm _)
 have S₁ := S.ext' K x₁
 refine getMethod_builtin (hT _ { s with heap := h₁, toks := t₁ } v rv).1 pa slot hty (hT _ { s with heap := h₁, toks := t₁ } v rv).2 ?_
 refine callWith_method1 (h1 _ m O _ E S₁ fun vs h₂ t₂ x₂ rs => ?_) (hs _) (hpl _)
 have S₂ := S₁.ext' K x₂
 exact h2 _ _ (OR C r O) (v :: vs) Q E (K.R.le (Nat.zero_le _)) (S₂.base K) (S₂.own' K) (.cons (rv.ext x₂) rs) fun v h'' tk' x' hr => q v h'' tk' ((x₁.trans x₂).trans x') hr
theorem evQ_meth (K : Ok prog w hB mg mb C n) {pl : Env → Sem Bool} {o : Expr} {name : Str} {T id : String} {ap pos : Pos} {e : Expr} {es : List Expr} {ds : List D} {d₀ d : D} (hT : HasT T d₀) (pa : PlainAttrs T) (slot : Slot T name id) (hty : typeOf (.builtin id) = pure (.type "method_descriptor"))
   (h0 : EvQ prog w C r σ o d₀) (h1 : EvA prog w C r σ pos (e :: es) ds) (h2 : FnV prog w hB (.builtin id) (d₀ :: ds) d 0)
   (hs : ∀ env, starEach (e :: es) env = (false, eval e env) :: starEach es env := by intro _; rfl) (hpl : ∀ env, (List.any (backTo pos (starEach es env)) fun x => x.1) = false := by intro _; rfl)
   (hm : ∀ env, eval (.Call (.Attribute o name ap) (e :: es) [] pos) env = (do let ov ← eval o env; standAt ap.atName; let (f, first) ← holding [ov] (getMethod ov name (pl env)); callWith pos f first (backTo pos (starEach (e :: es) env)) []) := by intro _; rfl) :
   EvQ prog w C r σ (.Call (.Attribute o name ap) (e :: es) [] pos) d := fun s m O Q E S q => by
 refine wpQ_MethodCall (pl := pl C.env) (h0 s m O _ E S fun v h₁ t₁ x₁ rv => ?_) (hm _)
 have S₁ := S.ext' K x₁
 refine getMethod_builtin (hT _ { s with heap := h₁, toks := t₁ } v rv).1 pa slot hty (hT _ { s with heap := h₁, toks := t₁ } v rv).2 ?_
 refine wpQ_callWith_method1 (hs _) (hpl _) (wpQ_of (h1 _ m O _ E S₁ fun vs h₂ t₂ x₂ rs => wpQ_of ?_))
 have S₂ := S₁.ext' K x₂
 exact h2 _ _ (OR C r O) (v :: vs) Q E (K.R.le (Nat.zero_le _)) (S₂.base K) (S₂.own' K) (.cons (rv.ext x₂) rs) fun v h'' tk' x' hr => q v h'' tk' ((x₁.trans x₂).trans x') hr
inductive Atom : D → Prop
 | none : Atom .none
 | bool {b} : Atom (.bool b)
 | int {i} : Atom (.int i)
 | str {l} : Atom (.str l)
 | bytes {l} : Atom (.bytes l)
theorem Atom.rep {d : D} (a : Atom d) {O O' : List Addr} {h h' : Heap} {v : Value} (r : Rep O h v d) : Rep O' h' v d := by
 cases a <;> cases r <;> constructor
theorem ev_atom {e : Expr} {d : D} (a : Atom d) (h : Ev prog w C true σ e d) : Ev prog w C r σ e d := by
 cases r
 · exact fun s m O Q E S q => h s m O Q E S fun v h' tk x hr => q v h' tk x (a.rep hr)
 · exact h
end
section
variable {prog : Program} {w : World} {hB : Heap}
theorem fn_len_str (l : List Nat) (hsz : l.length ≤ sizeLine) : FnV prog w hB (.builtin "len") [.str l] (.int l.length) 0 := fnV_s fun A s O t Q E R Ow q => by
 exact P.len_str (by show ¬ ((l.toArray.size : Nat) : Int) ≥ 2 ^ 63; rw [List.size_toArray]; rw [sizeLine_eq] at hsz; exact ar116 hsz) (q _ s.heap _ (Ext.refl _) (by show Rep O s.heap (.int ((l.toArray.size : Nat) : Int) _) _; rw [List.size_toArray]; exact .int))
theorem fn_len_lst (l : List D) (hsz : l.length ≤ sizeLine) : FnV prog w hB (.builtin "len") [.lst l] (.int l.length) 0 := fnV_l fun A s O a vs Q E R Ow hO hp hrs q => by
 obtain ⟨k, ho⟩ := hp
 refine Calls.call_len_list (items := vs.toArray) ⟨_, ho, rfl, k, rfl⟩ (by rw [List.size_toArray, hrs.length]; rw [sizeLine_eq] at hsz; exact ar113 hsz) (q _ s.heap _ (Ext.refl _) ?_)
 rw [List.size_toArray, hrs.length]; exact .int
theorem fn_len_bytes (l : List UInt8) (hsz : l.length ≤ sizeLine) : FnV prog w hB (.builtin "len") [.bytes l] (.int l.length) 0 := fnV_b fun A s O t Q E R Ow q => by
 exact len_bytes (by rw [List.size_toArray]; rw [sizeLine_eq] at hsz; exact ar115 hsz) (q _ s.heap _ (Ext.refl _) (by rw [List.size_toArray]; exact .int))
theorem fn_ord (c : Nat) : FnV prog w hB (.builtin "ord") [.str [c]] (.int c) 0 := fnV_s fun A s O t Q E R Ow q => by
 exact P.ord_of_char (q _ s.heap _ (Ext.refl _) .int)
theorem fn_chr (i : Int) (h0 : 0 ≤ i) (h1 : i ≤ 0x10FFFF) : FnV prog w hB (.builtin "chr") [.int i] (.str [i.toNat]) 0 := fnV_i fun A s O t Q E R Ow q => by
 exact P.chr_of_int (by simp; exact ar14 h0 h1) (q _ s.heap _ (Ext.refl _) (.str (l := [i.toNat])))
theorem fn_endswith (a b : List Nat) : FnV prog w hB (.builtin "str.endswith") [.str a, .str b] (.bool (Txt.endswith ⟨a.toArray⟩ ⟨b.toArray⟩)) 0 := fnV_ss fun A s O t u Q E R Ow q => by
 exact call_meets F.slot_str_endswith (typeIs_str _ _ _) F.entry_str_endswith (F.args_str_endswith_2 _ _) (gives_str_endswith _ _ _ _).meets (q _ s.heap s.toks (Ext.refl _) .bool)
theorem fn_rstrip (a : List Nat) (hsz : a.length ≤ sizeLine) : FnV prog w hB (.builtin "str.rstrip") [.str a] (.str (Txt.rstrip ⟨a.toArray⟩).cps.toList) 0 := fnV_s fun A s O t Q E R Ow q => by
 · refine call_meets F.slot_str_rstrip (typeIs_str _ _ _) F.entry_str_rstrip (F.args_str_rstrip_1 _) (gives_str_rstrip _ _).meets ?_
   refine post_val_or_made (fun _ => fits_stripped _ _ _ (by show a.toArray.size ≤ _; rw [List.size_toArray]; exact hsz)) fun t' k => q _ s.heap k (Ext.refl _) ?_
   exact .str (l := (Txt.rstrip ⟨a.toArray⟩).cps.toList)
end
end
section
noncomputable def recAt (p : Program) (k : Nat) : DefRec := ((recsOf p)[k]?).getD ⟨"", default, [], default, default⟩
noncomputable def docAt (p : Program) (k : Nat) (pm code doc : Value) : FuncData := Calls.docDef (recAt p k).name (recAt p k).params (recAt p k).body (recAt p k).scope pm code doc
section
variable (prog : Program) (w : World) (hB : Heap) (mg : Str → Option Value)
def HasFn (p : Program) (k : Nat) : Prop := ∃ fa pm code doc, mg (recAt p k).name = some (.ref fa) ∧ IsFn hB fa (docAt p k pm code doc) (recAt p k).body
def Fn (f : Str) (ds : List D) (d : D) (n : Nat) : Prop := ∃ fa fd body, mg f = some (.ref fa) ∧ IsFn hB fa fd body ∧ FnV prog w hB (.ref fa) ds d n
def FnQN (f : Str) (ds : List D) (d : D) (n : Nat) : Prop := ∃ fa fd body, mg f = some (.ref fa) ∧ IsFn hB fa fd body ∧ FnQ prog w hB (.ref fa) ds d n
end
section
variable {prog : Program} {w : World} {hB : Heap} {mg mb : Str → Option Value} {C : Cfg} {n : Nat} {σ : Loc} {r : Bool}
theorem ev_fn (K : Ok prog w hB mg mb C n) {f : Str} {fp pos : Pos} {e : Expr} {es : List Expr} {ds : List D} {d : D} {k : Nat} (hF : Fn prog w hB mg f ds d k) (hk : C.env.kindOf f = some .globalImplicit)
   (h1 : EvA prog w C r σ pos (e :: es) ds) (hkn : k ≤ n := by omega)
   (hs : ∀ env, starEach (e :: es) env = (false, eval e env) :: starEach es env := by intro _; rfl) (hd : (f == ("__debug__" : Str)) = false := by decide)
   (hc : ∀ env, eval (.Call (.Name f fp) (e :: es) [] pos) env = (do callWith pos (← eval (.Name f fp) env) [] (backTo pos (starEach (e :: es) env)) (backToKw pos (keywordEach [] env))) := by intro _; rfl) :
   Ev prog w C r σ (.Call (.Name f fp) (e :: es) [] pos) d := by
 obtain ⟨fa, fd, body, hm, H, hV⟩ := hF
 exact ev_call K hk hm H h1 hV hkn hs hd hc
theorem evQ_fn (K : Ok prog w hB mg mb C n) (hg : C.A.guards = some []) {f : Str} {fp pos : Pos} {e : Expr} {es : List Expr} {ds : List D} {d : D} {k : Nat} (hF : FnQN prog w hB mg f ds d k) (hk : C.env.kindOf f = some .globalImplicit)
   (h1 : EvAQ prog w C r σ pos (e :: es) ds) (hkn : k ≤ n := by omega)
   (hs : ∀ env, starEach (e :: es) env = (false, eval e env) :: starEach es env := by intro _; rfl) (hd : (f == ("__debug__" : Str)) = false := by decide)
   (hpl : ∀ env, (List.any (backTo pos (starEach es env)) fun x => x.1) = false := by intro _; rfl)
   (hc : ∀ env, eval (.Call (.Name f fp) (e :: es) [] pos) env = (do callWith pos (← eval (.Name f fp) env) [] (backTo pos (starEach (e :: es) env)) (backToKw pos (keywordEach [] env))) := by intro _; rfl) :
   EvQ prog w C r σ (.Call (.Name f fp) (e :: es) [] pos) d := by
 obtain ⟨fa, fd, body, hm, H, hV⟩ := hF
 exact evQ_call K hg hk hm H h1 hV hkn hs hd hpl hc
theorem Fn.q {f : Str} {ds : List D} {d : D} {k : Nat} (h : Fn prog w hB mg f ds d k) : FnQN prog w hB mg f ds d k := let ⟨fa, fd, body, hm, H, hV⟩ := h; ⟨fa, fd, body, hm, H, fnQ_of hV⟩
noncomputable abbrev cfgAt (p : Program) (k : Nat) (pm code doc : Value) (fa : Addr) (A : Around) (L : Addr) (h₀ : Heap) (O₀ : List Addr) : Cfg := plainCfg A (docAt p k pm code doc) L fa h₀ O₀
theorem fn_rec (B : Base hB mg mb) {p : Program} {k : Nat} (H : HasFn hB mg p k) (names : List Str) {args : List D} {d : D} {n : Nat} {f : Str} (hf : (recAt p k).name = f)
   (hlen : names.length = args.length)
   (hbind : ∀ pm code doc (vals : List Value), vals.length = names.length → bindArgs (docAt p k pm code doc) ⟨vals, []⟩ = pure (names.zip vals))
   (hloc : ∀ x ∈ names, (recAt p k).scope.names.lookup x = some .local)
   (hbody : ∀ pm code doc fa A L h₀ O₀, Ok prog w hB mg mb (cfgAt p k pm code doc fa A L h₀ O₀) n → Wp prog w (cfgAt p k pm code doc fa A L h₀ O₀) (names.zip (args.map .v)).reverse (recAt p k).body (RetIs d)) : Fn prog w hB mg f args d (n + 1) := by
 obtain ⟨fa, pm, code, doc, hm, hH⟩ := H
 subst hf
 refine ⟨fa, _, _, hm, hH, fn_of B hH hlen (binds_plain hlen (hbind pm code doc)) (fun x hx => ?_) fun A L h₀ O₀ K => hbody pm code doc fa A L h₀ O₀ K⟩
 exact hloc _ (List.of_mem_zip hx).1
theorem fn_recQ (B : Base hB mg mb) {p : Program} {k : Nat} (H : HasFn hB mg p k) (names : List Str) {args : List D} {d : D} {n : Nat} {f : Str} (hf : (recAt p k).name = f)
   (hlen : names.length = args.length)
   (hbind : ∀ pm code doc (vals : List Value), vals.length = names.length → bindArgs (docAt p k pm code doc) ⟨vals, []⟩ = pure (names.zip vals))
   (hloc : ∀ x ∈ names, (recAt p k).scope.names.lookup x = some .local)
   (hbody : ∀ pm code doc fa A L h₀ O₀, A.guards = some [] → Ok prog w hB mg mb (cfgAt p k pm code doc fa A L h₀ O₀) n → WpQ prog w (cfgAt p k pm code doc fa A L h₀ O₀) (names.zip (args.map .v)).reverse (recAt p k).body (RetIs d)) : FnQN prog w hB mg f args d (n + 1) := by
 obtain ⟨fa, pm, code, doc, hm, hH⟩ := H
 subst hf
 refine ⟨fa, _, _, hm, hH, fnQ_def B hH hlen (binds_plain hlen (hbind pm code doc)) (fun x hx => ?_) fun A L h₀ O₀ hg K => hbody pm code doc fa A L h₀ O₀ hg K⟩
 exact hloc _ (List.of_mem_zip hx).1
theorem len_cons {α : Type} {n : Nat} {P : List α → Prop} (h : ∀ a l, l.length = n → P (a :: l)) (l : List α) : l.length = n + 1 → P l :=
 List.casesOn (motive := fun l => l.length = n + 1 → P l) l (fun e => nomatch e) fun a l e => h a l (Nat.succ.inj e)
theorem len_nil {α : Type} {P : List α → Prop} (h : P []) (l : List α) (e : l.length = 0) : P l := List.eq_nil_of_length_eq_zero e ▸ h
theorem vals1 {α : Type} {P : List α → Prop} (h : ∀ a, P [a]) : ∀ vals : List α, vals.length = 1 → P vals := len_cons fun a => len_nil (P := fun l => P (a :: l)) (h a)
theorem vals2 {α : Type} {P : List α → Prop} (h : ∀ a b, P [a, b]) : ∀ vals : List α, vals.length = 2 → P vals := len_cons fun a => vals1 (P := fun l => P (a :: l)) (h a)
theorem vals3 {α : Type} {P : List α → Prop} (h : ∀ a b c, P [a, b, c]) : ∀ vals : List α, vals.length = 3 → P vals := len_cons fun a => vals2 (P := fun l => P (a :: l)) (h a)
theorem vals4 {α : Type} {P : List α → Prop} (h : ∀ a b c d, P [a, b, c, d]) : ∀ vals : List α, vals.length = 4 → P vals := len_cons fun a => vals3 (P := fun l => P (a :: l)) (h a)
theorem arr1 {α : Type} {P : Array α → Prop} (k : ∀ a, P #[a]) (vs : Array α) (h : vs.size = 1) : P vs := Array.casesOn (motive := fun vs => vs.size = 1 → P vs) vs (vals1 (P := fun l => P ⟨l⟩) k) h
theorem arr2 {α : Type} {P : Array α → Prop} (k : ∀ a b, P #[a, b]) (vs : Array α) (h : vs.size = 2) : P vs := Array.casesOn (motive := fun vs => vs.size = 2 → P vs) vs (vals2 (P := fun l => P ⟨l⟩) k) h
theorem fa0 {α : Type} {P : α → Prop} : ∀ x ∈ ([] : List α), P x := fun _ h => nomatch h
theorem fa {α : Type} {P : α → Prop} {a : α} {l : List α} (h : P a) (k : ∀ x ∈ l, P x) : ∀ x ∈ a :: l, P x := List.forall_mem_cons.mpr ⟨h, k⟩
end
end
section
section
variable {prog : Program} {w : World} {hB : Heap} {mg mb : Str → Option Value} {C : Cfg} {n : Nat} {σ : Loc} {r : Bool}
theorem ev_eqI {e : Expr} {a b : Int} (h : Ev prog w C r σ e (.int a)) (q : a = b) : Ev prog w C r σ e (.int b) := q ▸ h
theorem ev_eq {e : Expr} {a b : D} (h : Ev prog w C r σ e a) (q : a = b) : Ev prog w C r σ e b := q ▸ h
theorem evT_eq {e : Expr} {a b : Bool} (h : EvT prog w C σ e a) (q : a = b) : EvT prog w C σ e b := q ▸ h
end
theorem op2_eq {t : Value → Value → Sem Value} {prog : Program} {w : World} {hB : Heap} {a b d d' : D} (h : Op2 prog w hB t a b d) (q : d = d') : Op2 prog w hB t a b d' := q ▸ h
theorem fdivN (a b : Nat) : Int.fdiv (a : Int) (b : Int) = ((a / b : Nat) : Int) := by
 rw [Int.fdiv_eq_ediv_of_nonneg _ (Int.natCast_nonneg b)]; exact (Int.natCast_ediv a b).symm
theorem fmodN (a b : Nat) : Int.fmod (a : Int) (b : Int) = ((a % b : Nat) : Int) := by
 rw [Int.fmod_eq_emod_of_nonneg _ (Int.natCast_nonneg b)]; exact (Int.natCast_emod a b).symm
noncomputable def adaptLoop (d v : Nat) : Nat := if h : 455 < d then adaptLoop (d / 35) (v + 36) else v + 36 * d / (d + 38)
termination_by d
decreasing_by exact ar61 h
noncomputable def adaptF (delta : Nat) (first : Bool) (n : Nat) : Nat :=
 let d := if first then delta / 700 else delta / 2
 adaptLoop (d + d / n) 0
noncomputable def tN (j bias : Nat) : Nat := if 36 * (j + 1) < bias + 1 then 1 else if bias + 26 < 36 * (j + 1) then 26 else 36 * (j + 1) - bias
theorem tN_pos (j bias : Nat) : 1 ≤ tN j bias := by unfold tN; split <;> (try split) <;> omega
theorem tN_le (j bias : Nat) : tN j bias ≤ 26 := by unfold tN; split <;> (try split) <;> omega
noncomputable def ggi (N j bias : Nat) : List Nat :=
 if h : N < tN j bias then [N] else (tN j bias + (N - tN j bias) % (36 - tN j bias)) :: ggi ((N - tN j bias) / (36 - tN j bias)) (j + 1) bias
termination_by N
decreasing_by
 have h1 := tN_pos j bias
 have h2 := tN_le j bias
 have : (N - tN j bias) / (36 - tN j bias) ≤ N - tN j bias := Nat.div_le_self _ _
 exact ar399 h1 this h
noncomputable def dLow (d : Nat) : UInt8 := if d < 26 then (97 + d).toUInt8 else (22 + d).toUInt8
noncomputable def dUp (d : Nat) : UInt8 := if d < 26 then (65 + d).toUInt8 else (22 + d).toUInt8
theorem ggi_lt (N j bias : Nat) : ∀ d ∈ ggi N j bias, d < 36 := by
 induction N, j using ggi.induct (bias := bias) with
 | case1 N j h => rw [ggi, dif_pos h]; intro d hd; rw [List.mem_singleton.mp hd]; have := tN_le j bias; exact ar262 h this
 | case2 N j h ih =>
   rw [ggi, dif_neg h]
   intro d hd
   rcases List.mem_cons.mp hd with rfl | hd
   · have h1 := tN_pos j bias; have h2 := tN_le j bias
     have : (N - tN j bias) % (36 - tN j bias) < 36 - tN j bias := Nat.mod_lt _ (by exact ar125 h2)
     exact ar314 this
   · exact ih d hd
theorem ggi_len (N j bias : Nat) : (ggi N j bias).length ≤ N + 1 := by
 induction N, j using ggi.induct (bias := bias) with
 | case1 N j h => rw [ggi, dif_pos h]; simp
 | case2 N j h ih =>
   rw [ggi, dif_neg h, List.length_cons]
   have h1 := tN_pos j bias
   have : (N - tN j bias) / (36 - tN j bias) ≤ N - tN j bias := Nat.div_le_self _ _
   exact ar495 h1 ih this h
theorem ggi_ne (N j bias : Nat) : ggi N j bias ≠ [] := by
 rw [ggi]; split <;> simp
noncomputable def gisF (base : Nat) : List Nat → (points bias : Nat) → List Nat
 | [], _, _ => []
 | d :: ds, points, bias => ggi d 0 bias ++ gisF base ds (points + 1) (adaptF d (points == 0) (base + points + 1))
noncomputable def biasF (base : Nat) : List Nat → (points bias : Nat) → Nat
 | [], _, b => b
 | d :: ds, points, b => biasF base ds (points + 1) (adaptF d (points == 0) (base + points + 1))
theorem gisF_append (base : Nat) : ∀ (xs ys : List Nat) (p b : Nat), gisF base (xs ++ ys) p b = gisF base xs p b ++ gisF base ys (p + xs.length) (biasF base xs p b)
 | [], ys, p, b => rfl
 | x :: xs, ys, p, b => by
   simp only [List.cons_append, gisF, biasF, List.append_assoc, List.length_cons]
   rw [gisF_append base xs ys, show p + 1 + xs.length = p + (xs.length + 1) by exact ar353]
theorem biasF_append (base : Nat) : ∀ (xs ys : List Nat) (p b : Nat), biasF base (xs ++ ys) p b = biasF base ys (p + xs.length) (biasF base xs p b)
 | [], ys, p, b => rfl
 | x :: xs, ys, p, b => by
   simp only [List.cons_append, biasF, List.length_cons]
   rw [biasF_append base xs ys, show p + 1 + xs.length = p + (xs.length + 1) by exact ar353]
noncomputable def digs : List UInt8 := (List.range 36).map dLow
theorem digs_at {d : Nat} (h : d < 36) : digs[d]? = some (dLow d) := by
 unfold digs; rw [List.getElem?_map, List.getElem?_range h]; rfl
theorem byte_back (b : UInt8) : ((b.toNat : Int)).toNat.toUInt8 = b := by
 rw [Int.toNat_natCast]; exact UInt8.ofNat_toNat
def GlobIs (hB : Heap) (mg : Str → Option Value) (x : Str) (d : D) : Prop := ∃ v, mg x = some v ∧ Rep [] hB v d
section
variable {prog : Program} {w : World} {hB : Heap} {mg mb : Str → Option Value} {C : Cfg} {n : Nat} {σ : Loc} {r : Bool}
theorem ev_globIs (K : Ok prog w hB mg mb C n) {x : Str} {pos : Pos} {d : D} (h : GlobIs hB mg x d) (hk : C.env.kindOf x = some .globalImplicit) (hd : (x == ("__debug__" : Str)) = false := by decide) : Ev prog w C r σ (.Name x pos) d := by
 obtain ⟨v, hv, hr⟩ := h
 exact ev_glob K hk hv hr hd
end
end
section
section
variable {prog : Program} {w : World} {hB : Heap} {mg mb : Str → Option Value} {C : Cfg} {n : Nat} {σ σ' : Loc} {r : Bool} {rest : List Stmt} {Φ : Fl → Loc → Prop}
theorem wp_try {body : List Stmt} {h₀ : ExceptHandler} {hs : List ExceptHandler} {pos : Pos} (h1 : Wp prog w C σ body (Seq prog w C rest Φ)) : Wp prog w C σ (.Try body (h₀ :: hs) [] [] pos :: rest) Φ := fun s m O Q E S q => by
 refine wpAny_execs_cons (wpAny_Try_except (h1 s m O _ _ S fun f φ σ' h' tk m' O' hp hf S' g => ?_))
 cases f, φ, hf using FlR.elim with
 | next => exact wpAny_execs_nil (Wp.fin (s := s) hp S' q g)
 | brk => exact q .brk .brk σ' h' tk m' O' hp trivial S' g
 | cont => exact q .cont .cont σ' h' tk m' O' hp trivial S' g
 | ret v d hr => exact q (.ret _) (.ret _) σ' h' tk m' O' hp hr S' g
end
theorem clipAt_min (n p : Nat) : clipAt n (p : Int) = min p n := by
 unfold clipAt; rw [if_neg (Int.not_lt.mpr (Int.natCast_nonneg p))]; omega
theorem clipAt_nat {n p : Nat} (h : p ≤ n) : clipAt n (p : Int) = p := (clipAt_min n p).trans (Nat.min_eq_left h)
theorem clipAt_neg (n k : Nat) (hk : 0 < k) : clipAt n (-(k : Int)) = n - k := by
 unfold clipAt; rw [if_pos (Int.neg_neg_of_pos (Int.natCast_pos.mpr hk))]; omega
theorem clipAt_neg1 (n : Nat) : clipAt n (-1) = n - 1 := clipAt_neg n 1 Nat.one_pos
theorem slc_nat {α : Type} (l : List α) {a b : Nat} (h1 : a ≤ l.length) (h2 : b ≤ l.length) : slc l (some (a : Int)) (some (b : Int)) = (l.drop a).take (b - a) := by
 show (l.drop (clipAt l.length (a : Int))).take (clipAt l.length (b : Int) - clipAt l.length (a : Int)) = _
 rw [clipAt_nat h1, clipAt_nat h2]
theorem slc_take' {α : Type} (l : List α) (p : Nat) : slc l none (some (p : Int)) = l.take p := by
 show (l.drop 0).take (clipAt l.length (p : Int) - 0) = _
 rw [clipAt_min, Nat.sub_zero, List.drop_zero, ← List.take_eq_take_min]
theorem slc_take {α : Type} (l : List α) {p : Nat} (h : p ≤ l.length) : slc l none (some (p : Int)) = l.take p := slc_take' l p
theorem slc_drop {α : Type} (l : List α) {p : Nat} (h : p ≤ l.length) : slc l (some (p : Int)) none = l.drop p := by
 show (l.drop (clipAt l.length (p : Int))).take (l.length - clipAt l.length (p : Int)) = _
 rw [clipAt_nat h]; exact List.take_of_length_le (by rw [List.length_drop]; exact Nat.le_refl _)
theorem slc_drop' {α : Type} (l : List α) (p : Nat) : slc l (some (p : Int)) none = l.drop p := by
 by_cases h : p ≤ l.length
 · exact slc_drop l h
 · have h' := Nat.le_of_not_le h
   show (l.drop (clipAt l.length (p : Int))).take (l.length - clipAt l.length (p : Int)) = _
   rw [clipAt_min, Nat.min_eq_right h', Nat.sub_self, List.take_zero, List.drop_eq_nil_of_le h']
theorem slc_init {α : Type} (l : List α) : slc l none (some (-1)) = l.dropLast := by
 show (l.drop 0).take (clipAt l.length (-1) - 0) = _
 rw [clipAt_neg1, List.dropLast_eq_take]; rfl
theorem slc_initFrom {α : Type} (l : List α) {p : Nat} (h : p ≤ l.length) : slc l (some (p : Int)) (some (-1)) = (l.drop p).dropLast := by
 show (l.drop (clipAt l.length (p : Int))).take (clipAt l.length (-1) - clipAt l.length (p : Int)) = _
 rw [clipAt_nat h, clipAt_neg1, List.dropLast_eq_take, List.length_drop, Nat.sub_right_comm]
theorem slc_cutEnd {α : Type} (a b : List α) (h : 0 < b.length) : slc (a ++ b) none (some (-(b.length : Int))) = a := by
 show ((a ++ b).drop 0).take (clipAt (a ++ b).length (-(b.length : Int)) - 0) = _
 rw [clipAt_neg _ _ h, List.length_append, Nat.add_sub_cancel, List.drop_zero, Nat.sub_zero, List.take_left' rfl]
theorem slc_lastF {α : Type} (l : List α) : slc l (some (-1)) none = l.drop (l.length - 1) := by
 show (l.drop (clipAt l.length (-1))).take (l.length - clipAt l.length (-1)) = _
 rw [clipAt_neg1]; exact List.take_of_length_le (by rw [List.length_drop]; exact Nat.le_refl _)
noncomputable def insF : List Nat → List Nat → Nat → Nat → List Nat
 | [], base, _, _ => base
 | d :: ds, base, char, p => insF ds (base.take ((p + d) % (base.length + 1)) ++ (char + (p + d) / (base.length + 1)) :: base.drop ((p + d) % (base.length + 1))) (char + (p + d) / (base.length + 1)) ((p + d) % (base.length + 1) + 1)
noncomputable def insOk : List Nat → Nat → Nat → Nat → Prop
 | [], _, _, _ => True
 | d :: ds, len, char, p => char + (p + d) / (len + 1) ≤ 1114111 ∧ insOk ds (len + 1) (char + (p + d) / (len + 1)) ((p + d) % (len + 1) + 1)
theorem ins_len (base : List Nat) (p c : Nat) : (base.take p ++ c :: base.drop p).length = base.length + 1 := by
 rw [List.length_append, List.length_cons, ← Nat.add_assoc, ← List.length_append, List.take_append_drop]
theorem dUp_low {d : Nat} (h : d < 26) : (dUp d).toNat = 65 + d := by
 unfold dUp; rw [if_pos h]
 exact Nat.mod_eq_of_lt (Nat.lt_trans (Nat.add_lt_add_left h 65) (by decide))
theorem dUp_high {d : Nat} (h : ¬ d < 26) (h2 : d < 36) : (dUp d).toNat = 22 + d := by
 unfold dUp; rw [if_neg h]
 exact Nat.mod_eq_of_lt (Nat.lt_trans (Nat.add_lt_add_left h2 22) (by decide))
theorem gisF_lt (base : Nat) : ∀ (ds : List Nat) (p b : Nat), ∀ d ∈ gisF base ds p b, d < 36
 | [], _, _, d, h => by cases h
 | x :: ds, p, b, d, h => by
   rcases List.mem_append.mp h with h | h
   · exact ggi_lt _ _ _ d h
   · exact gisF_lt base ds _ _ d h
theorem dLow_lt {d : Nat} (h : d < 36) : (dLow d).toNat < 128 := (show ∀ d < 36, (dLow d).toNat < 128 by decide) d h
theorem dLow_hyphen {d : Nat} (h : d < 36) : dLow d ≠ 45 := (show ∀ d < 36, dLow d ≠ 45 by decide) d h
end
section
open Builtin Builtin.Bytes
theorem meets_upper (b : Array UInt8) (t : Tok) (hsz : b.size ≤ sizeLine) :
   Meets (Builtin.«bytes.upper» ⟨[.bytes b t], []⟩) (fun _ R s => ∀ t' k, R (.ok (.ret (.bytes (b.toList.map toUpper).toArray t'))) { s with toks := k }) := by
 refine .of_wp fun prog w A R s h => ?_
 show wpAny _ _ (do ret (← mkBytes (b.toList.map toUpper).toArray)) _ _ s
 refine wpAny_bind (wpAny_mkBytes (wpAny_pure ⟨_, rfl, h _ _⟩) (by rw [List.size_toArray, List.length_map]; exact hsz))
theorem meets_rfind (b c : Array UInt8) (t u : Tok) (hc : c.size ≤ b.size) :
   Meets (Builtin.«bytes.rfind» ⟨[.bytes b t, .bytes c u], []⟩) (fun _ R s => ∀ t' k, R (.ok (.ret (.int (match rfind? b c 0 b.size with | some i => (i : Int) | none => -1) t'))) { s with toks := k }) := by
 refine .of_wp fun prog w A R s h => ?_
 unfold Builtin.«bytes.rfind»
 unfold searchM
 refine wpAny_bind (m := searchArgs _ _ _) ?_
 unfold searchArgs
 refine wpAny_bind (m := selfAndSome _ _ _ _ _) (wpAny_pure ?_)
 refine wpAny_bind (m := bound? _) (wpAny_pure ?_)
 refine wpAny_bind (m := bound? _) (wpAny_pure ?_)
 refine wpAny_bind (m := buffer? _ _ _) (wpAny_buffer_bytes ?_)
 dsimp only
 refine wpAny_bind (wpAny_pure ?_)
 refine wpAny_bind (m := payload _) (wpAny_pure ?_)
 have hw : window b.size none none = (0, (b.size : Int)) := by unfold window; simp; rw [if_neg (by exact ar188)]; lia
 rw [hw]
 dsimp only
 refine wpAny_pure ?_
 dsimp only
 rw [if_neg (by exact ar331 hc), Option.bind_some]
 simp only [Int.toNat_zero, Int.toNat_natCast, if_true]
 revert h
 cases rfind? b c 0 b.size with
 | some i => intro h; exact wpAny_ret_mkInt (h _ _)
 | none => intro h; exact wpAny_bind (wpAny_rule (wpAny_ret_mkInt (h _ _)))
theorem find_last {P : Nat → Bool} {k : Nat} : ∀ n, k < n → P k = true → (∀ i, k < i → i < n → P i = false) → (List.range n).reverse.find? P = some k
 | 0, h, _, _ => absurd h (Nat.not_lt_zero _)
 | n + 1, h, hk, hn => by
   rw [List.range_succ, List.reverse_append, List.reverse_singleton, List.singleton_append, List.find?_cons]
   by_cases q : n = k
   · subst q; rw [hk]
   · rw [hn n (by exact ar260 h q) (by exact ar177)]
     exact find_last n (by exact ar260 h q) hk fun i h1 h2 => hn i h1 (by exact ar266 h2)
theorem extract_one (l : List UInt8) (i : Nat) (c : UInt8) : (l.toArray.extract i (i + 1) == #[c]) = (l[i]? == some c) := by
 rw [Bool.eq_iff_iff, beq_iff_eq, beq_iff_eq]
 rw [← Array.toList_inj, Array.toList_extract]
 show ((l.drop i).take (i + 1 - i) = [c]) ↔ _
 rw [show i + 1 - i = 1 by exact ar152]
 cases q : l[i]? with
 | none =>
   rw [List.getElem?_eq_none_iff] at q
   rw [List.drop_eq_nil_of_le q]; simp
 | some d =>
   have hlt : i < l.length := (List.getElem?_eq_some_iff.mp q).1
   have hd : l[i] = d := (List.getElem?_eq_some_iff.mp q).2
   rw [List.drop_eq_getElem_cons hlt, hd]; simp
theorem rfind_last (x y : List UInt8) (c : UInt8) (hy : c ∉ y) : rfind? (x ++ c :: y).toArray #[c] 0 (x ++ c :: y).toArray.size = some x.length := by
 unfold rfind?
 rw [show (List.range ((x ++ c :: y).toArray.size + 1 - (0 + (#[c] : Array UInt8).size))).map (· + 0) = List.range (x ++ c :: y).length by
   rw [List.size_toArray]; simp]
 refine find_last _ (by simp) ?_ fun i h1 h2 => ?_
 · show (_ == _) = true
   rw [show (#[c] : Array UInt8).size = 1 from rfl, extract_one]; simp
 · show (_ == _) = false
   rw [show (#[c] : Array UInt8).size = 1 from rfl, extract_one]
   obtain ⟨j, rfl⟩ : ∃ j, i = x.length + 1 + j := ⟨i - (x.length + 1), by exact ar321 h1⟩
   rw [List.getElem?_append_right (by exact ar373), show x.length + 1 + j - x.length = j + 1 by exact ar350, List.getElem?_cons_succ]
   simp only [beq_eq_false_iff_ne, ne_eq]
   exact fun e => hy (List.mem_of_getElem? e)
section
variable {prog : Program} {w : World} {hB : Heap}
theorem fn_upper (l : List UInt8) (hsz : l.length ≤ sizeLine) : FnV prog w hB (.builtin "bytes.upper") [.bytes l] (.bytes (l.map toUpper)) 0 := fnV_b fun A s O t Q E R Ow q => by
 exact call_meets S.slot_bytes_upper (typeIs_bytes _ _ _) S.entry_bytes_upper (S.args_bytes_upper _) (meets_upper _ _ (by rw [List.size_toArray]; exact hsz)) (fun t' k => q _ s.heap k (Ext.refl _) .bytes)
theorem fn_rfind (x y : List UInt8) (c : UInt8) (hy : c ∉ y) : FnV prog w hB (.builtin "bytes.rfind") [.bytes (x ++ c :: y), .bytes [c]] (.int x.length) 0 := fnV_bb fun A s O t u Q E R Ow q => by
 refine call_meets S.slot_bytes_rfind (typeIs_bytes _ _ _) S.entry_bytes_rfind (S.args_bytes_rfind _ _) (meets_rfind _ _ _ _ (by simp; exact ar364)) (fun t' k => ?_)
 rw [show ([c] : List UInt8).toArray = #[c] from rfl, rfind_last x y c hy]
 exact q _ s.heap k (Ext.refl _) .int
end
end
section
open Builtin Builtin._codecs
noncomputable def ascL : List Nat := [97, 115, 99, 105, 105]
theorem encodeRoad_ascii (id : String) (self : Value) (x : Str) (errors : Option Str) : encodeRoad id self x ⟨ascL.toArray⟩ errors = (do mkBytes (← encodeNarrow id asciiCodec errors self x)) := by
 have e : (normalName ⟨ascL.toArray⟩).toString = "ascii" := by decide +kernel
 unfold encodeRoad
 rw [e]
 rfl
theorem codecArg_ascii (id f which : String) (u : Tok) : Builtin.Str.codecArg id f which (some (.str ⟨ascL.toArray⟩ u)) = pure (some ⟨ascL.toArray⟩) := by
 have h1 : ((⟨ascL.toArray⟩ : Str).cps.any (· ≥ 128)) = false := by decide +kernel
 have h2 : ((⟨ascL.toArray⟩ : Str).cps.contains 0) = false := by decide +kernel
 show (if ((⟨ascL.toArray⟩ : Str).cps.any (· ≥ 128)) = true then _ else if ((⟨ascL.toArray⟩ : Str).cps.contains 0) = true then _ else _ : Sem _) = _
 rw [h1, h2]
 rfl
theorem enc_tree (x : Str) (t u : Tok) : «str.encode» ⟨[.str x t, .str ⟨ascL.toArray⟩ u], []⟩ = (do ret (← encodeRoad "str.encode" (.str x t) x ⟨ascL.toArray⟩ none)) := by
 show (do
   let encoding := (← Builtin.Str.codecArg "str.encode" "encode" "'encoding'" (some (.str ⟨ascL.toArray⟩ u))).getD "utf-8"
   let errors ← Builtin.Str.codecArg "str.encode" "encode" "'errors'" none
   ret (← encodeRoad "str.encode" (.str x t) x encoding errors) : Sem Fin) = _
 rw [codecArg_ascii]
 rfl
theorem findIdx_clean (a : Array Nat) (h : ∀ c ∈ a, c < 128) : a.findIdx? asciiCodec.bad = none := by
 rw [Array.findIdx?_eq_none_iff]
 intro c hc
 show decide (c ≥ 128) = false
 have := h c hc
 simp; exact ar74 this
theorem fold_ascii (l : List Nat) : ∀ acc : Array UInt8, l.foldl (fun acc y => acc ++ (asciiCodec.bytesOf y).toArray) acc = acc ++ (l.map fun c => c.toUInt8).toArray := by
 induction l with
 | nil => intro acc; simp
 | cons c l ih =>
   intro acc
   rw [List.foldl_cons, ih, List.map_cons]
   show acc ++ [c.toUInt8].toArray ++ _ = _
   rw [Array.append_assoc]; congr 1
   simp
theorem forIn_range2 {β : Type} {n : Nat} {f : Nat → β → Sem (ForInStep β)} {b0 b1 : β} (hn : 0 < n) (h0 : f 0 b0 = pure (.yield b1)) (h1 : ∀ k, f k b1 = pure (.done b1)) : forIn [:n] b0 f = pure b1 := by
 rw [Std.Legacy.Range.forIn_eq_forIn_range', show ([:n] : Std.Legacy.Range).size = n by simp [Std.Legacy.Range.size]]
 cases n with
 | zero => cases hn
 | succ n =>
   rw [List.range'_succ, List.forIn_cons, h0, pure_bind]
   cases n with
   | zero => rfl
   | succ n => rw [List.range'_succ]; exact (List.forIn_cons ..).trans (by rw [h1]; rfl)
theorem bind_of {α β : Type} {m m' : Sem α} {f : α → Sem β} (h : m = m') : m >>= f = m' >>= f := h ▸ rfl
theorem forIn_range0 {β : Type} {f : Nat → β → Sem (ForInStep β)} {b : β} : forIn [:0] b f = pure b := by
 rw [Std.Legacy.Range.forIn_eq_forIn_range']; rfl
theorem narrow_fold (a : Array Nat) (h : ∀ c ∈ a, c < 128) : ((a.extract 0 a.size).extract 0 (((a.extract 0 a.size).findIdx? asciiCodec.bad).getD (a.extract 0 a.size).size)).foldl (fun acc y => acc ++ (asciiCodec.bytesOf y).toArray) (#[] : Array UInt8) = (a.toList.map fun c => c.toUInt8).toArray := by
 rw [Array.extract_size, findIdx_clean a h, Option.getD_none, Array.extract_size, ← Array.foldl_toList, fold_ascii, Array.empty_append]
theorem narrow_clean (a : Array Nat) (h : ∀ c ∈ a, c < 128) : ((a.extract 0 a.size).findIdx? asciiCodec.bad).getD (a.extract 0 a.size).size = a.size := by
 rw [Array.extract_size, findIdx_clean a h, Option.getD_none]
theorem encodeNarrow_ascii (id : String) (errors : Option Str) (self : Value) (x : Str) (h : ∀ c ∈ x.cps, c < 128) (hsz : x.length ≤ sizeLine) : encodeNarrow id asciiCodec errors self x = pure (x.cps.toList.map fun c => c.toUInt8).toArray := by
 obtain ⟨a⟩ := x
 cases hc : a[0]? with
 | none =>
   have hz : a = #[] := Array.eq_empty_of_size_eq_zero (Nat.le_zero.mp (Array.getElem?_eq_none_iff.mp hc))
   rw [hz]
   unfold encodeNarrow
   exact (bind_of forIn_range0).trans rfl
 | some c =>
   have hlt : 0 < a.size := (Array.getElem?_eq_some_iff.mp hc).1
   have hb : (!asciiCodec.bad c) = true := congrArg not (decide_eq_false (Nat.not_le.mpr (h c (Array.mem_of_getElem? hc))))
   have hf := narrow_fold a h
   have hk := narrow_clean a h
   unfold encodeNarrow
   refine (bind_of (forIn_range2 (n := a.size) (b1 := ⟨0 + (((a.extract 0 a.size).findIdx? asciiCodec.bad).getD (a.extract 0 a.size).size), ((a.extract 0 a.size).extract 0 (((a.extract 0 a.size).findIdx? asciiCodec.bad).getD (a.extract 0 a.size).size)).foldl (fun acc y => acc ++ (asciiCodec.bytesOf y).toArray) #[], {}⟩) hlt ?_ fun k => ?_)).trans ?_
   · refine (if_neg (Nat.not_lt_zero _)).trans ?_
     rw [hc]
     exact if_pos hb
   · rw [hf, hk, Nat.zero_add]
     refine (if_neg (Nat.not_lt.mpr (show _ ≤ sizeLine by rw [List.size_toArray, List.length_map, Array.length_toList]; exact hsz))).trans ?_
     rw [Array.getElem?_size]
   · rw [hf]; rfl
theorem meets_encode (x : Str) (t u : Tok) (h : ∀ c ∈ x.cps, c < 128) (hsz : x.length ≤ sizeLine) :
   Meets («str.encode» ⟨[.str x t, .str ⟨ascL.toArray⟩ u], []⟩) (fun _ R s => ∀ t' k, R (.ok (.ret (.bytes (x.cps.toList.map fun c => c.toUInt8).toArray t'))) { s with toks := k }) := by
 refine .of_wp fun prog w A R s hR => ?_
 rw [enc_tree, encodeRoad_ascii, encodeNarrow_ascii _ _ _ _ h hsz]
 exact wpAny_bind (wpAny_bind (wpAny_pure (wpAny_mkBytes (wpAny_pure ⟨_, rfl, hR _ _⟩) (by rw [List.size_toArray, List.length_map, Array.length_toList]; exact hsz))))
section
variable {prog : Program} {w : World} {hB : Heap}
theorem fn_encode (l : List Nat) (h : ∀ c ∈ l, c < 128) (hsz : l.length ≤ sizeLine) : FnV prog w hB (.builtin "str.encode") [.str l, .str ascL] (.bytes (l.map fun c => c.toUInt8)) 0 := fun A s O vals Q E R X Ow rs q => by
 refine rs.twoE.elim fun v y => y.elim fun v' z => ?_
 obtain ⟨rfl, rv, rv'⟩ := z
 obtain ⟨t, rfl⟩ := rv.strE
 obtain ⟨u, rfl⟩ := rv'.strE
 exact call_meets F.slot_str_encode (typeIs_str _ _ _) F.entry_str_encode (F.args_str_encode_2 _ _) (meets_encode _ _ _ (by simpa using h) (by show l.toArray.size ≤ _; rw [List.size_toArray]; exact hsz)) (fun t' k => q _ s.heap k (Ext.refl _) .bytes)
end
end
section
open Builtin Builtin._codecs
theorem forIn_steps {σ : Type} (f : Nat → σ → Sem (ForInStep σ)) (st : Nat → σ) : ∀ k a, (∀ i, a ≤ i → i < a + k → f i (st i) = pure (.yield (st (i + 1)))) → forIn (List.range' a k) (st a) f = pure (st (a + k))
 | 0, a, _ => rfl
 | k + 1, a, h => by
   rw [List.range'_succ, List.forIn_cons, h a (Nat.le_refl _) (by exact ar372)]
   simp only [pure_bind]
   rw [forIn_steps f st k (a + 1) fun i h1 h2 => h i (by exact ar243 h1) (by exact ar431 h2)]
   rw [show a + 1 + k = a + (k + 1) by exact ar353]
theorem runDecoder_ascii (id : String) (errors : Option Str) (b : List UInt8) (held : List Value) (h : ∀ c ∈ b, c.toNat < 128) (hsz : b.length ≤ sizeLine) :
   runDecoder id asciiDecoder errors true b.toArray 0 held = pure ((b.map fun c => c.toNat).toArray, b.length) := by
 unfold runDecoder
 simp only [Std.Legacy.Range.forIn_eq_forIn_range']
 rw [show ([:b.toArray.size] : Std.Legacy.Range).size = b.length by simp [Std.Legacy.Range.size]]
 have key := fun f => forIn_steps f (fun i => ((i, ((b.take i).map fun c => c.toNat).toArray, { held := held }) : Nat × Array Nat × Faults)) b.length 0
 rw [List.take_zero, Nat.zero_add, List.take_length] at key
 rw [show (#[] : Array Nat) = (([] : List UInt8).map fun c => c.toNat).toArray from rfl]
 rw [key]
 · rfl
 · intro i _ hi
   have hlen : ((b.take i).map fun c => c.toNat).toArray.size ≤ sizeLine := by rw [List.size_toArray, List.length_map, List.length_take]; exact ar479 hsz
   rw [if_neg (Nat.not_lt.mpr hlen), if_neg (by rw [List.size_toArray]; exact ar268 hi)]
   have hc : b[i] = b.getD i 0 := by simp [List.getD, List.getElem?_eq_getElem hi]
   have hf : asciiDecoder.find true b.toArray i = .char b[i].toNat (i + 1) := by
     show (if (b.toArray.getD i 0).toNat < 128 then Found.char _ _ else _) = _
     have : b.toArray.getD i 0 = b[i] := by simp [Array.getD, hi]
     rw [this, if_pos (h _ (List.getElem_mem hi))]
   rw [hf]
   show pure (ForInStep.yield (i + 1, _ ++ [b[i].toNat].toArray, _)) = _
   congr 3
   simp
   rw [List.take_add_one, List.getElem?_map, List.getElem?_eq_getElem hi]
   rfl
theorem road_ascii (id : String) (b : Array UInt8) (errors : Option Str) : decodeRoad id b ⟨ascL.toArray⟩ errors [] = (runDecoder id asciiDecoder errors true b 0 [] >>= fun r => mkStr ⟨r.1⟩) := by
 have e : (normalName ⟨ascL.toArray⟩).toString = "ascii" := by decide +kernel
 unfold decodeRoad
 rw [e]
 rfl
theorem meets_text (b : List UInt8) (t t1 t2 : Tok) (errors : Value) (eo : Option Str) (he : errors = .none ∧ eo = none ∨ ∃ x u, errors = .str x u ∧ eo = some x) (d : Str) (h : ∀ c ∈ b, c.toNat < 128) (hsz : b.length ≤ sizeLine) :
   Meets («_codecs.decode.text» ⟨[.bytes b.toArray t, .str ⟨ascL.toArray⟩ t1, errors, .str d t2], []⟩) (fun _ R s => ∀ t' k, R (.ok (.ret (.str ⟨(b.map fun c => c.toNat).toArray⟩ t'))) { s with toks := k }) := by
 refine .of_wp fun prog w A R s hR => ?_
 have fin : wpAny (model prog w) A.in1 (do ret (← decodeRoad d.toString (← Bytes.bytesLike d.toString (.bytes b.toArray t)) ⟨ascL.toArray⟩ eo (← dataHeld d.toString (.bytes b.toArray t)))) (fun fin s' => ∃ v, fin = Fin.done (Flow.ret v) ∧ R (Except.ok (Flow.ret v)) s') (fun e s' => R (Except.error e) s') s := by
   refine wpAny_bind (wpAny_of_eq KBd.like_eq ?_)
   refine wpAny_bind (wpAny_of_eq KBd.held_eq ?_)
   rw [road_ascii, runDecoder_ascii _ _ _ _ h hsz]
   refine wpAny_bind (wpAny_bind (wpAny_pure ?_))
   exact wpAny_mkStr (wpAny_pure ⟨_, rfl, hR _ _⟩) (by show (b.map fun c => c.toNat).toArray.size ≤ _; rw [List.size_toArray, List.length_map]; exact hsz)
 rcases he with ⟨rfl, rfl⟩ | ⟨x, u, rfl, rfl⟩
 · exact wpAny_bind (wpAny_pure fin)
 · exact wpAny_bind (wpAny_pure fin)
end
section
open Builtin Builtin._codecs
noncomputable def errsL : List (List Nat) := [("strict".toList.map Char.toNat), ("ignore".toList.map Char.toNat), ("replace".toList.map Char.toNat)]
noncomputable def strictL : List Nat := [115, 116, 114, 105, 99, 116]
noncomputable def ignoreL : List Nat := [105, 103, 110, 111, 114, 101]
noncomputable def replaceL : List Nat := [114, 101, 112, 108, 97, 99, 101]
theorem dec_tree (c : UInt8) (cs : List UInt8) (t u : Tok) : «bytes.decode» ⟨[.bytes (c :: cs).toArray t, .str ⟨ascL.toArray⟩ u], []⟩ = (mkStr (PySem.Str.ofString "utf-8") >>= fun _ => mkStr ⟨ascL.toArray⟩ >>= fun e => mkStr (PySem.Str.ofString "bytes.decode") >>= fun d =>
   call (.builtin "_codecs.decode.text") [.bytes (c :: cs).toArray t, e, .none, d] >>= fun v => ret v) := by kernel_rfl
theorem dec_treeK (c : UInt8) (cs : List UInt8) (t u v : Tok) (e : List Nat) (he : e = strictL ∨ e = ignoreL ∨ e = replaceL) : «bytes.decode» ⟨[.bytes (c :: cs).toArray t], [(PySem.Str.ofString "encoding", .str ⟨ascL.toArray⟩ u), (PySem.Str.ofString "errors", .str ⟨e.toArray⟩ v)]⟩ = (mkStr (PySem.Str.ofString "utf-8") >>= fun _ => mkStr ⟨ascL.toArray⟩ >>= fun a => mkStr ⟨e.toArray⟩ >>= fun b => mkStr (PySem.Str.ofString "bytes.decode") >>= fun d =>
   call (.builtin "_codecs.decode.text") [.bytes (c :: cs).toArray t, a, b, d] >>= fun v => ret v) := by
 rcases he with rfl | rfl | rfl <;> kernel_rfl
theorem meets_dec (b : List UInt8) (hne : b ≠ []) (t u : Tok) (h : ∀ c ∈ b, c.toNat < 128) (hsz : b.length ≤ sizeLine) :
   Meets («bytes.decode» ⟨[.bytes b.toArray t, .str ⟨ascL.toArray⟩ u], []⟩) (fun _ R s => ∀ t' k, R (.ok (.ret (.str ⟨(b.map fun c => c.toNat).toArray⟩ t'))) { s with toks := k }) := by
 obtain ⟨c, cs, rfl⟩ : ∃ c cs, b = c :: cs := by
   cases b with
   | nil => exact absurd rfl hne
   | cons c cs => exact ⟨c, cs, rfl⟩
 refine .of_wp fun prog w A R s hR => ?_
 rw [dec_tree]
 refine wpAny_bind (wpAny_mkStr ?_ (by decide))
 refine wpAny_bind (wpAny_mkStr ?_ (by decide))
 refine wpAny_bind (wpAny_mkStr ?_ (by decide))
 exact wpAny_bind (call_function_meets KBd.kind_text KBd.plain_text KBd.entry_text (KBd.args_text _ _ _ _) (meets_text _ _ _ _ .none none (.inl ⟨rfl, rfl⟩) _ h hsz) fun t' k => wpAny_pure ⟨_, rfl, hR _ _⟩)
theorem meets_decK (b : List UInt8) (hne : b ≠ []) (t u v : Tok) (e : List Nat) (he : e = strictL ∨ e = ignoreL ∨ e = replaceL) (h : ∀ c ∈ b, c.toNat < 128) (hsz : b.length ≤ sizeLine) :
   Meets («bytes.decode» ⟨[.bytes b.toArray t], [(PySem.Str.ofString "encoding", .str ⟨ascL.toArray⟩ u), (PySem.Str.ofString "errors", .str ⟨e.toArray⟩ v)]⟩) (fun _ R s => ∀ t' k, R (.ok (.ret (.str ⟨(b.map fun c => c.toNat).toArray⟩ t'))) { s with toks := k }) := by
 obtain ⟨c, cs, rfl⟩ : ∃ c cs, b = c :: cs := by
   cases b with
   | nil => exact absurd rfl hne
   | cons c cs => exact ⟨c, cs, rfl⟩
 refine .of_wp fun prog w A R s hR => ?_
 rw [dec_treeK _ _ _ _ _ _ he]
 have hel : (⟨e.toArray⟩ : PySem.Str).length ≤ sizeLine := by
   rcases he with rfl | rfl | rfl <;> decide
 refine wpAny_bind (wpAny_mkStr ?_ (by decide))
 refine wpAny_bind (wpAny_mkStr ?_ (by decide))
 refine wpAny_bind (wpAny_mkStr ?_ hel)
 refine wpAny_bind (wpAny_mkStr ?_ (by decide))
 exact wpAny_bind (call_function_meets KBd.kind_text KBd.plain_text KBd.entry_text (KBd.args_text _ _ _ _) (meets_text _ _ _ _ (.str ⟨e.toArray⟩ _) (some ⟨e.toArray⟩) (.inr ⟨_, _, rfl, rfl⟩) _ h hsz) fun t' k => wpAny_pure ⟨_, rfl, hR _ _⟩)
section
variable {prog : Program} {w : World} {hB : Heap}
theorem fn_decode (b : List UInt8) (hne : b ≠ []) (h : ∀ c ∈ b, c.toNat < 128) (hsz : b.length ≤ sizeLine) : FnV prog w hB (.builtin "bytes.decode") [.bytes b, .str ascL] (.str (b.map fun c => c.toNat)) 0 := fnV_bs fun A s O t u Q E R Ow q => by
 exact call_meets S.slot_bytes_decode (typeIs_bytes _ _ _) S.entry_bytes_decode (S.args_bytes_decode _ _) (meets_dec _ hne _ _ h hsz) (fun t' k => q _ s.heap k (Ext.refl _) .str)
end
theorem args_decK (a b c : Value) : argsOk "bytes.decode" ⟨[a], [(PySem.Str.ofString "encoding", b), (PySem.Str.ofString "errors", c)]⟩ := by
 unfold argsOk; rw [signature?_of (id := "bytes.decode") (n := ['e', 'd', 'o', 'c', 'e', 'd']) (o := ['s', 'e', 't', 'y', 'b']) (by kernel_rfl) FB.owner_bytes]; kernel_rfl
section
variable {prog : Program} {w : World} {A : Around} {E : Value → Shared → Prop} {s : Shared}
theorem call_decK {b : List UInt8} (hne : b ≠ []) {t u v : Tok} {e : List Nat} (he : e = strictL ∨ e = ignoreL ∨ e = replaceL) (h : ∀ c ∈ b, c.toNat < 128) (hsz : b.length ≤ sizeLine) {Q : Value → Shared → Prop}
   (q : ∀ t' k, Q (.str ⟨(b.map fun c => c.toNat).toArray⟩ t') { s with toks := k }) :
   wpAny (model prog w) A (call (.builtin "bytes.decode") [.bytes b.toArray t] [(PySem.Str.ofString "encoding", .str ⟨ascL.toArray⟩ u), (PySem.Str.ofString "errors", .str ⟨e.toArray⟩ v)]) Q E s :=
 wpAny_call (codeAny_call_builtin S.slot_bytes_decode.plain S.entry_bytes_decode (S.slot_bytes_decode.check _ _ _ _ _ _ _ _ (typeIs_bytes _ _ _) (args_decK _ _ _) (meets_decK b hne t u v e he h hsz prog w A (wants Q E) s q)))
end
end
section
open Builtin Builtin._codecs
theorem strNew (b : List UInt8) (t u v : Tok) (e : List Nat) (he : e = strictL ∨ e = ignoreL ∨ e = replaceL) (hne : b ≠ []) (h : ∀ c ∈ b, c.toNat < 128) (hsz : b.length ≤ sizeLine) :
   Meets («str.__new__» ⟨[.type "str", .bytes b.toArray t, .str ⟨ascL.toArray⟩ u, .str ⟨e.toArray⟩ v], []⟩) (fun _ R s => ∀ t' k, R (.ok (.ret (.str ⟨(b.map fun c => c.toNat).toArray⟩ t'))) { s with toks := k }) := by
 refine .of_wp fun prog w A R s hR => ?_
 unfold Builtin.«str.__new__»
 dsimp only
 refine wpAny_bind (m := isType _) (wpAny_pure ?_)
 simp only [Bool.not_true, Bool.false_eq_true, if_false]
 refine wpAny_bind (wpAny_of_eq isSubtype_str_str ?_)
 simp only [Bool.not_true, Bool.false_eq_true, if_false]
 rw [if_neg (by simp)]
 refine wpAny_bind (m := Builtin.Str.bindOptional _ _ _ _ _ _) (wpAny_of_eq (a := [some (.bytes b.toArray t), some (.str ⟨ascL.toArray⟩ u), some (.str ⟨e.toArray⟩ v)]) (by kernel_rfl) ?_)
 refine wpAny_bind (wpAny_of_eq (a := some ⟨ascL.toArray⟩) (by kernel_rfl) ?_)
 refine wpAny_bind (wpAny_of_eq (a := some ⟨e.toArray⟩) (by rcases he with rfl | rfl | rfl <;> kernel_rfl) ?_)
 simp only [Option.isNone_some, Bool.false_and, Bool.false_eq_true, if_false]
 refine wpAny_bind ?_
 show wpAny _ _ ((mkStr ⟨ascL.toArray⟩ >>= fun v => pure [(PySem.Str.ofString "encoding", v)]) >>= fun k1 => (mkStr ⟨e.toArray⟩ >>= fun v => pure [(PySem.Str.ofString "errors", v)]) >>= fun k2 => _) _ _ _
 have hel : (⟨e.toArray⟩ : PySem.Str).length ≤ sizeLine := by
   rcases he with rfl | rfl | rfl <;> decide
 refine wpAny_bind (wpAny_bind (wpAny_mkStr (wpAny_pure ?_) (by decide)))
 refine wpAny_bind (wpAny_bind (wpAny_mkStr (wpAny_pure ?_) hel))
 refine wpAny_bind (wpAny_isInstance (typeIs_bytes _ _ _) F.sub_bytes_bytes ?_)
 simp only [if_true]
 refine wpAny_bind (wpAny_rule ?_)
 refine call_decK hne he h hsz fun t' k => ?_
 rw [if_pos (by decide)]
 exact wpAny_pure ⟨_, rfl, hR _ _⟩
theorem typeCall_str_3 (b : Array UInt8) (t u v : Tok) (e : List Nat) : checkTypeCall "str" ⟨[.bytes b t, .str ⟨ascL.toArray⟩ u, .str ⟨e.toArray⟩ v], []⟩ = pure () := by kernel_rfl
theorem newCall_str_3 (a b c : Value) : checkBuiltinCall "str.__new__" ⟨[.type "str", a, b, c], []⟩ = pure () := by kernel_rfl
theorem args_object_init_4 (a b c d : Value) : argsOk "object.__init__" ⟨[a, b, c, d], []⟩ := by
 unfold argsOk; kernel_rfl
section
variable {prog : Program} {w : World} {hB : Heap} {mg mb : Str → Option Value} {C : Cfg} {n : Nat} {σ : Loc}
theorem fn_strDec (b : List UInt8) (e : List Nat) (he : e = strictL ∨ e = ignoreL ∨ e = replaceL) (hne : b ≠ []) (h : ∀ c ∈ b, c.toNat < 128) (hsz : b.length ≤ sizeLine) : FnV prog w hB (.type "str") [.bytes b, .str ascL, .str e] (.str (b.map fun c => c.toNat)) 0 := fnV_bss fun A s O t u x Q E R Ow q => by
 exact callType_new F.called_str (by decide) (typeCall_str_3 _ _ _ _ _) (newCall_str_3 _ _ _) (fun obj => args_object_init_4 _ _ _ _) F.entry_str_new (strNew b _ _ _ e he hne h hsz) fun t' k => ⟨typeIs_str _ _ _, q _ s.heap k (Ext.refl _) .str⟩
theorem evT_isinst (K : Ok prog w hB mg mb C n) {T : Str} {T' : String} {e : Expr} {d : D} {b : Bool} {fp tp pos : Pos} (hk : C.env.kindOf "isinstance" = some .globalImplicit) (hm : mg "isinstance" = none)
   (hkT : C.env.kindOf T = some .globalImplicit) (hmT : mg T = none) (hvT : bootBuiltins T = some (.type T')) (h1 : Ev prog w C true σ e d)
   (hc : ∀ (A : Around) (s : Shared) (O : List Addr) (v : Value) (Q : Value → Shared → Prop) (E : Value → Shared → Prop), Rep O s.heap v d → (∀ k, Q (.bool b) { s with toks := k }) → wpAny (model prog w) A (call (.builtin "isinstance") [v, .type T']) Q E s)
   (hnT : T ≠ "__name__" := by decide) (hdT : (T == ("__debug__" : Str)) = false := by decide)
   (hs : ∀ env, starEach [e, .Name T tp] env = (false, eval e env) :: starEach [.Name T tp] env := by intro _; rfl)
   (hs2 : ∀ env, starEach [.Name T tp] env = (false, eval (.Name T tp) env) :: starEach [] env := by intro _; rfl)
   (hi : ∀ env whole, PySem.isTrue (.Call (.Name "isinstance" fp) [e, .Name T tp] [] pos) env whole = (do let v ← whole; standAt (Expr.pos (.Call (.Name "isinstance" fp) [e, .Name T tp] [] pos)); holding [v] (truthy v)) := by intro _ _; rfl)
   (hcl : ∀ env, eval (.Call (.Name "isinstance" fp) [e, .Name T tp] [] pos) env = (do callWith pos (← eval (.Name "isinstance" fp) env) [] (backTo pos (starEach [e, .Name T tp] env)) (backToKw pos (keywordEach [] env))) := by intro _; rfl) :
   EvT prog w C σ (.Call (.Name "isinstance" fp) [e, .Name T tp] [] pos) b := fun s m O Q E S q => by
 refine wpAny_isTrue_value ?_ (hi _ _)
 refine Call_ (load_builtin K S hk hm (v := .builtin "isinstance") (by decide +kernel) ?_) (hcl _)
 refine PyProof.Rows.callWith_builtin1 (args_cons (h1.then K S fun v h₁ t₁ x₁ S₁ rv => args_cons (load_builtin K S₁ hkT hmT hvT (args_nil ?_) hnT hdT) (hs2 _)) (hs _)) (hs _) rfl
 exact hc _ { s with heap := h₁, toks := t₁ } _ v _ _ rv fun k => wpAny_truthy_bool (q h₁ k x₁)
end
theorem mv_ty : typeOf (.type "memoryview") = pure (.type "type") := by first | rfl | (show builtinType _ = _; rw [builtinType_eq_fast]; kernel_rfl)
theorem str_ty : typeOf (.type "str") = pure (.type "type") := by first | rfl | (show builtinType _ = _; rw [builtinType_eq_fast]; kernel_rfl)
theorem sub_bytes_mv : isSubtype (.type "bytes") (.type "memoryview") = pure false := by rw [isSubtype_type]; kernel_rfl
section
variable {prog : Program} {w : World}
theorem is_str (l : List Nat) (A : Around) (s : Shared) (O : List Addr) (v : Value) (Q : Value → Shared → Prop) (E : Value → Shared → Prop) (hr : Rep O s.heap v (.str l)) (q : ∀ k, Q (.bool true) { s with toks := k }) : wpAny (model prog w) A (call (.builtin "isinstance") [v, .type "str"]) Q E s := by
 cases hr
 exact call_isinstance_yes (typeIs_str _ _ _) str_ty isSubtype_str_str (q _)
theorem isnt_mv (l : List UInt8) (A : Around) (s : Shared) (O : List Addr) (v : Value) (Q : Value → Shared → Prop) (E : Value → Shared → Prop) (hr : Rep O s.heap v (.bytes l)) (q : ∀ k, Q (.bool false) { s with toks := k }) : wpAny (model prog w) A (call (.builtin "isinstance") [v, .type "memoryview"]) Q E s := by
 cases hr
 obtain ⟨hp, g, d, t, os⟩ := s
 refine call_isinstance_of ?_ (by intro e; cases e)
 exact isinstance_nested_false_bytes (by decide) mv_ty sub_bytes_mv (q _)
end
section
variable {prog : Program} {w : World} {hB : Heap} {mg mb : Str → Option Value} {C : Cfg} {n : Nat} {σ : Loc} {r : Bool}
theorem ev_bytesC {x : List UInt8} {k : Nat} {pos : Pos} : Ev prog w C r σ (.Constant (.bytes x) k pos) (.bytes x) := fun s m O Q E S q => Constant_bytes (q _ s.heap _ (Ext.refl _) .bytes)
end
theorem up_low : ∀ d, d < 36 → Builtin.Bytes.toUpper (dLow d) = dUp d := by decide +kernel
end
section
open Builtin Builtin.Str StrLaws
noncomputable def skipLf (c : Nat) (r : List Nat) : List Nat := if c = 13 ∧ r.head? = some 10 then r.tail else r
theorem skipLf_le (c : Nat) (r : List Nat) : (skipLf c r).length ≤ r.length := by
 unfold skipLf; split
 · rw [List.length_tail]; exact ar176
 · exact Nat.le_refl _
noncomputable def linesGo (cur : List Nat) (l : List Nat) : List (List Nat) :=
 match l with
 | [] => if cur = [] then [] else [cur]
 | c :: r => if Unicode.isLineBreak c = true then cur :: linesGo [] (skipLf c r) else linesGo (cur ++ [c]) r
termination_by l.length
decreasing_by
 · have := skipLf_le c r; simp only [List.length_cons]; exact ar310 this
 · simp
noncomputable def linesL (l : List Nat) : List (List Nat) := linesGo [] l
theorem sub_list (l : List Nat) (i j : Nat) : strSub ⟨l.toArray⟩ i j = ⟨((l.drop i).take (j - i)).toArray⟩ := by
 show (⟨l.toArray.extract i j⟩ : PySem.Str) = _
 congr 1
 rw [← Array.toList_inj, Array.toList_extract]
theorem ls_lines (l : List Nat) : ∀ (m cur : Nat) (lines : Array (Nat × Nat × Nat)) (start : Nat), cur + m = l.length → start ≤ cur + 1 →
   (lsEnd ⟨l.toArray⟩ (Id.run (forIn (m := Id) (List.range' cur m) ((lines, start) : LsSt) (lsBody ⟨l.toArray⟩)))).map (fun p => strSub ⟨l.toArray⟩ p.1 p.2.1) =
     lines.toList.map (fun p => strSub ⟨l.toArray⟩ p.1 p.2.1) ++ ((if start ≤ cur then linesGo ((l.drop start).take (cur - start)) (l.drop cur) else linesGo [] (l.drop start)).map fun x => ⟨x.toArray⟩)
 | 0, cur, lines, start, hm, hs => by
   have hlen : (⟨l.toArray⟩ : Str).length = l.length := by show l.toArray.size = _; rw [List.size_toArray]
   have hcur : cur = l.length := by exact ar234 hm
   subst hcur
   show (lsEnd ⟨l.toArray⟩ (lines, start)).map _ = _
   unfold lsEnd
   rw [hlen]
   by_cases h : start < l.length
   · rw [if_pos h, if_pos (by exact ar267 h : start ≤ l.length)]
     rw [Array.toList_push, List.map_append]
     congr 1
     rw [List.drop_eq_nil_of_le (Nat.le_refl _), linesGo, if_neg (by
       intro e
       have := congrArg List.length e
       simp only [List.length_take, List.length_drop, List.length_nil] at this; lia)]
     show [strSub _ start l.length] = _
     rw [sub_list]; rfl
   · rw [if_neg h]
     have : (if start ≤ l.length then linesGo ((l.drop start).take (l.length - start)) (l.drop l.length) else linesGo [] (l.drop start)) = [] := by
       split
       · rw [List.drop_eq_nil_of_le (Nat.le_refl l.length), linesGo, if_pos (by rw [show l.length - start = 0 by exact ar343 h]; rfl)]
       · rw [List.drop_eq_nil_of_le (by exact ar347 (by assumption)), linesGo, if_pos rfl]
     rw [this]; simp
 | m + 1, cur, lines, start, hm, hs => by
   have hlt : cur < l.length := by exact ar408 hm
   rw [List.range'_succ, List.forIn_cons]
   have hget : (⟨l.toArray⟩ : Str).cps.getD cur 0 = l[cur] := by
     show l.toArray.getD cur 0 = _
     simp [Array.getD, hlt]
   have hdrop : l.drop cur = l[cur] :: l.drop (cur + 1) := List.drop_eq_getElem_cons hlt
   have hnext : (⟨l.toArray⟩ : Str).cps[cur + 1]? = (l.drop (cur + 1)).head? := by
     show l.toArray[cur + 1]? = _
     rw [List.head?_drop]; simp
   unfold lsBody
   rw [hget]
   by_cases h1 : start ≤ cur
   · rw [if_pos h1]
     by_cases h2 : Unicode.isLineBreak l[cur] = true
     · have hc : (decide (start ≤ cur) && Unicode.isLineBreak l[cur]) = true := by rw [h2, decide_eq_true h1]; rfl
       simp only [hc, if_true]
       have hb := lsNext_bounds ⟨l.toArray⟩ cur
       refine (ls_lines l m (cur + 1) (lines.push (start, cur, lsNext ⟨l.toArray⟩ cur)) (lsNext ⟨l.toArray⟩ cur) (by exact ar405 hm) (by exact ar214 hb)).trans ?_
       rw [Array.toList_push, List.map_append, List.append_assoc]
       congr 1
       rw [hdrop, linesGo, if_pos h2]
       simp only [List.map_cons, List.map_nil, List.cons_append, List.nil_append]
       rw [sub_list]
       congr 1
       unfold skipLf
       by_cases h3 : l[cur] = 13 ∧ (l.drop (cur + 1)).head? = some 10
       · have hv : lsNext ⟨l.toArray⟩ cur = cur + 2 := by
           unfold lsNext; rw [hget, hnext, h3.1, h3.2]; rfl
         rw [hv, if_pos h3, if_neg (by exact ar189), List.tail_drop]
       · have hv : lsNext ⟨l.toArray⟩ cur = cur + 1 := by
           unfold lsNext; rw [hget, hnext]
           rw [if_neg]
           intro h4
           rw [Bool.and_eq_true, beq_iff_eq, beq_iff_eq] at h4
           exact h3 h4
         rw [hv, if_neg h3, if_pos (Nat.le_refl _), Nat.sub_self]
         rfl
     · have hc : (decide (start ≤ cur) && Unicode.isLineBreak l[cur]) = false := by simp [h2]
       simp only [hc, Bool.false_eq_true, if_false]
       refine (ls_lines l m (cur + 1) lines start (by exact ar405 hm) (by exact ar311 h1)).trans ?_
       rw [if_pos (by exact ar300 hs : start ≤ cur + 1)]
       congr 2
       rw [hdrop, linesGo, if_neg h2]
       congr 1
       rw [show cur + 1 - start = (cur - start) + 1 by exact ar329 h1, List.take_add_one]
       congr 1
       rw [List.getElem?_drop, show start + (cur - start) = cur by exact ar307 h1, List.getElem?_eq_getElem hlt]; rfl
   · have hst : start = cur + 1 := by exact ar297 hs h1
     subst hst
     rw [if_neg h1]
     have hc : (decide (cur + 1 ≤ cur) && Unicode.isLineBreak l[cur]) = false := by rw [decide_eq_false h1]; rfl
     simp only [hc, Bool.false_eq_true, if_false]
     refine (ls_lines l m (cur + 1) lines (cur + 1) (by exact ar405 hm) (by exact ar175)).trans ?_
     rw [if_pos (Nat.le_refl _), Nat.sub_self]
     rfl
theorem linesOf_list (l : List Nat) : linesOf ⟨l.toArray⟩ = (linesL l).map fun x => ⟨x.toArray⟩ := by
 unfold linesOf lineCuts
 rw [List.map_map, ls_eq]
 have h := ls_lines l l.length 0 #[] 0 (by exact ar146) (by exact ar7)
 have hlen : (⟨l.toArray⟩ : PySem.Str).length = l.length := by show l.toArray.size = _; rw [List.size_toArray]
 rw [hlen]
 simp only [List.map_nil, List.nil_append, Nat.le_refl, if_true, Nat.sub_self, List.take_zero, List.drop_zero] at h
 exact h
theorem linesL_len (l : List Nat) : (linesL l).length ≤ l.length + 1 := by
 have h := congrArg List.length (linesOf_list l)
 rw [List.length_map] at h
 rw [← h]
 have := PyProof.Rows.lineCuts_le ⟨l.toArray⟩
 have hlen : (⟨l.toArray⟩ : PySem.Str).length = l.length := by show l.toArray.size = _; rw [List.size_toArray]
 unfold linesOf; rw [List.length_map]; exact ar463 this hlen
theorem strsFrom_reps {O : List Addr} {h : Heap} : ∀ (ls : List (List Nat)) (tk : Nat), Reps O h (strsFrom tk (ls.map fun x => ⟨x.toArray⟩)) (ls.map .str)
 | [], _ => .nil
 | x :: ls, tk => .cons .str (strsFrom_reps ls (tk + 1))
section
variable {prog : Program} {w : World} {hB : Heap}
theorem fn_splitlines (l : List Nat) (hsz : l.length < sizeLine) : FnV prog w hB (.builtin "str.splitlines") [.str l] (.lst ((linesL l).map .str)) 0 := fnV_s fun A s O t Q E R Ow q => by
 have hlen : (⟨l.toArray⟩ : PySem.Str).length = l.length := by show l.toArray.size = _; rw [List.size_toArray]
 have hfresh : s.heap.objs.size ∉ O := fun hm => by obtain ⟨o, e⟩ := Ow.alive _ hm; rw [get_size] at e; cases e
 · refine call_meets F.slot_str_splitlines (typeIs_str _ _ _) F.entry_str_splitlines (F.args_str_splitlines_1 _) (meets_str_splitlines _ _ (by rw [hlen]; exact ar267 hsz) (by have := PyProof.Rows.lineCuts_le ⟨l.toArray⟩; rw [hlen] at this; exact ar462 this hsz)) ?_
   by_cases hc : (lineCuts ⟨l.toArray⟩ == [(0, (⟨l.toArray⟩ : PySem.Str).length)]) = true
   · rw [if_pos hc]
     have h1 : linesL l = [l] := by
       have h2 := linesOf_list l
       unfold linesOf at h2
       rw [beq_iff_eq.mp hc, List.map_singleton, hlen, sub_list] at h2
       have h3 := congrArg (List.map fun x : PySem.Str => x.cps.toList) h2
       simp only [List.map_map, List.map_cons, List.map_nil, List.drop_zero, Nat.sub_zero, List.take_length] at h3
       rw [show ((fun x : PySem.Str => x.cps.toList) ∘ fun x : List Nat => ({ cps := x.toArray } : PySem.Str)) = _root_.id from rfl, List.map_id] at h3
       exact h3.symm
     rw [h1] at q
     refine q _ _ s.toks (ext_push _ _) (.lst hfresh (isList_push _ _) ?_)
     exact .cons .str .nil
   · rw [if_neg hc]
     refine q _ _ _ (ext_push _ _) (.lst hfresh (isList_push _ _) ?_)
     rw [linesOf_list]; exact strsFrom_reps _ _
theorem op_in1 (c : Nat) (l : List Nat) : Op2 prog w hB (compareOp .In) (.str [c]) (.str l) (.bool (decide (c ∈ l))) := by
 refine op2_ss fun A s O t₁ t₂ Q E q => ?_
 refine P.in_str ?_
 rw [show (⟨[c].toArray⟩ : PySem.Str) = ⟨#[c]⟩ from rfl, StrLaws.found_one]
 exact q _ s.heap s.toks (Ext.refl _) .bool
theorem op_notIn1 (c : Nat) (l : List Nat) : Op2 prog w hB (compareOp .NotIn) (.str [c]) (.str l) (.bool (!decide (c ∈ l))) := by
 refine op2_ss fun A s O t₁ t₂ Q E q => ?_
 refine P.notIn_str ?_
 rw [show (⟨[c].toArray⟩ : PySem.Str) = ⟨#[c]⟩ from rfl, StrLaws.found_one]
 exact q _ s.heap s.toks (Ext.refl _) .bool
end
end
section
open Builtin Builtin.Str
noncomputable def joinL (sep : List Nat) : List (List Nat) → List Nat
 | [] => []
 | [x] => x
 | x :: y :: r => x ++ sep ++ joinL sep (y :: r)
noncomputable abbrev S8 (l : List Nat) : PySem.Str := ⟨l.toArray⟩
theorem join_list' (sep : List Nat) : ∀ ls : List (List Nat), PySem.Str.join (S8 sep) (ls.map S8) = S8 (joinL sep ls)
 | [] => rfl
 | [x] => rfl
 | x :: y :: r => by
   have ih := join_list' sep (y :: r)
   show S8 x ++ S8 sep ++ PySem.Str.join (S8 sep) ((y :: r).map S8) = _
   rw [ih, str_append, str_append]; rfl
theorem join_list (sep : List Nat) (ls : List (List Nat)) : Txt.join (S8 sep) (ls.map S8) = S8 (joinL sep ls) := by
 unfold Txt.join
 rw [StrLaws.glued_eq_join, join_list']
theorem reps_strs {O : List Addr} {h : Heap} {ls : List (List Nat)} {vs : List Value} (r : Reps O h vs (ls.map .str)) : ∃ l : List (PySem.Str × Tok), vs = strValues l ∧ l.map (·.1) = ls.map S8 :=
 r.ind (R := fun vs ds => ∀ ls : List (List Nat), ds = ls.map .str → ∃ l : List (PySem.Str × Tok), vs = strValues l ∧ l.map (·.1) = ls.map S8)
   (fun ls e => ⟨[], rfl, by rw [List.map_eq_nil_iff.mp e.symm]; rfl⟩)
   (fun v d vs ds a _ ih ls e => by
     cases ls with
     | nil => cases e
     | cons x ls =>
       obtain ⟨e1, e2⟩ := List.cons.inj e
       obtain ⟨l, h1, h2⟩ := ih ls e2
       obtain ⟨t, rfl⟩ := (show Rep O h v (.str x) from e1 ▸ a).strE
       exact ⟨(S8 x, t) :: l, by rw [h1]; rfl, by rw [List.map_cons, h2]; rfl⟩) ls rfl
theorem foldl_len (sep : Nat) : ∀ (ls : List (List Nat)) (a : Nat), (ls.map S8).foldl (fun acc p => acc + p.length + sep) a = a + (ls.map fun x => x.length + sep).sum
 | [], a => by simp
 | x :: ls, a => by
   rw [List.map_cons, List.foldl_cons, foldl_len sep ls]
   have : (S8 x).length = x.length := by show x.toArray.size = _; rw [List.size_toArray]
   rw [this, List.map_cons, List.sum_cons]; exact ar515
section
variable {prog : Program} {w : World} {hB : Heap}
theorem fn_join (sep : List Nat) (ls : List (List Nat)) (hsz : (ls.map fun x => x.length + sep.length).sum ≤ sizeLine) : FnV prog w hB (.builtin "str.join") [.str sep, .lst (ls.map .str)] (.str (joinL sep ls)) 0 := fnV_sl fun A s O t a vs Q E R Ow hO hp hrs q => by
 obtain ⟨l, rfl, hl⟩ := reps_strs hrs
 obtain ⟨k, ho⟩ := hp
 refine SC.join (l := l) ⟨_, ho, rfl, k, rfl⟩ hl ?_ fun t' k => ?_
 · unfold JoinOk
   rw [← Array.foldl_toList, List.toList_toArray]
   have : (S8 sep).length = sep.length := by show sep.toArray.size = _; rw [List.size_toArray]
   rw [this, foldl_len]
   unfold tooLong
   simp; exact ar313 hsz
 · rw [join_list]; exact q _ s.heap k (Ext.refl _) .str
end
end
section
theorem sub_list_module : isSubtype (.type "list") (.type "module") = pure false := by rw [isSubtype_type]; kernel_rfl
theorem kind_append : builtinKind "list.append" = some .method := by decide +kernel
theorem chk_append (a v : Value) : (Manifest.signature? "list.append").map (fun sig => Bind.checkArgs "list.append" { sig with full := (toString (Bind.lastOf "list") ++ toString "." ++ toString (Bind.lastOf "list.append")) } ⟨[a, v], []⟩) = some (pure ()) := by kernel_rfl
section
variable {prog : Program} {w : World} {A : Around} {E : Value → Shared → Prop} {s : Shared}
theorem call_app {q a : Addr} {v : Value} {items : Array Value} {Q : Value → Shared → Prop} (hq : s.heap.get? q = some (appObj a)) (hl : s.heap.PlainList a items) (hsz : items.size ≤ sizeLine)
   (h : ∀ h', h'.PlainList a (items.push v) → Heap.SameBut a s.heap h' → Q .none { s with heap := h' }) : wpAny (model prog w) A (call (.ref q) [v]) Q E s := by
 refine wpAny_call (codeAny_of_tree ?_)
 show wpAny _ A.in1 (callAny (.ref q) ⟨[v], []⟩) _ _ s
 simp only [callAny]
 refine wpAny_bind (wpAny_load hq ?_)
 unfold appObj
 dsimp only
 rw [if_pos (by decide)]
 simp only [List.getElem?_toArray, List.getElem?_cons_zero, List.getElem?_cons_succ]
 rw [if_pos (by decide)]
 refine wpAny_bind (m := checkBoundCall _ _) ?_
 unfold checkBoundCall
 cases hsig : Manifest.signature? "list.append" with
 | none =>
   have := chk_append (.ref a) v
   rw [hsig] at this; cases this
 | some sig =>
   have hchk := chk_append (.ref a) v
   rw [hsig, Option.map_some] at hchk
   replace hchk := Option.some.inj hchk
   dsimp only
   rw [kind_append]
   dsimp only
   rw [if_neg (by decide)]
   refine wpAny_bind (wpAny_isInstance (hl.isList.typeIs) sub_list_module ?_)
   rw [if_neg (by decide +kernel)]
   refine wpAny_bind (m := isType _) ?_
   unfold isType
   obtain ⟨k, ho⟩ := id hl
   refine wpAny_bind (wpAny_load ho ?_)
   refine wpAny_pure ?_
   dsimp only
   simp only [Bool.false_eq_true, if_false]
   refine wpAny_bind (wpAny_typeOf hl.isList.typeIs ?_)
   dsimp only
   rw [hchk]
   refine wpAny_pure ?_
   refine wpAny_pure ⟨Code.quiet_builtin _ (by decide +kernel), codeAny_builtin entry_list_append ?_⟩
   show wpAny _ _ (updateSeq a (·.push v) >>= fun _ => ret .none) _ _ s
   refine wpAny_bind ?_
   refine wpAny_updateSeq ho rfl (wpAny_pure (h _ ⟨k + 1, ?_⟩ (Heap.SameBut.update ..)))
   rw [Heap.get?_update_self _ ho (by rw [Obj.mapSeq_push_plain]; rfl), Obj.mapSeq_push_plain]
end
end
section
section
variable {M : Model} {A : Around} {E : Value → Shared → Prop} {s : Shared} {env : Env}
theorem wpAny_keeper_app {q a : Addr} {Q : Keeper → Shared → Prop} (hq : s.heap.get? q = some (appObj a)) (h : Q .machine s) : wpAny M A (keeperOf (.ref q)) Q E s := by
 unfold keeperOf
 refine wpAny_bind (wpAny_load hq ?_)
 unfold appObj
 dsimp only
 rw [if_pos (by decide)]
 refine wpAny_pure ?_
 rw [if_pos (by decide)]
 exact h
theorem callWith_app {pos : Pos} {q a : Addr} {e : Expr} {rest : List Expr} {Q : Value → Shared → Prop} (he : starEach (e :: rest) env = (false, eval e env) :: starEach rest env)
   (hplain : (backTo pos (starEach rest env)).any (·.1) = false)
   (h : wpAny M A (spliced (backTo pos (starEach (e :: rest) env))) (fun vs s₁ => s₁.heap.get? q = some (appObj a) ∧ wpAny M A (call (.ref q) vs) Q E s₁) E s) :
   wpAny M A (callWith pos (.ref q) [] (backTo pos (starEach (e :: rest) env)) []) Q E s := by
 rw [he] at h ⊢
 have hany : (List.any (backTo pos ((false, eval e env) :: starEach rest env)) fun x => x.1) = false := by
   show (false || (backTo pos (starEach rest env)).any fun x => x.1) = false
   rw [hplain]; rfl
 unfold callWith
 have h' : wpAny M A (evalArgs (.ref q) true (backTo pos ((false, eval e env) :: starEach rest env)) []) (fun x s₁ => s₁.heap.get? q = some (appObj a) ∧ wpAny M A (call (.ref q) x.pos x.kw) Q E s₁) E s := Calls.evalArgs_plain h
 refine wpAny_bind (wpAny_holding (wpAny_mono h' (fun x s₁ h₁ => wpAny_bind (wpAny_standAt ?_)) fun _ _ x => x))
 simp only [hany, List.any_nil, Bool.or_false]
 refine wpAny_bind (wpAny_keeper_app h₁.1 ?_)
 dsimp only
 exact wpAny_bind (wpAny_mono h₁.2 (fun r s₂ hr => wpAny_bind (wpAny_holding (wpAny_point (wpAny_pure hr)))) fun _ _ x => x)
end
section
variable {prog : Program} {w : World} {hB : Heap} {mg mb : Str → Option Value} {C : Cfg} {n : Nat} {σ σ' σ'' : Loc} {m : Str → Option Value} {O : List Addr} {h h' : Heap} {r : Bool} {Φ Ψ : Fl → Loc → Prop} {rest : List Stmt}
theorem wp_appCall (K : Ok prog w hB mg mb C n) {x y : Str} {np cp pos : Pos} {e : Expr} {d : D} {l : List D} (hy : σ.lookup y = some (.app x)) (hx : σ.lookup x = some (.own l)) (hl : C.loc x = true) (hly : C.loc y = true) (h1 : Ev prog w C false σ e d) (hsz : l.length ≤ sizeLine)
   (h2 : Wp prog w C ((x, .own (l ++ [d])) :: σ) rest Φ) (hd : (y == ("__debug__" : Str)) = false := by decide) (hs : ∀ env, starEach [e] env = (false, eval e env) :: starEach [] env := by intro _; rfl)
   (hi : interactive C.env = false := by rfl)
   (hc : ∀ env, eval (.Call (.Name y np) [e] [] cp) env = (do callWith cp (← eval (.Name y np) env) [] (backTo cp (starEach [e] env)) (backToKw cp (keywordEach [] env))) := by intro _; rfl) :
   Wp prog w C σ (.Expr (.Call (.Name y np) [e] [] cp) pos :: rest) Φ := fun s m O Q E S q => by
 obtain ⟨v, hv, a, vs, rfl, e1, e2, e3, e4, e5⟩ := S.ents x _ hx
 obtain ⟨v', hv', qa, a', rfl, f1, f2, f3⟩ := S.ents y _ hy
 have haa : a' = a := by rw [hv] at f3; cases f3; rfl
 subst haa
 refine wpAny_execs_cons (wpAny_Expr (hi := hi) (hs := rfl) ?_)
 refine Call_ (wpAny_Name (K.H.load s m y _ _ _ S.fr hly hv' ?_) hd) (hc _)
 refine callWith_app (hs _) rfl (evA_cons K h1 evA_nil hs s m O _ E S fun args h₁ t₁ x₁ ra => ⟨x₁ _ _ f2, ?_⟩)
 have S₁ := S.ext' K x₁
 cases ra with
 | cons rv rn =>
 cases rn
 refine call_app (x₁ _ _ f2) (e4.at fun o => x₁ _ o) (by rw [List.size_toArray, e5.length]; exact hsz) fun h₂ hp hsb => ?_
 have hgrow : ∀ b o, b ∉ O → h₁.get? b = some o → h₂.get? b = some o := fun b o hb e => (hsb.2 b fun q => hb (q ▸ e1)).trans e
 have S₂ : StX C m O ((x, .own (l ++ [d])) :: σ) h₂ := S₁.change K hx rfl hv e1 e3 e2 (fun b o hb e => (hsb.2 b hb).trans e) (let ⟨k, ek⟩ := hp; ⟨_, ek⟩) rfl
   ⟨a', vs ++ [_], rfl, e1, e2, e3, by simpa using hp, ((e5.ext x₁).append (.cons rv .nil)).move (fun _ h => .inl h) hgrow⟩
 exact h2 _ m O Q E S₂ fun f φ σ' h3 tk3 m3 O3 hp' hf S3 g => q f φ σ' h3 tk3 m3 O3 hp' hf S3 (((Grow.ext x₁).trans ⟨hgrow, fun _ h => h, fun _ h => .inl h⟩).trans g)
end
end
section
open Builtin Builtin.Int
noncomputable def hexU (d : Nat) : Nat := if d < 10 then 48 + d else 55 + d
theorem pt_map {α : Type _} {f g : Nat → α} {n : Nat} (h : (List.range n).map f = (List.range n).map g) (k : Nat) (hk : k < n) : f k = g k := List.map_inj_left.mp h k (List.mem_range.mpr hk)
theorem pt16 {α : Type _} {f g : Nat → Nat → α} (h : (List.range 256).map (fun k => f (k / 16) (k % 16)) = (List.range 256).map (fun k => g (k / 16) (k % 16))) (a b : Nat) (ha : a < 16) (hb : b < 16) : f a b = g a b := by
 have := pt_map h (16 * a + b) (by exact ar259 ha hb)
 rwa [show (16 * a + b) / 16 = a by exact ar316 hb, show (16 * a + b) % 16 = b by lia] at this
theorem wpAny_eqT {α : Type} {M : Model} {A : Around} {E : Value → Shared → Prop} {s : Shared} {Q : α → Shared → Prop} {t t' : Sem α} (e : t = t') (h : wpAny M A t' Q E s) : wpAny M A t Q E s := e ▸ h
theorem meets_int16 (a b : Nat) (ha : a < 16) (hb : b < 16) (t u : Tok) :
   Meets (Builtin.«int.__new__» ⟨[.type "int", .str ⟨[hexU a, hexU b].toArray⟩ t, .int 16 u], []⟩) (fun _ R s => ∀ t' k, R (.ok (.ret (.int ((16 * a + b : Nat) : Int) t'))) { s with toks := k }) := by
 refine .of_wp fun prog w A R s hR => ?_
 unfold Builtin.«int.__new__»
 dsimp only
 refine wpAny_bind (m := isType _) (wpAny_pure ?_)
 simp only [Bool.not_true, Bool.false_eq_true, if_false]
 refine wpAny_bind (wpAny_of_eq F.conv_sub_int ?_)
 simp only [Bool.not_true, Bool.false_eq_true, if_false]
 refine wpAny_bind (wpAny_of_eq F.madeHere_int ?_)
 rw [if_neg (by simp)]
 rw [if_neg (by simp)]
 refine wpAny_bind (wpAny_pure ?_)
 refine wpAny_bind (m := intIndex _ _) (wpAny_pure ?_)
 rw [if_neg (by decide)]
 refine wpAny_bind (wpAny_eqT (t' := pure (some [hexU a, hexU b])) (by apply pt16 _ a b ha hb; kernel_rfl) (wpAny_pure ?_))
 dsimp only
 refine wpAny_bind (wpAny_eqT (t' := mkInt ((16 * a + b : Nat) : Int)) (by apply pt16 _ a b ha hb; kernel_rfl) ?_)
 refine wpAny_mkInt ?_
 rw [if_pos (by decide)]
 exact wpAny_pure ⟨_, rfl, hR _ _⟩
theorem typeCall_int_2 (a b : Value) : checkTypeCall "int" ⟨[a, b], []⟩ = pure () := by kernel_rfl
theorem newCall_int_2 (a b : Value) : checkBuiltinCall "int.__new__" ⟨[.type "int", a, b], []⟩ = pure () := by kernel_rfl
theorem args_object_init_3 (a b c : Value) : argsOk "object.__init__" ⟨[a, b, c], []⟩ := by
 unfold argsOk; kernel_rfl
section
variable {prog : Program} {w : World} {hB : Heap}
theorem fn_int16 (a b : Nat) (ha : a < 16) (hb : b < 16) : FnV prog w hB (.type "int") [.str [hexU a, hexU b], .int 16] (.int ((16 * a + b : Nat) : Int)) 0 := fnV_si fun A s O t u Q E R Ow q => by
 exact callType_new F.called_int F.newNe_int (typeCall_int_2 _ _) (newCall_int_2 _ _) (fun obj => args_object_init_3 _ _ _) F.entry_int_new (meets_int16 a b ha hb _ _) fun t' k => ⟨typeIs_int _ _ _, q _ s.heap k (Ext.refl _) .int⟩
end
end
section
section
variable {prog : Program} {w : World} {hB : Heap}
theorem lcat_fresh {A : Around} {s : Shared} {O : List Addr} {a b : Addr} {vs ws : List Value} {l₁ l₂ : List D} {Q : Value → Shared → Prop} {E : Value → Shared → Prop} (Ow : Own hB O s.heap)
   (ha : s.heap.PlainList a vs.toArray) (hb : s.heap.PlainList b ws.toArray) (r1 : Reps O s.heap vs l₁) (r2 : Reps O s.heap ws l₂) (hsz : l₁.length + l₂.length ≤ sizeLine)
   (q : ∀ v h' tk, Ext s.heap h' → Rep O h' v (.lst (l₁ ++ l₂)) → Q v { s with heap := h', toks := tk }) : wpAny (model prog w) A (binaryOp .Add (.ref a) (.ref b)) Q E s := by
 obtain ⟨n1, h1⟩ := ha
 obtain ⟨n2, h2⟩ := hb
 have hfresh : s.heap.objs.size ∉ O := fun hm => by obtain ⟨o, e⟩ := Ow.alive _ hm; rw [get_size] at e; cases e
 refine P.add_list h1 h2 ?_ (by rw [List.size_toArray, List.size_toArray, r1.length, r2.length]; exact hsz)
 refine q _ _ s.toks (ext_push _ _) (.lst (vs := vs ++ ws) hfresh ?_ ((r1.append r2).ext (ext_push _ _)))
 have := isList_push s.heap (vs ++ ws)
 rw [← List.append_toArray] at this
 rw [← List.append_toArray]
 exact this
theorem op_lcat (l₁ l₂ : List D) (hsz : l₁.length + l₂.length ≤ sizeLine) : Op2 prog w hB (binaryOp .Add) (.lst l₁) (.lst l₂) (.lst (l₁ ++ l₂)) := by
 intro A s O a b Q E R X Ow ra rb q
 cases ra with
 | lst _ h1 r1 =>
   cases rb with
   | lst _ h2 r2 => exact lcat_fresh Ow h1 h2 r1 r2 hsz q
end
section
variable {prog : Program} {w : World} {hB : Heap} {mg mb : Str → Option Value} {C : Cfg} {n : Nat} {σ : Loc}
theorem ev_ownCat (K : Ok prog w hB mg mb C n) {x : Str} {np pos : Pos} {e : Expr} {l₁ l₂ : List D} (hx : σ.lookup x = some (.own l₁)) (hl : C.loc x = true) (h2 : Ev prog w C false σ e (.lst l₂)) (hsz : l₁.length + l₂.length ≤ sizeLine) (hd : (x == ("__debug__" : Str)) = false := by decide) :
   Ev prog w C false σ (.BinOp (.Name x np) .Add e pos) (.lst (l₁ ++ l₂)) := fun s m O Q E S q => by
 obtain ⟨v, hv, a, vs, rfl, e1, e2, e3, e4, e5⟩ := S.ents x _ hx
 refine wpAny_BinOp (wpAny_Name (K.H.load s m x _ _ _ S.fr hl hv ?_) hd)
 refine h2.then K S fun b h₁ t₁ x₁ S₁ rb => ?_
 cases rb with
 | lst _ hp rr => exact lcat_fresh (S₁.own' (r := false) K) (e4.at fun o => x₁ _ o) hp (e5.ext x₁) rr hsz fun v h' tk x hr => q v h' tk (x₁.trans x) hr
end
end
section
section
variable {prog : Program} {w : World} {hB : Heap} {mg mb : Str → Option Value} {C : Cfg} {n : Nat} {σ : Loc}
theorem slice_fresh {A : Around} {s : Shared} {O : List Addr} {b sl : Addr} {vl vu : Value} {vs : List Value} {l : List D} {lo hi : Option Int} {Q : Value → Shared → Prop} {E : Value → Shared → Prop} (Ow : Own hB O s.heap)
   (hpl : s.heap.PlainList b vs.toArray) (hr : Reps O s.heap vs l) (hs : s.heap.IsSliceOf sl vl vu .none) (pl : IsPart vl lo) (pu : IsPart vu hi) (hsz : l.length ≤ sizeLine)
   (q : ∀ v h' tk, Ext s.heap h' → Rep O h' v (.lst (slc l lo hi)) → Q v { s with heap := h', toks := tk }) : wpAny (model prog w) A (getItem (.ref b) (.ref sl)) Q E s := by
 refine wpAny_getItem_list_slice hpl.isList hs pl pu .none (by simp) ?_ (by rw [List.size_toArray, hr.length]; exact hsz)
 have e : slicePick vs.toArray lo hi none = (slc vs lo hi).toArray := by
   rw [slicePick_plain]; simp [slc]
 rw [e]
 exact q _ _ _ (ext_push _ _) (.lst (Ow.fresh (get_size _)) ⟨0, Heap.get?_push_size _ rfl⟩ ((hr.ext (ext_push _ _)).slc lo hi))
theorem ev_ownSlice (K : Ok prog w hB mg mb C n) {x : Str} {np : Pos} {lo hi : Option Expr} {p pos : Pos} {l : List D} {i j : Option Int} (hx : σ.lookup x = some (.own l)) (hlx : C.loc x = true) (hl : EvP prog w C σ lo i) (hu : EvP prog w C σ hi j) (hsz : l.length ≤ sizeLine)
   (hd : (x == ("__debug__" : Str)) = false := by decide) :
   Ev prog w C false σ (.Subscript (.Name x np) (.Slice lo hi none p) pos) (.lst (slc l i j)) := fun s m O Q E S q => by
 obtain ⟨v, hv, a, vs, rfl, e1, e2, e3, e4, e5⟩ := S.ents x _ hx
 refine Subscript_ (wpAny_Name (K.H.load s m x _ _ _ S.fr hlx hv ?_) hd)
 refine wpAny_Slice (hl _ m O _ E S fun vl h₂ t₂ x₂ pl => hu _ m O _ E (S.ext' K x₂) fun vu h₃ t₃ x₃ pu => evalPart_none_step ?_)
 have hp := ext_push h₃ { cls := .type "slice", data := .fields #[vl, vu, .none] }
 have X3 : Ext s.heap (h₃.push { cls := .type "slice", data := .fields #[vl, vu, .none] }) := (x₂.trans x₃).trans hp
 have S₃ := S.ext' K X3
 have hpl : (h₃.push { cls := .type "slice", data := .fields #[vl, vu, .none] }).PlainList a vs.toArray := e4.at fun o => X3 _ o
 have ra' : Rep [] (h₃.push { cls := .type "slice", data := .fields #[vl, vu, .none] }) (.ref a) (.lst l) := .lst (fun h => by cases h) hpl ((e5.ext X3).weak fun _ h => by cases h)
 obtain ⟨T, id, hT, hlk⟩ := subType (s := { s with heap := h₃.push { cls := .type "slice", data := .fields #[vl, vu, .none] }, toks := t₃ }) ra' rfl
 exact tail_of hT hlk (slice_fresh (hB := hB) (S₃.own' (r := false) K) hpl (e5.ext X3) (Heap.IsSliceOf.new ..) pl pu hsz fun v h' tk x hr => q v h' tk (X3.trans x) hr)
end
end
section
theorem preSum_eq (ns : List Int) : ∀ j, j ≤ ns.length → preSum (fun i => ns.getD i 0) j = (ns.take j).sum
 | 0, _ => by simp [preSum]
 | j + 1, h => by
   have e : ns.getD j 0 = ns[j]'(by exact ar242 h) := by simp [List.getD, List.getElem?_eq_getElem (show j < ns.length by exact ar242 h)]
   show preSum _ j + ns.getD j 0 = _
   rw [preSum_eq ns j (by exact ar243 h), List.take_add_one, List.getElem?_eq_getElem (by exact ar242 h), e, List.sum_append]
   simp
section
variable {prog : Program} {w : World} {hB : Heap}
theorem fn_sum (ns : List Int) : FnV prog w hB (.builtin "sum") [.lst (ns.map .int)] (.int ns.sum) 0 := fun A s O vals Q E R X Ow rs q => by
 cases rs with
 | cons rv rn =>
   cases rn
   cases rv with
   | @lst ax vs _ hO hp hrs =>
     refine call_sum_walkAnyS (wpAny_pyIter_list hp.isList ?_)
     have hp' := ext_push s.heap { cls := .type "list_iterator", data := .fields #[.ref ax, .int 0 0] }
     have hax : ax ≠ s.heap.objs.size := by obtain ⟨k, e⟩ := hp; exact Nat.ne_of_lt (Heap.lt_size e)
     have hlen : vs.toArray.size = ns.length := by rw [List.size_toArray, hrs.length, List.length_map]
     have W := Walks.list (prog := prog) (w := w) (A := A.in1) R.handled s.heap.objs.size ax hax vs.toArray
     rw [hlen] at W
     refine ⟨_, _, _, _, _, _, _, fun i => ns.getD i 0, rfl, W.toS, ⟨⟨_, Heap.get?_push_size _ rfl, rfl, rfl⟩, (hp.at fun o e => hp' _ o e).isList⟩, fun b hb => ?_, fun i v hv => ?_, fun s' t' hm => ?_⟩
     · have hsz : (s.heap.push { cls := .type "list_iterator", data := .fields #[.ref ax, .int 0 0] }).objs.size = s.heap.objs.size + 1 := Heap.size_push ..
       show b < (s.heap.push { cls := .type "list_iterator", data := .fields #[.ref ax, .int 0 0] }).objs.size
       rw [hsz]
       rcases List.mem_cons.mp hb with rfl | hb
       · exact Nat.lt_succ_self _
       · rw [List.mem_singleton.mp hb]; obtain ⟨k, e⟩ := hp; exact Nat.lt_succ_of_lt (Heap.lt_size e)
     · obtain ⟨d, hd, hrd⟩ := hrs.get' (i := i) (by simpa using hv)
       rw [List.getElem?_map] at hd
       cases hq : ns[i]? with
       | none => rw [hq] at hd; cases hd
       | some z =>
         rw [hq] at hd
         cases hd
         cases hrd
         exact ⟨_, by simp [List.getD, hq]; rfl⟩
     · obtain ⟨hp2, g2, d2, tk2, os2⟩ := s'
       obtain ⟨m1, m2, m3, m4, m5⟩ := hm
       dsimp only at m2 m3 m4
       subst m2 m3 m4
       rw [preSum_eq ns _ (Nat.le_refl _), List.take_length]
       refine q _ hp2 tk2 (fun b o e => m1 b o (fun hb => ?_) (hp' b o e)) .int
       rw [List.mem_singleton.mp hb, get_size] at e; cases e
end
end
section
theorem reps_strAt {O : List Addr} {h : Heap} {ls : List (List Nat)} {vs : List Value} (r : Reps O h vs (ls.map .str)) {j : Nat} (h1 : j < vs.length) : ∃ l t, ls[j]? = some l ∧ vs[j] = .str ⟨l.toArray⟩ t := by
 obtain ⟨d, hd, hr⟩ := r.get' (List.getElem?_eq_getElem h1)
 rw [List.getElem?_map] at hd
 cases hq : ls[j]? with
 | none => rw [hq] at hd; cases hd
 | some l =>
   rw [hq] at hd; cases hd
   generalize hv : vs[j] = v at hr
   cases hr
   exact ⟨l, _, rfl, rfl⟩
section
variable {prog : Program} {w : World} {hB : Heap}
theorem op_eqStrs (ls ms : List (List Nat)) (hlen : ls.length = ms.length) : Op2 prog w hB (compareOp .Eq) (.lst (ls.map .str)) (.lst (ms.map .str)) (.bool (ls == ms)) := by
 intro A s O a b Q E R X Ow ra rb q
 cases ra with
 | @lst a vs _ _ h1 r1 =>
   cases rb with
   | @lst b ws _ _ h2 r2 =>
     have l1 : vs.length = ls.length := by rw [r1.length, List.length_map]
     have l2 : ws.length = ms.length := by rw [r2.length, List.length_map]
     refine PySem.SeqAt.eq_listAt (e := fun j => (ls[j]? == ms[j]?)) h1.isList h2.isList (by rw [List.size_toArray, List.size_toArray, l1, l2, hlen]) (by have := R.units; exact ar203 this) ?_ ?_
     · intro j g1 g2
       have k1 : j < vs.length := by simpa using g1
       have k2 : j < ws.length := by simpa using g2
       obtain ⟨x, t, hx, ex⟩ := reps_strAt r1 k1
       obtain ⟨y, u, hy, ey⟩ := reps_strAt r2 k2
       show PySem.SeqAt.EqAt _ _ (vs.toArray[j]) (ws.toArray[j]) _
       rw [show vs.toArray[j] = vs[j] from rfl, show ws.toArray[j] = ws[j] from rfl, ex, ey]
       have e : (ls[j]? == ms[j]?) = ((⟨x.toArray⟩ : PySem.Str) == ⟨y.toArray⟩) := by
         rw [hx, hy, str_beq]; rfl
       rw [e]
       exact PySem.SeqAt.EqAt.str_str _ _ _ _
     · have e : (List.range vs.toArray.size).all (fun j => ls[j]? == ms[j]?) = (ls == ms) := by
         rw [List.size_toArray, l1, Bool.eq_iff_iff, List.all_eq_true, beq_iff_eq]
         constructor
         · intro h
           refine List.ext_getElem? fun j => ?_
           by_cases hj : j < ls.length
           · exact beq_iff_eq.mp (h j (List.mem_range.mpr hj))
           · rw [List.getElem?_eq_none (by exact ar345 hj), List.getElem?_eq_none (by exact ar481 hlen hj)]
         · intro h j _
           rw [h]; exact beq_self_eq_true _
       rw [e]
       exact q _ s.heap s.toks (Ext.refl _) .bool
end
end
section
open Builtin Builtin.Str
theorem rstrip_id (l : List Nat) (h : ∀ c, l.getLast? = some c → Unicode.isSpace c = false) : (Txt.rstrip ⟨l.toArray⟩).cps.toList = l := by
 have hlen : (⟨l.toArray⟩ : PySem.Str).length = l.length := by show l.toArray.size = _; rw [List.size_toArray]
 obtain ⟨_, h0, h1, h2⟩ := hi_facts Unicode.isSpace ⟨l.toArray⟩ 0 (Nat.zero_le _)
 have hr : Txt.rstrip ⟨l.toArray⟩ = strSub ⟨l.toArray⟩ 0 (stripHi Unicode.isSpace true ⟨l.toArray⟩ 0) := by unfold Txt.rstrip; rw [PyProof.Rows.stripBy_eq]; rfl
 rw [hr]
 generalize stripHi Unicode.isSpace true ⟨l.toArray⟩ 0 = hi at *
 rw [hlen] at h0 h1
 have hhi : hi = l.length := by
   by_cases q : hi = l.length
   · exact q
   · exfalso
     have hl : l.length - 1 < l.length := by exact ar326 h0 q
     have h3 := h1 (l.length - 1) (by exact ar304 h0 q) hl
     have h4 : l.getLast? = some (l[l.length - 1]) := by rw [List.getLast?_eq_getElem?, List.getElem?_eq_getElem hl]
     have h5 : (⟨l.toArray⟩ : PySem.Str).cps.getD (l.length - 1) 0 = l[l.length - 1] := by
       show l.toArray.getD (l.length - 1) 0 = _
       simp [Array.getD, hl]
     rw [h5, h _ h4] at h3; cases h3
 rw [hhi, sub_list]
 simp
section
variable {prog : Program} {w : World} {hB : Heap}
theorem fn_rstripId (a : List Nat) (hsz : a.length ≤ sizeLine) (h : ∀ c, a.getLast? = some c → Unicode.isSpace c = false) : FnV prog w hB (.builtin "str.rstrip") [.str a] (.str a) 0 := by
 have := fn_rstrip (prog := prog) (w := w) (hB := hB) a hsz
 rw [rstrip_id a h] at this; exact this
end
end
section
open Builtin Builtin.Str
theorem endswith_app (x e : List Nat) : Txt.endswith ⟨(x ++ e).toArray⟩ ⟨e.toArray⟩ = true := by
 have h1 : (⟨(x ++ e).toArray⟩ : PySem.Str).length = x.length + e.length := by show (x ++ e).toArray.size = _; rw [List.size_toArray, List.length_append]
 have h2 : (⟨e.toArray⟩ : PySem.Str).length = e.length := by show e.toArray.size = _; rw [List.size_toArray]
 unfold Txt.endswith
 rw [h1, h2, StrLaws.subAt_eq, h2]
 simp
section
variable {prog : Program} {w : World} {hB : Heap}
theorem fn_endswithYes (x e : List Nat) : FnV prog w hB (.builtin "str.endswith") [.str (x ++ e), .str e] (.bool true) 0 := by
 have := fn_endswith (prog := prog) (w := w) (hB := hB) (x ++ e) e
 rw [endswith_app] at this; exact this
end
end
section
section
variable {α β : Type} {M : Model} {A : Around} {E : Value → Shared → Prop} {s : Shared}
theorem wpQ_with_toks {t : Sem α} {Q : α → Shared → Prop} {n : Nat} (hn : n ≤ s.toks) (h : wpQ M A t (fun a s' => n ≤ s'.toks → Q a s') E s) : wpQ M A t Q E s := fun Γ p hi hq =>
 Sem.wp_mono M Γ t (fun _ _ _ x => x.2 x.1) (fun _ _ _ x => x.2) p s (Sem.wp_toks M Γ n t _ _ p s hn (h Γ p hi hq))
end
section
variable (prog : Program) (w : World) (C : Cfg) (N : Nat)
def EvN (r : Bool) (σ : Loc) (e : Expr) (d : D) : Prop :=
 ∀ (s : Shared) m O (Q : Value → Shared → Prop) (E : Value → Shared → Prop), N ≤ s.toks → StX C m O σ s.heap →
   (∀ v h' tk, N ≤ tk → Ext s.heap h' → Rep (if r then C.O₀ else O) h' v d → Q v { s with heap := h', toks := tk }) → wpQ (model prog w) C.A (eval e C.env) Q E s
def EvAN (r : Bool) (σ : Loc) (pos : Pos) (es : List Expr) (ds : List D) : Prop :=
 ∀ (s : Shared) m O (Q : List Value → Shared → Prop) (E : Value → Shared → Prop), N ≤ s.toks → StX C m O σ s.heap →
   (∀ vs h' tk, N ≤ tk → Ext s.heap h' → Reps (if r then C.O₀ else O) h' vs ds → Q vs { s with heap := h', toks := tk }) → wpQ (model prog w) C.A (spliced (backTo pos (starEach es C.env))) Q E s
def WpN (σ : Loc) (ss : List Stmt) (Φ : Fl → Loc → Prop) : Prop :=
 ∀ (s : Shared) m O (Q : Flow → Shared → Prop) (E : Value → Shared → Prop), N ≤ s.toks → StX C m O σ s.heap →
   (∀ f φ σ' h' tk m' O', N ≤ tk → Φ φ σ' → FlR C.O₀ h' f φ → StX C m' O' σ' h' → Grow O s.heap O' h' → Q f { s with heap := h', toks := tk }) → wpQ (model prog w) C.A (execs ss C.env) Q E s
def SeqN (rest : List Stmt) (Φ : Fl → Loc → Prop) (φ : Fl) (σ' : Loc) : Prop :=
 match φ with
 | .next => WpN prog w C N σ' rest Φ
 | φ => Φ φ σ'
def LoopEndN (next : Loc → Prop) (rest : List Stmt) (Φ : Fl → Loc → Prop) (φ : Fl) (σ' : Loc) : Prop :=
 match φ with
 | .next => next σ'
 | .cont => next σ'
 | .brk => WpN prog w C N σ' rest Φ
 | .ret d => Φ (.ret d) σ'
end
def FnVN (prog : Program) (w : World) (hB : Heap) (N : Nat) (f : Value) (args : List D) (d : D) (n : Nat) : Prop :=
 ∀ (A : Around) (s : Shared) (O : List Addr) (vals : List Value) (Q : Value → Shared → Prop) (E : Value → Shared → Prop), N ≤ s.toks → Room A n → A.guards = some [] → Ext hB s.heap → Own hB O s.heap → Reps O s.heap vals args →
   (∀ v h' tk, N ≤ tk → Ext s.heap h' → Rep O h' v d → Q v { s with heap := h', toks := tk }) → wpQ (model prog w) A (call f vals []) Q E s
section
variable {prog : Program} {w : World} {hB : Heap} {mg mb : Str → Option Value} {C : Cfg} {n N : Nat} {σ σ' σ'' : Loc} {m : Str → Option Value} {O : List Addr} {h h' : Heap} {r : Bool} {Φ Ψ : Fl → Loc → Prop} {rest : List Stmt}
theorem evN_ofQ {e : Expr} {d : D} (h : EvQ prog w C r σ e d) : EvN prog w C N r σ e d := fun s m O Q E hn S q =>
 wpQ_with_toks hn (h s m O _ E S fun v h' tk x hr ht => q v h' tk ht x hr)
theorem evN_of {e : Expr} {d : D} (h : Ev prog w C r σ e d) : EvN prog w C N r σ e d := evN_ofQ (evQ_of h)
theorem evAN_of {pos : Pos} {es : List Expr} {ds : List D} (h : EvA prog w C r σ pos es ds) : EvAN prog w C N r σ pos es ds := fun s m O Q E hn S q =>
 wpQ_with_toks hn (wpQ_of (h s m O _ E S fun v h' tk x hr ht => q v h' tk ht x hr))
theorem fnVN_ofQ {f : Value} {args : List D} {d : D} {n : Nat} (h : FnQ prog w hB f args d n) : FnVN prog w hB N f args d n := fun A s O vals Q E hn R hg X Ow rs q =>
 wpQ_with_toks hn (h A s O vals _ E R hg X Ow rs fun v h' tk x hr ht => q v h' tk ht x hr)
theorem FnVN.le {f : Value} {args : List D} {d : D} {n N' : Nat} (h : FnVN prog w hB N f args d n) (hN : N ≤ N') : FnVN prog w hB N' f args d n := fun A s O vals Q E hn R hg X Ow rs q =>
 wpQ_with_toks hn (h A s O vals _ E (Nat.le_trans hN hn) R hg X Ow rs fun v h' tk _ x hr ht => q v h' tk ht x hr)
theorem evNR {e : Expr} {d : D} (h : EvN prog w C N false σ e d) : EvN prog w C N true σ e d := fun s m O Q E hn S k => h s m O Q E hn S fun v h' tk ht x r => k v h' tk ht x (r.weak S.sub)
theorem evN_eq {e : Expr} {a b : D} (h : EvN prog w C N r σ e a) (q : a = b) : EvN prog w C N r σ e b := q ▸ h
theorem WpN.mono {ss : List Stmt} (h : WpN prog w C N σ ss Φ) (hΦ : ∀ f σ', Φ f σ' → Ψ f σ') : WpN prog w C N σ ss Ψ := fun s m O Q E hn S q => h s m O Q E hn S fun f φ σ' h' tk m' O' ht hp hf S' g => q f φ σ' h' tk m' O' ht (hΦ _ _ hp) hf S' g
theorem WpN.sub {ss : List Stmt} (h : WpN prog w C N σ ss Φ) (hs : Sub σ σ') : WpN prog w C N σ' ss Φ := fun s m O Q E hn S q => h s m O Q E hn (S.sub' hs) q
theorem wpN_ofQ {ss : List Stmt} (h : WpQ prog w C σ ss Φ) : WpN prog w C N σ ss Φ := fun s m O Q E hn S q =>
 wpQ_with_toks hn (h s m O _ E S fun f φ σ' h' tk m' O' hp hf S' g ht => q f φ σ' h' tk m' O' ht hp hf S' g)
theorem wpN_of {ss : List Stmt} (h : Wp prog w C σ ss Φ) : WpN prog w C N σ ss Φ := wpN_ofQ (wpQ_of_wp h)
theorem wpN_nil (h : Φ .next σ) : WpN prog w C N σ [] Φ := wpN_of (wp_nil h)
theorem WpN.le {ss : List Stmt} {N' : Nat} (h : WpN prog w C N σ ss Φ) (hN : N ≤ N') : WpN prog w C N' σ ss Φ := fun s m O Q E hn S q =>
 wpQ_with_toks hn (h s m O _ E (Nat.le_trans hN hn) S fun f φ σ' h' tk m' O' _ hp hf S' g ht => q f φ σ' h' tk m' O' ht hp hf S' g)
theorem SeqN.runN {s : Shared} {Q : Flow → Shared → Prop} {E}
   (q : ∀ f φ σ' h' tk m' O', N ≤ tk → Φ φ σ' → FlR C.O₀ h' f φ → StX C m' O' σ' h' → Grow O s.heap O' h' → Q f { s with heap := h', toks := tk }) :
   ∀ f φ σ' h' tk m' O', N ≤ tk → SeqN prog w C N rest Φ φ σ' → FlR C.O₀ h' f φ → StX C m' O' σ' h' → Grow O s.heap O' h' →
    (match (motive := Flow → Prop) f with | .next => wpQ (model prog w) C.A (execs rest C.env) Q E { s with heap := h', toks := tk } | f => Q f { s with heap := h', toks := tk }) := fun f φ σ' h' tk m' O' ht hp hf S' g => by
   cases f, φ, hf using FlR.elim with
   | next => exact (show WpN prog w C N σ' rest Φ from hp) _ m' O' Q E ht S' fun f φ σ'' h'' tk' m'' O'' ht' hp' hf' S'' g' => q f φ σ'' h'' tk' m'' O'' ht' hp' hf' S'' (g.trans g')
   | brk => exact q .brk .brk σ' h' tk m' O' ht hp trivial S' g
   | cont => exact q .cont .cont σ' h' tk m' O' ht hp trivial S' g
   | ret v d hr => exact q (.ret _) (.ret _) σ' h' tk m' O' ht hp hr S' g
theorem wpN_lift {st : Stmt} (h1 : Wp prog w C σ [st] (SeqN prog w C N rest Φ)) : WpN prog w C N σ (st :: rest) Φ := fun s m O Q E hn S q =>
 wpQ_execs_lift (wpAny_with_toks hn (h1 s m O _ _ S fun f φ σ' h' tk m' O' hp hf S' g => fun ht => SeqN.runN q f φ σ' h' tk m' O' ht hp hf S' g))
theorem wpN_liftN {st : Stmt} (h1 : Wp prog w C σ [st] (fun φ σ' => φ = .next ∧ WpN prog w C N σ' rest Φ)) : WpN prog w C N σ (st :: rest) Φ :=
 wpN_lift (h1.mono fun φ σ' h => by obtain ⟨rfl, h⟩ := h; exact h)
theorem wpN_if (K : Ok prog w hB mg mb C n) {t : Expr} {a b : List Stmt} {pos} {c : Bool} (h1 : EvT prog w C σ t c) (h2 : c = true → WpN prog w C N σ a (SeqN prog w C N rest Φ)) (h3 : c = false → WpN prog w C N σ b (SeqN prog w C N rest Φ)) :
   WpN prog w C N σ (.If t a b pos :: rest) Φ := fun s m O Q E hn S q =>
 wpQ_execs_cons (wpQ_If (wpAny_with_toks hn (h1 s m O _ _ S fun h' tk x ht => by
   have S' := S.ext' K x
   cases c with
   | true => exact h2 rfl _ m O _ E ht S' (SeqN.runN fun f φ σ' h'' tk' m' O' ht' hp hf S'' g => q f φ σ' h'' tk' m' O' ht' hp hf S'' ((Grow.ext x).trans g))
   | false => exact h3 rfl _ m O _ E ht S' (SeqN.runN fun f φ σ' h'' tk' m' O' ht' hp hf S'' g => q f φ σ' h'' tk' m' O' ht' hp hf S'' ((Grow.ext x).trans g)))))
theorem wpN_assign (K : Ok prog w hB mg mb C n) {x : Str} {e : Expr} {p pos} {d : D} (h1 : EvN prog w C N false σ e d) (h2 : WpN prog w C N ((x, .v d) :: σ) rest Φ) (hl : C.loc x = true) (hn : noApp x σ = true)
   (hs : swapsWith e (some (.Name x p)) pos.line C.env = pure false := by rfl) : WpN prog w C N σ (.Assign [.Name x p] e pos :: rest) Φ := fun s m O Q E hN S q =>
 wpQ_execs_cons (wpQ_Assign_Name (hs := hs) (h1 s m O _ E hN S fun v h' tk ht x hr => wpQ_with_toks (n := N) ht (wpQ_of (storeV K (S.ext' K x) hr hl hn fun m' h'' tk' S'' hk ht' =>
   h2 _ m' O Q E ht' S'' fun f φ σ' h3 tk3 m3 O3 ht3 hp hf S3 g => q f φ σ' h3 tk3 m3 O3 ht3 hp hf S3 (((Grow.ext x).trans ⟨hk, fun _ h => h, fun _ h => .inl h⟩).trans g)))))
theorem wpN_ret (K : Ok prog w hB mg mb C n) {e : Expr} {pos} {d : D} (h1 : EvN prog w C N true σ e d) (h2 : Φ (.ret d) σ) : WpN prog w C N σ (.Return (some e) pos :: rest) Φ := fun s m O Q E hn S q =>
 wpQ_execs_cons (wpQ_Return_some (h1 s m O _ E hn S fun v h' tk ht x hr => q (.ret v) (.ret d) σ h' tk m O ht h2 hr (S.ext' K x) (Grow.ext x)))
end
section
variable {M : Model} {A : Around} {E : Value → Shared → Prop} {s : Shared} {env : Env}
theorem wpQ_AugAssign_Name {x pos' op value pos} {Q : Flow → Shared → Prop}
   (h : wpAny M A (loadName env x) (fun old s₁ => wpQ M A (eval value env) (fun v s₂ => wpAny M A (inplaceOp op old v)
     (fun r s₃ => wpQ M A (storeName env x r) (fun _ => Q .next) E s₃) E s₂) E s₁) E s) :
   wpQ M A (exec (.AugAssign (.Name x pos') op value pos) env) Q E s := fun Γ p hΓ hq => by
 simp only [exec_AugAssign_Name, Sem.wp_bind', Sem.wp_holding, Sem.wp_cmd_standAt, Sem.wp_operate, Sem.wp_bindName, Sem.wp_pure']
 exact Sem.wp_mono M Γ _ (fun old p₁ s₁ h₁ => Sem.wp_mono M Γ _ (fun v _ s₂ h₂ => Sem.wp_mono M Γ _ (fun r _ s₃ h₃ => h₃ Γ _ hΓ hq)
   (fun _ _ _ h' => h') _ _ (h₂ Γ _ hΓ)) (fun _ _ _ h' => h') _ _ (h₁ Γ p₁ hΓ hq)) (fun _ _ _ h' => h') _ _ (h Γ _ hΓ)
theorem wpQ_Compare1 {l op r pos} {Q : Value → Shared → Prop}
   (h : wpQ M A (eval l env) (fun a s₁ => wpQ M A (eval r env) (fun b s₂ => wpAny M A (compareOp op a b) Q E s₂) E s₁) E s)
   (hm : behindInMarks op r = false := by with_unfolding_all rfl) :
   wpQ M A (eval (.Compare l [op] [r] pos) env) Q E s := fun Γ p hΓ hq => by
 simp only [eval_Compare1, markedBehindIn_of_false hm, Sem.wp_bind', Sem.wp_holding, Sem.wp_cmd_standAt, Sem.wp_operate]
 exact Sem.wp_mono M Γ _ (fun a p₁ s₁ h₁ => Sem.wp_mono M Γ _ (fun b _ s₂ h₂ => h₂ Γ _ hΓ) (fun _ _ _ h' => h') _ _ (h₁ Γ p₁ hΓ hq))
   (fun _ _ _ h' => h') _ _ (h Γ p hΓ hq)
theorem wpQ_and {e₁ e₂ rest pos} {Q : Value → Shared → Prop}
   (h : wpQ M A (eval e₁ env) (fun v s₁ => wpAny M A (truthy v) (fun c s₂ => if c then wpQ M A (eval (.BoolOp .And (e₂ :: rest) pos) env) Q E s₂ else Q v s₂) E s₁) E s) :
   wpQ M A (eval (.BoolOp .And (e₁ :: e₂ :: rest) pos) env) Q E s := by
 show wpQ M A (do
   let v ← eval e₁ env
   standAt pos
   let c ← holding [v] (truthy v)
   match BoolOp.And, c with
   | .And, false | .Or, true => pure v
   | _, _ => boolOp pos .And (eval e₂ env :: evalEach rest env)) Q E s
 refine wpQ_bind (wpQ_mono h (fun v s₁ h₁ => wpQ_bind (wpQ_standAt (wpQ_bind (wpQ_holding (wpQ_step h₁ fun c s₂ h₂ => ?_))))) fun _ _ x => x)
 cases c with
 | false => exact wpQ_pure h₂
 | true => exact h₂
theorem wpQ_and1 {e₁ pos} {Q : Value → Shared → Prop} (h : wpQ M A (eval e₁ env) Q E s) : wpQ M A (eval (.BoolOp .And [e₁] pos) env) Q E s := h
end
section
variable {prog : Program} {w : World} {hB : Heap} {mg mb : Str → Option Value} {C : Cfg} {n N : Nat} {σ σ' σ'' : Loc} {m : Str → Option Value} {O : List Addr} {h h' : Heap} {r : Bool} {Φ Ψ : Fl → Loc → Prop} {rest : List Stmt}
theorem wpN_aug (K : Ok prog w hB mg mb C n) {x : Str} {e : Expr} {op : Operator} {p pos} {d₀ d₁ d : D} (hx : σ.lookup x = some (.v d₀)) (h1 : EvN prog w C N false σ e d₁) (h3 : Op2 prog w hB (inplaceOp op) d₀ d₁ d) (h2 : WpN prog w C N ((x, .v d) :: σ) rest Φ)
   (hl : C.loc x = true) (hn : noApp x σ = true) : WpN prog w C N σ (.AugAssign (.Name x p) op e pos :: rest) Φ := fun s m O Q E hN S q => by
 obtain ⟨v₀, hv₀, hr₀⟩ := S.ents x _ hx
 refine wpQ_execs_cons (wpQ_AugAssign_Name (wpAny_with_toks hN (K.H.load s m x v₀ _ _ S.fr hl hv₀ fun hN => h1 s m O _ E hN S fun v h' tk ht x hr => ?_)))
 have S' := S.ext' K x
 refine wpAny_with_toks (n := N) ht (h3 _ _ O v₀ v _ _ (K.R.le (Nat.zero_le _)) (S'.base K) (S'.own' (r := false) K) (Rep.ext hr₀ x) hr fun u h2' tk2 x2 hr2 ht2 => ?_)
 refine wpQ_with_toks (n := N) ht2 (wpQ_of (storeV K (S'.ext' K x2) hr2 hl hn fun m' h'' tk' S'' hk ht' => ?_))
 exact h2 _ m' O Q E ht' S'' fun f φ σ' h3 tk3 m3 O3 ht3 hp hf S3 g => q f φ σ' h3 tk3 m3 O3 ht3 hp hf S3 (((Grow.ext (x.trans x2)).trans ⟨hk, fun _ h => h, fun _ h => .inl h⟩).trans g)
theorem evN_cmp (K : Ok prog w hB mg mb C n) {l e : Expr} {op : CmpOp} {pos} {da db d : D} (h1 : EvN prog w C N r σ l da) (h2 : EvN prog w C N r σ e db) (h3 : Op2 prog w hB (compareOp op) da db d) (hm : behindInMarks op e = false := by with_unfolding_all rfl) : EvN prog w C N r σ (.Compare l [op] [e] pos) d := fun s m O Q E hN S q =>
 wpQ_Compare1 (hm := hm) (h1 s m O _ E hN S fun a h₁ t₁ ht₁ x₁ ra => h2 _ m O _ E ht₁ (S.ext' K x₁) fun b h₂ t₂ ht₂ x₂ rb => by
   have S₂ := (S.ext' K x₁).ext' K x₂
   exact wpAny_with_toks (n := N) ht₂ (h3 _ _ (OR C r O) a b _ _ (K.R.le (Nat.zero_le _)) (S₂.base K) (S₂.own' K) (Rep.ext ra x₂) rb fun v h' tk x hr ht => q v h' tk ht ((x₁.trans x₂).trans x) hr))
theorem evN_and1 {e : Expr} {pos : Pos} {d : D} (h1 : EvN prog w C N r σ e d) : EvN prog w C N r σ (.BoolOp .And [e] pos) d := fun s m O Q E hN S q => wpQ_and1 (h1 s m O Q E hN S q)
theorem evN_and (K : Ok prog w hB mg mb C n) {e₁ e₂ : Expr} {es : List Expr} {pos : Pos} (h1 : EvN prog w C N r σ e₁ (.bool true)) {d : D} (h2 : EvN prog w C N r σ (.BoolOp .And (e₂ :: es) pos) d) : EvN prog w C N r σ (.BoolOp .And (e₁ :: e₂ :: es) pos) d := fun s m O Q E hN S q =>
 wpQ_and (h1 s m O _ E hN S fun v h₁ t₁ ht₁ x₁ rv => by
   cases rv
   refine wpAny_truthy_bool ?_
   exact h2 _ m O Q E ht₁ (S.ext' K x₁) fun v h' tk ht x hr => q v h' tk ht (x₁.trans x) hr)
theorem evN_call (K : Ok prog w hB mg mb C n) (hg : C.A.guards = some []) {f : Str} {fp pos : Pos} {fa : Addr} {fd : FuncData} {body : List Stmt} {e : Expr} {es : List Expr} {ds : List D} {d : D} {k : Nat} (hk : C.env.kindOf f = some .globalImplicit) (hm : mg f = some (.ref fa)) (H : IsFn hB fa fd body)
   (h1 : EvAN prog w C N r σ pos (e :: es) ds) (h2 : FnVN prog w hB N (.ref fa) ds d k) (hkn : k ≤ n := by omega)
   (hs : ∀ env, starEach (e :: es) env = (false, eval e env) :: starEach es env := by intro _; rfl) (hd : (f == ("__debug__" : Str)) = false := by decide)
   (hpl : ∀ env, (List.any (backTo pos (starEach es env)) fun x => x.1) = false := by intro _; rfl)
   (hc : ∀ env, eval (.Call (.Name f fp) (e :: es) [] pos) env = (do callWith pos (← eval (.Name f fp) env) [] (backTo pos (starEach (e :: es) env)) (backToKw pos (keywordEach [] env))) := by intro _; rfl) :
   EvN prog w C N r σ (.Call (.Name f fp) (e :: es) [] pos) d := fun s m O Q E hN S q => by
 obtain ⟨o, ho, hdata⟩ := H.get
 refine wpQ_Call (hc _) (wpAny_with_toks hN (load_global K S hk hm (fun hN => ?_) hd))
 refine wpQ_callWith_def (hs _) (hpl _) (h1 s m O _ E hN S fun vs h' tk ht x rs => ⟨⟨x _ _ (S.base K _ _ ho), hdata⟩, ?_⟩)
 exact h2 _ _ (OR C r O) vs Q E ht (K.R.le hkn) hg ((S.base K).trans x) ((S.ext' K x).own' K) rs fun v h'' tk' ht' x' hr => q v h'' tk' ht' (x.trans x') hr
def FnNN (prog : Program) (w : World) (hB : Heap) (mg : Str → Option Value) (N : Nat) (f : Str) (ds : List D) (d : D) (n : Nat) : Prop := ∃ fa fd body, mg f = some (.ref fa) ∧ IsFn hB fa fd body ∧ FnVN prog w hB N (.ref fa) ds d n
theorem FnNN.le {f : Str} {ds : List D} {d : D} {n N' : Nat} (h : FnNN prog w hB mg N f ds d n) (hN : N ≤ N') : FnNN prog w hB mg N' f ds d n := let ⟨fa, fd, body, hm, H, hV⟩ := h; ⟨fa, fd, body, hm, H, hV.le hN⟩
theorem evN_fn (K : Ok prog w hB mg mb C n) (hg : C.A.guards = some []) {f : Str} {fp pos : Pos} {e : Expr} {es : List Expr} {ds : List D} {d : D} {k : Nat} (hF : FnNN prog w hB mg N f ds d k) (hk : C.env.kindOf f = some .globalImplicit)
   (h1 : EvAN prog w C N r σ pos (e :: es) ds) (hkn : k ≤ n := by omega)
   (hs : ∀ env, starEach (e :: es) env = (false, eval e env) :: starEach es env := by intro _; rfl) (hd : (f == ("__debug__" : Str)) = false := by decide)
   (hpl : ∀ env, (List.any (backTo pos (starEach es env)) fun x => x.1) = false := by intro _; rfl)
   (hc : ∀ env, eval (.Call (.Name f fp) (e :: es) [] pos) env = (do callWith pos (← eval (.Name f fp) env) [] (backTo pos (starEach (e :: es) env)) (backToKw pos (keywordEach [] env))) := by intro _; rfl) :
   EvN prog w C N r σ (.Call (.Name f fp) (e :: es) [] pos) d := by
 obtain ⟨fa, fd, body, hm, H, hV⟩ := hF
 exact evN_call K hg hk hm H h1 hV hkn hs hd hpl hc
end
end
section
section
variable {prog : Program} {w : World} {hB : Heap} {mg mb : Str → Option Value}
theorem fnN_def (B : Base hB mg mb) {fa : Addr} {fd : FuncData} {body : List Stmt} (H : IsFn hB fa fd body) {names : List Str} {args : List D} {d : D} {n N : Nat} {σ₀ : Loc}
   (hlen : names.length = args.length)
   (hbind : ∀ (s : Shared) (vals : List Value), Ext hB s.heap → vals.length = names.length → ∃ binds, BindsTo s fd ⟨vals, []⟩ binds ∧ ∀ O, Own hB O s.heap → Reps O s.heap vals args → Binds O s.heap binds σ₀)
   (hloc : ∀ x ∈ σ₀, fd.scope.names.lookup x.1 = some .local)
   (hbody : ∀ A L h₀ O₀, A.guards = some [] → Ok prog w hB mg mb (plainCfg A fd L fa h₀ O₀) n → WpN prog w (plainCfg A fd L fa h₀ O₀) N σ₀.reverse body (RetIs d)) : FnVN prog w hB N (.ref fa) args d (n + 1) := by
 intro A s O vals Q E hN R hg X Ow hr q
 refine H.get.elim fun o ho => (hbind s vals X (hr.length.trans hlen.symm)).elim fun binds hb => ?_
 have hB' := hb.2 O Ow hr
 refine wpQ_call (codeQ_call_def R.call (X _ _ ho.1) ho.2 (B.nolimit.keeps X) (H.code.keeps X) H.body hb.1 H.nocell (fun x hx => (hB'.mem hx).elim fun _ he => hloc _ he) (fun h₁ hns hx => ?_) H.noco H.nogen H.kind)
 exact hbody _ _ _ _ (show (A.deeper (callEnv fd s.heap.objs.size fa)).guards = some [] from hg) (frame_ok B H R X Ow) _ _ _ _ _ (Nat.le_trans hN (Nat.le_add_right _ _)) (frame_st (h₁ := h₁) Ow hB' hns hx) fun f φ σ' h' tk m' O' ht hp hf S' g => q _ h' tk ht S'.fr.keep (ret_is hf hp)
theorem fn_recN (B : Base hB mg mb) {p : Program} {k : Nat} (H : HasFn hB mg p k) (names : List Str) {args : List D} {d : D} {n N : Nat} {f : Str} (hf : (recAt p k).name = f)
   (hlen : names.length = args.length)
   (hbind : ∀ pm code doc (vals : List Value), vals.length = names.length → bindArgs (docAt p k pm code doc) ⟨vals, []⟩ = pure (names.zip vals))
   (hloc : ∀ x ∈ names, (recAt p k).scope.names.lookup x = some .local)
   (hbody : ∀ pm code doc fa A L h₀ O₀, A.guards = some [] → Ok prog w hB mg mb (cfgAt p k pm code doc fa A L h₀ O₀) n → WpN prog w (cfgAt p k pm code doc fa A L h₀ O₀) N (names.zip (args.map .v)).reverse (recAt p k).body (RetIs d)) : FnNN prog w hB mg N f args d (n + 1) := by
 obtain ⟨fa, pm, code, doc, hm, hH⟩ := H
 subst hf
 refine ⟨fa, _, _, hm, hH, fnN_def B hH hlen (binds_plain hlen (hbind pm code doc)) (fun x hx => ?_) fun A L h₀ O₀ hg K => hbody pm code doc fa A L h₀ O₀ hg K⟩
 exact hloc _ (List.of_mem_zip hx).1
end
def ItN (prog : Program) (w : World) (C : Cfg) (N : Nat) (σ : Loc) (e : Expr) (ds : List D) : Prop :=
 ∀ (s : Shared) m O (Q : Value → Shared → Prop) (E : Value → Shared → Prop), N ≤ s.toks → StX C m O σ s.heap →
   (∀ I fp wr P St h' tk, N ≤ tk → Ext s.heap h' → Walks prog w C.A I fp wr ds.length P St → St 0 h' → I ∈ wr → (∀ b ∈ fp, b ∉ O) → (∀ b ∈ fp, ∃ o, h'.get? b = some o ∧ (b ∉ wr → Stab o)) → (∀ b ∈ wr, s.heap.get? b = none) →
     (∀ i h, St i h → ∀ b ∈ wr, ∃ o, h.get? b = some o ∧ IsItr o) → (∀ i v, P i v → ∃ d, ds[i]? = some d ∧ Rep O h' v d) → Q (.ref I) { s with heap := h', toks := tk }) →
   wpAny (model prog w) C.A (eval e C.env) (fun x s₁ => wpAny (model prog w) C.A (pyIter x) Q E s₁) E s
section
variable {prog : Program} {w : World} {hB : Heap} {mg mb : Str → Option Value} {C : Cfg} {n N : Nat} {σ σ' σ'' : Loc} {m : Str → Option Value} {O : List Addr} {h h' : Heap} {r : Bool} {Φ Ψ : Fl → Loc → Prop} {rest : List Stmt}
theorem itN_of {e : Expr} {ds : List D} (h1 : It prog w C σ e ds) : ItN prog w C N σ e ds := fun s m O Q E hN S q =>
 wpAny_mono (wpAny_with_toks hN (Q := fun x s₁ => N ≤ s₁.toks ∧ wpAny (model prog w) C.A (pyIter x) (fun v s' => N ≤ s'.toks → Q v s') E s₁) (wpAny_mono (h1 s m O (fun v s' => N ≤ s'.toks → Q v s') E S fun I fp wr P St h' tk x W st0 hI h1 h2 h3 h4 h5 => fun ht => q I fp wr P St h' tk ht x W st0 hI h1 h2 h3 h4 h5)
   (fun x s₁ hx ht => ⟨ht, hx⟩) fun _ _ x _ => x)) (fun x s₁ hx => wpAny_with_toks hx.1 (wpAny_mono hx.2 (fun _ _ y => y) fun _ _ y _ => y)) fun _ _ x => x
theorem WpN.fin (h1 : WpN prog w C N σ rest Φ) {s : Shared} {m : Str → Option Value} {O O' : List Addr} {h' : Heap} {t' : Nat} {Q : Flow → Shared → Prop} {E : Value → Shared → Prop} (ht : N ≤ t') (S : StX C m O' σ h')
   (q : ∀ f φ σ' h' tk m' O', N ≤ tk → Φ φ σ' → FlR C.O₀ h' f φ → StX C m' O' σ' h' → Grow O s.heap O' h' → Q f { s with heap := h', toks := tk }) (g : Grow O s.heap O' h') : wpQ (model prog w) C.A (execs rest C.env) Q E { s with heap := h', toks := t' } :=
 h1 _ m O' Q E ht S fun f φ σ'' h₄ t₄ m₄ O₄ ht' hp' hf' S₄ g₄ => q f φ σ'' h₄ t₄ m₄ O₄ ht' hp' hf' S₄ (g.trans g₄)
theorem wpN_for (K : Ok prog w hB mg mb C n) {α : Type} {tgt e : Expr} {body : List Stmt} {pos : Pos} (f : α → D) (xs : List α) (inv : List α → Loc) (st : List α → α → Loc) (hit : ItN prog w C N σ e (xs.map f)) (h0 : Sub (inv []) σ)
   (asg : ∀ pre x post, xs = pre ++ x :: post → As prog w C (inv pre) tgt (f x) (st pre x))
   (turn : ∀ pre x post, xs = pre ++ x :: post → WpN prog w C N (st pre x) body (LoopEndN prog w C N (fun σ' => Sub (inv (pre ++ [x])) σ') rest Φ)) (fin : WpN prog w C N (inv xs) rest Φ)
   (hfs : ∀ x, foldedSetIterable e C.env x = pure x := by intro _; rfl) : WpN prog w C N σ (.For tgt e body [] pos :: rest) Φ := fun s m O Q E hN S q => by
 refine wpQ_execs_cons (wpQ_For (hs := hfs) (hit s m O _ E hN S fun I fp wr P St h₁ t₁ ht₁ x₁ W st0 hI hfO hfa hwn hitr hP => ?_))
 rw [List.length_map] at W
 have F : FIt prog w C O s.heap h₁ xs.length I fp wr P St := ⟨W, hfO, fun b hb => (hfa b hb).imp fun _ x => x.1, hwn, hitr, fun b hb => none_of fun o e => nos (hwn b hb) (K.H.keep _ _ S.fr b o e)⟩
 refine codeQ_forLoop_any (FInv C inv xs N s h₁ O wr St) ?_ xs.length (.mk 0 m O h₁ t₁ ht₁ (Nat.zero_le _) ⟨(S.ext' K x₁).sub' h0, st0, Grow.ext x₁, fun _ _ _ _ e => e, fun _ h => .inl h⟩)
 clear hit W hfO hfa hwn hitr h0 x₁ S
 intro k s' J
 cases J with | mk i m' O' h' tk htk hi A
 cases Nat.lt_or_eq_of_le hi with
 | inl hlt =>
   refine wpAny_with_toks (n := N) htk (F.W.item i _ _ _ hlt A.st fun v h₂ t₂ hPv st₂ hk₂ => fun ht₂ => ?_)
   refine (hP i v hPv).elim fun d hd => (list_at hd.1).elim fun x hx => ?_
   have hr := A.rep F st0 hk₂ hd.2
   refine (hitr' F st₂ hI).elim fun oI hoI => letGo_skip hoI.1 hoI.2 (wpAny_with_toks (n := N) ht₂ (asg _ x _ hx.2.1 _ m' O' v _ _ (A.frame K F hk₂) (hx.1 ▸ hr) fun m₃ h₃ t₃ S₃ hk₃ => fun ht₃ => ?_))
   refine turn _ x _ hx.2.1 _ m₃ O' _ _ ht₃ S₃ fun fl φ σ' h₄ t₄ m₄ O₄ ht₄ hp hfl S₄ g₄ => ?_
   have A₄ := A.next F st₂ hk₂ hk₃ g₄ S₄
   have next : Sub (inv (xs.take i ++ [x])) σ' → ∃ k, k < xs.length - i ∧ FInv C inv xs N s h₁ O wr St k { s with heap := h₄, toks := t₄ } := fun hs => ⟨_, Nat.sub_lt_sub_left hlt (Nat.lt_succ_self i), .mk (i + 1) m₄ O₄ h₄ t₄ ht₄ hlt { A₄ with S := S₄.sub' (hx.2.2 ▸ hs) }⟩
   cases fl, φ, hfl using FlR.elim with
   | next => exact next hp
   | brk => exact WpN.fin (s := s) hp ht₄ S₄ q A₄.g
   | cont => exact next hp
   | ret v d hr => exact q (.ret v) (.ret d) σ' h₄ t₄ m₄ O₄ ht₄ hp hr S₄ A₄.g
 | inr hin =>
   refine wpAny_with_toks (n := N) htk (F.W.done _ _ _ (hin ▸ A.st) fun h₂ t₂ hk₂ => fun ht₂ => wpQ_of (wpAny_execs_nil ?_))
   exact WpN.fin (s := s) fin ht₂ ((show xs.take i = xs from hin ▸ List.take_length) ▸ A.frame K F hk₂) q (A.g.step (fun b o _ hw => hk₂ b o hw) F.wn (Grow.refl _ _))
end
end
section
open Builtin Builtin.Str
noncomputable def cutL (y : List Nat) (acc : List Nat) : List Nat → List (List Nat)
 | [] => [acc]
 | c :: r => if y.isPrefixOf (c :: r) then acc :: cutL y [] (r.drop (y.length - 1)) else cutL y (acc ++ [c]) r
termination_by l => l.length
decreasing_by all_goals (simp only [List.length_drop, List.length_cons]; omega)
noncomputable def occP (l y : List Nat) : Nat → Nat → Nat → List Nat
 | 0, _, _ => []
 | k + 1, cur, free => if free ≤ cur ∧ cur + y.length ≤ l.length ∧ (l.drop cur).take y.length = y then cur :: occP l y k (cur + 1) (cur + y.length) else occP l y k (cur + 1) free
theorem S8_len (l : List Nat) : (S8 l).length = l.length := by show l.toArray.size = _; rw [List.size_toArray]
theorem subAt_list (l y : List Nat) (i : Nat) : subAt (S8 l) (S8 y) i = decide ((l.drop i).take y.length = y) := by
 rw [StrLaws.subAt_eq, S8_len, Bool.eq_iff_iff]; simp
theorem occP_loop (l y : List Nat) (limit : Nat) (hlim : l.length < limit) : ∀ (k cur : Nat) (st : Array Nat × Nat), st.1.size ≤ cur → cur + k = l.length + 1 →
   (forIn (List.range' cur k) st (StrLaws.occBody (S8 l) (S8 y) l.length limit)).run.fst.toList = st.1.toList ++ occP l y k cur st.2
 | 0, cur, st, _, _ => by simp [occP]
 | k + 1, cur, st, h1, h2 => by
   rw [List.range'_succ, List.forIn_cons]
   unfold StrLaws.occBody
   rw [occP]
   by_cases hc : st.2 ≤ cur ∧ cur + y.length ≤ l.length ∧ (l.drop cur).take y.length = y
   · have hc' : ((st.1.size < limit ∧ st.2 ≤ cur) ∧ cur + (S8 y).length ≤ l.length) ∧ subAt (S8 l) (S8 y) cur = true := by
       rw [S8_len, subAt_list]
       exact ⟨⟨⟨by exact ar526 h2 h1 hlim, hc.1⟩, hc.2.1⟩, decide_eq_true hc.2.2⟩
     rw [if_pos hc]
     split
     · refine (occP_loop l y limit hlim k (cur + 1) (st.1.push cur, cur + (S8 y).length) (by simp; exact ar313 h1) (by exact ar404 h2)).trans ?_
       rw [S8_len]; simp
     · rename_i h; exact absurd hc' h
   · rw [if_neg hc]
     split
     · rename_i h
       rw [S8_len, subAt_list, decide_eq_true_eq] at h
       exact absurd ⟨h.1.1.2, h.1.2, h.2⟩ hc
     · exact occP_loop l y limit hlim k (cur + 1) st (by exact ar312 h1) (by exact ar404 h2)
end
section
open Builtin Builtin.Str
theorem parts_cut (l y : List Nat) (hy : y ≠ []) : ∀ (k cur a : Nat), cur + k = l.length + 1 → a ≤ l.length →
   StrLaws.partsFrom (S8 l) y.length a (occP l y k cur a) = (if a ≤ cur then cutL y ((l.drop a).take (cur - a)) (l.drop cur) else cutL y [] (l.drop a)).map S8
 | 0, cur, a, h1, h2 => by
   rw [if_pos (by exact ar418 h1 h2), List.drop_eq_nil_of_le (by exact ar254 h1 : l.length ≤ cur), cutL, List.take_of_length_le (by rw [List.length_drop]; exact ar426 h1), occP]
   show [strSub (S8 l) a (S8 l).length] = _
   rw [S8_len, sub_list, List.take_of_length_le (by rw [List.length_drop]; exact ar370)]; rfl
 | k + 1, cur, a, h1, h2 => by
   have hyl : 0 < y.length := List.length_pos_iff.mpr hy
   rw [occP]
   by_cases hac : a ≤ cur
   · rw [if_pos hac]
     by_cases hc : a ≤ cur ∧ cur + y.length ≤ l.length ∧ (l.drop cur).take y.length = y
     · rw [if_pos hc]
       obtain ⟨_, h3, h4⟩ := hc
       have hlt : cur < l.length := by exact ar397 hyl h3
       have hpre : y.isPrefixOf (l.drop cur) = true := by
         rw [List.isPrefixOf_iff_prefix, List.prefix_iff_eq_take]; exact h4.symm
       rw [List.drop_eq_getElem_cons hlt] at hpre ⊢
       rw [cutL, if_pos hpre, List.map_cons]
       show strSub (S8 l) a cur :: StrLaws.partsFrom (S8 l) y.length (cur + y.length) _ = _
       rw [parts_cut l y hy k (cur + 1) (cur + y.length) (by exact ar404 h1) (by exact ar414 h3), sub_list]
       congr 1
       rw [List.drop_drop, show cur + 1 + (y.length - 1) = cur + y.length by exact ar217 hyl]
       by_cases h5 : cur + y.length ≤ cur + 1
       · rw [if_pos h5, show cur + 1 - (cur + y.length) = 0 by exact ar218 hyl, List.take_zero, show cur + 1 = cur + y.length by exact ar216 hyl h5]
       · rw [if_neg h5]
     · rw [if_neg hc, parts_cut l y hy k (cur + 1) a (by exact ar404 h1) h2, if_pos (by exact ar312 hac)]
       by_cases hlt : cur < l.length
       · have hpre : ¬ y.isPrefixOf (l[cur] :: l.drop (cur + 1)) = true := fun h => by
           rw [← List.drop_eq_getElem_cons hlt] at h
           rw [List.isPrefixOf_iff_prefix, List.prefix_iff_eq_take] at h
           refine hc ⟨hac, ?_, h.symm⟩
           have := congrArg List.length h
           rw [List.length_take, List.length_drop] at this; exact ar435 hlt this
         conv => rhs; rw [List.drop_eq_getElem_cons hlt]
         rw [cutL, if_neg hpre]
         congr 2
         rw [show cur + 1 - a = (cur - a) + 1 by exact ar329 hac, List.take_add_one]
         congr 1
         rw [List.getElem?_drop, show a + (cur - a) = cur by exact ar307 hac, List.getElem?_eq_getElem hlt]; rfl
       · rw [List.drop_eq_nil_of_le (by exact ar345 hlt : l.length ≤ cur), List.drop_eq_nil_of_le (by exact ar344 hlt : l.length ≤ cur + 1), cutL, cutL]
         rw [List.take_of_length_le (by rw [List.length_drop]; exact ar485 hlt), List.take_of_length_le (by rw [List.length_drop]; exact ar486 hlt)]
   · rw [if_neg hac, if_neg (by lia), parts_cut l y hy k (cur + 1) a (by exact ar404 h1) h2]
     by_cases h5 : a ≤ cur + 1
     · rw [if_pos h5, show cur + 1 - a = 0 by exact ar346 hac, List.take_zero, show cur + 1 = a by exact ar325 h5 hac]
     · rw [if_neg h5]
theorem parts_list (l y : List Nat) (hy : y ≠ []) : partsBetween (S8 l) (occurrences (S8 l) (S8 y) 0 (S8 l).length ((S8 l).length + 1)) (S8 y).length = (cutL y [] l).map S8 := by
 rw [StrLaws.partsBetween_eq, StrLaws.occ_eq, S8_len, S8_len, Nat.sub_zero, occP_loop l y (l.length + 1) (by exact ar177) (l.length + 1) 0 _ (Nat.zero_le _) (by exact ar145)]
 show StrLaws.partsFrom _ _ 0 ([] ++ occP l y (l.length + 1) 0 0) = _
 rw [List.nil_append, parts_cut l y hy _ _ _ (by exact ar145) (Nat.zero_le _), if_pos (Nat.le_refl _)]
 rfl
noncomputable def replL (l y z : List Nat) : List Nat := joinL z (cutL y [] l)
theorem replace_list (l y z : List Nat) (hy : y ≠ []) : Txt.replace (S8 l) (S8 y) (S8 z) = S8 (replL l y z) := by
 have hp := parts_list l y hy
 have hyl : ((S8 y).length == 0) = false := by
   rw [S8_len]; have := List.length_pos_iff.mpr hy
   exact beq_eq_false_iff_ne.mpr (by exact ar44 this)
 unfold Txt.replace replL
 rw [hyl, Bool.false_and, Bool.or_false]
 cases he : (occurrences (S8 l) (S8 y) 0 (S8 l).length ((S8 l).length + 1)).isEmpty
 · rw [if_neg (by simp), hp, ← join_list]; rfl
 · rw [if_pos rfl]
   rw [List.isEmpty_iff.mp he] at hp
   have h1 : S8 l = PySem.Str.join (S8 z) ((cutL y [] l).map S8) := by
     rw [← hp, StrLaws.partsBetween_eq]
     show S8 l = PySem.Str.join _ [strSub (S8 l) 0 (S8 l).length]
     rw [StrLaws.sub_whole]; rfl
   rw [join_list'] at h1; exact h1
theorem split_list (l y : List Nat) (hy : y ≠ []) (h256 : ∀ c ∈ y, c < 256) : Txt.split (S8 l) (S8 y) = (cutL y [] l).map S8 := by
 have hp := parts_list l y hy
 have hk : ∀ x : PySem.Str, decide (Builtin.Str.strKind x < Builtin.Str.strKind (S8 y)) = false := fun x => by
   have h1 : Builtin.Str.strKind (S8 y) = 1 := by
     unfold Builtin.Str.strKind
     rw [if_pos]
     rw [Array.all_eq_true']
     intro c hc
     exact decide_eq_true (h256 c (by simpa using hc))
   have h2 : 1 ≤ strKind x := by unfold Builtin.Str.strKind; split <;> (try split) <;> decide
   rw [h1]; exact decide_eq_false (by exact ar45 h2)
 unfold Txt.split
 rw [hk, Bool.or_false]
 have h0 : (occurrences (S8 l) (S8 y) 0 (S8 l).length ((S8 l).length + 1)).isEmpty = true → [S8 l] = (cutL y [] l).map S8 := fun he => by
   rw [List.isEmpty_iff.mp he] at hp
   rw [← hp, StrLaws.partsBetween_eq]
   show [S8 l] = [strSub (S8 l) 0 (S8 l).length]
   rw [StrLaws.sub_whole]
 by_cases hl : decide ((S8 l).length < (S8 y).length) = true
 · rw [if_pos hl]
   refine h0 ?_
   obtain ⟨f, h⟩ := StrLaws.occ_chain (S8 l) (S8 y) ((S8 l).length + 1)
   cases ho : occurrences (S8 l) (S8 y) 0 (S8 l).length ((S8 l).length + 1) with
   | nil => rfl
   | cons i r =>
     rw [ho] at h
     have h3 : i + (S8 y).length ≤ (S8 l).length := h.2.1.1
     rw [decide_eq_true_eq] at hl
     lia
 · rw [if_neg hl]
   cases he : (occurrences (S8 l) (S8 y) 0 (S8 l).length ((S8 l).length + 1)).isEmpty
   · rw [if_neg (by simp), hp]
   · rw [if_pos rfl]; exact h0 he
theorem cutL_len (y : List Nat) : ∀ (n : Nat) (l acc : List Nat), l.length ≤ n → (cutL y acc l).length ≤ l.length + 1
 | _, [], acc, _ => by rw [cutL]; simp
 | 0, c :: r, _, h => by simp at h
 | n + 1, c :: r, acc, h => by
   rw [cutL]
   simp only [List.length_cons] at h
   split
   · have := cutL_len y n (r.drop (y.length - 1)) [] (by rw [List.length_drop]; exact ar400 h)
     rw [List.length_drop] at this
     simp only [List.length_cons]; exact ar448 this
   · have := cutL_len y n r (acc ++ [c]) (by exact ar240 h)
     simp only [List.length_cons]; exact ar299 this
end
section
open Builtin Builtin.Str
section
variable {prog : Program} {w : World} {hB : Heap}
theorem fn_split (l y : List Nat) (hy : y ≠ []) (h256 : ∀ c ∈ y, c < 256) (hsz : l.length < sizeLine) : FnV prog w hB (.builtin "str.split") [.str l, .str y] (.lst ((cutL y [] l).map .str)) 0 := fun A s O vals Q E R X Ow rs q => by
 have hfresh : s.heap.objs.size ∉ O := fun hm => by obtain ⟨o, e⟩ := Ow.alive _ hm; rw [get_size] at e; cases e
 have hyl : ((S8 y).length == 0) = false := by
   rw [S8_len]; have := List.length_pos_iff.mpr hy
   exact beq_eq_false_iff_ne.mpr (by exact ar44 this)
 have hs := split_list l y hy h256
 have hc := cutL_len y l.length l [] (Nat.le_refl _)
 have hp := parts_list l y hy
 unfold Txt.split at hs
 cases rs with
 | cons rv rn =>
   cases rn with
   | cons rv' rn =>
     cases rn
     cases rv with | @str _ t => cases rv' with | @str _ u =>
     have one : [S8 l] = (cutL y [] l).map S8 → Rep O (s.heap.push { cls := .type "list", data := .seq [Value.str (S8 l) t].toArray }) (.ref s.heap.objs.size) (.lst ((cutL y [] l).map .str)) := fun he => by
       cases hq : cutL y [] l with
       | nil => rw [hq] at he; cases he
       | cons a r =>
         rw [hq] at he
         cases r with
         | cons b r => cases he
         | nil =>
           have : l = a := by
             have h3 := congrArg (List.map fun x : PySem.Str => x.cps.toList) he
             simpa using h3
           subst this
           exact .lst hfresh (isList_push _ _) (.cons .str .nil)
     cases h1 : (decide ((S8 l).length < (S8 y).length) || decide (Builtin.Str.strKind (S8 l) < Builtin.Str.strKind (S8 y)))
     · rw [if_neg (ne_true_of_eq_false h1)] at hs
       cases hf : (occurrences (S8 l) (S8 y) 0 (S8 l).length ((S8 l).length + 1)).isEmpty
       · rw [if_neg (ne_true_of_eq_false hf)] at hs
         refine call_meets F.slot_str_split (typeIs_str _ _ _) F.entry_str_split (F.args_str_split_2 _ _) (meets_str_split_sep (S8 l) (S8 y) t u h1 hyl hf (by rw [S8_len]; exact ar267 hsz) (by rw [hp, List.length_map]; exact ar462 hc hsz)) ?_
         refine q _ _ _ (ext_push _ _) (.lst hfresh (isList_push _ _) ?_)
         rw [hp]
         exact strsFrom_reps _ _
       · rw [if_pos hf] at hs
         refine call_meets F.slot_str_split (typeIs_str _ _ _) F.entry_str_split (F.args_str_split_2 _ _) (meets_str_split_not_found (S8 l) (S8 y) t u h1 hyl hf) ?_
         exact q _ _ s.toks (ext_push _ _) (one hs)
     · rw [if_pos h1] at hs
       refine call_meets F.slot_str_split (typeIs_str _ _ _) F.entry_str_split (F.args_str_split_2 _ _) (meets_str_split_cannot_occur (S8 l) (S8 y) t u h1) ?_
       exact q _ _ s.toks (ext_push _ _) (one hs)
end
def EvK (prog : Program) (w : World) (C : Cfg) (N : Nat) (r : Bool) (σ : Loc) (e : Expr) (d : D) : Prop :=
 ∀ (s : Shared) m O (Q : Value → Shared → Prop) (E : Value → Shared → Prop), N ≤ s.toks → StX C m O σ s.heap →
   (∀ v h' tk, N ≤ tk → Ext s.heap h' → Rep (if r then C.O₀ else O) h' v d → Q v { s with heap := h', toks := tk }) → wpAny (model prog w) C.A (eval e C.env) Q E s
section
variable {prog : Program} {w : World} {hB : Heap} {mg mb : Str → Option Value} {C : Cfg} {n N : Nat} {σ σ' σ'' : Loc} {m : Str → Option Value} {O : List Addr} {h h' : Heap} {r : Bool} {Φ Ψ : Fl → Loc → Prop} {rest : List Stmt}
theorem evK_of {e : Expr} {d : D} (h : Ev prog w C r σ e d) : EvK prog w C N r σ e d := fun s m O Q E hn S q =>
 wpAny_with_toks hn (h s m O _ _ S fun v h' tk x hr ht => q v h' tk ht x hr)
theorem evN_ofK {e : Expr} {d : D} (h : EvK prog w C N r σ e d) : EvN prog w C N r σ e d := fun s m O Q E hn S q => wpQ_of (h s m O Q E hn S q)
theorem evK_eq {e : Expr} {a b : D} (h : EvK prog w C N r σ e a) (q : a = b) : EvK prog w C N r σ e b := q ▸ h
theorem evK_replace (K : Ok prog w hB mg mb C n) {pl : Env → Sem Bool} {o : Expr} {ap pos p1 p2 : Pos} {k1 k2} {A B : Str} {l a b : List Nat} (hN : 1 ≤ N) (h0 : EvK prog w C N r σ o (.str l)) (ha : A = S8 a) (hb : B = S8 b) (hab : a ≠ b) (hne : a ≠ [])
   (hsz : l.length + (l.length + 1) * b.length ≤ 16777216)
   (hs : ∀ env, starEach [.Constant (.str A) k1 p1, .Constant (.str B) k2 p2] env = (false, eval (.Constant (.str A) k1 p1) env) :: starEach [.Constant (.str B) k2 p2] env := by intro _; rfl)
   (hs2 : ∀ env, starEach [.Constant (.str B) k2 p2] env = (false, eval (.Constant (.str B) k2 p2) env) :: starEach [] env := by intro _; rfl)
   (hm : ∀ env, eval (.Call (.Attribute o "replace" ap) [.Constant (.str A) k1 p1, .Constant (.str B) k2 p2] [] pos) env = (do let ov ← eval o env; standAt ap.atName; let (f, first) ← holding [ov] (getMethod ov "replace" (pl env)); callWith pos f first (backTo pos (starEach [.Constant (.str A) k1 p1, .Constant (.str B) k2 p2] env)) []) := by intro _; rfl) :
   EvK prog w C N r σ (.Call (.Attribute o "replace" ap) [.Constant (.str A) k1 p1, .Constant (.str B) k2 p2] [] pos) (.str (replL l a b)) := fun s m O Q E hn S q => by
 subst ha hb
 refine MethodCall_ (pl := pl C.env) (h0 s m O _ E hn S fun v h₁ t₁ ht₁ x₁ rv => ?_) (hm _)
 cases rv with | @str _ t =>
 refine getMethod_builtin (typeIs_str _ _ _) F.plainAttrs_str F.slot_str_replace F.type_str_replace (fun _ e => nomatch e) ?_
 refine callWith_method1 (args_cons (wpAny_Constant_str (args_cons (wpAny_Constant_str (args_nil ?_)) (hs2 _))) (hs _)) (hs _) rfl
 refine wpAny_with_toks (n := N) (show N ≤ t₁ + 1 + 1 by exact ar311 ht₁) (SC.replace (x := S8 l) (show t₁ ≠ 0 by exact ar220 hN ht₁) (show t₁ + 1 ≠ 0 by exact ar173) (show t₁ ≠ t₁ + 1 by exact ar181) (by rw [str_beq]; exact beq_eq_false_iff_ne.mpr hab) (by rw [S8_len, S8_len]; exact hsz) fun t' k hk => ?_)
 rw [replace_list _ _ _ hne]
 exact q _ _ k hk x₁ .str
end
end
section
open Builtin Builtin.Str
def EvTok (prog : Program) (w : World) (C : Cfg) (N : Nat) (σ : Loc) (e : Expr) (l : List Nat) : Prop :=
 ∀ (s : Shared) m O (Q : Value → Shared → Prop) (E : Value → Shared → Prop), N ≤ s.toks → StX C m O σ s.heap →
   (∀ t h' tk, N ≤ t → t < tk → Ext s.heap h' → Q (.str (S8 l) t) { s with heap := h', toks := tk }) → wpAny (model prog w) C.A (eval e C.env) Q E s
section
variable {prog : Program} {w : World} {hB : Heap} {mg mb : Str → Option Value} {C : Cfg} {n N : Nat} {σ σ' σ'' : Loc} {m : Str → Option Value} {O : List Addr} {h h' : Heap} {r : Bool} {Φ Ψ : Fl → Loc → Prop} {rest : List Stmt}
theorem evK_meth (K : Ok prog w hB mg mb C n) {pl : Env → Sem Bool} {o : Expr} {name : Str} {T id : String} {ap pos : Pos} {e : Expr} {es : List Expr} {ds : List D} {d₀ d : D} (hT : HasT T d₀) (pa : PlainAttrs T) (slot : Slot T name id) (hty : typeOf (.builtin id) = pure (.type "method_descriptor"))
   (h0 : EvK prog w C N r σ o d₀) (h1 : EvA prog w C r σ pos (e :: es) ds) (h2 : FnV prog w hB (.builtin id) (d₀ :: ds) d 0)
   (hs : ∀ env, starEach (e :: es) env = (false, eval e env) :: starEach es env := by intro _; rfl) (hpl : ∀ env, (List.any (backTo pos (starEach es env)) fun x => x.1) = false := by intro _; rfl)
   (hm : ∀ env, eval (.Call (.Attribute o name ap) (e :: es) [] pos) env = (do let ov ← eval o env; standAt ap.atName; let (f, first) ← holding [ov] (getMethod ov name (pl env)); callWith pos f first (backTo pos (starEach (e :: es) env)) []) := by intro _; rfl) :
   EvK prog w C N r σ (.Call (.Attribute o name ap) (e :: es) [] pos) d := fun s m O Q E hn S q => by
 refine wpAny_with_toks hn (MethodCall_ (pl := pl C.env) (h0 s m O _ _ hn S fun v h₁ t₁ ht₁ x₁ rv => ?_) (hm _))
 have S₁ := S.ext' K x₁
 refine getMethod_builtin (hT _ { s with heap := h₁, toks := t₁ } v rv).1 pa slot hty (hT _ { s with heap := h₁, toks := t₁ } v rv).2 ?_
 refine callWith_method1 (h1 _ m O _ _ S₁ fun vs h₂ t₂ x₂ rs => ?_) (hs _) (hpl _)
 have S₂ := S₁.ext' K x₂
 exact h2 _ _ (OR C r O) (v :: vs) _ _ (K.R.le (Nat.zero_le _)) (S₂.base K) (S₂.own' K) (.cons (rv.ext x₂) rs) fun v h'' tk' x' hr ht => q v h'' tk' ht ((x₁.trans x₂).trans x') hr
theorem itN_lst (K : Ok prog w hB mg mb C n) {e : Expr} {ds : List D} (h1 : EvK prog w C N false σ e (.lst ds)) : ItN prog w C N σ e ds := fun s m O Q E hN S q =>
 h1 s m O _ E hN S fun v h₁ t₁ ht₁ x₁ hr => by
   have S₁ := S.ext' K x₁
   cases hr with
   | @lst ax vs _ hO hp hrs =>
     refine wpAny_pyIter_list hp.isList ?_
     have hp' := ext_push h₁ { cls := .type "list_iterator", data := .fields #[.ref ax, .int 0 0] }
     have hax : ax ≠ h₁.objs.size := by obtain ⟨k, e⟩ := hp; exact Nat.ne_of_lt (Heap.lt_size e)
     have hlen : vs.toArray.size = ds.length := by rw [List.size_toArray, hrs.length]
     have W := Walks.list (prog := prog) (w := w) K.R.handled h₁.objs.size ax hax vs.toArray
     rw [hlen] at W
     refine q _ _ _ _ _ _ _ ht₁ (x₁.trans hp') W ⟨⟨_, Heap.get?_push_size _ rfl, rfl, rfl⟩, (hp.at fun o e => hp' _ o e).isList⟩ (List.mem_singleton.mpr rfl) (fun b hb => ?_) (fun b hb => ?_) (fun b hb => ?_) (fun i h st b hb => ?_) fun i v hv => ?_
     · rcases List.mem_cons.mp hb with rfl | hb
       · exact (S₁.own' (r := false) K).fresh (get_size _)
       · rw [List.mem_singleton.mp hb]; exact hO
     · rcases List.mem_cons.mp hb with rfl | hb
       · exact ⟨_, Heap.get?_push_size _ rfl, fun hn => absurd (List.mem_singleton.mpr rfl) hn⟩
       · rw [List.mem_singleton.mp hb]; obtain ⟨k, e⟩ := hp; exact ⟨_, hp' _ _ e, fun _ => .inr (.inl rfl)⟩
     · rw [List.mem_singleton.mp hb]
       cases e : s.heap.get? h₁.objs.size with
       | none => rfl
       | some o => exact absurd (Heap.lt_size (x₁ _ _ e)) (Nat.lt_irrefl _)
     · rw [List.mem_singleton.mp hb]
       obtain ⟨o, ho, hc, _⟩ := st.1
       exact ⟨o, ho, _, by simp [itCls], hc⟩
     · obtain ⟨d, hd, hrd⟩ := hrs.get' (i := i) (by simpa using hv)
       exact ⟨d, hd, hrd.ext hp'⟩
theorem ev_untok {e : Expr} {l : List Nat} {t : Tok} (h : Ev prog w C r σ e (.tstr l t)) : Ev prog w C r σ e (.str l) := fun s m O Q E S q => h s m O Q E S fun v h' tk x hr => q v h' tk x (by cases hr; exact .str)
theorem evK_replaceV (K : Ok prog w hB mg mb C n) (NB : NoneBooked hB) {pl : Env → Sem Bool} {o : Expr} {ap pos p1 p2 : Pos} {k1} {A y : Str} {l a b : List Nat} {u : Tok} (hN : 1 ≤ N) (h0 : EvK prog w C N r σ o (.str l)) (ha : A = S8 a)
   (hy : σ.lookup y = some (.v (.tstr b u))) (hly : C.loc y = true) (hu : u ≠ 0) (huN : u < N) (hne : a ≠ [])
   (hsz : l.length + (l.length + 1) * b.length ≤ 16777216) (hd : (y == ("__debug__" : Str)) = false := by decide)
   (hs : ∀ env, starEach [.Constant (.str A) k1 p1, .Name y p2] env = (false, eval (.Constant (.str A) k1 p1) env) :: starEach [.Name y p2] env := by intro _; rfl)
   (hs2 : ∀ env, starEach [.Name y p2] env = (false, eval (.Name y p2) env) :: starEach [] env := by intro _; rfl)
   (hm : ∀ env, eval (.Call (.Attribute o "replace" ap) [.Constant (.str A) k1 p1, .Name y p2] [] pos) env = (do let ov ← eval o env; standAt ap.atName; let (f, first) ← holding [ov] (getMethod ov "replace" (pl env)); callWith pos f first (backTo pos (starEach [.Constant (.str A) k1 p1, .Name y p2] env)) []) := by intro _; rfl) :
   EvK prog w C N r σ (.Call (.Attribute o "replace" ap) [.Constant (.str A) k1 p1, .Name y p2] [] pos) (.str (replL l a b)) := fun s m O Q E hn S q => by
 subst ha
 refine MethodCall_ (pl := pl C.env) (h0 s m O _ E hn S fun v h₁ t₁ ht₁ x₁ rv => ?_) (hm _)
 have S₁ := S.ext' K x₁
 cases rv with | @str _ t =>
 refine getMethod_builtin (typeIs_str _ _ _) F.plainAttrs_str F.slot_str_replace F.type_str_replace (fun _ e => nomatch e) ?_
 obtain ⟨v', hv', rv'⟩ := S₁.ents y _ hy
 cases rv'
 refine callWith_method1 (args_cons (wpAny_Constant_str (args_cons (wpAny_Name (K.H.load _ m y _ _ _ S₁.fr hly hv' (args_nil ?_)) hd) (hs2 _))) (hs _)) (hs _) rfl
 refine wpAny_with_toks (n := N) (show N ≤ t₁ + 1 by exact ar312 ht₁) (SC.replaceA (x := S8 l) (show t₁ ≠ 0 by exact ar220 hN ht₁) hu (Nat.ne_of_gt (Nat.lt_of_lt_of_le huN ht₁)) (by rw [S8_len]; show _ + _ * (S8 b).length ≤ _; rw [S8_len]; exact hsz) (fun t' k hk => ?_) ?_)
 · rw [show (⟨b.toArray⟩ : PySem.Str) = S8 b from rfl, replace_list _ _ _ hne]
   exact q _ _ k hk x₁ .str
 · obtain ⟨mc, hns, hk⟩ := NB
   exact ⟨mc, hns.keeps (S₁.base K), hk⟩
theorem wpN_assignTok (K : Ok prog w hB mg mb C n) {x : Str} {e : Expr} {p pos} {l : List Nat} (h1 : EvTok prog w C N σ e l) (h2 : ∀ t N', N ≤ t → t < N' → WpN prog w C N' ((x, .v (.tstr l t)) :: σ) rest Φ) (hl : C.loc x = true) (hn : noApp x σ = true)
   (hs : swapsWith e (some (.Name x p)) pos.line C.env = pure false := by rfl) : WpN prog w C N σ (.Assign [.Name x p] e pos :: rest) Φ := fun s m O Q E hN S q =>
 wpQ_execs_cons (wpQ_Assign_Name (hs := hs) (wpQ_of (h1 s m O _ E hN S fun t h' tk ht0 htk x' => wpQ_with_toks (n := tk) (Nat.le_refl tk) (wpQ_of (storeV K (S.ext' K x') (.tstr (l := l) (t := t)) hl hn fun m' h'' tk' S'' hk ht' =>
   h2 t tk ht0 htk _ m' O Q E ht' S'' fun f φ σ' h3 tk3 m3 O3 ht3 hp hf S3 g => q f φ σ' h3 tk3 m3 O3 (Nat.le_trans (Nat.le_of_lt (Nat.lt_of_le_of_lt ht0 htk)) ht3) hp hf S3 (((Grow.ext x').trans ⟨hk, fun _ h => h, fun _ h => .inl h⟩).trans g))))))
theorem evTok_pick3 (K : Ok prog w hB mg mb C n) {i : Expr} {lp pos p1 p2 p3 : Pos} {k1 k2 k3} {A₁ A₂ A₃ : Str} {a₁ a₂ a₃ l : List Nat} {k : Nat} (e1 : A₁ = S8 a₁) (e2 : A₂ = S8 a₂) (e3 : A₃ = S8 a₃) (hi : Ev prog w C true σ i (.int k)) (hk : [a₁, a₂, a₃][k]? = some l)
   (hs1 : ∀ env, starEach [.Constant (.str A₁) k1 p1, .Constant (.str A₂) k2 p2, .Constant (.str A₃) k3 p3] env = (false, eval (.Constant (.str A₁) k1 p1) env) :: starEach [.Constant (.str A₂) k2 p2, .Constant (.str A₃) k3 p3] env := by intro _; rfl)
   (hs2 : ∀ env, starEach [.Constant (.str A₂) k2 p2, .Constant (.str A₃) k3 p3] env = (false, eval (.Constant (.str A₂) k2 p2) env) :: starEach [.Constant (.str A₃) k3 p3] env := by intro _; rfl)
   (hs3 : ∀ env, starEach [.Constant (.str A₃) k3 p3] env = (false, eval (.Constant (.str A₃) k3 p3) env) :: starEach [] env := by intro _; rfl) :
   EvTok prog w C N σ (.Subscript (.List [.Constant (.str A₁) k1 p1, .Constant (.str A₂) k2 p2, .Constant (.str A₃) k3 p3] lp) i pos) l := fun s m O Q E hn S q => by
 subst e1 e2 e3
 refine Subscript_ (List_ (args_cons (wpAny_Constant_str (args_cons (wpAny_Constant_str (args_cons (wpAny_Constant_str (args_nil ?_)) (hs3 _))) (hs2 _))) (hs1 _)))
 refine wpAny_newObj_type ?_ (by show 3 ≤ sizeLine; decide)
 have hx := ext_push s.heap { cls := .type "list", data := .seq [Value.str (S8 a₁) s.toks, Value.str (S8 a₂) (s.toks + 1), Value.str (S8 a₃) (s.toks + 1 + 1)].toArray }
 have hp := isList_push s.heap [Value.str (S8 a₁) s.toks, Value.str (S8 a₂) (s.toks + 1), Value.str (S8 a₃) (s.toks + 1 + 1)]
 refine wpAny_with_toks (n := s.toks + 1 + 1 + 1) (Nat.le_refl _) (hi _ m O _ _ (S.ext' K hx) fun v h₂ t₂ x₂ rv ht₂ => ?_)
 cases rv
 have hp2 := hp.at fun o e => x₂ _ o e
 have ht₃ : s.toks + 1 + 1 + 1 ≤ t₂ := ht₂
 clear ht₂
 refine tail_of hp2.isList.typeIs slot_list_getitem.lookup ?_
 have hk3 : k < 3 := by
   have := (List.getElem?_eq_some_iff.mp hk).1; simpa using this
 have fin : ∀ t, s.toks ≤ t → t < s.toks + 3 → Q (.str (S8 l) t) { s with heap := h₂, toks := t₂ } := fun t h1 h2 => q t h₂ t₂ (by exact ar470 hn h1) (by exact ar382 ht₃ h2) (hx.trans x₂)
 refine wpAny_getItem_list hp2.isList (by exact ar163) (by exact ar85 hk3) (x := match k with | 0 => .str (S8 a₁) s.toks | 1 => .str (S8 a₂) (s.toks + 1) | _ => .str (S8 a₃) (s.toks + 1 + 1)) ?_ ?_
 · rw [Int.toNat_natCast]
   match k, hk3 with
   | 0, _ => rfl
   | 1, _ => rfl
   | 2, _ => rfl
 · match k, hk3, hk with
   | 0, _, hk => cases hk; exact fin _ (by exact ar186) (by exact ar178)
   | 1, _, hk => cases hk; exact fin _ (by exact ar184) (by exact ar171)
   | 2, _, hk => cases hk; exact fin _ (by exact ar183) (by exact ar151)
end
end
section
noncomputable def cCfg (A : Around) (env : Env) (scope : Scope) (cl : List (Str × Addr)) (Ca : Addr) (hB : Heap) : Cfg where
 A := A
 env := compEnvC scope cl Ca env
 h₀ := hB
 O₀ := []
 fp := Ca :: cl.map (·.2)
 FR := fun m h => Ext hB h ∧ (∃ ml, h.Ns Ca ml ∧ ∀ y v, (compEnvC scope cl Ca env).kindOf y = some .local → m y = some v → ml y = some v) ∧ ∀ y c, (y, c) ∈ cl → h.IsCell c (m y)
 loc := fun x => decide ((compEnvC scope cl Ca env).kindOf x = some .local) || (decide ((compEnvC scope cl Ca env).kindOf x = some .cell) && (cl.lookup x).isSome)
theorem mem_lookup {β : Type} {x : Str} {c : β} : ∀ {l : List (Str × β)}, l.lookup x = some c → (x, c) ∈ l
 | [], h => by cases h
 | (k, v) :: r, h => by
   rw [List.lookup_cons] at h
   split at h
   · rename_i hk; cases h; rw [beq_iff_eq.mp hk]; exact .head _
   · exact .tail _ (mem_lookup h)
theorem cCfg_ok {prog : Program} {w : World} {A : Around} {env : Env} {scope : Scope} {cl : List (Str × Addr)} {Ca : Addr} {hB : Heap} (hk : scope.kind = .function) (hC : Ca ∉ cl.map (·.2)) (hap : ∀ y y' c c', (y, c) ∈ cl → (y', c') ∈ cl → (y = y' ↔ c = c')) (hck : ∀ y c, (y, c) ∈ cl → (compEnvC scope cl Ca env).kindOf y = some .cell)
   (hnC : hB.get? Ca = none) (hnc : ∀ y c, (y, c) ∈ cl → hB.get? c = none) : CfgOk prog w (cCfg A env scope cl Ca hB) where
 keep := fun m h F => F.1
 alive := fun m h F a ha => by
   rcases List.mem_cons.mp ha with rfl | ha
   · obtain ⟨_, ⟨ml, ⟨o, _, _, e, _⟩, _⟩, _⟩ := F; exact ⟨o, e⟩
   · obtain ⟨⟨y, c⟩, hm, rfl⟩ := List.mem_map.mp ha
     obtain ⟨o, e, _⟩ := F.2.2 y c hm
     exact ⟨o, e⟩
 new := fun a ha => by
   rcases List.mem_cons.mp ha with rfl | ha
   · exact hnC
   · obtain ⟨⟨y, c⟩, hm, rfl⟩ := List.mem_map.mp ha
     exact hnc y c hm
 old := fun a ha => by cases ha
 move := fun m h h' F hfp hx => by
   obtain ⟨_, ⟨ml, hns, hml⟩, hcs⟩ := F
   refine ⟨hx, ⟨ml, hns.at' fun o e => hfp Ca (.head _) o e, hml⟩, fun y c hm => ?_⟩
   obtain ⟨o, e, hd⟩ := hcs y c hm
   exact ⟨o, hfp c (.tail _ (List.mem_map.mpr ⟨(y, c), hm, rfl⟩)) o e, hd⟩
 load := fun s m x v Q E F hl hv q => by
   obtain ⟨_, ⟨ml, hns, hml⟩, hcs⟩ := F
   have hl' : (decide ((compEnvC scope cl Ca env).kindOf x = some .local) || (decide ((compEnvC scope cl Ca env).kindOf x = some .cell) && (cl.lookup x).isSome)) = true := hl
   rw [Bool.or_eq_true, Bool.and_eq_true, decide_eq_true_eq, decide_eq_true_eq] at hl'
   rcases hl' with h1 | ⟨h1, h2⟩
   · exact wpAny_loadName_local (by show (relabel scope env).kind = _; exact hk) h1 hns (hml x v h1 hv) q
   · obtain ⟨c, hc⟩ := Option.isSome_iff_exists.mp h2
     exact wpAny_loadName_cell (env := compEnvC scope cl Ca env) (by show (relabel scope env).kind = _; exact hk) h1 hc (hv ▸ hcs x c (mem_lookup hc)) q
 store := fun s m x v Q E F hl q => by
   obtain ⟨hx, ⟨ml, hns, hml⟩, hcs⟩ := F
   have hl' : (decide ((compEnvC scope cl Ca env).kindOf x = some .local) || (decide ((compEnvC scope cl Ca env).kindOf x = some .cell) && (cl.lookup x).isSome)) = true := hl
   rw [Bool.or_eq_true, Bool.and_eq_true, decide_eq_true_eq, decide_eq_true_eq] at hl'
   have hk' : (relabel scope env).kind = .function := hk
   rcases hl' with h1 | ⟨h1, h2⟩
   · refine wpAny_storeName_local h1 hns (fun h' hn' hs' => q h' _ ⟨fun b o e => hs'.extBut b o (fun hb => by subst hb; rw [hnC] at e; cases e) (hx b o e), ⟨_, hn', fun y u hy hu => ?_⟩, fun y c hm => ?_⟩ fun b o hb e => hs'.extBut b o (fun hb' => hb (hb' ▸ .head _)) e) ?_
     · dsimp only at hu ⊢
       split at hu <;> rename_i h3
       · rw [if_pos h3]; exact hu
       · rw [if_neg h3]; exact hml y u hy hu
     · by_cases hyx : y = x
       · subst hyx
         have h3 : (compEnvC scope cl Ca env).kindOf y = some .local := h1
         rw [hck y c hm] at h3; cases h3
       · simp only [if_neg hyx]
         refine (hcs y c hm).sameBut hs' fun e => hC ?_
         have e' : c = Ca := e
         exact e' ▸ List.mem_map.mpr ⟨(y, c), hm, rfl⟩
     · show ((relabel scope env).kind == .class || ((relabel scope env).kind == .module && _)) = false
       rw [hk']; rfl
   · obtain ⟨c, hc⟩ := Option.isSome_iff_exists.mp h2
     have hcm := mem_lookup hc
     refine wpAny_storeName_cell (env := compEnvC scope cl Ca env) hk' h1 hc (hcs x c hcm) fun h' hv' hs' => q h' _ ⟨fun b o e => hs'.extBut b o (fun hb => by subst hb; rw [hnc x _ hcm] at e; cases e) (hx b o e), ⟨ml, hns.at' fun o e => hs'.extBut Ca o (fun e' => hC (e' ▸ List.mem_map.mpr ⟨(x, c), hcm, rfl⟩)) e, fun y u hy hu => ?_⟩, fun y c' hm => ?_⟩ fun b o hb e => hs'.extBut b o (fun hb' => hb (hb' ▸ .tail _ (List.mem_map.mpr ⟨(x, c), hcm, rfl⟩))) e
     · dsimp only at hu
       split at hu <;> rename_i h3
       · subst h3; rw [h1] at hy; cases hy
       · exact hml y u hy hu
     · by_cases hyx : y = x
       · have : c' = c := (hap y x c' c hm hcm).mp hyx
         subst this
         simp only [if_pos hyx]; exact hv'
       · simp only [if_neg hyx]
         exact (hcs y c' hm).sameBut hs' fun e => hyx ((hap y x c' c hm hcm).mpr e)
end
section
def EvIfs (prog : Program) (w : World) (C : Cfg) (σ : Loc) (ifs : List Expr) (b : Bool) : Prop :=
 ∀ (s : Shared) m O (Q : Bool → Shared → Prop) (E : Value → Shared → Prop), StX C m O σ s.heap →
   (∀ h' tk, Ext s.heap h' → Q b { s with heap := h', toks := tk }) →
   wpAny (model prog w) C.A (forIn ifs true fun c r => if r = true then do let ok ← isTrue c C.env (eval c C.env); pure (ForInStep.yield ok) else pure (ForInStep.yield r)) Q E s
section
variable {prog : Program} {w : World} {hB : Heap} {mg mb : Str → Option Value} {C : Cfg} {n : Nat} {σ σ' σ'' : Loc} {m : Str → Option Value} {O : List Addr} {h h' : Heap} {r : Bool} {Φ Ψ : Fl → Loc → Prop} {rest : List Stmt}
theorem evIfs_nil : EvIfs prog w C σ [] true := fun s m O Q E S q => by
 rw [List.forIn_nil]; exact wpAny_pure (q s.heap s.toks (Ext.refl _))
theorem evIfs_one {e : Expr} {b : Bool} (h1 : EvT prog w C σ e b) : EvIfs prog w C σ [e] b := fun s m O Q E S q => by
 rw [List.forIn_cons]
 refine wpAny_bind ?_
 rw [if_pos rfl]
 refine wpAny_bind (h1 s m O _ E S fun h' tk x => wpAny_pure ?_)
 show wpAny _ _ (forIn [] b _) _ _ _
 rw [List.forIn_nil]
 exact wpAny_pure (q h' tk x)
structure CellsOk (C : Cfg) (hB : Heap) (scope : Scope) (cl : List (Str × Addr)) : Prop where
 uniq : ∀ y y' c c', (y, c) ∈ cl → (y', c') ∈ cl → (y = y' ↔ c = c')
 kind : ∀ Ca y c, (y, c) ∈ cl → (compEnvC scope cl Ca C.env).kindOf y = some .cell
 cell : ∀ m h, C.FR m h → ∀ y c, (y, c) ∈ cl → h.IsCell c (m y)
 fp : ∀ y c, (y, c) ∈ cl → c ∈ C.fp
theorem CellsOk.nil {scope : Scope} : CellsOk C hB scope [] := ⟨fun _ _ _ _ h => (by cases h), fun _ _ _ h => (by cases h), fun _ _ _ _ _ h => (by cases h), fun _ _ h => (by cases h)⟩
inductive CInv {α : Type} (xs : List α) (kp : α → Bool) (g : α → D) (s₂ : Shared) (St : Nat → Heap → Prop) (Dd Ca : Addr) (wr O : List Addr) : Nat → Shared → Prop
 | mk (i : Nat) (h' : Heap) (tk : Nat) (ml : Str → Option Value) (ys : List Value) (hi : i ≤ xs.length) (hst : St i h') (hacc : h'.PlainList Dd ys.toArray) (hys : Reps (Ca :: Dd :: O) h' ys (((xs.take i).filter kp).map g)) (hn : h'.Ns Ca ml)
     (hk : ∀ b o, b ≠ Ca → b ∉ wr → b ≠ Dd → s₂.heap.get? b = some o → h'.get? b = some o) : CInv xs kp g s₂ St Dd Ca wr O (xs.length + 1 - i) { s₂ with heap := h', toks := tk }
theorem comp_core (K : Ok prog w hB mg mb C n) {α : Type} {elt iter : Expr} {x : Str} {px : Pos} {ifs : List Expr} {scope : Scope} {cl : List (Str × Addr)} {pos : Pos} (f g : α → D) (kp : α → Bool) (xs : List α) (τ : Loc)
   {s₂ : Shared} {I : Addr} {fp wr : List Addr} {P : Nat → Value → Prop} {St : Nat → Heap → Prop} {E : Value → Shared → Prop} {RR : Value → Addr → Result → Shared → Prop}
   (S : StX C m O σ s₂.heap) (W : Walks prog w C.A I fp wr xs.length P St) (hst : St 0 s₂.heap) (hfO : ∀ b ∈ fp, b ∉ O) (hfa : ∀ b ∈ fp, ∃ o, s₂.heap.get? b = some o ∧ (b ∉ wr → Stab o))
   (hitr : ∀ i h, St i h → ∀ b ∈ wr, ∃ o, h.get? b = some o ∧ IsItr o) (hP : ∀ i v, P i v → ∃ d, (xs.map f)[i]? = some d ∧ Rep O s₂.heap v d)
   (hwn : ∀ b ∈ wr, hB.get? b = none) (hsz : xs.length ≤ sizeLine) (hcell : ∀ y ∈ scope.names, y.2 ≠ .cell) (hkind : scope.kind = .function) (hx : scope.names.lookup x = some .local)
   (hcl : CellsOk C hB scope cl) (hτ : ∀ y e, τ.lookup y = some e → ∃ d, e = .v d ∧ σ.lookup y = some e ∧ (compEnvC scope cl 0 C.env).kindOf y = some .cell)
   (body : ∀ a ∈ xs, ∀ Ca, Ok prog w hB mg mb (cCfg C.A C.env scope cl Ca hB) n → EvIfs prog w (cCfg C.A C.env scope cl Ca hB) ((x, .v (f a)) :: τ) ifs (kp a) ∧ (kp a = true → Ev prog w (cCfg C.A C.env scope cl Ca hB) false ((x, .v (f a)) :: τ) elt (g a)))
   (hRR : ∀ Dd Ca h' tk ml ys, s₂.heap.get? Dd = none → s₂.heap.get? Ca = none → Dd ≠ Ca → h'.Ns Ca ml → h'.PlainList Dd ys.toArray → Reps (Ca :: Dd :: O) h' ys ((xs.filter kp).map g) → (∀ b o, b ∉ wr → s₂.heap.get? b = some o → h'.get? b = some o) →
     RR (.ref Dd) Ca (.ok .next) { s₂ with heap := h', toks := tk }) :
   wpAny (model prog w) C.A (newList []) (fun acc s₃ => wpAny (model prog w) C.A (newFunctionEnv scope C.env.globals cl [] C.env.qual none .none (some C.env)) (fun cenv s₄ =>
     codeAny (model prog w) C.A (.compStart (.ListComp elt [⟨.Name x px, iter, ifs, 0⟩] scope pos) 0 (.ref I) acc { cenv with scope := relabel scope C.env }) (RR acc cenv.locals) s₄) E s₃) E s₂ := by
 refine wpAny_newObj_type (wpAny_newFunctionEnv hcell (by intro y hy; simp at hy) (fun h₁ hns₁ hsb₁ => ?_) hkind)
 dsimp only at hns₁ hsb₁ ⊢
 generalize hH2 : s₂.heap.push { cls := .type "list", dict := none, data := .seq ([] : List Value).toArray } = H2 at hns₁ hsb₁ ⊢
 have hC : H2.objs.size = s₂.heap.objs.size + 1 := by rw [← hH2, Heap.size_push]
 have below : ∀ b, b < s₂.heap.objs.size → b ≠ H2.objs.size ∧ b ≠ s₂.heap.objs.size := fun b hb => ⟨by rw [hC]; exact Nat.ne_of_lt (Nat.lt_succ_of_lt hb), Nat.ne_of_lt hb⟩
 have old : ∀ b o, s₂.heap.get? b = some o → h₁.get? b = some o := fun b o e => hsb₁.extBut b o (below b (Heap.lt_size e)).1 (Heap.get?_push_of_some _ (hH2 ▸ Heap.get?_push_of_some _ e))
 have hDC0 : s₂.heap.objs.size ≠ H2.objs.size := by rw [hC]; exact Nat.ne_of_lt (Nat.lt_succ_self _)
 have hacc : h₁.PlainList s₂.heap.objs.size #[] := ⟨_, hsb₁.extBut _ _ hDC0 (Heap.get?_push_of_some _ (hH2 ▸ Heap.get?_push_size _ rfl))⟩
 have fresh : ∀ a, s₂.heap.objs.size ≤ a → s₂.heap.get? a = none := fun a ha => none_of fun o' e => Nat.not_lt.mpr ha (Heap.lt_size e)
 have hDn : s₂.heap.get? s₂.heap.objs.size = none := fresh _ (Nat.le_refl _)
 have hCn : s₂.heap.get? H2.objs.size = none := fresh _ (by rw [hC]; exact Nat.le_succ _)
 generalize s₂.heap.objs.size = Dd at *
 generalize H2.objs.size = Ca at *
 have hBs := S.base K
 have hOwn := S.own' (r := false) K
 have hDO : Dd ∉ O := hOwn.fresh hDn
 have hCO : Ca ∉ O := hOwn.fresh hCn
 have hDf : Dd ∉ fp := fun hm => (hfa _ hm).elim fun o e => nos hDn e.1
 have hCf : Ca ∉ fp := fun hm => (hfa _ hm).elim fun o e => nos hCn e.1
 have hCw : Ca ∉ wr := fun h => hCf (W.sub _ h)
 have hDw : Dd ∉ wr := fun h => hDf (W.sub _ h)
 have hBn : ∀ a, s₂.heap.get? a = none → hB.get? a = none := fun a h0 => none_of fun o e => nos h0 (hBs a o e)
 have hcO : ∀ y c, (y, c) ∈ cl → c ∈ O := fun y c hm => S.fin c (hcl.fp y c hm)
 have hcC : Ca ∉ cl.map (·.2) := fun hm => by
   obtain ⟨⟨y, c⟩, hm, e⟩ := List.mem_map.mp hm
   exact hCO (e ▸ hcO y c hm)
 have HC : CfgOk prog w (cCfg C.A C.env scope cl Ca hB) := cCfg_ok hkind hcC hcl.uniq (hcl.kind Ca) (hBn _ hCn) fun y c hm => hOwn.new c (hcO y c hm)
 have KC : Ok prog w hB mg mb (cCfg C.A C.env scope cl Ca hB) n := {
   H := HC
   G := ⟨Ext.refl _, K.G.globals, K.G.builtins, hkind⟩
   O₀ := ⟨fun a ha => (by cases ha), fun a ha => (by cases ha)⟩
   B := K.B
   R := K.R }
 have hxl : (compEnvC scope cl Ca C.env).kindOf x = some .local := lookup_relabel_local hx
 have hst0 : ∀ (hh : Heap), (∀ b o, b ≠ Ca → b ∉ wr → b ≠ Dd → s₂.heap.get? b = some o → hh.get? b = some o) → ∀ b o, s₂.heap.get? b = some o → Stab o → hh.get? b = some o := fun hh hk b o e hs => by
   refine hk b o (fun q => nos hCn (q ▸ e)) (fun hb => ?_) (fun q => nos hDn (q ▸ e)) e
   exact (hitr 0 _ hst b hb).elim fun o' y => y.2.notStab (Option.some.inj (e.symm.trans y.1) ▸ hs)
 have hOO : ∀ a ∈ Ca :: Dd :: O, a ∈ O ∨ s₂.heap.get? a = none := fun a ha => (List.mem_cons.mp ha).elim (fun e => .inr (e ▸ hCn)) fun ha => (List.mem_cons.mp ha).elim (fun e => .inr (e ▸ hDn)) .inl
 have mkS : ∀ (hh : Heap) (mm : Str → Option Value) (v : Value) (d : D), hh.Ns Ca mm → mm x = some v → Rep (Ca :: Dd :: O) hh v d → (∃ o, hh.get? Dd = some o) → (∀ b o, b ≠ Ca → b ∉ wr → b ≠ Dd → s₂.heap.get? b = some o → hh.get? b = some o) →
     StX (cCfg C.A C.env scope cl Ca hB) (fun y => if y = x then some v else if (compEnvC scope cl Ca C.env).kindOf y = some .cell then m y else none) (Ca :: Dd :: O) ((x, .v d) :: τ) hh := by
   intro hh mm v d hns hmx hr hD hk
   have hkO : ∀ b o, b ∈ O → s₂.heap.get? b = some o → hh.get? b = some o := fun b o hb e => hk b o (fun q => hCO (q ▸ hb)) (fun hw => hfO b (W.sub b hw) hb) (fun q => hDO (q ▸ hb)) e
   have hkB : Ext hB hh := fun b o e => by
     refine hk b o (fun q => ?_) (fun hw => ?_) (fun q => ?_) (hBs b o e)
     · exact nos (hBn _ hCn) (q ▸ e)
     · exact nos (hwn b hw) e
     · exact nos (hBn _ hDn) (q ▸ e)
   refine ⟨⟨hkB, ⟨mm, hns, fun y u hy hu => ?_⟩, fun y c hm => ?_⟩, fun a ha => (by cases ha), fun a ha => ?_, fun a ha => ?_, fun a ha => .inr ?_, fun y e hy => ?_, fun y z e e' a hne hy hz h1 h2 => ?_⟩
   · dsimp only at hu
     split at hu <;> rename_i h3
     · subst h3; rw [hmx]; exact hu
     · split at hu <;> rename_i h4
       · rw [h4] at hy; cases hy
       · cases hu
   · have hyc := hcl.kind Ca y c hm
     have hyx : y ≠ x := fun q => by subst q; rw [hxl] at hyc; cases hyc
     dsimp only
     rw [if_neg hyx, if_pos hyc]
     obtain ⟨o, e, hd⟩ := hcl.cell m _ S.fr y c hm
     exact ⟨o, hkO c o (hcO y c hm) e, hd⟩
   · rcases List.mem_cons.mp ha with rfl | ha
     · exact .head _
     · obtain ⟨⟨y, c⟩, hm, rfl⟩ := List.mem_map.mp ha
       exact .tail _ (.tail _ (hcO y c hm))
   · exact (List.mem_cons.mp ha).elim (fun e => e ▸ hns.imp fun o x => x.elim fun _ x => x.elim fun _ x => x.1) fun ha => (List.mem_cons.mp ha).elim (fun e => e ▸ hD) fun ha => (S.alive a ha).imp fun o e => hkO a o ha e
   · exact (List.mem_cons.mp ha).elim (fun e => hBn _ (e ▸ hCn)) fun ha => (List.mem_cons.mp ha).elim (fun e => hBn _ (e ▸ hDn)) (hOwn.new a)
   · exact (lookup_cases hy).elim (fun q => ⟨v, if_pos q.1, q.2 ▸ hr⟩) fun q => (hτ y e q.2).elim fun d' z => (S.ents y _ z.2.1).imp fun u r =>
       ⟨(if_neg q.1).trans ((if_pos (show (compEnvC scope cl Ca C.env).kindOf y = some .cell from z.2.2)).trans r.1), by
         have ru := r.2
         rw [z.1] at ru ⊢
         exact Rep.moveS hOO (fun b o _ e hs => hst0 hh hk b o e hs) ru⟩
   · exact (lookup_cases hy).elim (fun q => Bool.noConfusion (show Ent.isOwn (.v d) = true from q.2 ▸ h1)) fun q => (hτ y e q.2).elim fun d' z => Bool.noConfusion (show Ent.isOwn (.v d') = true from z.1 ▸ h1)
 have hOrep : ∀ i v (hh : Heap), P i v → (∀ b o, b ≠ Ca → b ∉ wr → b ≠ Dd → s₂.heap.get? b = some o → hh.get? b = some o) → ∃ a, xs[i]? = some a ∧ Rep (Ca :: Dd :: O) hh v (f a) := fun i v hh hv hk => by
   obtain ⟨d, hd, hr⟩ := hP i v hv
   rw [List.getElem?_map, Option.map_eq_some_iff] at hd
   obtain ⟨a, h1, h2⟩ := hd
   exact ⟨a, h1, h2 ▸ Rep.moveS hOO (fun b o _ e hs => hst0 hh hk b o e hs) hr⟩
 have loop : codeAny (model prog w) C.A (.compLoop (.ListComp elt [⟨.Name x px, iter, ifs, 0⟩] scope pos) 0 (.ref I) (.ref Dd) (compEnvC scope cl Ca C.env))
     (RR (.ref Dd) Ca) { s₂ with heap := h₁, toks := s₂.toks + ([] : List (Str × Value)).length } := by
   refine codeAny_compLoop_tests (CInv xs kp g s₂ St Dd Ca wr O) ?_ (xs.length + 1)
     (.mk 0 h₁ _ _ [] (Nat.zero_le _) (W.frame _ _ _ hst fun b _ o e => old b o e) hacc .nil hns₁ fun b o _ _ _ e => old b o e)
   intro k s' I
   cases I with | mk i H tk ml ys hi hst' hacc' hys hn' hk
   have hitI : ∀ b ∈ wr, ∀ o, H.get? b = some o → ¬ Stab o := fun b hb o e hs => (hitr i H hst' b hb).elim fun o' y => y.2.notStab (Option.some.inj (e.symm.trans y.1) ▸ hs)
   by_cases hlt : i < xs.length
   · refine W.item i _ _ _ hlt hst' fun v h₂ t₂ hPv hst₂ hk₂ => ?_
     refine wpAny_assign_Name (wpAny_storeName_local hxl (hn'.at' fun o e => hk₂ _ o hCw e) (fun h₃ hn₃ hs₃ => ?_) (by
       show ((relabel scope C.env).kind == .class || ((relabel scope C.env).kind == .module && _)) = false
       rw [show (relabel scope C.env).kind = .function from hkind]; rfl))
     have hs₃' : Heap.SameBut Ca h₂ h₃ := hs₃
     have up₃ : ∀ b o, b ≠ Ca → b ∉ wr → H.get? b = some o → h₃.get? b = some o := fun b o hbC hbf e => hs₃'.extBut b o hbC (hk₂ b o hbf e)
     have hk₃ : ∀ b o, b ≠ Ca → b ∉ wr → b ≠ Dd → s₂.heap.get? b = some o → h₃.get? b = some o := fun b o h1 h2 h3 e => up₃ b o h1 h2 (hk b o h1 h2 h3 e)
     have hst₃ : St (i + 1) h₃ := W.frame _ _ _ hst₂ fun b hb o e => hs₃'.extBut b o (fun h => hCf (h ▸ hb)) e
     have hacc₃ : h₃.PlainList Dd ys.toArray := hacc'.at fun o e => up₃ Dd o hDC0 hDw e
     have hys₃ : Reps (Ca :: Dd :: O) h₃ ys (((xs.take i).filter kp).map g) := Reps.moveS (fun _ h => .inl h) (fun b o hb e hs => up₃ b o (fun q => hb (q ▸ .head _)) (fun hw => hitI b hw o e hs) e) hys
     obtain ⟨a, ha, hra⟩ := hOrep i v h₃ hPv hk₃
     have htake : xs.take (i + 1) = xs.take i ++ [a] := by rw [List.take_add_one, ha]; rfl
     have S₃ := mkS h₃ _ v (f a) hn₃ (by simp) hra (let ⟨_, e⟩ := hacc₃; ⟨_, e⟩) hk₃
     obtain ⟨b1, b2⟩ := body a (List.mem_of_getElem? ha) Ca KC
     refine b1 _ _ _ _ _ S₃ fun h₄ t₄ x₄ => ?_
     have x₄' : Ext h₃ h₄ := x₄
     have hst₄ : St (i + 1) h₄ := W.frame _ _ _ hst₃ fun b _ o e => x₄' b o e
     have hacc₄ : h₄.PlainList Dd ys.toArray := hacc₃.at fun o e => x₄' _ o e
     have hn₄ := hn₃.keeps x₄'
     have hk₄ : ∀ b o, b ≠ Ca → b ∉ wr → b ≠ Dd → s₂.heap.get? b = some o → h₄.get? b = some o := fun b o h1 h2 h3 e => x₄' b o (hk₃ b o h1 h2 h3 e)
     cases hkp : kp a with
     | false =>
       simp only [Bool.false_eq_true, if_false]
       refine ⟨_, (by exact ar317 hlt : xs.length + 1 - (i + 1) < xs.length + 1 - i), .mk (i + 1) h₄ t₄ _ ys hlt hst₄ hacc₄ ?_ hn₄ hk₄⟩
       rw [htake, List.filter_append, List.filter_cons, hkp]
       simpa using hys₃.ext x₄'
     | true =>
       simp only [if_true]
       refine b2 hkp _ _ _ _ _ (mkS h₄ _ v (f a) hn₄ (by simp) (hra.ext x₄') (let ⟨_, e⟩ := hacc₄; ⟨_, e⟩) hk₄) fun y h₅ t₅ x₅ hry => ?_
       have x₅' : Ext h₄ h₅ := x₅
       have hry' : Rep (Ca :: Dd :: O) h₅ y (g a) := hry
       have hsz5 : ys.toArray.size ≤ sizeLine := by
         rw [List.size_toArray, hys.length, List.length_map]
         have h1 := List.length_filter_le kp (xs.take i)
         rw [List.length_take] at h1; exact ar512 h1 hsz
       refine wpAny_list_append_plain (hsz := hsz5) (hacc₄.at fun o e => x₅' _ o e) fun h₆ hl₆ hs₆ => ?_
       have hs₆' : Heap.SameBut Dd h₅ h₆ := hs₆
       refine ⟨_, (by exact ar317 hlt : xs.length + 1 - (i + 1) < xs.length + 1 - i), .mk (i + 1) h₆ t₅ _ (ys ++ [y]) hlt ?_ (by simpa using hl₆) ?_ ((hn₄.keeps x₅').sameBut hs₆' (Ne.symm hDC0)) fun b o h1 h2 h3 e => hs₆'.extBut b o h3 (x₅' b o (hk₄ b o h1 h2 h3 e))⟩
       · exact W.frame _ _ _ hst₄ fun b hb o e => hs₆'.extBut b o (fun h => hDf (h ▸ hb)) (x₅' b o e)
       · rw [htake, List.filter_append, List.map_append, List.filter_cons, hkp]
         refine Reps.move (fun _ h => .inl h) (fun b o hb e => hs₆'.extBut b o (fun q => hb (q ▸ .tail _ (.head _))) e) ((((hys₃.ext x₄').ext x₅')).append (.cons hry' .nil))
   · have hin : i = xs.length := by exact ar303 hi hlt
     subst hin
     refine W.done _ _ _ hst' fun h₂ t₂ hk₂ => ?_
     rw [List.take_length] at hys
     refine hRR Dd Ca h₂ t₂ ml ys hDn hCn hDC0 (hn'.at' fun o e => hk₂ _ o hCw e) (hacc'.at fun o e => hk₂ _ o hDw e) (Reps.moveS (fun _ h => .inl h) (fun b o hb e hs => hk₂ b o (fun hw => hitI b hw o e hs) e) hys) fun b o hb e => ?_
     exact hk₂ b o hb (hk b o (fun q => nos hCn (q ▸ e)) hb (fun q => nos hDn (q ▸ e)) e)
 exact codeAny_compStart_list loop (W.self 0 _ _ _ (W.frame _ _ _ hst fun b _ o e => old b o e) loop)
end
end
section
section
variable {prog : Program} {w : World} {hB : Heap} {mg mb : Str → Option Value} {C : Cfg} {n : Nat} {σ σ' σ'' : Loc} {m : Str → Option Value} {O : List Addr} {h h' : Heap} {r : Bool} {Φ Ψ : Fl → Loc → Prop} {rest : List Stmt}
theorem ev_comp (K : Ok prog w hB mg mb C n) {α : Type} {elt iter : Expr} {x : Str} {px : Pos} {ifs : List Expr} {scope : Scope} {cl : List (Str × Addr)} {pos : Pos} (f g : α → D) (kp : α → Bool) (xs : List α) (τ : Loc)
   (hit : It prog w C σ iter (xs.map f)) (hclos : closureFor scope C.env = pure cl) (hcl : CellsOk C hB scope cl) (hτ : ∀ y e, τ.lookup y = some e → ∃ d, e = .v d ∧ σ.lookup y = some e ∧ (compEnvC scope cl 0 C.env).kindOf y = some .cell)
   (body : ∀ a ∈ xs, ∀ Ca, Ok prog w hB mg mb (cCfg C.A C.env scope cl Ca hB) n → EvIfs prog w (cCfg C.A C.env scope cl Ca hB) ((x, .v (f a)) :: τ) ifs (kp a) ∧ (kp a = true → Ev prog w (cCfg C.A C.env scope cl Ca hB) false ((x, .v (f a)) :: τ) elt (g a)))
   (hsz : xs.length ≤ sizeLine) (hcell : ∀ y ∈ scope.names, y.2 ≠ .cell) (hkind : scope.kind = .function) (hx : scope.names.lookup x = some .local)
   (hnames : ∀ y ∈ scope.names, y.2 = .local → scope.names.lookup y.1 = some .local)
   (hfs : ∀ x, foldedSetIterable iter C.env x = pure x := by intro _; rfl) :
   Ev prog w C false σ (.ListComp elt [⟨.Name x px, iter, ifs, 0⟩] scope pos) (.lst ((xs.filter kp).map g)) := fun s m O Q E S q => by
 rw [eval_ListComp]
 refine wpAny_comprehension_free (use := none) rfl hfs hclos hkind hnames (wpAny_mono (hit s m O _ E S fun I fp wr P St h₁ t₁ x₁ W st0 hI hfO hfa hwn hitr hP => ?_) (fun _ _ e => e) fun _ _ e => e)
 have S₁ := S.ext' K x₁
 rw [List.length_map] at W
 have hwB : ∀ b ∈ wr, hB.get? b = none := fun b hb => by
   cases e : hB.get? b with
   | none => rfl
   | some o => have h3 := hwn b hb; rw [S.base K b o e] at h3; cases h3
 refine comp_core (RR := fun acc Ca => compPost (model prog w) C.A E none Q acc Ca) K f g kp xs τ S₁ W st0 hfO hfa hitr hP hwB hsz hcell hkind hx hcl hτ body fun Dd Ca h₂ t₂ ml ys hD hC hDC hns hpl hys hk => ⟨ml, hns, fun h₃ hs₃ => ?_⟩
 have hOwn := S₁.own' (r := false) K
 refine q _ h₃ t₂ (fun b o e => ?_) (.lst (hOwn.fresh hD) (hpl.at fun o e => hs₃.extBut _ o hDC e) (Reps.move (O' := O) (fun a ha => .inl (.tail _ (.tail _ ha))) (fun b o hb e => hs₃.extBut b o (fun q => hb (q ▸ .head _)) e) hys))
 refine hs₃.extBut b o (fun q => ?_) (hk b o (fun hw => ?_) (x₁ b o e))
 · rw [q] at e; have := x₁ _ _ e; rw [hC] at this; cases this
 · have h3 := hwn b hw; rw [e] at h3; cases h3
theorem StX.setG (K : Ok prog w hB mg mb C n) {y : Str} {u : Value} {e : Ent} {O' wr : List Addr} (S : StX C m O σ h) (hO : ∀ a ∈ O, a ∈ O') (hnew : ∀ a ∈ O', a ∈ O ∨ (h.get? a = none ∧ ∃ o, h'.get? a = some o))
   (hF : C.FR (upd m y u) h') (hk : ∀ b o, b ∉ C.fp → b ∉ wr → h.get? b = some o → h'.get? b = some o) (hwO : ∀ b ∈ wr, b ∉ O) (hst : ∀ b ∈ wr, ∀ o, h.get? b = some o → ¬ Stab o)
   (hr : ERep C O' (upd m y u) h' u e) (hown : e.isOwn = true → ∃ a, u = .ref a ∧ a ∉ O) (hn : noApp y σ = true) : StX C (upd m y u) O' ((y, e) :: σ) h' := by
 have hO2 : ∀ a ∈ O', a ∈ O ∨ h.get? a = none := fun a ha => (hnew a ha).imp id (·.1)
 have hkS : ∀ b o, b ∉ O → h.get? b = some o → Stab o → h'.get? b = some o := fun b o hb q hs => hk b o (fun hm => hb (S.fin b hm)) (fun hw => hst b hw o q hs) q
 have hkO : ∀ b o, b ∈ O → b ∉ C.fp → h.get? b = some o → h'.get? b = some o := fun b o hb hf q => hk b o hf (fun hw => hwO b hw hb) q
 have ents : ∀ z e', z ≠ y → σ.lookup z = some e' → ∃ v, upd m y u z = some v ∧ ERep C O' (upd m y u) h' v e' ∧ (e'.isOwn = true → ∃ a, v = .ref a ∧ a ∈ O) := fun z e' hz hl => by
   obtain ⟨v, hv, ru⟩ := S.ents z e' hl
   refine ⟨v, by simp [upd, hz, hv], ?_⟩
   cases e' with
   | v d => exact ⟨Rep.moveS hO2 hkS ru, fun h => by cases h⟩
   | own l =>
     obtain ⟨a, vs, e1, e2, e3, e4, ⟨k, e5⟩, e6⟩ := ru
     exact ⟨⟨a, vs, e1, hO _ e2, e3, e4, ⟨k, hkO _ _ e2 e4 e5⟩, e6.moveS hO2 hkS⟩, fun _ => ⟨a, e1, e2⟩⟩
   | ba l =>
     obtain ⟨a, e1, e2, e3, e4, e5⟩ := ru
     exact ⟨⟨a, e1, hO _ e2, e3, e4, hkO _ _ e2 e4 e5⟩, fun _ => ⟨a, e1, e2⟩⟩
   | app x =>
     obtain ⟨qq, a, e1, e2, e3, e4⟩ := ru
     refine ⟨⟨qq, a, e1, alive_of hO2 e2 e3, hkS _ _ e2 e3 (.inr (.inr rfl)), ?_⟩, fun h => by cases h⟩
     have := noApp_lookup hn hl
     simp [upd, this, e4]
 refine ⟨hF, fun a ha => hO a (S.sub a ha), fun a ha => hO a (S.fin a ha), fun a ha => ?_, fun a ha => ?_, fun z e' hz => ?_, fun z z' e₁ e₂ a hne hz hz' h1 h2 => ?_⟩
 · rcases hnew a ha with h1 | ⟨_, h1⟩
   · by_cases hm : a ∈ C.fp
     · exact K.H.alive _ _ hF a hm
     · obtain ⟨o, q⟩ := S.alive a h1; exact ⟨o, hkO a o h1 hm q⟩
   · exact h1
 · rcases hnew a ha with h1 | ⟨h1, _⟩
   · exact S.new a h1
   · refine .inr ?_
     cases q : C.h₀.get? a with
     | none => rfl
     | some o => rw [K.H.keep _ _ S.fr a o q] at h1; cases h1
 · rw [lookup_cons'] at hz
   split at hz
   · rename_i q; cases hz
     exact ⟨u, by simp [upd, q], hr⟩
   · rename_i q
     obtain ⟨v, h1, h2, _⟩ := ents z e' q hz
     exact ⟨v, h1, h2⟩
 · rw [lookup_cons'] at hz hz'
   split at hz <;> split at hz'
   · rename_i q1 q2; exact absurd (q1.trans q2.symm) hne
   · rename_i q1 q2
     cases hz
     intro g1 g2
     obtain ⟨b, hb, hbO⟩ := hown h1
     obtain ⟨v, h3, _, h4⟩ := ents z' e₂ q2 hz'
     obtain ⟨b', hb', hbO'⟩ := h4 h2
     rw [h3, hb'] at g2
     simp only [upd, if_pos q1, hb] at g1
     cases g1; cases g2
     exact hbO hbO'
   · rename_i q1 q2
     cases hz'
     intro g1 g2
     obtain ⟨b, hb, hbO⟩ := hown h2
     obtain ⟨v, h3, _, h4⟩ := ents z e₁ q1 hz
     obtain ⟨b', hb', hbO'⟩ := h4 h1
     rw [h3, hb'] at g1
     simp only [upd, if_pos q2, hb] at g2
     cases g1; cases g2
     exact hbO hbO'
   · rename_i q1 q2
     simp only [upd, if_neg q1, if_neg q2]
     exact S.apart z z' e₁ e₂ a hne hz hz' h1 h2
theorem wp_compG (K : Ok prog w hB mg mb C n) {α : Type} {elt iter : Expr} {x y : Str} {px py : Pos} {ifs : List Expr} {scope : Scope} {cl : List (Str × Addr)} {pos spos : Pos} (f g : α → D) (kp : α → Bool) (xs : List α) (τ : Loc) (e : Ent)
   (hit : It prog w C σ iter (xs.map f)) (hclos : closureFor scope C.env = pure cl) (hcl : CellsOk C hB scope cl) (hτ : ∀ y e, τ.lookup y = some e → ∃ d, e = .v d ∧ σ.lookup y = some e ∧ (compEnvC scope cl 0 C.env).kindOf y = some .cell)
   (body : ∀ a ∈ xs, ∀ Ca, Ok prog w hB mg mb (cCfg C.A C.env scope cl Ca hB) n → EvIfs prog w (cCfg C.A C.env scope cl Ca hB) ((x, .v (f a)) :: τ) ifs (kp a) ∧ (kp a = true → Ev prog w (cCfg C.A C.env scope cl Ca hB) false ((x, .v (f a)) :: τ) elt (g a)))
   (he : e = .v (.lst ((xs.filter kp).map g)) ∨ e = .own ((xs.filter kp).map g))
   (h2 : Wp prog w C ((y, e) :: σ) rest Φ) (hly : C.loc y = true) (hn : noApp y σ = true)
   (hsz : xs.length ≤ sizeLine) (hcell : ∀ y ∈ scope.names, y.2 ≠ .cell) (hkind : scope.kind = .function) (hx : scope.names.lookup x = some .local)
   (hnames : ∀ y ∈ scope.names, y.2 = .local → scope.names.lookup y.1 = some .local)
   (hsw : swapsWith (.ListComp elt [⟨.Name x px, iter, ifs, 0⟩] scope pos) (some (.Name y py)) spos.line C.env = pure true := by rfl)
   (hfs : ∀ x, foldedSetIterable iter C.env x = pure x := by intro _; rfl) :
   Wp prog w C σ (.Assign [.Name y py] (.ListComp elt [⟨.Name x px, iter, ifs, 0⟩] scope pos) spos :: rest) Φ := fun s m O Q E S q => by
 refine wpAny_execs_cons ?_
 rw [exec_Assign_Name_used _ _ _ _ hsw]
 refine wpAny_bind (wpAny_standAt (wpAny_bind ?_))
 show wpAny _ C.A (do let _ ← comprehension (.ListComp elt [⟨.Name x px, iter, ifs, 0⟩] scope pos) scope C.env _ (newList []) false (eval iter C.env) (some (assign (.Name y py) C.env))) _ _ s
 refine wpAny_bind (wpAny_mono (wpAny_comprehension_free (use := some (assign (.Name y py) C.env)) (Q := fun _ s' => wpAny (model prog w) C.A (execs rest C.env) Q E s') rfl hfs hclos hkind hnames
   (wpAny_mono (hit s m O _ E S fun I fp wr P St h₁ t₁ x₁ W st0 hI hfO hfa hwn hitr hP => ?_) (fun _ _ e => e) fun _ _ e => e)) (fun _ s' hq => wpAny_pure (wpAny_pure hq)) fun _ _ e => e)
 have S₁ := S.ext' K x₁
 rw [List.length_map] at W
 have hwB : ∀ b ∈ wr, hB.get? b = none := fun b hb => by
   cases e : hB.get? b with
   | none => rfl
   | some o => have h3 := hwn b hb; rw [S.base K b o e] at h3; cases h3
 refine comp_core (RR := fun acc Ca => compPost (model prog w) C.A E (some (assign (.Name y py) C.env)) (fun _ s' => wpAny (model prog w) C.A (execs rest C.env) Q E s') acc Ca) K f g kp xs τ S₁ W st0 hfO hfa hitr hP hwB hsz hcell hkind hx hcl hτ body fun Dd Ca h₂ t₂ ml ys hD hC hDC hns hpl hys hk => ?_
 have hOwn := S₁.own' (r := false) K
 have hDO : Dd ∉ O := hOwn.fresh hD
 have hCO : Ca ∉ O := hOwn.fresh hC
 have hCfp : Ca ∉ C.fp := fun hm => hCO (S.fin _ hm)
 have hDfp : Dd ∉ C.fp := fun hm => hDO (S.fin _ hm)
 have hwO : ∀ b ∈ wr, b ∉ O := fun b hb => hfO b (W.sub b hb)
 have hwfp : ∀ b ∈ wr, b ∉ C.fp := fun b hb hm => hwO b hb (S.fin b hm)
 have hst : ∀ b ∈ wr, ∀ o, h₁.get? b = some o → ¬ Stab o := fun b hb o e => by
   obtain ⟨o', e', hi'⟩ := hitr 0 _ st0 b hb
   rw [e] at e'; cases e'; exact hi'.notStab
 have h0C : ∀ a, h₁.get? a = none → C.h₀.get? a = none := fun a ha => by
   cases e : C.h₀.get? a with
   | none => rfl
   | some o => rw [K.H.keep _ _ S₁.fr a o e] at ha; cases ha
 have h0w : ∀ b ∈ wr, C.h₀.get? b = none := fun b hb => by
   cases e : C.h₀.get? b with
   | none => rfl
   | some o => have h3 := hwn b hb; rw [K.H.keep _ _ S.fr b o e] at h3; cases h3
 have hx2 : Ext C.h₀ h₂ := fun b o e => hk b o (fun hw => by rw [h0w b hw] at e; cases e) (K.H.keep _ _ S₁.fr b o e)
 have F₂ : C.FR m h₂ := K.H.move m h₁ h₂ S₁.fr (fun b hb o e => hk b o (fun hw => hwfp b hw hb) e) hx2
 refine wpAny_assign_Name (K.H.store _ m y (.ref Dd) _ E F₂ hly fun h₃ t₃ hF₃ hk₃ => ?_)
 refine ⟨ml, hns.at' fun o e => hk₃ _ o hCfp e, fun h₄ hs₄ => ?_⟩
 have hk₄ : ∀ b o, b ∉ C.fp → b ∉ wr → h₁.get? b = some o → h₄.get? b = some o := fun b o hf hw e => hs₄.extBut b o (fun q => by rw [q, hC] at e; cases e) (hk₃ b o hf (hk b o hw e))
 have F₄ : C.FR (upd m y (.ref Dd)) h₄ := K.H.move _ h₃ h₄ hF₃ (fun b hb o e => hs₄.extBut b o (fun q => hCfp (q ▸ hb)) e) fun b o e => hs₄.extBut b o (fun q => by rw [q, h0C _ hC] at e; cases e) (K.H.keep _ _ hF₃ b o e)
 have hpl₄ : h₄.PlainList Dd ys.toArray := hpl.at fun o e => hs₄.extBut _ o hDC (hk₃ _ o hDfp e)
 have hys₄ : Reps (Dd :: O) h₄ ys ((xs.filter kp).map g) := Reps.move (O' := Dd :: O) (fun a ha => .inl ((List.mem_cons.mp ha).elim (fun e => e ▸ .tail _ (.head _)) fun h => .tail _ (.tail _ h))) (fun b o hb e => hs₄.extBut b o (fun q => hb (q ▸ .head _)) (hk₃ b o (fun hm => hb (.tail _ (.tail _ (S.fin b hm)))) e)) hys
 have fin : ∀ O', (∀ a ∈ O, a ∈ O') → (∀ a ∈ O', a ∈ O ∨ a = Dd) → StX C (upd m y (.ref Dd)) O' ((y, e) :: σ) h₄ → wpAny (model prog w) C.A (execs rest C.env) Q E { s with heap := h₄, toks := t₃ } := fun O' hsub hnew S₄ => by
   refine h2 _ _ O' Q E S₄ fun fl φ σ' h5 t5 m5 O5 hp hf S5 g5 => q fl φ σ' h5 t5 m5 O5 hp hf S5 (Grow.trans ⟨fun b o hb e => ?_, hsub, fun a ha => ?_⟩ g5)
   · refine hk₄ b o (fun hm => hb (S.fin b hm)) (fun hw => ?_) (x₁ b o e)
     have h3 := hwn b hw; rw [e] at h3; cases h3
   · refine (hnew a ha).imp id fun q => ?_
     cases e : s.heap.get? a with
     | none => rfl
     | some o => rw [q] at e; rw [x₁ _ _ e] at hD; cases hD
 rcases he with rfl | rfl
 · exact fin O (fun _ h => h) (fun _ h => .inl h) (S₁.setG K (fun _ h => h) (fun _ h => .inl h) F₄ hk₄ hwO hst (.lst hDO hpl₄ (hys₄.weak fun a ha => .tail _ ha)) (fun h => by cases h) hn)
 · refine fin (Dd :: O) (fun _ h => .tail _ h) (fun a h => (List.mem_cons.mp h).elim .inr .inl) (S₁.setG K (fun _ h => .tail _ h) (fun a h => (List.mem_cons.mp h).elim (fun e => .inr (e ▸ ⟨hD, let ⟨_, q⟩ := hpl₄; ⟨_, q⟩⟩)) .inl) F₄ hk₄ hwO hst
     ⟨Dd, ys, rfl, .head _, fun hm => hDO (S.sub _ hm), hDfp, hpl₄, hys₄⟩ (fun _ => ⟨Dd, rfl, hDO⟩) hn)
end
end
section
open Builtin Builtin.Str
theorem wpAny_forIn_list {α β : Type} {M : Model} {A : Around} {E : Value → Shared → Prop} {Q : β → Shared → Prop} {f : α → β → Sem (ForInStep β)} {l : List α} (I : List α → β → Shared → Prop)
   (step : ∀ pre a post b s, l = pre ++ a :: post → I pre b s → wpAny M A (f a b) (fun r s' => ∃ b', r = .yield b' ∧ I (pre ++ [a]) b' s') E s) (fin : ∀ b s, I l b s → Q b s) :
   ∀ (post pre : List α) (b : β) (s : Shared), l = pre ++ post → I pre b s → wpAny M A (forIn post b f) Q E s
 | [], pre, b, s, h, hI => by
   rw [List.append_nil] at h; subst h
   rw [List.forIn_nil]; exact wpAny_pure (fin b s hI)
 | a :: post, pre, b, s, h, hI => by
   rw [List.forIn_cons]
   refine wpAny_bind (wpAny_mono (step pre a post b s h hI) (fun r s' hr => ?_) fun _ _ e => e)
   obtain ⟨b', rfl, hI'⟩ := hr
   exact wpAny_forIn_list I step fin post (pre ++ [a]) b' s' (by rw [h, List.append_assoc]; rfl) hI'
def Says (prog : Program) (w : World) (A : Around) (h₀ : Heap) (tb : Value) (c : Nat) (t : List Nat) : Prop :=
 ∀ (s : Shared) (Q : Mapped → Shared → Prop) (E : Value → Shared → Prop), Ext h₀ s.heap →
   (∀ mp h' tk, Ext s.heap h' → (mp = .text (S8 t) ∨ (mp = .keep ∧ t = [c])) → Q mp { s with heap := h', toks := tk }) → wpAny (model prog w) A (tableLookup tb c) Q E s
theorem fold_snoc (ps : List PySem.Str) (p : PySem.Str) : (p :: ps).reverse.foldl (fun acc p => acc ++ p.cps) #[] = ps.reverse.foldl (fun acc p => acc ++ p.cps) #[] ++ p.cps := by
 rw [List.reverse_cons, List.foldl_append]; rfl
inductive TrI (s : Shared) (tr : Nat → List Nat) (pre : List Nat) : List PySem.Str × Nat × Bool × List (Nat × Option Nat) × Bool → Shared → Prop
 | mk (ps : List PySem.Str) (fast : Bool) (known : List (Nat × Option Nat)) (h : Heap) (tk : Nat) (x : Ext s.heap h) (hp : ps.reverse.foldl (fun acc p => acc ++ p.cps) #[] = (pre.flatMap tr).toArray)
     (hkn : ∀ c a, known.lookup c = some a → ∃ d, a = some d ∧ tr c = [d]) : TrI s tr pre (ps, (pre.flatMap tr).length, fast, known, false) { s with heap := h, toks := tk }
theorem translate_walk {prog : Program} {w : World} {A : Around} {s : Shared} {l : List Nat} {t : Tok} {tb : Value} (tr : Nat → List Nat) (hne : l ≠ []) (hsz : (l.flatMap tr).length ≤ sizeLine)
   (hT : ∀ c ∈ l, Says prog w A s.heap tb c (tr c)) {Q : Fin → Shared → Prop} {E : Value → Shared → Prop}
   (q : ∀ h' tk tk', Ext s.heap h' → Q (.done (.ret (.str (S8 (l.flatMap tr)) tk))) { s with heap := h', toks := tk' }) :
   wpAny (model prog w) A (Builtin.«str.translate» ⟨[.str (S8 l) t, tb], []⟩) Q E s := by
 refine wpAny_bind (m := strOneArg _ _) (wpAny_pure ?_)
 refine wpAny_ifF (Bool.eq_false_iff.mp (beq_eq_false_iff_ne.mpr fun e => hne (List.eq_nil_of_length_eq_zero ((S8_len l).symm.trans e)))) ?_
 refine wpAny_bind ?_
 rw [← Array.forIn_toList]
 have notLong : ∀ pre post : List Nat, l = pre ++ post → ¬ tooLong (pre.flatMap tr).length = true := fun pre post h => by
   rw [h, List.flatMap_append, List.length_append] at hsz
   exact fun e => absurd (of_decide_eq_true e) (Nat.not_lt.mpr (Nat.le_trans (Nat.le_add_right _ _) hsz))
 refine wpAny_forIn_list (l := l) (TrI s tr) ?_ ?_ l [] _ s rfl (.mk [] _ [] s.heap s.toks (Ext.refl _) rfl fun c a h => nomatch h)
 · intro pre c post b s' hsplit I
   have hsay := hT c (by rw [hsplit]; exact List.mem_append_right _ (.head _))
   have notLong := notLong pre (c :: post) hsplit
   clear hT hsplit hne hsz q
   cases I with | mk ps fast known h₁ t₁ x₁ hp hkn
   have done : ∀ (d : List Nat) (f : Bool) (kn : List (Nat × Option Nat)) (h₂ : Heap) (t₂ : Nat), d = tr c → Ext h₁ h₂ → (∀ c a, kn.lookup c = some a → ∃ d, a = some d ∧ tr c = [d]) →
       ∃ b', (ForInStep.yield (S8 d :: ps, (pre.flatMap tr).length + d.length, f, kn, false)) = .yield b' ∧ TrI s tr (pre ++ [c]) b' { s with heap := h₂, toks := t₂ } := by
     intro d f kn h₂ t₂ hd x₂ hkn'
     subst hd
     have fm : (pre ++ [c]).flatMap tr = pre.flatMap tr ++ tr c := by rw [List.flatMap_append, List.flatMap_singleton]
     refine ⟨_, rfl, ?_⟩
     rw [← List.length_append, ← fm]
     exact .mk _ _ _ _ _ (x₁.trans x₂) (by rw [fold_snoc, hp, fm]; exact List.append_toArray ..) hkn'
   have doneT : ∀ (h₂ : Heap) (t₂ : Nat), Ext h₁ h₂ → ∃ b', (ForInStep.yield (S8 (tr c) :: ps, (pre.flatMap tr).length + (S8 (tr c)).length, false, known, false)) = .yield b' ∧ TrI s tr (pre ++ [c]) b' { s with heap := h₂, toks := t₂ } := fun h₂ t₂ x => by
     rw [S8_len]; exact done (tr c) false known h₂ t₂ rfl x hkn
   have consK : ∀ d, tr c = [d] → ∀ c' a, ((c, some d) :: known).lookup c' = some a → ∃ d, a = some d ∧ tr c' = [d] := fun d hd c' a h => by
     rw [List.lookup_cons] at h
     split at h
     · rename_i hq; cases h; rw [beq_iff_eq.mp hq]; exact ⟨d, rfl, hd⟩
     · exact hkn c' a h
   refine wpAny_ifF notLong ?_
   clear notLong hp
   cases fast with
   | false =>
     refine wpAny_bind (hsay _ _ _ x₁ fun mp h₃ t₃ x₃ hmp => ?_)
     rcases hmp with rfl | ⟨rfl, hq⟩
     · exact wpAny_pure (doneT h₃ t₃ x₃)
     · exact wpAny_pure (done [c] false known h₃ t₃ hq.symm x₃ hkn)
   | true =>
     cases hq : List.lookup c known with
     | some a =>
       obtain ⟨d, rfl, hd⟩ := hkn c a hq
       exact wpAny_bind (wpAny_pure (wpAny_pure (done [d] true known h₁ t₁ hd.symm (Ext.refl _) hkn)))
     | none =>
       refine wpAny_bind (hsay _ _ _ x₁ fun mp h₂ t₂ x₂ hmp => ?_)
       rcases hmp with rfl | ⟨rfl, hq'⟩
       · dsimp only
         by_cases hc1 : ((S8 (tr c)).length == 1 && (S8 (tr c)).cps.all fun x => decide (x < 128)) = true
         · obtain ⟨d, hd⟩ := List.length_eq_one_iff.mp ((S8_len (tr c)).symm.trans (beq_iff_eq.mp (Bool.and_eq_true_iff.mp hc1).1))
           have done := done [d] true ((c, some d) :: known) h₂ t₂ hd.symm x₂ (consK d hd)
           rw [if_pos hc1]
           rw [hd]
           exact wpAny_bind (wpAny_pure (wpAny_pure done))
         · rw [if_neg hc1]
           refine wpAny_bind (wpAny_pure (wpAny_bind (wpAny_rule ?_)))
           refine wpAny_bind (hsay _ _ _ (x₁.trans x₂) fun mp h₃ t₃ x₃ hmp => ?_)
           rcases hmp with rfl | ⟨rfl, hq⟩
           · exact wpAny_pure (doneT h₃ t₃ (x₂.trans x₃))
           · exact wpAny_pure (done [c] false known h₃ t₃ hq.symm (x₂.trans x₃) hkn)
       · exact wpAny_bind (wpAny_pure (wpAny_pure (done [c] true ((c, some c) :: known) h₂ t₂ hq'.symm x₂ (consK c hq'))))
 · intro b s' I
   have notLong := notLong l [] (List.append_nil l).symm
   cases I with | mk ps fast known h₁ t₁ x₁ hp hkn
   refine wpAny_ifF notLong ?_
   rw [hp]
   exact wpAny_bind (wpAny_mkStr (wpAny_pure (q h₁ _ _ x₁)) (by show (S8 (l.flatMap tr)).length ≤ _; rw [S8_len]; exact hsz))
end
section
open Builtin Builtin.Str
theorem sub_IndexError_Lookup : isSubtype (.type "IndexError") (.type "LookupError") = pure true := by rw [isSubtype_type]; kernel_rfl
section
variable {prog : Program} {w : World} {hB : Heap}
theorem says_in {A : Around} {h₀ : Heap} {a : Addr} {items : Array Value} {c : Nat} {t : List Nat} {u : Tok} (hl : h₀.PlainList a items) (hc : items[c]? = some (.str (S8 t) u)) (hb : c < 2 ^ 62) : Says prog w A h₀ (.ref a) c t := fun s Q E X q => by
 unfold tableLookup
 refine wpAny_bind (wpAny_attempt (wpAny_bind (wpAny_mkInt ?_)))
 refine wpAny_getItem_list (hl.at fun o e => X _ o e).isList (by exact ar163) (by exact ar75 hb) (by rw [Int.toNat_natCast]; exact hc) ?_
 dsimp only
 refine wpAny_bind (m := asInt? _) (wpAny_pure ?_)
 dsimp only
 refine wpAny_bind (m := asStr? _) (wpAny_pure ?_)
 dsimp only
 exact wpAny_pure (q _ _ _ (Ext.refl _) (.inl rfl))
theorem says_out {A : Around} {h₀ : Heap} {a : Addr} {items : Array Value} {c : Nat} (hA : A.handled = none) (hl : h₀.PlainList a items) (hc : items.size ≤ c) (hb : c < 2 ^ 62) : Says prog w A h₀ (.ref a) c [c] := fun s Q E X q => by
 unfold tableLookup
 refine wpAny_bind (wpAny_attempt (wpAny_bind (wpAny_mkInt ?_)))
 refine wpAny_getItem_list_out hA (hl.at fun o e => X _ o e).isList (.inr (by exact ar305 hc)) (by exact ar158) (by exact ar75 hb) fun h' tk e ne => ?_
 dsimp only
 obtain ⟨ob, t, e1, e2, _⟩ := ne.there
 refine wpAny_bind (wpAny_isInstance (T := "IndexError") ⟨_, e1, e2⟩ sub_IndexError_Lookup ?_)
 simp only [if_true]
 exact wpAny_bind (wpAny_rule (wpAny_pure (q _ _ _ (fun b o e => ne.keeps b o e) (.inr ⟨rfl, rfl⟩))))
theorem fn_translate (l : List Nat) (tbl : List (List Nat)) (tr : Nat → List Nat) (hsz : (l.flatMap tr).length ≤ sizeLine) (hb : ∀ c ∈ l, c < 2 ^ 62) (h1 : ∀ c ∈ l, ∀ t, tbl[c]? = some t → tr c = t) (h2 : ∀ c ∈ l, tbl.length ≤ c → tr c = [c]) :
   FnV prog w hB (.builtin "str.translate") [.str l, .lst (tbl.map .str)] (.str (l.flatMap tr)) 0 := fnV_sl fun A s O t a vs Q E R Ow hO hp hrs q => by
 have hlen : vs.length = tbl.length := by rw [hrs.length, List.length_map]
 by_cases hne : l = []
 · subst hne
   refine wpAny_call (codeAny_call_builtin F.slot_str_translate.plain F.entry_str_translate (F.slot_str_translate.check _ _ _ _ _ _ _ _ (typeIs_str _ _ _) (F.args_str_translate_2 _ _) ?_))
   unfold Builtin.«str.translate»
   refine wpAny_bind (m := strOneArg _ _) (wpAny_pure ?_)
   dsimp only
   rw [if_pos (by decide)]
   exact wpAny_bind (wpAny_rule (wpAny_bind (m := strUnchanged _ _) (wpAny_pure (wpAny_pure (q _ s.heap s.toks (Ext.refl _) (.str (l := [])))))))
 refine wpAny_call (codeAny_call_builtin F.slot_str_translate.plain F.entry_str_translate (F.slot_str_translate.check _ _ _ _ _ _ _ _ (typeIs_str _ _ _) (F.args_str_translate_2 _ _) ?_))
 refine translate_walk tr hne hsz (fun c hc => ?_) fun h' tk tk' x => q _ _ _ x .str
 by_cases hlt : c < tbl.length
 · obtain ⟨t, ht⟩ : ∃ t, tbl[c]? = some t := ⟨_, List.getElem?_eq_getElem hlt⟩
   obtain ⟨v, hv, hrv⟩ := hrs.get (i := c) (d := .str t) (by rw [List.getElem?_map, ht]; rfl)
   cases hrv
   rw [h1 c hc t ht]
   exact says_in hp (by simpa using hv) (hb c hc)
 · rw [h2 c hc (by exact ar345 hlt)]
   exact says_out (show A.in1.handled = none from R.handled) hp (by rw [List.size_toArray]; exact ar441 hlen hlt) (hb c hc)
end
end
section
open Builtin Builtin.ObjectAttr
theorem lk_list_append : typeLookup (.type "list") "append" = pure (some (.builtin "list.append")) := by rw [typeLookup_type, builtinLookup_eq_fast]; kernel_rfl
theorem lk_md_get : typeLookup (.type "method_descriptor") "__get__" = pure (some (.builtin "method_descriptor.__get__")) := by rw [typeLookup_type, builtinLookup_eq_fast]; kernel_rfl
theorem lk_md_set : typeLookup (.type "method_descriptor") "__set__" = pure none := by rw [typeLookup_type, builtinLookup_eq_fast]; kernel_rfl
theorem lk_md_del : typeLookup (.type "method_descriptor") "__delete__" = pure none := by rw [typeLookup_type, builtinLookup_eq_fast]; kernel_rfl
theorem entry_md_obj : entryFor table "method_descriptor.__get__#obj" = some Builtin.«method_descriptor.__get__#obj» := entryFor_of_fast (by kernel_rfl)
theorem sub_list_owner : isSubtype (.type "list") (.type (".".intercalate ("list.append".cutAt '.').dropLast)) = pure true := by
 rw [show ".".intercalate ("list.append".cutAt '.').dropLast = "list" by decide +kernel, isSubtype_type]; kernel_rfl
theorem slot_md_get : Slot "method_descriptor" "__get__" "method_descriptor.__get__" :=
 .of (owner := "method_descriptor") (n := "__get__") (by rw [typeLookup_type, builtinLookup_eq_fast]; kernel_rfl) (by decide +kernel) (by decide +kernel) (by decide +kernel)
   (by first | exact .inl (by decide +kernel) | exact .inr (by decide +kernel)) (by rw [isSubtype_type]; kernel_rfl)
theorem entry_md_get : entryFor table "method_descriptor.__get__" = some Builtin.«method_descriptor.__get__» := entryFor_of_fast (by kernel_rfl)
theorem args_md_get (a b c : Value) : argsOk "method_descriptor.__get__" ⟨[a, b, c], []⟩ := by
 unfold argsOk; kernel_rfl
section
variable {prog : Program} {w : World} {A : Around} {E : Value → Shared → Prop} {h : Heap} {g : Array GenState} {d : Drawn} {t : Nat} {os : OsState} {a : Addr} {o : Obj}
set_option maxHeartbeats 1000000 in
theorem append_entry {tk : Tok} {items : Array Value} {Q : Fin → Shared → Prop} (hx : h.PlainList a items) (hq : Q (.done (.ret (.ref h.objs.size))) ⟨h.push (appObj a), g, d, t, os⟩) :
   wpAny (model prog w) A (Builtin.«object.__getattribute__» ⟨[.ref a, .str "append" tk], []⟩) Q E ⟨h, g, d, t, os⟩ := by
 obtain ⟨k, hx⟩ := hx
 have hT : (⟨h, g, d, t, os⟩ : Shared).TypeIs (.ref a) "list" := ⟨_, hx, rfl⟩
 have hT5 : (⟨h, g, d, t, os⟩ : Shared).TypeIs (.builtin "list.append") "method_descriptor" := type_list_append
 have f4 := lk_list_append
 have f5 := type_list_append
 have f6 := lk_md_get
 have f7 := lk_md_set
 have f8 := lk_md_del
 unfold Builtin.«object.__getattribute__»
 repeat (any_goals (first | assumption | wp_step))
 refine codeAny_call_builtin slot_md_get.plain entry_md_get (slot_md_get.check _ _ _ _ _ _ _ _ hT5 (args_md_get _ _ _) ?_)
 have f9 := sub_list_owner
 unfold Builtin.«method_descriptor.__get__»
 repeat (any_goals (first | assumption | wp_step))
theorem getAttr_append {s : Shared} {items : Array Value} {Q : Value → Shared → Prop} (hx : s.heap.PlainList a items) (hq : ∀ tk, Q (.ref s.heap.objs.size) { s with heap := s.heap.push (appObj a), toks := tk }) :
   wpAny (model prog w) A (getAttr (.ref a) "append" true) Q E s := by
 have hT0 := hx.isList.typeIs (s := s)
 obtain ⟨hp, g, d, tk, os⟩ := s
 have hT : ∀ tk', (⟨hp, g, d, tk', os⟩ : Shared).TypeIs (.ref a) "list" := fun tk' => (hx.isList.typeIs (s := ⟨hp, g, d, tk', os⟩))
 have f1 : ∀ v E, wpAny (model prog w) A (call (.builtin "list.__getattribute__") [.ref a, .str "append" v]) (fun v s' => v = .ref hp.objs.size ∧ s' = ⟨hp.push (appObj a), g, d, tk + 1, os⟩) E ⟨hp, g, d, tk + 1, os⟩ := fun v E =>
   wpAny_call (codeAny_call_builtin F.slot_list_getattribute.plain am_entry_list_getattribute (F.slot_list_getattribute.check _ _ _ _ _ _ _ _ (hT _) (F.args_list_getattribute_2 _ _) (append_entry hx ⟨rfl, rfl⟩)))
 have f3 := F.slot_list_getattribute.lookup
 have f4 := F.slot_list_getattribute.bind (.ref a)
 obtain ⟨k, hx⟩ := hx
 dsimp only at hx hq
 unfold getAttr getAttrBy
 repeat (any_goals (first | assumption | exact hT _ | ((with_reducible show wpAny _ _ (call (Value.builtin "list.__getattribute__") _ _) _ _ _); refine wpAny_mono (f1 _ _) (fun v s' hv => ?_) fun _ _ e => e) | wp_step))
 obtain ⟨rfl, rfl⟩ := hv
 repeat (any_goals (first | assumption | wp_step))
 exact hq _
end
section
variable {prog : Program} {w : World} {hB : Heap} {mg mb : Str → Option Value} {C : Cfg} {n : Nat} {σ σ' σ'' : Loc} {m : Str → Option Value} {O : List Addr} {h h' : Heap} {r : Bool} {Φ Ψ : Fl → Loc → Prop} {rest : List Stmt}
theorem wp_bindApp (K : Ok prog w hB mg mb C n) {x y : Str} {np ap p pos : Pos} {l : List D} (hx : σ.lookup x = some (.own l)) (hlx : C.loc x = true) (hly : C.loc y = true) (hxy : x ≠ y) (hn : noApp y σ = true)
   (h2 : Wp prog w C ((y, .app x) :: σ) rest Φ) (hd : (x == ("__debug__" : Str)) = false := by decide)
   (hs : swapsWith (.Attribute (.Name x np) "append" ap) (some (.Name y p)) pos.line C.env = pure false := by rfl) : Wp prog w C σ (.Assign [.Name y p] (.Attribute (.Name x np) "append" ap) pos :: rest) Φ := fun s m O Q E S q => by
 obtain ⟨v, hv, a, vs, rfl, e1, e2, e3, e4, e5⟩ := S.ents x _ hx
 refine wpAny_execs_cons (wpAny_Assign_Name (hs := hs) (Attribute_any_ (wpAny_Name (K.H.load s m x _ _ _ S.fr hlx hv ?_) hd) rfl))
 refine getAttr_append e4 fun tk => ?_
 have hp := ext_push s.heap (appObj a)
 have S₁ := S.ext' K hp
 have hq : s.heap.get? s.heap.objs.size = none := get_size _
 have hqO : s.heap.objs.size ∉ O := (S.own' (r := false) K).fresh hq
 refine K.H.store _ m y _ _ E S₁.fr hly fun h₂ t₂ hF hk => ?_
 have hqf : s.heap.objs.size ∉ C.fp := fun hm => hqO (S.fin _ hm)
 have S₂ : StX C (upd m y (.ref s.heap.objs.size)) O ((y, .app x) :: σ) h₂ := S₁.setG K (wr := []) (fun _ h => h) (fun _ h => .inl h) hF (fun b o hb _ e => hk b o hb e) (fun b hb => by cases hb) (fun b hb => by cases hb)
   ⟨_, a, rfl, hqO, hk _ _ hqf (Heap.get?_push_size _ rfl), by simp [upd, hxy, hv]⟩ (fun h => by cases h) hn
 exact h2 _ _ O Q E S₂ fun fl φ σ' h5 t5 m5 O5 hp' hf S5 g5 => q fl φ σ' h5 t5 m5 O5 hp' hf S5 (Grow.trans ⟨fun b o hb e => hk b o (fun hm => hb (S.fin b hm)) (hp b o e), fun _ h => h, fun _ h => .inl h⟩ g5)
end
end
section
noncomputable def recAtW (p : Program) (k : Nat) : DefRec := (((wdefsOf p)[k]?).getD (⟨"", default, [], default, default⟩, [])).1
noncomputable def docAtW (p : Program) (k : Nat) (pm code doc : Value) (T : Addr) : FuncData := { Calls.docDef (recAtW p k).name (recAtW p k).params (recAtW p k).body (recAtW p k).scope pm code doc with defaults := .ref T, kwdefaults := .none }
def HasFnW (hB : Heap) (mg : Str → Option Value) (p : Program) (k : Nat) (ds : List D) : Prop := ∃ fa pm code doc T o vs n, mg (recAtW p k).name = some (.ref fa) ∧ IsFn hB fa (docAtW p k pm code doc T) (recAtW p k).body ∧ hB.get? T = some o ∧ o.data = .seq vs n ∧ Reps [] hB vs.toList ds
noncomputable abbrev cfgAtW (p : Program) (k : Nat) (pm code doc : Value) (T fa : Addr) (A : Around) (L : Addr) (h₀ : Heap) (O₀ : List Addr) : Cfg := plainCfg A (docAtW p k pm code doc T) L fa h₀ O₀
section
variable {prog : Program} {w : World} {hB : Heap} {mg mb : Str → Option Value}
theorem fn_recW (B : Base hB mg mb) {p : Program} {k : Nat} {ds : List D} (H : HasFnW hB mg p k ds) (names : List Str) {args bnd : List D} {d : D} {n : Nat} {f : Str} (sel : List Value → List Value → List Value) (hf : (recAtW p k).name = f)
   (hsel : ∀ (O : List Addr) (h : Heap) vals vs, Reps O h vals args → Reps O h vs ds → Reps O h (sel vals vs) bnd) (hlen : names.length = bnd.length)
   (hbind : ∀ pm code doc T (s : Shared) o (vals : List Value) vs n, vals.length = args.length → vs.size = ds.length → s.heap.get? T = some o → o.data = .seq vs n → BindsTo s (docAtW p k pm code doc T) ⟨vals, []⟩ (names.zip (sel vals vs.toList)))
   (hloc : ∀ x ∈ names, (recAtW p k).scope.names.lookup x = some .local)
   (hbody : ∀ pm code doc T fa A L h₀ O₀, Ok prog w hB mg mb (cfgAtW p k pm code doc T fa A L h₀ O₀) n → Wp prog w (cfgAtW p k pm code doc T fa A L h₀ O₀) (names.zip (bnd.map .v)).reverse (recAtW p k).body (RetIs d)) : Fn prog w hB mg f args d (n + 1) := by
 obtain ⟨fa, pm, code, doc, T, o, vs, nn, hm, hH, hT, hd, hvs⟩ := H
 subst hf
 refine ⟨fa, _, _, hm, hH, fn_of B hH (names := List.replicate args.length ("" : Str)) (σ₀ := names.zip (bnd.map .v)) (by simp) (fun s vals X hv => ?_) (fun x hx => hloc _ (List.of_mem_zip hx).1) fun A L h₀ O₀ K => hbody pm code doc T fa A L h₀ O₀ K⟩
 have hv' : vals.length = args.length := by simpa using hv
 have hvl : vs.size = ds.length := by rw [← hvs.length, Array.length_toList]
 refine ⟨_, hbind pm code doc T s o vals vs nn hv' hvl (X _ _ hT) hd, fun O Ow hr => ?_⟩
 exact Binds.zip hlen (hsel O s.heap vals vs.toList hr (hvs.move (fun a ha => .inr (Ow.new a ha)) fun b o _ e => X b o e))
end
section
variable {M : Model} {A : Around} {E : Value → Shared → Prop} {s : Shared} {env : Env}
theorem wpAny_execs_lift {st : Stmt} {rest : List Stmt} {Q : Flow → Shared → Prop}
   (h : wpAny M A (execs [st] env) (fun f s' => match f with | .next => wpAny M A (execs rest env) Q E s' | f => Q f s') E s) : wpAny M A (execs (st :: rest) env) Q E s := fun Γ p hi => by
 have h1 := h Γ p hi
 rw [execs_cons, Sem.wp_bind'] at h1 ⊢
 refine Sem.wp_mono M Γ _ (fun f p' s' h2 => ?_) (fun _ _ _ e => e) _ _ h1
 cases f with
 | next => exact h2 Γ p' hi
 | brk => exact h2
 | cont => exact h2
 | ret v => exact h2
end
section
variable {prog : Program} {w : World} {hB : Heap} {mg mb : Str → Option Value} {C : Cfg} {n : Nat} {σ σ' : Loc} {Φ : Fl → Loc → Prop} {rest : List Stmt}
theorem wp_cut {st : Stmt} (Mid : Loc → Prop) (h1 : Wp prog w C σ [st] (fun φ σ' => match φ with | .next => Mid σ' | φ => Φ φ σ')) (h2 : ∀ σ', Mid σ' → Wp prog w C σ' rest Φ) : Wp prog w C σ (st :: rest) Φ := fun s m O Q E S q =>
 wpAny_execs_lift (Wp.run (rest := rest) (h1.mono fun φ σ' h => by
   cases φ with
   | next => exact h2 σ' h
   | brk => exact h
   | cont => exact h
   | ret d => exact h) S q)
end
end
local macro_rules | `(tactic| walk_at "ev") => `(tactic| first
  | assumption | exact Mine.ev_int _ | exact Mine.ev_str rfl | exact Mine.ev_none | exact Mine.ev_bool | exact Mine.ev_name (by assumption) rfl rfl
  | (apply Mine.ev_bin (by assumption) <;> walk_at "ev")
  | (apply Mine.ev_un (by assumption) <;> walk_at "ev")
  | (apply Mine.evT_cmp (by assumption) <;> walk_at "ev")
  | (apply Mine.ev_cmp (by assumption) <;> walk_at "ev")
  | exact Mine.op_add _ _ | exact Mine.op_sub _ _ | exact Mine.op_lt _ _ | exact Mine.op_gt _ _ | exact Mine.op_ge _ _ | exact Mine.op_le _ _ | exact Mine.op_eq _ _ | exact Mine.op_ne _ _ | exact Mine.op_neg _ | exact Mine.op_iadd _ _ | exact Mine.op_isub _ _
  | apply Mine.op_mul | apply Mine.op_mod | apply Mine.op_div
  | with_unfolding_all rfl
  | skip)
section
section
noncomputable abbrev p1 : Program := PySem.Challenge.pw_ij0180_02
variable {prog : Program} {w : World} {hB : Heap} {mg mb : Str → Option Value}
theorem fn_T (B : Base hB mg mb) (H : HasFn hB mg p1 2) (j bias : Nat) : Fn prog w hB mg "T" [.int j, .int bias] (.int (tN j bias)) 1 := by
 refine fn_rec B H ["j", "bias"] rfl rfl (fun pm code doc => vals2 fun _ _ => rfl) (fa rfl (fa rfl fa0)) fun pm code doc fa A L h₀ O₀ K => ?_
 conv => arg 5; whnf
 refine wp_assign K (d := .int (36 * ((j : Int) + 1) - bias)) (by walk_at "ev"; mul_fits) ?_ rfl rfl
 refine wp_if K (c := decide (36 * ((j : Int) + 1) - bias < 1)) (by walk_at "ev") (fun h => wp_ret K (by walk_at "ev") ?_) (fun h => wp_nil ?_)
 · simp only [decide_eq_true_eq] at h
   show _ = _; rw [show tN j bias = 1 by unfold tN; rw [if_pos (by exact ar198 h)]]; rfl
 simp only [decide_eq_false_iff_not] at h
 refine wp_if K (c := decide (26 < 36 * ((j : Int) + 1) - bias)) (by walk_at "ev") (fun h' => wp_ret K (by walk_at "ev") ?_) (fun h' => wp_nil ?_)
 · simp only [decide_eq_true_eq] at h'
   show _ = _; rw [show tN j bias = 26 by unfold tN; rw [if_neg (by exact ar222 h'), if_pos (by exact ar223 h')]]; rfl
 simp only [decide_eq_false_iff_not] at h'
 refine wp_ret K (by walk_at "ev") ?_
 show _ = _
 have : tN j bias = 36 * (j + 1) - bias := by unfold tN; rw [if_neg (by exact ar334 h), if_neg (by exact ar338 h')]
 rw [this]; congr 1; exact ar333 h
theorem fn_adapt (B : Base hB mg mb) (H : HasFn hB mg p1 4) (delta m : Nat) (first : Bool) (hm : 0 < m) (hm2 : m < 2 ^ 64) : Fn prog w hB mg "adapt" [.int delta, .bool first, .int m] (.int (adaptF delta first m)) 1 := by
 refine fn_rec B H ["delta", "first", "numchars"] rfl rfl (fun pm code doc => vals3 fun _ _ _ => rfl) (fa rfl (fa rfl (fa rfl fa0))) fun pm code doc fa A L h₀ O₀ K => ?_
 conv => arg 5; whnf
 have rest : ∀ d : Nat, d = (if first then delta / 700 else delta / 2) → Wp prog w (cfgAt p1 4 pm code doc fa A L h₀ O₀) (("delta", .v (.int d)) :: [("numchars", .v (.int m)), ("first", .v (.bool first)), ("delta", .v (.int delta))]) ((recAt p1 4).body.drop 1) (RetIs (.int (adaptF delta first m))) := by
   intro d hd
   conv => arg 5; whnf
   refine wp_aug K rfl (d := .int ((d + d / m : Nat) : Int)) (ev_eqI (b := ((d / m : Nat) : Int)) (by walk_at "ev" <;> lia) (fdivN _ _)) (op2_eq (op_iadd _ _) (by rw [Int.natCast_add])) ?_ rfl rfl
   refine wp_assign K (d := .int 0) (by walk_at "ev") ?_ rfl rfl
   refine wp_while K (α := Nat × Nat) (fun a => [("divisions", .v (.int a.2)), ("delta", .v (.int a.1))]) (fun a => adaptLoop a.1 a.2 = adaptF delta first m) (fun a => a.1) (d + d / m, 0)
     (.cons rfl (.cons rfl .nil)) (by show adaptLoop _ _ = _; rw [adaptF, hd]) fun ⟨x, v⟩ hp => ⟨decide ((455 : Int) < x), by walk_at "ev", fun h => ?_, fun h => ?_⟩
   · simp only [decide_eq_true_eq] at h
     refine wp_assign K (d := .int ((x / 35 : Nat) : Int)) (ev_eqI (by walk_at "ev" <;> decide) (fdivN x 35)) ?_ rfl rfl
     refine wp_aug K rfl (d := .int ((v + 36 : Nat) : Int)) (by walk_at "ev") (op2_eq (op_iadd _ _) (by rw [Int.natCast_add]; rfl)) (wp_nil ?_) rfl rfl
     refine ⟨(x / 35, v + 36), ?_, by show x / 35 < x; lia, .cons rfl (.cons rfl .nil)⟩
     show adaptLoop _ _ = _
     rw [← hp, adaptLoop.eq_def x v, dif_pos (by exact ar59 h)]
   · simp only [decide_eq_false_iff_not] at h
     refine wp_assign K (d := .int ((v + 36 * x / (x + 38) : Nat) : Int)) (ev_eqI (a := (v : Int) + Int.fdiv (36 * (x : Int)) ((x : Int) + 38)) (by walk_at "ev" <;> first | mul_fits | lia) ?_) (wp_ret K (by walk_at "ev") ?_) rfl rfl
     · rw [show (36 * (x : Int)) = ((36 * x : Nat) : Int) by exact ar148, show ((x : Int) + 38) = ((x + 38 : Nat) : Int) by exact ar143, fdivN, Int.natCast_add]
     · show _ = _
       rw [← hp, adaptLoop, dif_neg (by show ¬ 455 < x; exact ar130 h)]
 refine wp_if K (c := first) (evT_val K (ev_name K rfl rfl) (opT_bool _)) (fun h => ?_) (fun h => ?_)
 · refine wp_aug K rfl (d := .int ((delta / 700 : Nat) : Int)) (by walk_at "ev") (op2_eq (op_idiv _ _ (by decide) (by decide)) (by rw [← fdivN]; rfl)) (wp_nil ?_) rfl rfl
   exact rest _ (by rw [h]; rfl)
 · refine wp_aug K rfl (d := .int ((delta / 2 : Nat) : Int)) (by walk_at "ev") (op2_eq (op_idiv _ _ (by decide) (by decide)) (by rw [← fdivN]; rfl)) (wp_nil ?_) rfl rfl
   exact rest _ (by rw [h]; rfl)
end
end
section
section
variable {prog : Program} {w : World} {hB : Heap} {mg mb : Str → Option Value}
theorem fn_ggi (B : Base hB mg mb) (HT : HasFn hB mg p1 2) (H : HasFn hB mg p1 3) (hG : GlobIs hB mg "digits_punycode" (.bytes digs)) (hb1 : mg "bytearray" = none) (hb2 : mg "bytes" = none) (N bias : Nat) (hN : N < 16000000) :
   FnQN prog w hB mg "generate_generalized_integer" [.int N, .int bias] (.bytes ((ggi N 0 bias).map dLow)) 2 := by
 refine fn_recQ B H ["N", "bias"] rfl rfl (fun pm code doc => vals2 fun _ _ => rfl) (fa rfl (fa rfl fa0)) fun pm code doc fa A L h₀ O₀ hg K => ?_
 conv => arg 5; whnf
 have hlenT := ggi_len N 0 bias
 have hZ : sizeLine = 16777216 := sizeLine_eq
 refine wpQ_newBa K hg rfl hb1 ?_ rfl rfl
 refine wpQ_liftN (wp_assign K (d := .int ((0 : Nat) : Int)) (by walk_at "ev") (wp_nil ⟨rfl, ?_⟩) rfl rfl)
 refine wpQ_while K (α := Nat × Nat × List UInt8) (fun a => [("result", .ba a.2.2), ("j", .v (.int a.2.1)), ("N", .v (.int a.1)), ("bias", .v (.int bias))]) (fun a => a.2.2 ++ (ggi a.1 a.2.1 bias).map dLow = (ggi N 0 bias).map dLow) (fun a => a.1) (N, 0, [])
   (.cons rfl (.cons rfl (.cons rfl (.cons rfl .nil)))) rfl fun ⟨N', j, acc⟩ hp => ⟨true, evT_val K (ev_int 1) (opT_int 1), fun _ => ?_, fun h => by cases h⟩
 dsimp only at hp ⊢
 have h1 := tN_pos j bias
 have h2 := tN_le j bias
 have hac : acc.length + (ggi N' j bias).length ≤ N + 1 := by
   have := congrArg List.length hp
   rw [List.length_append, List.length_map, List.length_map] at this; exact ar498 this hlenT
 have hpos : 1 ≤ (ggi N' j bias).length := by have := ggi_ne N' j bias; exact List.length_pos_iff.mpr this
 refine wpQ_liftN (wp_assign K (d := .int (tN j bias)) (ev_fn K (fn_T B HT j bias) rfl (evA_cons K (by walk_at "ev") (evA_cons K (by walk_at "ev") evA_nil))) (wp_nil ⟨rfl, ?_⟩) rfl rfl)
 refine wpQ_if K (c := decide ((N' : Int) < tN j bias)) (by walk_at "ev") (fun h => ?_) (fun h => wpQ_nil ?_)
 · simp only [decide_eq_true_eq] at h
   have hlt : N' < tN j bias := by exact ar208 h
   have hat := digs_at (d := N') (by exact ar206 h h2)
   refine wpQ_baApp K hg rfl rfl (ev_sub K (ev_globIs K hG rfl) (ev_name K rfl rfl) (op_item_bytes (b := dLow N') (by exact ar163) (by decide) (by rw [Int.toNat_natCast]; exact hat))) (by exact ar163) (by have := (dLow N').toNat_lt; exact ar76 this) (by rw [hZ]; exact ar413 hac hN) ?_
   refine wpQ_of_wp (wp_ret K (ev_eq (ev_bytesBa K rfl hb2 rfl rfl (by rw [List.length_append, hZ]; simp only [List.length_cons, List.length_nil]; exact ar412 hac hN)) ?_) rfl)
   rw [byte_back, ← hp, ggi, dif_pos hlt]; rfl
 · simp only [decide_eq_false_iff_not] at h
   have hge : ¬ N' < tN j bias := by exact ar337 h
   have hgl : (ggi N' j bias).length = (ggi ((N' - tN j bias) / (36 - tN j bias)) (j + 1) bias).length + 1 := by rw [ggi.eq_def N', dif_neg hge, List.length_cons]
   have hmod : (N' - tN j bias) % (36 - tN j bias) < 36 - tN j bias := Nat.mod_lt _ (by exact ar125 h2)
   have hat := digs_at (d := tN j bias + (N' - tN j bias) % (36 - tN j bias)) (by exact ar314 hmod)
   have e1 : ((N' : Int) - tN j bias) = ((N' - tN j bias : Nat) : Int) := by exact ar336 h
   have e2 : ((36 : Int) - tN j bias) = ((36 - tN j bias : Nat) : Int) := by exact ar122 h2
   refine wpQ_baApp K hg rfl rfl (ev_sub K (ev_globIs K hG rfl) (ev_eqI (b := ((tN j bias + (N' - tN j bias) % (36 - tN j bias) : Nat) : Int)) (by walk_at "ev" <;> exact ar123 h2) (by rw [e1, e2, fmodN, Int.natCast_add])) (op_item_bytes (b := dLow (tN j bias + (N' - tN j bias) % (36 - tN j bias))) (by exact ar362) (by decide) (by rw [Int.toNat_natCast]; exact hat)))
     (by exact ar163) (by have := (dLow (tN j bias + (N' - tN j bias) % (36 - tN j bias))).toNat_lt; exact ar76 this) (by rw [hZ]; exact ar413 hac hN) ?_
   refine wpQ_of_wp (wp_assign K (d := .int (((N' - tN j bias) / (36 - tN j bias) : Nat) : Int)) (ev_eqI (by walk_at "ev" <;> lia) (by rw [e1, e2, fdivN])) ?_ rfl rfl)
   refine wp_aug K rfl (d := .int ((j + 1 : Nat) : Int)) (by walk_at "ev") (op2_eq (op_iadd _ _) (by rw [Int.natCast_add]; rfl)) (wp_nil ?_) rfl rfl
   have hlt2 : (N' - tN j bias) / (36 - tN j bias) < N' := by
     have : (N' - tN j bias) / (36 - tN j bias) ≤ N' - tN j bias := Nat.div_le_self _ _
     exact ar381 e1 h1 this
   refine ⟨((N' - tN j bias) / (36 - tN j bias), j + 1, _), ?_, hlt2, .cons rfl (.cons rfl (.cons rfl (.cons rfl .nil)))⟩
   show _ ++ _ = _
   rw [byte_back, ← hp, ggi.eq_def N', dif_neg hge, List.map_cons, List.append_assoc]; rfl
end
end
section
section
variable {prog : Program} {w : World} {hB : Heap} {mg mb : Str → Option Value}
theorem fn_gi (B : Base hB mg mb) (HT : HasFn hB mg p1 2) (H3 : HasFn hB mg p1 3) (H4 : HasFn hB mg p1 4) (H : HasFn hB mg p1 5) (hG : GlobIs hB mg "digits_punycode" (.bytes digs)) (hb1 : mg "bytearray" = none) (hb2 : mg "bytes" = none) (hb3 : mg "enumerate" = none)
   (base : Nat) (ds : List Nat) (hds : ∀ d ∈ ds, d < 16000000) (hbase : base + ds.length < 2 ^ 60) (hlen : (gisF base ds 0 72).length ≤ 16000000) :
   FnQN prog w hB mg "generate_integers" [.int base, .lst (ds.map fun d => .int (d : Nat))] (.bytes ((gisF base ds 0 72).map dLow)) 3 := by
 refine fn_recQ B H ["baselen", "deltas"] rfl rfl (fun pm code doc => vals2 fun _ _ => rfl) (fa rfl (fa rfl fa0)) fun pm code doc fa A L h₀ O₀ hg K => ?_
 conv => arg 5; whnf
 have hZ : sizeLine = 16777216 := sizeLine_eq
 refine wpQ_newBa K hg rfl hb1 ?_ rfl rfl
 refine wpQ_liftN (wp_assign K (d := .int ((72 : Nat) : Int)) (by walk_at "ev") (wp_nil ⟨rfl, ?_⟩) rfl rfl)
 have hb : ∀ k, k ≤ ds.length → (gisF base (ds.take k) 0 72).length ≤ 16000000 := fun k _ => by
   have h1 := gisF_append base (ds.take k) (ds.drop k) 0 72
   rw [List.take_append_drop] at h1
   rw [h1, List.length_append] at hlen; exact ar251 hlen
 refine wpQ_forEnum K (l := ds.map fun d => .int (d : Nat)) (fun pre => [("result", .ba ((gisF base (ds.take pre.length) 0 72).map dLow)), ("bias", .v (.int (biasF base (ds.take pre.length) 0 72))), ("baselen", .v (.int base))])
   (fun pre x => [("delta", .v x), ("points", .v (.int pre.length)), ("result", .ba ((gisF base (ds.take pre.length) 0 72).map dLow)), ("bias", .v (.int (biasF base (ds.take pre.length) 0 72))), ("baselen", .v (.int base))])
   (.cons rfl (.cons rfl (.cons rfl .nil))) rfl hb3 rfl rfl (fun pre x post h => as_tup K (asL_cons K (as_name K rfl rfl) (asL_cons K (as_name K rfl rfl) asL_nil))) (fun pre x post h => ?_) ?_
 · have hk : pre.length < ds.length := by
     have := congrArg List.length h
     simp only [List.length_map, List.length_append, List.length_cons] at this; exact ar476 this
   obtain ⟨d, hd⟩ : ∃ d, ds[pre.length]? = some d := ⟨_, List.getElem?_eq_getElem hk⟩
   have hx : x = .int (d : Nat) := by
     have h1 : (ds.map fun d => D.int (d : Nat))[pre.length]? = some x := by rw [h]; simp
     rw [List.getElem?_map, hd] at h1; exact (Option.some.inj h1).symm
   have hdm : d ∈ ds := List.mem_of_getElem? hd
   have htake : ds.take (pre.length + 1) = ds.take pre.length ++ [d] := by rw [List.take_add_one, hd]; rfl
   subst hx
   have hlk : (ds.take pre.length).length = pre.length := by rw [List.length_take]; lia
   have hgis : gisF base (ds.take (pre.length + 1)) 0 72 = gisF base (ds.take pre.length) 0 72 ++ ggi d 0 (biasF base (ds.take pre.length) 0 72) := by
     rw [htake, gisF_append]; simp [gisF]
   have hbf : biasF base (ds.take (pre.length + 1)) 0 72 = adaptF d (pre.length == 0) (base + pre.length + 1) := by
     rw [htake, biasF_append]; simp only [biasF, hlk, Nat.zero_add]
   refine wpQ_assign K (evQ_fn K hg (fn_ggi B HT H3 hG hb1 hb2 d (biasF base (ds.take pre.length) 0 72) (hds d hdm)) rfl (evAQ_of (evA_cons K (by walk_at "ev") (evA_cons K (by walk_at "ev") evA_nil)))) ?_ rfl rfl
   have hl2 := hb (pre.length + 1) hk
   rw [hgis, List.length_append] at hl2
   refine wpQ_baExt K hg rfl rfl (ev_name K rfl rfl) (by rw [List.length_map, List.length_map, hZ]; exact ar250 hl2) ?_
   refine wpQ_liftN (wp_assign K (d := .int (biasF base (ds.take (pre.length + 1)) 0 72)) (ev_fn K (by rw [hbf]; exact (fn_adapt B H4 d (base + pre.length + 1) (pre.length == 0) (by exact ar363) (by exact ar415 hbase hk))) rfl
     (evA_cons K (by walk_at "ev") (evA_cons K (ev_eq (a := .bool ((pre.length : Int) == 0)) (by walk_at "ev") (by congr 1; rw [Bool.eq_iff_iff]; simp)) (evA_cons K (ev_eqI (a := (base : Int) + pre.length + 1) (by walk_at "ev") (by exact ar348)) evA_nil)))) (wp_nil ⟨rfl, wpQ_nil ?_⟩) rfl rfl)
   show Sub _ _
   rw [List.length_append, List.length_singleton]
   refine .cons ?_ (.cons ?_ (.cons rfl .nil))
   · show some (Ent.ba _) = _
     rw [hgis, List.map_append]
   · rfl
 · rw [List.length_map, List.take_length]
   refine wpQ_of_wp (wp_ret K (ev_bytesBa K rfl hb2 rfl rfl (by rw [List.length_map, hZ]; exact ar112 hlen)) rfl)
end
end
section
section
variable {prog : Program} {w : World} {hB : Heap} {mg mb : Str → Option Value}
theorem fn_dgn (B : Base hB mg mb) (HT : HasFn hB mg p1 2) (H : HasFn hB mg p1 6) (ext : List UInt8) (k bias N : Nat) (e : List Nat) (post : List UInt8) (hext : ext.drop k = (ggi N 0 bias).map dUp ++ post) (hsz : ext.length ≤ sizeLine) :
   Fn prog w hB mg "decode_generalized_number" [.bytes ext, .int k, .int bias, .str e] (.tup [.int ((k + (ggi N 0 bias).length : Nat) : Int), .int N]) 2 := by
 refine fn_rec B H ["extended", "extpos", "bias", "errors"] rfl rfl (fun pm code doc => vals4 fun _ _ _ _ => rfl) (fa rfl (fa rfl (fa rfl (fa rfl fa0)))) fun pm code doc fa A L h₀ O₀ K => ?_
 conv => arg 5; whnf
 have hZ : sizeLine = 16777216 := sizeLine_eq
 refine wp_assign K (d := .int ((0 : Nat) : Int)) (by walk_at "ev") ?_ rfl rfl
 refine wp_assign K (d := .int ((1 : Nat) : Int)) (by walk_at "ev") ?_ rfl rfl
 refine wp_assign K (d := .int ((0 : Nat) : Int)) (by walk_at "ev") ?_ rfl rfl
 refine wp_while K (α := Nat × Nat × Nat × Nat × Nat) (fun a => [("extpos", .v (.int a.1)), ("j", .v (.int a.2.1)), ("result", .v (.int a.2.2.2.1)), ("w", .v (.int a.2.2.2.2)), ("extended", .v (.bytes ext)), ("bias", .v (.int bias))])
   (fun a => ext.drop a.1 = (ggi a.2.2.1 a.2.1 bias).map dUp ++ post ∧ a.1 + (ggi a.2.2.1 a.2.1 bias).length = k + (ggi N 0 bias).length ∧ a.2.2.2.1 + a.2.2.2.2 * a.2.2.1 = N) (fun a => (ggi a.2.2.1 a.2.1 bias).length) (k, 0, N, 0, 1)
   (.cons rfl (.cons rfl (.cons rfl (.cons rfl (.cons rfl (.cons rfl .nil)))))) ⟨hext, rfl, by show 0 + 1 * N = N; exact ar144⟩ fun ⟨x, j, N', res, wv⟩ ⟨hp1, hp2, hp3⟩ => ⟨true, evT_val K (ev_int 1) (opT_int 1), fun _ => ?_, fun h => by cases h⟩
 dsimp only at hp1 hp2 hp3 ⊢
 have h1 := tN_pos j bias
 have h2 := tN_le j bias
 obtain ⟨d, ds, hg⟩ : ∃ d ds, ggi N' j bias = d :: ds := by
   cases q : ggi N' j bias with
   | nil => exact absurd q (ggi_ne N' j bias)
   | cons d ds => exact ⟨d, ds, rfl⟩
 have hd36 : d < 36 := ggi_lt N' j bias d (hg ▸ .head _)
 have hat : ext[x]? = some (dUp d) := by
   have := congrArg (·[0]?) hp1
   simp only [List.getElem?_drop, hg, List.map_cons, List.cons_append, List.getElem?_cons_zero, Nat.add_zero] at this
   exact this
 have hnext : ext.drop (x + 1) = ds.map dUp ++ post := by
   have := congrArg (List.drop 1) hp1
   simp only [List.drop_drop, hg, List.map_cons, List.cons_append, List.drop_succ_cons, List.drop_zero] at this
   exact this
 refine wp_try (wp_assign K (d := .int ((dUp d).toNat : Int)) (ev_sub K (ev_name K rfl rfl) (ev_name K rfl rfl) (op_item_bytes (by exact ar163) (by rw [hZ] at hsz; exact ar115 hsz) (by rw [Int.toNat_natCast]; exact hat))) (wp_nil ?_) rfl rfl)
 refine wp_aug K rfl (d := .int ((x + 1 : Nat) : Int)) (by walk_at "ev") (op2_eq (op_iadd _ _) (by rw [Int.natCast_add]; rfl)) ?_ rfl rfl
 have R : Wp prog w (cfgAt p1 6 pm code doc fa A L h₀ O₀) [("digit", .v (.int d)), ("extpos", .v (.int ((x + 1 : Nat) : Int))), ("j", .v (.int j)), ("result", .v (.int res)), ("w", .v (.int wv)), ("extended", .v (.bytes ext)), ("bias", .v (.int bias))]
     ((match (recAt p1 6).body.drop 3 with | (.While _ b _ _ :: _) => b.drop 3 | _ => [])) (LoopEnd prog w (cfgAt p1 6 pm code doc fa A L h₀ O₀) (fun σ' => ∃ a' : Nat × Nat × Nat × Nat × Nat, (ext.drop a'.1 = (ggi a'.2.2.1 a'.2.1 bias).map dUp ++ post ∧ a'.1 + (ggi a'.2.2.1 a'.2.1 bias).length = k + (ggi N 0 bias).length ∧ a'.2.2.2.1 + a'.2.2.2.2 * a'.2.2.1 = N) ∧ (ggi a'.2.2.1 a'.2.1 bias).length < (ggi N' j bias).length ∧
       Sub [("extpos", .v (.int a'.1)), ("j", .v (.int a'.2.1)), ("result", .v (.int a'.2.2.2.1)), ("w", .v (.int a'.2.2.2.2)), ("extended", .v (.bytes ext)), ("bias", .v (.int bias))] σ') [] (RetIs (.tup [.int ((k + (ggi N 0 bias).length : Nat) : Int), .int N]))) := by
   conv => arg 5; whnf
   refine wp_assign K (d := .int (tN j bias)) (ev_fn K (fn_T B HT j bias) rfl (evA_cons K (by walk_at "ev") (evA_cons K (by walk_at "ev") evA_nil))) ?_ rfl rfl
   refine wp_aug K rfl (d := .int ((res + d * wv : Nat) : Int)) (ev_eqI (b := ((d * wv : Nat) : Int)) (by walk_at "ev"; exact IntMulOk.of_left (intBits_le_64 (by exact ar159) (by exact ar87 hd36))) (by rw [Int.natCast_mul])) (op2_eq (op_iadd _ _) (by rw [Int.natCast_add])) ?_ rfl rfl
   refine wp_if K (c := decide ((d : Int) < tN j bias)) (by walk_at "ev") (fun h => ?_) (fun h => wp_nil ?_)
   · simp only [decide_eq_true_eq] at h
     have hlt : N' < tN j bias := by
       by_cases q : N' < tN j bias
       · exact q
       · rw [ggi, dif_neg q] at hg
         have := (List.cons.inj hg).1
         exact ar493 h this
     rw [ggi, dif_pos hlt] at hg
     obtain ⟨rfl, rfl⟩ := List.cons.inj hg
     refine wp_ret K (ev_tup K (evA_cons K (by walk_at "ev") (evA_cons K (by walk_at "ev") evA_nil)) (by show 2 ≤ sizeLine; decide)) ?_
     show _ = _
     rw [← hp2, ← hp3, ggi, dif_pos hlt, Nat.mul_comm wv N']; rfl
   · simp only [decide_eq_false_iff_not] at h
     have hge : ¬ N' < tN j bias := fun q => by
       rw [ggi, dif_pos q] at hg
       have := (List.cons.inj hg).1
       exact ar433 q this h
     rw [ggi, dif_neg hge] at hg
     obtain ⟨hd, hds⟩ := List.cons.inj hg
     refine wp_assign K (d := .int ((wv * (36 - tN j bias) : Nat) : Int)) (ev_eqI (by walk_at "ev"; exact IntMulOk.of_right (intBits_le_64 (by exact ar124 h2) (by exact ar149))) (by rw [Int.natCast_mul]; congr 1; exact ar122 h2)) ?_ rfl rfl
     refine wp_aug K rfl (d := .int ((j + 1 : Nat) : Int)) (by walk_at "ev") (op2_eq (op_iadd _ _) (by rw [Int.natCast_add]; rfl)) (wp_nil ?_) rfl rfl
     refine ⟨(x + 1, j + 1, (N' - tN j bias) / (36 - tN j bias), res + d * wv, wv * (36 - tN j bias)), ⟨?_, ?_, ?_⟩, ?_, .cons rfl (.cons rfl (.cons rfl (.cons rfl (.cons rfl (.cons rfl .nil)))))⟩
     · show ext.drop (x + 1) = _; rw [hnext, hds]
     · show x + 1 + (ggi ((N' - tN j bias) / (36 - tN j bias)) (j + 1) bias).length = _
       rw [← hp2, ggi.eq_def N', dif_neg hge, List.length_cons]; exact ar353
     · show res + d * wv + wv * (36 - tN j bias) * ((N' - tN j bias) / (36 - tN j bias)) = N
       rw [← hp3, ← hd]
       have hdm := Nat.div_add_mod (N' - tN j bias) (36 - tN j bias)
       generalize (N' - tN j bias) / (36 - tN j bias) = qq at *
       generalize (N' - tN j bias) % (36 - tN j bias) = rr at *
       have e1 : N' = tN j bias + rr + (36 - tN j bias) * qq := by exact ar505 hdm hge
       rw [e1, Nat.mul_assoc, Nat.mul_add wv, Nat.mul_comm wv (tN j bias + rr)]
       exact ar488
     · show (ggi ((N' - tN j bias) / (36 - tN j bias)) (j + 1) bias).length < _
       rw [ggi.eq_def N', dif_neg hge, List.length_cons]; exact ar177
 by_cases hd26 : d < 26
 · have hv := dUp_low hd26
   have b1 : (decide ((65 : Int) ≤ ((dUp d).toNat : Int)) && decide (((dUp d).toNat : Int) ≤ 90)) = true := by rw [hv]; simp only [Bool.and_eq_true, decide_eq_true_eq]; exact ar84 hd26
   refine wp_if K (c := true) (evT_eq (evT_chain K (ev_int 65) (ev_name K rfl rfl) (ev_int 90) (op_le _ _) (op_le _ _)) b1) (fun _ => ?_) (fun h => by cases h)
   refine wp_assign K (d := .int (d : Int)) (ev_eqI (by walk_at "ev") (by rw [hv]; exact ar136)) (wp_nil ?_) rfl rfl
   exact R.sub (.cons rfl (.cons rfl (.cons rfl (.cons rfl (.cons rfl (.cons rfl (.cons rfl .nil)))))))
 · have hv := dUp_high hd26 hd36
   have b1 : (decide ((65 : Int) ≤ ((dUp d).toNat : Int)) && decide (((dUp d).toNat : Int) ≤ 90)) = false := by rw [hv]; simp only [Bool.and_eq_false_iff, decide_eq_false_iff_not]; exact ar88 hd36
   have b2 : (decide ((48 : Int) ≤ ((dUp d).toNat : Int)) && decide (((dUp d).toNat : Int) ≤ 57)) = true := by rw [hv]; simp only [Bool.and_eq_true, decide_eq_true_eq]; exact ar86 hd36 hd26
   refine wp_if K (c := false) (evT_eq (evT_chain K (ev_int 65) (ev_name K rfl rfl) (ev_int 90) (op_le _ _) (op_le _ _)) b1) (fun h => by cases h) (fun _ => ?_)
   refine wp_if K (c := true) (evT_eq (evT_chain K (ev_int 48) (ev_name K rfl rfl) (ev_int 57) (op_le _ _) (op_le _ _)) b2) (fun _ => ?_) (fun h => by cases h)
   refine wp_assign K (d := .int (d : Int)) (ev_eqI (by walk_at "ev") (by rw [hv]; exact ar135)) (wp_nil (wp_nil ?_)) rfl rfl
   exact R.sub (.cons rfl (.cons rfl (.cons rfl (.cons rfl (.cons rfl (.cons rfl (.cons rfl .nil)))))))
end
end
section
section
variable {prog : Program} {w : World} {hB : Heap} {mg mb : Str → Option Value}
theorem fn_ins (B : Base hB mg mb) (HT : HasFn hB mg p1 2) (H4 : HasFn hB mg p1 4) (H6 : HasFn hB mg p1 6) (H : HasFn hB mg p1 7) (hb1 : mg "len" = none) (hb2 : mg "chr" = none)
   (base ds : List Nat) (e : List Nat) (hok : insOk ds base.length 128 0) (hlen : base.length + ds.length ≤ 16000000) (hsz : (gisF base.length ds 0 72).length ≤ 16000000) :
   Fn prog w hB mg "insertion_sort" [.str base, .bytes ((gisF base.length ds 0 72).map dUp), .str e] (.str (insF ds base 128 0)) 3 := by
 refine fn_rec B H ["base", "extended", "errors"] rfl rfl (fun pm code doc => vals3 fun _ _ _ => rfl) (fa rfl (fa rfl (fa rfl fa0))) fun pm code doc fa A L h₀ O₀ K => ?_
 conv => arg 5; whnf
 have hZ : sizeLine = 16777216 := sizeLine_eq
 generalize hext : (gisF base.length ds 0 72).map dUp = ext
 have hel : ext.length ≤ 16000000 := by rw [← hext, List.length_map]; exact hsz
 refine wp_assign K (d := .int ((128 : Nat) : Int)) (by walk_at "ev") ?_ rfl rfl
 refine wp_assign K (d := .int (((0 : Nat) : Int) - 1)) (ev_eqI (by walk_at "ev") rfl) ?_ rfl rfl
 refine wp_assign K (d := .int ((72 : Nat) : Int)) (by walk_at "ev") ?_ rfl rfl
 refine wp_assign K (d := .int ((0 : Nat) : Int)) (by walk_at "ev") ?_ rfl rfl
 refine wp_while K (α := List Nat × List Nat × List Nat × Nat × Nat × Nat)
   (fun a => [("base", .v (.str a.2.2.1)), ("char", .v (.int a.2.2.2.1)), ("pos", .v (.int ((a.2.2.2.2.1 : Int) - 1))), ("bias", .v (.int (biasF base.length a.1 0 72))), ("extpos", .v (.int a.2.2.2.2.2)), ("extended", .v (.bytes ext)), ("errors", .v (.str e))])
   (fun a => insF a.2.1 a.2.2.1 a.2.2.2.1 a.2.2.2.2.1 = insF ds base 128 0 ∧ insOk a.2.1 a.2.2.1.length a.2.2.2.1 a.2.2.2.2.1 ∧ a.2.2.1.length = base.length + a.1.length ∧ a.1.length + a.2.1.length = ds.length ∧
     ext.drop a.2.2.2.2.2 = (gisF base.length a.2.1 a.1.length (biasF base.length a.1 0 72)).map dUp ∧ (a.2.2.2.2.2 = 0 ↔ a.1.length = 0)) (fun a => a.2.1.length) ([], ds, base, 128, 0, 0)
   (.cons rfl (.cons rfl (.cons rfl (.cons rfl (.cons rfl (.cons rfl (.cons rfl .nil))))))) ⟨rfl, hok, by simp, by simp, by rw [← hext]; rfl, by simp⟩ ?_
 rintro ⟨done, todo, b', c', p', x⟩ ⟨q1, q2, q3, q4, q5, q6⟩
 dsimp only at q1 q2 q3 q4 q5 q6 ⊢
 refine ⟨decide ((x : Int) < (ext.length : Int)), by
   refine evT_cmp K (ev_name K rfl rfl) (ev_callF K rfl hb1 (by decide +kernel) (evA_cons K (ev_name K rfl rfl) evA_nil) (fn_len_bytes _ (by exact ar290 hel hZ))) (op_lt _ _), fun h => ?_, fun h => ?_⟩
 · simp only [decide_eq_true_eq] at h
   obtain ⟨d, rest, rfl⟩ : ∃ d rest, todo = d :: rest := by
     cases todo with
     | nil =>
       have := congrArg List.length q5
       simp only [List.length_drop, gisF, List.map_nil, List.length_nil] at this
       lia
     | cons d rest => exact ⟨d, rest, rfl⟩
   simp only [List.length_cons] at q4
   simp only [gisF, List.map_append] at q5
   have hL : b'.length ≤ 16000000 := by exact ar524 q4 hlen q3
   refine wp_unpack K (ev_fn K (fn_dgn B HT H6 ext x (biasF base.length done 0 72) d e _ q5 (by exact ar290 hel hZ)) rfl (evA_cons K (by walk_at "ev") (evA_cons K (by walk_at "ev") (evA_cons K (by walk_at "ev") (evA_cons K (by walk_at "ev") evA_nil)))))
     (asL_cons K (as_name K rfl rfl) (asL_cons K (as_name K rfl rfl) asL_nil)) ?_
   refine wp_if K (c := false) (evT_cmp K (ev_name K rfl rfl) ev_none (op_isNone _)) (fun h => by cases h) (fun _ => wp_nil ?_)
   refine wp_aug K rfl (d := .int ((p' + d : Nat) : Int)) (by walk_at "ev") (op2_eq (op_iadd _ _) (by congr 1; exact ar349)) ?_ rfl rfl
   have lenEv : ∀ {σ : Loc} {t : List Nat} {fp cp np : Pos}, List.lookup ("base" : Str) σ = some (Ent.v (.str t)) → t.length ≤ sizeLine → Ev prog w (cfgAt p1 7 pm code doc fa A L h₀ O₀) false σ (.Call (.Name "len" fp) [.Name "base" np] [] cp) (.int t.length) := fun hx hs =>
     ev_callF K rfl hb1 (by decide +kernel) (evA_cons K (ev_name K hx rfl) evA_nil) (fn_len_str _ hs)
   have l1 : ∀ {σ : Loc} {fp cp np p2 p3 : Pos} {k : Nat}, List.lookup ("base" : Str) σ = some (Ent.v (.str b')) → Ev prog w (cfgAt p1 7 pm code doc fa A L h₀ O₀) false σ (.BinOp (.Call (.Name "len" fp) [.Name "base" np] [] cp) .Add (.Constant (.int 1) k p2) p3) (.int ((b'.length + 1 : Nat) : Int)) := fun hx =>
     ev_eqI (ev_bin K (lenEv hx (by exact ar290 hL hZ)) (ev_int 1) (op_add _ _)) (by rw [Int.natCast_add]; rfl)
   refine wp_aug K rfl (d := .int ((c' + (p' + d) / (b'.length + 1) : Nat) : Int)) (ev_eqI (b := (((p' + d) / (b'.length + 1) : Nat) : Int)) (ev_bin K (ev_name K rfl rfl) (l1 rfl) (op_div _ _ (by exact ar141) (by omega))) (fdivN _ _)) (op2_eq (op_iadd _ _) (by rw [Int.natCast_add])) ?_ rfl rfl
   have hc : c' + (p' + d) / (b'.length + 1) ≤ 1114111 := q2.1
   refine wp_if K (c := decide ((1114111 : Int) < ((c' + (p' + d) / (b'.length + 1) : Nat) : Int))) (evT_cmp K (ev_name K rfl rfl) (ev_int 1114111) (op_gt _ _)) (fun h => by simp only [decide_eq_true_eq] at h; omega) (fun _ => wp_nil ?_)
   refine wp_assign K (d := .int (((p' + d) % (b'.length + 1) : Nat) : Int)) (ev_eqI (ev_bin K (ev_name K rfl rfl) (l1 rfl) (op_mod _ _ (by exact ar141))) (fmodN _ _)) ?_ rfl rfl
   have hp : (p' + d) % (b'.length + 1) ≤ b'.length := Nat.lt_succ_iff.mp (Nat.mod_lt _ (Nat.succ_pos _))
   generalize hP : (p' + d) % (b'.length + 1) = P at *
   generalize hCh : c' + (p' + d) / (b'.length + 1) = Ch at *
   have hnl := ins_len b' P Ch
   refine wp_assign K (d := .str (b'.take P ++ Ch :: b'.drop P)) (ev_eq (a := .str ((slc b' none (some (P : Int)) ++ [((Ch : Nat) : Int).toNat]) ++ slc b' (some (P : Int)) none))
     (ev_bin K (ev_bin K (ev_slice K (ev_name K rfl rfl) evP_none (evP_some K (ev_name K rfl rfl)) (opSl_str _ _ (by exact ar290 hL hZ)))
       (ev_callF K rfl hb2 (by decide +kernel) (evA_cons K (ev_name K rfl rfl) evA_nil) (fn_chr _ (by exact ar163) (by exact ar106 hc))) (op_cat _ _ (by rw [slc_take _ hp, List.length_take]; simp only [List.length_singleton]; exact ar478 hL hZ)))
       (ev_slice K (ev_name K rfl rfl) (evP_some K (ev_name K rfl rfl)) evP_none (opSl_str _ _ (by exact ar290 hL hZ))) (op_cat _ _ (by rw [slc_take _ hp, slc_drop _ hp, List.length_append, List.length_take, List.length_drop]; simp only [List.length_singleton]; exact ar477 hL hZ)))
     (by rw [slc_take _ hp, slc_drop _ hp, Int.toNat_natCast, List.append_assoc]; rfl)) ?_ rfl rfl
   refine wp_assign K (d := .int (biasF base.length (done ++ [d]) 0 72)) (ev_fn K (by
       have e1 : biasF base.length (done ++ [d]) 0 72 = adaptF d (done.length == 0) (base.length + done.length + 1) := by rw [biasF_append]; simp only [biasF, Nat.zero_add]
       rw [e1]
       exact fn_adapt B H4 d (base.length + done.length + 1) (done.length == 0) (by exact ar363) (by exact ar480 q3 hL)) rfl
     (evA_cons K (ev_name K rfl rfl) (evA_cons K (ev_eq (a := .bool ((x : Int) == 0)) (by walk_at "ev") (by congr 1; rw [Bool.eq_iff_iff]; simp [q6])) (evA_cons K (ev_eqI (lenEv rfl (by exact ar439 hnl hZ hL)) (by rw [hnl, q3])) evA_nil)))) ?_ rfl rfl
   refine wp_assign K (d := .int ((x + (ggi d 0 (biasF base.length done 0 72)).length : Nat) : Int)) (by walk_at "ev") (wp_nil ?_) rfl rfl
   refine ⟨(done ++ [d], rest, b'.take P ++ Ch :: b'.drop P, Ch, P + 1, x + (ggi d 0 (biasF base.length done 0 72)).length), ⟨?_, ?_, ?_, ?_, ?_, ?_⟩, by show rest.length < rest.length + 1; exact ar177, ?_⟩
   · show insF rest _ Ch (P + 1) = _
     rw [← q1, insF, hP, hCh]
   · show insOk rest _ Ch (P + 1)
     rw [hnl]
     have := q2.2
     rw [hP, hCh] at this; exact this
   · show _ = base.length + (done ++ [d]).length
     rw [hnl, q3, List.length_append, List.length_singleton]; exact ar356
   · show (done ++ [d]).length + rest.length = _
     rw [List.length_append, List.length_singleton]; exact ar405 q4
   · show ext.drop _ = _
     have e2 : biasF base.length (done ++ [d]) 0 72 = adaptF d (done.length == 0) (base.length + done.length + 1) := by rw [biasF_append]; simp only [biasF, Nat.zero_add]
     rw [← List.drop_drop, q5, List.drop_left' (by rw [List.length_map]), e2, List.length_append, List.length_singleton]
   · show _ = 0 ↔ (done ++ [d]).length = 0
     have := List.length_pos_iff.mpr (ggi_ne d 0 (biasF base.length done 0 72))
     rw [List.length_append, List.length_singleton]
     exact ⟨fun h => absurd h (by dsimp only; exact ar219 this), fun h => by exact ar255 h⟩
   · refine .cons rfl (.cons rfl (.cons ?_ (.cons rfl (.cons rfl (.cons rfl (.cons rfl .nil))))))
     show some (Ent.v (.int ((P : Nat) : Int))) = some (Ent.v (.int (((P + 1 : Nat) : Int) - 1)))
     congr 3; exact ar154
 · simp only [decide_eq_false_iff_not] at h
   have ht : todo = [] := by
     cases todo with
     | nil => rfl
     | cons d rest =>
       have := congrArg List.length q5
       have h2 := List.length_pos_iff.mpr (ggi_ne d 0 (biasF base.length done 0 72))
       simp only [List.length_drop, gisF, List.map_append, List.length_append, List.length_map] at this
       omega
   subst ht
   refine wp_ret K (ev_name K rfl rfl) ?_
   show D.str b' = _
   rw [← q1]; rfl
end
end
section
section
variable {prog : Program} {w : World} {hB : Heap} {mg mb : Str → Option Value}
theorem fn_pd (B : Base hB mg mb) (HT : HasFn hB mg p1 2) (H4 : HasFn hB mg p1 4) (H6 : HasFn hB mg p1 6) (H7 : HasFn hB mg p1 7) (H : HasFn hB mg p1 8)
   (hb1 : mg "len" = none) (hb2 : mg "chr" = none) (hb3 : mg "isinstance" = none) (hb4 : mg "str" = none) (hb5 : mg "memoryview" = none)
   (base ds : List Nat) (e : List Nat) (he : e = strictL ∨ e = ignoreL ∨ e = replaceL) (hne : base ≠ []) (hasc : ∀ c ∈ base, c < 128) (hok : insOk ds base.length 128 0) (hlen : base.length + ds.length ≤ 1000000) (hsz : (gisF base.length ds 0 72).length ≤ 1000000) :
   Fn prog w hB mg "punycode_decode" [.str (base ++ 45 :: (gisF base.length ds 0 72).map fun d => (dLow d).toNat), .str e] (.str (insF ds base 128 0)) 4 := by
 refine fn_rec B H ["text", "errors"] rfl rfl (fun pm code doc => vals2 fun _ _ => rfl) (fa rfl (fa rfl fa0)) fun pm code doc fa A L h₀ O₀ K => ?_
 conv => arg 5; whnf
 have hZ : sizeLine = 16777216 := sizeLine_eq
 have hd36 : ∀ d ∈ gisF base.length ds 0 72, d < 36 := gisF_lt _ _ _ _
 generalize hG : gisF base.length ds 0 72 = G at *
 have hbs : (base ++ 45 :: G.map fun d => (dLow d).toNat).map (fun c => c.toUInt8) = base.map (fun c => c.toUInt8) ++ 45 :: G.map dLow := by
   rw [List.map_append, List.map_cons, List.map_map]
   congr 2
   refine List.map_congr_left fun d _ => ?_
   exact UInt8.ofNat_toNat
 refine wp_if K (c := true) (evT_isinst K rfl hb3 rfl hb4 (by decide +kernel) (ev_name K rfl rfl) (is_str _)) (fun _ => ?_) (fun h => by cases h)
 refine wp_assign K (d := .bytes (base.map (fun c => c.toUInt8) ++ 45 :: G.map dLow)) (ev_eq (ev_meth K (hasT_str _) F.plainAttrs_str F.slot_str_encode F.type_str_encode (ev_name K rfl rfl) (evA_cons K (ev_str rfl) evA_nil) (fn_encode _ ?_ ?_)) (by rw [hbs])) (wp_nil ?_) rfl rfl
 · intro c hc
   rcases List.mem_append.mp hc with hc | hc
   · exact hasc c hc
   · rcases List.mem_cons.mp hc with rfl | hc
     · decide
     · obtain ⟨d, hd, rfl⟩ := List.mem_map.mp hc
       exact dLow_lt (hd36 d hd)
 · simp only [List.length_append, List.length_cons, List.length_map]; exact ar501 hlen hsz hZ
 refine wp_if K (c := false) (evT_isinst K rfl hb3 rfl hb5 (by decide +kernel) (ev_name K rfl rfl) (isnt_mv _)) (fun h => by cases h) (fun _ => wp_nil ?_)
 refine wp_assign K (d := .int base.length) (ev_eqI (ev_meth K (hasT_bytes _) FB.plainAttrs_bytes S.slot_bytes_rfind S.type_bytes_rfind (ev_name K rfl rfl) (evA_cons K ev_bytesC evA_nil) (fn_rfind (base.map fun c => c.toUInt8) (G.map dLow) 45 (fun hm => by
   obtain ⟨d, hd, h⟩ := List.mem_map.mp hm
   exact dLow_hyphen (hd36 d hd) h))) (by rw [List.length_map])) ?_ rfl rfl
 refine wp_if K (c := false) (evT_eq (b := false) (a := ((base.length : Int) == -1)) (by walk_at "ev") (by rw [beq_eq_false_iff_ne]; exact ar155)) (fun h => by cases h) (fun _ => ?_)
 have htl : (base.map (fun c => c.toUInt8) ++ 45 :: G.map dLow).length = base.length + 1 + G.length := by simp only [List.length_append, List.length_cons, List.length_map]; exact ar369
 have hbm : base.map (fun c => c.toUInt8) ≠ [] := fun h => hne (List.map_eq_nil_iff.mp h)
 have hback : (base.map (fun c => c.toUInt8)).map (fun c => c.toNat) = base := by
   rw [List.map_map]
   refine (List.map_congr_left fun c hc => ?_).trans (List.map_id _)
   show c % 256 = c
   have := hasc c hc; lia
 refine wp_try (wp_assign K (d := .str base) (ev_eq (ev_callT K rfl hb4 (by decide +kernel) (evA_cons K (ev_eq (ev_slice K (ev_name K rfl rfl) evP_none (evP_some K (ev_name K rfl rfl)) (opSl_bytes _ _ (by exact ar529 hlen htl hZ hsz))) (b := .bytes (base.map fun c => c.toUInt8)) (by
     rw [slc_take _ (by exact ar474 htl), List.take_left' (by rw [List.length_map])])) (evA_cons K (ev_str rfl) (evA_cons K (ev_name K rfl rfl) evA_nil))) (fn_strDec _ e he hbm (fun c hc => by
     obtain ⟨x, hx, rfl⟩ := List.mem_map.mp hc
     show x % 256 < 128
     have := hasc x hx; exact ar72 this) (by rw [List.length_map]; exact ar416 hlen hZ))) (by rw [hback])) (wp_nil ?_) rfl rfl)
 refine wp_assign K (d := .bytes (G.map dUp)) (ev_eq (ev_meth0 K (hasT_bytes _) FB.plainAttrs_bytes S.slot_bytes_upper S.type_bytes_upper
   (ev_eq (ev_slice K (ev_name K rfl rfl) (evP_some K (ev_eqI (b := ((base.length + 1 : Nat) : Int)) (by walk_at "ev") (by rw [Int.natCast_add]; rfl))) evP_none (opSl_bytes _ _ (by exact ar529 hlen htl hZ hsz))) (b := .bytes (G.map dLow)) (by
     rw [slc_drop _ (by exact ar473 htl), List.append_cons, List.drop_left' (by rw [List.length_append, List.length_map, List.length_singleton])])) (fn_upper _ (by rw [List.length_map]; exact ar288 hsz hZ))) (by
     rw [List.map_map]; congr 1; exact List.map_congr_left fun d hd => up_low d (hd36 d hd))) (wp_nil ?_) rfl rfl
 refine wp_try (wp_ret K (ev_fn K (f := "insertion_sort") (k := 3) (by
   have := fn_ins (prog := prog) (w := w) B HT H4 H6 H7 hb1 hb2 base ds e hok (by exact ar249 hlen) (by rw [hG]; exact ar103 hsz)
   rw [hG] at this; exact this) rfl (evA_cons K (ev_name K rfl rfl) (evA_cons K (ev_name K rfl rfl) (evA_cons K (ev_name K rfl rfl) evA_nil)))) rfl)
end
end
section
noncomputable def escU (c : Nat) : List Nat := [61, hexU (c / 16), hexU (c % 16)]
noncomputable def quoMap : List D := (List.range 256).map fun c => .str (escU c)
section
variable {prog : Program} {w : World} {hB : Heap} {mg mb : Str → Option Value}
theorem fn_quote (B : Base hB mg mb) (H : HasFn hB mg p1 1) (hb1 : mg "ord" = none) (hG : GlobIs hB mg "_QUOPRI_MAP" (.lst quoMap)) (c : Nat) (hc : c < 256) : Fn prog w hB mg "quote" [.str [c]] (.str (escU c)) 1 := by
 refine fn_rec B H ["c"] rfl rfl (fun pm code doc => vals1 fun _ => rfl) (fa rfl fa0) fun pm code doc fa A L h₀ O₀ K => ?_
 conv => arg 5; whnf
 refine wp_ret K (ev_sub K (ev_globIs K hG rfl) (ev_callF K rfl hb1 (by decide +kernel) (evA_cons K (ev_name K rfl rfl) evA_nil) (fn_ord c)) (op_item_lst (d := .str (escU c)) (by exact ar163) (by exact ar80 hc) ?_)) rfl
 rw [Int.toNat_natCast]
 unfold quoMap
 rw [List.getElem?_map, List.getElem?_range hc]; rfl
theorem fn_unquote (B : Base hB mg mb) (H : HasFn hB mg p1 0) (hb1 : mg "chr" = none) (hb2 : mg "int" = none) (c : Nat) (hc : c < 256) : Fn prog w hB mg "unquote" [.str (escU c)] (.str [c]) 1 := by
 refine fn_rec B H ["s"] rfl rfl (fun pm code doc => vals1 fun _ => rfl) (fa rfl fa0) fun pm code doc fa A L h₀ O₀ K => ?_
 conv => arg 5; whnf
 have e1 : 16 * (c / 16) + c % 16 = c := Nat.div_add_mod c 16
 refine wp_ret K (ev_eq (ev_callF K rfl hb1 (by decide +kernel) (evA_cons K (ev_callT K rfl hb2 (by decide +kernel) (evA_cons K (ev_eq (ev_slice K (ev_name K rfl rfl) (evP_some K (ev_int 1)) (evP_some K (ev_int 3)) (opSl_str _ _ (by show 3 ≤ sizeLine; decide))) (b := .str [hexU (c / 16), hexU (c % 16)]) rfl) (evA_cons K (ev_int 16) evA_nil)) (fn_int16 (c / 16) (c % 16) (by exact ar81 hc) (by exact ar170))) evA_nil) (fn_chr _ (by exact ar160) (by exact ar77 hc))) (by rw [Int.toNat_natCast, e1])) rfl
end
end
section
noncomputable def hexD : List Nat := [48, 49, 50, 51, 52, 53, 54, 55, 56, 57, 97, 98, 99, 100, 101, 102, 65, 66, 67, 68, 69, 70]
noncomputable def rstripL (l : List Nat) : List Nat := (Txt.rstrip ⟨l.toArray⟩).cps.toList
noncomputable def unqU (a b : Nat) : Nat := 16 * (if a < 58 then a - 48 else a - 55) + (if b < 58 then b - 48 else b - 55)
theorem unq_hex (x y : Nat) (hx : x < 16) (hy : y < 16) : unqU (hexU x) (hexU y) = 16 * x + y := (show ∀ x < 16, ∀ y < 16, unqU (hexU x) (hexU y) = 16 * x + y by decide) x hx y hy
noncomputable def decLine (eol : List Nat) : List Nat → List Nat
 | [] => eol
 | [c] => if c = 61 then [] else c :: eol
 | [c, a] => c :: decLine eol [a]
 | c :: a :: b :: r => if c = 61 ∧ a ∈ hexD ∧ b ∈ hexD then unqU a b :: decLine eol r else c :: decLine eol (a :: b :: r)
noncomputable def decOk : List Nat → Prop
 | [] => True
 | [_] => True
 | [_, _] => True
 | c :: a :: b :: r => if c = 61 ∧ a ∈ hexD ∧ b ∈ hexD then (∃ x < 256, [61, a, b] = escU x) ∧ decOk r else decOk (a :: b :: r)
noncomputable def decAll (eol : List Nat) (ls : List (List Nat)) : List Nat := ls.flatMap fun l => decLine eol (rstripL l)
theorem decLine_len (eol : List Nat) : ∀ (l : List Nat), (decLine eol l).length ≤ l.length + eol.length
 | [] => by rw [decLine]; simp
 | [c] => by rw [decLine]; split <;> simp; exact ar174
 | [c, a] => by
   rw [decLine]
   have := decLine_len eol [a]
   simp only [List.length_cons, List.length_nil] at this ⊢; exact ar274 this
 | c :: a :: b :: r => by
   rw [decLine]
   split
   · have := decLine_len eol r
     simp only [List.length_cons]; exact ar460 this
   · have := decLine_len eol (a :: b :: r)
     simp only [List.length_cons] at this ⊢; exact ar443 this
theorem decLine_ne {eol : List Nat} {c : Nat} (h : c ≠ 61) : ∀ r : List Nat, decLine eol (c :: r) = c :: decLine eol r
 | [] => by rw [decLine, decLine, if_neg h]
 | [a] => by rw [decLine.eq_3]
 | a :: b :: r => by rw [decLine, if_neg fun q => h q.1]
theorem decOk_ne {c : Nat} (h : c ≠ 61) : ∀ r : List Nat, decOk (c :: r) → decOk r
 | [], _ => trivial
 | [a], _ => trivial
 | a :: b :: r, q => by rw [decOk, if_neg fun q => h q.1] at q; exact q
theorem linesGo_mem : ∀ (n : Nat) (l cur : List Nat), l.length ≤ n → ∀ x ∈ linesGo cur l, x.length ≤ cur.length + l.length
 | _, [], cur, _, x, hx => by
   rw [linesGo] at hx
   split at hx
   · cases hx
   · rw [List.mem_singleton.mp hx]; simp
 | 0, c :: r, cur, h, _, _ => by simp at h
 | n + 1, c :: r, cur, h, x, hx => by
   simp only [List.length_cons] at h ⊢
   rw [linesGo] at hx
   split at hx
   · rcases List.mem_cons.mp hx with rfl | hx
     · exact ar374
     · have h2 := skipLf_le c r
       have := linesGo_mem n (skipLf c r) [] (by exact ar427 h h2) x hx
       simp only [List.length_nil] at this; exact ar508 this h2
   · have := linesGo_mem n r (cur ++ [c]) (by exact ar240 h) x hx
     simp only [List.length_append, List.length_singleton] at this; exact ar447 this
theorem linesL_mem (l x : List Nat) (h : x ∈ linesL l) : x.length ≤ l.length := by
 have := linesGo_mem l.length l [] (Nat.le_refl _) x h
 simpa using this
open Builtin Builtin.Str in
theorem rstripL_le (l : List Nat) : (rstripL l).length ≤ l.length := by
 obtain ⟨_, h0, _, _⟩ := hi_facts Unicode.isSpace ⟨l.toArray⟩ 0 (Nat.zero_le _)
 have hr : Txt.rstrip ⟨l.toArray⟩ = strSub ⟨l.toArray⟩ 0 (stripHi Unicode.isSpace true ⟨l.toArray⟩ 0) := by unfold Txt.rstrip; rw [PyProof.Rows.stripBy_eq]; rfl
 unfold rstripL
 rw [hr, sub_list]
 simp only [Nat.sub_zero, List.drop_zero, List.length_take]
 exact Nat.min_le_right _ _
theorem item_at (l : List Nat) {i : Nat} {c : Nat} {r : List Nat} (h : l.drop i = c :: r) : l[i]? = some c := by
 have := congrArg (·[0]?) h
 simpa using this
section
variable {prog : Program} {w : World} {hB : Heap} {mg mb : Str → Option Value}
theorem evT_eqAll {C : Cfg} {σ : Loc} {op : BoolOp} {es : List Expr} {a b : Bool} (h : EvAll prog w C op σ es a) (q : a = b) : EvAll prog w C op σ es b := q ▸ h
theorem op_item (K : True) (l : List Nat) {i : Nat} {c : Nat} {r : List Nat} (h : l.drop i = c :: r) (hsz : l.length < 2 ^ 62) : Op2 prog w hB getItem (.str l) (.int (i : Int)) (.str [c]) := by
 have h1 := item_at l h
 have h2 : i < l.length := (List.getElem?_eq_some_iff.mp h1).1
 exact op_item_str (j := i) (by exact ar158) (by exact ar261 h2 hsz) (by rw [seqIndex_of (by exact ar163) (by exact ar263 h2), Int.toNat_natCast]) h1
theorem dec_walk (H0 : HasFn hB mg p1 0) (hb1 : mg "len" = none) (hb2 : mg "chr" = none) (hb3 : mg "int" = none) (hG : GlobIs hB mg "hexdigits" (.str hexD))
   (enc eol out : List Nat) (last : Nat) (hlast : enc.getLast? = some last) (hl13 : last ≠ 13) (hl10 : last ≠ 10) (heol : eol ≠ []) (hsz : enc.length ≤ 1000000) (hout : decAll eol (linesL enc) = out ++ eol) (hosz : (out ++ eol).length ≤ 1000000) (hok : ∀ l ∈ linesL enc, decOk (rstripL l))
   {pm code doc : Value} {T fa : Addr} {A : Around} {LL : Addr} {h₀ : Heap} {O₀ : List Addr} (K : Ok prog w hB mg mb (cfgAtW p1 1 pm code doc T fa A LL h₀ O₀) 1) (B : Base hB mg mb) :
   Wp prog w (cfgAtW p1 1 pm code doc T fa A LL h₀ O₀) [("eol", .v (.str eol)), ("encoded", .v (.str enc))] (recAtW p1 1).body (RetIs (.str out)) := by
 conv => arg 5; whnf
 have hZ : sizeLine = 16777216 := sizeLine_eq
 have hene : enc ≠ [] := fun h => by rw [h] at hlast; cases hlast
 have hT : (decAll eol (linesL enc)).length ≤ 1000000 := by rw [hout]; exact hosz
 refine wp_if K (c := false) (evT_eq (evT_not (evT_val K (ev_name K rfl rfl) (opT_str _ (by exact ar288 hsz hZ)))) (by cases enc with | nil => exact absurd rfl hene | cons _ _ => rfl)) (fun h => by cases h) (fun _ => wp_nil ?_)
 refine wp_assign K (d := .str []) (ev_str rfl) ?_ rfl rfl
 have pref : ∀ pre x post, linesL enc = pre ++ x :: post → decAll eol (linesL enc) = decAll eol pre ++ (decLine eol (rstripL x) ++ decAll eol post) := fun pre x post h => by
   rw [h]; unfold decAll; rw [List.flatMap_append, List.flatMap_cons]
 have lineLen : ∀ x ∈ linesL enc, x.length ≤ 1000000 := fun x hx => Nat.le_trans (linesL_mem _ _ hx) hsz
 refine wp_for K (f := fun l => D.str l) (xs := linesL enc) (fun pre => [("decoded", .v (.str (decAll eol pre))), ("encoded", .v (.str enc)), ("eol", .v (.str eol))]) (fun pre x => [("line", .v (.str x)), ("decoded", .v (.str (decAll eol pre))), ("encoded", .v (.str enc)), ("eol", .v (.str eol))])
   (it_lst K (ev_meth0 K (hasT_str _) F.plainAttrs_str F.slot_str_splitlines F.type_str_splitlines (ev_name K rfl rfl) (fn_splitlines enc (by exact ar287 hsz hZ)))) (.cons rfl (.cons rfl (.cons rfl .nil))) (fun pre x post h => as_name K rfl rfl) (fun pre x post hsplit => ?_) ?_
 · have hx : x ∈ linesL enc := by rw [hsplit]; exact List.mem_append_right _ (.head _)
   have hxl := lineLen x hx
   have hp := pref pre x post hsplit
   have hpl := congrArg List.length hp
   simp only [List.length_append] at hpl
   refine wp_assign K (d := .str (rstripL x)) (ev_meth0 K (hasT_str _) F.plainAttrs_str F.slot_str_rstrip F.type_str_rstrip (ev_name K rfl rfl) (fn_rstrip x (by exact ar288 hxl hZ))) ?_ rfl rfl
   have hkl := hok x hx
   have hLl : (rstripL x).length ≤ 1000000 := Nat.le_trans (rstripL_le x) hxl
   have hinv : decAll eol (pre ++ [x]) = decAll eol pre ++ decLine eol (rstripL x) := by unfold decAll; rw [List.flatMap_append]; simp
   generalize hL : rstripL x = L at *
   rw [hinv]
   generalize hA : decAll eol pre = acc at *
   have fin : Sub [("decoded", Ent.v (.str (acc ++ decLine eol L))), ("encoded", .v (.str enc)), ("eol", .v (.str eol))] [("decoded", Ent.v (.str (acc ++ decLine eol L))), ("encoded", .v (.str enc)), ("eol", .v (.str eol))] := Sub.refl _
   refine wp_if K (c := L.isEmpty) (evT_eq (evT_not (evT_val K (ev_name K rfl rfl) (opT_str _ (by exact ar288 hLl hZ)))) (by simp)) (fun h => ?_) (fun h => wp_nil ?_)
   · have hL0 : L = [] := List.isEmpty_iff.mp h
     subst hL0
     refine wp_aug K rfl (d := .str (acc ++ eol)) (ev_name K rfl rfl) (op_icat _ _ (by rw [decLine] at hpl; exact ar537 hZ hpl hT)) (wp_cont ?_) rfl rfl
     show Sub _ _
     rw [decLine]
     exact .cons rfl (.cons rfl (.cons rfl .nil))
   have hLne : 0 < L.length := by
     cases L with
     | nil => cases h
     | cons _ _ => simp
   refine wp_assign K (d := .int ((0 : Nat) : Int)) (by walk_at "ev") ?_ rfl rfl
   refine wp_assign K (d := .int (L.length : Int)) (ev_callF K rfl hb1 (by decide +kernel) (evA_cons K (ev_name K rfl rfl) evA_nil) (fn_len_str _ (by exact ar288 hLl hZ))) ?_ rfl rfl
   refine wp_while K (α := Nat × List Nat) (fun a => [("i", .v (.int a.1)), ("n", .v (.int (L.length : Int))), ("line", .v (.str L)), ("decoded", .v (.str a.2)), ("encoded", .v (.str enc)), ("eol", .v (.str eol))])
     (fun a => a.1 ≤ L.length ∧ (if a.1 < L.length then a.2 ++ decLine eol (L.drop a.1) = acc ++ decLine eol L else a.2 = acc ++ decLine eol L) ∧ decOk (L.drop a.1)) (fun a => L.length - a.1) (0, acc)
     (.cons rfl (.cons rfl (.cons rfl (.cons rfl (.cons rfl (.cons rfl .nil)))))) ⟨Nat.zero_le _, by rw [if_pos hLne]; rfl, hkl⟩ fun ⟨i, dec⟩ ⟨q1, q2, q3⟩ => ⟨decide ((i : Int) < (L.length : Int)), by walk_at "ev", fun h1 => ?_, fun h1 => ?_⟩
   · simp only [decide_eq_true_eq] at h1
     have hi : i < L.length := by exact ar208 h1
     dsimp only at q1 q2 q3 ⊢
     rw [if_pos hi] at q2
     have hdl := congrArg List.length q2
     simp only [List.length_append] at hdl
     obtain ⟨c, r, hcr⟩ : ∃ c r, L.drop i = c :: r := by
       cases hq : L.drop i with
       | nil => have := congrArg List.length hq; simp at this; lia
       | cons c r => exact ⟨c, r, rfl⟩
     have hd1 : L.drop (i + 1) = r := by rw [← List.drop_drop, hcr]; rfl
     refine wp_assign K (d := .str [c]) (ev_sub K (ev_name K rfl rfl) (ev_name K rfl rfl) (op_item trivial L hcr (by exact ar102 hLl))) ?_ rfl rfl
     refine wp_cut (fun σ' => ∃ (i' : Nat) (dec' : List Nat), i < i' ∧ i' ≤ L.length ∧ dec' ++ decLine eol (L.drop i') = acc ++ decLine eol L ∧ decOk (L.drop i') ∧
       Sub [("i", .v (.int i')), ("decoded", .v (.str dec')), ("n", .v (.int (L.length : Int))), ("line", .v (.str L)), ("encoded", .v (.str enc)), ("eol", .v (.str eol))] σ') ?_ ?_
     · refine wp_if K (c := ([c] != [61])) (by walk_at "ev"; exact op_sne _ _) (fun h => ?_) (fun h => ?_)
       · have hc : c ≠ 61 := by simpa using h
         rw [hcr, decLine_ne hc] at q2
         rw [hcr] at q3
         refine wp_aug K rfl (d := .str (dec ++ [c])) (ev_name K rfl rfl) (op_icat _ _ (by rw [hcr, decLine_ne hc, List.length_cons] at hdl; simp only [List.length_singleton]; exact ar547 hdl hZ hpl hT)) ?_ rfl rfl
         refine wp_aug K rfl (d := .int ((i + 1 : Nat) : Int)) (by walk_at "ev") (op2_eq (op_iadd _ _) (by rw [Int.natCast_add]; rfl)) (wp_nil (wp_nil ?_)) rfl rfl
         refine ⟨i + 1, dec ++ [c], by exact ar177, by exact ar207 h1, ?_, ?_, .cons rfl (.cons rfl (.cons rfl (.cons rfl (.cons rfl (.cons rfl .nil)))))⟩
         · rw [hd1, List.append_assoc]; exact q2
         · rw [hd1]; exact decOk_ne hc r q3
       · have hc : c = 61 := by simpa using h
         subst hc
         refine wp_if K (c := (((i : Int) + 1) == (L.length : Int))) (by walk_at "ev") (fun h => ?_) (fun h => ?_)
         · have hi' : i + 1 = L.length := by have := beq_iff_eq.mp h; exact ar201 this
           have hr0 : r = [] := by rw [← hd1, hi', List.drop_length]
           subst hr0
           rw [hcr, decLine, if_pos rfl, List.append_nil] at q2
           refine wp_aug K rfl (d := .int ((i + 1 : Nat) : Int)) (by walk_at "ev") (op2_eq (op_iadd _ _) (by rw [Int.natCast_add]; rfl)) (wp_cont ?_) rfl rfl
           refine ⟨(i + 1, dec), ⟨by show i + 1 ≤ _; exact ar236 hi', by show (if i + 1 < L.length then _ else _); rw [if_neg (by exact ar237 hi')]; exact q2, by show decOk (L.drop (i + 1)); rw [hi', List.drop_length]; trivial⟩, by show L.length - (i + 1) < L.length - i; exact ar256 hi', .cons rfl (.cons rfl (.cons rfl (.cons rfl (.cons rfl (.cons rfl .nil)))))⟩
         · have hi' : i + 1 < L.length := by
             have : i + 1 ≠ L.length := fun e => by
               have := beq_eq_false_iff_ne.mp h; exact ar202 this e
             exact ar205 h1 this
           obtain ⟨a, r, rfl⟩ : ∃ a r', r = a :: r' := by
             cases r with
             | nil => have := congrArg List.length hd1; simp at this; lia
             | cons a r' => exact ⟨a, r', rfl⟩
           have hd2 : L.drop (i + 2) = r := by rw [← List.drop_drop (i := 2) (j := i), hcr]; rfl
           have plain : ∀ {b : Bool} {t : Expr} {a1 : List Stmt}, decLine eol (L.drop i) = 61 :: decLine eol (a :: r) → decOk (a :: r) → True := fun _ _ => trivial
           by_cases hi2 : i + 2 < L.length
           · obtain ⟨b, r, rfl⟩ : ∃ b r', r = b :: r' := by
               cases r with
               | nil => have := congrArg List.length hd2; simp at this; lia
               | cons b r' => exact ⟨b, r', rfl⟩
             refine wp_if K (c := (decide ((i : Int) + 2 < (L.length : Int)) && (decide (a ∈ hexD) && (decide (b ∈ hexD) && true)))) (evT_bool (evAnd_cons K (by walk_at "ev") fun _ => evAnd_cons K (evT_cmp K (ev_sub K (ev_name K rfl rfl) (ev_eqI (b := ((i + 1 : Nat) : Int)) (by walk_at "ev") (by rw [Int.natCast_add]; rfl)) (op_item trivial L hd1 (by exact ar102 hLl))) (ev_globIs K hG rfl) (op_in1 _ _)) fun _ =>
               evAnd_cons K (evT_cmp K (ev_sub K (ev_name K rfl rfl) (ev_eqI (b := ((i + 2 : Nat) : Int)) (by walk_at "ev") (by rw [Int.natCast_add]; rfl)) (op_item trivial L hd2 (by exact ar102 hLl))) (ev_globIs K hG rfl) (op_in1 _ _)) fun _ => evAnd_nil)) (fun h => ?_) (fun h => ?_)
             · simp only [Bool.and_eq_true, decide_eq_true_eq, Bool.and_true] at h
               obtain ⟨_, ha, hb⟩ := h
               rw [hcr, decLine, if_pos ⟨rfl, ha, hb⟩] at q2
               rw [hcr, decOk, if_pos ⟨rfl, ha, hb⟩] at q3
               obtain ⟨⟨x₀, hx0, hxe⟩, q3⟩ := q3
               have hxu : unqU a b = x₀ := by
                 simp only [escU, List.cons.injEq, and_true, true_and] at hxe
                 rw [hxe.1, hxe.2]
                 exact (unq_hex _ _ (by exact ar81 hx0) (by exact ar170)).trans (Nat.div_add_mod x₀ 16)
               have hsl : slc L (some (i : Int)) (some ((i : Int) + 3)) = escU x₀ := by
                 rw [show ((i : Int) + 3) = ((i + 3 : Nat) : Int) by exact ar142, slc_nat L (by exact ar313 q1) (by have := congrArg List.length hd2; simp at this; exact ar245 hi2), hcr, show i + 3 - i = 3 by exact ar153, ← hxe]; rfl
               have hl3 : (escU x₀).length = 3 := rfl
               refine wp_aug K rfl (d := .str (dec ++ [unqU a b])) (ev_fn K (f := "unquote") (d := .str [unqU a b]) (by rw [hxu]; exact fn_unquote B H0 hb2 hb3 x₀ hx0) rfl
                 (evA_cons K (ev_eq (ev_slice K (ev_name K rfl rfl) (evP_some K (ev_name K rfl rfl)) (evP_some K (by walk_at "ev")) (opSl_str _ _ (by exact ar288 hLl hZ))) (by rw [hsl])) evA_nil)) (op_icat _ _ (by
                   have := congrArg List.length q2
                   simp only [List.length_append, List.length_cons] at this
                   simp only [List.length_singleton]; exact ar547 this hZ hpl hT)) ?_ rfl rfl
               refine wp_aug K rfl (d := .int ((i + 3 : Nat) : Int)) (by walk_at "ev") (op2_eq (op_iadd _ _) (by rw [Int.natCast_add]; rfl)) (wp_nil (wp_nil (wp_nil (wp_nil ?_)))) rfl rfl
               have hd3 : L.drop (i + 3) = r := by rw [← List.drop_drop (i := 3) (j := i), hcr]; rfl
               refine ⟨i + 3, dec ++ [unqU a b], by exact ar178, by have := congrArg List.length hd2; simp at this; exact ar245 hi2, ?_, ?_, .cons rfl (.cons rfl (.cons rfl (.cons rfl (.cons rfl (.cons rfl .nil)))))⟩
               · rw [hd3, List.append_assoc]; exact q2
               · rw [hd3]; exact q3
             · have hn : ¬ (61 = 61 ∧ a ∈ hexD ∧ b ∈ hexD) := fun ⟨_, ha, hb⟩ => by
                 simp [ha, hb] at h; exact ar213 h hi2
               rw [hcr, decLine, if_neg hn] at q2
               rw [hcr, decOk, if_neg hn] at q3
               refine wp_aug K rfl (d := .str (dec ++ [61])) (ev_name K rfl rfl) (op_icat _ _ (by
                   have := congrArg List.length q2
                   simp only [List.length_append, List.length_cons] at this
                   simp only [List.length_singleton]; exact ar547 this hZ hpl hT)) ?_ rfl rfl
               refine wp_aug K rfl (d := .int ((i + 1 : Nat) : Int)) (by walk_at "ev") (op2_eq (op_iadd _ _) (by rw [Int.natCast_add]; rfl)) (wp_nil (wp_nil (wp_nil (wp_nil ?_)))) rfl rfl
               refine ⟨i + 1, dec ++ [61], by exact ar177, by exact ar244 hi2, ?_, ?_, .cons rfl (.cons rfl (.cons rfl (.cons rfl (.cons rfl (.cons rfl .nil)))))⟩
               · rw [hd1, List.append_assoc]; exact q2
               · rw [hd1]; exact q3
           · have hr0 : r = [] := by rw [← hd2]; exact List.drop_eq_nil_of_le (by exact ar342 hi2)
             subst hr0
             rw [hcr, decLine.eq_3] at q2
             refine wp_if K (c := false) (evT_bool (evT_eqAll (evAnd_cons K (c := true) (by walk_at "ev") (fun h => absurd h (by simp; exact ar341 hi2))) (by simp; exact ar341 hi2))) (fun h => by cases h) (fun _ => ?_)
             refine wp_aug K rfl (d := .str (dec ++ [61])) (ev_name K rfl rfl) (op_icat _ _ (by
                   have := congrArg List.length q2
                   simp only [List.length_append, List.length_cons] at this
                   simp only [List.length_singleton]; exact ar547 this hZ hpl hT)) ?_ rfl rfl
             refine wp_aug K rfl (d := .int ((i + 1 : Nat) : Int)) (by walk_at "ev") (op2_eq (op_iadd _ _) (by rw [Int.natCast_add]; rfl)) (wp_nil (wp_nil (wp_nil (wp_nil ?_)))) rfl rfl
             refine ⟨i + 1, dec ++ [61], by exact ar177, by exact ar235 hi', ?_, ?_, .cons rfl (.cons rfl (.cons rfl (.cons rfl (.cons rfl (.cons rfl .nil)))))⟩
             · rw [hd1, List.append_assoc]; exact q2
             · rw [hd1]; trivial
     · rintro σ' ⟨i', dec', h1, h2, h3, h4, hs⟩
       refine Wp.sub ?_ hs
       refine wp_if K (c := ((i' : Int) == (L.length : Int))) (by walk_at "ev") (fun h => ?_) (fun h => wp_nil (wp_nil ?_))
       · have hi' : i' = L.length := by have := beq_iff_eq.mp h; exact ar211 this
         subst hi'
         rw [List.drop_length, decLine] at h3
         refine wp_aug K rfl (d := .str (dec' ++ eol)) (ev_name K rfl rfl) (op_icat _ _ (by rw [← List.length_append, h3, List.length_append]; exact ar537 hZ hpl hT)) (wp_nil (wp_nil ?_)) rfl rfl
         refine ⟨(L.length, dec' ++ eol), ⟨Nat.le_refl _, by rw [if_neg (Nat.lt_irrefl _)]; exact h3, h4⟩, by show L.length - L.length < L.length - i; exact ar215 (by assumption), .cons rfl (.cons rfl (.cons rfl (.cons rfl (.cons rfl (.cons rfl .nil)))))⟩
       · have hi' : i' < L.length := by
           have : i' ≠ L.length := fun e => by subst e; simp at h
           exact ar273 this h2
         exact ⟨(i', dec'), ⟨h2, by rw [if_pos hi']; exact h3, h4⟩, by show L.length - i' < L.length - i; exact ar472 hi' h1, .cons rfl (.cons rfl (.cons rfl (.cons rfl (.cons rfl (.cons rfl .nil)))))⟩
   · simp only [decide_eq_false_iff_not] at h1
     dsimp only at q1 q2 q3 ⊢
     have hi : i = L.length := by lia
     subst hi
     rw [if_neg (Nat.lt_irrefl _)] at q2
     refine wp_nil ?_
     show Sub _ _
     rw [← q2]
     exact .cons rfl (.cons rfl (.cons rfl .nil))
 · rw [hout]
   have hlp : 0 < enc.length := List.length_pos_iff.mpr hene
   have hlast' : enc[enc.length - 1]? = some last := by rw [← List.getLast?_eq_getElem?]; exact hlast
   refine wp_if K (c := (!decide (last ∈ [13, 10])) && (true && true)) (evT_bool (evAnd_cons K (evT_cmp K (ev_sub K (ev_name K rfl rfl) (ev_un K (ev_int 1) (op_neg 1)) (op_item_str (j := enc.length - 1) (by exact ar4) (by exact ar3) (seqIndex?_neg_one hlp) hlast')) (ev_str rfl) (op_notIn1 _ _)) fun _ => evAnd_cons K (evT_val K (ev_meth K (hasT_str _) F.plainAttrs_str F.slot_str_endswith F.type_str_endswith (ev_name K rfl rfl) (evA_cons K (ev_name K rfl rfl) evA_nil) (fn_endswithYes out eol)) (opT_bool true)) fun _ => evAnd_nil)) (fun h => ?_) (fun h => ?_)
   · have hel : 0 < eol.length := List.length_pos_iff.mpr heol
     refine wp_assign K (d := .str out) (ev_eq (ev_slice K (ev_name K rfl rfl) evP_none (evP_some K (ev_un K (ev_callF K rfl hb1 (by decide +kernel) (evA_cons K (ev_name K rfl rfl) evA_nil) (fn_len_str _ (by rw [List.length_append] at hosz; exact ar428 hosz hZ))) (op_neg _))) (opSl_str _ _ (by exact ar288 hosz hZ))) ?_) (wp_nil (wp_ret K (ev_name K rfl rfl) rfl)) rfl rfl
     exact congrArg D.str (slc_cutEnd out eol hel)
   · simp [hl13, hl10] at h
theorem fn_dec (B : Base hB mg mb) (H0 : HasFn hB mg p1 0) (H : HasFnW hB mg p1 1 [.str [10]]) (hb1 : mg "len" = none) (hb2 : mg "chr" = none) (hb3 : mg "int" = none) (hG : GlobIs hB mg "hexdigits" (.str hexD))
   (enc eol out : List Nat) (last : Nat) (hlast : enc.getLast? = some last) (hl13 : last ≠ 13) (hl10 : last ≠ 10) (heol : eol ≠ []) (hsz : enc.length ≤ 1000000) (hout : decAll eol (linesL enc) = out ++ eol) (hosz : (out ++ eol).length ≤ 1000000) (hok : ∀ l ∈ linesL enc, decOk (rstripL l)) :
   Fn prog w hB mg "decode" [.str enc, .str eol] (.str out) 2 := by
 refine fn_recW B H ["encoded", "eol"] (bnd := [.str enc, .str eol]) (fun vals _ => vals) rfl (fun O h vals vs h1 _ => h1) rfl (fun pm code doc T s o vals vs n hv hvs hT hd => ?_) (fa rfl (fa rfl fa0)) fun pm code doc T fa A LL h₀ O₀ K => dec_walk H0 hb1 hb2 hb3 hG enc eol out last hlast hl13 hl10 heol hsz hout hosz hok K B
 · exact vals2 (P := fun vals => BindsTo s _ ⟨vals, []⟩ (List.zip _ vals)) (fun a b => arr1 (P := fun vs => o.data = .seq vs n → BindsTo s _ ⟨[a, b], []⟩ _) (fun v hd => BindsTo.of_defaults rfl hT hd rfl rfl) vs hvs hd) vals hv
end
end
section
noncomputable def plainB (c : Nat) : Bool := c == 9 || c == 10 || c == 13 || (decide (32 ≤ c) && decide (c ≤ 126) && c != 61)
noncomputable def trB (c : Nat) : List Nat := if plainB c || decide (256 ≤ c) then [c] else escU c
noncomputable def encMap : List (List Nat) := (List.range 256).map trB
noncomputable def encLast (m : Nat) (eol l : List Nat) : List Nat :=
 match l.getLast? with
 | none => l
 | some c => if c = 32 ∨ c = 9 then
     (if l.length + 2 ≤ m then l.dropLast ++ escU c else if l.length + 1 = m then l.dropLast ++ ([c] ++ ([61] ++ eol)) else l.dropLast ++ (([61] ++ eol) ++ escU c))
   else l
noncomputable def encGo (m : Nat) (eol l : List Nat) : List (List Nat) :=
 if h : m < l.length ∧ 4 ≤ m then
   if l[m - 3]? = some 61 then l.take (m - 2) :: encGo m eol (l.drop (m - 3))
   else if l[m - 2]? = some 61 then l.take (m - 1) :: encGo m eol (l.drop (m - 2))
   else (l.take (m - 1) ++ [61]) :: encGo m eol (l.drop (m - 1))
 else [encLast m eol l]
termination_by l.length
decreasing_by all_goals (simp only [List.length_drop]; lia)
noncomputable def encRows (m : Nat) (eol : List Nat) (ls : List (List Nat)) : List (List Nat) := ls.flatMap (encGo m eol)
section
variable {prog : Program} {w : World} {hB : Heap} {mg mb : Str → Option Value}
theorem sum_pref (k : Nat) (a b : List (List Nat)) : (a.map fun x => x.length + k).sum ≤ ((a ++ b).map fun x => x.length + k).sum := by
 rw [List.map_append, List.sum_append]; exact ar375
theorem sum_len (k : Nat) (hk : 1 ≤ k) : ∀ a : List (List Nat), a.length ≤ (a.map fun x => x.length + k).sum
 | [] => by simp
 | x :: a => by have := sum_len k hk a; simp only [List.map_cons, List.sum_cons, List.length_cons]; exact ar496 hk this
theorem fn_enc (B : Base hB mg mb) (H1 : HasFn hB mg p1 1) {dfl : List D} (hdl : dfl.length = 2) (H : HasFnW hB mg p1 0 dfl) (hb1 : mg "len" = none) (hb2 : mg "ord" = none) (hG : GlobIs hB mg "_QUOPRI_MAP" (.lst quoMap)) (hG2 : GlobIs hB mg "_QUOPRI_BODY_ENCODE_MAP" (.lst (encMap.map .str))) (hG3 : GlobIs hB mg "CRLF" (.str [13, 10]))
   (body eol : List Nat) (m : Nat) (hm4 : 4 ≤ m) (hm1 : m ≤ 1000) (hbne : body ≠ []) (heol : 1 ≤ eol.length) (heol2 : eol.length ≤ 2) (tb : List Nat) (htb : tb = body.flatMap trB) (hchr : ∀ c ∈ body, c < 2 ^ 62) (last : Nat) (hlast : tb.getLast? = some last) (hl13 : last ≠ 13) (hl10 : last ≠ 10)
   (hsz : tb.length ≤ 1000000) (hrs : ((encRows m eol (linesL tb)).map fun x => x.length + eol.length).sum ≤ 16000000) :
   Fn prog w hB mg "body_encode" [.str body, .int m, .str eol] (.str (joinL eol (encRows m eol (linesL tb)))) 2 := by
 refine fn_recW B H ["body", "maxlinelen", "eol"] (bnd := [.str body, .int m, .str eol]) (fun vals _ => vals) rfl (fun O h vals vs h1 _ => h1) rfl (fun pm code doc T s o vals vs n hv hvs hT hd => ?_) (fa rfl (fa rfl (fa rfl fa0))) fun pm code doc T fa A LL h₀ O₀ K => ?_
 · exact vals3 (P := fun vals => BindsTo s _ ⟨vals, []⟩ (List.zip _ vals)) (fun a b c => arr2 (P := fun vs => o.data = .seq vs n → BindsTo s _ ⟨[a, b, c], []⟩ _) (fun v v' hd => BindsTo.of_defaults rfl hT hd rfl rfl) vs (hvs.trans hdl) hd) vals hv
 conv => arg 5; whnf
 have hZ : sizeLine = 16777216 := sizeLine_eq
 have htne : tb ≠ [] := fun h => by rw [h] at hlast; cases hlast
 refine wp_if K (c := decide ((m : Int) < 4)) (by walk_at "ev") (fun h => absurd h (by simp; exact ar58 hm4)) (fun _ => wp_nil ?_)
 have hbl : body.length ≤ 1000000 := by
   have : ∀ l : List Nat, l.length ≤ (l.flatMap trB).length := fun l => by
     induction l with
     | nil => simp
     | cons c l ih =>
       rw [List.flatMap_cons, List.length_append, List.length_cons]
       have : 1 ≤ (trB c).length := by unfold trB; split <;> simp [escU]
       exact ar398 this ih
   have := this body; rw [← htb] at this; exact ar302 this hsz
 refine wp_if K (c := false) (evT_eq (evT_not (evT_val K (ev_name K rfl rfl) (opT_str _ (by exact ar288 hbl hZ)))) (by cases body with | nil => exact absurd rfl hbne | cons _ _ => rfl)) (fun h => by cases h) (fun _ => wp_nil ?_)
 refine wp_assign K (d := .str tb) (ev_eq (ev_meth K (hasT_str _) F.plainAttrs_str F.slot_str_translate F.type_str_translate (ev_name K rfl rfl) (evA_cons K (ev_globIs K hG2 rfl) evA_nil)
   (fn_translate body encMap trB (by rw [← htb]; exact ar288 hsz hZ) hchr (fun c _ t ht => ?_) (fun c _ hc => ?_))) (by rw [htb])) ?_ rfl rfl
 · unfold encMap at ht
   rw [List.getElem?_map] at ht
   have hc : c < 256 := by
     by_cases hc : c < 256
     · exact hc
     · rw [List.getElem?_eq_none (by simp; exact ar132 hc)] at ht; cases ht
   rw [List.getElem?_range hc] at ht
   exact Option.some.inj ht
 · have hc' : 256 ≤ c := by simpa [encMap] using hc
   unfold trB; rw [decide_eq_true hc', Bool.or_true]; rfl
 refine wp_assign K (d := .str ([61] ++ eol)) (ev_bin K (ev_str rfl) (ev_name K rfl rfl) (op_cat [61] eol (by show 1 + eol.length ≤ _; exact ar293 heol2 hZ))) ?_ rfl rfl
 refine wp_assign K (d := .int ((m - 1 : Nat) : Int)) (ev_eqI (by walk_at "ev") (by exact ar56 hm4)) ?_ rfl rfl
 refine wp_newlist K ?_ rfl rfl
 refine wp_bindApp K rfl rfl rfl (by decide) rfl ?_
 have pref : ∀ pre x post, linesL tb = pre ++ x :: post → encRows m eol (linesL tb) = encRows m eol pre ++ (encGo m eol x ++ encRows m eol post) := fun pre x post h => by
   rw [h]; unfold encRows; rw [List.flatMap_append, List.flatMap_cons]
 have hrl := sum_len eol.length heol (encRows m eol (linesL tb))
 refine wp_for K (f := fun l => D.str l) (xs := linesL tb) (fun pre => [("append", .app "encoded_body"), ("encoded_body", .own ((encRows m eol pre).map .str)), ("maxlinelen1", .v (.int ((m - 1 : Nat) : Int))), ("soft_break", .v (.str ([61] ++ eol))), ("body", .v (.str tb)), ("eol", .v (.str eol)), ("maxlinelen", .v (.int m))])
   (fun pre x => [("line", .v (.str x)), ("append", .app "encoded_body"), ("encoded_body", .own ((encRows m eol pre).map .str)), ("maxlinelen1", .v (.int ((m - 1 : Nat) : Int))), ("soft_break", .v (.str ([61] ++ eol))), ("body", .v (.str tb)), ("eol", .v (.str eol)), ("maxlinelen", .v (.int m))])
   (it_lst K (ev_meth0 K (hasT_str _) F.plainAttrs_str F.slot_str_splitlines F.type_str_splitlines (ev_name K rfl rfl) (fn_splitlines tb (by exact ar287 hsz hZ)))) (.cons rfl (.cons rfl (.cons rfl (.cons rfl (.cons rfl (.cons rfl (.cons rfl .nil))))))) (fun pre x post h => as_name K rfl rfl) (fun pre x post hsplit => ?_) ?_
 · have hx : x ∈ linesL tb := by rw [hsplit]; exact List.mem_append_right _ (.head _)
   have hxl : x.length ≤ 1000000 := Nat.le_trans (linesL_mem _ _ hx) hsz
   have hp := pref pre x post hsplit
   have hpl := congrArg List.length hp
   simp only [List.length_append] at hpl
   have hinv : encRows m eol (pre ++ [x]) = encRows m eol pre ++ encGo m eol x := by unfold encRows; rw [List.flatMap_append]; simp
   rw [hinv]
   generalize hA : encRows m eol pre = acc at *
   refine wp_assign K (d := .int ((0 : Nat) : Int)) (by walk_at "ev") ?_ rfl rfl
   refine wp_assign K (d := .int ((x.length : Int) - 1 - m)) (ev_bin K (ev_bin K (ev_callF K rfl hb1 (by decide +kernel) (evA_cons K (ev_name K rfl rfl) evA_nil) (fn_len_str _ (by exact ar288 hxl hZ))) (ev_int 1) (op_sub _ _)) (ev_name K rfl rfl) (op_sub _ _)) ?_ rfl rfl
   have hsum := sum_pref eol.length acc (encGo m eol x)
   refine wp_while K (α := Nat × List (List Nat)) (fun a => [("start", .v (.int a.1)), ("laststart", .v (.int ((x.length : Int) - 1 - m))), ("line", .v (.str x)), ("append", .app "encoded_body"), ("encoded_body", .own (a.2.map .str)), ("maxlinelen1", .v (.int ((m - 1 : Nat) : Int))), ("soft_break", .v (.str ([61] ++ eol))), ("body", .v (.str tb)), ("eol", .v (.str eol)), ("maxlinelen", .v (.int m))])
     (fun a => a.1 ≤ x.length ∧ (x = [] ∨ a.1 < x.length) ∧ a.2 ++ encGo m eol (x.drop a.1) = acc ++ encGo m eol x) (fun a => x.length - a.1) (0, acc)
     (.cons rfl (.cons rfl (.cons rfl (.cons rfl (.cons rfl (.cons rfl (.cons rfl (.cons rfl (.cons rfl (.cons rfl .nil)))))))))) ⟨Nat.zero_le _, by cases x with | nil => exact .inl rfl | cons _ _ => exact .inr (by simp), rfl⟩ fun ⟨st, done⟩ ⟨q0, q1, q2⟩ => ⟨decide ((st : Int) ≤ (x.length : Int) - 1 - m), by walk_at "ev", fun h1 => ?_, fun h1 => ?_⟩
   · simp only [decide_eq_true_eq] at h1
     dsimp only at q0 q1 q2 ⊢
     have hlong : m < (x.drop st).length := by rw [List.length_drop]; exact ar396 h1
     have hq2l := congrArg List.length q2
     simp only [List.length_append] at hq2l
     rw [encGo, dif_pos ⟨hlong, hm4⟩] at q2
     have e3 : (x.drop st)[m - 3]? = x[st + (m - 3)]? := by rw [List.getElem?_drop]
     have e2 : (x.drop st)[m - 2]? = x[st + (m - 2)]? := by rw [List.getElem?_drop]
     obtain ⟨c3, h3⟩ : ∃ c, x[st + (m - 3)]? = some c := ⟨_, List.getElem?_eq_getElem (by exact ar391 h1)⟩
     obtain ⟨c2, h2⟩ : ∃ c, x[st + (m - 2)]? = some c := ⟨_, List.getElem?_eq_getElem (by exact ar389 h1)⟩
     rw [e3, e2, h3, h2] at q2
     have hdl : done.length ≤ 16000000 := by exact ar548 hq2l hpl hrs hrl
     refine wp_assign K (d := .int ((st + (m - 1) : Nat) : Int)) (ev_eqI (by walk_at "ev") (by rw [Int.natCast_add])) ?_ rfl rfl
     refine wp_if K (c := ([c3] == [61])) (evT_cmp K (ev_sub K (ev_name K rfl rfl) (ev_eqI (b := ((st + (m - 3) : Nat) : Int)) (by walk_at "ev") (by exact ar231 hm4)) (op_item_str (j := st + (m - 3)) (by exact ar359) (by exact ar384 h1 hxl) (by rw [seqIndex_of (by exact ar361) (by exact ar386 h1), Int.toNat_natCast]) h3)) (ev_str rfl) (op_seq _ _)) (fun h => ?_) (fun h => ?_)
     · have hc : c3 = 61 := by simpa using h
       subst hc
       rw [if_pos rfl] at q2
       refine wp_appCall K rfl rfl rfl rfl (d := .str ((x.drop st).take (m - 2))) (ev_eq (ev_slice K (ev_name K rfl rfl) (evP_some K (ev_name K rfl rfl)) (evP_some K (ev_eqI (b := ((st + (m - 2) : Nat) : Int)) (by walk_at "ev") (by exact ar230 hm4))) (opSl_str _ _ (by exact ar288 hxl hZ))) (by rw [slc_nat x (by exact ar313 q0) (by exact ar390 h1), show st + (m - 2) - st = m - 2 by exact ar355])) (by rw [List.length_map]; exact ar290 hdl hZ) ?_
       refine wp_assign K (d := .int ((st + (m - 3) : Nat) : Int)) (ev_eqI (by walk_at "ev") (by exact ar231 hm4)) (wp_nil (wp_nil ?_)) rfl rfl
       refine ⟨(st + (m - 3), done ++ [(x.drop st).take (m - 2)]), ⟨by show st + (m - 3) ≤ _; exact ar392 h1, .inr (by show st + (m - 3) < _; exact ar391 h1), ?_⟩, by show x.length - (st + (m - 3)) < x.length - st; exact ar395 h1 hm4, ?_⟩
       · rw [← q2, List.append_assoc]
         show _ ++ ([_] ++ encGo m eol (x.drop (st + (m - 3)))) = _
         rw [← List.drop_drop]; rfl
       · refine .cons rfl (.cons rfl (.cons rfl (.cons rfl (.cons ?_ (.cons rfl (.cons rfl (.cons rfl (.cons rfl (.cons rfl .nil)))))))))
         show some (Ent.own _) = _
         rw [List.map_append]; rfl
     · have hc : c3 ≠ 61 := by simpa using h
       rw [if_neg (fun e => hc (Option.some.inj e))] at q2
       refine wp_if K (c := ([c2] == [61])) (evT_cmp K (ev_sub K (ev_name K rfl rfl) (ev_eqI (b := ((st + (m - 2) : Nat) : Int)) (by walk_at "ev") (by exact ar230 hm4)) (op_item_str (j := st + (m - 2)) (by exact ar358) (by exact ar383 h1 hxl) (by rw [seqIndex_of (by exact ar360) (by exact ar385 h1), Int.toNat_natCast]) h2)) (ev_str rfl) (op_seq _ _)) (fun h => ?_) (fun h => ?_)
       · have hc2 : c2 = 61 := by simpa using h
         subst hc2
         rw [if_pos rfl] at q2
         refine wp_appCall K rfl rfl rfl rfl (d := .str ((x.drop st).take (m - 1))) (ev_eq (ev_slice K (ev_name K rfl rfl) (evP_some K (ev_name K rfl rfl)) (evP_some K (ev_name K rfl rfl)) (opSl_str _ _ (by exact ar288 hxl hZ))) (by rw [slc_nat x (by exact ar313 q0) (by exact ar388 h1), show st + (m - 1) - st = m - 1 by exact ar354])) (by rw [List.length_map]; exact ar290 hdl hZ) ?_
         refine wp_assign K (d := .int ((st + (m - 2) : Nat) : Int)) (ev_eqI (by walk_at "ev") (by exact ar230 hm4)) (wp_nil (wp_nil (wp_nil ?_))) rfl rfl
         refine ⟨(st + (m - 2), done ++ [(x.drop st).take (m - 1)]), ⟨by show st + (m - 2) ≤ _; exact ar390 h1, .inr (by show st + (m - 2) < _; exact ar389 h1), ?_⟩, by show x.length - (st + (m - 2)) < x.length - st; exact ar394 h1 hm4, ?_⟩
         · rw [← q2, List.append_assoc]
           show _ ++ ([_] ++ encGo m eol (x.drop (st + (m - 2)))) = _
           rw [← List.drop_drop]; rfl
         · refine .cons rfl (.cons rfl (.cons rfl (.cons rfl (.cons ?_ (.cons rfl (.cons rfl (.cons rfl (.cons rfl (.cons rfl .nil)))))))))
           show some (Ent.own _) = _
           rw [List.map_append]; rfl
       · have hc2 : c2 ≠ 61 := by simpa using h
         rw [if_neg (fun e => hc2 (Option.some.inj e))] at q2
         refine wp_appCall K rfl rfl rfl rfl (d := .str ((x.drop st).take (m - 1) ++ [61])) (ev_bin K (ev_eq (ev_slice K (ev_name K rfl rfl) (evP_some K (ev_name K rfl rfl)) (evP_some K (ev_name K rfl rfl)) (opSl_str _ _ (by exact ar288 hxl hZ))) (by rw [slc_nat x (by exact ar313 q0) (by exact ar388 h1), show st + (m - 1) - st = m - 1 by exact ar354])) (ev_str rfl) (op_cat _ _ (by rw [List.length_take]; show _ + 1 ≤ _; exact ar450 hm1 hZ))) (by rw [List.length_map]; exact ar290 hdl hZ) ?_
         refine wp_assign K (d := .int ((st + (m - 1) : Nat) : Int)) (ev_name K rfl rfl) (wp_nil (wp_nil (wp_nil ?_))) rfl rfl
         refine ⟨(st + (m - 1), done ++ [(x.drop st).take (m - 1) ++ [61]]), ⟨by show st + (m - 1) ≤ _; exact ar388 h1, .inr (by show st + (m - 1) < _; exact ar387 h1), ?_⟩, by show x.length - (st + (m - 1)) < x.length - st; exact ar393 h1 hm4, ?_⟩
         · rw [← q2, List.append_assoc]
           show _ ++ ([_] ++ encGo m eol (x.drop (st + (m - 1)))) = _
           rw [← List.drop_drop]; rfl
         · refine .cons rfl (.cons rfl (.cons rfl (.cons rfl (.cons ?_ (.cons rfl (.cons rfl (.cons rfl (.cons rfl (.cons rfl .nil)))))))))
           show some (Ent.own _) = _
           rw [List.map_append]; rfl
   · simp only [decide_eq_false_iff_not] at h1
     dsimp only at q0 q1 q2 ⊢
     have hshort : ¬ (m < (x.drop st).length ∧ 4 ≤ m) := by rw [List.length_drop]; exact ar484 h1
     rw [encGo, dif_neg hshort] at q2
     have hq2l := congrArg List.length q2
     simp only [List.length_append, List.length_singleton] at hq2l
     have hdl : done.length ≤ 16000000 := by exact ar541 hq2l hpl hrs hrl
     have hsl : slc x (some (st : Int)) none = x.drop st := slc_drop x q0
     have fin : ∀ row, row = encLast m eol (x.drop st) → some (Ent.own (done.map D.str ++ [D.str row])) = some (Ent.own ((acc ++ encGo m eol x).map D.str)) := fun row hr => by
       rw [← q2, List.map_append, hr]; rfl
     rcases q1 with hx0 | hlt
     · subst hx0
       refine wp_if K (c := false) (evT_bool (evT_eqAll (evAnd_cons K (b := false) (c := true) (evT_eq (evT_val K (ev_name K rfl rfl) (opT_str _ (by simp))) rfl) (fun h => by cases h)) rfl)) (fun h => by cases h) (fun _ => ?_)
       refine wp_appCall K rfl rfl rfl rfl (d := .str (List.drop st [])) (ev_eq (ev_slice K (ev_name K rfl rfl) (evP_some K (ev_name K rfl rfl)) evP_none (opSl_str _ _ (by simp))) (by rw [hsl])) (by rw [List.length_map]; exact ar290 hdl hZ) (wp_nil (wp_nil ?_))
       show Sub _ _
       refine .cons rfl (.cons ?_ (.cons rfl (.cons rfl (.cons rfl (.cons rfl (.cons rfl .nil))))))
       exact fin _ (by rw [List.drop_nil]; rfl)
     · have hne : x.drop st ≠ [] := fun h => by have := congrArg List.length h; simp at this; exact ar252 this hlt
       obtain ⟨cL, hcL⟩ : ∃ c, (x.drop st).getLast? = some c := ⟨_, List.getLast?_eq_getLast hne⟩
       have hxl1 : x[x.length - 1]? = some cL := by
         rw [List.getLast?_eq_getElem?, List.length_drop, List.getElem?_drop] at hcL
         rw [← hcL]; congr 1; exact ar319 hlt
       have hxt : (!x.isEmpty) = true := by cases x with | nil => simp at hlt | cons _ _ => rfl
       have hlastEv : ∀ {r : Bool} {σ : Loc} {np p1 p2 pos : Pos} {k}, List.lookup ("line" : Str) σ = some (Ent.v (.str x)) → Ev prog w (cfgAtW PySem.Challenge.pw_ij0180_02 0 pm code doc T fa A LL h₀ O₀) r σ (.Subscript (.Name "line" np) (.UnaryOp .USub (.Constant (.int 1) k p1) p2) pos) (.str [cL]) := fun hl =>
         ev_sub K (ev_name K hl rfl) (ev_un K (ev_int 1) (op_neg 1)) (op_item_str (j := x.length - 1) (by exact ar4) (by exact ar3) (seqIndex?_neg_one (by exact ar318 hlt)) hxl1)
       refine wp_if K (c := true && (decide (cL ∈ [32, 9]) && true)) (evT_bool (evAnd_cons K (evT_eq (evT_val K (ev_name K rfl rfl) (opT_str _ (by exact ar288 hxl hZ))) hxt) fun _ => evAnd_cons K (evT_cmp K (hlastEv rfl) (ev_str rfl) (op_in1 _ _)) fun _ => evAnd_nil)) (fun h => ?_) (fun h => ?_)
       · have hw : cL = 32 ∨ cL = 9 := by simpa using h
         have hc256 : cL < 256 := by exact ar65 hw
         have hdrop : slc x (some (st : Int)) (some (-1)) = (x.drop st).dropLast := slc_initFrom x q0
         refine wp_assign K (d := .int ((m : Int) + 1 - ((x.drop st).length : Nat))) (ev_eqI (by walk_at "ev") (by rw [List.length_drop]; exact ar434 hlt)) ?_ rfl rfl
         have hL1 : (x.drop st).length ≤ m := by rw [List.length_drop]; exact ar483 h1
         have hLx : (x.drop st).length ≤ 1000000 := by rw [List.length_drop]; exact ar289 hxl
         refine wp_cut (fun σ' => ∃ q : List Nat, q.length ≤ 1000 ∧ encLast m eol (x.drop st) = (x.drop st).dropLast ++ q ∧ Sub [("q", .v (.str q)), ("start", .v (.int st)), ("line", .v (.str x)), ("append", .app "encoded_body"), ("encoded_body", .own (done.map .str)), ("maxlinelen1", .v (.int ((m - 1 : Nat) : Int))), ("soft_break", .v (.str ([61] ++ eol))), ("body", .v (.str tb)), ("eol", .v (.str eol)), ("maxlinelen", .v (.int m))] σ') ?_ ?_
         · refine wp_if K (c := decide ((3 : Int) ≤ (m : Int) + 1 - ((x.drop st).length : Nat))) (by walk_at "ev") (fun h => ?_) (fun h => ?_)
           · simp only [decide_eq_true_eq] at h
             refine wp_assign K (d := .str (escU cL)) (ev_fn K (f := "quote") (fn_quote B H1 hb2 hG cL hc256) rfl (evA_cons K (hlastEv rfl) evA_nil)) (wp_nil (wp_nil ?_)) rfl rfl
             refine ⟨_, by simp [escU], ?_, .cons rfl (.cons rfl (.cons rfl (.cons rfl (.cons rfl (.cons rfl (.cons rfl (.cons rfl (.cons rfl (.cons rfl .nil)))))))))⟩
             unfold encLast; rw [hcL]; dsimp only; rw [if_pos hw, if_pos (by exact ar224 h)]
           · simp only [decide_eq_false_iff_not] at h
             refine wp_if K (c := ((m : Int) + 1 - ((x.drop st).length : Nat) == 2)) (by walk_at "ev") (fun h2 => ?_) (fun h2 => ?_)
             · have h2' := beq_iff_eq.mp h2
               refine wp_assign K (d := .str ([cL] ++ ([61] ++ eol))) (ev_bin K (hlastEv rfl) (ev_name K rfl rfl) (op_cat _ _ (by simp only [List.length_append, List.length_singleton]; exact ar292 heol2 hZ))) (wp_nil (wp_nil (wp_nil ?_))) rfl rfl
               refine ⟨_, by simp only [List.length_append, List.length_singleton]; exact ar120 heol2, ?_, .cons rfl (.cons rfl (.cons rfl (.cons rfl (.cons rfl (.cons rfl (.cons rfl (.cons rfl (.cons rfl (.cons rfl .nil)))))))))⟩
               unfold encLast; rw [hcL]; dsimp only; rw [if_pos hw, if_neg (by exact ar196 h2'), if_pos (by exact ar195 h2')]
             · have h2' := beq_eq_false_iff_ne.mp h2
               refine wp_assign K (d := .str (([61] ++ eol) ++ escU cL)) (ev_bin K (ev_name K rfl rfl) (ev_fn K (f := "quote") (fn_quote B H1 hb2 hG cL hc256) rfl (evA_cons K (hlastEv rfl) evA_nil)) (op_cat _ _ (by simp only [List.length_append, List.length_singleton, escU, List.length_cons, List.length_nil]; exact ar291 heol2 hZ))) (wp_nil (wp_nil (wp_nil ?_))) rfl rfl
               refine ⟨_, by simp only [List.length_append, List.length_singleton, escU, List.length_cons, List.length_nil]; exact ar119 heol2, ?_, .cons rfl (.cons rfl (.cons rfl (.cons rfl (.cons rfl (.cons rfl (.cons rfl (.cons rfl (.cons rfl (.cons rfl .nil)))))))))⟩
               unfold encLast; rw [hcL]; dsimp only; rw [if_pos hw, if_neg (by exact ar339 h), if_neg (by exact ar197 h2')]
         · rintro σ' ⟨q, hql, hq, hs⟩
           refine Wp.sub ?_ hs
           refine wp_appCall K rfl rfl rfl rfl (d := .str ((x.drop st).dropLast ++ q)) (ev_bin K (ev_eq (ev_slice K (ev_name K rfl rfl) (evP_some K (ev_name K rfl rfl)) (evP_some K (ev_un K (ev_int 1) (op_neg 1))) (opSl_str _ _ (by exact ar288 hxl hZ))) (by rw [hdrop])) (ev_name K rfl rfl) (op_cat _ _ (by rw [List.length_dropLast]; exact ar455 hLx hql hZ))) (by rw [List.length_map]; exact ar290 hdl hZ) (wp_nil (wp_nil ?_))
           show Sub _ _
           refine .cons rfl (.cons ?_ (.cons rfl (.cons rfl (.cons rfl (.cons rfl (.cons rfl .nil))))))
           exact fin _ hq.symm
       · have hw : ¬ (cL = 32 ∨ cL = 9) := by simpa using h
         refine wp_appCall K rfl rfl rfl rfl (d := .str (x.drop st)) (ev_eq (ev_slice K (ev_name K rfl rfl) (evP_some K (ev_name K rfl rfl)) evP_none (opSl_str _ _ (by exact ar288 hxl hZ))) (by rw [hsl])) (by rw [List.length_map]; exact ar290 hdl hZ) (wp_nil (wp_nil ?_))
         show Sub _ _
         refine .cons rfl (.cons ?_ (.cons rfl (.cons rfl (.cons rfl (.cons rfl (.cons rfl .nil))))))
         exact fin _ (by unfold encLast; rw [hcL]; dsimp only; rw [if_neg hw])
 · have hlp : 0 < tb.length := List.length_pos_iff.mpr htne
   have hlast' : tb[tb.length - 1]? = some last := by rw [← List.getLast?_eq_getElem?]; exact hlast
   refine wp_if K (c := decide (last ∈ [13, 10])) (evT_cmp K (ev_sub K (ev_name K rfl rfl) (ev_un K (ev_int 1) (op_neg 1)) (op_item_str (j := tb.length - 1) (by exact ar4) (by exact ar3) (seqIndex?_neg_one hlp) hlast')) (ev_globIs K hG3 rfl) (op_in1 _ _)) (fun h => absurd h (by simp [hl13, hl10])) (fun _ => wp_nil ?_)
   refine wp_ret K (ev_meth K (hasT_str _) F.plainAttrs_str F.slot_str_join F.type_str_join (ev_name K rfl rfl) (evA_cons K (ev_own K rfl rfl) evA_nil) (fn_join eol _ (by exact ar290 hrs hZ))) rfl
end
end
section
open PySem PySem.W PySem.Calls PyProof.Rows
noncomputable def cellCfg (A : Around) (fd : FuncData) (L a : Addr) (h₀ : Heap) (O₀ : List Addr) : Cfg where
 A := A
 env := callEnvC fd L a
 h₀ := h₀
 O₀ := O₀
 fp := L :: (cellsFrom (L + 1) fd.scope.names []).map (·.2)
 FR := fun m h => ∃ ml cm, Fr h₀ L h ml ∧ Cl L (cellsFrom (L + 1) fd.scope.names []) h cm ∧ (∀ y v, (callEnvC fd L a).kindOf y = some .local → m y = some v → ml y = some v) ∧ ∀ y, (callEnvC fd L a).kindOf y = some .cell → m y = cm y
 loc := fun x => decide ((callEnvC fd L a).kindOf x = some .local) || (decide ((callEnvC fd L a).kindOf x = some .cell) && ((cellsFrom (L + 1) fd.scope.names []).lookup x).isSome)
theorem lookup_of_mem {cs : List (Str × Addr)} (hn : (cs.map (·.1)).Nodup) : ∀ {y c}, (y, c) ∈ cs → cs.lookup y = some c := by
 induction cs with
 | nil => intro y c h; cases h
 | cons p r ih =>
   intro y c h
   rw [List.map_cons, List.nodup_cons] at hn
   rw [List.lookup_cons]
   rcases List.mem_cons.mp h with e | h
   · cases e; simp
   · have : y ≠ p.1 := fun e => hn.1 (e ▸ List.mem_map.mpr ⟨(y, c), h, rfl⟩)
     have hb : (y == p.1) = false := by simpa using this
     rw [hb]; exact ih hn.2 h
theorem cellCfg_ok {prog : Program} {w : World} {A : Around} {fd : FuncData} {L a : Addr} {h₀ : Heap} {O₀ : List Addr} (hL : h₀.objs.size ≤ L) (hk : fd.scope.kind = .function) (hO : ∀ a ∈ O₀, ∃ o, h₀.get? a = some o)
   (hnd : ((cellsFrom (L + 1) fd.scope.names []).map (·.1)).Nodup) (hck : ∀ y c, (y, c) ∈ cellsFrom (L + 1) fd.scope.names [] → L < c ∧ (callEnvC fd L a).kindOf y = some .cell) : CfgOk prog w (cellCfg A fd L a h₀ O₀) where
 keep := fun m h F => by obtain ⟨_, _, F, _⟩ := F; exact F.keep
 alive := fun m h F b hb => by
   obtain ⟨_, _, F, X, _⟩ := F
   rcases List.mem_cons.mp hb with rfl | hb
   · obtain ⟨o, _, _, e, _⟩ := F.ns; exact ⟨o, e⟩
   · obtain ⟨⟨y, c⟩, hm, rfl⟩ := List.mem_map.mp hb
     obtain ⟨o, e, _⟩ := X.cell y c (lookup_of_mem hnd hm)
     exact ⟨o, e⟩
 new := fun b hb => by
   have hge : L ≤ b := by
     rcases List.mem_cons.mp hb with rfl | hb
     · exact Nat.le_refl _
     · obtain ⟨⟨y, c⟩, hm, rfl⟩ := List.mem_map.mp hb
       exact Nat.le_of_lt (hck y c hm).1
   cases e : h₀.get? b with
   | none => exact e
   | some o => exact absurd (Nat.lt_of_lt_of_le (Heap.lt_size e) (Nat.le_trans hL hge)) (Nat.lt_irrefl _)
 old := hO
 move := fun m h h' F hfp hx => by
   obtain ⟨ml, cm, F, X, h1, h2⟩ := F
   refine ⟨ml, cm, ⟨F.ns.at' fun o e => hfp L (.head _) o e, hx, F.above⟩, ⟨fun n c e => ?_, X.apart, X.above⟩, h1, h2⟩
   obtain ⟨o, ho, hd⟩ := X.cell n c e
   exact ⟨o, hfp c (.tail _ (List.mem_map.mpr ⟨(n, c), mem_of_lookup e, rfl⟩)) o ho, hd⟩
 load := fun s m x v Q E F hl hv q => by
   obtain ⟨ml, cm, F, X, h1, h2⟩ := F
   have hl' : (decide ((callEnvC fd L a).kindOf x = some .local) || (decide ((callEnvC fd L a).kindOf x = some .cell) && ((cellsFrom (L + 1) fd.scope.names []).lookup x).isSome)) = true := hl
   rw [Bool.or_eq_true, Bool.and_eq_true, decide_eq_true_eq, decide_eq_true_eq] at hl'
   rcases hl' with g1 | ⟨g1, g2⟩
   · exact wpAny_loadName_local (by exact hk) g1 F.ns (h1 x v g1 hv) q
   · obtain ⟨c, hc⟩ := Option.isSome_iff_exists.mp g2
     exact wpAny_loadName_cell (env := callEnvC fd L a) (by exact hk) g1 hc (by have := X.cell x c hc; rw [← h2 x g1, hv] at this; exact this) q
 store := fun s m x v Q E F hl q => by
   obtain ⟨ml, cm, F, X, h1, h2⟩ := F
   have hl' : (decide ((callEnvC fd L a).kindOf x = some .local) || (decide ((callEnvC fd L a).kindOf x = some .cell) && ((cellsFrom (L + 1) fd.scope.names []).lookup x).isSome)) = true := hl
   rw [Bool.or_eq_true, Bool.and_eq_true, decide_eq_true_eq, decide_eq_true_eq] at hl'
   rcases hl' with g1 | ⟨g1, g2⟩
   · refine wpAny_storeName_local g1 F.ns (fun h' hn' hs' => q h' _ ⟨_, cm, F.set hn' hs', X.sameBut hs' (Nat.le_refl _), fun y u hy hu => ?_, fun y hy => ?_⟩ fun b o hb e => hs'.extBut b o (fun hb' => hb (hb' ▸ .head _)) e) ?_
     · dsimp only at hu ⊢
       split at hu <;> rename_i h3
       · rw [if_pos h3]; exact hu
       · rw [if_neg h3]; exact h1 y u hy hu
     · have hyx : y ≠ x := fun e => by
         subst e
         have g1' : (callEnvC fd L a).kindOf y = some .local := g1
         rw [hy] at g1'; cases g1'
       simp only [if_neg hyx]; exact h2 y hy
     · show (fd.scope.kind == .class || (fd.scope.kind == .module && _)) = false
       rw [hk]; rfl
   · obtain ⟨c, hc⟩ := Option.isSome_iff_exists.mp g2
     have hLc := X.above x c (mem_of_lookup hc)
     refine wpAny_storeName_cell (env := callEnvC fd L a) hk g1 hc (X.cell x c hc) fun h' hv' hs' => q h' _ ⟨ml, fun y => if y = x then some v else cm y, ⟨F.ns.sameBut hs' (Nat.ne_of_lt hLc), fun b o e => (hs'.2 b (Nat.ne_of_lt (Nat.lt_trans (Nat.lt_of_lt_of_le (Heap.lt_size e) F.above) hLc))).trans (F.keep b o e), F.above⟩, ⟨fun n c' e => ?_, X.apart, X.above⟩, fun y u hy hu => ?_, fun y hy => ?_⟩ fun b o hb e => hs'.extBut b o (fun hb' => hb (hb' ▸ .tail _ (List.mem_map.mpr ⟨(x, c), mem_of_lookup hc, rfl⟩))) e
     · by_cases hn : n = x
       · subst hn; rw [hc] at e; cases e; simpa using hv'
       · have hcc : c' ≠ c := fun q => hn (name_of_addr X.apart (mem_of_lookup e) (q ▸ mem_of_lookup hc))
         simpa [hn] using (X.cell n c' e).sameBut hs' hcc
     · dsimp only at hu
       split at hu <;> rename_i h3
       · subst h3; rw [g1] at hy; cases hy
       · exact h1 y u hy hu
     · dsimp only
       split
       · rfl
       · exact h2 y hy
structure IsFnC (hB : Heap) (fa : Addr) (fd : FuncData) (body : List Stmt) : Prop where
 get : ∃ o, hB.get? fa = some o ∧ o.data = .func fd
 body : fd.body = .stmts body
 code : hB.CodeRec fd.code fd.qualname
 globals : fd.globals = mainGlobals
 builtins : fd.builtins = builtinsNs
 kind : fd.scope.kind = .function
 nogen : fd.scope.isGenerator = false
 noco : fd.scope.isCoroutine = false
 clo : fd.closure = []
section
variable {prog : Program} {w : World} {hB : Heap} {mg mb : Str → Option Value}
theorem fnN_cells (B : Base hB mg mb) {fa : Addr} {fd : FuncData} {body : List Stmt} (H : IsFnC hB fa fd body) {x : Str} {arg d : D} {n N : Nat}
   (hbind : ∀ v, bindArgs fd ⟨[v], []⟩ = pure [(x, v)]) (hloc : fd.scope.names.lookup x = some .local)
   (hnd : ∀ L, ((cellsFrom (L + 1) fd.scope.names []).map (·.1)).Nodup) (hck : ∀ L y c, (y, c) ∈ cellsFrom (L + 1) fd.scope.names [] → L < c ∧ (callEnvC fd L fa).kindOf y = some .cell)
   (hbody : ∀ A L h₀ O₀, A.guards = some [] → Ok prog w hB mg mb (cellCfg A fd L fa h₀ O₀) n → WpN prog w (cellCfg A fd L fa h₀ O₀) N [(x, .v arg)] body (RetIs d)) : FnVN prog w hB N (.ref fa) [arg] d (n + 1) := by
 intro A s O vals Q E hN R hg X Ow hr q
 obtain ⟨o, ho, hdata⟩ := H.get
 cases hr with
 | @cons v _ _ _ hv hn =>
 cases hn
 refine wpQ_call (codeQ_call_function R.call (X _ _ ho) hdata H.noco H.nogen H.body (H.code.keeps X) ?_)
 rw [hbind, H.clo]
 refine wpAny_pure (wpAny_with_toks hN (wpAny_newFunctionEnv_cells H.kind (fun y hy => by rw [List.mem_singleton.mp hy]; exact .inl hloc) fun env he s' Xc => fun hN' => ?_))
 subst he
 obtain ⟨h₁, tk, rfl, _⟩ := Xc.done
 refine ⟨(B.nolimit.keeps X).keeps Xc.toInCall.keep, codeQ_func ?_⟩
 have hkx : (callEnvC fd s.heap.objs.size fa).kindOf x = some .local := hloc
 have hml : bindL (callEnvC fd s.heap.objs.size fa).kindOf [(x, v)] (fun _ => none) = fun y => if y = x then some v else none := by
   unfold bindL bindL; rw [if_pos hkx]
 have hcm : bindC (callEnvC fd s.heap.objs.size fa).kindOf [(x, v)] (fun _ => none) = fun _ => none := by
   unfold bindC bindC; rw [if_pos hkx]
 let C := cellCfg (A.deeper (callEnvC fd s.heap.objs.size fa)) fd s.heap.objs.size fa s.heap O
 have K : Ok prog w hB mg mb C n := {
   H := cellCfg_ok (Nat.le_refl _) H.kind Ow.alive (hnd _) (hck _)
   G := ⟨X, H.globals, H.builtins, H.kind⟩
   O₀ := Ow
   B := B
   R := R.deeper }
 have hge : ∀ b ∈ C.fp, s.heap.objs.size ≤ b := fun b hb => by
   rcases List.mem_cons.mp hb with rfl | hb
   · exact Nat.le_refl _
   · obtain ⟨⟨y, c⟩, hm, rfl⟩ := List.mem_map.mp hb
     exact Nat.le_of_lt (hck _ y c hm).1
 have hdead : ∀ b ∈ C.fp, s.heap.get? b = none := fun b hb => by
   exact none_of fun o e => Nat.lt_irrefl _ (Nat.lt_of_lt_of_le (Heap.lt_size e) (hge b hb))
 have hx1 : Ext s.heap h₁ := Xc.toInCall.keep
 have F : C.FR (fun y => if y = x then some v else none) h₁ := by
   refine ⟨_, _, ⟨Xc.toInCall.ns, Xc.toInCall.keep, Xc.toInCall.fresh⟩, ⟨Xc.cell, Xc.apart, Xc.above⟩, fun y u hy hu => ?_, fun y hy => ?_⟩
   · show bindL (callEnvC fd s.heap.objs.size fa).kindOf [(x, v)] (fun _ => none) y = some u
     rw [hml]; exact hu
   · show _ = bindC (callEnvC fd s.heap.objs.size fa).kindOf [(x, v)] (fun _ => none) y
     rw [hcm]
     have : y ≠ x := fun e => by subst e; rw [hkx] at hy; cases hy
     exact if_neg this
 have S : StX C (fun y => if y = x then some v else none) (C.fp ++ O) [(x, .v arg)] h₁ := by
   refine ⟨F, fun a ha => List.mem_append_right _ ha, fun a ha => List.mem_append_left _ ha, fun a ha => ?_, fun a ha => ?_, fun y e he => ?_, fun y z e e' a hne he he' h1 h2 => ?_⟩
   · rcases List.mem_append.mp ha with ha | ha
     · exact K.H.alive _ _ F a ha
     · obtain ⟨o, e⟩ := Ow.alive a ha; exact ⟨o, hx1 _ _ e⟩
   · rcases List.mem_append.mp ha with ha | ha
     · exact .inr (hdead a ha)
     · exact .inl ha
   · rw [lookup_cons'] at he
     split at he
     · rename_i hy; cases he
       exact ⟨v, by rw [if_pos hy], Rep.move (fun a ha => (List.mem_append.mp ha).elim (fun e => .inr (hdead a e)) .inl) (fun b o _ e => hx1 b o e) hv⟩
     · cases he
   · rw [lookup_cons'] at he
     split at he
     · cases he; cases h1
     · cases he
 refine hbody _ _ _ _ (show (A.deeper (callEnvC fd s.heap.objs.size fa)).guards = some [] from hg) K _ _ _ _ _ hN' S fun f φ σ' h' tk m' O' ht hp hf S' g => ?_
 exact q _ h' tk ht (K.H.keep _ _ S'.fr) (ret_is hf hp)
end
end
section
open PySem PySem.W PySem.Calls PyProof.Rows
noncomputable def toD : Value → Option D
 | .int i _ => some (.int i)
 | .str x _ => some (.str x.cps.toList)
 | .bytes b _ => some (.bytes b.toList)
 | _ => none
theorem rep_toD {O : List Addr} {h : Heap} {v : Value} {d : D} (e : toD v = some d) : Rep O h v d := by
 cases v with
 | int i t => cases e; exact .int
 | str x t =>
   cases e
   obtain ⟨⟨l⟩⟩ := x
   exact .str
 | bytes b t =>
   cases e
   obtain ⟨l⟩ := b
   exact .bytes
 | _ => cases e
theorem reps_toD {O : List Addr} {h : Heap} : ∀ {vs : List Value} {ds : List D}, vs.map toD = ds.map some → Reps O h vs ds
 | [], [], _ => .nil
 | [], d :: ds, e => by cases e
 | v :: vs, [], e => by cases e
 | v :: vs, d :: ds, e => by
   rw [List.map_cons, List.map_cons] at e
   have := List.cons.inj e
   exact .cons (rep_toD this.1) (reps_toD this.2)
noncomputable def seqAt (K : Frag) (a : Addr) : Option (List Value) := match K.lookup a with
 | some ⟨_, _, .seq vs _, _⟩ => some vs.toList
 | _ => none
noncomputable def listAt (K : Frag) (a : Addr) : Option (List Value) := match K.lookup a with
 | some ⟨.type T, none, .seq vs _, ⟨[]⟩⟩ => if T == "list" then some vs.toList else none
 | _ => none
noncomputable def fdAt (K : Frag) (a : Addr) : Option FuncData := match K.lookup a with
 | some ⟨_, _, .func fd, _⟩ => some fd
 | _ => none
theorem seqAt_get {K : Frag} {h : Heap} (X : K.In h) {a : Addr} {vs : List Value} (e : seqAt K a = some vs) : ∃ o n, h.get? a = some o ∧ o.data = .seq vs.toArray n := by
 unfold seqAt at e
 split at e
 · rename_i c d vs' n sl ho
   have e' : vs'.toList = vs := Option.some.inj e
   exact ⟨_, n, X a _ ho, by rw [← e']⟩
 · cases e
theorem listAt_get {K : Frag} {h : Heap} (X : K.In h) {a : Addr} {vs : List Value} (e : listAt K a = some vs) : h.PlainList a vs.toArray := by
 unfold listAt at e
 split at e
 · rename_i T vs' n ho
   split at e
   · rename_i hT
     have e' : vs'.toList = vs := Option.some.inj e
     have hT' : T = "list" := by simpa using hT
     subst hT'
     refine ⟨n, ?_⟩
     rw [← e']; exact X a _ ho
   · cases e
 · cases e
theorem fdAt_get {K : Frag} {h : Heap} (X : K.In h) {a : Addr} {fd : FuncData} (e : fdAt K a = some fd) : ∃ o, h.get? a = some o ∧ o.data = .func fd := by
 unfold fdAt at e
 split at e
 · rename_i c d fd' sl ho
   have e' : fd' = fd := Option.some.inj e
   exact ⟨_, X a _ ho, by rw [← e']⟩
 · cases e
theorem glob_K {K : Frag} {h : Heap} {mg : Str → Option Value} (X : K.In h) (g : h.Ns mainGlobals mg) {x : Str} {d : D} (e : (nsIn K mainGlobals x).map (·.map toD) = some (some (some d))) : GlobIs h mg x d := by
 cases h1 : nsIn K mainGlobals x with
 | none => rw [h1] at e; cases e
 | some v1 =>
   cases v1 with
   | none => rw [h1] at e; cases e
   | some v =>
     rw [h1] at e
     have e' : toD v = some d := Option.some.inj (Option.some.inj e)
     exact ⟨v, mg_of X g h1, rep_toD e'⟩
theorem globL_K {K : Frag} {h : Heap} {mg : Str → Option Value} (X : K.In h) (g : h.Ns mainGlobals mg) {x : Str} {a : Addr} {ds : List D} (e1 : nsIn K mainGlobals x = some (some (.ref a))) (e2 : (listAt K a).map (·.map toD) = some (ds.map some)) : GlobIs h mg x (.lst ds) := by
 cases h1 : listAt K a with
 | none => rw [h1] at e2; cases e2
 | some vs =>
   rw [h1] at e2
   exact ⟨.ref a, mg_of X g e1, .lst (by simp) (listAt_get X h1) (reps_toD (Option.some.inj e2))⟩
noncomputable def pmAt (K : Frag) (a : Addr) : Value := match fdAt K a with | some fd => fd.pyModule | none => .none
noncomputable def codeAt (K : Frag) (a : Addr) : Value := match fdAt K a with | some fd => fd.code | none => .none
theorem fnW_K {K : Frag} {h : Heap} {mg : Str → Option Value} {p : Program} {k : Nat} (X : K.In h) (g : h.Ns mainGlobals mg) {a T : Addr} {ds : List D} (e1 : nsIn K mainGlobals (recAtW p k).name = some (some (.ref a)))
   (e2 : fdAt K a = some (docAtW p k (pmAt K a) (codeAt K a) .none T)) (e3 : codeIn K (codeAt K a) (recAtW p k).name = true) (e4 : (seqAt K T).map (·.map toD) = some (ds.map some))
   (f1 : (recAtW p k).scope.kind = .function) (f2 : (recAtW p k).scope.isGenerator = false) (f3 : (recAtW p k).scope.isCoroutine = false) (f4 : ∀ x ∈ (recAtW p k).scope.names, x.2 ≠ .cell) : HasFnW h mg p k ds := by
 cases h1 : seqAt K T with
 | none => rw [h1] at e4; cases e4
 | some vs =>
   rw [h1] at e4
   obtain ⟨o, n, h2, h3⟩ := seqAt_get X h1
   obtain ⟨o', h4, h5⟩ := fdAt_get X e2
   exact ⟨a, _, _, .none, T, o, vs.toArray, n, mg_of X g e1, ⟨⟨o', h4, h5⟩, rfl, codeRec_of X e3, rfl, rfl, f1, f2, f3, f4⟩, h2, h3, by rw [List.toList_toArray]; exact reps_toD (Option.some.inj e4)⟩
theorem noneBooked_K {K : Frag} {h : Heap} (X : K.In h) (N : h.NoLimit) (e : nsIn K cStatics sharingNotToldKey = some none) : NoneBooked h := by
 obtain ⟨mc, ⟨o, es, ep, h1, h2, h3, h4⟩, _⟩ := N
 refine ⟨mc, ⟨o, es, ep, h1, h2, h3, h4⟩, ?_⟩
 unfold nsIn at e
 split at e
 · rename_i c d es' ep' sl ho
   have := X _ _ ho
   rw [h1] at this
   cases this
   cases h2
   split at e
   · cases e
   · rename_i he
     rw [← h4]
     unfold nsFind findBy
     rw [← Array.find?_toList, he]
     rfl
 · cases e
noncomputable def bi1 : List Str := ["len", "chr", "ord", "sum", "int", "str", "bytes", "bytearray", "enumerate", "isinstance", "memoryview"]
noncomputable def noneIn (K : Frag) (xs : List Str) : Bool := xs.all fun x => match nsIn K mainGlobals x with
 | some none => true
 | _ => false
theorem noneIn_get {K : Frag} {h : Heap} {mg : Str → Option Value} (X : K.In h) (g : h.Ns mainGlobals mg) {xs : List Str} (e : noneIn K xs = true) : ∀ x ∈ xs, mg x = none := fun x hx => by
 have := List.all_eq_true.mp e x hx
 cases h1 : nsIn K mainGlobals x with
 | none => rw [h1] at this; cases this
 | some v =>
   cases v with
   | none => exact mg_none_of X g h1
   | some v => rw [h1] at this; cases this
theorem hasFn_T {p q : Program} {loose : List Str} {mean : ExcName → Option Value} {mg mb : Str → Option Value} {h : Heap} (T : Top q loose mean mg mb h) (e : recsOf q = recsOf p) {k : Nat} (hk : k < (recsOf p).length)
   (f1 : (recAt p k).scope.kind = .function) (f2 : (recAt p k).scope.isGenerator = false) (f3 : (recAt p k).scope.isCoroutine = false) (f4 : ((recAt p k).scope.names.all fun x => x.2 != .cell) = true) : HasFn h mg p k := by
 have hm : recAt p k ∈ recsOf q := by
   rw [e]; unfold recAt
   rw [List.getElem?_eq_getElem hk]; exact List.getElem_mem hk
 obtain ⟨a, o, pm, code, doc, h1, h2, h3, h4⟩ := T.fn _ hm
 exact ⟨a, pm, code, doc, h1, ⟨⟨o, h2, h3⟩, rfl, h4, rfl, rfl, f1, f2, f3, fun x hx => by
   have := List.all_eq_true.mp f4 x hx
   simpa using this⟩⟩
end
section
section
noncomputable abbrev z0 : Str := ⟨#[47,99,108,97,105,109,47,99,117,116,46,112,121]⟩
noncomputable abbrev z1 : Str := ⟨#[95,95,110,97,109,101,95,95]⟩
noncomputable abbrev z2 : Str := ⟨#[99,112,121,51,49,51,46,101,110,99,111,100,105,110,103,115,46,112,117,110,121,99,111,100,101]⟩
noncomputable abbrev z3 : Str := ⟨#[98,105,97,115]⟩
noncomputable abbrev z4 : Str := ⟨#[108,97,119,95,105,106,48,49,56,48,95,48,50]⟩
noncomputable abbrev z5 : Str := ⟨#[99,112,121,51,49,51,46,101,109,97,105,108,46,113,117,111,112,114,105,109,105,109,101]⟩
noncomputable abbrev z6 : Str := ⟨#[117,110,113,117,111,116,101]⟩
noncomputable abbrev z7 : Str := ⟨#[113,117,111,116,101]⟩
noncomputable abbrev z8 : Str := ⟨#[98,111,100,121,95,101,110,99,111,100,101]⟩
noncomputable abbrev z9 : Str := ⟨#[100,101,99,111,100,101]⟩
noncomputable abbrev z10 : Str := ⟨#[103,101,110,101,114,97,116,101,95,103,101,110,101,114,97,108,105,122,101,100,95,105,110,116,101,103,101,114]⟩
noncomputable abbrev z11 : Str := ⟨#[97,100,97,112,116]⟩
noncomputable abbrev z12 : Str := ⟨#[103,101,110,101,114,97,116,101,95,105,110,116,101,103,101,114,115]⟩
noncomputable abbrev z13 : Str := ⟨#[100,101,99,111,100,101,95,103,101,110,101,114,97,108,105,122,101,100,95,110,117,109,98,101,114]⟩
noncomputable abbrev z14 : Str := ⟨#[105,110,115,101,114,116,105,111,110,95,115,111,114,116]⟩
noncomputable abbrev z15 : Str := ⟨#[112,117,110,121,99,111,100,101,95,100,101,99,111,100,101]⟩
noncomputable abbrev z16 : Str := ⟨#[95,108,97,119,95,100,114,97,119,110]⟩
noncomputable abbrev z17 : Str := ⟨#[95,108,97,119,95,119,114,105,116,116,101,110]⟩
noncomputable abbrev z18 : Str := ⟨#[95,108,97,119,95,108,97,105,100]⟩
noncomputable abbrev z19 : Str := ⟨#[95,108,97,119,95,108,97,98,101,108]⟩
noncomputable abbrev z20 : Str := ⟨#[108,97,119]⟩
noncomputable abbrev z21 : Str := ⟨#[114,101,115,117,108,116]⟩
noncomputable abbrev z22 : Str := ⟨#[100,101,108,116,97]⟩
noncomputable abbrev z23 : Str := ⟨#[101,120,116,101,110,100,101,100]⟩
noncomputable abbrev z24 : Str := ⟨#[101,114,114,111,114,115]⟩
noncomputable abbrev z25 : Str := ⟨#[60,109,111,100,117,108,101,62]⟩
noncomputable abbrev z26 : Str := ⟨#[95,95,112,97,99,107,97,103,101,95,95]⟩
noncomputable abbrev z27 : Str := ⟨#[95,95,108,111,97,100,101,114,95,95]⟩
noncomputable abbrev z28 : Str := ⟨#[95,95,97,110,110,111,116,97,116,105,111,110,115,95,95]⟩
noncomputable abbrev z29 : Str := ⟨#[95,95,98,117,105,108,116,105,110,115,95,95]⟩
noncomputable abbrev z30 : Str := ⟨#[95,95,99,97,99,104,101,100,95,95]⟩
noncomputable abbrev z31 : Str := ⟨#[95,81,85,79,80,82,73,95,77,65,80]⟩
noncomputable abbrev z32 : Str := ⟨#[95,81,85,79,80,82,73,95,72,69,65,68,69,82,95,77,65,80]⟩
noncomputable abbrev z33 : Str := ⟨#[95,81,85,79,80,82,73,95,66,79,68,89,95,77,65,80]⟩
noncomputable abbrev z34 : Str := ⟨#[97,115,99,105,105,95,108,111,119,101,114,99,97,115,101]⟩
noncomputable abbrev z35 : Str := ⟨#[97,115,99,105,105,95,117,112,112,101,114,99,97,115,101]⟩
noncomputable abbrev z36 : Str := ⟨#[97,115,99,105,105,95,108,101,116,116,101,114,115]⟩
noncomputable abbrev z37 : Str := ⟨#[100,105,103,105,116,115,95,115,116,114,105,110,103]⟩
noncomputable abbrev z38 : Str := ⟨#[104,101,120,100,105,103,105,116,115]⟩
noncomputable abbrev z39 : Str := ⟨#[95,81,85,79,80,82,73,95,66,79,68,89,95,69,78,67,79,68,69,95,77,65,80]⟩
noncomputable abbrev z40 : Str := ⟨#[100,105,103,105,116,115,95,112,117,110,121,99,111,100,101]⟩
noncomputable abbrev lfN (o : Obj) : BT := .node o .nil .nil
noncomputable def eK (P : Params) (z : Str) (n : Nat) (x : Value) : DictEntry := { hash := PyData.keyHash P z, key := .str z n, val := x }
noncomputable abbrev sg := @PySem.W.Fast.tw10295753902157049106
noncomputable abbrev sr := @PySem.W.Fast.tw10110043849684766642
noncomputable abbrev tt := @PySem.W.Fast.tw14364793385576792824
noncomputable abbrev dn := @PySem.W.Fast.tw11892475500146522536
noncomputable abbrev xs := @PySem.W.Fast.tw12563942051412417395
noncomputable abbrev pp : Program := PySem.Challenge.pw_ij0180_02
theorem hSG : @segGoT treeTable = sg tt := by rw [PySem.W.Fast.te10295753902157049106, PySem.W.Fast.te14364793385576792824]
theorem hSR : @segRunT treeTable = sr tt := by rw [PySem.W.Fast.te10110043849684766642, PySem.W.Fast.te14364793385576792824]
noncomputable abbrev q0 : Pos := ⟨0,0,0,0⟩
noncomputable def pT (l : List Stmt) (env : Env) (c : Code) (p : Pos) : Thread := ⟨(xs l env).wrap doneF deadEnd id id, c, p, [topFrame q0]⟩
theorem hP (l : List Stmt) (env : Env) (c : Code) (p : Pos) : piecesOf l env c p [topFrame q0] = pT l env c p := by unfold piecesOf pT; rw [PySem.W.Fast.te12563942051412417395]
noncomputable def stx (j : Nat) : Stmt := (pp.main.body[j]?).getD default
noncomputable def fdP : Stmt → Arguments | .FunctionDef _ a _ _ _ _ _ _ _ _ => a | _ => default
noncomputable def fdB : Stmt → List Stmt | .FunctionDef _ _ b _ _ _ _ _ _ _ => b | _ => default
noncomputable def fdS : Stmt → Scope | .FunctionDef _ _ _ _ _ _ s _ _ _ => s | _ => default
noncomputable def hx (n : Nat) : Nat := if Nat.blt n 10 then n + 48 else n + 55
noncomputable def q2 (n : Nat) : Str := ⟨⟨[61, hx (n / 16), hx (n % 16)]⟩⟩
noncomputable def its : Nat → Nat → Nat → List Value
 | 0, _, _ => []
 | n + 1, k, t => .str (q2 k) t :: its n (k + 1) (t + 4)
noncomputable def mkP (t0 i : Nat) : Nat → Nat → List (Nat × Nat) → List Value
 | 0, _, _ => []
 | n + 1, k, ex => match ex with
   | [] => .str (q2 k) (197 + 4 * k) :: mkP t0 i n (k + 1) []
   | (c, j) :: r => match Nat.beq c k with
     | true => (match Nat.blt j i with | true => .str ⟨⟨[k]⟩⟩ (t0 + 3 * j) | false => .str (q2 k) (197 + 4 * k)) :: mkP t0 i n (k + 1) r
     | false => .str (q2 k) (197 + 4 * k) :: mkP t0 i n (k + 1) ((c, j) :: r)
noncomputable def updL : List Value → Nat → Value → List Value
 | [], _, _ => []
 | _ :: r, 0, v => v :: r
 | x :: r, n + 1, v => x :: updL r n v
noncomputable def nsO (l : List DictEntry) (n : Nat) : Obj := { cls := .type "dict", data := .dict ⟨l⟩ n }
noncomputable def lsO (l : List Value) (n : Nat) : Obj := { cls := .type "list", data := .seq ⟨l⟩ n }
noncomputable def nth : List Nat → Nat → Nat
 | [], _ => 0
 | x :: _, 0 => x
 | _ :: r, n + 1 => nth r n
noncomputable def inO (l : List Nat) (t i : Nat) : Obj := { cls := .type "bytes_iterator", data := .fields ⟨[.bytes ⟨l.map UInt8.ofNat⟩ t, .int (.ofNat i) 0]⟩ }
noncomputable def cEn (P : Params) (l : List Nat) (t i : Nat) : DictEntry := { hash := PyData.keyHash P ⟨⟨[99]⟩⟩, key := .str ⟨⟨[99]⟩⟩ 1244, val := .int (.ofNat (nth l (i - 1))) (t + 3 * (i - 1)) }
noncomputable def kOf (r : Option (SharedT × Thread)) : Result → Sem Fin := match r with | some (_, ⟨_, _, _, .ret k _ _ _ _ _ _ :: _⟩) => k | _ => fun _ => .raise .none
noncomputable abbrev an : Option Value := some (.ref 6)
noncomputable def scT : Scope := pp.main.scope
noncomputable def envT : Env := { scope := scT, locals := mainNs, globals := mainNs, cells := [], code := .ref 13, frame := some 14 }
noncomputable def st0 : Stmt := stx 0
noncomputable def st1 : Stmt := stx 1
noncomputable def la : List Stmt := [st0, st1]
noncomputable def st2 : Stmt := stx 2
noncomputable def lb : List Stmt := [st2]
noncomputable def st3 : Stmt := stx 3
noncomputable def st4 : Stmt := stx 4
noncomputable def st5 : Stmt := stx 5
noncomputable def st6 : Stmt := stx 6
noncomputable def st7 : Stmt := stx 7
noncomputable def st8 : Stmt := stx 8
noncomputable def st9 : Stmt := stx 9
noncomputable def st10 : Stmt := stx 10
noncomputable def lc : List Stmt := [st3, st4, st5, st6, st7, st8, st9, st10]
noncomputable def st11 : Stmt := stx 11
noncomputable def ld : List Stmt := [st11]
noncomputable def st12 : Stmt := stx 12
noncomputable def le : List Stmt := [st12]
noncomputable def st13 : Stmt := stx 13
noncomputable def lf : List Stmt := [st13]
noncomputable def st16 : Stmt := stx 16
noncomputable def st17 : Stmt := stx 17
noncomputable def st18 : Stmt := stx 18
noncomputable def lg : List Stmt := [stx 14, stx 15, st16, st17, st18]
noncomputable def st21 : Stmt := stx 21
noncomputable def st23 : Stmt := stx 23
noncomputable def lh : List Stmt := [stx 19, stx 20, st21, stx 22, st23, stx 24]
noncomputable def st30 : Stmt := stx 30
noncomputable def li : List Stmt := [stx 25, stx 26, stx 27, stx 28, stx 29, st30]
noncomputable def lj : List Stmt := [stx 31, stx 32, stx 33, stx 34, stx 35]
noncomputable def bT : List Stmt := la ++ (lb ++ (lc ++ (ld ++ (le ++ (lf ++ (lg ++ (lh ++ (li ++ (lj ++ [])))))))))
noncomputable def cE : Code := .body bT envT
noncomputable def by11 : List Nat := [45, 33, 42, 43, 47, 97, 98, 99, 100, 101, 102, 103, 104, 105, 106, 107, 108, 109, 110, 111, 112, 113, 114, 115, 116, 117, 118, 119, 120, 121, 122, 65, 66, 67, 68, 69, 70, 71, 72, 73, 74, 75, 76, 77, 78, 79, 80, 81, 82, 83, 84, 85, 86, 87, 88, 89, 90, 48, 49, 50, 51, 52, 53, 54, 55, 56, 57]
noncomputable def inv11 : List (Nat × Nat) := [(33, 1), (42, 2), (43, 3), (45, 0), (47, 4), (48, 57), (49, 58), (50, 59), (51, 60), (52, 61), (53, 62), (54, 63), (55, 64), (56, 65), (57, 66), (65, 31), (66, 32), (67, 33), (68, 34), (69, 35), (70, 36), (71, 37), (72, 38), (73, 39), (74, 40), (75, 41), (76, 42), (77, 43), (78, 44), (79, 45), (80, 46), (81, 47), (82, 48), (83, 49), (84, 50), (85, 51), (86, 52), (87, 53), (88, 54), (89, 55), (90, 56), (97, 5), (98, 6), (99, 7), (100, 8), (101, 9), (102, 10), (103, 11), (104, 12), (105, 13), (106, 14), (107, 15), (108, 16), (109, 17), (110, 18), (111, 19), (112, 20), (113, 21), (114, 22), (115, 23), (116, 24), (117, 25), (118, 26), (119, 27), (120, 28), (121, 29), (122, 30)]
noncomputable def lst11 (i : Nat) : List Value := mkP 1245 i 256 0 inv11
noncomputable def by13 : List Nat := [32, 33, 34, 35, 36, 37, 38, 39, 40, 41, 42, 43, 44, 45, 46, 47, 48, 49, 50, 51, 52, 53, 54, 55, 56, 57, 58, 59, 60, 62, 63, 64, 65, 66, 67, 68, 69, 70, 71, 72, 73, 74, 75, 76, 77, 78, 79, 80, 81, 82, 83, 84, 85, 86, 87, 88, 89, 90, 91, 92, 93, 94, 95, 96, 97, 98, 99, 100, 101, 102, 103, 104, 105, 106, 107, 108, 109, 110, 111, 112, 113, 114, 115, 116, 117, 118, 119, 120, 121, 122, 123, 124, 125, 126, 9]
noncomputable def inv13 : List (Nat × Nat) := [(9, 94), (32, 0), (33, 1), (34, 2), (35, 3), (36, 4), (37, 5), (38, 6), (39, 7), (40, 8), (41, 9), (42, 10), (43, 11), (44, 12), (45, 13), (46, 14), (47, 15), (48, 16), (49, 17), (50, 18), (51, 19), (52, 20), (53, 21), (54, 22), (55, 23), (56, 24), (57, 25), (58, 26), (59, 27), (60, 28), (62, 29), (63, 30), (64, 31), (65, 32), (66, 33), (67, 34), (68, 35), (69, 36), (70, 37), (71, 38), (72, 39), (73, 40), (74, 41), (75, 42), (76, 43), (77, 44), (78, 45), (79, 46), (80, 47), (81, 48), (82, 49), (83, 50), (84, 51), (85, 52), (86, 53), (87, 54), (88, 55), (89, 56), (90, 57), (91, 58), (92, 59), (93, 60), (94, 61), (95, 62), (96, 63), (97, 64), (98, 65), (99, 66), (100, 67), (101, 68), (102, 69), (103, 70), (104, 71), (105, 72), (106, 73), (107, 74), (108, 75), (109, 76), (110, 77), (111, 78), (112, 79), (113, 80), (114, 81), (115, 82), (116, 83), (117, 84), (118, 85), (119, 86), (120, 87), (121, 88), (122, 89), (123, 90), (124, 91), (125, 92), (126, 93)]
noncomputable def lst13 (i : Nat) : List Value := mkP 1450 i 256 0 inv13
noncomputable def ob0 (P : Params) : Obj := boot_o_0 P
noncomputable def ob1 (P : Params) : Obj := boot_o_1 P
noncomputable def ob2 (P : Params) : Obj := boot_o_2 P
noncomputable def ob3 (P : Params) : Obj := boot_o_3 P
noncomputable def ob4 (P : Params) : Obj := boot_o_4 P
noncomputable def ob5 (P : Params) : Obj := boot_o_5 P
noncomputable def ob6 (P : Params) : Obj := boot_o_6 P
noncomputable def ob7 (P : Params) : Obj := boot_o_7 P
noncomputable def ob8 (P : Params) : Obj := boot_o_8 P
noncomputable def ob9 (P : Params) : Obj := boot_o_9 P
noncomputable def ob10 (P : Params) : Obj := boot_o_10 P
noncomputable def ob11 (P : Params) : Obj := { cls := .type "tuple", data := .seq #[] }
noncomputable def ob12 (P : Params) : Obj := { cls := .none, data := .fields #[] }
noncomputable def ob13 (P : Params) : Obj := { cls := .type "code", data := .fields #[.str z25 182,.str z25 183,.str z0 184,.int 1 0,.int 0 0,.int 0 0,.int 0 0,.int 0 0,.ref 11,.bool false,.int 181 0,.ref 12,.none,.none,.none,.none,.int 185 0,.int 1 0,.str z0 186] }
noncomputable def ob14 (P : Params) : Obj := { cls := .type "frame", slots := #[Option.some (.ref 13), Option.some (.ref 3), Option.some (.ref 3), Option.none, Option.some (.str (⟨#[95,95,109,97,105,110,95,95]⟩) 164), Option.none, Option.some (.ref 0)] }
noncomputable def s_BLOCK (w : World) (os : OsState) : SharedT := let P := w.params; ⟨(.node (ob0 P) (.node (ob1 P) (.node (ob3 P) (lfN (ob7 P)) (lfN (ob11 P))) (.node (ob5 P) (lfN (ob9 P)) (lfN (ob13 P)))) (.node (ob2 P) (.node (ob4 P) (lfN (ob8 P)) (lfN (ob12 P))) (.node (ob6 P) (lfN (ob10 P)) (lfN (ob14 P))))), 15, {}, ⟨[]⟩, {}, 187, os⟩
noncomputable def en0 (P : Params) : DictEntry := eK P z1 165 (.str (⟨#[95,95,109,97,105,110,95,95]⟩) 164)
noncomputable def en1 (P : Params) : DictEntry := eK P (⟨#[95,95,100,111,99,95,95]⟩) 166 (.none)
noncomputable def en2 (P : Params) : DictEntry := eK P z26 167 (.none)
noncomputable def en3 (P : Params) : DictEntry := eK P z27 168 (.builtin "__main__.__loader__#opaque")
noncomputable def en4 (P : Params) : DictEntry := eK P (⟨#[95,95,115,112,101,99,95,95]⟩) 169 (.none)
noncomputable def en5 (P : Params) : DictEntry := eK P z28 170 (.ref 6)
noncomputable def en6 (P : Params) : DictEntry := eK P z29 171 (.ref 4)
noncomputable def en7 (P : Params) : DictEntry := eK P (⟨#[95,95,102,105,108,101,95,95]⟩) 173 (.str z0 172)
noncomputable def en8 (P : Params) : DictEntry := eK P z30 174 (.none)
noncomputable def en9 (P : Params) : DictEntry := eK P (⟨#[67,82,76,70]⟩) 188 (.str (⟨#[13,10]⟩) 187)
noncomputable def en10 (P : Params) : DictEntry := eK P (⟨#[78,76]⟩) 190 (.str (⟨#[10]⟩) 189)
noncomputable def ob15 (P : Params) : Obj := nsO [en0 P, en1 P, en2 P, en3 P, en4 P, en5 P, en6 P, en7 P, en8 P, en9 P, en10 P] 11
noncomputable def s_1 (w : World) (os : OsState) : SharedT := let P := w.params; ⟨(.node (ob0 P) (.node (ob1 P) (.node (ob15 P) (lfN (ob7 P)) (lfN (ob11 P))) (.node (ob5 P) (lfN (ob9 P)) (lfN (ob13 P)))) (.node (ob2 P) (.node (ob4 P) (lfN (ob8 P)) (lfN (ob12 P))) (.node (ob6 P) (lfN (ob10 P)) (lfN (ob14 P))))), 15, {}, ⟨[]⟩, {}, 191, os⟩
noncomputable def en11 (P : Params) : DictEntry := eK P z31 1218 (.ref 17)
noncomputable def ob16 (P : Params) : Obj := nsO [en0 P, en1 P, en2 P, en3 P, en4 P, en5 P, en6 P, en7 P, en8 P, en9 P, en10 P, en11 P] 12
noncomputable def ob17 (P : Params) : Obj := { cls := .type "range", data := .fields #[.int 0 192,.int 256 191,.int 1 193] }
noncomputable def ob18 (P : Params) : Obj := { cls := .type "range_iterator", data := .fields #[.int 256 0,.int 0 0,.int 1 0] }
noncomputable def ob19 (P : Params) : Obj := lsO (its 256 0 197) 256
noncomputable def ob20 (P : Params) : Obj := { cls := .type "dict", data := .dict #[] 2 }
noncomputable def ob21 (P : Params) : Obj := { cls := .type "StopIteration", data := .fields #[.ref 19,.none,.none,.none,.bool false,.none] }
noncomputable def s_2 (w : World) (os : OsState) : SharedT := let P := w.params; ⟨(.node (ob0 P) (.node (ob1 P) (.node (ob16 P) (.node (ob7 P) (lfN (ob17 P)) .nil) (.node (ob11 P) (lfN (ob11 P)) .nil)) (.node (ob5 P) (.node (ob9 P) (lfN (ob19 P)) .nil) (lfN (ob13 P)))) (.node (ob2 P) (.node (ob4 P) (.node (ob8 P) (lfN (ob18 P)) .nil) (.node (ob12 P) (lfN (ob21 P)) .nil)) (.node (ob6 P) (.node (ob10 P) (lfN (ob20 P)) .nil) (lfN (ob14 P))))), 21, {}, ⟨[]⟩, {}, 1219, os⟩
noncomputable def en12 (P : Params) : DictEntry := eK P z1 165 (.str z5 1234)
noncomputable def en13 (P : Params) : DictEntry := eK P z32 1219 (.ref 22)
noncomputable def en14 (P : Params) : DictEntry := eK P z33 1220 (.ref 24)
noncomputable def en15 (P : Params) : DictEntry := eK P z34 1222 (.str (⟨#[97,98,99,100,101,102,103,104,105,106,107,108,109,110,111,112,113,114,115,116,117,118,119,120,121,122]⟩) 1221)
noncomputable def en16 (P : Params) : DictEntry := eK P z35 1224 (.str (⟨#[65,66,67,68,69,70,71,72,73,74,75,76,77,78,79,80,81,82,83,84,85,86,87,88,89,90]⟩) 1223)
noncomputable def en17 (P : Params) : DictEntry := eK P z36 1226 (.str (⟨#[97,98,99,100,101,102,103,104,105,106,107,108,109,110,111,112,113,114,115,116,117,118,119,120,121,122,65,66,67,68,69,70,71,72,73,74,75,76,77,78,79,80,81,82,83,84,85,86,87,88,89,90]⟩) 1225)
noncomputable def en18 (P : Params) : DictEntry := eK P z37 1228 (.str (⟨#[48,49,50,51,52,53,54,55,56,57]⟩) 1227)
noncomputable def en19 (P : Params) : DictEntry := eK P z38 1233 (.str (⟨#[48,49,50,51,52,53,54,55,56,57,97,98,99,100,101,102,65,66,67,68,69,70]⟩) 1232)
noncomputable def ob22 (P : Params) : Obj := nsO [en12 P, en1 P, en2 P, en3 P, en4 P, en5 P, en6 P, en7 P, en8 P, en9 P, en10 P, en11 P, en13 P, en14 P, en15 P, en16 P, en17 P, en18 P, en19 P] 19
noncomputable def ob23 (P : Params) : Obj := { cls := .type "slice", data := .fields #[.none,.none,.none] }
noncomputable def ob24 (P : Params) : Obj := lsO (its 256 0 197) 0
noncomputable def s_10 (w : World) (os : OsState) : SharedT := let P := w.params; ⟨(.node (ob0 P) (.node (ob1 P) (.node (ob22 P) (.node (ob7 P) (lfN (ob17 P)) (lfN (ob23 P))) (.node (ob11 P) (lfN (ob11 P)) .nil)) (.node (ob5 P) (.node (ob9 P) (lfN (ob19 P)) .nil) (.node (ob13 P) (lfN (ob23 P)) .nil))) (.node (ob2 P) (.node (ob4 P) (.node (ob8 P) (lfN (ob18 P)) (lfN (ob24 P))) (.node (ob12 P) (lfN (ob21 P)) .nil)) (.node (ob6 P) (.node (ob10 P) (lfN (ob20 P)) .nil) (.node (ob14 P) (lfN (ob24 P)) .nil)))), 25, {}, ⟨[]⟩, {}, 1236, os⟩
noncomputable def en20 (P : Params) : DictEntry := eK P (⟨#[99]⟩) 1244 (.int 57 1441)
noncomputable def ob25 (P : Params) : Obj := nsO [en12 P, en1 P, en2 P, en3 P, en4 P, en5 P, en6 P, en7 P, en8 P, en9 P, en10 P, en11 P, en13 P, en14 P, en15 P, en16 P, en17 P, en18 P, en19 P, en20 P] 20
noncomputable def ob26 (P : Params) : Obj := lsO (lst11 67) 0
noncomputable def ob27 (P : Params) : Obj := { cls := .type "bytes_iterator", data := .fields #[.none,.int 67 0] }
noncomputable def ob28 (P : Params) : Obj := { cls := .type "StopIteration", data := .fields #[.ref 26,.none,.none,.none,.bool false,.none] }
noncomputable def s_11 (w : World) (os : OsState) : SharedT := let P := w.params; ⟨(.node (ob0 P) (.node (ob1 P) (.node (ob25 P) (.node (ob7 P) (lfN (ob17 P)) (lfN (ob23 P))) (.node (ob11 P) (lfN (ob11 P)) (lfN (ob28 P)))) (.node (ob5 P) (.node (ob9 P) (lfN (ob19 P)) (lfN (ob27 P))) (.node (ob13 P) (lfN (ob23 P)) .nil))) (.node (ob2 P) (.node (ob4 P) (.node (ob8 P) (lfN (ob18 P)) (lfN (ob24 P))) (.node (ob12 P) (lfN (ob21 P)) .nil)) (.node (ob6 P) (.node (ob10 P) (lfN (ob20 P)) (lfN (ob11 P))) (.node (ob14 P) (lfN (ob26 P)) .nil)))), 28, {}, ⟨[]⟩, {}, 1444, os⟩
noncomputable def ob29 (P : Params) : Obj := lsO (updL (lst11 67) 32 (.str ⟨⟨[95]⟩⟩ 1444)) 0
noncomputable def s_12 (w : World) (os : OsState) : SharedT := let P := w.params; ⟨(.node (ob0 P) (.node (ob1 P) (.node (ob25 P) (.node (ob7 P) (lfN (ob17 P)) (lfN (ob23 P))) (.node (ob11 P) (lfN (ob11 P)) (lfN (ob28 P)))) (.node (ob5 P) (.node (ob9 P) (lfN (ob19 P)) (lfN (ob27 P))) (.node (ob13 P) (lfN (ob23 P)) .nil))) (.node (ob2 P) (.node (ob4 P) (.node (ob8 P) (lfN (ob18 P)) (lfN (ob24 P))) (.node (ob12 P) (lfN (ob21 P)) .nil)) (.node (ob6 P) (.node (ob10 P) (lfN (ob20 P)) (lfN (ob11 P))) (.node (ob14 P) (lfN (ob29 P)) .nil)))), 28, {}, ⟨[]⟩, {}, 1447, os⟩
noncomputable def en21 (P : Params) : DictEntry := eK P (⟨#[99]⟩) 1244 (.int 9 1730)
noncomputable def ob30 (P : Params) : Obj := nsO [en12 P, en1 P, en2 P, en3 P, en4 P, en5 P, en6 P, en7 P, en8 P, en9 P, en10 P, en11 P, en13 P, en14 P, en15 P, en16 P, en17 P, en18 P, en19 P, en21 P] 20
noncomputable def ob31 (P : Params) : Obj := lsO (lst13 95) 0
noncomputable def ob32 (P : Params) : Obj := { cls := .type "bytes_iterator", data := .fields #[.none,.int 95 0] }
noncomputable def ob33 (P : Params) : Obj := { cls := .type "StopIteration", data := .fields #[.ref 29,.none,.none,.none,.bool false,.none] }
noncomputable def s_13 (w : World) (os : OsState) : SharedT := let P := w.params; ⟨(.node (ob0 P) (.node (ob1 P) (.node (ob30 P) (.node (ob7 P) (lfN (ob17 P)) (lfN (ob23 P))) (.node (ob11 P) (lfN (ob11 P)) (lfN (ob28 P)))) (.node (ob5 P) (.node (ob9 P) (lfN (ob19 P)) (lfN (ob27 P))) (.node (ob13 P) (lfN (ob23 P)) (lfN (ob11 P))))) (.node (ob2 P) (.node (ob4 P) (.node (ob8 P) (lfN (ob18 P)) (lfN (ob31 P))) (.node (ob12 P) (lfN (ob21 P)) (lfN (ob32 P)))) (.node (ob6 P) (.node (ob10 P) (lfN (ob20 P)) (lfN (ob11 P))) (.node (ob14 P) (lfN (ob29 P)) (lfN (ob33 P)))))), 31, {}, ⟨[]⟩, {}, 1733, os⟩
noncomputable def en22 (P : Params) : DictEntry := eK P z6 1739 (.ref 37)
noncomputable def en23 (P : Params) : DictEntry := eK P z7 1746 (.ref 44)
noncomputable def en24 (P : Params) : DictEntry := eK P z39 1747 (.ref 46)
noncomputable def ob34 (P : Params) : Obj := nsO [en12 P, en1 P, en2 P, en3 P, en4 P, en5 P, en6 P, en7 P, en8 P, en9 P, en10 P, en11 P, en13 P, en14 P, en15 P, en16 P, en17 P, en18 P, en19 P, en22 P, en23 P, en24 P] 24
noncomputable def ob35 (P : Params) : Obj := { cls := .none, data := .fields #[.int 17 0,.int 0 0,.ref 36,.int 19 0,.int 0 0,.ref 43] }
noncomputable def ob36 (P : Params) : Obj := { cls := .type "tuple", data := .seq #[.str (⟨#[115]⟩) 1736] }
noncomputable def fD (z : Str) (k g : Nat) : FuncData := { name := z, qualname := z, params := fdP (stx k), body := .stmts (fdB (stx k)), scope := fdS (stx k), globals := g, closure := [], defaults := .none, kwdefaults := .none }
noncomputable def ob37 (P : Params) : Obj := { cls := .none, data := .func (fD z6 14 0) }
noncomputable def ob38 (P : Params) : Obj := { cls := .type "code", data := .fields #[.str z6 1733,.str z6 1734,.str z0 1735,.int 17 0,.int 1 0,.int 0 0,.int 0 0,.int 3 0,.ref 31,.bool true,.int 181 0,.ref 32,.none,.ref 33,.ref 34,.ref 35,.int 1737 0,.int 17 0,.str z0 1738] }
noncomputable def ob39 (P : Params) : Obj := { cls := .type "function", data := .func { fD z6 14 3 with pyModule := .str z5 1234, code := .ref 36 } }
noncomputable def ob40 (P : Params) : Obj := { cls := .type "tuple", data := .seq #[.str (⟨#[99]⟩) 1743] }
noncomputable def ob41 (P : Params) : Obj := { cls := .none, data := .func (fD z7 15 0) }
noncomputable def ob42 (P : Params) : Obj := { cls := .type "code", data := .fields #[.str z7 1740,.str z7 1741,.str z0 1742,.int 19 0,.int 1 0,.int 0 0,.int 0 0,.int 3 0,.ref 38,.bool true,.int 181 0,.ref 39,.none,.ref 40,.ref 41,.ref 42,.int 1744 0,.int 19 0,.str z0 1745] }
noncomputable def ob43 (P : Params) : Obj := { cls := .type "function", data := .func { fD z7 15 3 with pyModule := .str z5 1234, code := .ref 43 } }
noncomputable def ob44 (P : Params) : Obj := lsO (updL (updL (lst13 95) 10 (.str ⟨⟨[10]⟩⟩ 1754)) 13 (.str ⟨⟨[13]⟩⟩ 1751)) 0
noncomputable def ob45 (P : Params) : Obj := { cls := .type "bytes_iterator", data := .fields #[.none,.int 2 0] }
noncomputable def ob46 (P : Params) : Obj := { cls := .type "StopIteration", data := .fields #[.ref 48,.none,.none,.none,.bool false,.none] }
noncomputable def s_18 (w : World) (os : OsState) : SharedT := let P := w.params; ⟨(.node (ob0 P) (.node (ob1 P) (.node (ob34 P) (.node (ob7 P) (.node (ob17 P) (lfN (ob11 P)) (lfN (ob45 P))) (.node (ob23 P) (lfN (ob12 P)) .nil)) (.node (ob11 P) (.node (ob11 P) (lfN (ob37 P)) .nil) (.node (ob28 P) (lfN (ob42 P)) .nil))) (.node (ob5 P) (.node (ob9 P) (.node (ob19 P) (lfN (ob36 P)) (lfN (ob46 P))) (.node (ob27 P) (lfN (ob11 P)) .nil)) (.node (ob13 P) (.node (ob23 P) (lfN (ob39 P)) .nil) (.node (ob11 P) (lfN (ob23 P)) .nil)))) (.node (ob2 P) (.node (ob4 P) (.node (ob8 P) (.node (ob18 P) (lfN (ob12 P)) (lfN (ob11 P))) (.node (ob31 P) (lfN (ob40 P)) .nil)) (.node (ob35 P) (.node (ob21 P) (lfN (ob38 P)) .nil) (.node (ob32 P) (lfN (ob43 P)) .nil))) (.node (ob6 P) (.node (ob10 P) (.node (ob20 P) (lfN (ob11 P)) .nil) (.node (ob11 P) (lfN (ob41 P)) .nil)) (.node (ob14 P) (.node (ob29 P) (lfN (ob11 P)) .nil) (.node (ob33 P) (lfN (ob44 P)) .nil))))), 50, {}, ⟨[]⟩, {}, 1755, os⟩
noncomputable def en25 (P : Params) : DictEntry := eK P z1 165 (.str z2 1788)
noncomputable def en26 (P : Params) : DictEntry := eK P z8 1774 (.ref 57)
noncomputable def en27 (P : Params) : DictEntry := eK P z9 1787 (.ref 65)
noncomputable def en28 (P : Params) : DictEntry := eK P (⟨#[84]⟩) 1798 (.ref 72)
noncomputable def en29 (P : Params) : DictEntry := eK P z40 1800 (.bytes #[97,98,99,100,101,102,103,104,105,106,107,108,109,110,111,112,113,114,115,116,117,118,119,120,121,122,48,49,50,51,52,53,54,55,56,57] 1799)
noncomputable def en30 (P : Params) : DictEntry := eK P z10 1811 (.ref 79)
noncomputable def ob47 (P : Params) : Obj := nsO [en25 P, en1 P, en2 P, en3 P, en4 P, en5 P, en6 P, en7 P, en8 P, en9 P, en10 P, en11 P, en13 P, en14 P, en15 P, en16 P, en17 P, en18 P, en19 P, en22 P, en23 P, en24 P, en26 P, en27 P, en28 P, en29 P, en30 P] 29
noncomputable def ob48 (P : Params) : Obj := { cls := .none, data := .fields #[.int 17 0,.int 0 0,.ref 36,.int 19 0,.int 0 0,.ref 43,.int 25 0,.int 0 0,.ref 56,.int 63 0,.int 0 0,.ref 64,.int 94 0,.int 0 0,.ref 71,.int 102 0,.int 0 0,.ref 78] }
noncomputable def ob49 (P : Params) : Obj := { cls := .type "tuple", data := .seq #[.int 76 1755,.str (⟨#[10]⟩) 189] }
noncomputable def ob50 (P : Params) : Obj := { cls := .type "tuple", data := .seq #[.str (⟨#[98,111,100,121]⟩) 1759,.str (⟨#[109,97,120,108,105,110,101,108,101,110]⟩) 1760,.str (⟨#[101,111,108]⟩) 1761,.str (⟨#[115,111,102,116,95,98,114,101,97,107]⟩) 1762,.str (⟨#[109,97,120,108,105,110,101,108,101,110,49]⟩) 1763,.str (⟨#[101,110,99,111,100,101,100,95,98,111,100,121]⟩) 1764,.str (⟨#[97,112,112,101,110,100]⟩) 1765,.str (⟨#[108,105,110,101]⟩) 1766,.str (⟨#[115,116,97,114,116]⟩) 1767,.str (⟨#[108,97,115,116,115,116,97,114,116]⟩) 1768,.str (⟨#[115,116,111,112]⟩) 1769,.str (⟨#[114,111,111,109]⟩) 1770,.str (⟨#[113]⟩) 1771] }
noncomputable def ob51 (P : Params) : Obj := { cls := .none, data := .func (fD z8 19 0) }
noncomputable def ob52 (P : Params) : Obj := { cls := .type "code", data := .fields #[.str z8 1756,.str z8 1757,.str z0 1758,.int 25 0,.int 3 0,.int 0 0,.int 0 0,.int 3 0,.ref 51,.bool true,.int 181 0,.ref 52,.none,.ref 53,.ref 54,.ref 55,.int 1772 0,.int 25 0,.str z0 1773] }
noncomputable def ob53 (P : Params) : Obj := { cls := .type "function", data := .func { name := ⟨#[98,111,100,121,95,101,110,99,111,100,101]⟩, qualname := ⟨#[98,111,100,121,95,101,110,99,111,100,101]⟩, params := fdP (stx 19), body := .stmts (fdB (stx 19)), scope := fdS (stx 19), globals := 3, closure := [], defaults := .ref 50, kwdefaults := .none, pyModule := .str z5 1234, code := .ref 56 } }
noncomputable def ob54 (P : Params) : Obj := { cls := .type "tuple", data := .seq #[.str (⟨#[10]⟩) 189] }
noncomputable def ob55 (P : Params) : Obj := { cls := .type "tuple", data := .seq #[.str (⟨#[101,110,99,111,100,101,100]⟩) 1778,.str (⟨#[101,111,108]⟩) 1779,.str (⟨#[100,101,99,111,100,101,100]⟩) 1780,.str (⟨#[108,105,110,101]⟩) 1781,.str (⟨#[105]⟩) 1782,.str (⟨#[110]⟩) 1783,.str (⟨#[99]⟩) 1784] }
noncomputable def ob56 (P : Params) : Obj := { cls := .none, data := .func (fD z9 20 0) }
noncomputable def ob57 (P : Params) : Obj := { cls := .type "code", data := .fields #[.str z9 1775,.str z9 1776,.str z0 1777,.int 63 0,.int 2 0,.int 0 0,.int 0 0,.int 3 0,.ref 59,.bool true,.int 181 0,.ref 60,.none,.ref 61,.ref 62,.ref 63,.int 1785 0,.int 63 0,.str z0 1786] }
noncomputable def ob58 (P : Params) : Obj := { cls := .type "function", data := .func { name := ⟨#[100,101,99,111,100,101]⟩, qualname := ⟨#[100,101,99,111,100,101]⟩, params := fdP (stx 20), body := .stmts (fdB (stx 20)), scope := fdS (stx 20), globals := 3, closure := [], defaults := .ref 58, kwdefaults := .none, pyModule := .str z5 1234, code := .ref 64 } }
noncomputable def ob59 (P : Params) : Obj := { cls := .type "tuple", data := .seq #[.str (⟨#[106]⟩) 1793,.str z3 1794,.str (⟨#[114,101,115]⟩) 1795] }
noncomputable def ob60 (P : Params) : Obj := { cls := .none, data := .func (fD (⟨#[84]⟩) 22 0) }
noncomputable def ob61 (P : Params) : Obj := { cls := .type "code", data := .fields #[.str (⟨#[84]⟩) 1790,.str (⟨#[84]⟩) 1791,.str z0 1792,.int 94 0,.int 2 0,.int 0 0,.int 0 0,.int 3 0,.ref 66,.bool true,.int 181 0,.ref 67,.none,.ref 68,.ref 69,.ref 70,.int 1796 0,.int 94 0,.str z0 1797] }
noncomputable def ob62 (P : Params) : Obj := { cls := .type "function", data := .func { fD (⟨#[84]⟩) 22 3 with pyModule := .str z2 1788, code := .ref 71 } }
noncomputable def ob63 (P : Params) : Obj := { cls := .type "tuple", data := .seq #[.str (⟨#[78]⟩) 1804,.str z3 1805,.str z21 1806,.str (⟨#[106]⟩) 1807,.str (⟨#[116]⟩) 1808] }
noncomputable def ob64 (P : Params) : Obj := { cls := .none, data := .func (fD z10 24 0) }
noncomputable def ob65 (P : Params) : Obj := { cls := .type "code", data := .fields #[.str z10 1801,.str z10 1802,.str z0 1803,.int 102 0,.int 2 0,.int 0 0,.int 0 0,.int 3 0,.ref 73,.bool true,.int 181 0,.ref 74,.none,.ref 75,.ref 76,.ref 77,.int 1809 0,.int 102 0,.str z0 1810] }
noncomputable def ob66 (P : Params) : Obj := { cls := .type "function", data := .func { fD z10 24 3 with pyModule := .str z2 1788, code := .ref 78 } }
noncomputable def s_24 (w : World) (os : OsState) : SharedT := let P := w.params; ⟨(.node (ob0 P) (.node (ob1 P) (.node (ob47 P) (.node (ob7 P) (.node (ob17 P) (.node (ob11 P) (lfN (ob56 P)) .nil) (.node (ob45 P) (lfN (ob66 P)) .nil)) (.node (ob23 P) (.node (ob12 P) (lfN (ob61 P)) .nil) (lfN (ob51 P)))) (.node (ob11 P) (.node (ob11 P) (.node (ob37 P) (lfN (ob12 P)) .nil) (lfN (ob11 P))) (.node (ob28 P) (.node (ob42 P) (lfN (ob63 P)) .nil) (lfN (ob11 P))))) (.node (ob5 P) (.node (ob9 P) (.node (ob19 P) (.node (ob36 P) (lfN (ob58 P)) .nil) (lfN (ob46 P))) (.node (ob27 P) (.node (ob11 P) (lfN (ob11 P)) .nil) (lfN (ob53 P)))) (.node (ob13 P) (.node (ob23 P) (.node (ob39 P) (lfN (ob11 P)) .nil) (lfN (ob50 P))) (.node (ob11 P) (.node (ob23 P) (lfN (ob64 P)) .nil) (lfN (ob55 P)))))) (.node (ob2 P) (.node (ob4 P) (.node (ob8 P) (.node (ob18 P) (.node (ob12 P) (lfN (ob57 P)) .nil) (lfN (ob11 P))) (.node (ob31 P) (.node (ob40 P) (lfN (ob62 P)) .nil) (lfN (ob52 P)))) (.node (ob48 P) (.node (ob21 P) (.node (ob38 P) (lfN (ob59 P)) .nil) (lfN (ob12 P))) (.node (ob32 P) (.node (ob43 P) (lfN (ob11 P)) .nil) (lfN (ob12 P))))) (.node (ob6 P) (.node (ob10 P) (.node (ob20 P) (.node (ob11 P) (lfN (ob11 P)) .nil) (lfN (ob49 P))) (.node (ob11 P) (.node (ob41 P) (lfN (ob12 P)) .nil) (lfN (ob54 P)))) (.node (ob14 P) (.node (ob29 P) (.node (ob11 P) (lfN (ob60 P)) .nil) (lfN (ob11 P))) (.node (ob33 P) (.node (ob44 P) (lfN (ob65 P)) .nil) (lfN (ob11 P))))))), 80, {}, ⟨[]⟩, {}, 1812, os⟩
noncomputable def en31 (P : Params) : DictEntry := eK P z1 165 (.str z4 1880)
noncomputable def en32 (P : Params) : DictEntry := eK P z11 1822 (.ref 86)
noncomputable def en33 (P : Params) : DictEntry := eK P z12 1835 (.ref 93)
noncomputable def en34 (P : Params) : DictEntry := eK P z13 1851 (.ref 100)
noncomputable def en35 (P : Params) : DictEntry := eK P z14 1866 (.ref 107)
noncomputable def en36 (P : Params) : DictEntry := eK P z15 1879 (.ref 114)
noncomputable def ob67 (P : Params) : Obj := nsO [en31 P, en1 P, en2 P, en3 P, en4 P, en5 P, en6 P, en7 P, en8 P, en9 P, en10 P, en11 P, en13 P, en14 P, en15 P, en16 P, en17 P, en18 P, en19 P, en22 P, en23 P, en24 P, en26 P, en27 P, en28 P, en29 P, en30 P, en32 P, en33 P, en34 P, en35 P, en36 P] 34
noncomputable def ob68 (P : Params) : Obj := { cls := .none, data := .fields #[.int 17 0,.int 0 0,.ref 36,.int 19 0,.int 0 0,.ref 43,.int 25 0,.int 0 0,.ref 56,.int 63 0,.int 0 0,.ref 64,.int 94 0,.int 0 0,.ref 71,.int 102 0,.int 0 0,.ref 78,.int 113 0,.int 0 0,.ref 85,.int 125 0,.int 0 0,.ref 92,.int 133 0,.int 0 0,.ref 99,.int 159 0,.int 0 0,.ref 106,.int 179 0,.int 0 0,.ref 113] }
noncomputable def ob69 (P : Params) : Obj := { cls := .type "tuple", data := .seq #[.str z22 1815,.str (⟨#[102,105,114,115,116]⟩) 1816,.str (⟨#[110,117,109,99,104,97,114,115]⟩) 1817,.str (⟨#[100,105,118,105,115,105,111,110,115]⟩) 1818,.str z3 1819] }
noncomputable def ob70 (P : Params) : Obj := { cls := .none, data := .func (fD z11 25 0) }
noncomputable def ob71 (P : Params) : Obj := { cls := .type "code", data := .fields #[.str z11 1812,.str z11 1813,.str z0 1814,.int 113 0,.int 3 0,.int 0 0,.int 0 0,.int 3 0,.ref 80,.bool true,.int 181 0,.ref 81,.none,.ref 82,.ref 83,.ref 84,.int 1820 0,.int 113 0,.str z0 1821] }
noncomputable def ob72 (P : Params) : Obj := { cls := .type "function", data := .func { fD z11 25 3 with pyModule := .str z2 1788, code := .ref 85 } }
noncomputable def ob73 (P : Params) : Obj := { cls := .type "tuple", data := .seq #[.str (⟨#[98,97,115,101,108,101,110]⟩) 1826,.str (⟨#[100,101,108,116,97,115]⟩) 1827,.str z21 1828,.str z3 1829,.str (⟨#[112,111,105,110,116,115]⟩) 1830,.str z22 1831,.str (⟨#[115]⟩) 1832] }
noncomputable def ob74 (P : Params) : Obj := { cls := .none, data := .func (fD z12 26 0) }
noncomputable def ob75 (P : Params) : Obj := { cls := .type "code", data := .fields #[.str z12 1823,.str z12 1824,.str z0 1825,.int 125 0,.int 2 0,.int 0 0,.int 0 0,.int 3 0,.ref 87,.bool true,.int 181 0,.ref 88,.none,.ref 89,.ref 90,.ref 91,.int 1833 0,.int 125 0,.str z0 1834] }
noncomputable def ob76 (P : Params) : Obj := { cls := .type "function", data := .func { fD z12 26 3 with pyModule := .str z2 1788, code := .ref 92 } }
noncomputable def ob77 (P : Params) : Obj := { cls := .type "tuple", data := .seq #[.str z23 1839,.str (⟨#[101,120,116,112,111,115]⟩) 1840,.str z3 1841,.str z24 1842,.str z21 1843,.str (⟨#[119]⟩) 1844,.str (⟨#[106]⟩) 1845,.str (⟨#[99,104,97,114]⟩) 1846,.str (⟨#[100,105,103,105,116]⟩) 1847,.str (⟨#[116]⟩) 1848] }
noncomputable def ob78 (P : Params) : Obj := { cls := .none, data := .func (fD z13 27 0) }
noncomputable def ob79 (P : Params) : Obj := { cls := .type "code", data := .fields #[.str z13 1836,.str z13 1837,.str z0 1838,.int 133 0,.int 4 0,.int 0 0,.int 0 0,.int 3 0,.ref 94,.bool true,.int 181 0,.ref 95,.none,.ref 96,.ref 97,.ref 98,.int 1849 0,.int 133 0,.str z0 1850] }
noncomputable def ob80 (P : Params) : Obj := { cls := .type "function", data := .func { fD z13 27 3 with pyModule := .str z2 1788, code := .ref 99 } }
noncomputable def ob81 (P : Params) : Obj := { cls := .type "tuple", data := .seq #[.str (⟨#[98,97,115,101]⟩) 1855,.str z23 1856,.str z24 1857,.str (⟨#[99,104,97,114]⟩) 1858,.str (⟨#[112,111,115]⟩) 1859,.str z3 1860,.str (⟨#[101,120,116,112,111,115]⟩) 1861,.str (⟨#[110,101,119,112,111,115]⟩) 1862,.str z22 1863] }
noncomputable def ob82 (P : Params) : Obj := { cls := .none, data := .func (fD z14 28 0) }
noncomputable def ob83 (P : Params) : Obj := { cls := .type "code", data := .fields #[.str z14 1852,.str z14 1853,.str z0 1854,.int 159 0,.int 3 0,.int 0 0,.int 0 0,.int 3 0,.ref 101,.bool true,.int 181 0,.ref 102,.none,.ref 103,.ref 104,.ref 105,.int 1864 0,.int 159 0,.str z0 1865] }
noncomputable def ob84 (P : Params) : Obj := { cls := .type "function", data := .func { fD z14 28 3 with pyModule := .str z2 1788, code := .ref 106 } }
noncomputable def ob85 (P : Params) : Obj := { cls := .type "tuple", data := .seq #[.str (⟨#[116,101,120,116]⟩) 1870,.str z24 1871,.str (⟨#[112,111,115]⟩) 1872,.str (⟨#[98,97,115,101]⟩) 1873,.str z23 1874,.str (⟨#[101,120,99]⟩) 1875,.str (⟨#[111,102,102,115,101,116]⟩) 1876] }
noncomputable def ob86 (P : Params) : Obj := { cls := .none, data := .func (fD z15 29 0) }
noncomputable def ob87 (P : Params) : Obj := { cls := .type "code", data := .fields #[.str z15 1867,.str z15 1868,.str z0 1869,.int 179 0,.int 2 0,.int 0 0,.int 0 0,.int 3 0,.ref 108,.bool true,.int 181 0,.ref 109,.none,.ref 110,.ref 111,.ref 112,.int 1877 0,.int 179 0,.str z0 1878] }
noncomputable def ob88 (P : Params) : Obj := { cls := .type "function", data := .func { fD z15 29 3 with pyModule := .str z2 1788, code := .ref 113 } }
noncomputable def s_30 (w : World) (os : OsState) : SharedT := let P := w.params; ⟨(.node (ob0 P) (.node (ob1 P) (.node (ob67 P) (.node (ob7 P) (.node (ob17 P) (.node (ob11 P) (lfN (ob56 P)) (lfN (ob12 P))) (.node (ob45 P) (lfN (ob66 P)) (lfN (ob11 P)))) (.node (ob23 P) (.node (ob12 P) (lfN (ob61 P)) (lfN (ob81 P))) (.node (ob51 P) (lfN (ob11 P)) .nil))) (.node (ob11 P) (.node (ob11 P) (.node (ob37 P) (lfN (ob12 P)) (lfN (ob79 P))) (.node (ob11 P) (lfN (ob11 P)) .nil)) (.node (ob28 P) (.node (ob42 P) (lfN (ob63 P)) (lfN (ob84 P))) (.node (ob11 P) (lfN (ob74 P)) .nil)))) (.node (ob5 P) (.node (ob9 P) (.node (ob19 P) (.node (ob36 P) (lfN (ob58 P)) (lfN (ob11 P))) (.node (ob46 P) (lfN (ob12 P)) (lfN (ob87 P)))) (.node (ob27 P) (.node (ob11 P) (lfN (ob11 P)) (lfN (ob82 P))) (.node (ob53 P) (lfN (ob73 P)) .nil))) (.node (ob13 P) (.node (ob23 P) (.node (ob39 P) (lfN (ob11 P)) (lfN (ob11 P))) (.node (ob50 P) (lfN (ob71 P)) .nil)) (.node (ob11 P) (.node (ob23 P) (lfN (ob64 P)) (lfN (ob12 P))) (.node (ob55 P) (lfN (ob76 P)) .nil))))) (.node (ob2 P) (.node (ob4 P) (.node (ob8 P) (.node (ob18 P) (.node (ob12 P) (lfN (ob57 P)) (lfN (ob77 P))) (.node (ob11 P) (lfN (ob11 P)) (lfN (ob86 P)))) (.node (ob31 P) (.node (ob40 P) (lfN (ob62 P)) (lfN (ob11 P))) (.node (ob52 P) (lfN (ob12 P)) .nil))) (.node (ob68 P) (.node (ob21 P) (.node (ob38 P) (lfN (ob59 P)) (lfN (ob80 P))) (.node (ob12 P) (lfN (ob70 P)) .nil)) (.node (ob32 P) (.node (ob43 P) (lfN (ob11 P)) (lfN (ob11 P))) (.node (ob12 P) (lfN (ob75 P)) .nil)))) (.node (ob6 P) (.node (ob10 P) (.node (ob20 P) (.node (ob11 P) (lfN (ob11 P)) (lfN (ob78 P))) (.node (ob49 P) (lfN (ob69 P)) (lfN (ob88 P)))) (.node (ob11 P) (.node (ob41 P) (lfN (ob12 P)) (lfN (ob83 P))) (.node (ob54 P) (lfN (ob11 P)) .nil))) (.node (ob14 P) (.node (ob29 P) (.node (ob11 P) (lfN (ob60 P)) (lfN (ob12 P))) (.node (ob11 P) (lfN (ob72 P)) .nil)) (.node (ob33 P) (.node (ob44 P) (lfN (ob65 P)) (lfN (ob85 P))) (.node (ob11 P) (lfN (ob11 P)) .nil)))))), 115, {}, ⟨[]⟩, {}, 1882, os⟩
noncomputable def en37 (P : Params) : DictEntry := eK P z16 1893 (.ref 121)
noncomputable def en38 (P : Params) : DictEntry := eK P z17 1901 (.ref 128)
noncomputable def en39 (P : Params) : DictEntry := eK P z18 1907 (.ref 133)
noncomputable def en40 (P : Params) : DictEntry := eK P z19 1915 (.ref 140)
noncomputable def en41 (P : Params) : DictEntry := eK P z20 1921 (.ref 145)
noncomputable def ob89 (P : Params) : Obj := nsO [en31 P, en1 P, en2 P, en3 P, en4 P, en5 P, en6 P, en7 P, en8 P, en9 P, en10 P, en11 P, en13 P, en14 P, en15 P, en16 P, en17 P, en18 P, en19 P, en22 P, en23 P, en24 P, en26 P, en27 P, en28 P, en29 P, en30 P, en32 P, en33 P, en34 P, en35 P, en36 P, en37 P, en38 P, en39 P, en40 P, en41 P] 39
noncomputable def ob90 (P : Params) : Obj := { cls := .none, data := .fields #[.int 17 0,.int 0 0,.ref 36,.int 19 0,.int 0 0,.ref 43,.int 25 0,.int 0 0,.ref 56,.int 63 0,.int 0 0,.ref 64,.int 94 0,.int 0 0,.ref 71,.int 102 0,.int 0 0,.ref 78,.int 113 0,.int 0 0,.ref 85,.int 125 0,.int 0 0,.ref 92,.int 133 0,.int 0 0,.ref 99,.int 159 0,.int 0 0,.ref 106,.int 179 0,.int 0 0,.ref 113,.int 200 0,.int 0 0,.ref 120,.int 212 0,.int 0 0,.ref 127,.int 218 0,.int 0 0,.ref 132,.int 232 0,.int 0 0,.ref 139,.int 234 0,.int 0 0,.ref 144] }
noncomputable def ob91 (P : Params) : Obj := { cls := .type "tuple", data := .seq #[.str (⟨#[110,117,109,98,101,114,115]⟩) 1885,.str (⟨#[112,108,97,105,110]⟩) 1886,.str (⟨#[115,116,114,97,110,103,101]⟩) 1887,.str (⟨#[110]⟩) 1888,.str (⟨#[114]⟩) 1889,.str (⟨#[113]⟩) 1890] }
noncomputable def ob92 (P : Params) : Obj := { cls := .none, data := .func (fD z16 31 0) }
noncomputable def ob93 (P : Params) : Obj := { cls := .type "code", data := .fields #[.str z16 1882,.str z16 1883,.str z0 1884,.int 200 0,.int 1 0,.int 0 0,.int 0 0,.int 3 0,.ref 115,.bool true,.int 181 0,.ref 116,.none,.ref 117,.ref 118,.ref 119,.int 1891 0,.int 200 0,.str z0 1892] }
noncomputable def ob94 (P : Params) : Obj := { cls := .type "function", data := .func { fD z16 31 3 with pyModule := .str z4 1880, code := .ref 120 } }
noncomputable def ob95 (P : Params) : Obj := { cls := .type "tuple", data := .seq #[.str (⟨#[99,95,118]⟩) 1897,.str (⟨#[101,111,108]⟩) 1898] }
noncomputable def ob96 (P : Params) : Obj := { cls := .none, data := .func (fD z17 32 0) }
noncomputable def ob97 (P : Params) : Obj := { cls := .type "code", data := .fields #[.str z17 1894,.str z17 1895,.str z0 1896,.int 212 0,.int 2 0,.int 0 0,.int 0 0,.int 3 0,.ref 122,.bool true,.int 181 0,.ref 123,.none,.ref 124,.ref 125,.ref 126,.int 1899 0,.int 212 0,.str z0 1900] }
noncomputable def ob98 (P : Params) : Obj := { cls := .type "function", data := .func { fD z17 32 3 with pyModule := .str z4 1880, code := .ref 127 } }
noncomputable def ob99 (P : Params) : Obj := { cls := .none, data := .func (fD z18 33 0) }
noncomputable def ob100 (P : Params) : Obj := { cls := .type "code", data := .fields #[.str z18 1902,.str z18 1903,.str z0 1904,.int 218 0,.int 3 0,.int 0 0,.int 0 0,.int 3 0,.ref 129,.bool true,.int 181 0,.ref 130,.none,.none,.none,.ref 131,.int 1905 0,.int 218 0,.str z0 1906] }
noncomputable def ob101 (P : Params) : Obj := { cls := .type "function", data := .func { fD z18 33 3 with pyModule := .str z4 1880, code := .ref 132 } }
noncomputable def ob102 (P : Params) : Obj := { cls := .type "tuple", data := .seq #[.str (⟨#[116,101,120,116]⟩) 1911,.str (⟨#[110,117,109,98,101,114,115]⟩) 1912] }
noncomputable def ob103 (P : Params) : Obj := { cls := .none, data := .func (fD z19 34 0) }
noncomputable def ob104 (P : Params) : Obj := { cls := .type "code", data := .fields #[.str z19 1908,.str z19 1909,.str z0 1910,.int 232 0,.int 2 0,.int 0 0,.int 0 0,.int 3 0,.ref 134,.bool true,.int 181 0,.ref 135,.none,.ref 136,.ref 137,.ref 138,.int 1913 0,.int 232 0,.str z0 1914] }
noncomputable def ob105 (P : Params) : Obj := { cls := .type "function", data := .func { fD z19 34 3 with pyModule := .str z4 1880, code := .ref 139 } }
noncomputable def ob106 (P : Params) : Obj := { cls := .none, data := .func (fD z20 35 0) }
noncomputable def ob107 (P : Params) : Obj := { cls := .type "code", data := .fields #[.str z20 1916,.str z20 1917,.str z0 1918,.int 234 0,.int 1 0,.int 0 0,.int 0 0,.int 3 0,.ref 141,.bool true,.int 181 0,.ref 142,.none,.none,.none,.ref 143,.int 1919 0,.int 234 0,.str z0 1920] }
noncomputable def ob108 (P : Params) : Obj := { cls := .type "function", data := .func { fD z20 35 3 with pyModule := .str z4 1880, code := .ref 144 } }
noncomputable def s_35 (w : World) (os : OsState) : SharedT := let P := w.params; ⟨(.node (ob0 P) (.node (ob1 P) (.node (ob89 P) (.node (ob7 P) (.node (ob17 P) (.node (ob11 P) (.node (ob56 P) (lfN (ob97 P)) .nil) (lfN (ob12 P))) (.node (ob45 P) (.node (ob66 P) (lfN (ob106 P)) .nil) (lfN (ob11 P)))) (.node (ob23 P) (.node (ob12 P) (.node (ob61 P) (lfN (ob12 P)) .nil) (lfN (ob81 P))) (.node (ob51 P) (lfN (ob11 P)) (lfN (ob92 P))))) (.node (ob11 P) (.node (ob11 P) (.node (ob37 P) (.node (ob12 P) (lfN (ob99 P)) .nil) (lfN (ob79 P))) (.node (ob11 P) (lfN (ob11 P)) (lfN (ob11 P)))) (.node (ob28 P) (.node (ob42 P) (.node (ob63 P) (lfN (ob104 P)) .nil) (lfN (ob84 P))) (.node (ob11 P) (lfN (ob74 P)) (lfN (ob12 P)))))) (.node (ob5 P) (.node (ob9 P) (.node (ob19 P) (.node (ob36 P) (.node (ob58 P) (lfN (ob11 P)) .nil) (lfN (ob11 P))) (.node (ob46 P) (.node (ob12 P) (lfN (ob108 P)) .nil) (lfN (ob87 P)))) (.node (ob27 P) (.node (ob11 P) (.node (ob11 P) (lfN (ob11 P)) .nil) (lfN (ob82 P))) (.node (ob53 P) (lfN (ob73 P)) (lfN (ob94 P))))) (.node (ob13 P) (.node (ob23 P) (.node (ob39 P) (.node (ob11 P) (lfN (ob101 P)) .nil) (lfN (ob11 P))) (.node (ob50 P) (lfN (ob71 P)) (lfN (ob91 P)))) (.node (ob11 P) (.node (ob23 P) (.node (ob64 P) (lfN (ob11 P)) .nil) (lfN (ob12 P))) (.node (ob55 P) (lfN (ob76 P)) (lfN (ob11 P))))))) (.node (ob2 P) (.node (ob4 P) (.node (ob8 P) (.node (ob18 P) (.node (ob12 P) (.node (ob57 P) (lfN (ob98 P)) .nil) (lfN (ob77 P))) (.node (ob11 P) (.node (ob11 P) (lfN (ob107 P)) .nil) (lfN (ob86 P)))) (.node (ob31 P) (.node (ob40 P) (.node (ob62 P) (lfN (ob102 P)) .nil) (lfN (ob11 P))) (.node (ob52 P) (lfN (ob12 P)) (lfN (ob93 P))))) (.node (ob90 P) (.node (ob21 P) (.node (ob38 P) (.node (ob59 P) (lfN (ob100 P)) .nil) (lfN (ob80 P))) (.node (ob12 P) (lfN (ob70 P)) (lfN (ob12 P)))) (.node (ob32 P) (.node (ob43 P) (.node (ob11 P) (lfN (ob105 P)) .nil) (lfN (ob11 P))) (.node (ob12 P) (lfN (ob75 P)) (lfN (ob95 P)))))) (.node (ob6 P) (.node (ob10 P) (.node (ob20 P) (.node (ob11 P) (.node (ob11 P) (lfN (ob12 P)) .nil) (lfN (ob78 P))) (.node (ob49 P) (lfN (ob69 P)) (lfN (ob88 P)))) (.node (ob11 P) (.node (ob41 P) (.node (ob12 P) (lfN (ob103 P)) .nil) (lfN (ob83 P))) (.node (ob54 P) (lfN (ob11 P)) (lfN (ob11 P))))) (.node (ob14 P) (.node (ob29 P) (.node (ob11 P) (.node (ob60 P) (lfN (ob11 P)) .nil) (lfN (ob12 P))) (.node (ob11 P) (lfN (ob72 P)) (lfN (ob11 P)))) (.node (ob33 P) (.node (ob44 P) (.node (ob65 P) (lfN (ob12 P)) .nil) (lfN (ob85 P))) (.node (ob11 P) (lfN (ob11 P)) (lfN (ob96 P)))))))), 146, {}, ⟨[]⟩, {}, 1922, os⟩
noncomputable def s_L11 (w : World) (os : OsState) (i : Nat) : SharedT := let P := w.params; ⟨(.node (ob0 P) (.node (ob1 P) (.node (nsO [en12 P, en1 P, en2 P, en3 P, en4 P, en5 P, en6 P, en7 P, en8 P, en9 P, en10 P, en11 P, en13 P, en14 P, en15 P, en16 P, en17 P, en18 P, en19 P, cEn P by11 1243 i] 20) (.node (ob7 P) (lfN (ob17 P)) (lfN (ob23 P))) (.node (ob11 P) (lfN (ob11 P)) .nil)) (.node (ob5 P) (.node (ob9 P) (lfN (ob19 P)) (.node (inO by11 1242 i) .nil .nil)) (.node (ob13 P) (lfN (ob23 P)) .nil))) (.node (ob2 P) (.node (ob4 P) (.node (ob8 P) (lfN (ob18 P)) (lfN (ob24 P))) (.node (ob12 P) (lfN (ob21 P)) .nil)) (.node (ob6 P) (.node (ob10 P) (lfN (ob20 P)) .nil) (.node (ob14 P) (.node (lsO (lst11 i) 0) .nil .nil) .nil)))), 26, {}, ⟨[]⟩, {}, 1243 + 3 * i, os⟩
noncomputable def s_L13 (w : World) (os : OsState) (i : Nat) : SharedT := let P := w.params; ⟨(.node (ob0 P) (.node (ob1 P) (.node (nsO [en12 P, en1 P, en2 P, en3 P, en4 P, en5 P, en6 P, en7 P, en8 P, en9 P, en10 P, en11 P, en13 P, en14 P, en15 P, en16 P, en17 P, en18 P, en19 P, cEn P by13 1448 i] 20) (.node (ob7 P) (lfN (ob17 P)) (lfN (ob23 P))) (.node (ob11 P) (lfN (ob11 P)) (lfN (ob28 P)))) (.node (ob5 P) (.node (ob9 P) (lfN (ob19 P)) (lfN (ob27 P))) (.node (ob13 P) (lfN (ob23 P)) .nil))) (.node (ob2 P) (.node (ob4 P) (.node (ob8 P) (lfN (ob18 P)) (.node (lsO (lst13 i) 0) .nil .nil)) (.node (ob12 P) (lfN (ob21 P)) (.node (inO by13 1447 i) .nil .nil))) (.node (ob6 P) (.node (ob10 P) (lfN (ob20 P)) (lfN (ob11 P))) (.node (ob14 P) (lfN (ob29 P)) .nil)))), 29, {}, ⟨[]⟩, {}, 1448 + 3 * i, os⟩
noncomputable def oC16 (i : Nat) : Obj := { cls := .type "range_iterator", data := .fields ⟨[.int (.ofNat i) 0, .int (.ofNat (256 - i)) 0, .int (.ofNat 1) 0]⟩ }
noncomputable def oC17 (i : Nat) : Obj := { cls := .type "list", data := .seq ⟨its i 0 197⟩ i }
noncomputable def oC18 (P : Params) (i : Nat) : Obj := { cls := .type "dict", data := .dict ⟨[{ hash := PyData.keyHash P ⟨⟨[99]⟩⟩, key := .str ⟨⟨[99]⟩⟩ 195, val := .int (.ofNat (i - 1)) (match i with | 1 => 194 | i => 194 + 4 * (i - 1)) }]⟩ 1 }
noncomputable def s_C (w : World) (os : OsState) (i : Nat) : SharedT := let P := w.params; ⟨(.node (ob0 P) (.node (ob1 P) (.node (ob15 P) (.node (ob7 P) (lfN (ob17 P)) .nil) (lfN (ob11 P))) (.node (ob5 P) (.node (ob9 P) (.node (oC17 i) .nil .nil) .nil) (lfN (ob13 P)))) (.node (ob2 P) (.node (ob4 P) (.node (ob8 P) (.node (oC16 i) .nil .nil) .nil) (lfN (ob12 P))) (.node (ob6 P) (.node (ob10 P) (.node (oC18 P i) .nil .nil) .nil) (lfN (ob14 P))))), 19, {}, ⟨[]⟩, {}, 194 + 4 * i, os⟩
noncomputable def e2 : Expr := match st2 with | .Assign _ e _ => e | _ => default
noncomputable def envC : Env := { scope := { kind := .function, names := [(⟨#[46,48]⟩, .local), (⟨#[99]⟩, .local)], isGenerator := false, isCoroutine := false }, locals := 18, globals := 3, cells := [], code := .ref 13, frame := some 14 }
noncomputable def cC : Code := .compLoop e2 0 (.ref 16) (.ref 17) envC
noncomputable def thC (K : Result → Sem Fin) (c : Code) : Thread := ⟨dn tt cC, cC, ⟨3,15,3,26⟩, [.ret K none true [.ref 18, .ref 17] c ⟨3,36,3,46⟩ [], topFrame q0]⟩
noncomputable def cL (s : Stmt) (it : Value) : Code := match s with | .For t _ b o _ => .forLoop t it b o envT | _ => default
noncomputable def thL (C : Code) (p q : Pos) (K : Result → Sem Fin) (c : Code) : Thread := ⟨dn tt C, C, p, [.ret K none false [] c q [], topFrame q0]⟩
theorem t_a (w : World) (os : OsState) : segRunT treeTable pp w 11 an 1 19 (s_BLOCK w os) (piecesOf la envT cE ⟨0,0,0,0⟩ [topFrame q0]) = some (.next, s_1 w os, cE, ⟨2,0,2,2⟩) := by rw [hSR, hP]; kernel_rfl
theorem g_a (w : World) (os : OsState) : segRun treeTable pp w 11 an 1 19 (s_BLOCK w os).abs (piecesOf la envT cE ⟨0,0,0,0⟩ [topFrame q0]) = some (.next, (s_1 w os).abs, cE, ⟨2,0,2,2⟩) := segRun_of (t_a w os)
theorem t_c (w : World) (os : OsState) : segRunT treeTable pp w 11 an 1 133 (s_2 w os) (piecesOf lc envT cE ⟨3,0,3,11⟩ [topFrame q0]) = some (.next, s_10 w os, cE, ⟨11,0,11,8⟩) := by rw [hSR, hP]; kernel_rfl
theorem g_c (w : World) (os : OsState) : segRun treeTable pp w 11 an 1 133 (s_2 w os).abs (piecesOf lc envT cE ⟨3,0,3,11⟩ [topFrame q0]) = some (.next, (s_10 w os).abs, cE, ⟨11,0,11,8⟩) := segRun_of (t_c w os)
theorem t_e (w : World) (os : OsState) : segRunT treeTable pp w 11 an 1 25 (s_11 w os) (piecesOf le envT cE ⟨12,9,12,81⟩ [topFrame q0]) = some (.next, s_12 w os, cE, ⟨14,0,14,28⟩) := by rw [hSR, hP]; kernel_rfl
theorem g_e (w : World) (os : OsState) : segRun treeTable pp w 11 an 1 25 (s_11 w os).abs (piecesOf le envT cE ⟨12,9,12,81⟩ [topFrame q0]) = some (.next, (s_12 w os).abs, cE, ⟨14,0,14,28⟩) := segRun_of (t_e w os)
theorem t_g (w : World) : ∀ os : OsState, segRunT treeTable pp w 11 an 1 209 (s_13 w os) (piecesOf lg envT cE ⟨15,9,15,110⟩ [topFrame q0]) = some (.next, s_18 w os, cE, ⟨24,4,24,5⟩) := byRow2 "special-get-raises" (P := fun w => ∀ os : OsState, segRunT treeTable pp w 11 an 1 209 (s_13 w os) (piecesOf lg envT cE ⟨15,9,15,110⟩ [topFrame q0]) = some (.next, s_18 w os, cE, ⟨24,4,24,5⟩)) (by intro w os; rw [hSR, hP]; kernel_rfl) (by intro w os; rw [hSR, hP]; kernel_rfl) w
theorem g_g (w : World) (os : OsState) : segRun treeTable pp w 11 an 1 209 (s_13 w os).abs (piecesOf lg envT cE ⟨15,9,15,110⟩ [topFrame q0]) = some (.next, (s_18 w os).abs, cE, ⟨24,4,24,5⟩) := segRun_of (t_g w os)
theorem t_h (w : World) (os : OsState) : segRunT treeTable pp w 11 an 1 166 (s_18 w os) (piecesOf lh envT cE ⟨24,4,24,5⟩ [topFrame q0]) = some (.next, s_24 w os, cE, ⟨102,0,112,14⟩) := by rw [hSR, hP]; kernel_rfl
theorem g_h (w : World) (os : OsState) : segRun treeTable pp w 11 an 1 166 (s_18 w os).abs (piecesOf lh envT cE ⟨24,4,24,5⟩ [topFrame q0]) = some (.next, (s_24 w os).abs, cE, ⟨102,0,112,14⟩) := segRun_of (t_h w os)
theorem t_i (w : World) (os : OsState) : segRunT treeTable pp w 11 an 1 188 (s_24 w os) (piecesOf li envT cE ⟨102,0,112,14⟩ [topFrame q0]) = some (.next, s_30 w os, cE, ⟨199,0,199,8⟩) := by rw [hSR, hP]; kernel_rfl
theorem g_i (w : World) (os : OsState) : segRun treeTable pp w 11 an 1 188 (s_24 w os).abs (piecesOf li envT cE ⟨102,0,112,14⟩ [topFrame q0]) = some (.next, (s_30 w os).abs, cE, ⟨199,0,199,8⟩) := segRun_of (t_i w os)
theorem t_j (w : World) (os : OsState) : segRunT treeTable pp w 11 an 1 147 (s_30 w os) (piecesOf lj envT cE ⟨199,0,199,8⟩ [topFrame q0]) = some (.next, s_35 w os, cE, ⟨234,0,257,94⟩) := by rw [hSR, hP]; kernel_rfl
theorem g_j (w : World) (os : OsState) : segRun treeTable pp w 11 an 1 147 (s_30 w os).abs (piecesOf lj envT cE ⟨199,0,199,8⟩ [topFrame q0]) = some (.next, (s_35 w os).abs, cE, ⟨234,0,257,94⟩) := segRun_of (t_j w os)
theorem segRun_mono {tb : String → Option Builtin} {p : Program} {w : World} {n₀ : Nat} {ann : Option Value} {b : Nat} (k : Nat) : ∀ (n : Nat) (s : Shared) (t : Thread) (r : Flow × Shared × Code × Pos), segRun tb p w n₀ ann b n s t = some r → segRun tb p w n₀ ann b (n + k) s t = some r
 | 0, _, _, _, h => by simp [segRun] at h
 | n + 1, s, t, r, h => by
   rw [show n + 1 + k = n + k + 1 by omega]
   unfold segRun at h ⊢
   cases he : endAt b t with
   | some f => rw [he] at h; exact h
   | none =>
     rw [he] at h
     cases hk : stepOk n₀ ann t with
     | false => rw [hk] at h; cases h
     | true =>
       rw [hk] at h
       cases hs : step (denote tb) p w s t with
       | halt o s' => rw [hs] at h; cases h
       | go s' t' => rw [hs] at h; exact segRun_mono k n s' t' r h
noncomputable def K_b (w : World) (os : OsState) : Result → Sem Fin := kOf (sg tt pp w 11 an 1 40 (s_1 w os) (pT lb envT cE ⟨2,0,2,2⟩))
theorem e_bF : ∀ (w : World) (os : OsState), segGoT treeTable pp (w.withFollow "comprehension-iter-twice" false) 11 an 1 89 (s_1 (w.withFollow "comprehension-iter-twice" false) os) (piecesOf lb envT cE ⟨2,0,2,2⟩ [topFrame q0]) = some (s_C (w.withFollow "comprehension-iter-twice" false) os 1, thC (K_b (w.withFollow "comprehension-iter-twice" false) os) cE) := byRow2 "special-get-raises" (P := fun w => ∀ os : OsState, segGoT treeTable pp (w.withFollow "comprehension-iter-twice" false) 11 an 1 89 (s_1 (w.withFollow "comprehension-iter-twice" false) os) (piecesOf lb envT cE ⟨2,0,2,2⟩ [topFrame q0]) = some (s_C (w.withFollow "comprehension-iter-twice" false) os 1, thC (K_b (w.withFollow "comprehension-iter-twice" false) os) cE)) (by intro w os; rw [hSG, hP]; kernel_rfl) (by intro w os; rw [hSG, hP]; kernel_rfl)
theorem e_bT : ∀ (w : World) (os : OsState), segGoT treeTable pp (w.withFollow "comprehension-iter-twice" true) 11 an 1 79 (s_1 (w.withFollow "comprehension-iter-twice" true) os) (piecesOf lb envT cE ⟨2,0,2,2⟩ [topFrame q0]) = some (s_C (w.withFollow "comprehension-iter-twice" true) os 1, thC (K_b (w.withFollow "comprehension-iter-twice" true) os) cE) := byRow2 "special-get-raises" (P := fun w => ∀ os : OsState, segGoT treeTable pp (w.withFollow "comprehension-iter-twice" true) 11 an 1 79 (s_1 (w.withFollow "comprehension-iter-twice" true) os) (piecesOf lb envT cE ⟨2,0,2,2⟩ [topFrame q0]) = some (s_C (w.withFollow "comprehension-iter-twice" true) os 1, thC (K_b (w.withFollow "comprehension-iter-twice" true) os) cE)) (by intro w os; rw [hSG, hP]; kernel_rfl) (by intro w os; rw [hSG, hP]; kernel_rfl)
theorem c_b1 (w : World) (os : OsState) (K : Result → Sem Fin) (c : Code) : segGoT treeTable pp w 11 an 1 296 (s_C w os 1) (thC K c) = some (s_C w os 9, thC K c) := by rw [hSG]; kernel_rfl
theorem c_b9 (w : World) (os : OsState) (K : Result → Sem Fin) (c : Code) : segGoT treeTable pp w 11 an 1 296 (s_C w os 9) (thC K c) = some (s_C w os 17, thC K c) := by rw [hSG]; kernel_rfl
theorem c_b17 (w : World) (os : OsState) (K : Result → Sem Fin) (c : Code) : segGoT treeTable pp w 11 an 1 296 (s_C w os 17) (thC K c) = some (s_C w os 25, thC K c) := by rw [hSG]; kernel_rfl
theorem c_b25 (w : World) (os : OsState) (K : Result → Sem Fin) (c : Code) : segGoT treeTable pp w 11 an 1 296 (s_C w os 25) (thC K c) = some (s_C w os 33, thC K c) := by rw [hSG]; kernel_rfl
theorem c_b33 (w : World) (os : OsState) (K : Result → Sem Fin) (c : Code) : segGoT treeTable pp w 11 an 1 296 (s_C w os 33) (thC K c) = some (s_C w os 41, thC K c) := by rw [hSG]; kernel_rfl
theorem c_b41 (w : World) (os : OsState) (K : Result → Sem Fin) (c : Code) : segGoT treeTable pp w 11 an 1 296 (s_C w os 41) (thC K c) = some (s_C w os 49, thC K c) := by rw [hSG]; kernel_rfl
theorem c_b49 (w : World) (os : OsState) (K : Result → Sem Fin) (c : Code) : segGoT treeTable pp w 11 an 1 296 (s_C w os 49) (thC K c) = some (s_C w os 57, thC K c) := by rw [hSG]; kernel_rfl
theorem c_b57 (w : World) (os : OsState) (K : Result → Sem Fin) (c : Code) : segGoT treeTable pp w 11 an 1 296 (s_C w os 57) (thC K c) = some (s_C w os 65, thC K c) := by rw [hSG]; kernel_rfl
theorem c_b65 (w : World) (os : OsState) (K : Result → Sem Fin) (c : Code) : segGoT treeTable pp w 11 an 1 296 (s_C w os 65) (thC K c) = some (s_C w os 73, thC K c) := by rw [hSG]; kernel_rfl
theorem c_b73 (w : World) (os : OsState) (K : Result → Sem Fin) (c : Code) : segGoT treeTable pp w 11 an 1 296 (s_C w os 73) (thC K c) = some (s_C w os 81, thC K c) := by rw [hSG]; kernel_rfl
theorem c_b81 (w : World) (os : OsState) (K : Result → Sem Fin) (c : Code) : segGoT treeTable pp w 11 an 1 296 (s_C w os 81) (thC K c) = some (s_C w os 89, thC K c) := by rw [hSG]; kernel_rfl
theorem c_b89 (w : World) (os : OsState) (K : Result → Sem Fin) (c : Code) : segGoT treeTable pp w 11 an 1 296 (s_C w os 89) (thC K c) = some (s_C w os 97, thC K c) := by rw [hSG]; kernel_rfl
theorem c_b97 (w : World) (os : OsState) (K : Result → Sem Fin) (c : Code) : segGoT treeTable pp w 11 an 1 296 (s_C w os 97) (thC K c) = some (s_C w os 105, thC K c) := by rw [hSG]; kernel_rfl
theorem c_b105 (w : World) (os : OsState) (K : Result → Sem Fin) (c : Code) : segGoT treeTable pp w 11 an 1 296 (s_C w os 105) (thC K c) = some (s_C w os 113, thC K c) := by rw [hSG]; kernel_rfl
theorem c_b113 (w : World) (os : OsState) (K : Result → Sem Fin) (c : Code) : segGoT treeTable pp w 11 an 1 296 (s_C w os 113) (thC K c) = some (s_C w os 121, thC K c) := by rw [hSG]; kernel_rfl
theorem c_b121 (w : World) (os : OsState) (K : Result → Sem Fin) (c : Code) : segGoT treeTable pp w 11 an 1 296 (s_C w os 121) (thC K c) = some (s_C w os 129, thC K c) := by rw [hSG]; kernel_rfl
theorem c_b129 (w : World) (os : OsState) (K : Result → Sem Fin) (c : Code) : segGoT treeTable pp w 11 an 1 296 (s_C w os 129) (thC K c) = some (s_C w os 137, thC K c) := by rw [hSG]; kernel_rfl
theorem c_b137 (w : World) (os : OsState) (K : Result → Sem Fin) (c : Code) : segGoT treeTable pp w 11 an 1 296 (s_C w os 137) (thC K c) = some (s_C w os 145, thC K c) := by rw [hSG]; kernel_rfl
theorem c_b145 (w : World) (os : OsState) (K : Result → Sem Fin) (c : Code) : segGoT treeTable pp w 11 an 1 296 (s_C w os 145) (thC K c) = some (s_C w os 153, thC K c) := by rw [hSG]; kernel_rfl
theorem c_b153 (w : World) (os : OsState) (K : Result → Sem Fin) (c : Code) : segGoT treeTable pp w 11 an 1 296 (s_C w os 153) (thC K c) = some (s_C w os 161, thC K c) := by rw [hSG]; kernel_rfl
theorem c_b161 (w : World) (os : OsState) (K : Result → Sem Fin) (c : Code) : segGoT treeTable pp w 11 an 1 296 (s_C w os 161) (thC K c) = some (s_C w os 169, thC K c) := by rw [hSG]; kernel_rfl
theorem c_b169 (w : World) (os : OsState) (K : Result → Sem Fin) (c : Code) : segGoT treeTable pp w 11 an 1 296 (s_C w os 169) (thC K c) = some (s_C w os 177, thC K c) := by rw [hSG]; kernel_rfl
theorem c_b177 (w : World) (os : OsState) (K : Result → Sem Fin) (c : Code) : segGoT treeTable pp w 11 an 1 296 (s_C w os 177) (thC K c) = some (s_C w os 185, thC K c) := by rw [hSG]; kernel_rfl
theorem c_b185 (w : World) (os : OsState) (K : Result → Sem Fin) (c : Code) : segGoT treeTable pp w 11 an 1 296 (s_C w os 185) (thC K c) = some (s_C w os 193, thC K c) := by rw [hSG]; kernel_rfl
theorem c_b193 (w : World) (os : OsState) (K : Result → Sem Fin) (c : Code) : segGoT treeTable pp w 11 an 1 296 (s_C w os 193) (thC K c) = some (s_C w os 201, thC K c) := by rw [hSG]; kernel_rfl
theorem c_b201 (w : World) (os : OsState) (K : Result → Sem Fin) (c : Code) : segGoT treeTable pp w 11 an 1 296 (s_C w os 201) (thC K c) = some (s_C w os 209, thC K c) := by rw [hSG]; kernel_rfl
theorem c_b209 (w : World) (os : OsState) (K : Result → Sem Fin) (c : Code) : segGoT treeTable pp w 11 an 1 296 (s_C w os 209) (thC K c) = some (s_C w os 217, thC K c) := by rw [hSG]; kernel_rfl
theorem c_b217 (w : World) (os : OsState) (K : Result → Sem Fin) (c : Code) : segGoT treeTable pp w 11 an 1 296 (s_C w os 217) (thC K c) = some (s_C w os 225, thC K c) := by rw [hSG]; kernel_rfl
theorem c_b225 (w : World) (os : OsState) (K : Result → Sem Fin) (c : Code) : segGoT treeTable pp w 11 an 1 296 (s_C w os 225) (thC K c) = some (s_C w os 233, thC K c) := by rw [hSG]; kernel_rfl
theorem c_b233 (w : World) (os : OsState) (K : Result → Sem Fin) (c : Code) : segGoT treeTable pp w 11 an 1 296 (s_C w os 233) (thC K c) = some (s_C w os 241, thC K c) := by rw [hSG]; kernel_rfl
theorem c_b241 (w : World) (os : OsState) (K : Result → Sem Fin) (c : Code) : segGoT treeTable pp w 11 an 1 296 (s_C w os 241) (thC K c) = some (s_C w os 249, thC K c) := by rw [hSG]; kernel_rfl
theorem c_b249 (w : World) (os : OsState) (K : Result → Sem Fin) (c : Code) : segGoT treeTable pp w 11 an 1 259 (s_C w os 249) (thC K c) = some (s_C w os 256, thC K c) := by rw [hSG]; kernel_rfl
theorem x_b : ∀ (w : World) (os : OsState), segRunT treeTable pp w 11 an 1 28 (s_C w os 256) (thC (K_b w os) cE) = some (.next, s_2 w os, cE, ⟨3,0,3,11⟩) := byRow2 "special-get-raises" (P := fun w => ∀ os : OsState, segRunT treeTable pp w 11 an 1 28 (s_C w os 256) (thC (K_b w os) cE) = some (.next, s_2 w os, cE, ⟨3,0,3,11⟩)) (by intro w os; rw [hSR]; kernel_rfl) (by intro w os; rw [hSR]; kernel_rfl)
theorem y_b (w : World) (os : OsState) : segRun treeTable pp w 11 an 1 9463 (s_C w os 1).abs (thC (K_b w os) cE) = some (.next, (s_2 w os).abs, cE, ⟨3,0,3,11⟩) := seg_go (segGo_of (c_b1 w os _ _)) (seg_go (segGo_of (c_b9 w os _ _)) (seg_go (segGo_of (c_b17 w os _ _)) (seg_go (segGo_of (c_b25 w os _ _)) (seg_go (segGo_of (c_b33 w os _ _)) (seg_go (segGo_of (c_b41 w os _ _)) (seg_go (segGo_of (c_b49 w os _ _)) (seg_go (segGo_of (c_b57 w os _ _)) (seg_go (segGo_of (c_b65 w os _ _)) (seg_go (segGo_of (c_b73 w os _ _)) (seg_go (segGo_of (c_b81 w os _ _)) (seg_go (segGo_of (c_b89 w os _ _)) (seg_go (segGo_of (c_b97 w os _ _)) (seg_go (segGo_of (c_b105 w os _ _)) (seg_go (segGo_of (c_b113 w os _ _)) (seg_go (segGo_of (c_b121 w os _ _)) (seg_go (segGo_of (c_b129 w os _ _)) (seg_go (segGo_of (c_b137 w os _ _)) (seg_go (segGo_of (c_b145 w os _ _)) (seg_go (segGo_of (c_b153 w os _ _)) (seg_go (segGo_of (c_b161 w os _ _)) (seg_go (segGo_of (c_b169 w os _ _)) (seg_go (segGo_of (c_b177 w os _ _)) (seg_go (segGo_of (c_b185 w os _ _)) (seg_go (segGo_of (c_b193 w os _ _)) (seg_go (segGo_of (c_b201 w os _ _)) (seg_go (segGo_of (c_b209 w os _ _)) (seg_go (segGo_of (c_b217 w os _ _)) (seg_go (segGo_of (c_b225 w os _ _)) (seg_go (segGo_of (c_b233 w os _ _)) (seg_go (segGo_of (c_b241 w os _ _)) (seg_go (segGo_of (c_b249 w os _ _)) (segRun_of (x_b w os)))))))))))))))))))))))))))))))))
theorem g_b : ∀ (w : World) (os : OsState), segRun treeTable pp w 11 an 1 9552 (s_1 w os).abs (piecesOf lb envT cE ⟨2,0,2,2⟩ [topFrame q0]) = some (.next, (s_2 w os).abs, cE, ⟨3,0,3,11⟩) := byRow2 "comprehension-iter-twice" (P := fun w => ∀ os : OsState, segRun treeTable pp w 11 an 1 9552 (s_1 w os).abs (piecesOf lb envT cE ⟨2,0,2,2⟩ [topFrame q0]) = some (.next, (s_2 w os).abs, cE, ⟨3,0,3,11⟩)) (fun w os => seg_go (segGo_of (e_bF w os)) (y_b _ os)) (fun w os => segRun_mono 10 9542 _ _ _ (seg_go (segGo_of (e_bT w os)) (y_b _ os)))
noncomputable def K_d (w : World) (os : OsState) : Result → Sem Fin := kOf (sg tt pp w 11 an 1 89 (s_10 w os) (pT ld envT cE ⟨11,0,11,8⟩))
theorem e_d : ∀ (w : World) (os : OsState), segGoT treeTable pp w 11 an 1 89 (s_10 w os) (piecesOf ld envT cE ⟨11,0,11,8⟩ [topFrame q0]) = some (s_L11 w os 1, thL (cL st11 (.ref 25)) ⟨13,4,13,25⟩ ⟨12,9,12,81⟩ (K_d w os) cE) := byRow2 "special-get-raises" (P := fun w => ∀ os : OsState, segGoT treeTable pp w 11 an 1 89 (s_10 w os) (piecesOf ld envT cE ⟨11,0,11,8⟩ [topFrame q0]) = some (s_L11 w os 1, thL (cL st11 (.ref 25)) ⟨13,4,13,25⟩ ⟨12,9,12,81⟩ (K_d w os) cE)) (by intro w os; rw [hSG, hP]; kernel_rfl) (by intro w os; rw [hSG, hP]; kernel_rfl)
noncomputable abbrev tq0 (K : Result → Sem Fin) (c : Code) := thL (cL st13 (.ref 28)) ⟨16,4,16,23⟩ ⟨15,9,15,110⟩ K c
noncomputable abbrev tq1 (K : Result → Sem Fin) (c : Code) := thL (cL st11 (.ref 25)) ⟨13,4,13,25⟩ ⟨12,9,12,81⟩ K c
theorem c_d1 (w : World) (os : OsState) (K : Result → Sem Fin) (c : Code) : segGoT treeTable pp w 11 an 1 270 (s_L11 w os 1) (tq1 K c) = some (s_L11 w os 7, thL (cL st11 (.ref 25)) ⟨13,4,13,25⟩ ⟨12,9,12,81⟩ K c) := by rw [hSG]; kernel_rfl
theorem c_d7 (w : World) (os : OsState) (K : Result → Sem Fin) (c : Code) : segGoT treeTable pp w 11 an 1 270 (s_L11 w os 7) (tq1 K c) = some (s_L11 w os 13, thL (cL st11 (.ref 25)) ⟨13,4,13,25⟩ ⟨12,9,12,81⟩ K c) := by rw [hSG]; kernel_rfl
theorem c_d13 (w : World) (os : OsState) (K : Result → Sem Fin) (c : Code) : segGoT treeTable pp w 11 an 1 270 (s_L11 w os 13) (tq1 K c) = some (s_L11 w os 19, thL (cL st11 (.ref 25)) ⟨13,4,13,25⟩ ⟨12,9,12,81⟩ K c) := by rw [hSG]; kernel_rfl
theorem c_d19 (w : World) (os : OsState) (K : Result → Sem Fin) (c : Code) : segGoT treeTable pp w 11 an 1 270 (s_L11 w os 19) (tq1 K c) = some (s_L11 w os 25, thL (cL st11 (.ref 25)) ⟨13,4,13,25⟩ ⟨12,9,12,81⟩ K c) := by rw [hSG]; kernel_rfl
theorem c_d25 (w : World) (os : OsState) (K : Result → Sem Fin) (c : Code) : segGoT treeTable pp w 11 an 1 270 (s_L11 w os 25) (tq1 K c) = some (s_L11 w os 31, thL (cL st11 (.ref 25)) ⟨13,4,13,25⟩ ⟨12,9,12,81⟩ K c) := by rw [hSG]; kernel_rfl
theorem c_d31 (w : World) (os : OsState) (K : Result → Sem Fin) (c : Code) : segGoT treeTable pp w 11 an 1 270 (s_L11 w os 31) (tq1 K c) = some (s_L11 w os 37, thL (cL st11 (.ref 25)) ⟨13,4,13,25⟩ ⟨12,9,12,81⟩ K c) := by rw [hSG]; kernel_rfl
theorem c_d37 (w : World) (os : OsState) (K : Result → Sem Fin) (c : Code) : segGoT treeTable pp w 11 an 1 270 (s_L11 w os 37) (tq1 K c) = some (s_L11 w os 43, thL (cL st11 (.ref 25)) ⟨13,4,13,25⟩ ⟨12,9,12,81⟩ K c) := by rw [hSG]; kernel_rfl
theorem c_d43 (w : World) (os : OsState) (K : Result → Sem Fin) (c : Code) : segGoT treeTable pp w 11 an 1 270 (s_L11 w os 43) (tq1 K c) = some (s_L11 w os 49, thL (cL st11 (.ref 25)) ⟨13,4,13,25⟩ ⟨12,9,12,81⟩ K c) := by rw [hSG]; kernel_rfl
theorem c_d49 (w : World) (os : OsState) (K : Result → Sem Fin) (c : Code) : segGoT treeTable pp w 11 an 1 270 (s_L11 w os 49) (tq1 K c) = some (s_L11 w os 55, thL (cL st11 (.ref 25)) ⟨13,4,13,25⟩ ⟨12,9,12,81⟩ K c) := by rw [hSG]; kernel_rfl
theorem c_d55 (w : World) (os : OsState) (K : Result → Sem Fin) (c : Code) : segGoT treeTable pp w 11 an 1 270 (s_L11 w os 55) (tq1 K c) = some (s_L11 w os 61, thL (cL st11 (.ref 25)) ⟨13,4,13,25⟩ ⟨12,9,12,81⟩ K c) := by rw [hSG]; kernel_rfl
theorem c_d61 (w : World) (os : OsState) (K : Result → Sem Fin) (c : Code) : segGoT treeTable pp w 11 an 1 270 (s_L11 w os 61) (tq1 K c) = some (s_L11 w os 67, thL (cL st11 (.ref 25)) ⟨13,4,13,25⟩ ⟨12,9,12,81⟩ K c) := by rw [hSG]; kernel_rfl
theorem x_d : ∀ (w : World) (os : OsState), segRunT treeTable pp w 11 an 1 18 (s_L11 w os 67) (thL (cL st11 (.ref 25)) ⟨13,4,13,25⟩ ⟨12,9,12,81⟩ (K_d w os) cE) = some (.next, s_11 w os, cE, ⟨12,9,12,81⟩) := byRow2 "special-get-raises" (P := fun w => ∀ os : OsState, segRunT treeTable pp w 11 an 1 18 (s_L11 w os 67) (thL (cL st11 (.ref 25)) ⟨13,4,13,25⟩ ⟨12,9,12,81⟩ (K_d w os) cE) = some (.next, s_11 w os, cE, ⟨12,9,12,81⟩)) (by intro w os; rw [hSR]; kernel_rfl) (by intro w os; rw [hSR]; kernel_rfl)
theorem g_d (w : World) (os : OsState) : segRun treeTable pp w 11 an 1 3077 (s_10 w os).abs (piecesOf ld envT cE ⟨11,0,11,8⟩ [topFrame q0]) = some (.next, (s_11 w os).abs, cE, ⟨12,9,12,81⟩) := seg_go (segGo_of (e_d w os)) (seg_go (segGo_of (c_d1 w os _ _)) (seg_go (segGo_of (c_d7 w os _ _)) (seg_go (segGo_of (c_d13 w os _ _)) (seg_go (segGo_of (c_d19 w os _ _)) (seg_go (segGo_of (c_d25 w os _ _)) (seg_go (segGo_of (c_d31 w os _ _)) (seg_go (segGo_of (c_d37 w os _ _)) (seg_go (segGo_of (c_d43 w os _ _)) (seg_go (segGo_of (c_d49 w os _ _)) (seg_go (segGo_of (c_d55 w os _ _)) (seg_go (segGo_of (c_d61 w os _ _)) (segRun_of (x_d w os)))))))))))))
noncomputable def K_f (w : World) (os : OsState) : Result → Sem Fin := kOf (sg tt pp w 11 an 1 55 (s_12 w os) (pT lf envT cE ⟨14,0,14,28⟩))
theorem e_f : ∀ (w : World) (os : OsState), segGoT treeTable pp w 11 an 1 55 (s_12 w os) (piecesOf lf envT cE ⟨14,0,14,28⟩ [topFrame q0]) = some (s_L13 w os 1, thL (cL st13 (.ref 28)) ⟨16,4,16,23⟩ ⟨15,9,15,110⟩ (K_f w os) cE) := byRow2 "special-get-raises" (P := fun w => ∀ os : OsState, segGoT treeTable pp w 11 an 1 55 (s_12 w os) (piecesOf lf envT cE ⟨14,0,14,28⟩ [topFrame q0]) = some (s_L13 w os 1, thL (cL st13 (.ref 28)) ⟨16,4,16,23⟩ ⟨15,9,15,110⟩ (K_f w os) cE)) (by intro w os; rw [hSG, hP]; kernel_rfl) (by intro w os; rw [hSG, hP]; kernel_rfl)
theorem c_f1 (w : World) (os : OsState) (K : Result → Sem Fin) (c : Code) : segGoT treeTable pp w 11 an 1 270 (s_L13 w os 1) (tq0 K c) = some (s_L13 w os 7, thL (cL st13 (.ref 28)) ⟨16,4,16,23⟩ ⟨15,9,15,110⟩ K c) := by rw [hSG]; kernel_rfl
theorem c_f7 (w : World) (os : OsState) (K : Result → Sem Fin) (c : Code) : segGoT treeTable pp w 11 an 1 270 (s_L13 w os 7) (tq0 K c) = some (s_L13 w os 13, thL (cL st13 (.ref 28)) ⟨16,4,16,23⟩ ⟨15,9,15,110⟩ K c) := by rw [hSG]; kernel_rfl
theorem c_f13 (w : World) (os : OsState) (K : Result → Sem Fin) (c : Code) : segGoT treeTable pp w 11 an 1 270 (s_L13 w os 13) (tq0 K c) = some (s_L13 w os 19, thL (cL st13 (.ref 28)) ⟨16,4,16,23⟩ ⟨15,9,15,110⟩ K c) := by rw [hSG]; kernel_rfl
theorem c_f19 (w : World) (os : OsState) (K : Result → Sem Fin) (c : Code) : segGoT treeTable pp w 11 an 1 270 (s_L13 w os 19) (tq0 K c) = some (s_L13 w os 25, thL (cL st13 (.ref 28)) ⟨16,4,16,23⟩ ⟨15,9,15,110⟩ K c) := by rw [hSG]; kernel_rfl
theorem c_f25 (w : World) (os : OsState) (K : Result → Sem Fin) (c : Code) : segGoT treeTable pp w 11 an 1 270 (s_L13 w os 25) (tq0 K c) = some (s_L13 w os 31, thL (cL st13 (.ref 28)) ⟨16,4,16,23⟩ ⟨15,9,15,110⟩ K c) := by rw [hSG]; kernel_rfl
theorem c_f31 (w : World) (os : OsState) (K : Result → Sem Fin) (c : Code) : segGoT treeTable pp w 11 an 1 270 (s_L13 w os 31) (tq0 K c) = some (s_L13 w os 37, thL (cL st13 (.ref 28)) ⟨16,4,16,23⟩ ⟨15,9,15,110⟩ K c) := by rw [hSG]; kernel_rfl
theorem c_f37 (w : World) (os : OsState) (K : Result → Sem Fin) (c : Code) : segGoT treeTable pp w 11 an 1 270 (s_L13 w os 37) (tq0 K c) = some (s_L13 w os 43, thL (cL st13 (.ref 28)) ⟨16,4,16,23⟩ ⟨15,9,15,110⟩ K c) := by rw [hSG]; kernel_rfl
theorem c_f43 (w : World) (os : OsState) (K : Result → Sem Fin) (c : Code) : segGoT treeTable pp w 11 an 1 270 (s_L13 w os 43) (tq0 K c) = some (s_L13 w os 49, thL (cL st13 (.ref 28)) ⟨16,4,16,23⟩ ⟨15,9,15,110⟩ K c) := by rw [hSG]; kernel_rfl
theorem c_f49 (w : World) (os : OsState) (K : Result → Sem Fin) (c : Code) : segGoT treeTable pp w 11 an 1 270 (s_L13 w os 49) (tq0 K c) = some (s_L13 w os 55, thL (cL st13 (.ref 28)) ⟨16,4,16,23⟩ ⟨15,9,15,110⟩ K c) := by rw [hSG]; kernel_rfl
theorem c_f55 (w : World) (os : OsState) (K : Result → Sem Fin) (c : Code) : segGoT treeTable pp w 11 an 1 270 (s_L13 w os 55) (tq0 K c) = some (s_L13 w os 61, thL (cL st13 (.ref 28)) ⟨16,4,16,23⟩ ⟨15,9,15,110⟩ K c) := by rw [hSG]; kernel_rfl
theorem c_f61 (w : World) (os : OsState) (K : Result → Sem Fin) (c : Code) : segGoT treeTable pp w 11 an 1 270 (s_L13 w os 61) (tq0 K c) = some (s_L13 w os 67, thL (cL st13 (.ref 28)) ⟨16,4,16,23⟩ ⟨15,9,15,110⟩ K c) := by rw [hSG]; kernel_rfl
theorem c_f67 (w : World) (os : OsState) (K : Result → Sem Fin) (c : Code) : segGoT treeTable pp w 11 an 1 270 (s_L13 w os 67) (tq0 K c) = some (s_L13 w os 73, thL (cL st13 (.ref 28)) ⟨16,4,16,23⟩ ⟨15,9,15,110⟩ K c) := by rw [hSG]; kernel_rfl
theorem c_f73 (w : World) (os : OsState) (K : Result → Sem Fin) (c : Code) : segGoT treeTable pp w 11 an 1 270 (s_L13 w os 73) (tq0 K c) = some (s_L13 w os 79, thL (cL st13 (.ref 28)) ⟨16,4,16,23⟩ ⟨15,9,15,110⟩ K c) := by rw [hSG]; kernel_rfl
theorem c_f79 (w : World) (os : OsState) (K : Result → Sem Fin) (c : Code) : segGoT treeTable pp w 11 an 1 270 (s_L13 w os 79) (tq0 K c) = some (s_L13 w os 85, thL (cL st13 (.ref 28)) ⟨16,4,16,23⟩ ⟨15,9,15,110⟩ K c) := by rw [hSG]; kernel_rfl
theorem c_f85 (w : World) (os : OsState) (K : Result → Sem Fin) (c : Code) : segGoT treeTable pp w 11 an 1 270 (s_L13 w os 85) (tq0 K c) = some (s_L13 w os 91, thL (cL st13 (.ref 28)) ⟨16,4,16,23⟩ ⟨15,9,15,110⟩ K c) := by rw [hSG]; kernel_rfl
theorem c_f91 (w : World) (os : OsState) (K : Result → Sem Fin) (c : Code) : segGoT treeTable pp w 11 an 1 180 (s_L13 w os 91) (tq0 K c) = some (s_L13 w os 95, thL (cL st13 (.ref 28)) ⟨16,4,16,23⟩ ⟨15,9,15,110⟩ K c) := by rw [hSG]; kernel_rfl
theorem x_f : ∀ (w : World) (os : OsState), segRunT treeTable pp w 11 an 1 18 (s_L13 w os 95) (thL (cL st13 (.ref 28)) ⟨16,4,16,23⟩ ⟨15,9,15,110⟩ (K_f w os) cE) = some (.next, s_13 w os, cE, ⟨15,9,15,110⟩) := byRow2 "special-get-raises" (P := fun w => ∀ os : OsState, segRunT treeTable pp w 11 an 1 18 (s_L13 w os 95) (thL (cL st13 (.ref 28)) ⟨16,4,16,23⟩ ⟨15,9,15,110⟩ (K_f w os) cE) = some (.next, s_13 w os, cE, ⟨15,9,15,110⟩)) (by intro w os; rw [hSR]; kernel_rfl) (by intro w os; rw [hSR]; kernel_rfl)
theorem g_f (w : World) (os : OsState) : segRun treeTable pp w 11 an 1 4303 (s_12 w os).abs (piecesOf lf envT cE ⟨14,0,14,28⟩ [topFrame q0]) = some (.next, (s_13 w os).abs, cE, ⟨15,9,15,110⟩) := seg_go (segGo_of (e_f w os)) (seg_go (segGo_of (c_f1 w os _ _)) (seg_go (segGo_of (c_f7 w os _ _)) (seg_go (segGo_of (c_f13 w os _ _)) (seg_go (segGo_of (c_f19 w os _ _)) (seg_go (segGo_of (c_f25 w os _ _)) (seg_go (segGo_of (c_f31 w os _ _)) (seg_go (segGo_of (c_f37 w os _ _)) (seg_go (segGo_of (c_f43 w os _ _)) (seg_go (segGo_of (c_f49 w os _ _)) (seg_go (segGo_of (c_f55 w os _ _)) (seg_go (segGo_of (c_f61 w os _ _)) (seg_go (segGo_of (c_f67 w os _ _)) (seg_go (segGo_of (c_f73 w os _ _)) (seg_go (segGo_of (c_f79 w os _ _)) (seg_go (segGo_of (c_f85 w os _ _)) (seg_go (segGo_of (c_f91 w os _ _)) (segRun_of (x_f w os))))))))))))))))))
noncomputable def hA (P : Params) : Heap := ⟨⟨[ob0 P, ob1 P, ob2 P, ob3 P, ob4 P, ob5 P, ob6 P, ob7 P, ob8 P, ob9 P, ob10 P, ob11 P, ob12 P, ob13 P, ob14 P]⟩, {}⟩
noncomputable def hZ (P : Params) : Heap := ⟨⟨[ob0 P, ob1 P, ob2 P, ob89 P, ob4 P, ob5 P, ob6 P, ob7 P, ob8 P, ob9 P, ob10 P, ob11 P, ob90 P, ob13 P, ob14 P, ob17 P, ob18 P, ob19 P, ob20 P, ob11 P, ob21 P, ob23 P, ob29 P, ob23 P, ob31 P, ob27 P, ob11 P, ob28 P, ob32 P, ob11 P, ob33 P, ob11 P, ob12 P, ob36 P, ob11 P, ob37 P, ob38 P, ob39 P, ob11 P, ob12 P, ob40 P, ob11 P, ob41 P, ob42 P, ob43 P, ob23 P, ob44 P, ob45 P, ob11 P, ob46 P, ob49 P, ob11 P, ob12 P, ob50 P, ob11 P, ob51 P, ob52 P, ob53 P, ob54 P, ob11 P, ob12 P, ob55 P, ob11 P, ob56 P, ob57 P, ob58 P, ob11 P, ob12 P, ob59 P, ob11 P, ob60 P, ob61 P, ob62 P, ob11 P, ob12 P, ob63 P, ob11 P, ob64 P, ob65 P, ob66 P, ob11 P, ob12 P, ob69 P, ob11 P, ob70 P, ob71 P, ob72 P, ob11 P, ob12 P, ob73 P, ob11 P, ob74 P, ob75 P, ob76 P, ob11 P, ob12 P, ob77 P, ob11 P, ob78 P, ob79 P, ob80 P, ob11 P, ob12 P, ob81 P, ob11 P, ob82 P, ob83 P, ob84 P, ob11 P, ob12 P, ob85 P, ob11 P, ob86 P, ob87 P, ob88 P, ob11 P, ob12 P, ob91 P, ob11 P, ob92 P, ob93 P, ob94 P, ob11 P, ob12 P, ob95 P, ob11 P, ob96 P, ob97 P, ob98 P, ob11 P, ob12 P, ob99 P, ob100 P, ob101 P, ob11 P, ob12 P, ob102 P, ob11 P, ob103 P, ob104 P, ob105 P, ob11 P, ob12 P, ob106 P, ob107 P, ob108 P]⟩, {}⟩
noncomputable def s0T (w : World) (os : OsState) : Shared := ⟨boot_heap w.params, ⟨[]⟩, boot_drawn, boot_toks, os⟩
noncomputable def sZ (w : World) (os : OsState) : Shared := ⟨hZ w.params, ⟨[]⟩, {}, 1922, os⟩
theorem t_pre (w : World) (os : OsState) : topGo treeTable pp w 11 an 12 (s0T w os) (topStub pp) = some (⟨hA w.params, ⟨[]⟩, {}, 187, os⟩, ⟨denote treeTable cE, cE, ⟨0,0,0,0⟩, [topFrame q0]⟩) := by
 rw [PySem.W.Fast.te15667345088766844465, PySem.W.Fast.te14364793385576792824, PySem.W.Fast.te11892475500146522536]; kernel_rfl
theorem t_abs (w : World) (os : OsState) : (⟨hA w.params, ⟨[]⟩, {}, 187, os⟩ : Shared) = (s_BLOCK w os).abs := by kernel_rfl
theorem t_blk (w : World) (os : OsState) : segRun treeTable pp w 11 an 1 1 (s_BLOCK w os).abs (blockOf bT envT cE ⟨0,0,0,0⟩ [topFrame q0]) = some (.next, (s_BLOCK w os).abs, cE, ⟨0,0,0,0⟩) := by
 kernel_rfl
theorem t_fin (w : World) (os : OsState) : topRun treeTable pp w 11 an 2 (s_35 w os).abs ⟨doneF .next, cE, ⟨234,0,257,94⟩, [topFrame q0]⟩ = some (sZ w os) := by
 rw [PySem.W.Fast.te14082659384304107361, PySem.W.Fast.te14364793385576792824]; kernel_rfl
theorem t_run (w : World) (os : OsState) : topRun treeTable pp w 11 an 17834 (s0T w os) (topStub pp) = some (sZ w os) :=
 go_top (n := 12) ((t_pre w os).trans (congrArg (fun s => some (s, _)) (t_abs w os))) (piece_block (t_blk w os) (piece_app (g_a w os) (piece_app (g_b w os) (piece_app (g_c w os) (piece_app (g_d w os) (piece_app (g_e w os) (piece_app (g_f w os) (piece_app (g_g w os) (piece_app (g_h w os) (piece_app (g_i w os) (piece_app (g_j w os) (piece_nil (t_fin w os)))))))))))))
theorem t_size (w : World) : ((boot_heap w.params).isNs mainGlobals && (Array.mk [] : Array GenState).size == 0, (boot_heap w.params).objs.size, (boot_heap w.params).nsMap mainGlobals "__annotations__") = (true, 11, an) := by
 rw [PySem.W.Fast.te8920871248978507458]; kernel_rfl
noncomputable def qV : Program := view pp [0, 1, 2, 3, 4, 5, 6, 7, 8, 9, 14, 15, 16, 22, 23, 24, 25, 26, 27, 28, 29, 31, 32, 33, 34, 35]
noncomputable def lsV : List Str := [Str.ofString "_QUOPRI_MAP", Str.ofString "_QUOPRI_HEADER_MAP", Str.ofString "_QUOPRI_BODY_MAP", Str.ofString "ascii_letters", Str.ofString "hexdigits", Str.ofString "_QUOPRI_BODY_ENCODE_MAP", Str.ofString "body_encode", Str.ofString "decode"]
noncomputable def lvV : List (Str × WData) := [(Str.ofString "ascii_letters", .str ⟨⟨[97, 98, 99, 100, 101, 102, 103, 104, 105, 106, 107, 108, 109, 110, 111, 112, 113, 114, 115, 116, 117, 118, 119, 120, 121, 122, 65, 66, 67, 68, 69, 70, 71, 72, 73, 74, 75, 76, 77, 78, 79, 80, 81, 82, 83, 84, 85, 86, 87, 88, 89, 90]⟩⟩), (Str.ofString "hexdigits", .str ⟨⟨[48, 49, 50, 51, 52, 53, 54, 55, 56, 57, 97, 98, 99, 100, 101, 102, 65, 66, 67, 68, 69, 70]⟩⟩)]
noncomputable def adV : List Addr := [2, 3, 17, 31, 33, 34, 36, 37, 38, 40, 41, 43, 44, 46, 50, 51, 53, 54, 56, 57, 58, 59, 61, 62, 64, 65, 66, 68, 69, 71, 72, 73, 75, 76, 78, 79, 80, 82, 83, 85, 86, 87, 89, 90, 92, 93, 94, 96, 97, 99, 100, 101, 103, 104, 106, 107, 108, 110, 111, 113, 114, 115, 117, 118, 120, 121, 122, 124, 125, 127, 128, 129, 132, 133, 134, 136, 137, 139, 140, 141, 144, 145]
noncomputable def KK (P : Params) : Frag := [(2, ob2 P), (3, ob89 P), (17, ob19 P), (31, ob11 P), (33, ob36 P), (34, ob11 P), (36, ob38 P), (37, ob39 P), (38, ob11 P), (40, ob40 P), (41, ob11 P), (43, ob42 P), (44, ob43 P), (46, ob44 P), (50, ob49 P), (51, ob11 P), (53, ob50 P), (54, ob11 P), (56, ob52 P), (57, ob53 P), (58, ob54 P), (59, ob11 P), (61, ob55 P), (62, ob11 P), (64, ob57 P), (65, ob58 P), (66, ob11 P), (68, ob59 P), (69, ob11 P), (71, ob61 P), (72, ob62 P), (73, ob11 P), (75, ob63 P), (76, ob11 P), (78, ob65 P), (79, ob66 P), (80, ob11 P), (82, ob69 P), (83, ob11 P), (85, ob71 P), (86, ob72 P), (87, ob11 P), (89, ob73 P), (90, ob11 P), (92, ob75 P), (93, ob76 P), (94, ob11 P), (96, ob77 P), (97, ob11 P), (99, ob79 P), (100, ob80 P), (101, ob11 P), (103, ob81 P), (104, ob11 P), (106, ob83 P), (107, ob84 P), (108, ob11 P), (110, ob85 P), (111, ob11 P), (113, ob87 P), (114, ob88 P), (115, ob11 P), (117, ob91 P), (118, ob11 P), (120, ob93 P), (121, ob94 P), (122, ob11 P), (124, ob95 P), (125, ob11 P), (127, ob97 P), (128, ob98 P), (129, ob11 P), (132, ob100 P), (133, ob101 P), (134, ob11 P), (136, ob102 P), (137, ob11 P), (139, ob104 P), (140, ob105 P), (141, ob11 P), (144, ob107 P), (145, ob108 P)]
noncomputable abbrev hkV : Hook := kHook KK adV (fun _ => by kernel_rfl)
noncomputable abbrev XtV : Shared → Bool := fun s => xlAt qV lvV s && recOk (RowW.records PySem.Challenge.rw_ij0180_02.row.toRowW) s
theorem t_okA (w : World) (os : OsState) : (staticsOk (importedModules pp.main.body) (boot_heap w.params) (hZ w.params) && namesBound pp (hZ w.params) && gensDone (sZ w os) && laidKept (boot_heap w.params) (hZ w.params)) = true := by
 kernel_rfl
theorem t_okB (w : World) (os : OsState) : openSeen qV lsV (importedModules pp.main.body) XtV true (sZ w os) = openGood qV lsV := by
 kernel_rfl
theorem t_okC (w : World) (os : OsState) : hkV.obs (sZ w os) = hkV.val w := by
 kernel_rfl
theorem t_imp (w : World) : importEnds treeTable (opening pp) w 600 (start (opening pp)).1 (start (opening pp)).2 = some ⟨boot_heap w.params, Array.mk [], boot_drawn, boot_toks, (start (opening pp)).1.os⟩ := by
 kernel_rfl
theorem t_open : ∀ w : World, (fencedOpening treeTable pp w 35878).map (fun s => (s.heap, s.gens, s.drawn, s.toks)) = some (boot_heap w.params, Array.mk [], boot_drawn, boot_toks) :=
 open_cut (p := pp) (N := 35878) (M := 600) (He := boot_heap) (H₀ := boot_heap) t_imp (by kernel_rfl) (fun w => by kernel_rfl)
theorem t_left : LeftO pp qV lsV XtV hkV.obs hkV.val 35878 true :=
 LeftO.of_pieces (H₀ := boot_heap) (H₁ := hZ) (m₀ := 11) (ann := an) (M := 17834) t_open t_size t_run (by kernel_rfl) (fun w => funext fun os => looks_pair (t_okA w os) (looks_pair (t_okB w os) (t_okC w os)))
noncomputable abbrev lw := PySem.Challenge.rw_ij0180_02
theorem sd1 : noRoadLSs { strict := !(importedModules lw.row.prog.main.body).all cThrough.contains, foot := none, bare := ([Str.ofString "vars", Str.ofString "dir", Str.ofString "locals"] : List Str).filter (readsOut lw.row.prog lw.row.prog.main.body) } lw.row.prog.main.body = true := by kernel_rfl
theorem sd2 : namesResolve lw.row.prog = true := by kernel_rfl
theorem sd3 : namesMeet lw.row.prog lw.row.prog.main.body (fun _ n => attrL n) = true := by kernel_rfl
theorem sd4 : (lw.bound'.all fun n => !builtinNamed n || lw.about == [n] || !lw.reads n) = true := by kernel_rfl
theorem sd : OpenLaw.wellSaid lw = true := by
 unfold OpenLaw.wellSaid OpenRow.wellSaid OpenRow.partSaid looksOpen
 repeat' (with_reducible apply look_both)
 all_goals with_reducible first | exact sd1 | exact sd2 | exact sd3 | exact sd4 | kernel_rfl
theorem hdN (call : WalkQ qV lsV (XL qV lvV) hkV.says PySem.Challenge.rw_ij0180_02.row.toRowW (recAt pp 13) []) : PySem.Challenge.rw_ij0180_02.Holds := by
 w_on
 refine holds_law sd fun said => ?_
 refine hOpen (q := qV) (loose := lsV) (Xt := XtV) (XP := XL qV lvV) (Yf := Hook.obs hkV) (Ya := Hook.val hkV) (YP := Hook.says hkV) (N := 35878) ?hl (Hook.of hkV) (Hook.keeps hkV) (fun s e => xl_of s (Bool.and_eq_true_iff.mp e).1) XL.keeps (by rfl) (by rfl) (by rfl) (fun s e => recFacts_of (Bool.and_eq_true_iff.mp e).2) (by rfl) (by first | assumption | decide +kernel) (by decide +kernel) ⟨rfl, rfl, rfl, rfl, rfl, by decide +kernel⟩ ?hw ?hc
 case hl => exact t_left
 case hw => w_witness2
 case hc => exact call
end
end
section
section
variable (O : KeyOrd) (f : Nat → O.α) (N : Nat)
noncomputable def Res {α : Type} : KasT α → (α → Prop) → Prop
 | .ret a, P => P a
 | .ask i j k, P => i < N ∧ j < N ∧ Res (k (O.blt (f i) (f j))) P
end
section
variable {O : KeyOrd} {f : Nat → O.α} {N : Nat} {p : Array Nat}
theorem res_bind {α β : Type} {g : α → KasT β} {P : β → Prop} : ∀ {t : KasT α}, Res O f N t (fun a => Res O f N (g a) P) → Res O f N (t.bind g) P
 | .ret a, h => h
 | .ask i j k, h => ⟨h.1, h.2.1, res_bind h.2.2⟩
theorem res_mono {α : Type} {P Q : α → Prop} (q : ∀ a, P a → Q a) : ∀ {t : KasT α}, Res O f N t P → Res O f N t Q
 | .ret a, h => q a h
 | .ask i j k, h => ⟨h.1, h.2.1, res_mono q h.2.2⟩
theorem res_wp {α : Type} {cmp : Nat → Nat → (Bool → Shared → Prop) → Shared → Prop} {s : Shared} (hc : ∀ i j (C : Bool → Shared → Prop), i < N → j < N → C (O.blt (f i) (f j)) s → cmp i j C s) {P : α → Prop} {Q : α → Shared → Prop} (q : ∀ a, P a → Q a s) : ∀ {t : KasT α}, Res O f N t P → t.kasWp cmp Q s
 | .ret a, h => q a h
 | .ask i j k, h => hc i j _ h.1 h.2.1 (res_wp hc q h.2.2)
theorem res_ask {α : Type} {i j : Nat} {k : Bool → KasT α} {P : α → Prop} (hi : i < N) (hj : j < N) (h1 : O.blt (f i) (f j) = true → Res O f N (k true) P) (h2 : O.blt (f i) (f j) = false → Res O f N (k false) P) : Res O f N (.ask i j k) P := by
 refine ⟨hi, hj, ?_⟩
 cases hb : O.blt (f i) (f j) with
 | true => exact h1 hb
 | false => exact h2 hb
abbrev PB (N : Nat) (p : Array Nat) : Prop := p.Perm (List.toArray (List.range N))
theorem PB.size (h : PB N p) : p.size = N := by rw [h.size_eq]; simp
theorem PB.lt (h : PB N p) {k : Nat} (hk : k < N) : p.getD k 0 < N := by
 have hk' : k < p.size := by rw [h.size]; exact hk
 have e : p.getD k 0 = p[k] := by simp [Array.getD, hk']
 rw [e]
 have := (Array.perm_iff_toList_perm.mp h).mem_iff.mp (show p[k] ∈ p.toList by simp)
 exact List.mem_range.mp this
noncomputable def Fa (f : Nat → O.α) (p : Array Nat) (k : Nat) : O.α := f (p.getD k 0)
theorem Fa_congr {p q : Array Nat} {i j : Nat} (h : p[i]? = q[j]?) : Fa f p i = Fa f q j := by
 unfold Fa; rw [Array.getD_eq_getD_getElem?, Array.getD_eq_getD_getElem?, h]
def STo (f : Nat → O.α) (p : Array Nat) (k : Nat) : Prop := ∀ i j, i ≤ j → j < k → O.kle (Fa f p i) (Fa f p j)
def NTo (f : Nat → O.α) (p : Array Nat) (k : Nat) : Prop := ∀ i j, i ≤ j → j < k → O.kle (Fa f p j) (Fa f p i)
theorem Fa_bubble {src d : Nat} (hs : src < p.size) (hd : d ≤ src) (k : Nat) :
   Fa f (bubble p src d) k = if k = src - d then Fa f p src else if src - d < k ∧ k ≤ src then Fa f p (k - 1) else Fa f p k := by
 have e := getElem?_bubble hs d hd k
 by_cases h1 : k = src - d
 · rw [if_pos h1] at e ⊢; exact Fa_congr e
 · rw [if_neg h1] at e ⊢
   by_cases h2 : src - d < k ∧ k ≤ src
   · rw [if_pos h2] at e ⊢; exact Fa_congr e
   · rw [if_neg h2] at e ⊢; exact Fa_congr e
theorem Fa_mirror {i j : Nat} (hj : j ≤ p.size) (k : Nat) : Fa f (kas_rev p i j) k = if i ≤ k ∧ k < j then Fa f p (i + j - 1 - k) else Fa f p k := by
 have e := getElem?_mirror_all (i := i) hj k
 by_cases h1 : i ≤ k ∧ k < j
 · rw [if_pos h1] at e ⊢; exact Fa_congr e
 · rw [if_neg h1] at e ⊢; exact Fa_congr e
theorem Fa_mirror_equal {i j : Nat} (hj : j ≤ p.size) (heq : ∀ k, i ≤ k → k < j → Fa f p k = Fa f p (j - 1)) (k : Nat) : Fa f (kas_rev p i j) k = Fa f p k := by
 rw [Fa_mirror hj]
 split
 · rw [heq _ (by omega) (by omega), heq k (by lia) (by lia)]
 · rfl
theorem PB.rev (h : PB N p) (i j : Nat) : PB N (kas_rev p i j) := (mirror_perm _ _ _ _).trans h
theorem STo.step {n : Nat} (h1 : 1 ≤ n) (hs : STo f p n) (h : O.kle (Fa f p (n - 1)) (Fa f p n)) : STo f p (n + 1) := fun i j hij hj => by
 by_cases hjx : j < n
 · exact hs i j hij hjx
 · have hj' : j = n := by lia
   subst hj'
   by_cases hi' : i = j
   · subst hi'; exact KeyOrd.kle_refl _
   · exact KeyOrd.kle_trans (hs i (j - 1) (by lia) (by omega)) h
theorem NTo.step {n : Nat} (h1 : 1 ≤ n) (hs : NTo f p n) (h : O.kle (Fa f p n) (Fa f p (n - 1))) : NTo f p (n + 1) := fun i j hij hj => by
 by_cases hjx : j < n
 · exact hs i j hij hjx
 · have hj' : j = n := by lia
   subst hj'
   by_cases hi' : i = j
   · subst hi'; exact KeyOrd.kle_refl _
   · exact KeyOrd.kle_trans h (hs i (j - 1) (by lia) (by omega))
theorem STo.one : STo f p 1 := fun i j hij hj => by
 have : i = j := by lia
 subst this; exact KeyOrd.kle_refl _
theorem NTo.one : NTo f p 1 := fun i j hij hj => by
 have : i = j := by lia
 subst this; exact KeyOrd.kle_refl _
theorem res_asc (hp : PB N p) {P : Nat → Prop} : ∀ (k n : Nat), 1 ≤ n → n + k ≤ N → STo f p n →
   (∀ m, n ≤ m → m ≤ n + k → STo f p m → (m = n + k ∨ O.klt (Fa f p m) (Fa f p (m - 1))) → P m) → Res O f N (kas_asc p k n) P
 | 0, n, h1, hn, hs, q => q n (Nat.le_refl n) (Nat.le_refl n) hs (.inl rfl)
 | k + 1, n, h1, hn, hs, q => by
   refine res_ask (hp.lt (by lia)) (hp.lt (by lia)) (fun hb => ?_) (fun hb => ?_)
   · exact q n (Nat.le_refl n) (by lia) hs (.inr hb)
   · exact res_asc hp k (n + 1) (by lia) (by lia) (hs.step h1 hb) fun m a b c d => q m (by lia) (by lia) c (d.imp (fun e => by lia) id)
theorem res_desc {P : Array Nat × Nat × Nat → Prop} : ∀ (k : Nat) (p : Array Nat) (n q : Nat), PB N p → 1 ≤ n → n + k ≤ N → NTo f p n → q + 1 ≤ n → (∀ i, n - (q + 1) ≤ i → i < n → Fa f p i = Fa f p (n - 1)) →
   (∀ p' m q', PB N p' → n ≤ m → m ≤ n + k → NTo f p' m → q' + 1 ≤ m → (∀ i, m - (q' + 1) ≤ i → i < m → Fa f p' i = Fa f p' (m - 1)) → P (p', m, q')) → Res O f N (kas_desc k p n q) P
 | 0, p, n, q, hp, h1, hn, hs, hq, he, g => g p n q hp (Nat.le_refl n) (Nat.le_refl n) hs hq he
 | k + 1, p, n, q, hp, h1, hn, hs, hq, he, g => by
   have hsz : n ≤ p.size := by rw [hp.size]; lia
   have h0 : ∀ p' : Array Nat, ∀ i, n + 1 - (0 + 1) ≤ i → i < n + 1 → Fa f p' i = Fa f p' (n + 1 - 1) := fun p' i a b => by
     have : i = n := by lia
     rw [this]; rfl
   refine res_ask (hp.lt (by lia)) (hp.lt (by lia)) (fun hb => ?_) (fun hb => ?_)
   · show Res O f N (if q > 0 then kas_desc k (kas_rev p (n - (q + 1)) n) (n + 1) 0 else kas_desc k p (n + 1) 0) P
     have st := hs.step h1 (KeyOrd.kle_of_klt hb)
     split
     · have eq := Fa_mirror_equal hsz he
       exact res_desc k _ _ _ (hp.rev _ _) (by lia) (by lia) (fun i j a b => by rw [eq, eq]; exact st i j a b) (by lia) (h0 _) fun p' m q' a b c => g p' m q' a (by lia) (by lia)
     · exact res_desc k _ _ _ hp (by lia) (by lia) st (by lia) (h0 _) fun p' m q' a b c => g p' m q' a (by lia) (by lia)
   · refine res_ask (hp.lt (by lia)) (hp.lt (by lia)) (fun hl => ?_) (fun hl => ?_)
     · exact g p n q hp (Nat.le_refl n) (by lia) hs hq he
     · have hx : Fa f p n = Fa f p (n - 1) := KeyOrd.kle_antisymm hl hb
       refine res_desc k _ _ _ hp (by lia) (by lia) (hs.step h1 (by rw [hx]; exact KeyOrd.kle_refl _)) (by lia) (fun i a b => ?_) fun p' m q' a b c => g p' m q' a (by lia) (by lia)
       rw [show n + 1 - 1 = n by lia]
       by_cases hi : i = n
       · rw [hi]
       · rw [hx]; exact he i (by lia) (by lia)
abbrev Run (f : Nat → O.α) (N nrem : Nat) (r : Nat × Array Nat) : Prop := PB N r.2 ∧ 1 ≤ r.1 ∧ r.1 ≤ nrem ∧ STo f r.2 r.1
theorem res_tail3 {n nrem : Nat} (hp : PB N p) (hn : nrem ≤ N) (h1 : 1 ≤ n) (hnn : n ≤ nrem) (hs : NTo f p n) : Res O f N (kas_tail3 n nrem p) (Run f N nrem) := by
 have hsz : n ≤ p.size := by rw [hp.size]; lia
 refine res_bind (res_asc (hp.rev 0 n) _ _ h1 (by lia) (fun i j hij hj => ?_) fun m a b c d => ⟨hp.rev 0 n, by show 1 ≤ m; lia, by show m ≤ nrem; lia, c⟩)
 rw [Fa_mirror hsz, Fa_mirror hsz, if_pos (by lia), if_pos (by lia)]
 exact hs _ _ (by omega) (by omega)
theorem res_descPart {n nrem : Nat} (hp : PB N p) (hn : nrem ≤ N) (hnn : n + 1 ≤ nrem) (hs : NTo f p (n + 1)) : Res O f N (kas_descPart n nrem p) (Run f N nrem) := by
 have h0 : ∀ i, n + 1 - (0 + 1) ≤ i → i < n + 1 → Fa f p i = Fa f p (n + 1 - 1) := fun i a b => by
   have : i = n := by lia
   rw [this]; rfl
 refine res_bind (res_desc (nrem - (n + 1)) p (n + 1) 0 hp (by lia) (by lia) hs (by lia) h0 fun p' m q' a b c d e g => ?_)
 show Res O f N (if q' > 0 then kas_tail3 m nrem (kas_rev p' (m - (q' + 1)) m) else kas_tail3 m nrem p') _
 have hsz : m ≤ p'.size := by rw [a.size]; lia
 split
 · have eq := Fa_mirror_equal hsz g
   exact res_tail3 (a.rev _ _) hn (by lia) (by lia) fun i j x y => by rw [eq, eq]; exact d i j x y
 · exact res_tail3 a hn (by lia) (by lia) d
theorem res_count {nrem : Nat} (hp : PB N p) (hn : nrem ≤ N) (h1 : 1 ≤ nrem) : Res O f N (kas_count nrem p) (Run f N nrem) := by
 refine res_bind (res_asc hp _ _ (Nat.le_refl 1) (by lia) STo.one fun n a b c d => ?_)
 have hsz : n ≤ p.size := by rw [hp.size]; lia
 split
 · exact ⟨hp, a, by show n ≤ nrem; lia, c⟩
 · rename_i hne
   have hne' : n ≠ nrem := by simpa using hne
   have hlt : O.klt (Fa f p n) (Fa f p (n - 1)) := d.resolve_left (by lia)
   split
   · rename_i h2
     refine res_ask (hp.lt (by lia)) (hp.lt (by lia)) (fun hb => ?_) (fun hb => ?_)
     · exact ⟨hp, a, by show n ≤ nrem; lia, c⟩
     · have all : ∀ i, i < n → Fa f p i = Fa f p 0 := fun i hi => KeyOrd.kle_antisymm (KeyOrd.kle_trans (c i (n - 1) (by lia) (by lia)) hb) (c 0 i (by lia) hi)
       have eq := Fa_mirror_equal (f := f) (i := 0) hsz fun k _ hk => by rw [all k hk, all (n - 1) (by lia)]
       refine res_descPart (hp.rev 0 n) hn (by lia) fun i j hij hj => ?_
       rw [eq, eq]
       refine NTo.step a (fun i j hij hj => ?_) (KeyOrd.kle_of_klt hlt) i j hij hj
       rw [all i (by lia), all j hj]; exact KeyOrd.kle_refl _
   · have hn1 : n = 1 := by lia
     subst hn1
     exact res_descPart hp hn (by lia) (NTo.one.step (Nat.le_refl 1) (KeyOrd.kle_of_klt hlt))
theorem res_place (hp : PB N p) {k : Nat} (hk : k < N) (hs : STo f p k) {P : Nat → Prop} : ∀ (d l r : Nat), l ≤ r → r ≤ k → r - l ≤ d → (∀ i, i < l → O.kle (Fa f p i) (Fa f p k)) → (∀ i, r ≤ i → i < k → O.klt (Fa f p k) (Fa f p i)) →
   (∀ l, l ≤ k → (∀ i, i < l → O.kle (Fa f p i) (Fa f p k)) → (∀ i, l ≤ i → i < k → O.klt (Fa f p k) (Fa f p i)) → P l) → Res O f N (kas_place p k d l r) P
 | 0, l, r, h1, h2, h3, h4, h5, q => q l (by lia) h4 fun i a b => h5 i (by lia) b
 | d + 1, l, r, h1, h2, h3, h4, h5, q => by
   unfold kas_place
   split
   · exact q l (by lia) h4 fun i a b => h5 i (by lia) b
   · refine res_ask (hp.lt (by omega)) (hp.lt (by lia)) (fun hb => ?_) (fun hb => ?_)
     · exact res_place hp hk hs d l ((l + r) / 2) (by lia) (by lia) (by omega) h4 (fun i a b => KeyOrd.klt_of_klt_of_kle hb (hs _ _ a b)) q
     · exact res_place hp hk hs d ((l + r) / 2 + 1) r (by lia) h2 (by omega) (fun i a => KeyOrd.kle_trans (hs i ((l + r) / 2) (by lia) (by lia)) hb) h5 q
theorem res_bin : ∀ (d : Nat) (p : Array Nat) (k : Nat), PB N p → k + d ≤ N → STo f p k → Res O f N (kas_bin d p k) (fun p' => PB N p' ∧ STo f p' (k + d))
 | 0, p, k, hp, hk, hs => ⟨hp, hs⟩
 | d + 1, p, k, hp, hk, hs => by
   refine res_bind (res_place hp (by lia) hs k 0 k (by lia) (Nat.le_refl k) (by lia) (fun i h => by lia) (fun i a b => by lia) fun l h1 h2 h3 => ?_)
   have hsz : k < p.size := by rw [hp.size]; lia
   refine res_mono (fun p' h => ⟨h.1, by rw [show k + (d + 1) = k + 1 + d by lia]; exact h.2⟩) (res_bin d (bubble p k (k - l)) (k + 1) ((bubble_perm _ _ _).trans hp) (by lia) fun i j hij hj => ?_)
   rw [Fa_bubble hsz (by lia), Fa_bubble hsz (by lia)]
   rw [show k - (k - l) = l by lia]
   by_cases hi1 : i = l
   · rw [if_pos hi1]
     by_cases hj1 : j = l
     · rw [if_pos hj1]; exact KeyOrd.kle_refl _
     · rw [if_neg hj1, if_pos (by lia)]
       exact KeyOrd.kle_of_klt (h3 (j - 1) (by lia) (by lia))
   · rw [if_neg hi1]
     by_cases hi2 : l < i ∧ i ≤ k
     · rw [if_pos hi2, if_neg (by lia), if_pos (by lia)]
       exact hs (i - 1) (j - 1) (by omega) (by omega)
     · rw [if_neg hi2]
       by_cases hj1 : j = l
       · rw [if_pos hj1]; exact h2 i (by lia)
       · rw [if_neg hj1]
         by_cases hj2 : l < j ∧ j ≤ k
         · rw [if_pos hj2]
           exact hs i (j - 1) (by lia) (by omega)
         · rw [if_neg hj2]; exact hs i j hij (by lia)
theorem res_sort (h1 : 1 ≤ N) : Res O f N (kas_sort N) (fun p => PB N p ∧ STo f p N) := by
 refine res_bind (res_mono (fun r h => ?_) (res_count (Array.Perm.refl _) (Nat.le_refl N) h1))
 obtain ⟨a, b, c, d⟩ := h
 split
 · rename_i hlt
   have e : max r.1 1 = r.1 := by lia
   rw [e]
   exact res_mono (fun p' h => ⟨h.1, by rw [show N = r.1 + (N - r.1) by lia]; exact h.2⟩) (res_bin _ _ _ a (by lia) d)
 · have e : r.1 = N := by lia
   exact ⟨a, by rw [← e]; exact d⟩
end
end
section
noncomputable def pairD (x : Int × Int) : D := .tup [.int x.1, .int x.2]
noncomputable def ltP (a b : Int × Int) : Bool := decide (a.1 < b.1) || (a.1 == b.1 && decide (a.2 < b.2))
theorem ltP_iff {a b : Int × Int} : ltP a b = true ↔ a.1 < b.1 ∨ (a.1 = b.1 ∧ a.2 < b.2) := by simp [ltP]
theorem ltP_not {a b : Int × Int} : ltP a b = false ↔ b.1 < a.1 ∨ (b.1 = a.1 ∧ b.2 ≤ a.2) := by
 rw [← Bool.not_eq_true, ltP_iff]; omega
noncomputable def ordP : KeyOrd where
 α := Int × Int
 blt := ltP
 irrefl := fun a => ltP_not.mpr (.inr ⟨rfl, Int.le_refl _⟩)
 trans := fun a b c h1 h2 => by rw [ltP_iff] at h1 h2 ⊢; lia
 negTrans := fun a b c h => by rw [ltP_iff] at h; rw [ltP_iff, ltP_iff]; lia
 total := fun a b h1 h2 => by rw [ltP_not] at h1 h2; exact Prod.ext (by lia) (by lia)
abbrev leP (a b : Int × Int) : Prop := ltP b a = false
section
variable {prog : Program} {w : World} {hB : Heap} {A : Around} {E : Value → Shared → Prop} {s : Shared}
theorem reps_pair {O : List Addr} {h : Heap} {v : Value} {x : Int × Int} (r : Rep O h v (pairD x)) : ∃ a o n t u, v = .ref a ∧ h.get? a = some o ∧ o.cls = .type "tuple" ∧ o.data = .seq #[.int x.1 t, .int x.2 u] n := by
 obtain ⟨a, vs, rfl, _, ⟨o, ho, hc, n, hd⟩, hr⟩ := r.tupE
 obtain ⟨v, u, rfl, r1, r2⟩ := hr.twoE
 obtain ⟨t, rfl⟩ := r1.intE
 obtain ⟨t', rfl⟩ := r2.intE
 exact ⟨a, o, n, t, t', rfl, ho, hc, hd⟩
theorem lt_pair {O : List Addr} {v u : Value} {x y : Int × Int} {C : Bool → Shared → Prop} (r : Rep O s.heap v (pairD x)) (q : Rep O s.heap u (pairD y)) (h : C (ltP x y) s) : wpAny (model prog w) A (keyLt' (tuples' true) v u) C E s := by
 obtain ⟨a, o, n, t1, t2, rfl, ho, hc, hd⟩ := reps_pair r
 obtain ⟨b, o', n', u1, u2, rfl, ho', hc', hd'⟩ := reps_pair q
 refine kat_lt ho hd ho' hd' (kat_cons (wpAny_eqBool_int ?_))
 refine kat_go (fun e => kat_yes (kat_cons (wpAny_eqBool_int (kat_go (fun e2 => kat_yes (kat_nil ?_)) fun e2 => kat_no (kat_one _ _ (lt_int ?_)))))) fun e => kat_no (oneLt_int ?_)
 · have e' : x.1 = y.1 := by simpa using e
   have e2' : x.2 = y.2 := by simpa using e2
   have : ltP x y = false := ltP_not.mpr (by lia)
   rw [this] at h; exact h
 · have e' : x.1 = y.1 := by simpa using e
   have : ltP x y = decide (x.2 < y.2) := by unfold ltP; rw [e']; simp
   rw [this] at h; exact h
 · have e' : x.1 ≠ y.1 := by simpa using e
   have : ltP x y = decide (x.1 < y.1) := by unfold ltP; simp [e']
   rw [this] at h; exact h
theorem tups_of {O : List Addr} {h : Heap} : ∀ {vs : List Value} {ds : List (Int × Int)}, Reps O h vs (ds.map pairD) → ∃ fs, KatTups h vs fs ∧ fs.length = ds.length ∧ ∀ f ∈ fs, ∃ i t, f = .int i t
 | vs, [], r => ⟨[], by rw [r.nilE]; trivial, rfl, fun f h => by cases h⟩
 | vs, d :: ds, r => by
   obtain ⟨v, ws, rfl, r1, r2⟩ := r.consE
   obtain ⟨fs, k1, k2, k3⟩ := tups_of r2
   obtain ⟨a, o, n, t, u, rfl, ho, hc, hd⟩ := reps_pair r1
   exact ⟨.int d.1 t :: fs, KatTups.cons ho hc hd rfl k1, congrArg Nat.succ k2, fun f hf => (List.mem_cons.mp hf).elim (fun e => ⟨_, _, e⟩) (k3 f)⟩
theorem ds_unique {a b : List (Int × Int)} (hp : a.Perm b) (ha : a.Pairwise leP) (hb : b.Pairwise leP) : a = b :=
 hp.eq_of_pairwise (fun x y _ _ h1 h2 => ordP.total x y h2 h1) ha hb
theorem reps_at {O : List Addr} {h : Heap} {vs : List Value} {ds : List (Int × Int)} (r : Reps O h vs (ds.map pairD)) {i : Nat} (hi : i < ds.length) : Rep O h (vs.getD i Value.none) (pairD (ds.getD i (0, 0))) := by
 have e : (ds.map pairD)[i]? = some (pairD (ds.getD i (0, 0))) := by
   rw [List.getElem?_map, List.getD_eq_getElem?_getD, List.getElem?_eq_getElem hi]; rfl
 obtain ⟨v, e1, e2⟩ := r.get e
 rw [List.getD_eq_getElem?_getD, e1]; exact e2
theorem reps_perm {O : List Addr} {h : Heap} {vs : List Value} {ds : List (Int × Int)} (r : Reps O h vs (ds.map pairD)) : ∀ {l : List Nat}, (∀ i ∈ l, i < ds.length) → Reps O h (l.map fun i => vs.getD i Value.none) ((l.map fun i => ds.getD i (0, 0)).map pairD)
 | [], _ => .nil
 | i :: l, hl => .cons (reps_at r (hl i (.head _))) (reps_perm r fun j hj => hl j (.tail _ hj))
theorem perm_map (ds : List (Int × Int)) {p : Array Nat} (hp : PB ds.length p) : (p.toList.map fun i => ds.getD i (0, 0)).Perm ds := by
 have h1 := (Array.perm_iff_toList_perm.mp hp).map fun i => ds.getD i (0, 0)
 have h2 : (List.range ds.length).map (fun i => ds.getD i (0, 0)) = ds := by
   apply List.ext_getElem?
   intro i
   rw [List.getElem?_map]
   by_cases hi : i < ds.length
   · rw [List.getElem?_range hi, List.getElem?_eq_getElem hi]
     show some (ds.getD i (0, 0)) = _
     rw [List.getD_eq_getElem?_getD, List.getElem?_eq_getElem hi]; rfl
   · rw [List.getElem?_eq_none (by simpa using hi), List.getElem?_eq_none (by lia)]; rfl
 rw [h2] at h1; exact h1
theorem perm_sorted (ds : List (Int × Int)) {p : Array Nat} (hp : PB ds.length p) (hs : STo (O := ordP) (fun i => ds.getD i (0, 0)) p ds.length) : (p.toList.map fun i => ds.getD i (0, 0)).Pairwise leP := by
 rw [List.pairwise_iff_getElem]
 intro i j hi hj hij
 rw [List.length_map, Array.length_toList, hp.size] at hi hj
 have := hs i j (Nat.le_of_lt hij) hj
 unfold Fa at this
 rw [List.getElem_map, List.getElem_map]
 have e : ∀ {k : Nat} (hk : k < ds.length) (hk' : k < p.toList.length), p.getD k 0 = p.toList[k] := fun {k} hk hk' => by
   rw [Array.length_toList] at hk'
   simp [Array.getD, hk']
 rw [e hi (by rw [Array.length_toList, hp.size]; exact hi), e hj (by rw [Array.length_toList, hp.size]; exact hj)] at this
 exact this
theorem fn_sortedP {ds out : List (Int × Int)} (h2 : 2 ≤ ds.length) (h64 : ds.length < 64) (hp : out.Perm ds) (ho : out.Pairwise leP) : FnV prog w hB (.builtin "sorted") [.lst (ds.map pairD)] (.lst (out.map pairD)) 0 := by
 refine fnV_l fun A s O l vs Q E R Ow hl hpl hr q => ?_
 have hlen : vs.length = ds.length := by rw [hr.length, List.length_map]
 refine Calls.call_function_entry kind_sorted plain_sorted entry_sorted (args_sorted1 _) ?_
 unfold Builtin.«sorted»
 refine wpAny_bind (m := checkCount "sorted" 1 1 _) (wpAny_pure ?_)
 have hZ := sizeLine_eq
 refine wpAny_bind (collect_list hpl.isList ?_ (by lia))
 refine wpAny_bind (wpAny_newList ?_ (by lia))
 have hsz : ((s.heap.push (seqObj "list" #[] 0)).update s.heap.objs.size (Obj.mapSeq (· ++ vs.toArray))).objs.size = s.heap.objs.size + 1 := by
   rw [Heap.size_update, size_push']
 have hoL : (((s.heap.push (seqObj "list" #[] 0)).update s.heap.objs.size (Obj.mapSeq (· ++ vs.toArray))).push (seqObj "list" vs.toArray 0)).get? (s.heap.objs.size + 1) = some (seqObj "list" vs.toArray 0) := by
   rw [← hsz]; exact Heap.get?_push_size _ rfl
 have k0 : Ext s.heap (((s.heap.push (seqObj "list" #[] 0)).update s.heap.objs.size (Obj.mapSeq (· ++ vs.toArray))).push (seqObj "list" vs.toArray 0)) := fun b o e => by
   have hlt : b < s.heap.objs.size := Heap.lt_size e
   rw [Heap.get?_push_ne _ _ _ (by rw [hsz]; exact Nat.ne_of_lt (Nat.lt_succ_of_lt hlt)), Heap.get?_update_ne _ _ _ _ (Nat.ne_of_lt hlt), Heap.get?_push_ne _ _ _ (Nat.ne_of_lt hlt)]
   exact e
 show wpAny _ _ _ _ _ { s with heap := ((s.heap.push (seqObj "list" #[] 0)).update s.heap.objs.size (Obj.mapSeq (· ++ vs.toArray))).push (seqObj "list" vs.toArray 0) }
 rw [hsz]
 have hnew : s.heap.objs.size + 1 ∉ O := Ow.fresh (none_of fun o e => absurd (Heap.lt_size e) (Nat.not_lt.mpr (Nat.le_succ _)))
 generalize ((s.heap.push (seqObj "list" #[] 0)).update s.heap.objs.size (Obj.mapSeq (· ++ vs.toArray))).push (seqObj "list" vs.toArray 0) = H at hoL k0 ⊢
 have hne : ∀ b o, s.heap.get? b = some o → b ≠ s.heap.objs.size + 1 := fun b o e => Nat.ne_of_lt (Nat.lt_succ_of_lt (Heap.lt_size e))
 generalize s.heap.objs.size + 1 = D at hoL hne hnew ⊢
 have hr0 : Reps O H vs (ds.map pairD) := hr.ext k0
 refine wpAny_bind (wpAny_holding (wpAny_call_entry slot_list_sort ⟨_, hoL, rfl⟩ entry_list_sort ?_ (args_list_sort _)))
 rw [list_sort_plain]
 have ha : D < H.objs.size := Heap.lt_size hoL
 refine wpAny_bind (listItems_at (s := { s with heap := H }) hoL rfl ?_)
 refine wpAny_bind (listUpdate_at (s := { s with heap := H }) hoL rfl ?_ (by rw [List.size_toArray]; lia) (Nat.zero_le _))
 obtain ⟨e1, ho1⟩ : ∃ e1, (H.update D (Obj.mapSeq fun _ => (#[] : Array Value))).get? D = some (seqObj "list" #[] e1) := ⟨_, get?_update_seq hoL (fun _ => #[])⟩
 refine wpAny_bind (seqEpoch_at (s := { s with heap := H.update D (Obj.mapSeq fun _ => (#[] : Array Value)) }) ho1 rfl ?_)
 refine wpAny_bind (wpAny_newTuple ?_ (by show vs.length ≤ _; lia))
 refine wpAny_bind (wpAny_newList ?_ (Nat.zero_le _))
 refine wpAny_holding ?_
 have ho6 : (((H.update D (Obj.mapSeq fun _ => (#[] : Array Value))).push (seqObj "tuple" vs.toArray 0)).push (seqObj "list" #[] 0)).get? D = some (seqObj "list" #[] e1) := Heap.get?_push_of_some _ (Heap.get?_push_of_some _ ho1)
 show wpAny (model prog w) _ _ _ _ { s with heap := ((H.update D (Obj.mapSeq fun _ => (#[] : Array Value))).push (seqObj "tuple" vs.toArray 0)).push (seqObj "list" #[] 0) }
 have k6 : ∀ b o, b ≠ D → H.get? b = some o → (((H.update D (Obj.mapSeq fun _ => (#[] : Array Value))).push (seqObj "tuple" vs.toArray 0)).push (seqObj "list" #[] 0)).get? b = some o := fun b o hb e =>
   Heap.get?_push_of_some _ (Heap.get?_push_of_some _ (by rw [Heap.get?_update_ne _ _ _ _ hb]; exact e))
 generalize ((H.update D (Obj.mapSeq fun _ => (#[] : Array Value))).push (seqObj "tuple" vs.toArray 0)).push (seqObj "list" #[] 0) = H6 at ho6 k6 ⊢
 dsimp only
 have hn2 : ¬ vs.toArray.size < 2 := by rw [List.size_toArray]; lia
 rw [if_neg hn2, if_neg hn2]
 have hr6 : Reps O H6 vs (ds.map pairD) := hr.move (fun _ h => .inl h) fun b o _ e => k6 b o (hne b o e) (k0 b o e)
 obtain ⟨fs, t1, t2, t3⟩ := tups_of hr6
 refine wpAny_bind (kat_kind (s := { s with heap := H6 }) (T := .type "int") t1 (by lia) (fun v hv => ?_) rfl ?_)
 · obtain ⟨i, t, rfl⟩ := t3 v hv
   exact Looks.now
 have hS := res_sort (O := ordP) (f := fun i => ds.getD i (0, 0)) (N := ds.length) (by lia)
 rw [← hlen] at hS
 refine wpAny_bind (wpAny_mono (kat_run (s := { s with heap := H6 }) (κ := tuples' true) (ks := vs) (vs := vs) (Q := fun st' s' => s' = { s with heap := H6 } ∧ failedOf st' = none ∧ ∃ p : Array Nat, PB ds.length p ∧ STo (O := ordP) (fun i => ds.getD i (0, 0)) p ds.length ∧ (arrOf st').map (·.2) = List.toArray (p.toList.map fun i => vs.getD i Value.none))
   (G := fun p s' => s' = { s with heap := H6 } ∧ PB ds.length p ∧ STo (O := ordP) (fun i => ds.getD i (0, 0)) p ds.length)
   rfl (by lia) (by lia) (fun p st' s' a1 a2 a3 a4 => ⟨a4.1, a3, p, a4.2.1, a4.2.2, kat_snds rfl a2⟩) ?_) ?_ fun _ _ e => e)
 · refine res_wp (N := vs.length) (fun i j C hi hj hC => ?_) (fun p hp => ⟨rfl, by rw [← hlen]; exact hp.1, by rw [← hlen]; exact hp.2⟩) hS
   exact lt_pair (s := { s with heap := H6 }) (reps_at hr6 (by lia)) (reps_at hr6 (by lia)) hC
 · rintro ⟨⟨⟩, st'⟩ s' ⟨rfl, hf, p, b1, b2, b3⟩
   dsimp only
   have hm := perm_map ds b1
   have hout : (p.toList.map fun i => ds.getD i (0, 0)) = out := ds_unique (hm.trans hp.symm) (perm_sorted ds b1 b2) ho
   refine wpAny_bind (seqEpoch_at (s := { s with heap := H6 }) ho6 rfl ?_)
   rw [b3]
   have hol : (p.toList.map fun i => vs.getD i Value.none).length = ds.length := by rw [List.length_map, Array.length_toList, b1.size]
   refine wpAny_bind (listUpdate_at (s := { s with heap := H6 }) ho6 rfl ?_ (Nat.zero_le _) (by rw [List.size_toArray]; lia))
   rw [hf]
   simp only [bne_self_eq_false, Bool.false_eq_true, if_false]
   refine wpAny_pure ⟨_, rfl, wpAny_pure ⟨_, rfl, ?_⟩⟩
   have hx : Ext s.heap (H6.update D (Obj.mapSeq fun _ => List.toArray (p.toList.map fun i => vs.getD i Value.none))) := fun b o e => by
     rw [Heap.get?_update_ne _ _ _ _ (hne b o e)]; exact k6 b o (hne b o e) (k0 b o e)
   refine q (.ref D) _ s.toks hx (.lst hnew ⟨_, get?_update_seq ho6 fun _ => List.toArray (p.toList.map fun i => vs.getD i Value.none)⟩ ?_)
   rw [← hout]
   exact reps_perm (hr.ext hx) fun i hi => by
     obtain ⟨k, hk, rfl⟩ := List.getElem_of_mem hi
     have := b1.lt (k := k) (by rw [Array.length_toList, b1.size] at hk; exact hk)
     rw [Array.length_toList] at hk
     simpa [Array.getD, hk] using this
end
end
section
section
variable {prog : Program} {w : World} {hB : Heap} {mg mb : Str → Option Value} {C : Cfg} {n N : Nat} {σ : Loc} {m : Str → Option Value} {O : List Addr} {r : Bool}
theorem ints_of {O : List Addr} {h : Heap} {vs : List Value} : ∀ {ns : List Int}, Reps O h vs (ns.map D.int) → IntsAre vs ns := fun {ns} r => by
 induction ns generalizing vs with
 | nil => rw [r.nilE]; exact .nil
 | cons a ns ih =>
   obtain ⟨v, ws, rfl, r1, r2⟩ := r.consE
   obtain ⟨t, rfl⟩ := r1.intE
   exact .cons a t (ih r2)
theorem fn_max {ns : List Int} {M : Int} (hM : M ∈ ns) (hle : ∀ a ∈ ns, a ≤ M) : FnV prog w hB (.builtin "max") [.lst (ns.map .int)] (.int M) 0 := by
 refine fnV_l fun A s O l vs Q E R Ow hl hpl hr q => ?_
 have hi := ints_of hr
 obtain ⟨xs, e⟩ := hi.allInts.items
 have hns : ns = xs.toList.map (·.1) := by
   rw [← hi.numsOf, ← nums_intItems, ← e]
 have hsz : 0 < xs.size := by
   have h3 := List.length_pos_of_mem hM
   rw [hns, List.length_map, Array.length_toList] at h3; exact h3
 refine max_intList R.handled (by rw [← e]; exact hpl.isList) hsz fun v h' tk hv hk => ?_
 obtain ⟨t, rfl⟩ := intItems_at hv
 obtain ⟨h1, h2⟩ := argBest_gt (numAt xs) (xs.size - 1)
 have e1 : numAt xs (argBest (fun i j => decide (numAt xs i > numAt xs j)) (xs.size - 1)) = M := by
   refine Int.le_antisymm (hle _ ?_) ?_
   · rw [hns, numAt_eq]; exact getD_mem (by rw [List.length_map, Array.length_toList]; omega)
   · rw [hns] at hM
     obtain ⟨j, hj, rfl⟩ := mem_getD hM
     rw [List.length_map, Array.length_toList] at hj
     rw [← numAt_eq]; exact h2 j (by lia)
 rw [e1]
 exact q _ _ _ hk .int
theorem ev_replaceB (K : Ok prog w hB mg mb C n) {pl : Env → Sem Bool} {o : Expr} {ap pos p1 p2 p3 p4 : Pos} {k1 k2} {A B y : Str} {l a b c : List Nat} (h0 : Ev prog w C r σ o (.str l)) (ha : A = S8 a) (hb : B = S8 b)
   (hy : σ.lookup y = some (.v (.str c))) (hly : C.loc y = true) (hane : a ≠ []) (hcne : c ≠ []) (hab : a ++ c ≠ b) (hac : a.length + c.length ≤ sizeLine)
   (hsz : l.length + (l.length + 1) * b.length ≤ 16777216) (hd : (y == ("__debug__" : Str)) = false := by decide)
   (hs : ∀ env, starEach [.BinOp (.Constant (.str A) k1 p1) .Add (.Name y p2) p3, .Constant (.str B) k2 p4] env = (false, eval (.BinOp (.Constant (.str A) k1 p1) .Add (.Name y p2) p3) env) :: starEach [.Constant (.str B) k2 p4] env := by intro _; rfl)
   (hs2 : ∀ env, starEach [.Constant (.str B) k2 p4] env = (false, eval (.Constant (.str B) k2 p4) env) :: starEach [] env := by intro _; rfl)
   (hm : ∀ env, eval (.Call (.Attribute o "replace" ap) [.BinOp (.Constant (.str A) k1 p1) .Add (.Name y p2) p3, .Constant (.str B) k2 p4] [] pos) env = (do let ov ← eval o env; standAt ap.atName; let (f, first) ← holding [ov] (getMethod ov "replace" (pl env)); callWith pos f first (backTo pos (starEach [.BinOp (.Constant (.str A) k1 p1) .Add (.Name y p2) p3, .Constant (.str B) k2 p4] env)) []) := by intro _; rfl) :
   EvK prog w C N r σ (.Call (.Attribute o "replace" ap) [.BinOp (.Constant (.str A) k1 p1) .Add (.Name y p2) p3, .Constant (.str B) k2 p4] [] pos) (.str (replL l (a ++ c) b)) := fun s m O Q E hn S q => by
 subst ha hb
 refine MethodCall_ (pl := pl C.env) (evK_of h0 s m O _ E hn S fun v h₁ t₁ ht₁ x₁ rv => ?_) (hm _)
 have S₁ := S.ext' K x₁
 cases rv with | @str _ t =>
 refine getMethod_builtin (typeIs_str _ _ _) F.plainAttrs_str F.slot_str_replace F.type_str_replace (fun _ e => nomatch e) ?_
 obtain ⟨v', hv', rv'⟩ := S₁.ents y _ hy
 obtain ⟨u, rfl⟩ := Rep.strE rv'
 refine callWith_method1 (args_cons (wpAny_BinOp (wpAny_Constant_str (wpAny_Name (K.H.load _ m y _ _ _ S₁.fr hly hv' (PySem.P.add_str ?_)) hd))) (hs _)) (hs _) rfl
 have e1 : ((S8 a).length == 0) = false := by rw [S8_len]; exact beq_eq_false_iff_ne.mpr fun h => hane (List.length_eq_zero_iff.mp h)
 have e2 : ((⟨c.toArray⟩ : PySem.Str).length == 0) = false := beq_eq_false_iff_ne.mpr fun h => hcne (List.length_eq_zero_iff.mp (by simpa [PySem.Str.length] using h))
 rw [e1, e2]
 show (Made.str (S8 a ++ ⟨c.toArray⟩)).post _ _
 have e3 : (S8 a ++ (⟨c.toArray⟩ : PySem.Str)) = S8 (a ++ c) := str_append a c
 rw [e3]
 refine ⟨by rw [S8_len, List.length_append]; exact hac, ?_⟩
 refine args_cons (wpAny_Constant_str (args_nil ?_)) (hs2 _)
 refine wpAny_with_toks (n := N) (show N ≤ t₁ + 1 + 1 + 1 by lia) (SC.replace (x := S8 l) (show t₁ + 1 ≠ 0 by lia) (show t₁ + 1 + 1 ≠ 0 by lia) (show t₁ + 1 ≠ t₁ + 1 + 1 by lia) (by rw [str_beq]; exact beq_eq_false_iff_ne.mpr hab) (by rw [S8_len, S8_len]; exact hsz) fun t' k hk => ?_)
 rw [replace_list _ _ _ (by simp [hane])]
 exact q _ _ k hk x₁ .str
end
end
section
noncomputable def drawT2 : List (List Nat) := [[65], [61], [10], [120, 57], [45], [32, 46], [0], [127]]
noncomputable def draw2 : List Int → List Nat × List (Int × Int)
 | [] => ([], [])
 | n :: ns =>
   let r := draw2 ns
   if n.fmod 4 = 0 then (drawT2.getD ((n.fdiv 4).fmod 8).toNat [] ++ r.1, r.2)
   else if n.fmod 4 = 1 then (r.1, (128 + (n.fdiv 4).fmod 128, (n.fdiv 4).fdiv 128) :: r.2)
   else (r.1, (256 + (n.fdiv 4).fmod 5000, (n.fdiv 4).fdiv 5000) :: r.2)
theorem draw2_append : ∀ a b : List Int, draw2 (a ++ b) = ((draw2 a).1 ++ (draw2 b).1, (draw2 a).2 ++ (draw2 b).2)
 | [], b => rfl
 | n :: a, b => by
   rw [List.cons_append, draw2, draw2_append a b, draw2]
   split
   · simp
   · split <;> rfl
theorem drawT2_len (k : Nat) : (drawT2.getD k []).length ≤ 2 := by
 by_cases h : k < 8
 · exact (show ∀ k < 8, (drawT2.getD k []).length ≤ 2 by decide) k h
 · rw [List.getD_eq_getElem?_getD, List.getElem?_eq_none (by show 8 ≤ k; lia)]; exact Nat.zero_le _
theorem draw2_len : ∀ a : List Int, (draw2 a).1.length + 2 * (draw2 a).2.length ≤ 2 * a.length
 | [] => Nat.le_refl _
 | n :: a => by
   have := draw2_len a
   have h2 := drawT2_len ((n.fdiv 4).fmod 8).toNat
   rw [draw2]
   split
   · simp only [List.length_append, List.length_cons]; lia
   · split <;> simp only [List.length_cons] <;> lia
theorem fmod_lt {a : Int} {b : Nat} (hb : 0 < b) : 0 ≤ a.fmod b ∧ (a.fmod b).toNat < b := by
 have h1 := Int.fmod_nonneg_of_pos a (b := (b : Int)) (by lia)
 have h2 := Int.fmod_lt_of_pos a (b := (b : Int)) (by lia)
 exact ⟨h1, by omega⟩
section
variable {prog : Program} {w : World} {hB : Heap} {mg mb : Str → Option Value}
theorem fn_drawn2 (B : Base hB mg mb) (H : HasFn hB mg p1 9) (hb1 : mg "sorted" = none) (ns : List Int) (hlen : ns.length ≤ 30) {plain : List Nat} {out : List (Int × Int)} (hpl : plain = (draw2 ns).1 ++ [46]) (hds : 2 ≤ (draw2 ns).2.length) (hp : out.Perm (draw2 ns).2) (ho : out.Pairwise leP) :
   Fn prog w hB mg "_law_drawn" [.lst (ns.map .int)] (.tup [.str plain, .lst (out.map pairD)]) 1 := by
 subst hpl
 refine fn_rec B H ["numbers"] rfl rfl (fun pm code doc => vals1 fun _ => rfl) (fa rfl fa0) fun pm code doc fa A L h₀ O₀ K => ?_
 conv => arg 5; whnf
 have hZ : sizeLine = 16777216 := sizeLine_eq
 refine wp_assign K (d := .str []) (ev_str rfl) ?_ rfl rfl
 refine wp_newlist K ?_ rfl rfl
 refine wp_for K (f := D.int) (xs := ns) (fun pre => [("strange", .own ((draw2 pre).2.map pairD)), ("plain", .v (.str (draw2 pre).1))]) (fun pre x => [("n", .v (.int x)), ("strange", .own ((draw2 pre).2.map pairD)), ("plain", .v (.str (draw2 pre).1))])
   (it_lst K (ev_name K rfl rfl)) (.cons rfl (.cons rfl .nil)) (fun pre x post h => as_name K rfl rfl) (fun pre x post hsplit => ?_) ?_
 · have hpl : pre.length < ns.length := by rw [hsplit]; simp
   have hdl := draw2_len pre
   have hap := draw2_append pre [x]
   have h1 : draw2 [x] = (if x.fmod 4 = 0 then (drawT2.getD ((x.fdiv 4).fmod 8).toNat [], []) else if x.fmod 4 = 1 then ([], [(128 + (x.fdiv 4).fmod 128, (x.fdiv 4).fdiv 128)]) else ([], [(256 + (x.fdiv 4).fmod 5000, (x.fdiv 4).fdiv 5000)])) := by
     rw [draw2, draw2, List.append_nil]
   rw [hap, h1]
   refine wp_swap K (names := ["r", "q"]) (ds := [.int (x.fmod 4), .int (x.fdiv 4)]) (ev_tup K (evA_cons K (by walk_at "ev" <;> decide) (evA_cons K (by walk_at "ev" <;> decide) evA_nil)) (by show 2 ≤ sizeLine; decide)) (asB_cons K rfl rfl (asB_cons K rfl rfl asB_nil)) ?_
   refine wp_if K (c := (x.fmod 4 == 0)) (by walk_at "ev") (fun h => ?_) (fun h => ?_)
   · have h' := beq_iff_eq.mp h
     rw [if_pos h']
     have h8 := fmod_lt (a := x.fdiv 4) (b := 8) (by decide)
     have h80 : 0 ≤ (x.fdiv 4).fmod 8 := h8.1
     have h81 : ((x.fdiv 4).fmod 8).toNat < 8 := h8.2
     have hat : (drawT2.map D.str)[((x.fdiv 4).fmod 8).toNat]? = some (.str (drawT2.getD ((x.fdiv 4).fmod 8).toNat [])) := by
       rw [List.getElem?_map, List.getD_eq_getElem?_getD, List.getElem?_eq_getElem (show _ < drawT2.length from h81)]; rfl
     have h2 := drawT2_len ((x.fdiv 4).fmod 8).toNat
     refine wp_aug K rfl (d := .str ((draw2 pre).1 ++ drawT2.getD ((x.fdiv 4).fmod 8).toNat [])) (ev_sub K (ev_lst K (evA_cons K (ev_str (l := [65]) rfl) (evA_cons K (ev_str (l := [61]) rfl) (evA_cons K (ev_str (l := [10]) rfl) (evA_cons K (ev_str (l := [120, 57]) rfl) (evA_cons K (ev_str (l := [45]) rfl) (evA_cons K (ev_str (l := [32, 46]) rfl) (evA_cons K (ev_str (l := [0]) rfl) (evA_cons K (ev_str (l := [127]) rfl) evA_nil)))))))) (by show 8 ≤ sizeLine; decide)) (by walk_at "ev" <;> decide) (op_item_lst (by omega) (by lia) hat)) (op_icat _ _ (by lia)) (wp_nil (wp_nil ?_)) rfl rfl
     show Sub _ _
     refine .cons ?_ (.cons rfl .nil)
     show some (Ent.own _) = _
     simp
   · have h' := beq_eq_false_iff_ne.mp h
     rw [if_neg h']
     refine wp_if K (c := (x.fmod 4 == 1)) (by walk_at "ev") (fun h2 => ?_) (fun h2 => ?_)
     · have h2' := beq_iff_eq.mp h2
       rw [if_pos h2']
       refine wp_append K rfl rfl (ev_tup K (evA_cons K (by walk_at "ev" <;> decide) (evA_cons K (by walk_at "ev" <;> decide) evA_nil)) (by show 2 ≤ sizeLine; decide)) (by rw [List.length_map]; lia) (wp_nil (wp_nil (wp_nil ?_)))
       show Sub _ _
       refine .cons ?_ (.cons ?_ .nil)
       · show some (Ent.own _) = _
         simp [pairD]
       · show some (Ent.v (.str (draw2 pre).1)) = _
         simp
     · have h2' := beq_eq_false_iff_ne.mp h2
       rw [if_neg h2']
       refine wp_append K rfl rfl (ev_tup K (evA_cons K (by walk_at "ev" <;> decide) (evA_cons K (by walk_at "ev" <;> decide) evA_nil)) (by show 2 ≤ sizeLine; decide)) (by rw [List.length_map]; lia) (wp_nil (wp_nil (wp_nil ?_)))
       show Sub _ _
       refine .cons ?_ (.cons ?_ .nil)
       · show some (Ent.own _) = _
         simp [pairD]
       · show some (Ent.v (.str (draw2 pre).1)) = _
         simp
 · have hdl := draw2_len ns
   refine wp_ret K (ev_tup K (evA_cons K (ev_bin K (ev_name K rfl rfl) (ev_str (l := [46]) rfl) (op_cat _ _ (by simp only [List.length_singleton]; lia))) (evA_cons K (ev_callF K rfl hb1 (by decide +kernel) (evA_cons K (ev_own K rfl rfl) evA_nil) (fn_sortedP hds (by lia) hp ho)) evA_nil)) (by show 2 ≤ sizeLine; decide)) rfl
noncomputable def wrF (eol : List Nat) (c : Nat) : List Nat := if c = 10 then eol else if 32 ≤ c ∧ c ≤ 126 ∧ c ≠ 61 then [c] else escU c
theorem hex_item (d : Nat) (h : d < 16) : ([48, 49, 50, 51, 52, 53, 54, 55, 56, 57, 65, 66, 67, 68, 69, 70] : List Nat)[d]? = some (hexU d) :=
 (show ∀ d < 16, ([48, 49, 50, 51, 52, 53, 54, 55, 56, 57, 65, 66, 67, 68, 69, 70] : List Nat)[d]? = some (hexU d) by decide) d h
theorem fn_written (B : Base hB mg mb) (H : HasFn hB mg p1 10) (hb1 : mg "ord" = none) (eol : List Nat) (c : Nat) (hc : c < 256) : Fn prog w hB mg "_law_written" [.str [c], .str eol] (.str (wrF eol c)) 1 := by
 refine fn_rec B H ["c_v", "eol"] rfl rfl (fun pm code doc => vals2 fun _ _ => rfl) (fa rfl (fa rfl fa0)) fun pm code doc fa A L h₀ O₀ K => ?_
 conv => arg 5; whnf
 have hord : ∀ {r : Bool} {fp np cp : Pos}, Ev prog w (cfgAt p1 10 pm code doc fa A L h₀ O₀) r [("eol", .v (.str eol)), ("c_v", .v (.str [c]))] (.Call (.Name "ord" fp) [.Name "c_v" np] [] cp) (.int c) := ev_callF K rfl hb1 (by decide +kernel) (evA_cons K (ev_name K rfl rfl) evA_nil) (fn_ord c)
 refine wp_if K (c := ([c] == [10])) (evT_cmp K (ev_name K rfl rfl) (ev_str rfl) (op_seq _ _)) (fun h => ?_) (fun h => wp_nil ?_)
 · have : c = 10 := by simpa using h
   refine wp_ret K (ev_name K rfl rfl) ?_
   show _ = _
   unfold wrF; rw [if_pos this]
 have h10 : c ≠ 10 := by simpa using h
 refine wp_if K (c := ((decide (32 ≤ c) && decide (c ≤ 126)) && (([c] != [61]) && true))) (evT_bool (evAnd_cons K (evT_chain K (ev_str rfl) (ev_name K rfl rfl) (ev_str rfl) (op_sle1 _ _) (op_sle1 _ _)) fun _ => evAnd_cons K (evT_cmp K (ev_name K rfl rfl) (ev_str rfl) (op_sne _ _)) fun _ => evAnd_nil)) (fun h => ?_) (fun h => wp_nil ?_)
 · refine wp_ret K (ev_name K rfl rfl) ?_
   show _ = _
   have : 32 ≤ c ∧ c ≤ 126 ∧ c ≠ 61 := by simpa [and_assoc] using h
   unfold wrF; rw [if_neg h10, if_pos this]
 · refine wp_ret K (ev_bin K (ev_bin K (ev_str (l := [61]) rfl) (ev_sub K (ev_str (l := [48, 49, 50, 51, 52, 53, 54, 55, 56, 57, 65, 66, 67, 68, 69, 70]) rfl) (ev_eqI (b := ((c / 16 : Nat) : Int)) (ev_bin K hord (ev_int 16) (op_div _ _ (by decide) (by decide))) (fdivN c 16)) (op_item_str (j := c / 16) (by lia) (by lia) (by rw [seqIndex_of (by lia) (by show _ < ((16 : Nat) : Int); lia), Int.toNat_natCast]) (hex_item _ (by lia)))) (op_cat _ _ (by show 2 ≤ sizeLine; decide)))
     (ev_sub K (ev_str (l := [48, 49, 50, 51, 52, 53, 54, 55, 56, 57, 65, 66, 67, 68, 69, 70]) rfl) (ev_eqI (b := ((c % 16 : Nat) : Int)) (ev_bin K hord (ev_int 16) (op_mod _ _ (by decide))) (fmodN c 16)) (op_item_str (j := c % 16) (by lia) (by lia) (by rw [seqIndex_of (by lia) (by show _ < ((16 : Nat) : Int); lia), Int.toNat_natCast]) (hex_item _ (by lia)))) (op_cat _ _ (by show 3 ≤ sizeLine; decide))) ?_
   show _ = _
   have : ¬ (32 ≤ c ∧ c ≤ 126 ∧ c ≠ 61) := by
     intro hh
     simp [hh.1, hh.2.1, hh.2.2] at h
   unfold wrF; rw [if_neg h10, if_neg this]; rfl
end
end
section
noncomputable abbrev L2 := List Nat × List Nat × List Nat × Nat × Nat × Nat
noncomputable def l2p (st : L2) (d : Int × Int) : Nat :=
 let least := if d.1.toNat = st.2.2.2.1 then st.2.2.2.2.1 else 0
 least + (d.2.fmod ((st.1.length + 1 - least : Nat) : Int)).toNat
noncomputable def l2Step (st : L2) (d : Int × Int) : L2 :=
 let p := l2p st d
 let at' := (st.2.1.take p).sum
 (st.1.take p ++ d.1.toNat :: st.1.drop p, st.2.1.take p ++ 1 :: st.2.1.drop p, st.2.2.1 ++ [(d.1.toNat - st.2.2.2.1) * (st.2.1.sum + 1) + at' - st.2.2.2.2.2], d.1.toNat, p + 1, at' + 1)
noncomputable def l2Fold (cells wide : List Nat) (ds : List (Int × Int)) : L2 := ds.foldl l2Step (cells, wide, [], 128, 0, 0)
noncomputable def Codes : Nat → List (Int × Int) → Prop
 | _, [] => True
 | o, d :: ds => (o : Int) ≤ d.1 ∧ d.1 < 5256 ∧ Codes d.1.toNat ds
structure L2Ok (n k W : Nat) (st : L2) : Prop where
 wid : st.2.1.length = st.1.length
 first : st.2.2.2.2.1 ≤ st.1.length
 behind : st.2.2.2.2.2 = (st.2.1.take st.2.2.2.2.1).sum
 len : st.1.length = n + k
 nums : st.2.2.1.length = k
 sum : st.2.1.sum = W + k
theorem l2p_le {n k W : Nat} {st : L2} (d : Int × Int) (h : L2Ok n k W st) : l2p st d ≤ st.1.length ∧ (d.1.toNat = st.2.2.2.1 → st.2.2.2.2.1 ≤ l2p st d) := by
 unfold l2p
 have hf := h.first
 dsimp only
 split
 · have := (fmod_lt (a := d.2) (b := st.1.length + 1 - st.2.2.2.2.1) (by omega)).2
   exact ⟨by lia, fun _ => by lia⟩
 · rename_i hne
   have := (fmod_lt (a := d.2) (b := st.1.length + 1 - 0) (by lia)).2
   exact ⟨by lia, fun e => absurd e hne⟩
theorem sum_ins (l : List Nat) (p : Nat) : (l.take p ++ 1 :: l.drop p).sum = l.sum + 1 := by
 rw [List.sum_append, List.sum_cons]
 have := congrArg List.sum (List.take_append_drop p l)
 rw [List.sum_append] at this
 lia
theorem sum_take_le (l : List Nat) (p : Nat) : (l.take p).sum ≤ l.sum := by
 have := congrArg List.sum (List.take_append_drop p l)
 rw [List.sum_append] at this
 lia
theorem take_mono (l : List Nat) {p q : Nat} (h : p ≤ q) : (l.take p).sum ≤ (l.take q).sum := by
 have := sum_take_le (l.take q) p
 rw [List.take_take, Nat.min_eq_left h] at this
 exact this
theorem take_ins (l : List Nat) {p : Nat} (h : p ≤ l.length) : ((l.take p ++ 1 :: l.drop p).take (p + 1)).sum = (l.take p).sum + 1 := by
 have : (l.take p ++ 1 :: l.drop p).take (p + 1) = l.take p ++ [1] := by
   rw [List.take_append, List.length_take, Nat.min_eq_left h, List.take_of_length_le (by rw [List.length_take]; lia), show p + 1 - p = 1 by lia]
   rfl
 rw [this, List.sum_append]; rfl
theorem l2Step_ok {n k W : Nat} {st : L2} (d : Int × Int) (h : L2Ok n k W st) : L2Ok n (k + 1) W (l2Step st d) := by
 have hp := (l2p_le d h).1
 obtain ⟨h1, h2, h3, h4, h5, h6⟩ := h
 unfold l2Step
 dsimp only
 generalize l2p st d = p at *
 refine ⟨?_, ?_, ?_, ?_, ?_, ?_⟩ <;> dsimp only
 · rw [List.length_append, List.length_cons, List.length_take, List.length_drop, ins_len, h1]; lia
 · rw [ins_len]; lia
 · rw [take_ins _ (by lia)]
 · rw [ins_len]; lia
 · rw [List.length_append, h5]; rfl
 · rw [sum_ins]; lia
theorem l2Fold_ok (cells wide : List Nat) (hw : wide.length = cells.length) (ds : List (Int × Int)) : L2Ok cells.length ds.length wide.sum (l2Fold cells wide ds) := by
 have key : ∀ (ds : List (Int × Int)) (n k W : Nat) (st : L2), L2Ok n k W st → L2Ok n (k + ds.length) W (ds.foldl l2Step st) := by
   intro ds
   induction ds with
   | nil => intro n k W st h; exact h
   | cons d ds ih =>
     intro n k W st h
     have := ih n (k + 1) W _ (l2Step_ok d h)
     rw [List.foldl_cons, List.length_cons, show k + (ds.length + 1) = k + 1 + ds.length by lia]
     exact this
 have := key ds cells.length 0 wide.sum (cells, wide, [], 128, 0, 0) ⟨hw, Nat.zero_le _, rfl, rfl, rfl, rfl⟩
 rw [Nat.zero_add] at this; exact this
theorem codes_mid : ∀ (pre : List (Int × Int)) (o : Nat) (x : Int × Int) (post : List (Int × Int)), Codes o (pre ++ x :: post) → ((pre.foldl (fun (a : Nat) (d : Int × Int) => d.1.toNat) o : Nat) : Int) ≤ x.1 ∧ x.1 < 5256
 | [], o, x, post, h => ⟨h.1, h.2.1⟩
 | d :: pre, o, x, post, h => codes_mid pre d.1.toNat x post h.2.2
theorem l2_old : ∀ (ds : List (Int × Int)) (st : L2), (ds.foldl l2Step st).2.2.2.1 = ds.foldl (fun (a : Nat) (d : Int × Int) => d.1.toNat) st.2.2.2.1
 | [], st => rfl
 | d :: ds, st => by rw [List.foldl_cons, List.foldl_cons, l2_old ds]; rfl
section
variable {prog : Program} {w : World} {hB : Heap} {mg mb : Str → Option Value}
theorem filter_yes {α : Type} (l : List α) : l.filter (fun _ => true) = l := List.filter_eq_self.mpr fun _ _ => rfl
theorem join_chars : ∀ l : List Nat, joinL [] (l.map fun c => [c]) = l
 | [] => rfl
 | [c] => rfl
 | c :: d :: r => by
   have := join_chars (d :: r)
   simp only [List.map_cons] at this ⊢
   rw [joinL, this]; rfl
theorem sum_nat (l : List Nat) : (l.map fun n : Nat => (n : Int)).sum = (l.sum : Nat) := by
 induction l with
 | nil => rfl
 | cons a l ih => rw [List.map_cons, List.sum_cons, List.sum_cons, ih, Int.natCast_add]
theorem fn_laid2 (B : Base hB mg mb) (H : HasFn hB mg p1 11) (hb1 : mg "len" = none) (hb2 : mg "chr" = none) (hb3 : mg "sum" = none) (text wide : List Nat) (ds : List (Int × Int)) (hbl : text.length ≤ 100000) (hds : ds.length ≤ 1000) (hw : wide.length = text.length) (hws : wide.sum ≤ 1000000) (hc : Codes 128 ds) :
   Fn prog w hB mg "_law_laid" [.str text, .lst (wide.map fun n => .int (n : Nat)), .lst (ds.map pairD)] (.tup [.str (l2Fold text wide ds).1, .lst ((l2Fold text wide ds).2.2.1.map fun n => .int (n : Nat))]) 1 := by
 refine fn_rec B H ["text", "widths", "strange"] rfl rfl (fun pm code doc => vals3 fun _ _ _ => rfl) (fa rfl (fa rfl (fa rfl fa0))) fun pm code doc fa A L h₀ O₀ K => ?_
 conv => arg 5; whnf
 have hZ : sizeLine = 16777216 := sizeLine_eq
 refine wp_compG K (fun c : Nat => D.str [c]) (fun c => D.str [c]) (fun _ => true) text [] (.own (text.map fun c => .str [c])) (it_str K (ev_name K rfl rfl)) rfl CellsOk.nil (fun y e h => by cases h)
   (fun c _ Ca KC => ⟨evIfs_nil, fun _ => ev_name KC rfl rfl⟩) (.inr (by rw [filter_yes])) ?_ rfl rfl (by lia) (by decide) rfl rfl (by decide)
 refine wp_compG K (fun n : Nat => D.int (n : Nat)) (fun n => D.int (n : Nat)) (fun _ => true) wide [] (.own (wide.map fun n => .int (n : Nat))) (it_lst K (ev_name K rfl rfl)) rfl CellsOk.nil (fun y e h => by cases h)
   (fun c _ Ca KC => ⟨evIfs_nil, fun _ => ev_name KC rfl rfl⟩) (.inr (by rw [filter_yes])) ?_ rfl rfl (by lia) (by decide) rfl rfl (by decide)
 refine wp_newlist K ?_ rfl rfl
 refine wp_unpack K (ds := [.int ((128 : Nat) : Int), .int ((0 : Nat) : Int), .int ((0 : Nat) : Int)]) (ev_tup K (evA_cons K (ev_int 128) (evA_cons K (ev_int 0) (evA_cons K (ev_int 0) evA_nil))) (by show 3 ≤ sizeLine; decide)) (asL_cons K (as_name K rfl rfl) (asL_cons K (as_name K rfl rfl) (asL_cons K (as_name K rfl rfl) asL_nil))) ?_
 refine wp_for K (f := pairD) (xs := ds) (fun pre => [("cells", .own ((l2Fold text wide pre).1.map fun c => .str [c])), ("wide", .own ((l2Fold text wide pre).2.1.map fun n => .int (n : Nat))), ("numbers", .own ((l2Fold text wide pre).2.2.1.map fun n => .int (n : Nat))), ("old", .v (.int ((l2Fold text wide pre).2.2.2.1 : Nat))), ("first", .v (.int ((l2Fold text wide pre).2.2.2.2.1 : Nat))), ("behind", .v (.int ((l2Fold text wide pre).2.2.2.2.2 : Nat)))])
   (fun pre x => [("share", .v (.int x.2)), ("code", .v (.int x.1)), ("cells", .own ((l2Fold text wide pre).1.map fun c => .str [c])), ("wide", .own ((l2Fold text wide pre).2.1.map fun n => .int (n : Nat))), ("numbers", .own ((l2Fold text wide pre).2.2.1.map fun n => .int (n : Nat))), ("old", .v (.int ((l2Fold text wide pre).2.2.2.1 : Nat))), ("first", .v (.int ((l2Fold text wide pre).2.2.2.2.1 : Nat))), ("behind", .v (.int ((l2Fold text wide pre).2.2.2.2.2 : Nat)))])
   (it_lst K (ev_name K rfl rfl)) (.cons rfl (.cons rfl (.cons rfl (.cons rfl (.cons rfl (.cons rfl .nil)))))) (fun pre x post h => as_tup K (asL_cons K (as_name K rfl rfl) (asL_cons K (as_name K rfl rfl) asL_nil))) (fun pre x post hsplit => ?_) ?_
 · have hpl : pre.length < ds.length := by rw [hsplit]; simp
   have hok := l2Fold_ok text wide hw pre
   have hstep : l2Fold text wide (pre ++ [x]) = l2Step (l2Fold text wide pre) x := by unfold l2Fold; rw [List.foldl_append]; rfl
   rw [hstep]
   have hcm := codes_mid pre 128 x post (hsplit ▸ hc)
   have hold : (l2Fold text wide pre).2.2.2.1 = pre.foldl (fun (a : Nat) (d : Int × Int) => d.1.toNat) 128 := l2_old pre _
   rw [← hold] at hcm
   obtain ⟨hp1, hp2⟩ := l2p_le x hok
   obtain ⟨hs1, hs2, hs3, hs4, hs5, hs6⟩ := hok
   have hPdef : l2p (l2Fold text wide pre) x = (if x.1.toNat = (l2Fold text wide pre).2.2.2.1 then (l2Fold text wide pre).2.2.2.2.1 else 0) + (x.2.fmod (((l2Fold text wide pre).1.length + 1 - (if x.1.toNat = (l2Fold text wide pre).2.2.2.1 then (l2Fold text wide pre).2.2.2.2.1 else 0) : Nat) : Int)).toNat := rfl
   unfold l2Step
   dsimp only
   generalize l2p (l2Fold text wide pre) x = P at *
   generalize l2Fold text wide pre = st at *
   obtain ⟨cells, wd, nums, old, first, behind⟩ := st
   dsimp only at hs1 hs2 hs3 hs4 hs5 hs6 hp1 hp2 hcm hPdef ⊢
   obtain ⟨xc, xs⟩ := x
   dsimp only at hp2 hcm hPdef ⊢
   obtain ⟨c, rfl⟩ : ∃ c : Nat, xc = (c : Int) := ⟨xc.toNat, by lia⟩
   rw [Int.toNat_natCast] at *
   have hcl : c < 5256 := by lia
   have hoc : old ≤ c := by lia
   generalize hLe : (if c = old then first else 0) = Le at *
   have hLe2 : Le ≤ cells.length := by rw [← hLe]; split <;> lia
   have hfm := fmod_lt (a := xs) (b := cells.length + 1 - Le) (by omega)
   refine wp_assign K (d := .int (Le : Nat)) (ev_if K (b := (c : Int) == (old : Int)) (by walk_at "ev") (fun h => ?_) (fun h => ?_)) ?_ rfl rfl
   · have : c = old := by have := beq_iff_eq.mp h; lia
     rw [if_pos this] at hLe; rw [← hLe]; exact ev_name K rfl rfl
   · have : c ≠ old := by have := beq_eq_false_iff_ne.mp h; lia
     rw [if_neg this] at hLe; rw [← hLe]; exact ev_int 0
   refine wp_assign K (d := .int (P : Nat)) (ev_atom .int (ev_eqI (ev_bin K (ev_name K rfl rfl) (ev_bin K (ev_name K rfl rfl) (ev_bin K (ev_bin K (ev_callF K rfl hb1 (by decide +kernel) (evA_cons K (ev_own K rfl rfl) evA_nil) (fn_len_lst _ (by rw [List.length_map]; lia))) (ev_int 1) (op_add _ _)) (ev_name K rfl rfl) (op_sub _ _)) (op_mod _ _ (by rw [List.length_map]; omega))) (op_add _ _)) (by
     rw [List.length_map, hPdef, show ((cells.length : Int) + 1 - (Le : Int)) = ((cells.length + 1 - Le : Nat) : Int) by omega, Int.natCast_add, Int.toNat_of_nonneg hfm.1]))) ?_ rfl rfl
   generalize hat : (wd.take P).sum = at' at *
   have hsl : slc (wd.map fun n : Nat => D.int (n : Nat)) none (some (P : Int)) = (((wd.take P).map fun n : Nat => (n : Int)).map D.int) := by
     rw [slc_take' _ P, List.map_map, ← List.map_take]; rfl
   have hwl : wd.sum ≤ 1001000 := by lia
   have hatl : at' ≤ wd.sum := by rw [← hat]; exact sum_take_le _ _
   refine wp_assign K (d := .int (at' : Nat)) (ev_eq (ev_callF K rfl hb3 (by decide +kernel) (evA_cons K (ev_eq (ev_ownSlice K rfl rfl evP_none (evP_some K (ev_name K rfl rfl)) (by rw [List.length_map]; lia)) (congrArg D.lst hsl)) evA_nil) (fn_sum _)) (by rw [sum_nat, hat])) ?_ rfl rfl
   have hbl : behind ≤ (c - old) * (wd.sum + 1) + at' := by
     by_cases h2 : c = old
     · have := take_mono wd (hp2 h2)
       rw [hat] at this; lia
     · have h3 : 1 ≤ c - old := by lia
       have := Nat.mul_le_mul_right (wd.sum + 1) h3
       have h5 := sum_take_le wd first
       lia
   have hnn : ((c : Int) - old) * (((wd.sum : Nat) : Int) + 1) + (at' : Nat) - (behind : Nat) = (((c - old) * (wd.sum + 1) + at' - behind : Nat) : Int) := by
     rw [show ((c : Int) - old) = ((c - old : Nat) : Int) by lia, show (((wd.sum : Nat) : Int) + 1) = ((wd.sum + 1 : Nat) : Int) by lia, ← Int.natCast_mul]; omega
   refine wp_append K rfl rfl (d := .int (((c - old) * (wd.sum + 1) + at' - behind : Nat) : Int)) (ev_atom .int (ev_eqI (ev_bin K (ev_bin K (ev_bin K (by walk_at "ev") (ev_bin K (ev_eq (ev_callF K rfl hb3 (by decide +kernel) (evA_cons K (ev_eq (ev_own K rfl rfl) (show D.lst (wd.map fun n : Nat => D.int (n : Nat)) = .lst ((wd.map fun n : Nat => (n : Int)).map D.int) by rw [List.map_map]; rfl)) evA_nil) (fn_sum _)) (by rw [sum_nat])) (ev_int 1) (op_add _ _)) (op_mul _ _ ?_)) (ev_name K rfl rfl) (op_add _ _)) (ev_name K rfl rfl) (op_sub _ _)) hnn)) (by rw [List.length_map]; lia) ?_
   · exact IntMulOk.of_left (intBits_le_64 (by lia) (by lia))
   refine wp_insert K rfl rfl (k := (P : Int)) (d := .str [c]) (ev_name K rfl rfl) (ev_callF K rfl hb2 (by decide +kernel) (evA_cons K (ev_name K rfl rfl) evA_nil) (fn_chr _ (by lia) (by lia))) (by lia) (by rw [List.length_map]; lia) (by rw [List.length_map]; lia) ?_
   refine wp_insert K rfl rfl (k := (P : Int)) (d := .int ((1 : Nat) : Int)) (ev_name K rfl rfl) (ev_int 1) (by lia) (by rw [List.length_map]; lia) (by rw [List.length_map]; lia) ?_
   refine wp_swap K (names := ["old", "first", "behind"]) (ds := [.int (c : Nat), .int ((P + 1 : Nat) : Int), .int ((at' + 1 : Nat) : Int)]) (ev_tup K (evA_cons K (ev_name K rfl rfl) (evA_cons K (ev_eqI (by walk_at "ev") (by rw [Int.natCast_add]; rfl)) (evA_cons K (ev_eqI (by walk_at "ev") (by rw [Int.natCast_add]; rfl)) evA_nil))) (by show 3 ≤ sizeLine; decide)) (asB_cons K rfl rfl (asB_cons K rfl rfl (asB_cons K rfl rfl asB_nil))) (wp_nil ?_)
   show Sub _ _
   refine .cons ?_ (.cons ?_ (.cons ?_ (.cons rfl (.cons rfl (.cons rfl .nil)))))
   · show some (Ent.own _) = _
     rw [Int.toNat_natCast, List.map_append, List.map_cons, List.map_take, List.map_drop]
   · show some (Ent.own _) = _
     rw [Int.toNat_natCast, List.map_append, List.map_cons, List.map_take, List.map_drop]
   · show some (Ent.own _) = _
     rw [List.map_append]; rfl
 · have hok := l2Fold_ok text wide hw ds
   have e : ((l2Fold text wide ds).1.map fun c => D.str [c]) = ((l2Fold text wide ds).1.map fun c => [c]).map D.str := by rw [List.map_map]; rfl
   refine wp_ret K (ev_tup K (evA_cons K (ev_eq (ev_meth K (hasT_str _) F.plainAttrs_str F.slot_str_join F.type_str_join (ev_str (l := []) rfl) (evA_cons K (ev_eq (ev_own K rfl rfl) (by rw [e])) evA_nil) (fn_join [] _ ?_)) (by rw [join_chars])) (evA_cons K (ev_own K rfl rfl) evA_nil)) (by show 2 ≤ sizeLine; decide)) rfl
   have h1 := hok.len
   have key : ∀ l : List Nat, ((l.map fun c : Nat => [c]).map fun x => x.length + ([] : List Nat).length).sum = l.length := fun l => by
     induction l with
     | nil => rfl
     | cons a l ih => rw [List.map_cons, List.map_cons, List.sum_cons, ih]; show 1 + 0 + l.length = l.length + 1; lia
   rw [key]; lia
end
end
section
noncomputable def labF (t ns : List Nat) : List Nat := t ++ 45 :: (gisF t.length ns 0 72).map fun d => (dLow d).toNat
section
variable {prog : Program} {w : World} {hB : Heap} {mg mb : Str → Option Value}
theorem fn_label (B : Base hB mg mb) (HT : HasFn hB mg p1 2) (H3 : HasFn hB mg p1 3) (H4 : HasFn hB mg p1 4) (H5 : HasFn hB mg p1 5) (H : HasFn hB mg p1 12) (hG : GlobIs hB mg "digits_punycode" (.bytes digs)) (hb1 : mg "bytearray" = none) (hb2 : mg "bytes" = none) (hb3 : mg "enumerate" = none) (hb4 : mg "len" = none)
   (t ns : List Nat) (hns : ∀ d ∈ ns, d < 16000000) (hne : ns ≠ []) (hl : t.length + ns.length ≤ 1000000) (hlen : (gisF t.length ns 0 72).length ≤ 1000000) :
   FnQN prog w hB mg "_law_label" [.str t, .lst (ns.map fun d => .int (d : Nat))] (.str (labF t ns)) 4 := by
 refine fn_recQ B H ["text", "numbers"] rfl rfl (fun pm code doc => vals2 fun _ _ => rfl) (fa rfl (fa rfl fa0)) fun pm code doc fa A L h₀ O₀ hg K => ?_
 conv => arg 5; whnf
 have hZ : sizeLine = 16777216 := sizeLine_eq
 have hd36 : ∀ d ∈ gisF t.length ns 0 72, d < 36 := gisF_lt _ _ _ _
 have hgne : (gisF t.length ns 0 72).map dLow ≠ [] := fun h => by
   have h1 := List.map_eq_nil_iff.mp h
   cases ns with
   | nil => exact hne rfl
   | cons a r =>
     rw [gisF] at h1
     exact ggi_ne _ _ _ (List.append_eq_nil_iff.mp h1).1
 have hlab : labF t ns = (t ++ [45]) ++ ((gisF t.length ns 0 72).map dLow).map (fun c => c.toNat) := by
   unfold labF; rw [List.append_assoc, List.map_map]; rfl
 refine wpQ_ret K (evQ_bin K (evQ_of (ev_bin K (ev_name K rfl rfl) (ev_str (l := [45]) rfl) (op_cat _ _ (by show _ + 1 ≤ _; lia)))) (evQ_meth K (hasT_bytes _) FB.plainAttrs_bytes S.slot_bytes_decode S.type_bytes_decode
   (evQ_fn K hg (f := "generate_integers") (fn_gi B HT H3 H4 H5 hG hb1 hb2 hb3 t.length ns hns (by lia) (by lia)) rfl (evAQ_of (evA_cons K (ev_callF K rfl hb4 (by decide +kernel) (evA_cons K (ev_name K rfl rfl) evA_nil) (fn_len_str _ (by lia))) (evA_cons K (ev_name K rfl rfl) evA_nil))))
   (evA_cons K (ev_str (l := ascL) rfl) evA_nil) (fn_decode _ hgne (fun c hc => by
     obtain ⟨d, hd, rfl⟩ := List.mem_map.mp hc
     exact dLow_lt (hd36 d hd)) (by rw [List.length_map]; lia))) (by rw [hlab]; exact op_cat _ _ (by rw [List.length_append, List.length_map, List.length_map]; show _ + 1 + _ ≤ _; lia))) rfl
end
end
section
noncomputable def nums2 : List Int := [0, 4, 8, 20, 1957, 40010, 112403]
noncomputable def eols1 : List (List Nat) := [[10], [13, 10], [13]]
structure PdOk (base ns res : List Nat) : Prop where
 ne : base ≠ []
 asc : ∀ c ∈ base, c < 128
 insok : insOk ns base.length 128 0
 ins : insF ns base 128 0 = res
 len : base.length + ns.length ≤ 1000000
 lt : ∀ d ∈ ns, d < 16000000
 nne : ns ≠ []
 gis : (gisF base.length ns 0 72).length ≤ 1000000
structure EncOk (m : Nat) (eol body res : List Nat) : Prop where
 ne : body ≠ []
 last : ∃ c, (body.flatMap trB).getLast? = some c ∧ c ≠ 13 ∧ c ≠ 10
 size : (body.flatMap trB).length ≤ 1000000
 rows : ((encRows m eol (linesL (body.flatMap trB))).map fun x => x.length + eol.length).sum ≤ 16000000
 res : joinL eol (encRows m eol (linesL (body.flatMap trB))) = res
 chr : ∀ c ∈ body, c < 2 ^ 62
structure DecOk (enc out : List Nat) : Prop where
 last : ∃ c, enc.getLast? = some c ∧ c ≠ 13 ∧ c ≠ 10
 size : enc.length ≤ 1000000
 dout : decAll [10] (linesL enc) = out ++ [10]
 osz : (out ++ [10]).length ≤ 1000000
 ok : ∀ l ∈ linesL enc, decOk (rstripL l)
structure Law2 (eol : List Nat) (m : Nat) (plain octets text few nums written anew laid short : List Nat) (near far st : List (Int × Int)) : Prop where
 hnear : st.filter (fun d => decide (d.1 < 256)) = near
 hfar : st.drop near.length = far
 cn : Codes 128 near
 cs : Codes 128 st
 cf : Codes 128 far
 a1 : (l2Fold plain (plain.map fun _ => 1) near).1 = octets
 a2 : (l2Fold plain (plain.map fun _ => 1) near).2.2.1 = few
 b1 : (l2Fold plain (plain.map fun _ => 1) st).1 = text
 b2 : (l2Fold plain (plain.map fun _ => 1) st).2.2.1 = nums
 c2 : (l2Fold octets (octets.map fun c => (wrF eol c).length) far).2.2.1 = anew
 o256 : ∀ c ∈ octets, c < 256
 p1 : PdOk plain few octets
 p2 : PdOk plain nums text
 p3 : PdOk written anew laid
 wr : octets.flatMap (wrF eol) = written
 e1 : EncOk 1000 eol octets written
 e2 : EncOk 1000 eol text laid
 e3 : EncOk m eol text short
 d1 : DecOk laid text
 d2 : DecOk short text
 rows : ∀ r ∈ cutL eol [] short, r.length ≤ m
 repl : replL short ([61] ++ eol) [] = laid
 sp : plain.length ≤ 1000
 so : octets.length ≤ 1000
 ss : st.length ≤ 100
section
variable {prog : Program} {w : World} {hB : Heap} {mg mb : Str → Option Value}
theorem fn_dec1 (B : Base hB mg mb) (H0 : HasFn hB mg p1 0) (H : HasFnW hB mg p1 1 [.str [10]]) (hb1 : mg "len" = none) (hb2 : mg "chr" = none) (hb3 : mg "int" = none) (hG : GlobIs hB mg "hexdigits" (.str hexD))
   {enc out : List Nat} (D : DecOk enc out) : Fn prog w hB mg "decode" [.str enc] (.str out) 2 := by
 obtain ⟨⟨c, h1, h2, h3⟩, h4, h5, h6, h7⟩ := D
 refine fn_recW B H ["encoded", "eol"] (bnd := [.str enc, .str [10]]) (fun vals vs => vals ++ vs) rfl (fun O h vals vs r1 r2 => r1.append r2) rfl (fun pm code doc T s o vals vs n hv hvs hT hd => ?_) (fa rfl (fa rfl fa0)) fun pm code doc T fa A LL h₀ O₀ K => dec_walk H0 hb1 hb2 hb3 hG enc [10] out c h1 h2 h3 (by simp) h4 h5 h6 h7 K B
 exact vals1 (P := fun vals => BindsTo s _ ⟨vals, []⟩ (List.zip _ (vals ++ _))) (fun a => arr1 (P := fun vs => o.data = .seq vs n → BindsTo s _ ⟨[a], []⟩ (List.zip _ ([a] ++ vs.toList))) (fun v hd => BindsTo.of_defaults rfl hT hd rfl rfl) vs hvs hd) vals hv
structure Globs2 (prog : Program) (w : World) (hB : Heap) (mg mb : Str → Option Value) : Prop where
 B : Base hB mg mb
 fn : ∀ k, k < 13 → HasFn hB mg p1 k
 enc : ∃ dfl : List D, dfl.length = 2 ∧ HasFnW hB mg p1 0 dfl
 dec : HasFnW hB mg p1 1 [.str [10]]
 bi : ∀ x ∈ (["len", "chr", "ord", "sum", "int", "str", "bytes", "bytearray", "enumerate", "isinstance", "memoryview", "sorted", "max"] : List Str), mg x = none
 digs : GlobIs hB mg "digits_punycode" (.bytes digs)
 hex : GlobIs hB mg "hexdigits" (.str hexD)
 quo : GlobIs hB mg "_QUOPRI_MAP" (.lst quoMap)
 encM : GlobIs hB mg "_QUOPRI_BODY_ENCODE_MAP" (.lst (encMap.map .str))
 crlf : GlobIs hB mg "CRLF" (.str [13, 10])
theorem pair_item (d : Int × Int) : Op2 prog w hB getItem (pairD d) (.int 0) (.int d.1) := op_item_tup (j := 0) (by decide) (by decide) rfl rfl
theorem fn_encE (G : Globs2 prog w hB mg mb) {m : Nat} {eol body res : List Nat} (E : EncOk m eol body res) (hm : 4 ≤ m) (hm2 : m ≤ 1000) (he1 : 1 ≤ eol.length) (he2 : eol.length ≤ 2) : Fn prog w hB mg "body_encode" [.str body, .int m, .str eol] (.str res) 2 := by
 obtain ⟨h1, ⟨c, h2, h3, h4⟩, h5, h6, h7, h8⟩ := E
 obtain ⟨dfl, hdfl, hE⟩ := G.enc
 have := fn_enc (prog := prog) (w := w) G.B (G.fn 1 (by decide)) hdfl hE (G.bi "len" (by decide)) (G.bi "ord" (by decide)) G.quo G.encM G.crlf body eol m hm hm2 h1 he1 he2 _ rfl h8 c h2 h3 h4 h5 h6
 rw [h7] at this; exact this
theorem fn_pdE (G : Globs2 prog w hB mg mb) {base ns res : List Nat} (P : PdOk base ns res) : Fn prog w hB mg "punycode_decode" [.str (labF base ns), .str strictL] (.str res) 4 := by
 obtain ⟨h1, h2, h3, h4, h5, h6, h7, h8⟩ := P
 have := fn_pd (prog := prog) (w := w) G.B (G.fn 2 (by decide)) (G.fn 4 (by decide)) (G.fn 6 (by decide)) (G.fn 7 (by decide)) (G.fn 8 (by decide)) (G.bi "len" (by decide)) (G.bi "chr" (by decide)) (G.bi "isinstance" (by decide)) (G.bi "str" (by decide)) (G.bi "memoryview" (by decide)) base ns strictL (.inl rfl) h1 h2 h3 h5 h8
 rw [h4] at this; exact this
theorem fn_labE (G : Globs2 prog w hB mg mb) {base ns res : List Nat} (P : PdOk base ns res) : FnQN prog w hB mg "_law_label" [.str base, .lst (ns.map fun d => .int (d : Nat))] (.str (labF base ns)) 4 := by
 obtain ⟨h1, h2, h3, h4, h5, h6, h7, h8⟩ := P
 exact fn_label G.B (G.fn 2 (by decide)) (G.fn 3 (by decide)) (G.fn 4 (by decide)) (G.fn 5 (by decide)) (G.fn 12 (by decide)) G.digs (G.bi "bytearray" (by decide)) (G.bi "bytes" (by decide)) (G.bi "enumerate" (by decide)) (G.bi "len" (by decide)) base ns h6 h7 h5 h8
theorem wrF_len (eol : List Nat) (he : eol.length ≤ 2) (c : Nat) : (wrF eol c).length ≤ 3 := by
 unfold wrF
 split
 · lia
 · split
   · exact Nat.le_of_ble_eq_true rfl
   · exact Nat.le_of_ble_eq_true rfl
theorem sum_le {α : Type} (f : α → Nat) (k : Nat) (h : ∀ a, f a ≤ k) : ∀ l : List α, (l.map f).sum ≤ k * l.length
 | [] => Nat.zero_le _
 | a :: l => by
   have := sum_le f k h l
   have := h a
   rw [List.map_cons, List.sum_cons, List.length_cons, Nat.mul_add]; lia
theorem join_flat : ∀ l : List (List Nat), joinL [] l = l.flatten
 | [] => rfl
 | [a] => by simp [joinL]
 | a :: b :: r => by
   rw [joinL, join_flat (b :: r), List.append_nil]; rfl
theorem cutL_ne (y : List Nat) (acc l : List Nat) : cutL y acc l ≠ [] := by
 induction l generalizing acc with
 | nil => rw [cutL]; simp
 | cons c r ih =>
   rw [cutL]; split
   · simp
   · exact ih _
theorem max_ex : ∀ l : List Int, l ≠ [] → ∃ x ∈ l, ∀ a ∈ l, a ≤ x
 | [], h => absurd rfl h
 | [x], _ => ⟨x, .head _, fun a ha => by rw [List.mem_singleton.mp ha]; exact Int.le_refl x⟩
 | x :: y :: r, _ => by
   obtain ⟨z, h1, h2⟩ := max_ex (y :: r) (by simp)
   by_cases h : x ≤ z
   · exact ⟨z, .tail _ h1, fun a ha => (List.mem_cons.mp ha).elim (fun e => e ▸ h) (h2 a)⟩
   · exact ⟨x, .head _, fun a ha => (List.mem_cons.mp ha).elim (fun e => e ▸ Int.le_refl _) fun q => by have := h2 a q; lia⟩
theorem fn_law2 (G : Globs2 prog w hB mg mb) {fa : Addr} {pm code doc : Value} (H : IsFnC hB fa (docAt p1 13 pm code doc) (recAt p1 13).body) (script : List Int) (hlen : script.length ≤ 63)
   (tot : Int) (htot : tot = script.sum) (eol : List Nat) (m : Nat) (hm : (m : Int) = 4 + (tot.fdiv 3).fmod 9) (heol : eols1[(tot.fmod 3).toNat]? = some eol)
   {plain octets text few nums written anew laid short : List Nat} {near far st : List (Int × Int)} (hplain : plain = (draw2 (nums2 ++ script.take 10)).1 ++ [46]) (hst1 : st.Perm (draw2 (nums2 ++ script.take 10)).2) (hst2 : st.Pairwise leP)
   (M : Law2 eol m plain octets text few nums written anew laid short near far st) :
   FnVN prog w hB 0 (.ref fa) [.lst (script.map .int)] (.bool true) 6 := by
 have B := G.B
 refine fnN_cells B H (x := "script") (fun v => rfl) rfl (fun L => by show (["eol"] : List Str).Nodup; decide) (fun L y c h => ?_) fun A L h₀ O₀ hg K => ?_
 · have h' : (y, c) ∈ [(("eol" : Str), L + 1)] := h
   cases List.mem_singleton.mp h'
   exact ⟨Nat.lt_succ_self _, rfl⟩
 conv => arg 6; whnf
 have hZ : sizeLine = 16777216 := sizeLine_eq
 have hlen' := G.bi "len" (by decide)
 have hchr := G.bi "chr" (by decide)
 have hord := G.bi "ord" (by decide)
 have hsum := G.bi "sum" (by decide)
 have hint := G.bi "int" (by decide)
 have hF := G.fn
 have hel : eol.length ≤ 2 ∧ 1 ≤ eol.length ∧ ∀ c ∈ eol, c < 256 := by
   have := List.mem_of_getElem? heol
   simp only [eols1, List.mem_cons, List.not_mem_nil, or_false] at this
   rcases this with rfl | rfl | rfl <;> decide
 have hene : eol ≠ [] := fun h => by rw [h] at hel; exact absurd hel.2.1 (by decide)
 have hm7 := fmod_lt (a := tot.fdiv 3) (b := 9) (by decide)
 have h70 : 0 ≤ (tot.fdiv 3).fmod 9 := hm7.1
 have h71 : ((tot.fdiv 3).fmod 9).toNat < 9 := hm7.2
 have hm4 : 4 ≤ m ∧ m ≤ 12 := by lia
 obtain ⟨M1, M2, M3, M4, M5, M6, M7, M8, M9, M10, M11, M12, M13, M14, M15, M16, M17, M18, M19, M20, M21, M22, M23, M24, M25⟩ := M
 have h2st : 2 ≤ (draw2 (nums2 ++ script.take 10)).2.length := by
   rw [draw2_append]
   have : (draw2 nums2).2.length = 3 := by decide
   rw [List.length_append]; lia
 refine wpN_liftN (wp_assign K (d := .int tot) (ev_eq (ev_callF K rfl hsum (by decide +kernel) (evA_cons K (ev_name K rfl rfl) evA_nil) (fn_sum script)) (by rw [htot])) (wp_nil ⟨rfl, ?_⟩) rfl rfl)
 have k3 := fmod_lt (a := tot) (b := 3) (by decide)
 have k30 : 0 ≤ tot.fmod 3 := k3.1
 have k31 : (tot.fmod 3).toNat < 3 := k3.2
 refine wpN_liftN (wp_assign K (d := .str eol) (ev_sub K (ev_lst K (evA_cons K (ev_str (l := [10]) rfl) (evA_cons K (ev_str (l := [13, 10]) rfl) (evA_cons K (ev_str (l := [13]) rfl) evA_nil))) (by show 3 ≤ sizeLine; decide)) (by walk_at "ev" <;> decide) (op_item_lst k30 (by lia) (show (eols1.map D.str)[(tot.fmod 3).toNat]? = some (.str eol) by rw [List.getElem?_map, heol]; rfl))) (wp_nil ⟨rfl, ?_⟩) rfl rfl)
 refine wpN_liftN (wp_assign K (d := .int m) (ev_eqI (by walk_at "ev" <;> decide) hm.symm) (wp_nil ⟨rfl, ?_⟩) rfl rfl)
 have hsl : slc (script.map D.int) none (some 10) = (script.take 10).map D.int := (slc_take' _ 10).trans List.map_take.symm
 have hns : (nums2 ++ script.take 10).length ≤ 17 := by
   rw [List.length_append, List.length_take]; show 7 + _ ≤ _; lia
 refine wpN_liftN (wp_unpack K (ev_fn K (f := "_law_drawn") (fn_drawn2 B (hF 9 (by decide)) (G.bi "sorted" (by decide)) (nums2 ++ script.take 10) (by lia) hplain h2st hst1 hst2) rfl (evA_cons K (ev_eq (ev_bin K (ev_lst K (evA_cons K (ev_int 0) (evA_cons K (ev_int 4) (evA_cons K (ev_int 8) (evA_cons K (ev_int 20) (evA_cons K (ev_int 1957) (evA_cons K (ev_int 40010) (evA_cons K (ev_int 112403) evA_nil))))))) (by show 7 ≤ sizeLine; decide))
   (ev_slice K (ev_name K rfl rfl) evP_none (evP_some K (ev_int 10)) (opSl_lst _ _ (by rw [List.length_map]; lia))) (op_lcat _ _ (by rw [hsl, List.length_map, List.length_take]; show 7 + _ ≤ _; lia))) (by rw [hsl, List.map_append]; rfl)) evA_nil)) (asL_cons K (as_name K rfl rfl) (asL_cons K (as_name K rfl rfl) asL_nil)) (wp_nil ⟨rfl, ?_⟩))
 refine wpN_liftN (wp_compG K pairD pairD (fun d => decide (d.1 < 256)) st [] (.v (.lst (near.map pairD))) (it_lst K (ev_name K rfl rfl)) rfl CellsOk.nil (fun y e h => by cases h)
   (fun d _ Ca KC => ⟨evIfs_one (evT_cmp KC (ev_sub KC (ev_name KC rfl rfl) (ev_int 0) (pair_item d)) (ev_int 256) (op_lt _ _)), fun _ => ev_name KC rfl rfl⟩) (.inl (by rw [M1])) (wp_nil ⟨rfl, ?_⟩) rfl rfl (by lia) (by decide) rfl rfl (by decide))
 refine wpN_liftN (wp_compG K (fun c : Nat => D.str [c]) (fun _ => D.int 1) (fun _ => true) plain [] (.v (.lst ((plain.map fun _ => 1).map fun n : Nat => .int (n : Nat)))) (it_str K (ev_name K rfl rfl)) rfl CellsOk.nil (fun y e h => by cases h)
   (fun c _ Ca KC => ⟨evIfs_nil, fun _ => ev_int 1⟩) (.inl (by rw [filter_yes, List.map_map]; rfl)) (wp_nil ⟨rfl, ?_⟩) rfl rfl (by lia) (by decide) rfl rfl (by decide))
 have hones : (plain.map fun _ => (1 : Nat)).sum ≤ 1000000 := by have := sum_le (fun _ : Nat => 1) 1 (fun _ => Nat.le_refl _) plain; lia
 have hnl : near.length ≤ 100 := by rw [← M1]; exact Nat.le_trans (List.length_filter_le _ _) M25
 have hfl : far.length ≤ 100 := by rw [← M2, List.length_drop]; lia
 refine wpN_liftN (wp_unpack K (ev_fn K (f := "_law_laid") (fn_laid2 B (hF 11 (by decide)) hlen' hchr hsum plain (plain.map fun _ => 1) near (by lia) (by lia) (by rw [List.length_map]) hones M3) rfl (evA_cons K (ev_name K rfl rfl) (evA_cons K (ev_name K rfl rfl) (evA_cons K (ev_name K rfl rfl) evA_nil)))) (asL_cons K (as_name K rfl rfl) (asL_cons K (as_name K rfl rfl) asL_nil)) (wp_nil ⟨rfl, ?_⟩))
 rw [M6, M7]
 refine wpN_liftN (wp_unpack K (ev_fn K (f := "_law_laid") (fn_laid2 B (hF 11 (by decide)) hlen' hchr hsum plain (plain.map fun _ => 1) st (by lia) (by lia) (by rw [List.length_map]) hones M4) rfl (evA_cons K (ev_name K rfl rfl) (evA_cons K (ev_name K rfl rfl) (evA_cons K (ev_name K rfl rfl) evA_nil)))) (asL_cons K (as_name K rfl rfl) (asL_cons K (as_name K rfl rfl) asL_nil)) (wp_nil ⟨rfl, ?_⟩))
 rw [M8, M9]
 refine wpN_liftN (wp_compG K (fun c : Nat => D.str [c]) (fun c => D.str (wrF eol c)) (fun _ => true) octets [("eol", .v (.str eol))] (.v (.lst ((octets.map (wrF eol)).map .str)))
   (it_str K (ev_name K rfl rfl)) (cl := [("eol", L + 1)]) rfl
   ⟨fun y y' c c' h h' => by cases List.mem_singleton.mp h; cases List.mem_singleton.mp h'; exact ⟨fun _ => rfl, fun _ => rfl⟩, fun Ca y c h => by cases List.mem_singleton.mp h; rfl, fun m h F y c hm => by
     cases List.mem_singleton.mp hm
     obtain ⟨ml, cm, F, X, h1, h2⟩ := F
     have := X.cell "eol" (L + 1) rfl
     rw [← h2 "eol" rfl] at this; exact this, fun y c h => by cases List.mem_singleton.mp h; exact .tail _ (.head _)⟩
   (fun y e h => by
     rw [lookup_cons'] at h
     split at h
     · rename_i hy; cases h; subst hy; exact ⟨_, rfl, rfl, rfl⟩
     · cases h)
   (fun c hc Ca KC => ⟨evIfs_nil, fun _ => ev_fn KC (f := "_law_written") (fn_written B (hF 10 (by decide)) hord eol c (M11 c hc)) rfl (evA_cons KC (ev_name KC rfl rfl) (evA_cons KC (ev_name KC rfl rfl) evA_nil))⟩) (.inl (by rw [filter_yes, List.map_map]; rfl)) (wp_nil ⟨rfl, ?_⟩) rfl rfl (by lia) (by decide) rfl rfl (by decide))
 have hwl : (octets.map fun c => (wrF eol c).length).sum ≤ 3000 := by
   have := sum_le (fun c => (wrF eol c).length) 3 (fun c => wrF_len eol hel.1 c) octets
   lia
 have hslf : slc (st.map pairD) (some (near.length : Int)) none = far.map pairD := by
   rw [← M2, List.map_drop]; exact slc_drop' _ near.length
 refine wpN_liftN (wp_assign K (d := .lst (anew.map fun n => .int (n : Nat))) (ev_sub K (ev_fn K (f := "_law_laid") (fn_laid2 B (hF 11 (by decide)) hlen' hchr hsum octets (octets.map fun c => (wrF eol c).length) far (by lia) (by lia) (by rw [List.length_map]) (by lia) M5) rfl
   (evA_cons K (ev_name K rfl rfl) (evA_cons K (ev_eq (ev_comp K D.str (fun p : List Nat => D.int (p.length : Nat)) (fun _ => true) (octets.map (wrF eol)) [] (it_lst K (ev_name K rfl rfl)) rfl CellsOk.nil (fun y e h => by cases h)
     (fun p hp Ca KC => ⟨evIfs_nil, fun _ => ev_callF KC rfl hlen' (by decide +kernel) (evA_cons KC (ev_name KC rfl rfl) evA_nil) (fn_len_str _ (by
       obtain ⟨c, _, rfl⟩ := List.mem_map.mp hp
       have := wrF_len eol hel.1 c
       lia))⟩) (by rw [List.length_map]; lia) (by decide) rfl rfl (by decide)) (b := .lst ((octets.map fun c => (wrF eol c).length).map fun n : Nat => .int (n : Nat))) (by rw [filter_yes, List.map_map, List.map_map]; rfl))
     (evA_cons K (ev_eq (ev_slice K (ev_name K rfl rfl) (evP_some K (ev_callF K rfl hlen' (by decide +kernel) (evA_cons K (ev_name K rfl rfl) evA_nil) (fn_len_lst _ (by rw [List.length_map]; lia)))) evP_none (opSl_lst _ _ (by rw [List.length_map]; lia))) (by rw [List.length_map]; exact congrArg D.lst hslf)) evA_nil)))) (ev_int 1) (op_item_tup (j := 1) (by decide) (by decide) rfl (by rw [M10]; rfl))) (wp_nil ⟨rfl, ?_⟩) rfl rfl)
 refine wpN_assign K (d := .str octets) (evN_ofQ (evQ_fn K hg (f := "punycode_decode") (fn_pdE G M12).q rfl (evAQ_cons K (evQ_fn K hg (f := "_law_label") (fn_labE G M12) rfl (evAQ_of (evA_cons K (ev_name K rfl rfl) (evA_cons K (ev_name K rfl rfl) evA_nil)))) (evAQ_of (evA_cons K (ev_str (l := strictL) rfl) evA_nil))))) ?_ rfl rfl
 refine wpN_assign K (d := .str text) (evN_ofQ (evQ_fn K hg (f := "punycode_decode") (fn_pdE G M13).q rfl (evAQ_cons K (evQ_fn K hg (f := "_law_label") (fn_labE G M13) rfl (evAQ_of (evA_cons K (ev_name K rfl rfl) (evA_cons K (ev_name K rfl rfl) evA_nil)))) (evAQ_of (evA_cons K (ev_str (l := strictL) rfl) evA_nil))))) ?_ rfl rfl
 refine wpN_liftN (wp_if K (c := false) (evT_eq (evT_bool (evOr_cons K (b := false) (c := false || false) (evT_eq (evT_cmp K (ev_name K rfl rfl) (ev_name K rfl rfl) (op_sne _ _)) (by simp)) fun _ => evOr_cons K (evT_eq (evT_cmp K (ev_name K rfl rfl) (ev_name K rfl rfl) (op_sne _ _)) (by simp)) fun _ => evOr_nil)) rfl) (fun h => by cases h) (fun _ => wp_nil (wp_nil ⟨rfl, ?_⟩)))
 refine wpN_liftN (wp_assign K (d := .str written) (ev_fn K (f := "body_encode") (fn_encE G M16 (by decide) (by decide) hel.2.1 hel.1) rfl (evA_cons K (ev_name K rfl rfl) (evA_cons K (ev_eqI (ev_int 1000) rfl) (evA_cons K (ev_name K rfl rfl) evA_nil)))) (wp_nil ⟨rfl, ?_⟩) rfl rfl)
 refine wpN_liftN (wp_if K (c := false) (evT_eq (evT_cmp K (ev_name K rfl rfl) (ev_meth K (hasT_str _) F.plainAttrs_str F.slot_str_join F.type_str_join (ev_str (l := []) rfl) (evA_cons K (ev_name K rfl rfl) evA_nil) (fn_join [] _ ?_)) (op_sne _ _)) (by rw [join_flat, ← List.flatMap_def, M15]; simp)) (fun h => by cases h) (fun _ => wp_nil (wp_nil ⟨rfl, ?_⟩)))
 · rw [List.map_map]
   have := sum_le (fun c => (wrF eol c).length + ([] : List Nat).length) 3 (fun c => wrF_len eol hel.1 c) octets
   show (octets.map fun c => (wrF eol c).length + ([] : List Nat).length).sum ≤ _
   lia
 refine wpN_assign K (d := .str laid) (evN_ofQ (evQ_fn K hg (f := "punycode_decode") (fn_pdE G M14).q rfl (evAQ_cons K (evQ_fn K hg (f := "_law_label") (fn_labE G M14) rfl (evAQ_of (evA_cons K (ev_name K rfl rfl) (evA_cons K (ev_name K rfl rfl) evA_nil)))) (evAQ_of (evA_cons K (ev_str (l := strictL) rfl) evA_nil))))) ?_ rfl rfl
 refine wpN_liftN (wp_if K (c := false) (evT_eq (evT_bool (evOr_cons K (b := false) (c := false || false) (evT_eq (evT_cmp K (ev_name K rfl rfl) (ev_fn K (f := "body_encode") (fn_encE G M17 (by decide) (by decide) hel.2.1 hel.1) rfl (evA_cons K (ev_name K rfl rfl) (evA_cons K (ev_eqI (ev_int 1000) rfl) (evA_cons K (ev_name K rfl rfl) evA_nil)))) (op_sne _ _)) (by simp)) fun _ =>
   evOr_cons K (evT_eq (evT_cmp K (ev_fn K (f := "decode") (fn_dec1 B (hF 0 (by decide)) G.dec hlen' hchr hint G.hex M19) rfl (evA_cons K (ev_name K rfl rfl) evA_nil)) (ev_name K rfl rfl) (op_sne _ _)) (by simp)) fun _ => evOr_nil)) rfl) (fun h => by cases h) (fun _ => wp_nil (wp_nil ⟨rfl, ?_⟩)))
 refine wpN_liftN (wp_assign K (d := .str short) (ev_fn K (f := "body_encode") (fn_encE G M18 hm4.1 (by lia) hel.2.1 hel.1) rfl (evA_cons K (ev_name K rfl rfl) (evA_cons K (ev_name K rfl rfl) (evA_cons K (ev_name K rfl rfl) evA_nil)))) (wp_nil ⟨rfl, ?_⟩) rfl rfl)
 have hsl2 : short.length ≤ 1000000 := M20.size
 have hrn := cutL_len eol short.length short [] (Nat.le_refl _)
 have hrl : ∀ r ∈ cutL eol [] short, r.length ≤ 12 := fun r hr => Nat.le_trans (M21 r hr) hm4.2
 refine wpN_liftN (wp_compG K D.str (fun r : List Nat => D.int (r.length : Nat)) (fun _ => true) (cutL eol [] short) [] (.v (.lst (((cutL eol [] short).map fun r : List Nat => ((r.length : Nat) : Int)).map .int))) (it_lst K (ev_meth K (hasT_str _) F.plainAttrs_str F.slot_str_split F.type_str_split (ev_name K rfl rfl) (evA_cons K (ev_name K rfl rfl) evA_nil) (fn_split short eol hene hel.2.2 (by lia)))) rfl CellsOk.nil (fun y e h => by cases h)
   (fun r hr Ca KC => ⟨evIfs_nil, fun _ => ev_callF KC rfl hlen' (by decide +kernel) (evA_cons KC (ev_name KC rfl rfl) evA_nil) (fn_len_str _ (by have := hrl r hr; lia))⟩) (.inl (by rw [filter_yes, List.map_map]; rfl)) (wp_nil ⟨rfl, ?_⟩) rfl rfl (by lia) (by decide) rfl rfl (by decide))
 obtain ⟨mx, hmx1, hmx2⟩ : ∃ x ∈ (cutL eol [] short).map fun r : List Nat => ((r.length : Nat) : Int), ∀ a ∈ (cutL eol [] short).map fun r : List Nat => ((r.length : Nat) : Int), a ≤ x := max_ex _ (by simp [cutL_ne eol [] short])
 have hmx3 : mx ≤ m := by
   obtain ⟨r, hr, rfl⟩ := List.mem_map.mp hmx1
   have := M21 r hr
   lia
 refine wpN_ret K (evN_and K (evN_of (ev_eq (ev_cmp K (ev_callF K rfl (G.bi "max" (by decide)) (by decide +kernel) (evA_cons K (ev_name K rfl rfl) evA_nil) (fn_max hmx1 hmx2)) (ev_name K rfl rfl) (op_le _ _)) (by rw [decide_eq_true hmx3])))
   (evN_and K (evN_eq (evN_cmp K (evN_ofK (ev_replaceB K (a := [61]) (b := []) (c := eol) (ev_name K rfl rfl) rfl rfl rfl rfl (by simp) hene (by simp) (by show 1 + _ ≤ _; lia) (by show _ + _ * 0 ≤ _; lia))) (evN_of (ev_name K rfl rfl)) (op_seq _ _)) (by rw [M22, beq_self_eq_true]))
     (evN_and1 (evN_of (ev_eq (ev_cmp K (ev_fn K (f := "decode") (fn_dec1 B (hF 0 (by decide)) G.dec hlen' hchr hint G.hex M20) rfl (evA_cons K (ev_name K rfl rfl) evA_nil)) (ev_name K rfl rfl) (op_seq _ _)) (by rw [beq_self_eq_true])))))) rfl
end
end
section
open PySem PySem.W PySem.Calls PyProof.Rows
noncomputable def scopesOk (p : Program) (n : Nat) : Bool := (List.range n).all fun k => (recAt p k).scope.kind == .function && !(recAt p k).scope.isGenerator && !(recAt p k).scope.isCoroutine && ((recAt p k).scope.names.all fun x => x.2 != .cell)
noncomputable def bi2 : List Str := ["len", "chr", "ord", "sum", "int", "str", "bytes", "bytearray", "enumerate", "isinstance", "memoryview", "sorted", "max"]
structure KFacts2 (K : Frag) : Prop where
 quiet : nsIn K cStatics sharingNotToldKey = some none
 bi : noneIn K bi2 = true
 digs : (nsIn K mainGlobals "digits_punycode").map (·.map toD) = some (some (some (.bytes digs)))
 hex : (nsIn K mainGlobals "hexdigits").map (·.map toD) = some (some (some (.str hexD)))
 crlf : (nsIn K mainGlobals "CRLF").map (·.map toD) = some (some (some (.str [13, 10])))
 quo : nsIn K mainGlobals "_QUOPRI_MAP" = some (some (.ref 17))
 quoL : (listAt K 17).map (·.map toD) = some (quoMap.map some)
 enc : nsIn K mainGlobals "_QUOPRI_BODY_ENCODE_MAP" = some (some (.ref 46))
 encL : (listAt K 46).map (·.map toD) = some ((encMap.map D.str).map some)
 be : nsIn K mainGlobals (recAtW p1 0).name = some (some (.ref 57))
 beF : fdAt K 57 = some (docAtW p1 0 (pmAt K 57) (codeAt K 57) .none 50)
 beC : codeIn K (codeAt K 57) (recAtW p1 0).name = true
 beD : (seqAt K 50).map (·.map toD) = some (([.int 76, .str [10]] : List D).map some)
 de : nsIn K mainGlobals (recAtW p1 1).name = some (some (.ref 65))
 deF : fdAt K 65 = some (docAtW p1 1 (pmAt K 65) (codeAt K 65) .none 58)
 deC : codeIn K (codeAt K 65) (recAtW p1 1).name = true
 deD : (seqAt K 58).map (·.map toD) = some (([.str [10]] : List D).map some)
theorem kf (P : Params) : KFacts2 (KK P) where
 quiet := by kernel_rfl
 bi := by kernel_rfl
 digs := by kernel_rfl
 hex := by kernel_rfl
 crlf := by kernel_rfl
 quo := by kernel_rfl
 quoL := by kernel_rfl
 enc := by kernel_rfl
 encL := by kernel_rfl
 be := by kernel_rfl
 beF := by kernel_rfl
 beC := by kernel_rfl
 beD := by kernel_rfl
 de := by kernel_rfl
 deF := by kernel_rfl
 deC := by kernel_rfl
 deD := by kernel_rfl
end
section
theorem cutL_acc (y : List Nat) : ∀ (n : Nat) (l acc : List Nat), l.length ≤ n → ∃ h t, cutL y [] l = h :: t ∧ cutL y acc l = (acc ++ h) :: t
 | _, [], acc, _ => ⟨[], [], by rw [cutL], by rw [cutL, List.append_nil]⟩
 | 0, c :: r, _, h => by simp at h
 | n + 1, c :: r, acc, h => by
   simp only [List.length_cons] at h
   rw [cutL, cutL]
   split
   · exact ⟨[], _, rfl, by rw [List.append_nil]⟩
   · obtain ⟨h1, t1, e1, e2⟩ := cutL_acc y n r (acc ++ [c]) (by exact ar240 h)
     obtain ⟨h2, t2, e3, e4⟩ := cutL_acc y n r ([] ++ [c]) (by exact ar240 h)
     rw [e1] at e3; cases e3
     exact ⟨[] ++ [c] ++ h1, t1, e4, by rw [e2]; simp⟩
theorem joinL_acc (z acc h : List Nat) : ∀ t : List (List Nat), joinL z ((acc ++ h) :: t) = acc ++ joinL z (h :: t)
 | [] => rfl
 | b :: t => by rw [joinL, joinL, List.append_assoc, List.append_assoc, List.append_assoc]
theorem replL_nil (y z : List Nat) : replL [] y z = [] := by unfold replL; rw [cutL]; rfl
theorem joinL_cons_nil (z : List Nat) {t : List (List Nat)} (h : t ≠ []) : joinL z ([] :: t) = z ++ joinL z t := by
 cases t with
 | nil => exact absurd rfl h
 | cons b t => rw [joinL]; rfl
theorem replL_hit (y z : List Nat) {c : Nat} {r : List Nat} (h : y.isPrefixOf (c :: r) = true) : replL (c :: r) y z = z ++ replL (r.drop (y.length - 1)) y z := by
 unfold replL
 rw [cutL, if_pos h]
 exact joinL_cons_nil z (cutL_ne _ _ _)
theorem replL_miss (y z : List Nat) {c : Nat} {r : List Nat} (h : ¬ y.isPrefixOf (c :: r) = true) : replL (c :: r) y z = c :: replL r y z := by
 unfold replL
 rw [cutL, if_neg h]
 obtain ⟨h1, t1, e1, e2⟩ := cutL_acc y _ r ([] ++ [c]) (Nat.le_refl _)
 rw [e1, e2, joinL_acc]; rfl
theorem lb_strange {c : Nat} (h1 : 161 ≤ c) (h2 : c ≤ 5759) : Unicode.isLineBreak c = false := by
 unfold Unicode.isLineBreak UnicodeData.lineBreak UnicodeData.lineBreak0
 simp [Unicode.within]; lia
theorem sp_strange {c : Nat} (h1 : 161 ≤ c) (h2 : c ≤ 5759) : Unicode.isSpace c = false := by
 unfold Unicode.isSpace UnicodeData.space UnicodeData.space0
 simp [Unicode.within]; omega
def okS (c : Nat) : Prop := c = 9 ∨ c = 10 ∨ c = 13 ∨ (32 ≤ c ∧ c ≤ 126)
theorem lb_ok {c : Nat} (h : okS c) (h1 : c ≠ 10) (h2 : c ≠ 13) : Unicode.isLineBreak c = false := by
 have key : ∀ c < 127, (c = 9 ∨ (32 ≤ c ∧ c ≤ 126)) → Unicode.isLineBreak c = false := by decide +kernel
 rcases h with h | h | h | h
 · exact key c (by exact ar92 h) (.inl h)
 · exact absurd h h1
 · exact absurd h h2
 · exact key c (by exact ar38 h) (.inr h)
theorem sp_ok {c : Nat} (h : 33 ≤ c) (h2 : c ≤ 126) : Unicode.isSpace c = false := by
 have key : ∀ c < 127, 33 ≤ c → Unicode.isSpace c = false := by decide +kernel
 exact key c (by exact ar107 h2) h
theorem hexU_ok (d : Nat) (h : d < 16) : (48 ≤ hexU d ∧ hexU d ≤ 57) ∨ (65 ≤ hexU d ∧ hexU d ≤ 70) := by
 exact (show ∀ d < 16, (48 ≤ hexU d ∧ hexU d ≤ 57) ∨ (65 ≤ hexU d ∧ hexU d ≤ 70) by decide) d h
theorem trB_ok {c : Nat} (h : c < 256) : (∀ s ∈ trB c, okS s) ∧ trB c ≠ [] := by
 unfold trB
 split
 · rename_i hp
   refine ⟨fun s hs => ?_, by simp⟩
   rw [List.mem_singleton.mp hs]
   rw [show decide (256 ≤ c) = false from decide_eq_false (by exact ar83 h), Bool.or_false] at hp
   unfold plainB at hp
   simp only [Bool.or_eq_true, Bool.and_eq_true, beq_iff_eq, decide_eq_true_eq, bne_iff_ne, ne_eq] at hp
   unfold okS; exact ar36 hp
 · refine ⟨fun s hs => ?_, by simp [escU]⟩
   have h1 := hexU_ok (c / 16) (by exact ar81 h)
   have h2 := hexU_ok (c % 16) (by exact ar170)
   simp only [escU, List.mem_cons, List.not_mem_nil, or_false] at hs
   unfold okS; rcases hs with rfl | rfl | rfl <;> lia
theorem linesGo_app : ∀ (t cur r : List Nat), (∀ c ∈ t, Unicode.isLineBreak c = false) → linesGo cur (t ++ r) = linesGo (cur ++ t) r
 | [], cur, r, _ => by rw [List.nil_append, List.append_nil]
 | c :: t, cur, r, h => by
   rw [List.cons_append, linesGo, if_neg (by rw [h c (.head _)]; exact Bool.false_ne_true), linesGo_app t _ r fun d hd => h d (.tail _ hd), List.append_assoc]; rfl
theorem lb10 : Unicode.isLineBreak 10 = true := by decide +kernel
theorem lb13 : Unicode.isLineBreak 13 = true := by decide +kernel
theorem linesGo_10 (cur r : List Nat) : linesGo cur (10 :: r) = cur :: linesGo [] r := by
 rw [linesGo, if_pos lb10]; unfold skipLf; rw [if_neg fun h => absurd h.1 (by decide)]
theorem linesGo_crlf (cur r : List Nat) : linesGo cur (13 :: 10 :: r) = cur :: linesGo [] r := by
 rw [linesGo, if_pos lb13]; unfold skipLf; rw [if_pos ⟨rfl, rfl⟩]; rfl
theorem linesGo_13 {cur r : List Nat} (h : r.head? ≠ some 10) : linesGo cur (13 :: r) = cur :: linesGo [] r := by
 rw [linesGo, if_pos lb13]; unfold skipLf; rw [if_neg fun q => h q.2]
theorem joinL_app (z : List Nat) : ∀ (a b : List (List Nat)), a ≠ [] → b ≠ [] → joinL z (a ++ b) = joinL z a ++ (z ++ joinL z b)
 | [], b, h, _ => absurd rfl h
 | [x], [], _, h => absurd rfl h
 | [x], y :: b, _, _ => by show joinL z (x :: y :: b) = x ++ _; rw [joinL.eq_3]; simp only [List.append_assoc]
 | x :: y :: a, b, _, hb => by
   show joinL z (x :: y :: (a ++ b)) = _
   have := joinL_app z (y :: a) b (by simp) hb
   rw [List.cons_append] at this
   rw [joinL.eq_3, this, joinL.eq_3]
   simp only [List.append_assoc]
theorem ggi_len2 (N j b : Nat) : (ggi N j b).length ≤ N / 10 + 2 := by
 rw [ggi]
 have h2 := tN_le j b
 split
 · simp
 · have := ggi_len ((N - tN j b) / (36 - tN j b)) (j + 1) b
   have h3 : (N - tN j b) / (36 - tN j b) ≤ N / 10 := by
     have h4 : (N - tN j b) / (36 - tN j b) ≤ (N - tN j b) / 10 := Nat.div_le_div_left (by exact ar126 h2) (by exact ar5)
     have h5 : (N - tN j b) / 10 ≤ N / 10 := Nat.div_le_div_right (by exact ar371)
     exact ar449 h4
   simp only [List.length_cons]; exact ar464 this h3
theorem decOk_cons {c : Nat} (h : c ≠ 61) : ∀ {r : List Nat}, decOk r → decOk (c :: r)
 | [], _ => trivial
 | [a], _ => trivial
 | a :: b :: r, q => by rw [decOk, if_neg fun q => h q.1]; exact q
structure Comp (mark cur o : List Nat) : Prop where
 dec : ∀ more, decLine mark (cur ++ more) = o ++ decLine mark more
 ok : ∀ more, decOk more → decOk (cur ++ more)
theorem Comp.nil {mark : List Nat} : Comp mark [] [] := ⟨fun _ => rfl, fun _ h => h⟩
theorem Comp.app {mark a b o p : List Nat} (h : Comp mark a o) (g : Comp mark b p) : Comp mark (a ++ b) (o ++ p) :=
 ⟨fun more => by rw [List.append_assoc, h.dec, g.dec, List.append_assoc], fun more q => by rw [List.append_assoc]; exact h.ok _ (g.ok _ q)⟩
theorem Comp.one {mark : List Nat} {c : Nat} (h : c ≠ 61) : Comp mark [c] [c] := ⟨fun more => decLine_ne h more, fun more q => decOk_cons h q⟩
theorem hexU_ne (d : Nat) (h : d < 16) : hexU d ≠ 61 := (show ∀ d < 16, hexU d ≠ 61 by decide) d h
theorem hexU_mem (d : Nat) (h : d < 16) : hexU d ∈ hexD := (show ∀ d < 16, hexU d ∈ hexD by decide) d h
theorem line_end {mark C o : List Nat} (h : Comp mark C o) (hl : ∀ c, C.getLast? = some c → Unicode.isSpace c = false) : decLine mark (rstripL C) = o ++ mark ∧ decOk (rstripL C) := by
 have e : rstripL C = C := rstrip_id C hl
 have h1 := h.dec []
 have h2 := h.ok [] trivial
 rw [List.append_nil] at h1 h2
 rw [e]
 exact ⟨by rw [h1, decLine], h2⟩
theorem decAll_cons (mark l : List Nat) (ls : List (List Nat)) : decAll mark (l :: ls) = decLine mark (rstripL l) ++ decAll mark ls := by unfold decAll; rw [List.flatMap_cons]
theorem last_app {α : Type} {a b : List α} (hb : b ≠ []) : (a ++ b).getLast? = b.getLast? := by
 rw [List.getLast?_append]
 cases hr : b.getLast? with
 | none => exact absurd (List.getLast?_eq_none_iff.mp hr) hb
 | some d => rfl
theorem sp61 : Unicode.isSpace 61 = false := by decide +kernel
end
section
def TOk (c : Nat) : Prop := c = 0 ∨ c = 10 ∨ (32 ≤ c ∧ c ≤ 5255)
theorem plainB_of {c : Nat} (h : c = 9 ∨ c = 10 ∨ c = 13 ∨ (32 ≤ c ∧ c ≤ 126 ∧ c ≠ 61)) : plainB c = true := by
 unfold plainB
 simp only [Bool.or_eq_true, Bool.and_eq_true, beq_iff_eq, decide_eq_true_eq, bne_iff_ne, ne_eq]
 lia
theorem trB_cases {c : Nat} (h : TOk c) (h10 : c ≠ 10) : (trB c = [c] ∧ c ≠ 61 ∧ ((32 ≤ c ∧ c ≤ 126) ∨ (256 ≤ c ∧ c ≤ 5255))) ∨ (trB c = escU c ∧ c < 256 ∧ c ≠ 32) := by
 unfold trB
 by_cases h1 : 256 ≤ c
 · left
   rw [if_pos (by simp [h1])]
   unfold TOk at h
   exact ⟨rfl, by lia, by lia⟩
 · by_cases h2 : 32 ≤ c ∧ c ≤ 126 ∧ c ≠ 61
   · left
     rw [if_pos (by rw [plainB_of (by lia)]; rfl)]
     exact ⟨rfl, by lia, by lia⟩
   · right
     have : plainB c = false := by
       unfold plainB
       unfold TOk at h
       simp only [Bool.or_eq_false_iff, Bool.and_eq_false_iff, beq_eq_false_iff_ne, decide_eq_false_iff_not, bne_eq_false_iff_eq]
       lia
     rw [if_neg (by simp [this, h1])]
     exact ⟨rfl, by lia, by lia⟩
theorem wrF_trB {eol : List Nat} {c : Nat} (h : TOk c) (h2 : c < 256) : wrF eol c = if c = 10 then eol else trB c := by
 unfold wrF
 by_cases h10 : c = 10
 · rw [if_pos h10, if_pos h10]
 · rw [if_neg h10, if_neg h10]
   rcases trB_cases h h10 with ⟨e, a, b⟩ | ⟨e, a, b⟩
   · rw [e, if_pos (by lia)]
   · rw [e]
     by_cases hp : 32 ≤ c ∧ c ≤ 126 ∧ c ≠ 61
     · exfalso
       have : trB c = [c] := by unfold trB; rw [if_pos (by rw [plainB_of (by lia)]; rfl)]
       rw [this] at e
       have := congrArg List.length e
       exact absurd this (by simp [escU])
     · rw [if_neg hp]
theorem hexU_pl {d : Nat} (h : d < 16) : 48 ≤ hexU d ∧ hexU d ≤ 70 ∧ hexU d ≠ 61 := by have := hexU_ok d h; lia
theorem lb_pl {c : Nat} (h : 32 ≤ c ∧ c ≤ 126) : Unicode.isLineBreak c = false := lb_ok (.inr (.inr (.inr h))) (by lia) (by lia)
def ROk (c : Nat) : Prop := (32 ≤ c ∧ c ≤ 126) ∨ (256 ≤ c ∧ c ≤ 5255)
theorem ROk.lb {c : Nat} (h : ROk c) : Unicode.isLineBreak c = false := h.elim lb_pl fun h => lb_strange (by lia) (by lia)
theorem ROk.ne {c : Nat} (h : ROk c) : c ≠ 10 ∧ c ≠ 13 := by unfold ROk at h; lia
theorem trB_rok {c : Nat} (h : TOk c) (h10 : c ≠ 10) : ∀ x ∈ trB c, ROk x := fun x hx => by
 rcases trB_cases h h10 with ⟨e, a, b⟩ | ⟨e, a, b⟩
 · rw [e] at hx; rw [List.mem_singleton.mp hx]; exact b
 · rw [e] at hx
   have h1 := hexU_pl (d := c / 16) (by lia)
   have h2 := hexU_pl (d := c % 16) (by lia)
   simp only [escU, List.mem_cons, List.not_mem_nil, or_false] at hx
   rcases hx with rfl | rfl | rfl
   · exact .inl (by lia)
   · exact .inl (by lia)
   · exact .inl (by lia)
theorem flat_rok {l : List Nat} (h : ∀ c ∈ l, TOk c ∧ c ≠ 10) : ∀ x ∈ l.flatMap trB, ROk x := fun x hx => by
 obtain ⟨c, hc, hx⟩ := List.mem_flatMap.mp hx
 exact trB_rok (h c hc).1 (h c hc).2 x hx
theorem trB_len {c : Nat} (h : TOk c) : 1 ≤ (trB c).length ∧ (trB c).length ≤ 3 := by
 by_cases h10 : c = 10
 · subst h10; decide
 · rcases trB_cases h h10 with ⟨e, _⟩ | ⟨e, _⟩ <;> rw [e]
   · exact ⟨Nat.le_refl 1, by show 1 ≤ 3; decide⟩
   · exact ⟨by show 1 ≤ 3; decide, Nat.le_refl 3⟩
theorem flat_ne {l : List Nat} (h : ∀ c ∈ l, TOk c) (hne : l ≠ []) : l.flatMap trB ≠ [] := by
 cases l with
 | nil => exact absurd rfl hne
 | cons c l =>
   intro e
   rw [List.flatMap_cons] at e
   have := (trB_len (h c (.head _))).1
   rw [(List.append_eq_nil_iff.mp e).1] at this
   exact absurd this (by decide)
theorem flat_last {l : List Nat} (h : ∀ c ∈ l, TOk c ∧ c ≠ 10) (hl : ∀ c, l.getLast? = some c → c ≠ 32) : ∀ x, (l.flatMap trB).getLast? = some x → ROk x ∧ x ≠ 32 := fun x hx => by
 refine ⟨flat_rok h x (List.mem_of_getLast? hx), ?_⟩
 cases hq : l.getLast? with
 | none => rw [List.getLast?_eq_none_iff.mp hq] at hx; cases hx
 | some c =>
   obtain ⟨l', rfl⟩ := List.getLast?_eq_some_iff.mp hq
   have hc := h c (by simp)
   rw [List.flatMap_append, List.flatMap_cons, List.flatMap_nil, List.append_nil] at hx
   have hne : trB c ≠ [] := fun e => by have := (trB_len hc.1).1; rw [e] at this; exact absurd this (by decide)
   rw [last_app hne] at hx
   rcases trB_cases hc.1 hc.2 with ⟨e, a, b⟩ | ⟨e, a, b⟩
   · rw [e] at hx; cases hx; exact hl _ hq
   · rw [e] at hx
     have h2 := hexU_pl (d := c % 16) (by lia)
     have : hexU (c % 16) = x := by simpa [escU] using hx
     lia
theorem sp_rok {x : Nat} (h : ROk x) (h32 : x ≠ 32) : Unicode.isSpace x = false := h.elim (fun h => sp_ok (by lia) h.2) fun h => sp_strange (by lia) (by lia)
noncomputable def sp (acc : List Nat) : List Nat → List (List Nat)
 | [] => [acc]
 | c :: r => if c = 10 then acc :: sp [] r else sp (acc ++ [c]) r
theorem sp_ne (acc l : List Nat) : sp acc l ≠ [] := by
 induction l generalizing acc with
 | nil => simp [sp]
 | cons c r ih => rw [sp]; split <;> simp [ih]
theorem sp_mem : ∀ (l acc : List Nat), (∀ c ∈ acc, c ≠ 10) → ∀ x ∈ sp acc l, ∀ c ∈ x, c ≠ 10 ∧ (c ∈ acc ∨ c ∈ l)
 | [], acc, h, x, hx, c, hc => by rw [List.mem_singleton.mp hx] at hc; exact ⟨h c hc, .inl hc⟩
 | d :: r, acc, h, x, hx, c, hc => by
   rw [sp] at hx
   split at hx
   · rcases List.mem_cons.mp hx with rfl | hx
     · exact ⟨h c hc, .inl hc⟩
     · have := sp_mem r [] (fun _ h => by cases h) x hx c hc
       exact ⟨this.1, .inr (this.2.elim (fun h => by cases h) fun h => .tail _ h)⟩
   · rename_i hd
     have := sp_mem r (acc ++ [d]) (fun c hc => (List.mem_append.mp hc).elim (h c) fun e => by rw [List.mem_singleton.mp e]; exact hd) x hx c hc
     refine ⟨this.1, this.2.elim (fun e => (List.mem_append.mp e).elim .inl fun e => ?_) fun e => .inr (.tail _ e)⟩
     rw [List.mem_singleton.mp e]; exact .inr (.head _)
theorem sp_flat : ∀ (l acc : List Nat), (sp acc l).flatMap (fun x => x ++ [10]) = acc ++ l ++ [10]
 | [], acc => by simp [sp]
 | c :: r, acc => by
   rw [sp]
   split
   · rename_i h; subst h
     rw [List.flatMap_cons, sp_flat r []]; simp
   · rw [sp_flat r]; simp
theorem joinL_cons (z x : List Nat) {l : List (List Nat)} (h : l ≠ []) : joinL z (x :: l) = x ++ (z ++ joinL z l) := by
 cases l with
 | nil => exact absurd rfl h
 | cons y r => rw [joinL, List.append_assoc]
noncomputable def wB (eol : List Nat) (c : Nat) : List Nat := if c = 10 then eol else trB c
theorem sp_join (eol : List Nat) : ∀ (l acc : List Nat), joinL eol ((sp acc l).map fun x => x.flatMap trB) = acc.flatMap trB ++ l.flatMap (wB eol)
 | [], acc => by simp [sp, joinL]
 | c :: r, acc => by
   rw [sp]
   split
   · rename_i h; subst h
     rw [List.map_cons, joinL_cons _ _ (by simp [sp_ne]), sp_join eol r []]
     simp [wB]
   · rename_i h
     have e : wB eol c = trB c := if_neg h
     rw [sp_join eol r, List.flatMap_append, List.flatMap_cons (x := c) (xs := r), e]; simp
theorem sp_lines : ∀ (l acc : List Nat), (∀ c ∈ l, TOk c) → (∀ x, (sp acc l).getLast? = some x → x ≠ []) → (∀ c ∈ acc, TOk c ∧ c ≠ 10) →
   linesGo (acc.flatMap trB) (l.flatMap trB) = (sp acc l).map fun x => x.flatMap trB
 | [], acc, h, hl, ha => by
   have hne : acc ≠ [] := hl acc rfl
   have := flat_ne (fun c hc => (ha c hc).1) hne
   rw [List.flatMap_nil, linesGo, sp, List.map_cons, List.map_nil, if_neg (by simpa using this)]
 | c :: r, acc, h, hl, ha => by
   have hr : ∀ d ∈ r, TOk d := fun d hd => h d (.tail _ hd)
   rw [sp] at hl ⊢
   rw [List.flatMap_cons]
   split
   · rename_i h10; subst h10
     rw [if_pos rfl] at hl
     have e : trB 10 = [10] := rfl
     have ih := sp_lines r [] hr (fun x hx => hl x (by
       rw [List.getLast?_cons, hx]; rfl)) (fun _ h => by cases h)
     rw [e, List.singleton_append, linesGo_10, List.map_cons]
     rw [List.flatMap_nil] at ih
     rw [ih]
   · rename_i h10
     rw [if_neg h10] at hl
     have hc := h c (.head _)
     rw [linesGo_app _ _ _ fun x hx => (trB_rok hc h10 x hx).lb]
     have e : acc.flatMap trB ++ trB c = (acc ++ [c]).flatMap trB := by simp
     rw [e]
     exact sp_lines r (acc ++ [c]) hr hl fun d hd => (List.mem_append.mp hd).elim (ha d) fun e => by rw [List.mem_singleton.mp e]; exact ⟨hc, h10⟩
theorem join_lines {eol : List Nat} (he : eol = [10] ∨ eol = [13, 10] ∨ eol = [13]) : ∀ (rows : List (List Nat)), rows ≠ [] → (∀ r ∈ rows, ∀ c ∈ r, ROk c) → (∀ x, rows.getLast? = some x → x ≠ []) → linesGo [] (joinL eol rows) = rows
 | [], h, _, _ => absurd rfl h
 | [x], _, hr, hl => by
   have hne := hl x rfl
   have := linesGo_app x [] [] fun c hc => (hr x (.head _) c hc).lb
   rw [List.append_nil, List.nil_append] at this
   rw [joinL, this, linesGo, if_neg (by simpa using hne)]
 | x :: y :: r, _, hr, hl => by
   have ih := join_lines he (y :: r) (by simp) (fun z hz => hr z (.tail _ hz)) fun z hz => hl z (by rw [List.getLast?_cons_cons]; exact hz)
   rw [joinL_cons _ _ (by simp), linesGo_app _ _ _ fun c hc => (hr x (.head _) c hc).lb, List.nil_append]
   rcases he with rfl | rfl | rfl
   · rw [List.singleton_append, linesGo_10, ih]
   · show linesGo x (13 :: 10 :: joinL [13, 10] (y :: r)) = _
     rw [linesGo_crlf, ih]
   · rw [List.singleton_append, linesGo_13, ih]
     intro h
     cases y with
     | nil =>
       cases r with
       | nil => exact hl [] rfl rfl
       | cons z r => rw [joinL_cons _ _ (by simp)] at h; cases h
     | cons a y =>
       have ha : ROk a := hr (a :: y) (.tail _ (.head _)) a (.head _)
       have : (joinL [13] ((a :: y) :: r)).head? = some a := by
         cases r with
         | nil => rfl
         | cons z r => rw [joinL_cons _ _ (by simp)]; rfl
       rw [this] at h
       cases h
       exact ha.ne.1 rfl
end
section
inductive Rw (m : Nat) : List Nat → List (List Nat) → Prop
 | last (l : List Nat) : (l.flatMap trB).length ≤ m → Rw m l [l.flatMap trB]
 | soft (p r : List Nat) (rows : List (List Nat)) : p ≠ [] → r ≠ [] → (p.flatMap trB).length + 1 ≤ m → Rw m r rows → Rw m (p ++ r) ((p.flatMap trB ++ [61]) :: rows)
def EqOk (P : List Nat) : Prop := ∀ q, P[q]? = some 61 → q + 3 ≤ P.length
theorem trB_eq {c : Nat} (h : TOk c ∧ c ≠ 10) : (∃ d, trB c = [d] ∧ d ≠ 61) ∨ ∃ a b, trB c = [61, a, b] ∧ a ≠ 61 ∧ b ≠ 61 := by
 rcases trB_cases h.1 h.2 with ⟨e, a, b⟩ | ⟨e, a, b⟩
 · exact .inl ⟨c, e, a⟩
 · exact .inr ⟨_, _, e, (hexU_pl (by lia)).2.2, (hexU_pl (by lia)).2.2⟩
theorem eqOk_app {P : List Nat} {c : Nat} (h : EqOk P) (hc : TOk c ∧ c ≠ 10) : EqOk (P ++ trB c) := fun q hq => by
 rw [List.length_append]
 by_cases hlt : q < P.length
 · rw [List.getElem?_append_left hlt] at hq
   have := h q hq; lia
 · rw [List.getElem?_append_right (by lia)] at hq
   obtain ⟨k, hk⟩ : ∃ k, q - P.length = k := ⟨_, rfl⟩
   rw [hk] at hq
   rcases trB_eq hc with ⟨d, h1, h2⟩ | ⟨a, b, h1, h2, h3⟩
   · rw [h1] at hq ⊢
     match k, hq with
     | 0, hq => exact absurd (Option.some.inj hq) h2
   · rw [h1] at hq ⊢
     match k, hk, hq with
     | 0, hk, _ => show q + 3 ≤ P.length + 3; lia
     | 1, _, hq => exact absurd (Option.some.inj hq) h2
     | 2, _, hq => exact absurd (Option.some.inj hq) h3
theorem eqOk_flat : ∀ (l : List Nat) (P : List Nat), EqOk P → (∀ c ∈ l, TOk c ∧ c ≠ 10) → EqOk (P ++ l.flatMap trB)
 | [], P, h, _ => by rw [List.flatMap_nil, List.append_nil]; exact h
 | c :: l, P, h, hl => by
   rw [List.flatMap_cons, ← List.append_assoc]
   exact eqOk_flat l _ (eqOk_app h (hl c (.head _))) fun d hd => hl d (.tail _ hd)
theorem enc_step {m : Nat} {eol P R : List Nat} {c : Nat} (hm : 4 ≤ m) (hP : EqOk P) (hc : TOk c ∧ c ≠ 10) (h1 : P.length + 1 ≤ m) (h2 : m < P.length + (trB c).length + 1) (h3 : m < P.length + ((trB c).length + R.length)) :
   encGo m eol (P ++ (trB c ++ R)) = (P ++ [61]) :: encGo m eol (trB c ++ R) := by
 have hl : (P ++ (trB c ++ R)).length = P.length + ((trB c).length + R.length) := by rw [List.length_append, List.length_append]
 have notEq : ∀ q, q < P.length → P.length < q + 3 → ¬ (P ++ (trB c ++ R))[q]? = some 61 := fun q hq hq2 h => by
   rw [List.getElem?_append_left hq] at h
   have := hP q h; lia
 rw [encGo, dif_pos ⟨by rw [hl]; exact h3, hm⟩]
 rcases trB_eq hc with ⟨d, e, hd⟩ | ⟨a, b, e, ha, hb⟩
 · have hg1 : (trB c).length = 1 := by rw [e]; rfl
   have hPm : P.length = m - 1 := by lia
   rw [if_neg (notEq _ (by lia) (by lia)), if_neg (notEq _ (by lia) (by lia)), ← hPm, List.take_left' rfl, List.drop_left' rfl]
 · have hg3 : (trB c).length = 3 := by rw [e]; rfl
   have hat : (P ++ (trB c ++ R))[P.length]? = some 61 := by
     rw [List.getElem?_append_right (Nat.le_refl _), Nat.sub_self, e]; rfl
   have tk : (P ++ (trB c ++ R)).take (P.length + 1) = P ++ [61] := by
     rw [List.take_length_add_append, e]; rfl
   have dr : (P ++ (trB c ++ R)).drop P.length = trB c ++ R := List.drop_left' rfl
   by_cases h3' : P.length = m - 3
   · rw [h3'] at hat
     rw [if_pos hat, ← h3', dr, show m - 2 = P.length + 1 by lia, tk]
   · rw [if_neg (notEq _ (by lia) (by lia))]
     by_cases h2' : P.length = m - 2
     · rw [h2'] at hat
       rw [if_pos hat, ← h2', dr, show m - 1 = P.length + 1 by lia, tk]
     · have hPm : P.length = m - 1 := by lia
       rw [if_neg (notEq _ (by lia) (by lia)), ← hPm, List.take_left' rfl, dr]
theorem cut_at : ∀ (l : List Nat) (k : Nat), k < (l.flatMap trB).length → ∃ p c r, l = p ++ c :: r ∧ (p.flatMap trB).length ≤ k ∧ k < (p.flatMap trB).length + (trB c).length
 | [], k, h => by simp at h
 | c :: l, k, h => by
   rw [List.flatMap_cons, List.length_append] at h
   by_cases hk : k < (trB c).length
   · exact ⟨[], c, l, rfl, Nat.zero_le _, by show k < 0 + _; lia⟩
   · obtain ⟨p, d, r, e, h1, h2⟩ := cut_at l (k - (trB c).length) (by omega)
     refine ⟨c :: p, d, r, by rw [e]; rfl, ?_, ?_⟩ <;> rw [List.flatMap_cons, List.length_append] <;> lia
theorem encLast_id {m : Nat} {eol L : List Nat} (h : ∀ x, L.getLast? = some x → ROk x ∧ x ≠ 32) : encLast m eol L = L := by
 unfold encLast
 split
 · rfl
 · rename_i c hc
   have := h c hc
   have h1 := this.1
   unfold ROk at h1
   rw [if_neg (by lia)]
theorem enc_short {m : Nat} {eol L : List Nat} (h : L.length ≤ m) (hl : ∀ x, L.getLast? = some x → ROk x ∧ x ≠ 32) : encGo m eol L = [L] := by
 rw [encGo, dif_neg (by lia), encLast_id hl]
theorem enc_rw {m : Nat} {eol : List Nat} (hm : 4 ≤ m) : ∀ (n : Nat) (l : List Nat), l.length ≤ n → (∀ c ∈ l, TOk c ∧ c ≠ 10) → (∀ c, l.getLast? = some c → c ≠ 32) → Rw m l (encGo m eol (l.flatMap trB)) := fun n => by
 induction n with
 | zero =>
   intro l h hl hb
   have : l = [] := List.eq_nil_of_length_eq_zero (by lia)
   subst this
   rw [enc_short (Nat.zero_le _) (flat_last hl hb)]
   exact .last [] (Nat.zero_le _)
 | succ n ih =>
   intro l h hl hb
   by_cases hs : (l.flatMap trB).length ≤ m
   · rw [enc_short hs (flat_last hl hb)]
     exact .last l hs
   · obtain ⟨p, c, r, rfl, h1, h2⟩ := cut_at l (m - 1) (by lia)
     have hc := hl c (by simp)
     have hcl := trB_len hc.1
     have hp : p ≠ [] := fun e => by subst e; rw [List.flatMap_nil, List.length_nil] at h2; lia
     have hpl := List.length_pos_iff.mpr hp
     rw [List.flatMap_append, List.flatMap_cons, List.length_append, List.length_append] at hs
     have e : (p ++ c :: r).flatMap trB = p.flatMap trB ++ (trB c ++ r.flatMap trB) := by rw [List.flatMap_append, List.flatMap_cons]
     have hE : EqOk (p.flatMap trB) := by
       have := eqOk_flat p [] (fun q h => by simp at h) fun d hd => hl d (List.mem_append_left _ hd)
       rwa [List.nil_append] at this
     rw [e, enc_step hm hE hc (by lia) (by lia) (by lia), ← List.flatMap_cons (f := trB) (x := c) (xs := r)]
     refine .soft p (c :: r) _ hp (by simp) (by lia) (ih (c :: r) ?_ (fun d hd => hl d (List.mem_append_right _ hd)) fun d hd => hb d (by rw [last_app (by simp)]; exact hd))
     rw [List.length_append] at h
     lia
section
variable {m : Nat} {l : List Nat} {rows : List (List Nat)}
theorem Rw.len (h : Rw m l rows) : ∀ x ∈ rows, x.length ≤ m := by
 induction h with
 | last l h => intro x hx; rw [List.mem_singleton.mp hx]; exact h
 | soft p r rows _ _ h1 _ ih =>
   intro x hx
   rcases List.mem_cons.mp hx with rfl | hx
   · rw [List.length_append]; exact h1
   · exact ih x hx
theorem Rw.count (h : Rw m l rows) : rows.length ≤ l.length + 1 := by
 induction h with
 | last l h => exact Nat.le_add_left _ _
 | soft p r rows h0 _ h1 _ ih =>
   have := List.length_pos_iff.mpr h0
   rw [List.length_append, List.length_cons]; lia
theorem Rw.ne (h : Rw m l rows) : rows ≠ [] := by cases h <;> simp
theorem Rw.rok (h : Rw m l rows) (hl : ∀ c ∈ l, TOk c ∧ c ≠ 10) : ∀ x ∈ rows, ∀ c ∈ x, ROk c := by
 induction h with
 | last l h => intro x hx; rw [List.mem_singleton.mp hx]; exact flat_rok hl
 | soft p r rows _ _ h1 _ ih =>
   intro x hx
   rcases List.mem_cons.mp hx with rfl | hx
   · intro c hc
     rcases List.mem_append.mp hc with hc | hc
     · exact flat_rok (fun d hd => hl d (List.mem_append_left _ hd)) c hc
     · rw [List.mem_singleton.mp hc]; exact .inl (by decide)
   · exact ih (fun d hd => hl d (List.mem_append_right _ hd)) x hx
theorem Rw.lastNe (h : Rw m l rows) (hl : ∀ c ∈ l, TOk c ∧ c ≠ 10) (hne : l ≠ []) : ∀ x, rows.getLast? = some x → x ≠ [] := by
 induction h with
 | last l h => intro x hx; cases hx; exact flat_ne (fun c hc => (hl c hc).1) hne
 | soft p r rows h0 h2 h1 hr ih =>
   intro x hx
   have := hr.ne
   rw [List.getLast?_cons] at hx
   cases hq : rows.getLast? with
   | none => exact absurd (List.getLast?_eq_none_iff.mp hq) this
   | some y =>
     rw [hq] at hx
     cases hx
     exact ih (fun d hd => hl d (List.mem_append_right _ hd)) h2 _ hq
theorem comp_trB {c : Nat} (h : TOk c ∧ c ≠ 10) : Comp [10] (trB c) [c] := by
 rcases trB_cases h.1 h.2 with ⟨e, a, b⟩ | ⟨e, a, b⟩
 · rw [e]; exact Comp.one a
 · rw [e]
   have a1 : c / 16 < 16 := by lia
   have a2 : c % 16 < 16 := by lia
   refine ⟨fun more => ?_, fun more q => ?_⟩
   · show decLine [10] (61 :: hexU (c / 16) :: hexU (c % 16) :: more) = _
     rw [decLine, if_pos ⟨rfl, hexU_mem _ a1, hexU_mem _ a2⟩, unq_hex _ _ a1 a2, Nat.div_add_mod]; rfl
   · show decOk (61 :: hexU (c / 16) :: hexU (c % 16) :: more)
     rw [decOk, if_pos ⟨rfl, hexU_mem _ a1, hexU_mem _ a2⟩]
     exact ⟨⟨c, a, rfl⟩, q⟩
theorem comp_flat : ∀ {l : List Nat}, (∀ c ∈ l, TOk c ∧ c ≠ 10) → Comp [10] (l.flatMap trB) l
 | [], _ => Comp.nil
 | c :: l, h => by
   rw [List.flatMap_cons]
   exact Comp.app (comp_trB (h c (.head _))) (comp_flat fun d hd => h d (.tail _ hd))
theorem line_dec (hl : ∀ c ∈ l, TOk c ∧ c ≠ 10) (hb : ∀ c, l.getLast? = some c → c ≠ 32) : decLine [10] (rstripL (l.flatMap trB)) = l ++ [10] ∧ decOk (rstripL (l.flatMap trB)) :=
 line_end (comp_flat hl) fun x hx => sp_rok (flat_last hl hb x hx).1 (flat_last hl hb x hx).2
theorem soft_dec (hl : ∀ c ∈ l, TOk c ∧ c ≠ 10) : decLine [10] (rstripL (l.flatMap trB ++ [61])) = l ∧ decOk (rstripL (l.flatMap trB ++ [61])) := by
 have e : rstripL (l.flatMap trB ++ [61]) = l.flatMap trB ++ [61] := rstrip_id _ fun x hx => by
   rw [last_app (by simp)] at hx; cases hx; exact sp61
 have h := comp_flat hl
 rw [e]
 refine ⟨?_, h.ok _ trivial⟩
 rw [h.dec, decLine, if_pos rfl, List.append_nil]
theorem Rw.dec (h : Rw m l rows) (hl : ∀ c ∈ l, TOk c ∧ c ≠ 10) (hb : ∀ c, l.getLast? = some c → c ≠ 32) : decAll [10] rows = l ++ [10] ∧ ∀ x ∈ rows, decOk (rstripL x) := by
 induction h with
 | last l h =>
   have := line_dec hl hb
   refine ⟨?_, fun x hx => by rw [List.mem_singleton.mp hx]; exact this.2⟩
   rw [decAll_cons, this.1]; show _ ++ [] = _; rw [List.append_nil]
 | soft p r rows h0 h2 h1 hr ih =>
   have ih := ih (fun d hd => hl d (List.mem_append_right _ hd)) fun c hc => hb c (by rw [last_app h2]; exact hc)
   have := soft_dec (l := p) fun d hd => hl d (List.mem_append_left _ hd)
   refine ⟨?_, fun x hx => ?_⟩
   · rw [decAll_cons, this.1, ih.1, List.append_assoc]
   · rcases List.mem_cons.mp hx with rfl | hx
     · exact this.2
     · exact ih.2 x hx
end
def Eol (eol : List Nat) : Prop := eol = [10] ∨ eol = [13, 10] ∨ eol = [13]
theorem Eol.head {eol : List Nat} (h : Eol eol) : ∃ e es, eol = e :: es ∧ (e = 10 ∨ e = 13) := by
 rcases h with rfl | rfl | rfl
 · exact ⟨10, [], rfl, .inl rfl⟩
 · exact ⟨13, [10], rfl, .inr rfl⟩
 · exact ⟨13, [], rfl, .inr rfl⟩
theorem miss1 {eol : List Nat} {c : Nat} (h : c ≠ 61) (r : List Nat) : replL (c :: r) ([61] ++ eol) [] = c :: replL r ([61] ++ eol) [] :=
 replL_miss _ _ (by simp; intro e; exact absurd e.symm h)
theorem miss2 {eol : List Nat} (he : Eol eol) {a : Nat} (h : a ≠ 10 ∧ a ≠ 13) (r : List Nat) : replL (61 :: a :: r) ([61] ++ eol) [] = 61 :: replL (a :: r) ([61] ++ eol) [] := by
 obtain ⟨e, es, rfl, h2⟩ := he.head
 refine replL_miss _ _ ?_
 have : e ≠ a := by lia
 simp [List.isPrefixOf, this]
theorem repl_piece {eol : List Nat} (he : Eol eol) {c : Nat} (h : TOk c ∧ c ≠ 10) (r : List Nat) : replL (trB c ++ r) ([61] ++ eol) [] = trB c ++ replL r ([61] ++ eol) [] := by
 rcases trB_eq h with ⟨d, e, hd⟩ | ⟨a, b, e, ha, hb⟩
 · rw [e]; exact miss1 hd r
 · have hr := trB_rok h.1 h.2
   rw [e] at hr ⊢
   show replL (61 :: a :: b :: r) ([61] ++ eol) [] = 61 :: a :: b :: replL r ([61] ++ eol) []
   rw [miss2 he (hr a (by simp)).ne, miss1 ha, miss1 hb]
theorem repl_flat {eol : List Nat} (he : Eol eol) : ∀ {l : List Nat}, (∀ c ∈ l, TOk c ∧ c ≠ 10) → ∀ r, replL (l.flatMap trB ++ r) ([61] ++ eol) [] = l.flatMap trB ++ replL r ([61] ++ eol) []
 | [], _, r => rfl
 | c :: l, h, r => by
   rw [List.flatMap_cons, List.append_assoc, repl_piece he (h c (.head _)), repl_flat he (fun d hd => h d (.tail _ hd)), List.append_assoc]
theorem repl_eol {eol : List Nat} (he : Eol eol) (r : List Nat) : replL (eol ++ r) ([61] ++ eol) [] = eol ++ replL r ([61] ++ eol) [] := by
 rcases he with rfl | rfl | rfl
 · exact miss1 (by decide) r
 · show replL (13 :: 10 :: r) ([61] ++ [13, 10]) [] = 13 :: 10 :: _
   rw [miss1 (by decide), miss1 (by decide)]; rfl
 · exact miss1 (by decide) r
theorem repl_soft {eol : List Nat} (r : List Nat) : replL (61 :: (eol ++ r)) ([61] ++ eol) [] = replL r ([61] ++ eol) [] := by
 rw [replL_hit _ _ (by simp)]
 have : ([61] ++ eol).length - 1 = eol.length := by simp
 rw [this, List.drop_left' rfl]; rfl
theorem Rw.repl {m : Nat} {l : List Nat} {rows : List (List Nat)} {eol : List Nat} (he : Eol eol) (h : Rw m l rows) (hl : ∀ c ∈ l, TOk c ∧ c ≠ 10) : ∀ r, replL (joinL eol rows ++ r) ([61] ++ eol) [] = l.flatMap trB ++ replL r ([61] ++ eol) [] := by
 induction h with
 | last l h => intro r; exact repl_flat he hl r
 | soft p r rows h0 h2 h1 hr ih =>
   intro R
   rw [joinL_cons _ _ hr.ne, List.append_assoc, List.append_assoc, List.append_assoc, repl_flat he (fun d hd => hl d (List.mem_append_left _ hd)), List.singleton_append, repl_soft, ih (fun d hd => hl d (List.mem_append_right _ hd)), List.flatMap_append, List.append_assoc]
end
section
noncomputable def BOk : List Nat → Prop
 | [] => True
 | c :: r => (c = 32 → r ≠ [] ∧ r.head? ≠ some 10) ∧ BOk r
structure TextOk (t : List Nat) : Prop where
 ok : ∀ c ∈ t, TOk c
 blank : BOk t
 last : ∃ e, t.getLast? = some e ∧ e ≠ 10
 len : t.length ≤ 300
theorem sp_blank : ∀ (l acc : List Nat), BOk l → (acc.getLast? = some 32 → l ≠ [] ∧ l.head? ≠ some 10) → ∀ x ∈ sp acc l, ∀ c, x.getLast? = some c → c ≠ 32
 | [], acc, _, h, x, hx, c, hc, e => by
   rw [List.mem_singleton.mp hx, e] at hc
   exact (h hc).1 rfl
 | d :: r, acc, hb, h, x, hx, c, hc, e => by
   rw [sp] at hx
   split at hx
   · rename_i hd; subst hd
     rcases List.mem_cons.mp hx with rfl | hx
     · rw [e] at hc; exact (h hc).2 rfl
     · exact sp_blank r [] hb.2 (fun h => by cases h) x hx c hc e
   · refine sp_blank r (acc ++ [d]) hb.2 (fun h => ?_) x hx c hc e
     rw [last_app (by simp)] at h
     cases h
     exact hb.1 rfl
theorem sp_last : ∀ (l acc : List Nat) (e : Nat), (acc ++ l).getLast? = some e → e ≠ 10 → ∀ x, (sp acc l).getLast? = some x → x ≠ []
 | [], acc, e, h, _, x, hx, hn => by
   have : acc = x := Option.some.inj hx
   rw [List.append_nil, this, hn] at h; cases h
 | d :: r, acc, e, h, he, x, hx, hn => by
   rw [sp] at hx
   split at hx
   · rename_i hd; subst hd
     cases r with
     | nil =>
       rw [last_app (by simp)] at h
       cases h; exact he rfl
     | cons a r =>
       rw [last_app (by simp), List.getLast?_cons_cons] at h
       rw [List.getLast?_cons] at hx
       cases hq : (sp [] (a :: r)).getLast? with
       | none => exact sp_ne _ _ (List.getLast?_eq_none_iff.mp hq)
       | some y =>
         rw [hq] at hx
         cases hx
         exact sp_last (a :: r) [] e h he _ hq hn
   · exact sp_last r (acc ++ [d]) e (by rw [List.append_assoc]; exact h) he x hx hn
theorem decAll_app (mark : List Nat) (a b : List (List Nat)) : decAll mark (a ++ b) = decAll mark a ++ decAll mark b := by unfold decAll; rw [List.flatMap_append]
theorem joinL_last (z : List Nat) : ∀ (rows : List (List Nat)) (x : List Nat), rows.getLast? = some x → x ≠ [] → (joinL z rows).getLast? = x.getLast?
 | [], x, h, _ => by cases h
 | [y], x, h, _ => by cases h; rfl
 | a :: b :: r, x, h, hx => by
   rw [List.getLast?_cons_cons] at h
   have ih := joinL_last z (b :: r) x h hx
   have hne : joinL z (b :: r) ≠ [] := fun e => by
     rw [e] at ih
     exact hx (List.getLast?_eq_none_iff.mp ih.symm)
   rw [joinL_cons _ _ (by simp), last_app (by simp [hne]), last_app hne, ih]
theorem joinL_le (z : List Nat) : ∀ rows : List (List Nat), (joinL z rows).length ≤ (rows.map fun x => x.length + z.length).sum
 | [] => Nat.le_refl _
 | [x] => by simp [joinL]
 | x :: y :: r => by
   have := joinL_le z (y :: r)
   rw [joinL_cons _ _ (by simp), List.map_cons, List.sum_cons, List.length_append, List.length_append]
   lia
theorem cut_row {eol : List Nat} (he : Eol eol) : ∀ (row acc rest : List Nat), (∀ c ∈ row, ROk c) → cutL eol acc (row ++ rest) = cutL eol (acc ++ row) rest
 | [], acc, rest, _ => by rw [List.append_nil]; rfl
 | c :: row, acc, rest, h => by
   obtain ⟨e, es, rfl, h2⟩ := he.head
   have hc := (h c (.head _)).ne
   have : e ≠ c := by lia
   rw [List.cons_append, cutL, if_neg (by simp [List.isPrefixOf, this]), cut_row he row _ rest fun d hd => h d (.tail _ hd), List.append_assoc]; rfl
theorem cut_eol {eol : List Nat} (he : Eol eol) (acc rest : List Nat) : cutL eol acc (eol ++ rest) = acc :: cutL eol [] rest := by
 rcases he with rfl | rfl | rfl
 · show cutL [10] acc (10 :: rest) = _
   rw [cutL, if_pos (by simp [List.isPrefixOf])]; rfl
 · show cutL [13, 10] acc (13 :: 10 :: rest) = _
   rw [cutL, if_pos (by simp [List.isPrefixOf])]; rfl
 · show cutL [13] acc (13 :: rest) = _
   rw [cutL, if_pos (by simp [List.isPrefixOf])]; rfl
theorem cut_join {eol : List Nat} (he : Eol eol) : ∀ rows : List (List Nat), rows ≠ [] → (∀ r ∈ rows, ∀ c ∈ r, ROk c) → cutL eol [] (joinL eol rows) = rows
 | [], h, _ => absurd rfl h
 | [x], _, hr => by
   have := cut_row he x [] [] (hr x (.head _))
   rw [List.append_nil, List.nil_append] at this
   rw [joinL, this, cutL]
 | x :: y :: r, _, hr => by
   rw [joinL_cons _ _ (by simp), cut_row he x [] _ (hr x (.head _)), cut_eol he, cut_join he (y :: r) (by simp) fun z hz => hr z (.tail _ hz)]; rfl
section
variable {m : Nat} {eol : List Nat} {f : List Nat → List (List Nat)}
theorem rows_dec : ∀ ls : List (List Nat), (∀ x ∈ ls, Rw m x (f x)) → (∀ x ∈ ls, ∀ c ∈ x, TOk c ∧ c ≠ 10) → (∀ x ∈ ls, ∀ c, x.getLast? = some c → c ≠ 32) →
   decAll [10] (ls.flatMap f) = ls.flatMap (fun x => x ++ [10]) ∧ ∀ r ∈ ls.flatMap f, decOk (rstripL r)
 | [], _, _, _ => ⟨rfl, fun r h => by cases h⟩
 | x :: ls, h1, h2, h3 => by
   have a := (h1 x (.head _)).dec (h2 x (.head _)) (h3 x (.head _))
   have b := rows_dec ls (fun y hy => h1 y (.tail _ hy)) (fun y hy => h2 y (.tail _ hy)) fun y hy => h3 y (.tail _ hy)
   rw [List.flatMap_cons, List.flatMap_cons, decAll_app, a.1, b.1]
   exact ⟨rfl, fun r hr => (List.mem_append.mp hr).elim (a.2 r) (b.2 r)⟩
theorem rows_repl (he : Eol eol) : ∀ ls : List (List Nat), ls ≠ [] → (∀ x ∈ ls, Rw m x (f x)) → (∀ x ∈ ls, ∀ c ∈ x, TOk c ∧ c ≠ 10) → replL (joinL eol (ls.flatMap f)) ([61] ++ eol) [] = joinL eol (ls.map fun x => x.flatMap trB)
 | [], h, _, _ => absurd rfl h
 | [x], _, h1, h2 => by
   have := (h1 x (.head _)).repl he (h2 x (.head _)) []
   rw [List.append_nil, replL_nil, List.append_nil] at this
   rw [List.flatMap_cons, List.flatMap_nil, List.append_nil, this]; rfl
 | x :: y :: ls, _, h1, h2 => by
   have ih := rows_repl he (y :: ls) (by simp) (fun z hz => h1 z (.tail _ hz)) fun z hz => h2 z (.tail _ hz)
   have hne : (y :: ls).flatMap f ≠ [] := fun e => by
     rw [List.flatMap_cons] at e
     exact (h1 y (.tail _ (.head _))).ne (List.append_eq_nil_iff.mp e).1
   have hj : joinL eol ((x :: y :: ls).map fun x => x.flatMap trB) = x.flatMap trB ++ (eol ++ joinL eol ((y :: ls).map fun x => x.flatMap trB)) := joinL_cons eol _ (by simp)
   rw [hj, ← ih, List.flatMap_cons, joinL_app _ _ _ (h1 x (.head _)).ne hne, (h1 x (.head _)).repl he (h2 x (.head _)), repl_eol he]
theorem rows_count : ∀ ls : List (List Nat), (∀ x ∈ ls, Rw m x (f x)) → (ls.flatMap f).length ≤ (ls.flatMap fun x => x ++ [10]).length
 | [], _ => Nat.le_refl _
 | x :: ls, h1 => by
   have := (h1 x (.head _)).count
   have := rows_count ls fun y hy => h1 y (.tail _ hy)
   rw [List.flatMap_cons, List.flatMap_cons, List.length_append, List.length_append, List.length_append]
   simp only [List.length_singleton]; lia
theorem rows_sum (k : Nat) : ∀ rows : List (List Nat), (∀ r ∈ rows, r.length ≤ m) → (rows.map fun x => x.length + k).sum ≤ rows.length * (m + k)
 | [], _ => Nat.zero_le _
 | x :: r, h => by
   have := rows_sum k r fun y hy => h y (.tail _ hy)
   have := h x (.head _)
   rw [List.map_cons, List.sum_cons, List.length_cons, Nat.add_mul]; lia
theorem rows_last : ∀ ls : List (List Nat), (∀ x ∈ ls, Rw m x (f x)) → (∀ x ∈ ls, ∀ c ∈ x, TOk c ∧ c ≠ 10) → (∀ x, ls.getLast? = some x → x ≠ []) → ∀ r, (ls.flatMap f).getLast? = some r → r ≠ []
 | [], _, _, _, r, h => by cases h
 | [x], h1, h2, h3, r, h => by
   rw [List.flatMap_cons, List.flatMap_nil, List.append_nil] at h
   exact (h1 x (.head _)).lastNe (h2 x (.head _)) (h3 x rfl) r h
 | x :: y :: ls, h1, h2, h3, r, h => by
   have hne : (y :: ls).flatMap f ≠ [] := fun e => by
     rw [List.flatMap_cons] at e
     exact (h1 y (.tail _ (.head _))).ne (List.append_eq_nil_iff.mp e).1
   rw [List.flatMap_cons, last_app hne] at h
   exact rows_last (y :: ls) (fun z hz => h1 z (.tail _ hz)) (fun z hz => h2 z (.tail _ hz)) (fun z hz => h3 z (by rw [List.getLast?_cons_cons]; exact hz)) r h
end
theorem flat_len3 {t : List Nat} (h : ∀ c ∈ t, TOk c) : (t.flatMap trB).length ≤ 3 * t.length := by
 induction t with
 | nil => exact Nat.le_refl _
 | cons c t ih =>
   have := ih fun d hd => h d (.tail _ hd)
   have := (trB_len (h c (.head _))).2
   rw [List.flatMap_cons, List.length_append, List.length_cons]; lia
structure TxtRows (m : Nat) (eol t : List Nat) (rows : List (List Nat)) : Prop where
 eq : encRows m eol (linesL (t.flatMap trB)) = rows
 ne : rows ≠ []
 len : ∀ r ∈ rows, r.length ≤ m
 count : rows.length ≤ t.length + 1
 rok : ∀ r ∈ rows, ∀ c ∈ r, ROk c
 last : ∀ x, rows.getLast? = some x → x ≠ []
 dec : decAll [10] rows = t ++ [10] ∧ ∀ r ∈ rows, decOk (rstripL r)
 repl : replL (joinL eol rows) ([61] ++ eol) [] = t.flatMap (wB eol)
theorem txt_rows {m : Nat} {eol t : List Nat} (hm : 4 ≤ m) (he : Eol eol) (T : TextOk t) : ∃ rows, TxtRows m eol t rows := by
 obtain ⟨e, he1, he2⟩ := T.last
 have hx : ∀ x ∈ sp [] t, ∀ c ∈ x, TOk c ∧ c ≠ 10 := fun x hx c hc => by
   have := sp_mem t [] (fun _ h => by cases h) x hx c hc
   exact ⟨T.ok c (this.2.resolve_left fun h => by cases h), this.1⟩
 have hb := sp_blank t [] T.blank fun h => by cases h
 have hl := sp_last t [] e he1 he2
 have hlines : linesL (t.flatMap trB) = (sp [] t).map fun x => x.flatMap trB := by
   have := sp_lines t [] T.ok hl fun _ h => by cases h
   exact this
 have hR : ∀ x ∈ sp [] t, Rw m x (encGo m eol (x.flatMap trB)) := fun x h => enc_rw hm _ x (Nat.le_refl _) (hx x h) (hb x h)
 have hE : encRows m eol (linesL (t.flatMap trB)) = (sp [] t).flatMap fun x => encGo m eol (x.flatMap trB) := by
   rw [hlines]; unfold encRows; rw [List.flatMap_map]
 have hf := sp_flat t []
 rw [List.nil_append] at hf
 have hfl := congrArg List.length hf
 rw [List.length_append] at hfl
 refine ⟨_, hE, ?_, ?_, ?_, ?_, ?_, ?_, ?_⟩
 · cases hq : sp [] t with
   | nil => exact absurd hq (sp_ne _ _)
   | cons x ls =>
     rw [List.flatMap_cons]
     intro h
     exact (hR x (by rw [hq]; exact .head _)).ne (List.append_eq_nil_iff.mp h).1
 · intro r hr
   obtain ⟨x, h1, h2⟩ := List.mem_flatMap.mp hr
   exact (hR x h1).len r h2
 · have := rows_count (sp [] t) hR
   rw [hfl] at this; exact this
 · intro r hr
   obtain ⟨x, h1, h2⟩ := List.mem_flatMap.mp hr
   exact (hR x h1).rok (hx x h1) r h2
 · exact rows_last (sp [] t) hR hx hl
 · have := rows_dec (sp [] t) hR hx hb
   rw [hf] at this; exact this
 · rw [rows_repl he (sp [] t) (sp_ne _ _) hR hx, sp_join eol t []]; rfl
theorem last_join {eol : List Nat} {rows : List (List Nat)} (hne : rows ≠ []) (hr : ∀ r ∈ rows, ∀ c ∈ r, ROk c) (hl : ∀ x, rows.getLast? = some x → x ≠ []) : ∃ c, (joinL eol rows).getLast? = some c ∧ c ≠ 13 ∧ c ≠ 10 := by
 cases hq : rows.getLast? with
 | none => exact absurd (List.getLast?_eq_none_iff.mp hq) hne
 | some x =>
   have hx := hl x hq
   cases hq2 : x.getLast? with
   | none => exact absurd (List.getLast?_eq_none_iff.mp hq2) hx
   | some c =>
     have := (hr x (List.mem_of_getLast? hq) c (List.mem_of_getLast? hq2)).ne
     exact ⟨c, by rw [joinL_last eol rows x hq hx, hq2], this.2, this.1⟩
theorem enc_ok {m : Nat} {eol t : List Nat} {rows : List (List Nat)} (hm2 : m ≤ 1000) (he : Eol eol) (T : TextOk t) (R : TxtRows m eol t rows) : EncOk m eol t (joinL eol rows) ∧ DecOk (joinL eol rows) t ∧ (joinL eol rows).length ≤ 302000 := by
 obtain ⟨e, he1, he2⟩ := T.last
 obtain ⟨t', ht'⟩ := List.getLast?_eq_some_iff.mp he1
 have hel : eol.length ≤ 2 := by rcases he with rfl | rfl | rfl <;> decide
 have hs := rows_sum (m := m) eol.length rows R.len
 have hc := R.count
 have hl := T.len
 have hmul : rows.length * (m + eol.length) ≤ 301 * 1002 := Nat.mul_le_mul (by lia) (by lia)
 have hj := joinL_le eol rows
 have h3 := flat_len3 T.ok
 refine ⟨⟨?_, ?_, ?_, ?_, ?_, ?_⟩, ⟨?_, ?_, ?_, ?_, ?_⟩, by lia⟩
 · rw [ht']; simp
 · have hTe := T.ok e (List.mem_of_getLast? he1)
   have hne : trB e ≠ [] := fun q => by have := (trB_len hTe).1; rw [q] at this; exact absurd this (by decide)
   cases hq : (trB e).getLast? with
   | none => exact absurd (List.getLast?_eq_none_iff.mp hq) hne
   | some c =>
     have := (trB_rok hTe he2 c (List.mem_of_getLast? hq)).ne
     refine ⟨c, ?_, this.2, this.1⟩
     rw [ht', List.flatMap_append, List.flatMap_cons, List.flatMap_nil, List.append_nil, last_app hne, hq]
 · lia
 · rw [R.eq]; omega
 · rw [R.eq]
 · intro c hc
   have := T.ok c hc
   unfold TOk at this; lia
 · exact last_join R.ne R.rok R.last
 · lia
 · have := join_lines he rows R.ne R.rok R.last
   unfold linesL; rw [this]; exact R.dec.1
 · rw [List.length_append]; simp only [List.length_singleton]; lia
 · have := join_lines he rows R.ne R.rok R.last
   unfold linesL; rw [this]; exact R.dec.2
theorem wide_rows {eol t : List Nat} (he : Eol eol) (T : TextOk t) : ∃ rows, TxtRows 1000 eol t rows ∧ joinL eol rows = t.flatMap (wB eol) := by
 obtain ⟨rows, R⟩ := txt_rows (m := 1000) (by decide) he T
 refine ⟨rows, R, ?_⟩
 obtain ⟨e, he1, he2⟩ := T.last
 have hx : ∀ x ∈ sp [] t, ∀ c ∈ x, TOk c ∧ c ≠ 10 := fun x hx c hc => by
   have := sp_mem t [] (fun _ h => by cases h) x hx c hc
   exact ⟨T.ok c (this.2.resolve_left fun h => by cases h), this.1⟩
 have hb := sp_blank t [] T.blank fun h => by cases h
 have hlines : linesL (t.flatMap trB) = (sp [] t).map fun x => x.flatMap trB := sp_lines t [] T.ok (sp_last t [] e he1 he2) fun _ h => by cases h
 have hf := congrArg List.length (sp_flat t [])
 have hlen : ∀ x ∈ sp [] t, x.length ≤ t.length := fun x hx => by
   have key : ∀ ls : List (List Nat), x ∈ ls → x.length + 1 ≤ (ls.flatMap fun x => x ++ [10]).length := fun ls => by
     induction ls with
     | nil => intro h; cases h
     | cons y ls ih =>
       intro h
       rw [List.flatMap_cons, List.length_append, List.length_append]
       rcases List.mem_cons.mp h with rfl | h
       · simp only [List.length_singleton]; lia
       · have := ih h; lia
   have := key _ hx
   rw [hf, List.nil_append, List.length_append] at this
   simp only [List.length_singleton] at this; lia
 have hE : ∀ ls : List (List Nat), (∀ x ∈ ls, x ∈ sp [] t) → (ls.flatMap fun x => encGo 1000 eol (x.flatMap trB)) = ls.map fun x => x.flatMap trB := fun ls => by
   induction ls with
   | nil => intro _; rfl
   | cons y ls ih =>
     intro h
     have hy := h y (.head _)
     have h3 := flat_len3 (t := y) fun c hc => (hx y hy c hc).1
     have := hlen y hy
     have hT := T.len
     rw [List.flatMap_cons, enc_short (by lia) (flat_last (hx y hy) (hb y hy)), ih fun x hx => h x (.tail _ hx)]; rfl
 have := R.eq
 rw [hlines] at this
 unfold encRows at this
 rw [List.flatMap_map, hE _ fun _ h => h] at this
 rw [← this, sp_join eol t []]; rfl
end
section
theorem flat_one : ∀ l : List Nat, l.flatMap (fun c => [c]) = l
 | [] => rfl
 | c :: l => by rw [List.flatMap_cons, flat_one l]; rfl
theorem flat_sum (g : Nat → List Nat) : ∀ l : List Nat, (l.map fun c => (g c).length).sum = (l.flatMap g).length
 | [] => rfl
 | c :: l => by rw [List.map_cons, List.sum_cons, flat_sum g l, List.flatMap_cons, List.length_append]
theorem flat_take (g : Nat → List Nat) (l : List Nat) (p : Nat) : (l.flatMap g).take ((l.take p).flatMap g).length = (l.take p).flatMap g ∧ (l.flatMap g).drop ((l.take p).flatMap g).length = (l.drop p).flatMap g := by
 have e : l.flatMap g = (l.take p).flatMap g ++ (l.drop p).flatMap g := by rw [← List.flatMap_append, List.take_append_drop]
 rw [e]
 exact ⟨List.take_left' rfl, List.drop_left' rfl⟩
theorem l2_ins (g : Nat → List Nat) (n W K : Nat) : ∀ (ds : List (Int × Int)) (st : L2) (k : Nat), L2Ok n k W st → k + ds.length ≤ K → Codes st.2.2.2.1 ds → (∀ d ∈ ds, g d.1.toNat = [d.1.toNat]) → st.2.1 = st.1.map (fun c => (g c).length) →
   ∃ ns, (ds.foldl l2Step st).2.2.1 = st.2.2.1 ++ ns ∧ insF ns (st.1.flatMap g) st.2.2.2.1 st.2.2.2.2.2 = (ds.foldl l2Step st).1.flatMap g ∧ insOk ns (st.1.flatMap g).length st.2.2.2.1 st.2.2.2.2.2 ∧ ∀ x ∈ ns, x ≤ 5256 * (W + K + 1)
 | [], st, k, _, _, _, _, _ => ⟨[], by simp, rfl, trivial, fun x h => by cases h⟩
 | d :: ds, st, k, h, hk, hc, hg, hw => by
   have h' := l2Step_ok d h
   obtain ⟨hp1, hp2⟩ := l2p_le d h
   obtain ⟨hc1, hc2, hc3⟩ := hc
   have hgd := hg d (.head _)
   obtain ⟨h1, h2, h3, h4, h5, h6⟩ := h
   have e : l2Step st d = (st.1.take (l2p st d) ++ d.1.toNat :: st.1.drop (l2p st d), st.2.1.take (l2p st d) ++ 1 :: st.2.1.drop (l2p st d), st.2.2.1 ++ [(d.1.toNat - st.2.2.2.1) * (st.2.1.sum + 1) + (st.2.1.take (l2p st d)).sum - st.2.2.2.2.2], d.1.toNat, l2p st d + 1, (st.2.1.take (l2p st d)).sum + 1) := rfl
   rw [List.length_cons] at hk
   have hat : (st.2.1.take (l2p st d)).sum = ((st.1.take (l2p st d)).flatMap g).length := by rw [hw, ← List.map_take, flat_sum]
   have hW : st.2.1.sum = (st.1.flatMap g).length := by rw [hw, flat_sum]
   have hle := sum_take_le st.2.1 (l2p st d)
   have hco : st.2.2.2.1 ≤ d.1.toNat := by lia
   have hbl : st.2.2.2.2.2 ≤ (d.1.toNat - st.2.2.2.1) * (st.2.1.sum + 1) + (st.2.1.take (l2p st d)).sum := by
     rw [h3]
     by_cases hq : d.1.toNat = st.2.2.2.1
     · have := take_mono st.2.1 (hp2 hq); lia
     · have h7 : 1 ≤ d.1.toNat - st.2.2.2.1 := by lia
       have := Nat.mul_le_mul_right (st.2.1.sum + 1) h7
       have h8 := sum_take_le st.2.1 st.2.2.2.2.1
       lia
   obtain ⟨ns, i1, i2, i3, i4⟩ := l2_ins g n W K ds (l2Step st d) (k + 1) h' (by lia) (by rw [e]; exact hc3) (fun x hx => hg x (.tail _ hx)) (by
     rw [e]
     show st.2.1.take (l2p st d) ++ 1 :: st.2.1.drop (l2p st d) = (st.1.take (l2p st d) ++ d.1.toNat :: st.1.drop (l2p st d)).map fun c => (g c).length
     rw [List.map_append, List.map_cons, hgd, hw, List.map_take, List.map_drop]; rfl)
   have hft := flat_take g st.1 (l2p st d)
   have hnew : (l2Step st d).1.flatMap g = (st.1.flatMap g).take (st.2.1.take (l2p st d)).sum ++ d.1.toNat :: (st.1.flatMap g).drop (st.2.1.take (l2p st d)).sum := by
     rw [hat, hft.1, hft.2, e]
     show (st.1.take (l2p st d) ++ d.1.toNat :: st.1.drop (l2p st d)).flatMap g = _
     rw [List.flatMap_append, List.flatMap_cons, hgd]; rfl
   have hsum : st.2.2.2.2.2 + ((d.1.toNat - st.2.2.2.1) * (st.2.1.sum + 1) + (st.2.1.take (l2p st d)).sum - st.2.2.2.2.2) = (st.2.1.take (l2p st d)).sum + (d.1.toNat - st.2.2.2.1) * ((st.1.flatMap g).length + 1) := by rw [← hW]; omega
   have hmod : (st.2.2.2.2.2 + ((d.1.toNat - st.2.2.2.1) * (st.2.1.sum + 1) + (st.2.1.take (l2p st d)).sum - st.2.2.2.2.2)) % ((st.1.flatMap g).length + 1) = (st.2.1.take (l2p st d)).sum := by
     rw [hsum, Nat.add_mul_mod_self_right, Nat.mod_eq_of_lt (by rw [← hW]; lia)]
   have hdiv : st.2.2.2.1 + (st.2.2.2.2.2 + ((d.1.toNat - st.2.2.2.1) * (st.2.1.sum + 1) + (st.2.1.take (l2p st d)).sum - st.2.2.2.2.2)) / ((st.1.flatMap g).length + 1) = d.1.toNat := by
     rw [hsum, Nat.add_mul_div_right _ _ (Nat.succ_pos _), Nat.div_eq_of_lt (by rw [← hW]; lia)]; lia
   rw [List.foldl_cons]
   refine ⟨((d.1.toNat - st.2.2.2.1) * (st.2.1.sum + 1) + (st.2.1.take (l2p st d)).sum - st.2.2.2.2.2) :: ns, ?_, ?_, ?_, ?_⟩
   · rw [i1, e]
     show (st.2.2.1 ++ [_]) ++ ns = _
     rw [List.append_assoc]; rfl
   · rw [insF, hmod, hdiv, ← hnew, ← i2, e]
   · rw [insOk, hmod, hdiv]
     refine ⟨by lia, ?_⟩
     have hl : ((l2Step st d).1.flatMap g).length = (st.1.flatMap g).length + 1 := by rw [hnew, ins_len]
     rw [hl] at i3
     exact i3
   · intro x hx
     rcases List.mem_cons.mp hx with rfl | hx
     · have h7 : d.1.toNat - st.2.2.2.1 ≤ 5255 := by lia
       have h8 : st.2.1.sum ≤ W + K := by lia
       have h9 : (d.1.toNat - st.2.2.2.1) * (st.2.1.sum + 1) ≤ 5255 * (W + K + 1) := Nat.mul_le_mul h7 (by lia)
       lia
     · exact i4 x hx
theorem l2_cells : ∀ (ds : List (Int × Int)) (s s' : L2), s.1 = s'.1 → ((s.2.2.2.1 = s'.2.2.2.1 ∧ s.2.2.2.2.1 = s'.2.2.2.2.1) ∨ ∀ d, ds.head? = some d → d.1.toNat ≠ s.2.2.2.1 ∧ d.1.toNat ≠ s'.2.2.2.1) → (ds.foldl l2Step s).1 = (ds.foldl l2Step s').1
 | [], s, s', h, _ => h
 | d :: ds, s, s', h, h2 => by
   have hp : l2p s d = l2p s' d := by
     unfold l2p
     rw [h]
     rcases h2 with ⟨h3, h4⟩ | h3
     · rw [h3, h4]
     · have := h3 d rfl
       rw [if_neg this.1, if_neg this.2]
   rw [List.foldl_cons, List.foldl_cons]
   refine l2_cells ds _ _ ?_ (.inl ⟨rfl, ?_⟩)
   · show s.1.take (l2p s d) ++ _ :: s.1.drop (l2p s d) = s'.1.take (l2p s' d) ++ _ :: s'.1.drop (l2p s' d)
     rw [hp, h]
   · show l2p s d + 1 = l2p s' d + 1
     rw [hp]
theorem bok_ins {s : Nat} (h10 : s ≠ 10) (h32 : s ≠ 32) : ∀ (l : List Nat) (p : Nat), BOk l → BOk (l.take p ++ s :: l.drop p)
 | [], p, _ => by
   rw [List.take_nil, List.drop_nil]
   exact ⟨fun e => absurd e h32, trivial⟩
 | c :: l, 0, h => ⟨fun e => absurd e h32, h⟩
 | c :: l, p + 1, h => by
   refine ⟨fun e => ⟨by simp, ?_⟩, bok_ins h10 h32 l p h.2⟩
   show (l.take p ++ s :: l.drop p).head? ≠ some 10
   cases l with
   | nil => rw [List.take_nil]; intro h; cases h; exact h10 rfl
   | cons a l =>
     cases p with
     | zero => intro h; cases h; exact h10 rfl
     | succ p => exact fun h' => (h.1 e).2 h'
structure TInv (t : List Nat) : Prop where
 ok : ∀ c ∈ t, TOk c
 blank : BOk t
 last : ∃ e, t.getLast? = some e ∧ e ≠ 10
theorem TInv.ins {t : List Nat} (h : TInv t) {s : Nat} (h1 : 33 ≤ s) (h2 : s ≤ 5255) (p : Nat) : TInv (t.take p ++ s :: t.drop p) := by
 refine ⟨fun c hc => ?_, bok_ins (by lia) (by lia) t p h.blank, ?_⟩
 · rcases List.mem_append.mp hc with hc | hc
   · exact h.ok c (List.mem_of_mem_take hc)
   · rcases List.mem_cons.mp hc with rfl | hc
     · exact .inr (.inr (by lia))
     · exact h.ok c (List.mem_of_mem_drop hc)
 · rw [last_app (by simp)]
   cases hq : t.drop p with
   | nil => exact ⟨s, rfl, by lia⟩
   | cons a r =>
     obtain ⟨e, he1, he2⟩ := h.last
     refine ⟨e, ?_, he2⟩
     rw [List.getLast?_cons_cons, ← hq]
     have : t = t.take p ++ t.drop p := (List.take_append_drop p t).symm
     rw [this, last_app (by rw [hq]; simp)] at he1
     exact he1
theorem TInv.fold : ∀ (ds : List (Int × Int)) (st : L2), TInv st.1 → (∀ d ∈ ds, 128 ≤ d.1 ∧ d.1 < 5256) → TInv (ds.foldl l2Step st).1
 | [], st, h, _ => h
 | d :: ds, st, h, hd => by
   rw [List.foldl_cons]
   have := hd d (.head _)
   exact TInv.fold ds _ (h.ins (s := d.1.toNat) (by lia) (by lia) (l2p st d)) fun x hx => hd x (.tail _ hx)
theorem fold_lt {b : Nat} : ∀ (ds : List (Int × Int)) (st : L2), (∀ c ∈ st.1, c < b) → (∀ d ∈ ds, d.1.toNat < b) → ∀ c ∈ (ds.foldl l2Step st).1, c < b
 | [], st, h, _ => h
 | d :: ds, st, h, hd => by
   rw [List.foldl_cons]
   refine fold_lt ds _ (fun c hc => ?_) fun x hx => hd x (.tail _ hx)
   rcases List.mem_append.mp (show c ∈ st.1.take (l2p st d) ++ d.1.toNat :: st.1.drop (l2p st d) from hc) with hc | hc
   · exact h c (List.mem_of_mem_take hc)
   · rcases List.mem_cons.mp hc with rfl | hc
     · exact hd d (.head _)
     · exact h c (List.mem_of_mem_drop hc)
theorem ggi_len3 (N j b : Nat) : (ggi N j b).length ≤ N / 100 + 3 := by
 rw [ggi]
 split
 · simp
 · have h1 := tN_le j b
   have h2 := ggi_len2 ((N - tN j b) / (36 - tN j b)) (j + 1) b
   have h3 : (N - tN j b) / (36 - tN j b) ≤ N / 10 := Nat.div_le_div (Nat.sub_le _ _) (by lia) (by decide)
   rw [List.length_cons]
   lia
theorem gis_len3 (base B : Nat) : ∀ (ds : List Nat) (p b : Nat), (∀ d ∈ ds, d ≤ B) → (gisF base ds p b).length ≤ ds.length * (B / 100 + 3)
 | [], _, _, _ => Nat.zero_le _
 | d :: ds, p, b, h => by
   have h1 := ggi_len3 d 0 b
   have h2 := gis_len3 base B ds (p + 1) (adaptF d (p == 0) (base + p + 1)) fun x hx => h x (.tail _ hx)
   have h3 := Nat.div_le_div_right (c := 100) (h d (.head _))
   rw [gisF, List.length_append, List.length_cons, Nat.add_mul]; lia
theorem pd_ok (g : Nat → List Nat) {cells : List Nat} {ds : List (Int × Int)} (hne : cells.flatMap g ≠ []) (hasc : ∀ c ∈ cells.flatMap g, c < 128) (hW : (cells.flatMap g).length ≤ 160) (hd : ds ≠ []) (hdl : ds.length ≤ 17) (hc : Codes 128 ds) (hg : ∀ d ∈ ds, g d.1.toNat = [d.1.toNat]) :
   PdOk (cells.flatMap g) (l2Fold cells (cells.map fun c => (g c).length) ds).2.2.1 ((l2Fold cells (cells.map fun c => (g c).length) ds).1.flatMap g) := by
 have hok := l2Fold_ok cells (cells.map fun c => (g c).length) (by rw [List.length_map]) ds
 obtain ⟨ns, i1, i2, i3, i4⟩ := l2_ins g cells.length (cells.map fun c => (g c).length).sum ds.length ds (cells, cells.map fun c => (g c).length, [], 128, 0, 0) 0 ⟨by rw [List.length_map], Nat.zero_le _, rfl, rfl, rfl, rfl⟩ (by lia) hc hg rfl
 have hns : (l2Fold cells (cells.map fun c => (g c).length) ds).2.2.1 = ns := by unfold l2Fold; rw [i1]; rfl
 have hnl := hok.nums
 rw [hns] at hnl ⊢
 rw [flat_sum] at i4
 have hB : ∀ x ∈ ns, x ≤ 935568 := fun x hx => by have := i4 x hx; lia
 have hgl := gis_len3 (cells.flatMap g).length 935568 ns 0 72 hB
 rw [hnl] at hgl
 have := Nat.mul_le_mul_right (935568 / 100 + 3) hdl
 refine ⟨hne, hasc, i3, i2, by lia, fun x hx => by have := hB x hx; lia, fun h => ?_, by lia⟩
 rw [h] at hnl
 exact hd (List.eq_nil_of_length_eq_zero hnl.symm)
end
section
theorem t2_ok (k : Nat) : (∀ c ∈ drawT2.getD k [], TOk c ∧ c < 128) ∧ ∀ r, BOk r → BOk (drawT2.getD k [] ++ r) := by
 by_cases h : k < 8
 · have h8 : k = 0 ∨ k = 1 ∨ k = 2 ∨ k = 3 ∨ k = 4 ∨ k = 5 ∨ k = 6 ∨ k = 7 := by lia
   have hc : ∀ k < 8, ∀ c ∈ drawT2.getD k [], (c = 0 ∨ c = 10 ∨ (32 ≤ c ∧ c ≤ 127)) := by decide
   refine ⟨fun c hm => by have := hc k h c hm; unfold TOk; lia, fun r hr => ?_⟩
   rcases h8 with rfl | rfl | rfl | rfl | rfl | rfl | rfl | rfl
   · exact ⟨fun e => absurd e (by decide), hr⟩
   · exact ⟨fun e => absurd e (by decide), hr⟩
   · exact ⟨fun e => absurd e (by decide), hr⟩
   · exact ⟨fun e => absurd e (by decide), fun e => absurd e (by decide), hr⟩
   · exact ⟨fun e => absurd e (by decide), hr⟩
   · exact ⟨fun _ => ⟨List.cons_ne_nil _ _, fun e => absurd (Option.some.inj e) (by decide)⟩, fun e => absurd e (by decide), hr⟩
   · exact ⟨fun e => absurd e (by decide), hr⟩
   · exact ⟨fun e => absurd e (by decide), hr⟩
 · rw [List.getD_eq_getElem?_getD, List.getElem?_eq_none (by show 8 ≤ k; lia)]
   exact ⟨fun c h => (by cases h), fun r h => h⟩
theorem draw2_plain : ∀ ns : List Int, (∀ c ∈ (draw2 ns).1, TOk c ∧ c < 128) ∧ BOk ((draw2 ns).1 ++ [46])
 | [] => ⟨fun c h => (by cases h), fun e => absurd e (by decide), trivial⟩
 | n :: ns => by
   have ih := draw2_plain ns
   have ht := t2_ok ((n.fdiv 4).fmod 8).toNat
   rw [draw2]
   split
   · refine ⟨fun c hc => (List.mem_append.mp hc).elim (ht.1 c) (ih.1 c), ?_⟩
     show BOk ((_ ++ (draw2 ns).1) ++ [46])
     rw [List.append_assoc]; exact ht.2 _ ih.2
   · split <;> exact ih
theorem draw2_codes : ∀ ns : List Int, ∀ d ∈ (draw2 ns).2, 128 ≤ d.1 ∧ d.1 < 5256
 | [], d, h => by cases h
 | n :: ns, d, h => by
   rw [draw2] at h
   have h1 := fmod_lt (a := n.fdiv 4) (b := 128) (by decide)
   have h2 := fmod_lt (a := n.fdiv 4) (b := 5000) (by decide)
   have h10 : 0 ≤ (n.fdiv 4).fmod 128 := h1.1
   have h11 : ((n.fdiv 4).fmod 128).toNat < 128 := h1.2
   have h20 : 0 ≤ (n.fdiv 4).fmod 5000 := h2.1
   have h21 : ((n.fdiv 4).fmod 5000).toNat < 5000 := h2.2
   split at h
   · exact draw2_codes ns d h
   · split at h
     · rcases List.mem_cons.mp h with rfl | h
       · show 128 ≤ 128 + (n.fdiv 4).fmod 128 ∧ 128 + (n.fdiv 4).fmod 128 < 5256
         lia
       · exact draw2_codes ns d h
     · rcases List.mem_cons.mp h with rfl | h
       · show 128 ≤ 256 + (n.fdiv 4).fmod 5000 ∧ 256 + (n.fdiv 4).fmod 5000 < 5256
         lia
       · exact draw2_codes ns d h
theorem leP_fst {a b : Int × Int} (h : leP a b) : a.1 ≤ b.1 := by have := ltP_not.mp h; lia
theorem codes_in : ∀ (ds : List (Int × Int)) (o : Nat), (∀ d ∈ ds, (o : Int) ≤ d.1 ∧ d.1 < 5256) → ds.Pairwise (fun a b => a.1 ≤ b.1) → Codes o ds
 | [], _, _, _ => trivial
 | d :: ds, o, h, hp => by
   have hd := h d (.head _)
   rw [List.pairwise_cons] at hp
   exact ⟨hd.1, hd.2, codes_in ds d.1.toNat (fun x hx => ⟨by have := hp.1 x hx; lia, (h x (.tail _ hx)).2⟩) hp.2⟩
theorem near_far : ∀ (ds : List (Int × Int)), ds.Pairwise (fun a b => a.1 ≤ b.1) → ds = ds.filter (fun d => decide (d.1 < 256)) ++ ds.filter (fun d => !decide (d.1 < 256))
 | [], _ => rfl
 | d :: ds, hp => by
   rw [List.pairwise_cons] at hp
   by_cases h : d.1 < 256
   · rw [List.filter_cons, if_pos (by simpa using h), List.filter_cons, if_neg (by simp [h])]
     have := near_far ds hp.2
     rw [List.cons_append, ← this]
   · have e : ds.filter (fun d => decide (d.1 < 256)) = [] := List.filter_eq_nil_iff.mpr fun x hx => by have := hp.1 x hx; simp; lia
     have e2 : ds.filter (fun d => !decide (d.1 < 256)) = ds := List.filter_eq_self.mpr fun x hx => by have := hp.1 x hx; simp; lia
     rw [List.filter_cons, if_neg (by simpa using h), List.filter_cons, if_pos (by simp [h]), e, e2]; rfl
noncomputable def leB (a b : Int × Int) : Bool := !ltP b a
theorem sorted_ex (l : List (Int × Int)) : ∃ s : List (Int × Int), s.Perm l ∧ s.Pairwise leP := by
 refine ⟨l.mergeSort leB, List.mergeSort_perm _ _, ?_⟩
 have := List.pairwise_mergeSort (le := leB) (fun a b c h1 h2 => by
   unfold leB at *
   rw [Bool.not_eq_true', ltP_not] at *
   lia) (fun a b => by
   unfold leB
   rw [Bool.or_eq_true, Bool.not_eq_true', Bool.not_eq_true', ltP_not, ltP_not]; lia) l
 exact this.imp fun h => by unfold leB at h; rw [Bool.not_eq_true'] at h; exact h
theorem nums2_draw : (233, 3) ∈ (draw2 nums2).2 ∧ (258, 2) ∈ (draw2 nums2).2 := by decide
theorem wB_lt {eol : List Nat} (he : Eol eol) {t : List Nat} (h : ∀ c ∈ t, TOk c ∧ c < 256) : (∀ x ∈ t.flatMap (wB eol), x < 128) ∧ (t.flatMap (wB eol)).length ≤ 3 * t.length := by
 induction t with
 | nil => exact ⟨fun x h => (by cases h), Nat.le_refl _⟩
 | cons c t ih =>
   have ih := ih fun d hd => h d (.tail _ hd)
   have hc := h c (.head _)
   have hw : (∀ x ∈ wB eol c, x < 128) ∧ (wB eol c).length ≤ 3 := by
     unfold wB
     by_cases h10 : c = 10
     · rw [if_pos h10]
       rcases he with rfl | rfl | rfl <;> decide
     · rw [if_neg h10]
       refine ⟨fun x hx => ?_, (trB_len hc.1).2⟩
       rcases trB_cases hc.1 h10 with ⟨e, a, b⟩ | ⟨e, a, b⟩
       · rw [e] at hx; rw [List.mem_singleton.mp hx]; lia
       · rw [e] at hx
         have h1 := hexU_pl (d := c / 16) (by lia)
         have h2 := hexU_pl (d := c % 16) (by lia)
         simp only [escU, List.mem_cons, List.not_mem_nil, or_false] at hx
         lia
   rw [List.flatMap_cons]
   refine ⟨fun x hx => (List.mem_append.mp hx).elim (hw.1 x) (ih.1 x), ?_⟩
   rw [List.length_append, List.length_cons]; lia
theorem TInv.text {t : List Nat} (h : TInv t) (hl : t.length ≤ 300) : TextOk t := ⟨h.ok, h.blank, h.last, hl⟩
theorem law2_ok {eol : List Nat} {m : Nat} (he : Eol eol) (hm : 4 ≤ m) (hm2 : m ≤ 1000) (sc : List Int) (hsc : sc.length ≤ 10) :
   ∃ plain octets text few nums written anew laid short near far st, plain = (draw2 (nums2 ++ sc)).1 ++ [46] ∧ st.Perm (draw2 (nums2 ++ sc)).2 ∧ st.Pairwise leP ∧ Law2 eol m plain octets text few nums written anew laid short near far st := by
 obtain ⟨st, hst1, hst2⟩ := sorted_ex (draw2 (nums2 ++ sc)).2
 have hlen := draw2_len (nums2 ++ sc)
 have hns : (nums2 ++ sc).length ≤ 17 := by rw [List.length_append]; show 7 + _ ≤ _; lia
 have hstl := hst1.length_eq
 have hP := draw2_plain (nums2 ++ sc)
 have hC : ∀ d ∈ st, 128 ≤ d.1 ∧ d.1 < 5256 := fun d hd => draw2_codes _ d (hst1.mem_iff.mp hd)
 have hpw : st.Pairwise (fun a b => a.1 ≤ b.1) := hst2.imp leP_fst
 have hm1 : (233, 3) ∈ st ∧ (258, 2) ∈ st := by
   rw [hst1.mem_iff, hst1.mem_iff, draw2_append]
   exact ⟨List.mem_append_left _ nums2_draw.1, List.mem_append_left _ nums2_draw.2⟩
 generalize hplain : (draw2 (nums2 ++ sc)).1 ++ [46] = plain at *
 have hpl : plain.length ≤ 35 := by rw [← hplain, List.length_append]; simp only [List.length_singleton]; lia
 have hps : st.length ≤ 17 := by lia
 have hpc : ∀ c ∈ plain, TOk c ∧ c < 128 := fun c hc => by
   rw [← hplain] at hc
   rcases List.mem_append.mp hc with hc | hc
   · exact hP.1 c hc
   · rw [List.mem_singleton.mp hc]; exact ⟨.inr (.inr (by decide)), by decide⟩
 have hpI : TInv plain := ⟨fun c hc => (hpc c hc).1, hP.2, ⟨46, by rw [← hplain, last_app (by simp)]; rfl, by decide⟩⟩
 have hpn : plain ≠ [] := by rw [← hplain]; simp
 clear hP hlen hns hstl
 have hnf := near_far st hpw
 obtain ⟨near, hnear⟩ : ∃ l, st.filter (fun d => decide (d.1 < 256)) = l := ⟨_, rfl⟩
 obtain ⟨far, hfar⟩ : ∃ l, st.filter (fun d => !decide (d.1 < 256)) = l := ⟨_, rfl⟩
 rw [hnear, hfar] at hnf
 have hfd : st.drop near.length = far := by rw [hnf, List.drop_left' rfl]
 have hnm : ∀ d ∈ near, d ∈ st ∧ d.1 < 256 := fun d hd => by rw [← hnear, List.mem_filter] at hd; exact ⟨hd.1, by simpa using hd.2⟩
 have hfm : ∀ d ∈ far, d ∈ st ∧ 256 ≤ d.1 := fun d hd => by rw [← hfar, List.mem_filter] at hd; exact ⟨hd.1, by have := hd.2; simp at this; omega⟩
 have hnn : near ≠ [] := fun h => by
   have : (233, 3) ∈ near := by rw [← hnear, List.mem_filter]; exact ⟨hm1.1, by decide⟩
   rw [h] at this; cases this
 have hfn : far ≠ [] := fun h => by
   have : (258, 2) ∈ far := by rw [← hfar, List.mem_filter]; exact ⟨hm1.2, by decide⟩
   rw [h] at this; cases this
 have hsn : st ≠ [] := fun h => by rw [h] at hm1; cases hm1.1
 have hpw2 := hnf ▸ hpw
 rw [List.pairwise_append] at hpw2
 have hll : near.length + far.length = st.length := by rw [hnf, List.length_append]
 have hcs := codes_in st 128 hC hpw
 have hcn := codes_in near 128 (fun d hd => hC d (hnm d hd).1) hpw2.1
 have hcf := codes_in far 128 (fun d hd => hC d (hfm d hd).1) hpw2.2.1
 have h1 : (plain.map fun _ => 1) = plain.map fun c => ((fun c : Nat => [c]) c).length := rfl
 have PA := fun (ds : List (Int × Int)) (h2 : ds ≠ []) (h3 : ds.length ≤ 17) (h4 : Codes 128 ds) => pd_ok (fun c => [c]) (cells := plain) (ds := ds) (by rw [flat_one]; exact hpn) (fun c hc => by rw [flat_one] at hc; exact (hpc c hc).2) (by rw [flat_one]; lia) h2 h3 h4 fun d hd => rfl
 have P1 := PA near hnn (by lia) hcn
 have P2 := PA st hsn hps hcs
 rw [flat_one, flat_one, ← h1] at P1 P2
 have hokA := l2Fold_ok plain (plain.map fun _ => 1) (by rw [List.length_map]) near
 have hokB := l2Fold_ok plain (plain.map fun _ => 1) (by rw [List.length_map]) st
 have hIA : TInv (l2Fold plain (plain.map fun _ => 1) near).1 := TInv.fold near _ hpI fun d hd => hC d (hnm d hd).1
 have hIB : TInv (l2Fold plain (plain.map fun _ => 1) st).1 := TInv.fold st _ hpI hC
 have hA256 : ∀ c ∈ (l2Fold plain (plain.map fun _ => 1) near).1, c < 256 := fold_lt near _ (fun c hc => by have := (hpc c hc).2; lia) fun d hd => by have := hnm d hd; have := hC d this.1; lia
 have hcells : ∀ wo : List Nat, (l2Fold (l2Fold plain (plain.map fun _ => 1) near).1 wo far).1 = (l2Fold plain (plain.map fun _ => 1) st).1 := fun wo => by
   have e : l2Fold plain (plain.map fun _ => 1) st = far.foldl l2Step (l2Fold plain (plain.map fun _ => 1) near) := by
     unfold l2Fold
     rw [hnf, List.foldl_append]
   rw [e]
   refine l2_cells far ((l2Fold plain (plain.map fun _ => 1) near).1, wo, [], 128, 0, 0) (l2Fold plain (plain.map fun _ => 1) near) rfl (.inr fun d hd => ?_)
   have hd2 := (hfm d (List.mem_of_mem_head? hd)).2
   refine ⟨by show d.1.toNat ≠ 128; lia, ?_⟩
   have ho : (l2Fold plain (plain.map fun _ => 1) near).2.2.2.1 < 256 := by
     unfold l2Fold
     rw [l2_old]
     have key : ∀ (ds : List (Int × Int)) (o : Nat), o < 256 → (∀ d ∈ ds, d.1.toNat < 256) → ds.foldl (fun (a : Nat) (d : Int × Int) => d.1.toNat) o < 256 := fun ds => by
       induction ds with
       | nil => intro o h _; exact h
       | cons d ds ih => intro o h h2; exact ih _ (h2 d (.head _)) fun x hx => h2 x (.tail _ hx)
     exact key near 128 (by decide) fun d hd => by have := hnm d hd; have := hC d this.1; lia
   lia
 have hlA := hokA.len
 have hlB := hokB.len
 generalize hoc : (l2Fold plain (plain.map fun _ => 1) near).1 = octets at *
 generalize htx : (l2Fold plain (plain.map fun _ => 1) st).1 = text at *
 have hO : TextOk octets := hIA.text (by lia)
 have hT : TextOk text := hIB.text (by lia)
 have hwr : octets.flatMap (wrF eol) = octets.flatMap (wB eol) := by
   have : ∀ l : List Nat, (∀ c ∈ l, TOk c ∧ c < 256) → l.flatMap (wrF eol) = l.flatMap (wB eol) := fun l => by
     induction l with
     | nil => intro _; rfl
     | cons c l ih =>
       intro h
       rw [List.flatMap_cons, List.flatMap_cons, ih fun d hd => h d (.tail _ hd), wrF_trB (h c (.head _)).1 (h c (.head _)).2]; rfl
   exact this octets fun c hc => ⟨hIA.ok c hc, hA256 c hc⟩
 have hwl : (octets.map fun c => (wrF eol c).length) = octets.map fun c => (wB eol c).length := List.map_congr_left fun c hc => by
   rw [wrF_trB (hIA.ok c hc) (hA256 c hc)]; rfl
 have hWo := wB_lt he (t := octets) fun c hc => ⟨hIA.ok c hc, hA256 c hc⟩
 obtain ⟨r1, R1, j1⟩ := wide_rows he hO
 obtain ⟨r2, R2, j2⟩ := wide_rows he hT
 obtain ⟨r3, R3⟩ := txt_rows hm he hT
 have E1 := enc_ok (Nat.le_refl _) he hO R1
 have E2 := enc_ok (Nat.le_refl _) he hT R2
 have E3 := enc_ok hm2 he hT R3
 rw [j1] at E1
 rw [j2] at E2
 have hgf : ∀ d ∈ far, wB eol d.1.toNat = [d.1.toNat] := fun d hd => by
   have h2 := hfm d hd
   have h3 := hC d h2.1
   unfold wB
   rw [if_neg (by lia)]
   unfold trB
   rw [if_pos (by rw [decide_eq_true (by lia : 256 ≤ d.1.toNat), Bool.or_true])]
 have hwne : octets.flatMap (wB eol) ≠ [] := fun h => by
   have := E1.2.1.last
   rw [h] at this
   obtain ⟨c, h, _⟩ := this
   cases h
 have P3 := pd_ok (wB eol) (cells := octets) (ds := far) hwne hWo.1 (by lia) hfn (by lia) hcf hgf
 rw [hcells] at P3
 refine ⟨plain, octets, text, _, _, octets.flatMap (wB eol), _, text.flatMap (wB eol), joinL eol r3, near, far, st, rfl, hst1, hst2, hnear, hfd, hcn, hcs, hcf, hoc, rfl, htx, rfl, rfl, hA256, P1, P2, ?_, hwr, E1.1, E2.1, E3.1, E2.2.1, E3.2.1, ?_, R3.repl, by lia, by lia, by lia⟩
 · rw [hwl]; exact P3
 · intro r hr
   rw [cut_join he r3 R3.ne R3.rok] at hr
   exact R3.len r hr
end
section
open PySem PySem.W PySem.Calls PyProof.Rows
theorem reps_ints {O : List Addr} {h : Heap} : ∀ {vs : List Value} {ns : List Int}, IntsAre vs ns → Reps O h vs (ns.map .int)
 | _, _, .nil => .nil
 | _, _, .cons n t r => .cons .int (reps_ints r)
theorem scopes1 : scopesOk p1 13 = true := by kernel_rfl
theorem globs2 {K : Frag} {q : Program} {loose : List Str} {mean : ExcName → Option Value} {mg mb : Str → Option Value} {h : Heap} {w : World} (T : Top q loose mean mg mb h) (e : recsOf q = recsOf p1) (hl : (recsOf p1).length = 14) (X : K.In h) (F : KFacts2 K) : Globs2 p1 w h mg mb where
 B := ⟨T.g, T.b, T.nolimit, T.builtins⟩
 fn := fun k hk => by
   have := List.all_eq_true.mp scopes1 k (List.mem_range.mpr hk)
   simp only [Bool.and_eq_true, beq_iff_eq, Bool.not_eq_true'] at this
   exact hasFn_T T e (by omega) this.1.1.1 this.1.1.2 this.1.2 this.2
 enc := ⟨[.int 76, .str [10]], rfl, fnW_K X T.g F.be F.beF F.beC F.beD rfl rfl rfl (by decide)⟩
 dec := fnW_K X T.g F.de F.deF F.deC F.deD rfl rfl rfl (by decide)
 bi := noneIn_get X T.g F.bi
 digs := glob_K X T.g F.digs
 hex := glob_K X T.g F.hex
 quo := globL_K X T.g F.quo F.quoL
 encM := globL_K X T.g F.enc F.encL
 crlf := glob_K X T.g F.crlf
theorem law_call {K : Frag} {q : Program} {loose : List Str} {mean : ExcName → Option Value} {mg mb : Str → Option Value} {w : World} {s₁ : Shared} (T : Top q loose mean mg mb s₁.heap) (e : recsOf q = recsOf p1) (hl : (recsOf p1).length = 14) (X : K.In s₁.heap) (F : KFacts2 K)
   {a l : Addr} {o : Obj} {pm cd doc : Value} (ho : s₁.heap.get? a = some o) (hd : o.data = .func (docAt p1 13 pm cd doc)) (hcd : s₁.heap.CodeRec cd (recAt p1 13).name) (script : List Int) (hs : script.length ≤ 63) {vs : List Value} (hpl : s₁.heap.PlainList l vs.toArray) (hi : IntsAre vs script)
   {Q : Value → Shared → Prop} {E : Value → Shared → Prop} (k : ∀ h' tk, Ext s₁.heap h' → Q (.bool true) { s₁ with heap := h', toks := tk }) : wpQ (model p1 w) callerA (call (.ref a) [.ref l]) Q E s₁ := by
 have G := globs2 (w := w) T e hl X F
 have H : IsFnC s₁.heap a (docAt p1 13 pm cd doc) (recAt p1 13).body := ⟨⟨o, ho, hd⟩, rfl, hcd, rfl, rfl, rfl, rfl, rfl, rfl⟩
 have k3 := fmod_lt (a := script.sum) (b := 3) (by decide)
 have k9 := fmod_lt (a := script.sum.fdiv 3) (b := 9) (by decide)
 have k90 : 0 ≤ (script.sum.fdiv 3).fmod 9 := k9.1
 have k91 : ((script.sum.fdiv 3).fmod 9).toNat < 9 := k9.2
 have k31 : (script.sum.fmod 3).toNat < 3 := k3.2
 obtain ⟨eol, heol⟩ : ∃ eol, eols1[(script.sum.fmod 3).toNat]? = some eol := ⟨_, List.getElem?_eq_getElem (show _ < 3 from k31)⟩
 have heol' : Eol eol := by
   have := List.mem_of_getElem? heol
   simpa [eols1, Eol] using this
 obtain ⟨plain, octets, text, few, nums, written, anew, laid, short, near, far, st, h1, h2, h3, M⟩ := law2_ok (m := (4 + (script.sum.fdiv 3).fmod 9).toNat) heol' (by omega) (by omega) (script.take 10) (by rw [List.length_take]; omega)
 have V := fn_law2 (prog := p1) (w := w) G H script hs script.sum rfl eol (4 + (script.sum.fdiv 3).fmod 9).toNat (by omega) heol h1 h2 h3 M
 refine V callerA s₁ [] [.ref l] Q E (Nat.zero_le _) ⟨by decide, by decide, rfl⟩ rfl (Ext.refl _) ⟨fun a h => (by cases h), fun a h => (by cases h)⟩ (.cons (.lst (by simp) hpl (reps_ints hi)) .nil) fun v h' tk _ x hr => ?_
 cases hr
 exact k h' tk x
theorem wpQ_conseq {α : Type} {M : Model} {A : Around} {t : Sem α} {Q Q' : α → Shared → Prop} {E : Value → Shared → Prop} {s : Shared} (h : wpQ M A t Q E s) (hQ : ∀ a s, Q a s → Q' a s) : wpQ M A t Q' E s := wpQ_mono h hQ fun _ _ e => e
theorem recs_eq1 : recsOf qV = recsOf p1 := by kernel_rfl
theorem recs_len1 : (recsOf p1).length = 14 := by kernel_rfl
theorem law_fd {pm cd doc : Value} : docDef (recAt p1 13).name (recAt p1 13).params (recAt p1 13).body (recAt p1 13).scope pm cd doc = docAt p1 13 pm cd doc := rfl
theorem claimT : PySem.Challenge.rw_ij0180_02.Holds := by
 refine hdN ?_
 intro w s₀ s₁ mg mb G Y a o pm cd doc dV kV ho hd' hcd hD hmg hg args vals as hpre hlay hrd hwl hlo
 have KX := kIn_of Y
 refine Ground.open G ?_
 intro T B D TE TW
 wrow_args hpre hlay hrd hwl hlo
 rename_i script _ _ _ _ _ _ _ l vs _ hL _ hW _ hI _ hlen _
 have hpl : s₁.heap.PlainList l vs.toArray := by
   cases hW with
   | list e _ =>
     obtain ⟨o', h1, h2, n, h3⟩ := hL
     rw [e] at h1
     cases h1
     cases h3
     exact ⟨_, e⟩
 have hlen' : script.length ≤ 63 := by omega
 have hdn : dV = .none ∧ kV = .none := by
   refine ⟨(hD.pos.resolve_right fun h => h.1 rfl).2, (hD.kw.resolve_right fun h => h.1 rfl).2⟩
 obtain ⟨rfl, rfl⟩ := hdn
 have hd2 : o.data = .func (docAt p1 13 pm cd doc) := hd'.trans (by kernel_rfl)
 refine law_call (w := w) T recs_eq1 recs_len1 KX (kf _) ho hd2 (by exact hcd) script hlen' hpl hI fun h' tk x => ?_
 refine ⟨.inl ⟨.bool true, .bool true, [], rfl, raisesW_false (by wrow_none_raised), .bool true, ?_, fun _ => ⟨List.nodup_nil, fun a h => by cases h⟩⟩, .of_keep x, rfl, .of_eq hg⟩
 exact postW_of (by wrow_shape) (by wtm_val) (by w_fin)
end
end Mine
set_option maxRecDepth 100000 in
set_option maxHeartbeats 8000000 in
theorem PySem.Challenge.cw_ij0180_02_holds : PySem.Challenge.rw_ij0180_02.Holds := by
  exact Mine.claimT
