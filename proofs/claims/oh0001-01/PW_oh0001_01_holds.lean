import PyProof.Rows.All
import Wide.All
import OpenK.AllK
import Wide.FinOn
import Lean
import PySem.Challenge.RW_oh0001_01
set_option Elab.async false
open PySem PySem.W PySem.W.X PyProof.Rows
set_option maxRecDepth 100000
set_option linter.unusedVariables false
set_option linter.unusedSectionVars false
set_option maxHeartbeats 4000000
set_option genInjectivity false
set_option genSizeOfSpec false
namespace Mine
theorem ar0 {a b : Nat} : a % 2 = 1 → b % 2 = 1 → ¬ a = b → ¬ a / 2 = b / 2 := by lia
theorem ar1 {a b : Nat} : a % 2 = 1 → ¬ b % 2 = 1 → ¬ a = b := by grind
theorem ar2 {a b : Nat} : b % 2 = 1 → ¬ a % 2 = 1 → ¬ a = b := by grind
theorem ar3 {a b : Nat} : ¬ a % 2 = 1 → ¬ b % 2 = 1 → ¬ a = 0 → ¬ b = 0 → ¬ a = b → ¬ a / 2 - 1 = b / 2 - 1 := by lia
theorem ar4 {a : Nat} : a % 2 = 1 → a = 2 * (a / 2) + 1 := by lia
theorem ar5 {a b c : Nat} : a + (b + c) = a + b + c := by intros; simp +arith at *; try assumption
theorem ar6 {a b c d e : Nat} : d + (e + b) < c → d + (e + b) = a + b → a + b < c := by intros; simp_all
theorem ar7 {a : Nat} : ¬ a % 2 = 1 → ¬ a = 0 → a = 2 * (a / 2 - 1) + 2 := by lia
theorem ar8 {a b c : Nat} : a + (2 * b + c) = a + 2 * b + c := by intros; simp +arith at *; try assumption
theorem ar9 {a b c d e : Nat} : d + (2 * e + b) < c → d + (2 * e + b) = a + b → a + b < c := by intros; simp_all
theorem ar11 : (217 : Nat) ≤ 140 → False := by grind
theorem ar12 : (217 : Nat) ≤ 147 → False := by grind
theorem ar13 {a b : Nat} : a < b → b ≤ a → False := by grind
theorem ar14 {a b c d : Nat} : a + d < c → b ≤ d → a + b < c := by lia
theorem ar15 {a b : Nat} : a ≤ b → a + 1 ≤ b + 1 := by intros; simp +arith at *; try assumption
theorem ar16 {a : Nat} : (0 ≤ -1 + ((a : Int) + 1) ∧ -1 + ((a : Int) + 1) < (a : Int) + 1) ∧ Int.toNat (-1 + ((a : Int) + 1)) = a := by intros; simp +arith at *; try assumption
theorem ar17 {a b c : Nat} : c + 1 ≤ b → a = c + 1 → a ≤ b := by intros; subst_vars; first | assumption | rfl | omega
theorem ar18 {a b : Nat} : a + 1 ≤ b → a ≤ b + 1 := by grind
theorem ar19 {a : Int} : 0 < a → ¬ a ≤ 0 := by intros; simp_all
theorem ar21 {a b : Nat} : a ≤ b → Int.toNat (max (a : Int) (b : Int)) = b := by grind
theorem ar22 {a b c : Nat} : a + c ≤ b → a ≤ b := by lia
theorem ar23 {a b c d : Nat} : b + c ≤ d → min a b + c ≤ d + 1 := by lia
theorem ar24 {a : Int} : -1099511627776 ≤ a → a ≤ 1099511627776 → -9223372036854775808 ≤ a ∧ a < 9223372036854775808 := by lia
theorem ar25 {a : Int} : -1000 ≤ a ∧ a ≤ 1099511627770 → -1099511627776 ≤ a := by intros; subst_vars; lia
theorem ar26 {a : Int} : -1000 ≤ a ∧ a ≤ 1099511627770 → a ≤ 1099511627776 := by intros; subst_vars; lia
theorem ar27 {a : Int} : a = 1 ∨ a = -1 → -1099511627776 ≤ a := by intros; subst_vars; grind
theorem ar28 {a : Int} : a = 1 ∨ a = -1 → a ≤ 1099511627776 := by intros; subst_vars; grind
theorem ar29 {a : Int} : 0 ≤ a ∧ a ≤ 1099511627770 → -1099511627776 ≤ a := by grind
theorem ar30 {a : Int} : 0 ≤ a ∧ a ≤ 1099511627770 → a ≤ 1099511627776 := by grind
theorem ar35 {a b : Nat} : a + 1 ≤ b → a ≤ b := by grind
theorem ar36 {a b c d : Nat} : c + 0 ≤ d → a + 1 ≤ c → b = d → a ≤ b := by lia
theorem ar37 {a : Nat} : (a : Int) - 0 - 1 + 1 = (a : Int) := by intros; subst_vars; grind
theorem ar39 {a : Nat} : a ≤ 1000 → -1000 ≤ (a : Int) ∧ (a : Int) ≤ 1099511627770 := by lia
theorem ar40 : (-1000 : Int) ≤ 0 ∧ (0 : Int) ≤ 1099511627770 := by intros; decide
theorem ar41 {a : Nat} : a ≤ 1000 → 0 ≤ (a : Int) ∧ (a : Int) ≤ 1099511627770 := by lia
theorem ar42 {a : Nat} : 0 < a → 0 < (a : Int) := by intros; simp_all
theorem ar43 {a : Nat} : 0 ≤ (a : Int) := by intros; simp +arith at *
theorem ar44 {a : Nat} : a ≤ 1000 → (a : Int) < 2 ^ 63 := by lia
theorem ar45 {a b c d e f g h i j k l : Nat} : c + 0 ≤ d → e + 0 ≤ f → f + 0 ≤ g → g + 0 ≤ h → h + 0 ≤ i → i + 0 ≤ j → j + 0 ≤ k → a + 1 ≤ c → d + 1 ≤ l → l + 1 ≤ e → b = k → a ≤ b := by lia
theorem ar46 {a b c d e f : Nat} : c + 0 ≤ d → a + 1 ≤ c → d + 1 ≤ e → f + 3 ≤ b → e + 6 ≤ f → a ≤ b := by lia
theorem ar47 {a b c d e f g : Nat} : c + 0 ≤ d → a + 1 ≤ c → d + 1 ≤ e → f + 3 ≤ g → e + 6 ≤ f → b = g → a ≤ b := by intros; subst_vars; lia
theorem ar48 {a b c : Nat} : c = a → c ≤ b → a ≤ b := by intros; subst_vars; first | assumption | rfl | omega
theorem ar49 {a : Nat} : 217 ≤ a → a = a - 217 + 217 := by intros; simp_all
theorem ar51 {a b : Nat} : b + 0 = a → a ≤ b := by intros; simp_all
theorem ar52 {a b c : Nat} : a + 0 ≤ c → b = c → a ≤ b := by intros; subst_vars; first | assumption | rfl | omega
theorem ar53 {a b c : Nat} : a + (c + 1) = b → a < b := by intros; subst_vars; grind
theorem ar54 {a b c d : Nat} : b + (c + 1) = d → d ≤ 900 → a ≤ b → a ≤ 1000 := by intros; subst_vars; lia
theorem ar55 {a b c : Nat} : a + (b + 1) = c → a + 1 + b = c := by intros; simp +arith at *; try assumption
theorem ar56 {a b c d : Nat} : a + 0 ≤ c → c + 1 ≤ d → b = d → a ≤ b := by intros; subst_vars; lia
theorem ar57 : (20 : Nat) ≤ 30 := by intros; simp +arith at *; try assumption
theorem ar58 : (80 : Nat) ≤ 120 := by intros; simp +arith at *
theorem ar59 {a : Nat} : 0 < a → a = a - 1 + 1 := by grind
theorem ar60 {a b : Nat} : b = a + 1 → 1 + a = b := by grind
theorem ar61 {a b : Nat} : b = a + 1 → 0 + (a + 1) = b := by intros; simp_all
theorem ar62 {a b : Nat} : b = 1 ∨ b = 2 → ¬ (4 * a + b) % 4 = 0 := by grind
theorem ar63 {a b c : Nat} : a < c → b = 1 ∨ b = 2 → (4 * a + b) / 4 < c := by lia
theorem ar64 {a b c : Nat} : c = 1 ∨ c = 2 → ¬ (4 * (a + b) + c) % 4 = 0 := by lia
theorem ar65 {a b c : Nat} : ¬ (4 * (a + b) + c) / 4 < a := by intros; subst_vars; lia
theorem ar66 {a b c : Nat} : 4 * (a + b) + c - 4 * a = 4 * b + c := by lia
theorem ar67 {a b c : Nat} : a + (b + 1) ≤ c → a + 1 + b ≤ c := by intros; simp +arith at *; try assumption
theorem ar68 {a b c : Nat} : a + (c + 1) ≤ b → a < b := by lia
theorem ar69 {a b : Nat} : a + 1 + b = a + (b + 1) := by intros; subst_vars; grind
theorem ar70 {a : Nat} : 0 + a ≤ a := by intros; simp +arith at *; try assumption
theorem ar71 {a b : Nat} : b = a → a ≤ b := by grind
theorem ar72 {a b c : Nat} : b - a = c + 1 → a < b := by omega
theorem ar73 {a : Nat} : a ≤ 900 → a ≤ 100000 := by intros; subst_vars; lia
theorem ar74 {a b c : Nat} : b < c → c ≤ 1000 → a ≤ 1000000 + b → a ≤ 1002000 := by lia
theorem ar75 {a b : Nat} : a < b → a + 1 ≤ b := by intros; subst_vars; first | assumption | rfl | omega
theorem ar76 {a b : Nat} : a ≤ 1000000 + b → a + 1 ≤ 1000000 + (b + 1) := by intros; simp +arith at *; try assumption
theorem ar77 {a b c d e : Nat} : a + 0 ≤ c → c + 0 ≤ d → d + 1 ≤ e → b = e → a ≤ b := by grind
theorem ar78 {a b : Nat} : a < b → b ≤ a + 1 → a = b - 1 := by lia
theorem ar79 {a b c : Nat} : a + 0 ≤ c → c + 0 ≤ b → a ≤ b + 0 := by grind
theorem ar80 {a : Nat} : 0 ≤ a := by intros; simp +arith at *
theorem ar81 {a : Nat} : a ≤ 900 → a ≤ 1000 := by intros; subst_vars; grind
theorem ar82 {a b c : Nat} : b < c → c ≤ 900 → a ≤ b * 1000 → a ≤ 1000000 := by lia
theorem ar83 {a b c : Nat} : b ≤ 900 → a ≤ c * 1000 → a + b ≤ (c + 1) * 1000 := by intros; subst_vars; lia
theorem ar84 {a b c : Nat} : a + 0 ≤ c → c + 0 ≤ b → a ≤ b + 1 := by intros; subst_vars; grind
theorem ar85 : (40 : Nat) ≤ 50 := by intros; simp +arith at *
theorem ar86 : (150 : Nat) ≤ 180 := by intros; simp +arith at *
theorem ar87 : (((0 : Nat) : Int) : Int) ≤ 0 := by intros; simp +arith at *
theorem ar88 {a : Nat} : (a : Int) + 1 = ((a + 1 : Nat) : Int) := by intros; subst_vars; first | assumption | rfl | omega
theorem ar89 {a : Nat} : ((a + 1 : Nat) : Int) - 1 = (a : Int) := by intros; simp +arith at *
theorem ar90 {a b c : Nat} : a + (b + 1) ≤ c → c ≤ 900 → (a : Int) < 2 ^ 63 := by lia
theorem ar91 {a : Nat} : a ≤ a := by intros; subst_vars; grind
theorem ar92 {a b : Nat} : a < a + (b + 1) := by intros; subst_vars; grind
theorem ar93 {a b c : Nat} : a ≤ b ∧ b < a + (c + 1) → ¬ b = a → a + 1 ≤ b := by lia
theorem ar94 {a b c : Nat} : b ≤ a ∧ a < b + (c + 1) → a < b + 1 + c := by intros; subst_vars; grind
theorem ar95 {a b c : Nat} : a ≤ b ∧ b < a + (c + 1) → a ≤ b := by intros; simp_all
theorem ar96 {a b c : Nat} : b ≤ a ∧ a < b + (c + 1) → a < b + (c + 1) := by intros; simp_all
theorem ar97 {a : Nat} : 0 < ((a + 1 : Nat) : Int) := by intros; simp +arith at *
theorem ar98 {a b c d e : Nat} : a + 0 ≤ c → c + 0 ≤ d → d + 0 ≤ e → b = e → a ≤ b := by grind
theorem ar99 {a b c d e f g : Nat} : a + 0 ≤ c → c + 0 ≤ d → d + 0 ≤ e → e + 0 ≤ f → f + 0 ≤ g → b = g → a ≤ b := by grind
theorem ar100 {a b : Nat} : (b : Int) - (a : Int) = 1 → a < b := by omega
theorem ar101 {a b : Nat} : (if a < b then (b : Int) - (a : Int) else 0) = ((b - a : Nat) : Int) := by lia
theorem ar102 {a b c : Nat} : a < b → c ≤ 900 → b ≤ c → -1000 ≤ (a : Int) ∧ (a : Int) ≤ 1099511627770 := by lia
theorem ar103 {a b : Nat} : b ≤ 900 → a ≤ b → -1000 ≤ (a : Int) ∧ (a : Int) ≤ 1099511627770 := by lia
theorem ar104 {a b c : Nat} : c ≤ 900 → a ≤ c → 0 ≤ ((a - b : Nat) : Int) ∧ ((a - b : Nat) : Int) ≤ 1099511627770 := by lia
theorem ar105 {a b c : Nat} : a < b → b ≤ c → a + (b - a) ≤ c := by lia
theorem ar106 {a b : Nat} : Int.toNat ((a : Int) - (b : Int)) = a - b := by intros; simp_all
theorem ar107 {a b : Nat} : a < b → a + 1 < b + 1 := by intros; simp +arith at *; try assumption
theorem ar108 {a b : Nat} : ¬ a < b → ¬ a + 1 < b + 1 := by intros; simp_all
theorem ar109 {a b : Nat} : b < a → a - 1 - b < a := by grind
theorem ar110 {a b : Nat} : b < a → (a : Int) - 1 - (b : Int) = ((a - 1 - b : Nat) : Int) := by intros; subst_vars; grind
theorem ar111 {a b : Nat} : a < b → b ≤ 900 → (a : Int) < 2 ^ 63 := by lia
theorem ar112 {b c : Nat} {a : Int} : a - 1 - (b : Int) = ((c - 1 - b : Nat) : Int) → 0 ≤ a - 1 - (b : Int) := by intros; simp_all
theorem ar113 {b c : Nat} {a : Int} : a - 1 - (b : Int) = ((c - 1 - b : Nat) : Int) → c ≤ 900 → a - 1 - (b : Int) < 2 ^ 63 := by omega
theorem ar114 {a b c d : Nat} : a + 0 ≤ c → c + 3 ≤ d → b = d → a ≤ b := by intros; subst_vars; grind
theorem ar115 {a b c d : Nat} : c + 3 ≤ b → a ≤ d → d ≤ c → a ≤ b := by grind
theorem ar116 {a : Nat} : ¬ a < a := by intros; simp +arith at *
theorem ar117 {a b : Nat} : b ≤ a → (a : Int) - (b : Int) = ((a - b : Nat) : Int) := by omega
theorem ar118 {a b : Nat} : a - b ≤ a := by intros; simp_all
theorem ar119 {a b : Nat} : a < b → b ≤ 900 → a ≤ 1000 := by grind
theorem ar120 {a b : Nat} : ¬ b < a → a ≤ b := by intros; simp +arith at *; try assumption
theorem ar121 {a : Nat} : ¬ (4 * a + 1) % 4 = 0 := by intros; simp +arith at *
theorem ar122 {a : Nat} : (4 * a + 1) % 4 = 1 := by intros; simp +arith at *
theorem ar123 {a : Nat} : (4 * a + 1) / 4 = a := by grind
theorem ar124 {a : Nat} : ¬ (4 * a + 2) % 4 = 0 := by intros; simp +arith at *
theorem ar125 {a : Nat} : ¬ (4 * a + 2) % 4 = 1 := by omega
theorem ar126 {a : Nat} : (4 * a + 2) % 4 = 2 := by intros; simp +arith at *
theorem ar127 {a : Nat} : (4 * a + 2) / 4 = a := by grind
theorem ar128 {a b : Nat} : ¬ (4 * (1024 * a + b) + 3) % 4 = 0 := by intros; simp_all
theorem ar129 {a b : Nat} : ¬ (4 * (1024 * a + b) + 3) % 4 = 1 := by intros; simp_all
theorem ar130 {a b : Nat} : ¬ (4 * (1024 * a + b) + 3) % 4 = 2 := by intros; simp_all
theorem ar131 {a b : Nat} : b < 1024 → (4 * (1024 * a + b) + 3) / 4 / 1024 = a := by lia
theorem ar132 {a b : Nat} : (4 * (1024 * a + b) + 3) / 4 / 1024 = a → (4 * (1024 * a + b) + 3) / 4 % 1024 = b := by grind
theorem ar133 {a b c : Nat} : a < c → c ≤ b → a < b := by grind
theorem ar134 {a : Nat} : 1 ≤ a → (a : Int) - 1 = ((a - 1 : Nat) : Int) := by intros; subst_vars; first | assumption | rfl | omega
theorem ar135 {a b c : Nat} : a + 3 ≤ c → b = c → a ≤ b := by intros; subst_vars; lia
theorem ar136 {a b c : Nat} : c + 3 ≤ b → a ≤ c → a ≤ b := by lia
theorem ar137 {a b c : Nat} : c + 1 ≤ b → a ≤ c → a ≤ b + 0 := by lia
theorem ar138 {a : Nat} : a - 1 ≤ a := by intros; simp +arith at *
theorem ar139 {a b : Nat} : b = a → a - 1 ≤ b := by intros; subst_vars; grind
theorem ar140 {a : Nat} : (a - 1 = 0 → 0 = ((a - 1 : Nat) : Int)) := by intros; simp_all
theorem ar141 {a : Nat} : a ≤ 900 → -1000 ≤ ((a - 1 : Nat) : Int) ∧ ((a - 1 : Nat) : Int) ≤ 1099511627770 := by intros; subst_vars; first | assumption | rfl | omega
theorem ar142 {a : Nat} : a ≤ 900 → 0 ≤ ((a - 1 : Nat) : Int) ∧ ((a - 1 : Nat) : Int) ≤ 1099511627770 := by omega
theorem ar143 {a : Nat} : a ≤ 900 → a - 1 ≤ 900 := by grind
theorem ar144 {a : Nat} : 0 + (a - 1) = a - 1 := by intros; simp +arith at *; try assumption
theorem ar145 {a b c : Nat} : a < c - 1 → b = c → a < b := by intros; subst_vars; grind
theorem ar146 {a b : Nat} : a < b - 1 → a < b := by intros; subst_vars; grind
theorem ar147 {a : Nat} : a = 218 → 217 ≤ a := by intros; simp_all
theorem ar148 {a b : Nat} : b = a + 1 → a ≤ b := by intros; simp_all
theorem ar149 {a b c : Nat} : c ≤ 1000 → min (a - b) (c - b) ≤ 100000 := by grind
theorem ar150 {a b c d : Nat} : c + 0 ≤ d → a + 2 ≤ c → b = d → a ≤ b := by grind
theorem ar151 {a b : Nat} : ¬ a < b → ¬ (a : Int) < (b : Int) := by intros; simp +arith at *; try assumption
theorem ar152 {a b c : Nat} : a + 2 ≤ c → b = c + 0 → a ≤ b := by grind
theorem ar153 {a : Nat} : ¬ (a : Int) < 0 := by intros; subst_vars; first | assumption | rfl | omega
theorem ar154 {a : Nat} : max 0 (min (a : Int) ((a + 1 : Nat) : Int)) = (a : Int) := by grind
theorem ar155 {a b c d : Nat} : a + 2 ≤ c → c + 2 ≤ d → b = d + 0 → a ≤ b := by grind
theorem ar157 {a b c : Nat} : a + 3 ≤ c → b = c + 0 → a ≤ b := by intros; subst_vars; grind
theorem ar158 {a b c d e f : Nat} : c = a → d = c → e = d → f = e → b = f + 1 → a ≤ b := by intros; subst_vars; grind
theorem ar159 {a b c d e : Nat} : c = a → d = c → e = d → b = e → a ≤ b + 0 := by intros; simp_all
theorem ar160 {a b : Nat} : a + 217 < b → a + 217 ≠ b := by lia
theorem ar161 {a b c d : Nat} : a + 217 < c → d = c + 1 → d ≤ b → a + 217 ≠ b := by lia
theorem ar162 {a b c d : Nat} : c = a + 1 → b = d + 1 → c ≤ d → a ≤ b := by intros; subst_vars; grind
theorem ar163 {a : Nat} : ((a + 1 : Nat) : Int) ≠ 0 := by intros; subst_vars; first | assumption | rfl | omega
theorem ar164 : (5 : Nat) ≤ 15 := by intros; simp +arith at *
theorem ar165 : (20 : Nat) ≤ 40 := by intros; simp +arith at *
theorem ar166 {a b c d e f : Nat} : c + 0 ≤ d → a + 217 < e → f = d → c = e + 1 → f ≤ b → a + 217 ≠ b := by intros; subst_vars; lia
theorem ar167 {a b c d e f g : Nat} : c + 0 ≤ d → e + 1 ≤ f → g = d → b = f → c = a + 1 → g ≤ e → a ≤ b := by grind
theorem ar168 {a b c d e : Nat} : a + 217 < c → d = e → e = c + 1 → d ≤ b → a + 217 ≠ b := by intros; subst_vars; grind
theorem ar169 {a b c d e : Nat} : c = d → d = a + 1 → b = e + 1 → c ≤ e → a ≤ b := by intros; subst_vars; lia
theorem ar170 {a b : Nat} : a + 5 < b → a < b := by lia
theorem ar171 {a : Nat} : 2 = a + 0 → 217 ≤ a + 0 → False := by intros; subst_vars; grind
theorem ar172 {a b c : Nat} : 217 ≤ b → b < c → a = c + 1 → 217 ≤ a := by intros; subst_vars; lia
theorem ar173 {a b c d e : Nat} : c = a → b = d → e = c + 1 → e ≤ d → a ≤ b := by intros; subst_vars; grind
theorem ar174 {a b : Nat} : b = a → a ≤ b + 0 := by intros; subst_vars; grind
theorem ar175 {a b c : Nat} : a < c → b = c + 1 → a < b := by grind
theorem ar176 {a b : Nat} : b = a + 1 → a < b := by intros; simp_all
theorem ar177 {a b c d : Nat} : b = c → d = a + 1 → d ≤ c → a + 0 < b := by intros; subst_vars; first | assumption | rfl | omega
theorem ar178 {a b : Nat} : ¬ b < a → ¬ b = a → a < b := by grind
theorem ar179 {a b : Nat} : a < b → a ≤ b := by grind
theorem ar180 {a b : Nat} : a ≤ b → a ≤ b + 1 := by intros; subst_vars; grind
theorem ar181 {a b c d : Nat} : a + 0 ≤ c → c + 0 ≤ d → b = d → a ≤ b := by grind
theorem ar182 {a b c : Nat} : b < c → c ≤ 1000 → a ≤ b → a ≤ 1000 := by grind
theorem ar183 {a b : Nat} : 0 < b → ¬ a + b = 0 := by lia
theorem ar184 : (50 : Nat) ≤ 60 := by intros; simp +arith at *
theorem ar185 : (200 : Nat) ≤ 250 := by intros; simp +arith at *
theorem ar186 {a b c : Nat} : a + (c + 1) = b + 1 → a ≤ b := by lia
theorem ar187 {a b c d e : Nat} : a + 0 ≤ c → d + 0 ≤ b → e = c → d = e → a ≤ b + 1 := by intros; subst_vars; grind
theorem ar188 {a b : Nat} : a + 330 < b → a < b := by lia
theorem ar189 {a b c : Nat} : a + (b + 1) = c + 1 → a + 1 + b = c + 1 := by intros; simp +arith at *; try assumption
theorem ar190 {a b c : Nat} : a + (c + 1) = b + 1 → c = 0 → a = b := by intros; subst_vars; grind
theorem ar191 {a b c d e : Nat} : c + 3 ≤ d → e = d → b = e + 1 → a ≤ c + 1 → a ≤ b := by intros; subst_vars; lia
theorem ar192 {a b c : Nat} : b ≤ 900 → a ≤ c → c ≤ b → a ≤ 1000 := by lia
theorem ar193 {a b c d e f g : Nat} : c + 0 ≤ d → e + 3 ≤ f → g = f → b = d → c = g + 1 → a ≤ e + 1 → a ≤ b := by intros; subst_vars; lia
theorem ar194 {a b : Nat} : (a : Int) = (b : Int) → a = b := by omega
theorem ar195 {a : Nat} : a ≤ 100000 → ¬ (a : Int) ≥ 2 ^ 63 := by lia
theorem ar196 {a : Nat} : ¬ (4 * (a + 1) + 1) % 4 = 0 := by intros; simp +arith at *
theorem ar197 {a : Nat} : (4 * (a + 1) + 1) % 4 = 1 := by intros; simp_all
theorem ar198 {a : Nat} : ¬ (4 * (a + 1) + 1) / 4 = 0 := by intros; simp +arith at *
theorem ar199 {a : Nat} : ¬ (4 * (a + 1) + 2) % 4 = 0 := by intros; simp +arith at *
theorem ar200 {a : Nat} : ¬ (4 * (a + 1) + 2) % 4 = 1 := by intros; simp +arith at *
theorem ar201 {a : Nat} : (4 * (a + 1) + 2) % 4 = 2 := by intros; simp_all
theorem ar202 {a : Nat} : ¬ (4 * (a + 1) + 2) / 4 = 0 := by intros; simp +arith at *; try assumption
theorem ar203 {a : Nat} : ¬ (4 * (1024 * 0 + a) + 3) % 4 = 0 := by intros; simp +arith at *
theorem ar204 {a : Nat} : ¬ (4 * (1024 * 0 + a) + 3) % 4 = 1 := by grind
theorem ar205 {a : Nat} : ¬ (4 * (1024 * 0 + a) + 3) % 4 = 2 := by intros; simp_all
theorem ar206 {a : Nat} : a < 1024 → (4 * (1024 * 0 + a) + 3) / 4 < 1024 := by omega
theorem ar207 {a : Nat} : (4 * (1024 * 0 + a) + 3) / 4 = a := by lia
theorem ar208 {a b : Nat} : ¬ (4 * (1024 * (a + 1) + b) + 3) % 4 = 0 := by intros; simp_all
theorem ar209 {a b : Nat} : ¬ (4 * (1024 * (a + 1) + b) + 3) % 4 = 1 := by intros; simp_all
theorem ar210 {a b : Nat} : ¬ (4 * (1024 * (a + 1) + b) + 3) % 4 = 2 := by intros; simp_all
theorem ar211 {a b : Nat} : ¬ (4 * (1024 * (a + 1) + b) + 3) / 4 < 1024 := by grind
theorem ar212 {a b : Nat} : 4 * (1024 * (a + 1) + b) + 3 - 4096 = 4 * (1024 * a + b) + 3 := by intros; subst_vars; grind
theorem ar213 {a : Nat} : 1 ≤ a + 1 := by intros; simp_all
theorem ar214 {a b : Nat} : a + 1 ≤ b → a + 1 < 1 + b := by intros; simp +arith at *; try assumption
theorem ar215 {a : Nat} : (a : Int) + 1 - (a : Int) = 1 := by intros; simp +arith at *
theorem ar216 {a : Nat} : ((a : Int) + 1 ≤ 1 → 0 = (a : Int)) := by grind
theorem ar217 : (-1000 : Int) ≤ 1 ∧ (1 : Int) ≤ 1099511627770 := by intros; decide
theorem ar218 {a : Nat} : a ≤ 100000 → -1000 ≤ (a : Int) + 1 ∧ (a : Int) + 1 ≤ 1099511627770 := by lia
theorem ar219 {a : Nat} : a ≤ 100000 → 0 ≤ (a : Int) ∧ (a : Int) ≤ 1099511627770 := by lia
theorem ar220 {a b : Nat} : a + (b + 1) ≤ 950 → a + 1 + b ≤ 950 := by intros; simp +arith at *; try assumption
theorem ar221 {a : Nat} : 0 < a → ¬ a = 0 := by lia
theorem ar222 {a b : Nat} : b + 1 ≤ a → a - (b + 1) + 1 ≤ a := by grind
theorem ar223 {a b : Nat} : b + 1 ≤ a → a - (b + 1) + 1 = a - b := by intros; subst_vars; first | assumption | rfl | omega
theorem ar224 {a b : Nat} : a + (b + 1) ≤ 950 → a ≤ 1000 := by lia
theorem ar225 {a : Nat} : 1 + a = a + 1 := by intros; subst_vars; grind
theorem ar226 {a b : Nat} : a + (b + 1) ≤ 950 → a + 1 ≤ 1000 := by lia
theorem ar227 {a b : Nat} : b ≤ 900 → a ≤ b → a ≤ 1000 := by grind
theorem ar228 {a b : Nat} : b ≤ 900 → a ≤ b → a ≤ 1024 := by lia
theorem ar229 {a b c d e f g h i : Nat} : a + 0 ≤ c → c + 0 ≤ d → d + 0 ≤ e → f + 0 ≤ g → g + 0 ≤ h → e + 1 ≤ i → i + 1 ≤ f → b = h → a ≤ b := by intros; subst_vars; grind
theorem ar230 {a b c d : Nat} : a + 0 ≤ c → c + 0 ≤ d → d + 0 ≤ b → a ≤ b + 0 := by grind
theorem ar231 {a b : Nat} : a = b + 1 → 0 + 1 ≤ a := by intros; subst_vars; grind
theorem ar232 {a b : Nat} : a = b + 1 → a - b = 0 + 1 := by intros; subst_vars; grind
theorem ar233 {a b : Nat} : b = a + 1 → b ≤ 900 → a ≤ 949 := by lia
theorem ar234 {a b c : Nat} : a + 6 ≤ c → b = c → a ≤ b := by intros; subst_vars; grind
theorem ar235 {a b : Nat} : a + 6 ≤ b → a ≤ b := by intros; subst_vars; grind
theorem ar236 {a : Nat} : min 6 a + 4 ≤ 10 := by lia
theorem ar237 {a : Nat} : (a = 0 → 0 = (a : Int)) := by intros; subst_vars; first | assumption | rfl | omega
theorem ar238 {a : Nat} : a ≤ 100000 → -1000 ≤ (a : Int) ∧ (a : Int) ≤ 1099511627770 := by lia
theorem ar239 {a : Nat} : min 6 a ≤ 6 := by grind
theorem ar240 {a b c d : Nat} : a + 1 ≤ c → c + 1 ≤ d → b = d → a ≤ b := by grind
theorem ar241 {a : Nat} : a ≤ 10 ∧ 0 < a → a ≤ 100000 := by lia
theorem ar242 {a b c d e : Nat} : a + 0 ≤ c → c + 1 ≤ d → d + 2 ≤ e → b = e → a ≤ b := by grind
theorem ar243 {a : Nat} : a ≤ 10 → a + a ≤ 900 := by grind
theorem ar244 {a : Nat} : 0 < a → 0 < a + a := by omega
theorem ar245 {a b : Nat} : 0 < a ∧ a ≤ 900 → a = b → a + b ≤ 1800 := by lia
theorem ar246 {a : Nat} : a ≤ 10 → a + a ≤ 20 := by intros; subst_vars; lia
theorem ar247 {a b c d e f g h : Nat} : a + 0 ≤ c → c + 0 ≤ d → e + 0 ≤ f → g + 0 ≤ h → d + 1 ≤ e → f + 3 ≤ g → b = h → a ≤ b := by grind
theorem ar248 {a : Nat} : a ≤ 10 → a ≤ 900 := by lia
theorem ar249 {a b : Nat} : a = b → b ≤ 10 → a ≤ 900 := by intros; subst_vars; grind
theorem ar250 {a b : Nat} : 0 < b → a = b → 0 < a := by intros; subst_vars; first | assumption | rfl | omega
theorem ar251 {a b c d : Nat} : c + 0 ≤ d → a + 3 ≤ c → b = d → a ≤ b := by intros; subst_vars; grind
theorem ar252 {a b : Nat} : b = a + 3 → a ≤ b := by intros; simp_all
theorem ar253 {a : Nat} : 0 < a ∧ a ≤ 900 → a ≤ 900 := by intros; simp_all
theorem ar254 {a b : Nat} {c : Int} : (b : Int) = c → (a : Int) = c → 0 < b ∧ b ≤ 900 → a ≤ 900 := by lia
theorem ar255 {a b c d : Nat} : a + 0 ≤ c → c + 0 ≤ d → b = d + 1 → a ≤ b := by grind
theorem ar256 {a b : Nat} : a + 890 < b → a < b := by lia
theorem ar257 {a b : Nat} {c : Int} : (b : Int) = c → (a : Int) = c → 0 < b ∧ b ≤ 900 → 0 < a := by omega
theorem ar258 {a b : Nat} : a = b → b ≤ 10 → a ≤ 10 := by intros; simp_all
theorem ar259 {a b c d e : Nat} : a + 0 ≤ c → c + 1 ≤ d → d + 3 ≤ e → b = e → a ≤ b := by intros; subst_vars; grind
theorem ar260 {a : Nat} : 0 < a ∧ a ≤ 900 → 0 < a := by intros; simp_all
theorem ar261 {a : Nat} : min a a = a := by intros; simp +arith at *
theorem ar262 {a b : Nat} : a = b → b ≤ 10 → a ≤ 1000 := by grind
theorem ar263 {a b c d : Nat} : a + 0 ≤ c → c + 7 ≤ d → b = d → a ≤ b := by grind
theorem ar264 {a b : Nat} : a + 890 < b → a + 1 < b := by lia
theorem ar265 {a b c : Nat} : a < c → b = c → a < b := by intros; subst_vars; first | assumption | rfl | omega
theorem ar266 {a : Nat} : ¬ (a : Int) < -2 ^ 63 := by intros; simp_all
theorem ar267 {a : Nat} : a < 1000000 → ¬ (a : Int) ≥ 2 ^ 63 := by lia
theorem ar268 {a b : Nat} : a < b → (0 ≤ (if (a : Int) < 0 then (a : Int) + (b : Int) else (a : Int)) ∧ (if (a : Int) < 0 then (a : Int) + (b : Int) else (a : Int)) < (b : Int)) ∧ Int.toNat (if (a : Int) < 0 then (a : Int) + (b : Int) else (a : Int)) = a := by intros; subst_vars; lia
theorem ar269 {a : Nat} : a ≤ 1000 → ¬ (a : Int) ≥ 2 ^ 63 := by lia
theorem ar271 {a : Nat} : a ≤ 1000 → 1 * (a : Int) ≤ 2 ^ 63 - 1 := by lia
theorem ar272 {a : Int} : 1 ≤ a → ¬ ((1 : Nat) : Int) > a := by intros; simp_all
theorem ar273 {a b c : Nat} : b = 1 → a + b + c = a + (c + 1) := by intros; subst_vars; grind
theorem ar274 {a : Nat} : 1 ≤ a → ¬ (a : Int) < 1 := by grind
theorem ar275 {a : Nat} : ¬ a = 1 → ¬ (a : Int) = 1 := by grind
theorem ar276 {a : Int} : 0 ≤ a → a ≤ 1000 → -9223372036854775808 ≤ a ∧ a < 9223372036854775808 := by lia
theorem ar277 {a : Int} : a ≤ 1000 → ¬ 1 * Int.toNat a > (2 ^ 63 - 1) / 8 := by lia
theorem ar278 {a : Int} : a ≤ 1000 → Int.toNat a ≤ 1000 := by intros; simp_all
theorem ar279 {b : Nat} {a : Int} : Int.toNat a ≤ b → a ≤ (b : Int) := by intros; simp_all
theorem ar280 {a : Int} : 1 ≤ a → a = ((Int.toNat a : Nat) : Int) := by intros; subst_vars; grind
theorem ar281 {a : Nat} : 1 ≤ (a : Int) → 1 ≤ a := by omega
theorem ar282 {a : Nat} : (a : Int) ≤ 1000 → a ≤ 1000 := by omega
theorem ar283 {a : Nat} : a ≤ 900 → 1 + a ≤ 1000 := by lia
theorem ar284 {a b c : Nat} : b < c → c ≤ 900 → a ≤ b → a ≤ 1000 := by lia
theorem ar285 {a : Nat} : ¬ a + 20 = 4 := by intros; simp +arith at *
theorem ar286 : (150 : Nat) ≤ 200 := by intros; simp +arith at *
theorem ar287 : (0 : Int) ≤ 6 := by intros; simp +arith at *
theorem ar288 {a : Int} : 0 ≤ a % 6 ∧ a % 6 < 6 := by lia
theorem ar289 {a b : Nat} : a < b → b ≤ 10 → a < 10 := by omega
theorem ar290 {a b : Nat} : a < b → b ≤ 10 → a < 1000000 := by lia
theorem ar291 {a b : Nat} : a < b → b ≤ 10 → (a : Int) < 2 ^ 63 := by lia
theorem ar292 {a : Int} : 0 ≤ a ∧ a < 6 → 1 ≤ 1 + a := by lia
theorem ar293 {a : Int} : 0 ≤ a ∧ a < 6 → 1 + a ≤ 1000 := by intros; subst_vars; lia
theorem ar294 {a b c : Nat} : b < c → c ≤ 10 → a ≤ b → a ≤ 1000 := by lia
theorem ar295 {a b : Nat} : b < a → b = a - 1 → (a : Int) - 1 = (b : Int) := by intros; subst_vars; first | assumption | rfl | omega
theorem ar296 {a : Nat} : ¬ a + 20 = 8 := by intros; simp +arith at *
theorem ar297 {a b c : Nat} : c + 5 < b → a ≤ c → a + 5 < b := by lia
theorem ar298 {a b c : Nat} : c + 20 < b → a ≤ c → a + 20 < b := by lia
theorem ar299 {a b c d : Int} : 0 ≤ a ∧ a ≤ c → 0 ≤ b ∧ b ≤ d → 0 ≤ a + b ∧ a + b ≤ c + d := by intros; subst_vars; lia
theorem ar300 {a b : Nat} : a + 15 < b → a + 1 + 5 < b := by lia
theorem ar301 {a b : Nat} : a + 60 < b → a + 8 + 20 < b := by lia
theorem ar302 {a b : Nat} : a ≤ 1000 ∧ b ≤ 1000 → 0 ≤ (a : Int) + (b : Int) ∧ (a : Int) + (b : Int) ≤ 2000 := by intros; subst_vars; grind
theorem ar303 {a b : Nat} : a < b → b ≤ 1000 → ((a + 1 : Nat) : Int) ≤ 1000 := by lia
theorem ar304 : (0 : Int) ≤ 2000 := by intros; simp +arith at *
theorem ar307 {a b c : Nat} : a < b → a = c → b ≤ c → False := by intros; subst_vars; first | assumption | rfl | omega
theorem ar308 {a b c : Nat} : b = c → c = a + 1 → a < b := by intros; subst_vars; grind
theorem ar309 {a b : Nat} : 217 ≤ b → b < a → 217 ≤ a := by lia
theorem ar311 {a b : Nat} : a + 130 < b → a + 1 + 120 < b := by lia
theorem ar312 {a : Int} : 0 ≤ a → ¬ a < 0 := by intros; simp_all
theorem ar313 {a : Int} : a ≤ 1000000000 → ¬ a ≥ 2 ^ 63 := by lia
theorem ar314 {a b c : Nat} : b = c → a ≤ c → a ≤ b := by intros; subst_vars; first | assumption | rfl | omega
theorem ar315 {a b : Int} : a - b ≤ 1000 → 1 + Int.toNat (a - b) ≤ 1001 := by lia
theorem ar316 {a b c d : Nat} : c + 0 ≤ b → d + 2 ≤ c → a ≤ d → a ≤ b := by lia
theorem ar317 : (40 : Nat) ≤ 60 := by intros; simp +arith at *
theorem ar318 : (150 : Nat) ≤ 250 := by intros; simp +arith at *
theorem ar319 {a : Nat} : ¬ (4 * a + 3) % 4 = 2 := by intros; simp +arith at *
theorem ar320 {a : Nat} : (4 * a + 3) % 4 = 3 := by intros; simp +arith at *
theorem ar321 {a : Nat} : (4 * a + 3) / 4 = a := by grind
theorem ar322 {a : Nat} : ¬ (4 * a + 1) % 4 = 2 := by intros; simp +arith at *
theorem ar323 {a : Nat} : ¬ (4 * a + 1) % 4 = 3 := by intros; simp +arith at *
theorem ar325 {a b : Nat} : a + 300 < b → a < b := by lia
theorem ar326 {a b c d e f g h : Nat} : c + 0 ≤ d → e + 1 ≤ f → g = d → h = g → c = a + 1 → e = h + 1 → f ≤ b → a < b := by intros; subst_vars; lia
theorem ar327 {a b c d e f g h i j k l m n o : Nat} : c + 0 ≤ d → e + 0 ≤ f → g + 0 ≤ h → h + 0 ≤ i → i + 0 ≤ j → j + 0 ≤ k → k + 0 ≤ l → m + 1 ≤ e → n = d → o = n → g = f → b = l → c = a + 1 → m = o + 1 → a ≤ b := by intros; subst_vars; grind
theorem ar328 {a b c : Nat} : a + (b + 1) < c → a + 1 + b < c := by intros; simp +arith at *; try assumption
theorem ar329 {a b c : Nat} : a + (b + 3) < c → a + 3 + b < c := by intros; simp +arith at *; try assumption
theorem ar330 {a b : Nat} : a + (b + 1) ≤ 1000000 → a ≤ 1000000 := by lia
theorem ar331 {a b : Nat} : a + (b + 1) ≤ 1000000 → a + 1 + b ≤ 1000000 := by intros; simp +arith at *; try assumption
theorem ar332 {a : Nat} : ¬ a + 1 = 0 := by grind
theorem ar333 {a b c : Nat} : b + (c + 1) = a → c = 0 → (a : Int) - 1 = (b : Int) := by intros; subst_vars; grind
theorem ar334 {a : Nat} : ¬ a + 20 = 12 := by grind
theorem ar335 {a : Nat} : 0 + a = a := by intros; simp +arith at *
theorem ar336 {a b : Nat} : a < b → b ≤ 1000000 → (a : Int) < 2 ^ 63 := by lia
theorem ar337 {a : Nat} : a ≤ 900 → a ≤ 1000000 := by lia
theorem ar338 {a : Nat} : 0 < a ∧ a ≤ 1000 → -1000 ≤ (a : Int) ∧ (a : Int) ≤ 1099511627770 := by intros; subst_vars; grind
theorem ar339 {a : Nat} : 0 < a ∧ a ≤ 1000 → 0 ≤ (a : Int) ∧ (a : Int) ≤ 1099511627770 := by omega
theorem ar340 {a b c d : Nat} : 0 < b ∧ b ≤ 1000 → c < d → d ≤ 900 → a ≤ c * 1000 → a + b ≤ 1000000 := by lia
theorem ar341 {a b c : Nat} : 0 < b ∧ b ≤ 1000 → a ≤ c * 1000 → a + b ≤ (c + 1) * 1000 := by lia
theorem ar342 {a b c d e f g : Nat} : a + 0 ≤ c → c + 0 ≤ d → d + 0 ≤ e → f + 0 ≤ g → e + 1 ≤ f → b = g → a ≤ b := by intros; subst_vars; grind
theorem ar343 {a : Nat} : ¬ a + 20 = 16 := by intros; simp +arith at *
theorem ar344 {a : Nat} : a ≤ 900 → -1000 ≤ (a : Int) ∧ (a : Int) ≤ 1099511627770 := by intros; subst_vars; lia
theorem ar345 {a : Nat} : a ≤ 900 → 0 ≤ (a : Int) ∧ (a : Int) ≤ 1099511627770 := by intros; subst_vars; lia
theorem ar346 {a b c d e : Nat} : c + 1 ≤ d → a + 2 ≤ c → d + 2 ≤ e → b = e → a ≤ b := by grind
theorem ar347 {a b c : Nat} : c + 1 ≤ b → a + 2 ≤ c → a ≤ b + 0 := by grind
theorem ar348 {a b c : Nat} : a + (b + 1) ≤ c → a + b ≤ c := by grind
theorem ar349 {a b c : Nat} : a + (b + 1) ≤ c → a + b < c := by intros; simp +arith at *; try assumption
theorem ar350 {a b : Nat} : 0 = a → a ≤ b := by intros; subst_vars; grind
theorem ar351 {a b c : Nat} : a ≤ c → c ≤ b → a ≤ b := by grind
theorem ar352 {a b : Nat} : a + 1 ≤ b → a < b := by intros; subst_vars; first | assumption | rfl | omega
theorem ar353 {a b : Nat} : ¬ b ≤ a → a < b := by intros; simp +arith at *; try assumption
theorem ar355 {a b c : Nat} : c = b → c ≤ a → a ≤ b → a = b := by intros; subst_vars; lia
theorem ar356 {a b : Nat} : a = b → a ≤ b := by intros; simp_all
theorem ar357 {a b c : Nat} : a < c → c ≤ b → a ≤ b := by grind
theorem ar358 {a b c : Nat} : b < c → a < b → a + 1 + (b - (a + 1)) ≤ c := by grind
theorem ar359 {a b : Nat} : a < b → a + 1 + (b - (a + 1)) = b := by grind
theorem ar360 {a b c d e f : Nat} : c < d → e ≤ c → d ≤ f → f ≤ e → a ≤ b := by lia
theorem ar361 {a b : Nat} : b < a → a - 1 - b + 1 ≤ a := by grind
theorem ar362 {a b c : Nat} : c < a → a - 1 - b + 1 + (c - (a - 1 - b + 1)) ≤ a := by intros; subst_vars; first | assumption | rfl | omega
theorem ar363 {a b c : Nat} : a - 1 - c < b → b < a → a - 1 - b + 1 + (c - (a - 1 - b + 1)) = c := by omega
theorem ar364 {a b c d e f g h : Nat} : d - e ≤ f → g < d → e ≤ g → f ≤ h → h ≤ d - 1 - g → a ≤ b - 1 - c := by grind
theorem ar365 {a b : Nat} : a < b → 0 + a ≤ b := by grind
theorem ar366 {a b : Nat} : a < b → a + 1 + (b - 1 - a) ≤ b := by grind
theorem ar367 {a b : Nat} : a < b → a + 1 + (b - 1 - a) = b := by grind
theorem ar368 {a b c : Nat} : a - 1 - c < b → a - b ≤ c := by omega
theorem ar369 {a b c : Nat} : a < b → c ≤ b - 1 - a → a < b - c := by omega
theorem ar370 {a b : Nat} : b < a → a - 1 - (a - 1 - b) = b := by omega
theorem ar371 {a b c d : Nat} : a - 1 - d < b → d < c → a - b ≤ c := by omega
theorem ar372 {a b c : Nat} : a + 1 < b - 1 - c → 0 + (a + 1) ≤ b := by omega
theorem ar373 {a b c d : Nat} : a + 1 < c - 1 - d → b ≤ d + 1 → a + 1 + b < c := by intros; subst_vars; first | assumption | rfl | omega
theorem ar374 {a b : Nat} : a ≤ b → a + (b - a) = b := by intros; simp_all
theorem ar375 {a b : Int} : a = b + a - b := by intros; simp +arith at *; try assumption
theorem ar376 {a b : Int} : 0 ≤ a → 0 ≤ b → 0 ≤ a + b := by lia
theorem ar377 {a b c : Int} : 0 ≤ c → c = b - a → a ≤ b := by intros; simp_all
theorem ar378 {a b : Nat} : (a : Int) - (b : Int) = 1 → a = b + 1 := by omega
theorem ar379 {a b : Nat} : a = b + 1 → (a : Int) - (b : Int) = 1 := by intros; subst_vars; grind
theorem ar381 {a b c d : Nat} : b < a → c = d + 1 → d ≤ b → a ≤ c → a = b + 1 := by lia
theorem ar382 {a b c d e : Int} : d - e ≤ c → e ≤ b → a ≤ d → a - b ≤ c := by lia
theorem ar383 {a b c : Int} : b = c + a → a = b - c := by intros; subst_vars; grind
theorem ar384 {a b c : Nat} : c = b + 1 → c ≤ a → a - b = a - c + 1 := by intros; subst_vars; grind
theorem ar385 {a b c : Nat} : c < b → b ≤ a → a - b < a - c := by grind
theorem ar386 {a b c : Nat} : b < c → c ≤ a → a - (a - b) = b := by lia
theorem ar387 {a b : Nat} : b ≤ a → a - (a - b) = b := by lia
theorem ar388 {a b c d : Int} : c - b ≤ d → a - b - (a - c) ≤ d := by lia
theorem ar389 {a b c d : Int} : d - b - (d - a) ≤ c → a - b ≤ c := by lia
theorem ar390 {a b : Nat} : a + 1 < b + 1 → a < b := by grind
theorem ar391 {a b : Nat} : a < b → 1 + 1 * a ≤ b := by grind
theorem ar392 {a b c : Nat} : c < a → a ≤ b → a - 1 < b := by lia
theorem ar393 {a b : Nat} : b < a → a = 1 + 1 * (a - 1) := by omega
theorem ar394 {a b : Nat} : a ≤ b → ¬ a < b → a = b := by lia
theorem ar395 {a b c d : Nat} : d ≤ c → a ≤ max d c → a ≤ max b c := by grind
theorem ar396 {a b c : Nat} : a < c → c = b + 1 → a ≤ b := by grind
theorem ar397 {a b c d : Nat} : a < c → c = d + 1 → d ≤ b → 0 + a ≤ b := by grind
theorem ar398 {a b : Nat} : b ≤ 800 → a ≤ max 1 b → a ≤ 900 := by lia
theorem ar399 {a b : Nat} : a = 0 → a ≤ b := by intros; subst_vars; grind
theorem ar400 {a : Nat} : a < a → False := by omega
theorem ar401 {a b : Nat} : a < b → a < b + 1 := by intros; subst_vars; grind
theorem ar402 {a b : Nat} : a = b → a < b + 1 := by intros; subst_vars; grind
theorem ar403 {a b c : Nat} : b = a + 1 + 1 * c → a ≤ b := by intros; subst_vars; grind
theorem ar404 {a b c d : Nat} : d < c → a = b + 1 + 1 * d → a < b + (c + 1) := by intros; subst_vars; grind
theorem ar405 {a b c : Nat} : a = b → a = b + 1 + 1 * c → False := by intros; subst_vars; grind
theorem ar406 {a b : Nat} : a ≤ b → ¬ a = b → a + 1 ≤ b := by lia
theorem ar407 {a b c : Nat} : a < b + (c + 1) → a < b + 1 + c := by intros; simp +arith at *; try assumption
theorem ar408 {a b c : Nat} : a < b + 1 + c → a < b + (c + 1) := by intros; simp +arith at *; try assumption
theorem ar409 {a b : Nat} : a + 1 < a + (b + 1) → a + 1 < a + 1 + b := by intros; simp_all
theorem ar410 {a b : Nat} : b + 1 ≤ a → a = b ∨ a = b + 1 → a = b + 1 := by lia
theorem ar411 {a b : Nat} : a = b ∨ a = b + 1 → a ≤ b → ¬ a = b → False := by lia
theorem ar412 {a b c : Nat} : a + 1 < b + (c + 1) → a + 1 < b + 1 + c := by intros; simp +arith at *; try assumption
theorem ar413 {a b c d : Nat} : c = d → b = c + 1 → a = d + 1 → a = b := by intros; subst_vars; first | assumption | rfl | omega
theorem ar414 {a b c d : Nat} : c = d → d = b + 1 → c = a + 1 → a = b := by intros; simp_all
theorem ar415 {a b : Nat} : a = b + 1 → a - 1 = b := by intros; subst_vars; first | assumption | rfl | omega
theorem ar416 {a b : Nat} : a - 1 - b ≤ a := by intros; simp +arith at *; try assumption
theorem ar419 {a b c : Nat} : c < b - a → a ≤ b := by grind
theorem ar420 {a b c d : Nat} : a < d + (b - c - d) → d < b - c → a < b - c := by omega
theorem ar421 {a b c : Nat} : a < c → a < b + (c - b) := by lia
theorem ar422 {a b c d e f : Nat} : c = d → e = b → f = a → d = e + 1 → c = f + 1 → a = b := by intros; simp_all
theorem ar423 {a b c : Nat} : b - 1 = c → a < c → a < b - 1 := by intros; subst_vars; first | assumption | rfl | omega
theorem ar424 {a b c : Nat} : a - 1 - b ≤ c + 1 → c < a - 1 - b → a - 1 - b = c + 1 := by lia
theorem ar425 {a : Nat} : a + 1 - a = 1 := by intros; simp_all
theorem ar426 {a b c : Nat} : b - 1 - c = a + 1 → a + 1 < 0 + b := by grind
theorem ar427 {a b c : Nat} : b - 1 - c = a + 1 → a + 1 < b := by omega
theorem ar428 {a b : Nat} : a < 0 + b → a < b := by intros; simp_all
theorem ar429 {a b : Nat} : b ≤ a ∧ a ≤ b + 1 → a = b ∨ a = b + 1 := by lia
theorem ar430 {a b c : Nat} : c ≤ a - 1 - b → c ≥ a - 1 - b → a - 1 - b = c := by lia
theorem ar431 {a b c : Nat} : b - 1 - c = a → c < b → a < 0 + b := by intros; subst_vars; grind
theorem ar432 {a b : Nat} : b ≤ a ∧ a ≤ b → a = b := by lia
theorem ar433 {c d : Nat} {a b : Int} : 1 = c + (d + 1 + 1) → a < b := by grind
theorem ar434 {a b : Int} : ¬ b < a → a ≤ b := by intros; simp_all
theorem ar435 {a b : Nat} : a < b → min a b = a := by grind
theorem ar436 {a : Nat} : 0 ≤ 1 + (a : Int) := by lia
theorem ar437 {a b : Nat} : b = 1 → a + b = a + 1 := by intros; subst_vars; first | assumption | rfl | omega
theorem ar438 {a b : Nat} : 0 < b → a < a + b := by intros; simp_all
theorem ar439 {a b c : Int} : b ≤ c → a + b - a ≤ c := by intros; simp +arith at *; try assumption
theorem ar440 {a b c : Nat} : a + b < c → c ≤ a + b → False := by grind
theorem ar441 {a b : Nat} : a < a + b + 1 := by intros; simp +arith at *; try assumption
theorem ar442 {a b c : Nat} : a + b < c → a + b + 1 ≤ c := by intros; subst_vars; first | assumption | rfl | omega
theorem ar443 {a b : Nat} : 0 < a → b + a + 1 = b + 1 → False := by intros; simp_all
theorem ar444 {a b c : Int} : a + b - a ≤ c → c < b → False := by lia
theorem ar445 {a : Nat} : a < a + 1 := by intros; subst_vars; grind
theorem ar446 {a b c : Nat} : a ≤ a + b + c := by intros; simp +arith at *; try assumption
theorem ar447 {a b c : Nat} : a + b + c - a = b + c := by grind
theorem ar448 {a b c d e : Nat} : a < d → e = b → d = b + c → e ≤ a → a - b < c := by grind
theorem ar449 {a b c : Nat} : c = a → c ≤ b → a + (b - a) = b := by intros; simp_all
theorem ar450 {a : Nat} : 0 < a → 2 ≤ a + 1 := by intros; simp +arith at *; try assumption
theorem ar451 {a b : Nat} : a + 1 = b + 1 → a = b := by intros; simp +arith at *; try assumption
theorem ar452 {a : Nat} : a + 1 = 1 + a := by intros; simp +arith at *
theorem ar453 {a : Nat} : 97 ≤ 97 + a := by intros; simp_all
theorem ar454 {a b : Nat} : a + (b + 1) ≤ 10 → 97 + a < 107 := by omega
theorem ar455 {a : Int} : 0 ≤ a ∧ a < 6 → 1 ≤ Int.toNat (1 + a) := by intros; subst_vars; grind
theorem ar456 {a : Int} : 0 ≤ a ∧ a < 6 → Int.toNat (1 + a) ≤ 6 := by omega
theorem ar457 {a b : Nat} : a + (b + 1) ≤ 10 → a + 1 + b ≤ 10 := by lia
theorem ar458 {a : Nat} : 32 = a → 97 ≤ a → False := by intros; subst_vars; grind
theorem ar459 {a : Nat} : 10 = a → 97 ≤ a → False := by intros; subst_vars; grind
theorem ar460 {a b c d : Nat} : a ≤ d → b ≤ c → a + b ≤ c + d := by grind
theorem ar461 {a b : Nat} : a ≤ a + b := by intros; simp +arith at *; try assumption
theorem ar462 {a b c : Nat} : a ≤ c → a ≤ b + c := by lia
theorem ar463 {a b c : Nat} : 0 < b → a ≤ c → a + 1 ≤ b + c := by grind
theorem ar464 {a : Nat} : 1 ≤ a → a ≠ 0 := by grind
theorem ar465 {a : Nat} : a < 107 → a - 97 < 10 := by intros; simp +arith at *; try assumption
theorem ar466 {a : Nat} : 97 ≤ a → 97 + (a - 97) = a := by intros; simp_all
theorem ar467 {a : Nat} : 1 ≤ a ∧ a ≤ 6 → 1 + a ≤ 7 := by omega
theorem ar469 : (10 : Nat) = 32 → False := by intros; simp +arith at *; try assumption
theorem ar470 {a b c : Nat} : b ≤ 10 → c ≤ b → a ≤ c * 70 → a ≤ 700 := by lia
theorem ar471 {a b c d : Nat} : b ≤ 10 → c ≤ 700 → d ≤ b → a ≤ c + d * 1 → a ≤ 710 := by lia
theorem ar472 {a : Nat} : a ≤ 10 → a ≤ 700 := by lia
theorem ar473 {a : Nat} : 1 ≤ a ∧ a ≤ 6 → a ≤ 900 := by intros; subst_vars; grind
theorem ar474 {a : Nat} : a ≤ 700 → a ≤ 1000000 := by lia
theorem ar475 {a b : Nat} : b ≤ 710 → a ≤ b + 1 → a + 1 ≤ 712 := by lia
theorem ar476 {a : Nat} : a ≤ 10 ∧ 0 < a → 0 + a ≤ 10 := by intros; simp_all
theorem ar477 {a b : Nat} : a = b → b ≤ 10 ∧ 0 < b → a ≤ 10 := by intros; subst_vars; grind
theorem ar478 {a b : Nat} : a = b → b ≤ 10 ∧ 0 < b → 0 < a := by intros; simp_all
theorem ar479 {a b c : Nat} : 0 < a ∧ a ≤ b → b = c → c ≤ 10 ∧ 0 < c → 0 < a ∧ a ≤ 1000 := by intros; subst_vars; lia
theorem ar480 {a b : Nat} : 0 < b → b ≤ a → 0 < a := by intros; subst_vars; first | assumption | rfl | omega
theorem ar481 {a : Nat} : 1 ≤ a ∧ a ≤ 6 → a ≠ 0 := by intros; subst_vars; lia
theorem ar482 {a b c d e : Nat} : b = c → a ≤ (d + e) * 70 → c ≤ 10 ∧ 0 < c → d ≤ b → e ≤ b → a ≤ 16777216 := by lia
theorem ar483 {a b c : Nat} : b = c → a ≤ (b + b) * 7 → c ≤ 10 ∧ 0 < c → a ≤ 16777216 := by intros; subst_vars; lia
theorem ar484 {a b c : Nat} : 0 < a → b = c → c ≤ 10 ∧ 0 < c → a ≤ b → 0 < a ∧ a ≤ 900 := by intros; subst_vars; lia
theorem ar485 {a : Nat} : 1 ≤ a ∧ a ≤ 6 → 0 ≤ 1 + (a : Int) ∧ 1 + (a : Int) ≤ 100000 := by grind
theorem ar486 {a b c : Nat} : b = c → a = b → c ≤ 10 ∧ 0 < c → a ≤ 800 := by intros; subst_vars; lia
theorem ar487 {a b c : Nat} : 0 < b → a = c → b ≤ c → 0 < a := by lia
theorem ar488 {a b c d : Nat} : b = c → a = d + 1 → c ≤ 10 ∧ 0 < c → d ≤ b → a ≤ 900 := by intros; subst_vars; lia
theorem ar489 {a b c d e : Nat} : b = c → d = e + 1 → c ≤ 10 ∧ 0 < c → e ≤ b → a ≤ d - 1 → a ≤ 1024 := by intros; subst_vars; lia
theorem ar490 {a b c : Nat} : b < a → c = a → a - 1 - b < c := by grind
theorem ar491 {a b : Nat} : b < a → ((a + 1 - 1 : Nat) : Int) - 1 - (b : Int) = ((a - 1 - b : Nat) : Int) := by intros; subst_vars; grind
theorem ar492 {a b c : Nat} : c ≤ a - 1 - b → 0 ≤ ((a - 1 - b : Nat) : Int) - (c : Int) := by intros; simp_all
theorem ar493 {a b c : Nat} : a - 1 - b ≤ c + 1 → ((a - 1 - b : Nat) : Int) - (c : Int) ≤ 1 := by lia
theorem ar494 {a b c : Nat} : Int.toNat (((a - 1 - b : Nat) : Int) - (c : Int)) = a - 1 - b - c := by intros; simp_all
theorem ar495 {a b : Nat} : a < b → ¬ a = b := by omega
theorem ar496 {a b : Nat} : a < b + 1 → ¬ a < b → a = b := by grind
theorem ar497 {a c : Nat} {b : Int} : 0 ≤ b ∧ b ≤ (c : Int) * 901 → a ≤ 900 → 0 ≤ 1 + (a : Int) + b ∧ 1 + (a : Int) + b ≤ ((c : Int) + 1) * 901 := by lia
theorem ar498 : (1 : Nat) ≤ 1000 := by intros; simp +arith at *; try assumption
theorem ar499 {b : Nat} {a : Int} : a ≤ (b : Int) * 901 → b ≤ 900 → a ≤ 1000000000 := by lia
theorem ar500 {a b c : Nat} : a + 2 ≤ c → b = c → a ≤ b := by grind
theorem ar501 {a b c : Nat} : a + 4 ≤ c → b = c → a ≤ b := by intros; subst_vars; lia
theorem ar505 {a : Nat} : a ≤ 800 → a ≤ 899 := by lia
theorem ar506 {b c : Nat} {a : Int} : 0 ≤ a ∧ a ≤ (c : Int) * 901 → a + (1 + (b : Int)) = ((Int.toNat (a + (1 + (b : Int))) - 1 + 1 : Nat) : Int) := by grind
theorem ar507 {c : Nat} {a b : Int} : 0 ≤ b ∧ b ≤ (c : Int) * 901 → b = a → 0 ≤ a := by intros; simp_all
theorem ar508 {c : Nat} {a b : Int} : 0 ≤ b ∧ b ≤ (c : Int) * 901 → b = a → c ≤ 900 → a ≤ 1000000000 := by intros; subst_vars; grind
theorem ar509 {a b c : Nat} : a + b ≤ 1000000 → c ≤ 800 → a + b + (c + 1) ≤ 16777216 := by lia
theorem ar512 {a : Nat} : a + 1 ≤ 800 → a + 1 ≤ 1000 := by lia
theorem ar513 {a : Nat} : 0 < a + 1 := by intros; simp +arith at *; try assumption
theorem ar514 {a : Nat} : a ≤ 898 → a ≤ 899 := by grind
theorem ar515 {a b c : Nat} : a + 0 ≤ c → c ≤ b → a ≤ b := by grind
theorem ar516 {a : Nat} : a ≤ 898 → a + 1 ≤ 900 := by intros; subst_vars; lia
theorem ar517 {a b : Nat} : a = b + 0 → a ≤ b := by intros; subst_vars; grind
theorem ar518 {a b : Nat} : b = a + 0 → a = b := by intros; simp_all
theorem ar519 {a b c : Nat} : b = a + (c + 1) → a < b := by intros; subst_vars; grind
theorem ar520 {a b c : Nat} : a = b + (c + 1) → a = b + 1 + c := by intros; simp +arith at *; try assumption
theorem ar521 {a b : Nat} : b = a + 1 → a < b + 0 := by intros; simp_all
theorem ar522 {a b c d e : Nat} : c + 0 ≤ d → e = d → b = e → c = a + 1 → a ≤ b + 0 := by lia
theorem ar523 : (130 : Nat) ≤ 200 := by intros; simp +arith at *
theorem ar524 : (400 : Nat) ≤ 550 := by intros; simp +arith at *
theorem ar525 {a b c : Nat} : b = c + 1 → a ≤ c + 0 → a ≤ b := by grind
theorem ar526 {a : Nat} : 0 < a → a = 1 + (a - 1) := by grind
theorem ar527 {a b : Nat} : a < b → b ≤ 700 → a ≤ 800 := by lia
theorem ar528 {a b c d e f g : Nat} : c + 0 ≤ d → e = f + 1 → e ≤ g → g ≤ c → d ≤ b → a ≤ f + 0 → a ≤ b := by lia
theorem ar529 {a b c d e f g h : Nat} : c + 0 ≤ d → d + 0 ≤ e → b = e → f = g + 1 → f ≤ h → h ≤ c → a ≤ g + 0 → a ≤ b := by intros; subst_vars; grind
theorem ar530 {a b : Nat} : a + b + 1 = a + (b + 1) := by intros; subst_vars; first | assumption | rfl | omega
theorem ar531 {a b c d e : Nat} : a + e < d → b + c ≤ e → a + b + c < d := by lia
theorem ar532 {a b c d e f : Nat} : b + c + d ≤ f → a + f < e → a + b + c + d < e := by lia
theorem ar533 {a b : Nat} : a ≤ 1000 ∧ b ≤ 1000 → a + b ≤ 16777216 := by lia
theorem ar534 {a b c : Nat} : b ≤ 1000 ∧ c ≤ 1000 → a ≤ b + c → a ≤ 2000 := by lia
theorem ar535 {a : Nat} : a ≤ 1000 → a ≤ 16777216 := by lia
theorem ar536 {a b c : Nat} : b ≤ 2000 → a ≤ c * 2000 → a + (b + 0) ≤ (c + 1) * 2000 := by grind
theorem ar537 {a b : Nat} : b ≤ 1000 → a ≤ b * 2000 → a ≤ 16777216 := by intros; subst_vars; lia
theorem ar538 {a b : Nat} : a + 130 < b → a + 1 < b := by grind
theorem ar539 {a b : Nat} : a + 40 < b → a + 35 < b := by lia
theorem ar542 : (0 : Int) ≤ 0 ∧ (0 : Int) ≤ 100000 := by intros; decide
theorem ar543 {a : Nat} : a = 0 + a := by intros; simp +arith at *; try assumption
theorem ar544 {a b : Nat} : a < b → b ≤ 100000 → ((a + 1 : Nat) : Int) ≤ 100000 := by lia
theorem ar545 : (0 : Int) ≤ 100000 := by intros; decide
theorem ar548 {a b : Nat} : a + 1 = b → b < a → False := by intros; subst_vars; first | assumption | rfl | omega
noncomputable def den (c : Code) : Sem PySem.Fin := Fast.tw11892475500146522536 Fast.tw14364793385576792824 c
theorem den_eq (c : Code) : denote table c = den c := by
  unfold den
  rw [← Fast.te11892475500146522536, ← Fast.te14364793385576792824, table_eq_tree]
noncomputable abbrev Ent := Addr × Obj
inductive Ob where
  | n (a : Nat)
  | t (t : Sem PySem.Fin)
  | c (c : Code)
structure Post where
  res : Result
  now : List Obj
  news : List Ent
inductive Tr where
  | nil
  | s (r : Tr)
  | d (i : Nat) (r : Tr)
  | st (r : Tr)
  | en (r : Tr)
  | rm (what : String) (r : Tr)
  | as (v : Value) (r : Tr)
  | rt (r : Tr)
  | fin (sel : List Nat)
  | ag (sel : List Nat)
  | fa
  | ga
  | sum (c : Code) (ix : List Nat) (dep un : Nat) (post : (Nat → Nat) → Post) (r : (Nat → Nat) → Nat → Nat → Tr)
noncomputable def Tr.run : List Nat → Tr → Tr
  | [], r => r
  | 0 :: l, r => .s (Tr.run l r)
  | 1 :: l, r => .en (Tr.run l r)
  | 2 :: l, r => .st (Tr.run l r)
  | (i + 3) :: l, r => match Nat.beq i 96 with
    | true => .rm "comparison" (Tr.run l r)
    | false => .d i (Tr.run l r)
inductive Res where
  | bad (n : Nat)
  | eq (a b : Ob) (r : Res)
  | asr (a b : Value) (r : Res)
  | stk (k : Pos → List (Code × Pos) → Res)
  | fin (r : Result) (sel : List Ent) (n m tk : Nat)
  | ag (c : Code) (sel : List Ent) (n m tk : Nat)
  | sum (c : Code) (pre : List Ent) (dep un : Nat) (post : (Nat → Nat) → Post) (n m : Nat) (k : (Nat → Nat) → Nat → Nat → Res)
noncomputable def nth : List Ent → Nat → Option Ent
  | [], _ => none
  | p :: _, 0 => some p
  | _ :: l, i + 1 => nth l i
noncomputable def setO : List Ent → Nat → Obj → List Ent
  | [], _, _ => []
  | p :: l, 0, o => (p.1, o) :: l
  | p :: l, i + 1, o => p :: setO l i o
noncomputable def snoc : List Ent → Ent → List Ent
  | [], x => [x]
  | p :: l, x => p :: snoc l x
noncomputable def app : List Ent → List Ent → List Ent
  | [], l => l
  | p :: l, l' => p :: app l l'
noncomputable def selE (D : List Ent) : List Nat → List Ent
  | [] => []
  | i :: l => match nth D i with
    | some p => p :: selE D l
    | none => []
noncomputable def putE : List Ent → List Nat → List Obj → List Ent
  | D, i :: l, o :: os => putE (setO D i o) l os
  | D, _, _ => D
noncomputable def okIx (D : List Ent) : List Nat → List Nat → Bool
  | _, [] => true
  | had, i :: l => match nth D i with
    | some _ => !(had.any (Nat.beq i)) && okIx D (i :: had) l
    | none => false
noncomputable abbrev Kt := List (Code × (Result → Sem PySem.Fin))
noncomputable def cw (any : Bool) (κ : Kt) (c : Code) : Nat := match any, κ with
  | true, [] => 0
  | _, _ => c.weight
noncomputable def cu (any : Bool) (κ : Kt) (c : Code) : Nat := match any, κ with
  | true, [] => 0
  | _, _ => c.cUnits
noncomputable def dk (any : Bool) : Kt → Nat
  | [] => 0
  | (c, _) :: κ => dk any κ + cw any κ c
noncomputable def uk (any : Bool) : Kt → Nat
  | [] => 0
  | (c, _) :: κ => uk any κ + cu any κ c
structure CV where
  g : Setting
  kt : KT
  dep : Nat
  un : Nat
  any : Bool
noncomputable def lens : List Ent → Nat
  | [] => 0
  | _ :: l => (lens l) + 1
noncomputable abbrev CkT := Code → Kt → Sem PySem.Fin → List Ent → Nat → Nat → Nat → Nat → Tr → Res
noncomputable def rtS (ih : CkT) (r : Result) (κ : Kt) (D : List Ent) (n m tk i : Nat) (tr : Tr) : Res := match κ with
  | [] => match tr with
    | .fin sel => match okIx D [] sel with
      | true => .fin r (selE D sel) n m (tk + i)
      | false => .bad 21
    | .fa => .fin r D n m (tk + i)
    | _ => .bad 1
  | (c', k) :: κ' => match tr with
    | .as v tr' => match r with
      | .ok (.ret v') => .asr v' v (ih c' κ' (k (.ok (.ret v))) D n m tk i tr')
      | _ => .bad 2
    | .rt tr' => ih c' κ' (k r) D n m tk i tr'
    | _ => ih c' κ' (k r) D n m tk i tr
noncomputable def ckS (V : CV) (ih : CkT) : CkT := fun c κ t D n m tk i tr =>
    match t with
    | .pure (.done fl) => rtS ih (.ok fl) κ D n m tk i tr
    | .pure (.again c') => match c'.quiet with
      | true => match κ with
        | [] => match V.any with
          | true => .bad 19
          | false => match tr with
            | .ag sel => match okIx D [] sel with
              | true => .ag c' (selE D sel) n m (tk + i)
              | false => .bad 22
            | .ga => .ag c' D n m (tk + i)
            | _ => ih c' [] (den c') D n m tk i tr
        | _ :: _ => ih c' κ (den c') D n m tk i tr
      | false => .bad 3
    | .raise e => rtS ih (.error e) κ D n m tk i tr
    | .rule _ k => ih c κ (k ()) D n m tk i tr
    | .at _ k => ih c κ (k ()) D n m tk i tr
    | .point _ k => ih c κ (k ()) D n m tk i tr
    | .ask k => ih c κ (k V.g) D n m tk i tr
    | .load a _ k => match tr with
      | .s r => match V.kt.get a with
        | some o => ih c κ (k o) D n m tk i r
        | none => .bad 4
      | .d j r => match nth D j with
        | some p => .eq (.n a) (.n p.1) (ih c κ (k p.2) D n m tk i r)
        | none => .bad 5
      | _ => .bad 6
    | .loadIfAlive a k => match tr with
      | .s r => match V.kt.get a with
        | some o => ih c κ (k (some o)) D n m tk i r
        | none => .bad 4
      | .d j r => match nth D j with
        | some p => .eq (.n a) (.n p.1) (ih c κ (k (some p.2)) D n m tk i r)
        | none => .bad 5
      | _ => .bad 6
    | .update a _ g k => match tr with
      | .d j r => match nth D j with
        | some p => match (g p.2).isFreed with
          | false => .eq (.n a) (.n p.1) (ih c κ (k ()) (setO D j (g p.2)) n m tk i r)
          | true => .bad 7
        | none => .bad 8
      | _ => .bad 9
    | .alloc o k => match o.isFreed with
      | false => ih c κ (k (n + m)) (snoc D (n + m, o)) n (m + 1) tk i tr
      | true => .bad 10
    | .fresh k => ih c κ (k (tk + i)) D n m tk (i + 1) tr
    | .handled own k => match own with
      | false => ih c κ (k none) D n m tk i tr
      | true => .bad 11
    | .stack k => match tr with
      | .st r => match V.any, κ with
        | true, [] => .bad 20
        | _, _ => .stk fun p b => ih c κ (k ((c, p) :: b)) D n m tk i r
      | .en r => match k [] with
        | .load a _ k' => match V.kt.get a with
          | some o => match Nat.ble (dk V.any κ + cw V.any κ c) V.dep with
            | true => .eq (.t (.stack k)) (.t (R.bindR (Fast.tw15066281185411960212) fun _ => k' o)) (ih c κ (k' o) D n m tk i r)
            | false => .bad 12
          | none => .bad 13
        | _ => .bad 14
      | .rm what r => match Nat.ble (uk V.any κ + cu V.any κ c) V.un with
        | true => .eq (.t (.stack k)) (.t (R.bindR (Fast.tw10648789137845014744 what) fun _ => k [])) (ih c κ (k []) D n m tk i r)
        | false => .bad 23
      | _ => .bad 15
    | .call c' hd _ _ k => match hd with
      | some _ => .bad 16
      | none => match tr with
        | .sum c₁ ix dep un post r => match Nat.ble (dk V.any κ + cw V.any κ c + dep) V.dep && Nat.ble (uk V.any κ + cu V.any κ c + un) V.un && okIx D [] ix with
          | true => .eq (.c c') (.c c₁) (.sum c₁ (selE D ix) dep un post n m fun w n' tk' =>
              ih c κ (k (post w).res) (app (putE D ix (post w).now) (post w).news) n' 0 tk' 0 (r w n' tk'))
          | false => .bad 17
        | _ => ih c' ((c, k) :: κ) (den c') D n m tk i tr
    | _ => .bad 18
noncomputable def ck (V : CV) (f : Nat) : CkT := Nat.rec (fun _ _ _ _ _ _ _ _ _ => .bad 0) (fun _ ih => ckS V ih) f
noncomputable def Res.ls (R : Res) : Res := Res.rec (motive := fun _ => Res) (fun n => .bad n) (fun a _ _ ih => .eq a a ih) (fun a b _ ih => .asr a b ih) (fun _ ih => .stk ih)
  (fun r sel n m tk => .fin r sel n m tk) (fun c sel n m tk => .ag c sel n m tk) (fun c pre dep un post n m _ ih => .sum c pre dep un post n m ih) R
noncomputable def Res.rs (R : Res) : Res := Res.rec (motive := fun _ => Res) (fun n => .bad n) (fun _ b _ ih => .eq b b ih) (fun a b _ ih => .asr a b ih) (fun _ ih => .stk ih)
  (fun r sel n m tk => .fin r sel n m tk) (fun c sel n m tk => .ag c sel n m tk) (fun c pre dep un post n m _ ih => .sum c pre dep un post n m ih) R
noncomputable def Res.strip (R : Res) : Res := Res.rec (motive := fun _ => Res) (fun n => .bad n) (fun _ _ _ ih => ih) (fun a b _ ih => .asr a b ih) (fun _ ih => .stk ih)
  (fun r sel n m tk => .fin r sel n m tk) (fun c sel n m tk => .ag c sel n m tk) (fun c pre dep un post n m _ ih => .sum c pre dep un post n m ih) R
structure IV where
  kt : KT
  own : Addr → Prop
  tabs : List Addr
  I : Heap → Prop
  B : Array GenState → Prop
  stab : ∀ h h', I h → (∀ b, ¬ own b → h'.get? b = h.get? b) → h.objs.size ≤ h'.objs.size → I h'
  stat : ∀ h, I h → ∀ a o, kt.get a = some o → h.get? a = some o
  tlo : ∀ a ∈ tabs, ¬ own a
  nolim : ∀ h, I h → h.NoLimit
  big : ∀ h, I h → ∀ b, h.objs.size ≤ b → own b
noncomputable def Room (A : Around) (dep un : Nat) : Prop := A.handled = none ∧ A.depth + dep < recursionLimit ∧ A.units + un < cLine
noncomputable def Has (h : Heap) (l : List Ent) : Prop := ∀ p ∈ l, h.get? p.1 = some p.2
noncomputable def HasZ (h : Heap) : List Ent → List Obj → Prop
  | [], _ => True
  | p :: l, [] => h.get? p.1 = some p.2 ∧ HasZ h l []
  | p :: l, o :: os => h.get? p.1 = some o ∧ HasZ h l os
noncomputable def Keep (W : IV) (h h' : Heap) (ads : List Addr) : Prop := ∀ b o, h.get? b = some o → b ∉ ads → b ∉ W.tabs → h'.get? b = some o
noncomputable def NewOk (h h' : Heap) (l : List Ent) : Prop := (∀ p ∈ l, h.objs.size ≤ p.1 ∧ h'.get? p.1 = some p.2) ∧ (l.map (·.1)).Nodup
noncomputable def Con (W : IV) (prog : Program) (w : World) (c : Code) (pre : List Ent) (dep un : Nat) (post : (Nat → Nat) → Post) : Prop :=
  ∀ (A : Around) (h : Heap) (g : Array GenState) (d : Drawn) (tk : Nat) (os : OsState) (R : Result → Shared → Prop), Room A dep un → W.I h → W.B g → Has h pre → (∀ p ∈ pre, W.own p.1) → (pre.map (·.1)).Nodup →
    (∀ (v : Nat → Nat) (h' : Heap) (g' : Array GenState) (tk' : Nat), W.I h' → W.B g' → h.objs.size ≤ h'.objs.size → HasZ h' pre (post v).now → NewOk h h' (post v).news → Keep W h h' (pre.map (·.1)) → R (post v).res ⟨h', g', d, tk', os⟩) →
    codeAny (model prog w) A c R ⟨h, g, d, tk, os⟩
structure SV where
  W : IV
  prog : Program
  w : World
  A₀ : Around
  R₀ : Result → Shared → Prop
  h₀ : Heap
  ads : List Addr
  d : Drawn
  os : OsState
  any : Bool
noncomputable def Fine (X : SV) (sel : List Ent) (h : Heap) : Prop := (sel.map (·.1)).Nodup ∧ (∀ p ∈ sel, X.W.own p.1) ∧ (∀ p ∈ sel, p.1 ∈ X.ads ∨ X.h₀.objs.size ≤ p.1) ∧ X.h₀.objs.size ≤ h.objs.size
noncomputable def Good (X : SV) : Res → Prop
  | .bad _ => False
  | .eq a b r => a = b ∧ Good X r
  | .asr a b r => a = b ∧ Good X r
  | .stk k => ∀ p b, Good X (k p b)
  | .fin r sel n m tk => ∀ h g, X.W.I h → X.W.B g → h.objs.size = n + m → Has h sel → Keep X.W X.h₀ h X.ads → Fine X sel h → X.R₀ r ⟨h, g, X.d, tk, X.os⟩
  | .ag c sel n m tk => ∀ h g, X.W.I h → X.W.B g → h.objs.size = n + m → Has h sel → Keep X.W X.h₀ h X.ads → Fine X sel h → codeAny (model X.prog X.w) X.A₀ c X.R₀ ⟨h, g, X.d, tk, X.os⟩
  | .sum c pre dep un post n m k => Con X.W X.prog X.w c pre dep un post ∧
      ∀ v n' tk', n + m ≤ n' → (∀ p ∈ (post v).news, n + m ≤ p.1 ∧ p.1 < n') → ((post v).news.map (·.1)).Nodup → Good X (k v n' tk')
theorem good_of_strip (X : SV) : ∀ R : Res, R.ls = R.rs → Good X R.strip → Good X R := by
  intro R
  induction R with
  | bad n => intro _ h; exact h
  | eq a b r ih =>
    intro e h
    have e' : Res.eq a a r.ls = Res.eq b b r.rs := e
    injection e' with e1 _ e3
    exact ⟨e1, ih e3 h⟩
  | asr a b r ih =>
    intro e h
    have e' : Res.asr a b r.ls = Res.asr a b r.rs := e
    injection e' with _ _ e3
    have h' : a = b ∧ Good X r.strip := h
    exact ⟨h'.1, ih e3 h'.2⟩
  | stk k ih =>
    intro e h p b
    have e' : Res.stk (fun p b => (k p b).ls) = Res.stk (fun p b => (k p b).rs) := e
    injection e' with e1
    exact ih p b (congrFun (congrFun e1 p) b) (h p b)
  | fin r sel n m tk => intro _ h; exact h
  | ag c sel n m tk => intro _ h; exact h
  | sum c pre dep un post n m k ih =>
    intro e h
    have e' : Res.sum c pre dep un post n m (fun v n' tk' => (k v n' tk').ls) = Res.sum c pre dep un post n m (fun v n' tk' => (k v n' tk').rs) := e
    injection e' with _ _ _ _ _ _ _ e1
    have h' : Con X.W X.prog X.w c pre dep un post ∧ ∀ v n' tk', n + m ≤ n' → (∀ p ∈ (post v).news, n + m ≤ p.1 ∧ p.1 < n') → ((post v).news.map (·.1)).Nodup → Good X (k v n' tk').strip := h
    exact ⟨h'.1, fun v n' tk' h1 h2 h3 => ih v n' tk' (congrFun (congrFun (congrFun e1 v) n') tk') (h'.2 v n' tk' h1 h2 h3)⟩
theorem nth_mem : ∀ {D : List Ent} {i : Nat} {p : Ent}, nth D i = some p → p ∈ D
  | [], _, _, h => by cases h
  | q :: l, 0, p, h => by cases h; exact List.mem_cons_self
  | q :: l, i + 1, p, h => List.mem_cons_of_mem _ (nth_mem (D := l) h)
theorem setO_fst : ∀ (D : List Ent) (i : Nat) (o : Obj), (setO D i o).map (·.1) = D.map (·.1)
  | [], _, _ => rfl
  | q :: l, 0, o => rfl
  | q :: l, i + 1, o => by show q.1 :: (setO l i o).map (·.1) = _; rw [setO_fst l i o]; rfl
theorem fst_uniq {D : List Ent} (nd : (D.map (·.1)).Nodup) : ∀ {p q : Ent}, p ∈ D → q ∈ D → p.1 = q.1 → p = q := by
  induction D with
  | nil => intro p q h; cases h
  | cons x l ih =>
    intro p q hp hq e
    rw [List.map_cons, List.nodup_cons] at nd
    rcases List.mem_cons.mp hp with rfl | hp'
    · rcases List.mem_cons.mp hq with rfl | hq'
      · rfl
      · exact absurd (List.mem_map.mpr ⟨q, hq', e.symm⟩) nd.1
    · rcases List.mem_cons.mp hq with rfl | hq'
      · exact absurd (List.mem_map.mpr ⟨p, hp', e⟩) nd.1
      · exact ih nd.2 hp' hq' e
theorem mem_setO {D : List Ent} {i : Nat} {o : Obj} {q : Ent} (nd : (D.map (·.1)).Nodup) (hi : nth D i = some q) : ∀ {p : Ent}, p ∈ setO D i o → (p = (q.1, o)) ∨ (p ∈ D ∧ p.1 ≠ q.1) := by
  induction D generalizing i with
  | nil => intro p h; cases h
  | cons x l ih =>
    intro p hp
    rw [List.map_cons, List.nodup_cons] at nd
    cases i with
    | zero =>
      cases hi
      rcases List.mem_cons.mp hp with rfl | hp'
      · exact .inl rfl
      · refine .inr ⟨List.mem_cons_of_mem _ hp', fun e => nd.1 (List.mem_map.mpr ⟨p, hp', e⟩)⟩
    | succ i =>
      have hi' : nth l i = some q := hi
      rcases List.mem_cons.mp hp with rfl | hp'
      · refine .inr ⟨List.mem_cons_self, fun e => nd.1 (List.mem_map.mpr ⟨q, nth_mem hi', e.symm⟩)⟩
      · rcases ih nd.2 hi' hp' with r | r
        · exact .inl r
        · exact .inr ⟨List.mem_cons_of_mem _ r.1, r.2⟩
theorem mem_snoc : ∀ {D : List Ent} {x p : Ent}, p ∈ snoc D x ↔ p ∈ D ∨ p = x
  | [], x, p => by simp [snoc]
  | q :: l, x, p => by
    show p ∈ q :: snoc l x ↔ _
    rw [List.mem_cons, mem_snoc, List.mem_cons, or_assoc]
theorem mem_app : ∀ {D l : List Ent} {p : Ent}, p ∈ app D l ↔ p ∈ D ∨ p ∈ l
  | [], l, p => by simp [app]
  | q :: D, l, p => by
    show p ∈ q :: app D l ↔ _
    rw [List.mem_cons, mem_app, List.mem_cons, or_assoc]
theorem app_eq : ∀ (D l : List Ent), app D l = D ++ l
  | [], _ => rfl
  | q :: D, l => by show q :: app D l = _; rw [app_eq D l]; rfl
theorem snoc_eq : ∀ (D : List Ent) (x : Ent), snoc D x = D ++ [x]
  | [], _ => rfl
  | q :: D, x => by show q :: snoc D x = _; rw [snoc_eq D x]; rfl
theorem putE_fst : ∀ (ix : List Nat) (D : List Ent) (os : List Obj), (putE D ix os).map (·.1) = D.map (·.1)
  | [], D, os => by cases os <;> rfl
  | i :: l, D, [] => rfl
  | i :: l, D, o :: os => by show (putE (setO D i o) l os).map _ = _; rw [putE_fst l, setO_fst]
theorem nth_setO_ne : ∀ {D : List Ent} {i j : Nat} {o : Obj}, i ≠ j → nth (setO D i o) j = nth D j
  | [], _, _, _, _ => rfl
  | q :: l, 0, 0, _, h => absurd rfl h
  | q :: l, 0, j + 1, _, _ => rfl
  | q :: l, i + 1, 0, _, _ => rfl
  | q :: l, i + 1, j + 1, o, h => nth_setO_ne (D := l) (fun e => h (by rw [e]))
theorem okIx_had {D : List Ent} : ∀ {ix had : List Nat}, okIx D had ix = true → ∀ i ∈ had, i ∉ ix
  | [], _, _, _, _, h => by cases h
  | j :: l, had, hok, i, hi, h => by
    unfold okIx at hok
    split at hok
    · rw [Bool.and_eq_true] at hok
      rcases List.mem_cons.mp h with rfl | h'
      · have : had.any (Nat.beq i) = true := List.any_eq_true.mpr ⟨i, hi, Nat.beq_refl i⟩
        rw [this] at hok
        simp at hok
      · exact okIx_had hok.2 i (List.mem_cons_of_mem _ hi) h'
    · cases hok
theorem okIx_cons {D : List Ent} {i : Nat} {ix had : List Nat} (h : okIx D had (i :: ix) = true) : (∃ p, nth D i = some p) ∧ okIx D (i :: had) ix = true := by
  unfold okIx at h
  split at h
  · rename_i p e
    rw [Bool.and_eq_true] at h
    exact ⟨⟨p, e⟩, h.2⟩
  · cases h
theorem selE_cons {D : List Ent} {i : Nat} {ix : List Nat} {p : Ent} (e : nth D i = some p) : selE D (i :: ix) = p :: selE D ix := by
  conv => lhs; unfold selE
  rw [e]
theorem selE_mem : ∀ {ix : List Nat} {D : List Ent} {p : Ent}, p ∈ selE D ix → p ∈ D
  | [], _, _, h => by cases h
  | i :: l, D, p, h => by
    unfold selE at h
    split at h
    · rename_i q e
      rcases List.mem_cons.mp h with rfl | h'
      · exact nth_mem e
      · exact selE_mem h'
    · cases h
theorem selE_ix : ∀ {ix : List Nat} {D : List Ent} {p : Ent}, p ∈ selE D ix → ∃ i ∈ ix, nth D i = some p
  | [], _, _, h => by cases h
  | i :: l, D, p, h => by
    unfold selE at h
    split at h
    · rename_i q e
      rcases List.mem_cons.mp h with rfl | h'
      · exact ⟨i, List.mem_cons_self, e⟩
      · obtain ⟨j, hj, e'⟩ := selE_ix h'
        exact ⟨j, List.mem_cons_of_mem _ hj, e'⟩
    · cases h
theorem nth_inj : ∀ {D : List Ent}, (D.map (·.1)).Nodup → ∀ {i j : Nat} {p q : Ent}, nth D i = some p → nth D j = some q → p.1 = q.1 → i = j
  | [], _, _, _, _, _, h, _, _ => by cases h
  | x :: l, nd, i, j, p, q, hi, hj, e => by
    rw [List.map_cons, List.nodup_cons] at nd
    cases i with
    | zero =>
      cases hi
      cases j with
      | zero => rfl
      | succ j => exact absurd (List.mem_map.mpr ⟨q, nth_mem (D := l) hj, e.symm⟩) nd.1
    | succ i =>
      cases j with
      | zero => cases hj; exact absurd (List.mem_map.mpr ⟨p, nth_mem (D := l) hi, e⟩) nd.1
      | succ j => rw [nth_inj nd.2 (i := i) (j := j) hi hj e]
theorem selE_nodup {D : List Ent} (nd : (D.map (·.1)).Nodup) : ∀ {ix had : List Nat}, okIx D had ix = true → ((selE D ix).map (·.1)).Nodup
  | [], _, _ => List.nodup_nil
  | i :: l, had, h => by
    obtain ⟨⟨p, e⟩, h'⟩ := okIx_cons h
    rw [selE_cons e, List.map_cons, List.nodup_cons]
    refine ⟨fun hm => ?_, selE_nodup nd h'⟩
    obtain ⟨q, hq, e'⟩ := List.mem_map.mp hm
    obtain ⟨j, hj, ej⟩ := selE_ix hq
    have : j = i := nth_inj nd ej e e'
    subst this
    exact okIx_had h' j List.mem_cons_self hj
theorem selE_setO {D : List Ent} {i : Nat} {o : Obj} : ∀ {ix : List Nat}, i ∉ ix → selE (setO D i o) ix = selE D ix
  | [], _ => rfl
  | j :: l, h => by
    have hne : i ≠ j := fun e => h (e ▸ List.mem_cons_self)
    unfold selE
    rw [nth_setO_ne hne, selE_setO (fun hm => h (List.mem_cons_of_mem _ hm))]
theorem okIx_setO {D : List Ent} {i : Nat} {o : Obj} : ∀ {ix had : List Nat}, okIx D had ix = true → i ∉ ix → okIx (setO D i o) had ix = true
  | [], _, _, _ => by unfold okIx; rfl
  | j :: l, had, h, hn => by
    have hne : i ≠ j := fun e => hn (e ▸ List.mem_cons_self)
    unfold okIx at h ⊢
    rw [nth_setO_ne hne]
    split at h
    · rename_i p e
      rw [Bool.and_eq_true] at h
      rw [Bool.and_eq_true]
      exact ⟨h.1, okIx_setO h.2 (fun hm => hn (List.mem_cons_of_mem _ hm))⟩
    · cases h
theorem hasZ_nil {h : Heap} : ∀ {l : List Ent}, HasZ h l [] → Has h l
  | [], _ => fun _ hm => by cases hm
  | p :: l, z => fun q hq => by
    rcases List.mem_cons.mp hq with rfl | hq'
    · exact z.1
    · exact hasZ_nil z.2 q hq'
theorem putE_has {h' : Heap} : ∀ {ix had : List Nat} {D : List Ent} {os : List Obj}, (D.map (·.1)).Nodup → okIx D had ix = true → (∀ p ∈ D, p.1 ∉ (selE D ix).map (·.1) → h'.get? p.1 = some p.2) → HasZ h' (selE D ix) os → ∀ p ∈ putE D ix os, h'.get? p.1 = some p.2
  | [], _, D, os, nd, _, hk, _, p, hp => by
    have : p ∈ D := by cases os <;> exact hp
    exact hk p this (fun hm => by cases hm)
  | i :: l, had, D, [], nd, hok, hk, hz, p, hp => by
    have hp' : p ∈ D := hp
    by_cases hm : p.1 ∈ (selE D (i :: l)).map (·.1)
    · obtain ⟨q, hq, e⟩ := List.mem_map.mp hm
      have : q = p := fst_uniq nd (selE_mem hq) hp' e
      subst this
      exact hasZ_nil hz q hq
    · exact hk p hp' hm
  | i :: l, had, D, o :: os, nd, hok, hk, hz, p, hp => by
    obtain ⟨⟨q, e⟩, hok'⟩ := okIx_cons hok
    have hni : i ∉ l := okIx_had hok' i List.mem_cons_self
    rw [selE_cons e] at hz hk
    have hp' : p ∈ putE (setO D i o) l os := hp
    refine putE_has (ix := l) (had := i :: had) (D := setO D i o) (os := os) (by rw [setO_fst]; exact nd) (okIx_setO hok' hni) (fun r hr hn => ?_) (by rw [selE_setO hni]; exact hz.2) p hp'
    rw [selE_setO hni] at hn
    rcases mem_setO nd e hr with rfl | ⟨hr', hne⟩
    · exact hz.1
    · refine hk r hr' (fun hm => ?_)
      rw [List.map_cons] at hm
      rcases List.mem_cons.mp hm with e' | hm'
      · exact hne e'
      · exact hn hm'
structure Rep (X : SV) (h : Heap) (D : List Ent) (n m : Nat) : Prop where
  inv : X.W.I h
  size : h.objs.size = n + m
  has : Has h D
  nd : (D.map (·.1)).Nodup
  lo : ∀ p ∈ D, X.W.own p.1
  src : ∀ p ∈ D, p.1 ∈ X.ads ∨ X.h₀.objs.size ≤ p.1
  keep : Keep X.W X.h₀ h X.ads
  grow : X.h₀.objs.size ≤ h.objs.size
theorem Rep.alloc {X : SV} {h : Heap} {D : List Ent} {n m : Nat} (r : Rep X h D n m) {o : Obj} (hf : o.isFreed = false) : Rep X (h.push o) (snoc D (n + m, o)) n (m + 1) := by
  have hlt : ∀ p ∈ D, p.1 < n + m := fun p hp => r.size ▸ Heap.lt_size (r.has p hp)
  have hsz : (h.push o).objs.size = h.objs.size + 1 := Heap.size_push h o
  refine ⟨?_, ?_, ?_, ?_, ?_, ?_, ?_, ?_⟩
  · refine X.W.stab h _ r.inv (fun b hb => ?_) (ar148 hsz)
    have hb' : b ≠ h.objs.size := fun e => hb (X.W.big h r.inv b (Nat.le_of_eq e.symm))
    unfold Heap.get?
    have : (h.push o).objs[b]? = h.objs[b]? := by
      show (h.objs.push o)[b]? = _
      rw [Array.getElem?_push, if_neg (by omega)]
    rw [this]
  · rw [hsz, r.size]; exact ar530
  · intro p hp
    rcases mem_snoc.mp hp with hp | rfl
    · exact Heap.get?_push_of_some o (r.has p hp)
    · show (h.push o).get? (n + m) = some o
      rw [← r.size]; exact Heap.get?_push_size h hf
  · rw [snoc_eq, List.map_append, List.nodup_append]
    refine ⟨r.nd, by simp, fun a ha b hb => ?_⟩
    obtain ⟨p, hp, rfl⟩ := List.mem_map.mp ha
    simp at hb
    subst hb
    exact Nat.ne_of_lt (hlt p hp)
  · intro p hp
    rcases mem_snoc.mp hp with hp | rfl
    · exact r.lo p hp
    · show X.W.own (n + m)
      rw [← r.size]; exact X.W.big h r.inv _ (Nat.le_refl _)
  · intro p hp
    rcases mem_snoc.mp hp with hp | rfl
    · exact r.src p hp
    · right; show X.h₀.objs.size ≤ n + m; rw [← r.size]; exact r.grow
  · intro b ob e h1 h2
    exact Heap.get?_push_of_some o (r.keep b ob e h1 h2)
  · rw [hsz]; have := r.grow; exact ar180 this
theorem Rep.update {X : SV} {h : Heap} {D : List Ent} {n m : Nat} (r : Rep X h D n m) {j : Nat} {p : Ent} {f : Obj → Obj} (e : nth D j = some p) (hf : (f p.2).isFreed = false) : Rep X (h.update p.1 f) (setO D j (f p.2)) n m := by
  have hp := nth_mem e
  have hs : Heap.SameBut p.1 h (h.update p.1 f) := Heap.SameBut.update ..
  refine ⟨?_, ?_, ?_, ?_, ?_, ?_, ?_, ?_⟩
  · refine X.W.stab h _ r.inv (fun b hb => hs.2 b ?_) (Nat.le_of_eq hs.1.symm)
    exact fun e => hb (e ▸ r.lo p hp)
  · rw [hs.1]; exact r.size
  · intro q hq
    rcases mem_setO r.nd e hq with rfl | ⟨hq', hne⟩
    · exact Heap.get?_update_self f (r.has p hp) hf
    · exact (hs.2 q.1 hne).trans (r.has q hq')
  · rw [setO_fst]; exact r.nd
  · intro q hq
    rcases mem_setO r.nd e hq with rfl | ⟨hq', _⟩
    · exact r.lo p hp
    · exact r.lo q hq'
  · intro q hq
    rcases mem_setO r.nd e hq with rfl | ⟨hq', _⟩
    · exact r.src p hp
    · exact r.src q hq'
  · intro b ob eb h1 h2
    refine (hs.2 b fun z => ?_).trans (r.keep b ob eb h1 h2)
    subst z
    rcases r.src p hp with q | q
    · exact h1 q
    · exact absurd (Heap.lt_size eb) (Nat.not_lt_of_le q)
  · rw [hs.1]; exact r.grow
theorem Rep.summed {X : SV} {h h' : Heap} {D : List Ent} {n m : Nat} {ix had : List Nat} {now : List Obj} {news : List Ent} (r : Rep X h D n m) (hok : okIx D had ix = true) (hi : X.W.I h') (hsz : h.objs.size ≤ h'.objs.size)
    (hz : HasZ h' (selE D ix) now) (hn : NewOk h h' news) (hk : Keep X.W h h' ((selE D ix).map (·.1))) : Rep X h' (app (putE D ix now) news) h'.objs.size 0 := by
  have hlt : ∀ a ∈ D.map (·.1), a < h.objs.size := fun a ha => by
    obtain ⟨p, hp, rfl⟩ := List.mem_map.mp ha
    exact Heap.lt_size (r.has p hp)
  have hnt : ∀ p ∈ D, p.1 ∉ X.W.tabs := fun p hp hm => X.W.tlo _ hm (r.lo p hp)
  have hput : ∀ p ∈ putE D ix now, h'.get? p.1 = some p.2 := putE_has r.nd hok (fun p hp hm => hk p.1 p.2 (r.has p hp) hm (hnt p hp)) hz
  have hfst : ∀ p ∈ putE D ix now, p.1 ∈ D.map (·.1) := fun p hp => by
    rw [← putE_fst ix D now]; exact List.mem_map.mpr ⟨p, hp, rfl⟩
  refine ⟨hi, rfl, ?_, ?_, ?_, ?_, ?_, Nat.le_trans r.grow hsz⟩
  · intro p hp
    rcases mem_app.mp hp with hp | hp
    · exact hput p hp
    · exact (hn.1 p hp).2
  · rw [app_eq, List.map_append, List.nodup_append, putE_fst]
    refine ⟨r.nd, hn.2, fun a ha b hb => ?_⟩
    obtain ⟨q, hq, rfl⟩ := List.mem_map.mp hb
    exact Nat.ne_of_lt (Nat.lt_of_lt_of_le (hlt a ha) (hn.1 q hq).1)
  · intro p hp
    rcases mem_app.mp hp with hp | hp
    · obtain ⟨q, hq, e⟩ := List.mem_map.mp (hfst p hp)
      exact e ▸ r.lo q hq
    · exact X.W.big h r.inv _ (hn.1 p hp).1
  · intro p hp
    rcases mem_app.mp hp with hp | hp
    · obtain ⟨q, hq, e⟩ := List.mem_map.mp (hfst p hp)
      exact e ▸ r.src q hq
    · exact .inr (Nat.le_trans r.grow (hn.1 p hp).1)
  · intro b ob eb h1 h2
    refine hk b ob (r.keep b ob eb h1 h2) (fun hm => ?_) h2
    obtain ⟨q, hq, e⟩ := List.mem_map.mp hm
    rcases r.src q (selE_mem hq) with z | z
    · exact h1 (e ▸ z)
    · exact absurd (Heap.lt_size eb) (Nat.not_lt_of_le (e ▸ z))
noncomputable def ar (any : Bool) (A₀ : Around) : Kt → Around
  | [] => A₀
  | (c, _) :: κ => (match any, κ with
    | true, [] => A₀
    | _, _ => (ar any A₀ κ).under c).mark none
noncomputable def curA (any : Bool) (A₀ : Around) (κ : Kt) (c : Code) : Around := match any, κ with
  | true, [] => A₀
  | _, _ => (ar any A₀ κ).under c
theorem ar_cons (any : Bool) (A₀ : Around) (c : Code) (k : Result → Sem PySem.Fin) (κ : Kt) : ar any A₀ ((c, k) :: κ) = (curA any A₀ κ c).mark none := by
  cases any <;> cases κ <;> rfl
noncomputable def postD (R : Result → Shared → Prop) : PySem.Fin → Shared → Prop := fun fin s => match fin with
  | .done f => R (.ok f) s
  | .again _ => False
noncomputable def endK (X : SV) : Kt → Result → Shared → Prop
  | [] => X.R₀
  | (c, k) :: κ => match X.any, κ with
    | true, [] => fun r s => wpAny (model X.prog X.w) X.A₀ (k r) (postD X.R₀) (postE X.R₀) s
    | _, _ => postR X.prog X.w (ar X.any X.A₀ κ) c (postC X.prog X.w (ar X.any X.A₀ κ) (endK X κ)) (postE (endK X κ)) k
noncomputable def MeansK (X : SV) (c : Code) (κ : Kt) (t : Sem PySem.Fin) (s : Shared) : Prop := match X.any, κ with
  | true, [] => wpAny (model X.prog X.w) X.A₀ t (postD X.R₀) (postE X.R₀) s
  | _, _ => wpOwn (model X.prog X.w) (ar X.any X.A₀ κ) c t (postC X.prog X.w (ar X.any X.A₀ κ) (endK X κ)) (postE (endK X κ)) s
theorem endK_cons (X : SV) (c : Code) (k : Result → Sem PySem.Fin) (κ : Kt) : endK X ((c, k) :: κ) = fun r s => MeansK X c κ (k r) s := by
  unfold endK MeansK
  cases X.any <;> cases κ <;> rfl
theorem means_own {X : SV} {c : Code} {κ : Kt} {t : Sem PySem.Fin} {s : Shared} (h : X.any = false ∨ κ ≠ []) :
    MeansK X c κ t s = wpOwn (model X.prog X.w) (ar X.any X.A₀ κ) c t (postC X.prog X.w (ar X.any X.A₀ κ) (endK X κ)) (postE (endK X κ)) s := by
  unfold MeansK
  cases ha : X.any with
  | false => rfl
  | true => cases κ with
    | nil => rcases h with h | h
             · rw [ha] at h; cases h
             · exact absurd rfl h
    | cons q κ => rfl
theorem cur_handled {any : Bool} {A₀ : Around} (h : A₀.handled = none) : ∀ (κ : Kt) (c : Code), (ar any A₀ κ).handled = none ∧ (curA any A₀ κ c).handled = none
  | [], c => ⟨h, by cases any <;> exact h⟩
  | (c', k) :: κ, c => by
    have z := (cur_handled (any := any) h κ c').2
    have y : (ar any A₀ ((c', k) :: κ)).handled = none := by rw [ar_cons]; show (none : Option Value).or _ = none; exact z
    refine ⟨y, ?_⟩
    unfold curA
    cases any <;> exact y
theorem cur_depth (any : Bool) (A₀ : Around) : ∀ (κ : Kt) (c : Code), (ar any A₀ κ).depth = A₀.depth + dk any κ ∧ (curA any A₀ κ c).depth = A₀.depth + dk any κ + cw any κ c
  | [], c => ⟨rfl, by cases any <;> rfl⟩
  | (c', k) :: κ, c => by
    have z := (cur_depth any A₀ κ c').2
    have y : (ar any A₀ ((c', k) :: κ)).depth = A₀.depth + dk any ((c', k) :: κ) := by rw [ar_cons]; show (curA any A₀ κ c').depth = _; rw [z, Nat.add_assoc]; rfl
    refine ⟨y, ?_⟩
    have : (curA any A₀ ((c', k) :: κ) c).depth = (ar any A₀ ((c', k) :: κ)).depth + cw any ((c', k) :: κ) c := by cases any <;> rfl
    rw [this, y]
theorem cur_units (any : Bool) (A₀ : Around) : ∀ (κ : Kt) (c : Code), (ar any A₀ κ).units = A₀.units + uk any κ ∧ (curA any A₀ κ c).units = A₀.units + uk any κ + cu any κ c
  | [], c => ⟨rfl, by cases any <;> rfl⟩
  | (c', k) :: κ, c => by
    have z := (cur_units any A₀ κ c').2
    have y : (ar any A₀ ((c', k) :: κ)).units = A₀.units + uk any ((c', k) :: κ) := by rw [ar_cons]; show (curA any A₀ κ c').units = _; rw [z, Nat.add_assoc]; rfl
    refine ⟨y, ?_⟩
    have : (curA any A₀ ((c', k) :: κ) c).units = (ar any A₀ ((c', k) :: κ)).units + cu any ((c', k) :: κ) c := by cases any <;> rfl
    rw [this, y]
theorem means_cmd {X : SV} {c : Code} {κ : Kt} {α : Type} {m : Sem α} {f : α → Sem PySem.Fin} {s : Shared}
    (h : ∀ E, wpAny (model X.prog X.w) (curA X.any X.A₀ κ c) m (fun a s' => MeansK X c κ (f a) s') E s) : MeansK X c κ (m >>= f) s := by
  unfold MeansK curA at *
  cases ha : X.any with
  | false =>
    rw [ha] at h
    exact wpOwn_bind (wpOwn_of_wpAny (h _))
  | true =>
    rw [ha] at h
    cases κ with
    | nil => exact wpAny_bind (h _)
    | cons q κ => exact wpOwn_bind (wpOwn_of_wpAny (h _))
section
variable (X : SV) (V : CV)
theorem rt_sound {c : Code} {κ : Kt} {t : Sem PySem.Fin} {r : Result} (ht : t = leafOf r) {s : Shared} (H : endK X κ r s) : MeansK X c κ t s := by
  by_cases hown : X.any = false ∨ κ ≠ []
  · rw [means_own hown]
    cases r with
    | ok f => subst ht; exact y_pure _ _ _ _ _ _ _ _ _ (y_done _ _ _ _ _ _ H)
    | error e => subst ht; exact y_raise _ _ _ _ _ _ _ _ _ (y_err _ _ _ H)
  · have h1 : X.any = true := by cases h : X.any with | true => rfl | false => exact absurd (.inl h) hown
    have h2 : κ = [] := by cases κ with | nil => rfl | cons q κ => exact absurd (.inr (by simp)) hown
    subst h2
    unfold MeansK
    rw [h1]
    cases r with
    | ok f => subst ht; exact x_pure (show postD X.R₀ (.done f) s from H)
    | error e => subst ht; exact x_raise (show postE X.R₀ e s from H)
theorem ck_sound (hV : V.g = ⟨X.prog, X.w.params⟩) (hkt : V.kt = X.W.kt) (hany : V.any = X.any) (hroom : Room X.A₀ V.dep V.un) : ∀ (f : Nat) (c : Code) (κ : Kt) (t : Sem PySem.Fin) (D : List Ent) (n m tk i : Nat) (tr : Tr) (h : Heap) (g : Array GenState),
    Good X (ck V f c κ t D n m tk i tr) → Rep X h D n m → X.W.B g → MeansK X c κ t ⟨h, g, X.d, tk + i, X.os⟩ := by
  intro f
  induction f with
  | zero => intro c κ t D n m tk i tr h g H; exact H.elim
  | succ f IH =>
    intro c κ t D n m tk i tr h g H r hB
    have rets : ∀ (r₀ : Result), Good X (rtS (ck V f) r₀ κ D n m tk i tr) → endK X κ r₀ ⟨h, g, X.d, tk + i, X.os⟩ := by
      intro r₀ H
      unfold rtS at H
      cases κ with
      | nil =>
        dsimp only at H
        split at H
        · rename_i sel
          split at H
          · rename_i hox
            exact H h g r.inv hB r.size (fun p hp => r.has p (selE_mem hp)) r.keep ⟨selE_nodup r.nd hox, fun p hp => r.lo p (selE_mem hp), fun p hp => r.src p (selE_mem hp), r.grow⟩
          · exact H.elim
        · exact H h g r.inv hB r.size r.has r.keep ⟨r.nd, r.lo, r.src, r.grow⟩
        · exact H.elim
      | cons q κ' =>
        obtain ⟨c', k⟩ := q
        rw [endK_cons]
        dsimp only at H
        split at H
        · rename_i v tr'
          split at H
          · rename_i v'
            obtain ⟨e, H⟩ := H
            subst e
            exact IH _ _ _ _ _ _ _ _ _ h g H r hB
          · exact H.elim
        · exact IH _ _ _ _ _ _ _ _ _ h g H r hB
        · exact IH _ _ _ _ _ _ _ _ _ h g H r hB
    have hnt : ∀ {a : Addr} {o : Obj}, V.kt.get a = some o → h.get? a = some o := fun e => X.W.stat h r.inv _ _ (hkt ▸ e)
    replace H : Good X (ckS V (ck V f) c κ t D n m tk i tr) := H
    unfold ckS at H
    cases t with
    | pure fin =>
      cases fin with
      | done fl => exact rt_sound X (r := .ok fl) rfl (rets _ H)
      | again c' =>
        dsimp only at H
        split at H
        · rename_i hq
          cases κ with
          | nil =>
            dsimp only at H
            split at H
            · exact H.elim
            · rename_i ha
              have ha' : X.any = false := hany ▸ ha
              rw [means_own (.inl ha')]
              split at H
              · rename_i sel
                split at H
                · rename_i hox
                  exact y_pure _ _ _ _ _ _ _ _ _ (y_again _ _ _ _ _ _ hq (H h g r.inv hB r.size (fun p hp => r.has p (selE_mem hp)) r.keep ⟨selE_nodup r.nd hox, fun p hp => r.lo p (selE_mem hp), fun p hp => r.src p (selE_mem hp), r.grow⟩))
                · exact H.elim
              · exact y_pure _ _ _ _ _ _ _ _ _ (y_again _ _ _ _ _ _ hq (H h g r.inv hB r.size r.has r.keep ⟨r.nd, r.lo, r.src, r.grow⟩))
              · have z := IH _ _ _ _ _ _ _ _ _ h g H r hB
                rw [means_own (.inl ha'), ← den_eq] at z
                exact y_pure _ _ _ _ _ _ _ _ _ (y_again _ _ _ _ _ _ hq (y_code _ _ _ _ _ _ z))
          | cons q κ =>
            have z := IH _ _ _ _ _ _ _ _ _ h g H r hB
            rw [means_own (.inr (by simp)), ← den_eq] at z
            rw [means_own (.inr (by simp))]
            exact y_pure _ _ _ _ _ _ _ _ _ (y_again _ _ _ _ _ _ hq (y_code _ _ _ _ _ _ z))
        · exact H.elim
    | raise e => exact rt_sound X (r := .error e) rfl (rets _ H)
    | rule tag k => exact means_cmd (m := rule tag) (f := k) fun _ => wpAny_rule (IH _ _ _ _ _ _ _ _ _ h g H r hB)
    | «at» q k => exact means_cmd (m := standAt q) (f := k) fun _ => wpAny_standAt (IH _ _ _ _ _ _ _ _ _ h g H r hB)
    | point l k =>
      have z := IH _ _ _ _ _ _ _ _ _ h g H r hB
      unfold MeansK at z ⊢
      cases ha : X.any with
      | false => rw [ha] at z; exact y_skim _ _ _ _ _ _ _ _ _ 1 z
      | true =>
        rw [ha] at z
        cases κ with
        | nil => exact x_point z
        | cons q κ => exact y_skim _ _ _ _ _ _ _ _ _ 1 z
    | ask k =>
      refine means_cmd (m := ask) (f := k) fun _ => wpAny_askSetting ?_
      have z := IH _ _ _ _ _ _ _ _ _ h g H r hB
      rw [hV] at z
      exact z
    | load a q k =>
      dsimp only at H
      split at H
      · split at H
        · rename_i o e
          exact means_cmd (m := loadPart a q) (f := k) fun _ => wpAny_loadPart (hnt e) (IH _ _ _ _ _ _ _ _ _ h g H r hB)
        · exact H.elim
      · split at H
        · rename_i p e
          obtain ⟨ea, H⟩ := H
          injection ea with ea
          subst ea
          exact means_cmd (m := loadPart p.1 q) (f := k) fun _ => wpAny_loadPart (r.has _ (nth_mem e)) (IH _ _ _ _ _ _ _ _ _ h g H r hB)
        · exact H.elim
      · exact H.elim
    | loadIfAlive a k =>
      dsimp only at H
      split at H
      · split at H
        · rename_i o e
          refine means_cmd (m := loadIfAlive a) (f := k) fun _ Γ p hΓ => ?_
          show MeansK X c κ (k (h.get? a)) _
          rw [hnt e]; exact IH _ _ _ _ _ _ _ _ _ h g H r hB
        · exact H.elim
      · split at H
        · rename_i p e
          obtain ⟨ea, H⟩ := H
          injection ea with ea
          subst ea
          refine means_cmd (m := loadIfAlive p.1) (f := k) fun _ Γ q hΓ => ?_
          show MeansK X c κ (k (h.get? p.1)) _
          rw [r.has _ (nth_mem e)]; exact IH _ _ _ _ _ _ _ _ _ h g H r hB
        · exact H.elim
      · exact H.elim
    | update a q ff k =>
      dsimp only at H
      split at H
      · split at H
        · rename_i p e
          split at H
          · rename_i hf
            obtain ⟨ea, H⟩ := H
            injection ea with ea
            subst ea
            have z := IH _ _ _ _ _ _ _ _ _ _ g H (r.update e hf) hB
            exact means_cmd (m := updatePart p.1 q ff) (f := k) fun _ => wpAny_updatePart (r.has _ (nth_mem e)) z
          · exact H.elim
        · exact H.elim
      · exact H.elim
    | alloc o k =>
      dsimp only at H
      split at H
      · rename_i hf
        have z := IH _ _ _ _ _ _ _ _ _ _ g H (r.alloc hf) hB
        exact means_cmd (m := alloc o) (f := k) fun _ => wpAny_alloc (by show MeansK X c κ (k h.objs.size) _; rw [r.size]; exact z)
      · exact H.elim
    | fresh k =>
      have z := IH c κ (k (tk + i)) D n m tk (i + 1) tr h g H r hB
      exact means_cmd (m := fresh) (f := k) fun _ => wpAny_fresh z
    | handled own k =>
      cases own with
      | true => exact H.elim
      | false =>
        have z := IH _ _ _ _ _ _ _ _ _ h g H r hB
        exact means_cmd (m := handled) (f := k) fun _ => wpAny_handled (by rw [(cur_handled hroom.1 κ c).2]; exact z)
    | stack k =>
      dsimp only at H
      split at H
      · rename_i r'
        have H2 : (X.any = false ∨ κ ≠ []) ∧ ∀ p b, Good X (ck V f c κ (k ((c, p) :: b)) D n m tk i r') := by
          cases ha : V.any with
          | false => rw [ha] at H; exact ⟨.inl (hany ▸ ha), H⟩
          | true =>
            rw [ha] at H
            cases κ with
            | nil => exact H.elim
            | cons q κ => exact ⟨.inr (by simp), H⟩
        rw [means_own H2.1]
        refine y_stack _ _ _ _ _ _ _ _ _ fun p below _ => ?_
        have z := IH _ _ _ _ _ _ _ _ _ h g (H2.2 p below) r hB
        rw [means_own H2.1] at z
        exact z
      · split at H
        · rename_i a q k' e
          split at H
          · rename_i o eo
            split at H
            · rename_i hd
              obtain ⟨et, H⟩ := H
              injection et with et
              have z := IH _ _ _ _ _ _ _ _ _ h g H r hB
              rw [et, ← R.bindR_eq, ← Fast.te15066281185411960212]
              refine means_cmd (m := enterFrame) (f := fun _ => k' o) fun _ => wpAny_enterFrame (X.W.nolim h r.inv) ?_ z
              rw [(cur_depth X.any X.A₀ κ c).2]
              have h1 := Nat.le_of_ble_eq_true hd
              rw [hany] at h1
              have := hroom.2.1
              exact ar531 this h1
            · exact H.elim
          · exact H.elim
        · exact H.elim
      · rename_i what r'
        split at H
        · rename_i hd
          obtain ⟨et, H⟩ := H
          injection et with et
          have z := IH _ _ _ _ _ _ _ _ _ h g H r hB
          rw [et, ← R.bindR_eq, ← Fast.te10648789137845014744]
          refine means_cmd (m := cRoom what) (f := fun _ => k []) fun _ => wpAny_cRoom ?_ z
          rw [(cur_units X.any X.A₀ κ c).2]
          have h1 := Nat.le_of_ble_eq_true hd
          rw [hany] at h1
          have := hroom.2.2
          exact ar531 this h1
        · exact H.elim
      · exact H.elim
    | call c' hd gd l k =>
      dsimp only at H
      split at H
      · exact H.elim
      · split at H
        · rename_i c₁ ix dep un post r'
          split at H
          · rename_i hb
            rw [Bool.and_eq_true, Bool.and_eq_true] at hb
            obtain ⟨ec, Hc, H⟩ := H
            injection ec with ec
            subst ec
            have h1 := Nat.le_of_ble_eq_true hb.1.1
            have h2 := Nat.le_of_ble_eq_true hb.1.2
            rw [hany] at h1 h2
            have key : codeAny (model X.prog X.w) ((curA X.any X.A₀ κ c).mark none) c' (fun r₀ s' => MeansK X c κ (k r₀) s') ⟨h, g, X.d, tk + i, X.os⟩ := by
              refine Hc _ h g X.d (tk + i) X.os _ ⟨?_, ?_, ?_⟩ r.inv hB (fun p hp => r.has p (selE_mem hp)) (fun p hp => r.lo p (selE_mem hp)) (selE_nodup r.nd hb.2) ?_
              · show (none : Option Value).or _ = none
                exact (cur_handled hroom.1 κ c).2
              · show (curA X.any X.A₀ κ c).depth + dep < recursionLimit
                rw [(cur_depth X.any X.A₀ κ c).2]
                have := hroom.2.1
                exact ar532 h1 this
              · show (curA X.any X.A₀ κ c).units + un < cLine
                rw [(cur_units X.any X.A₀ κ c).2]
                have := hroom.2.2
                exact ar532 h2 this
              · intro v h' g' tk' hi' hB' hsz hz hn hk
                have hlt : ∀ p ∈ (post v).news, n + m ≤ p.1 ∧ p.1 < h'.objs.size := fun p hp => ⟨r.size ▸ (hn.1 p hp).1, Heap.lt_size (hn.1 p hp).2⟩
                exact IH _ _ _ _ _ _ _ _ _ h' g' (H v h'.objs.size tk' (r.size ▸ hsz) hlt hn.2) (r.summed hb.2 hi' hsz hz hn hk) hB'
            unfold MeansK curA at *
            cases ha : X.any with
            | false =>
              rw [ha] at key
              exact y_call _ _ _ _ _ _ _ _ _ _ _ _ _ (by intro z; cases z) key
            | true =>
              rw [ha] at key
              cases κ with
              | nil => exact x_call key (by intro z; cases z)
              | cons q κ => exact y_call _ _ _ _ _ _ _ _ _ _ _ _ _ (by intro z; cases z) key
          · exact H.elim
        · have z := IH _ _ _ _ _ _ _ _ _ h g H r hB
          rw [means_own (.inr (by simp)), ← den_eq] at z
          have key := y_code _ _ _ _ _ _ z
          rw [ar_cons, endK_cons] at key
          unfold MeansK curA at *
          cases ha : X.any with
          | false =>
            rw [ha] at key
            exact y_call _ _ _ _ _ _ _ _ _ _ _ _ _ (by intro z; cases z) key
          | true =>
            rw [ha] at key
            cases κ with
            | nil => exact x_call key (by intro z; cases z)
            | cons q κ => exact y_call _ _ _ _ _ _ _ _ _ _ _ _ _ (by intro z; cases z) key
    | _ => exact H.elim
end
theorem con_run {W : IV} {prog : Program} {w : World} {c : Code} {pre : List Ent} {dep un : Nat} {post : (Nat → Nat) → Post} (f : Nat) (tr : Nat → Nat → Tr) (E : Nat → Nat → Res)
    (hq : ∀ n tk, (ck ⟨⟨prog, w.params⟩, W.kt, dep, un, false⟩ f c [] (den c) pre n 0 tk 0 (tr n tk)).ls = (ck ⟨⟨prog, w.params⟩, W.kt, dep, un, false⟩ f c [] (den c) pre n 0 tk 0 (tr n tk)).rs)
    (hs : ∀ n tk, (ck ⟨⟨prog, w.params⟩, W.kt, dep, un, false⟩ f c [] (den c) pre n 0 tk 0 (tr n tk)).strip = E n tk)
    (hg : ∀ (A : Around) (h : Heap) (d : Drawn) (tk : Nat) (os : OsState) (R : Result → Shared → Prop), Room A dep un → W.I h → (∀ p ∈ pre, p.1 < h.objs.size) → (∀ p ∈ pre, W.own p.1) → (pre.map (·.1)).Nodup →
      (∀ (v : Nat → Nat) (h' : Heap) (g' : Array GenState) (tk' : Nat), W.I h' → W.B g' → h.objs.size ≤ h'.objs.size → HasZ h' pre (post v).now → NewOk h h' (post v).news → Keep W h h' (pre.map (·.1)) → R (post v).res ⟨h', g', d, tk', os⟩) →
      Good ⟨W, prog, w, A, R, h, pre.map (·.1), d, os, false⟩ (E h.objs.size tk)) :
    Con W prog w c pre dep un post := by
  intro A h g d tk os R room hi hB has hlo nd hR
  have H := hg A h d tk os R room hi (fun p hp => Heap.lt_size (has p hp)) hlo nd hR
  rw [← hs] at H
  have H' := good_of_strip _ _ (hq h.objs.size tk) H
  have z := ck_sound ⟨W, prog, w, A, R, h, pre.map (·.1), d, os, false⟩ ⟨⟨prog, w.params⟩, W.kt, dep, un, false⟩ rfl rfl rfl room f c [] (den c) pre h.objs.size 0 tk 0 (tr h.objs.size tk) h g H'
    ⟨hi, rfl, has, nd, hlo, fun p hp => .inl (List.mem_map.mpr ⟨p, hp, rfl⟩), fun b o e _ _ => e, Nat.le_refl _⟩ hB
  rw [means_own (.inl rfl), ← den_eq] at z
  exact y_code _ _ _ _ _ _ z
noncomputable def asFin (v : Value) : Sem PySem.Fin := .pure (.done (.ret v))
theorem wpAny_of_fin {M : Model} {A : Around} {t : Sem Value} {Q E : Value → Shared → Prop} {s : Shared}
    (h : wpAny M A (t >>= asFin) (postD (wants Q E)) (postE (wants Q E)) s) : wpAny M A t Q E s := by
  intro Γ p hΓ
  have z : Sem.wp M Γ (Sem.bind t asFin) _ _ p s := h Γ p hΓ
  rw [Sem.wp_bind] at z
  exact z
theorem any_run {W : IV} {prog : Program} {w : World} {A : Around} {t : Sem Value} {Q E : Value → Shared → Prop} {h : Heap} {g : Array GenState} {d : Drawn} {tk : Nat} {os : OsState} (D : List Ent) (dep un : Nat) (f : Nat) (tr : Tr) (R : Res)
    (room : Room A dep un) (hi : W.I h) (hB : W.B g) (has : Has h D) (hlo : ∀ p ∈ D, W.own p.1) (nd : (D.map (·.1)).Nodup)
    (hq : (ck ⟨⟨prog, w.params⟩, W.kt, dep, un, true⟩ f default [] (t >>= asFin) D h.objs.size 0 tk 0 tr).ls = (ck ⟨⟨prog, w.params⟩, W.kt, dep, un, true⟩ f default [] (t >>= asFin) D h.objs.size 0 tk 0 tr).rs)
    (hs : (ck ⟨⟨prog, w.params⟩, W.kt, dep, un, true⟩ f default [] (t >>= asFin) D h.objs.size 0 tk 0 tr).strip = R)
    (hg : Good ⟨W, prog, w, A, wants Q E, h, D.map (·.1), d, os, true⟩ R) : wpAny (model prog w) A t Q E ⟨h, g, d, tk, os⟩ := by
  rw [← hs] at hg
  have H' := good_of_strip _ _ hq hg
  exact wpAny_of_fin (ck_sound ⟨W, prog, w, A, wants Q E, h, D.map (·.1), d, os, true⟩ ⟨⟨prog, w.params⟩, W.kt, dep, un, true⟩ rfl rfl rfl room f default [] (t >>= asFin) D h.objs.size 0 tk 0 tr h g H'
    ⟨hi, rfl, has, nd, hlo, fun p hp => .inl (List.mem_map.mpr ⟨p, hp, rfl⟩), fun b o e _ _ => e, Nat.le_refl _⟩ hB)
noncomputable def prg : Program := PySem.Challenge.rw_oh0001_01.row.prog
noncomputable def gOf (P : Params) : Setting := ⟨prg, P⟩
noncomputable def ktDel : KT → Nat → KT
  | .nil, _ => .nil
  | .node v l r, i => match Nat.beq i 0 with
    | true => .node none l r
    | false => match Nat.beq (i % 2) 1 with
      | true => .node v (ktDel l (i / 2)) r
      | false => .node v l (ktDel r (i / 2 - 1))
theorem ktDel_get : ∀ (t : KT) (i j : Nat), (ktDel t i).get j = if i = j then none else t.get j
  | .nil, i, j => by
    show KT.nil.get j = if i = j then none else KT.nil.get j
    split <;> rfl
  | .node v l r, i, j => by
    unfold ktDel
    rw [BT.beq_eq, BT.beq_eq, KT.get_node]
    by_cases hi : i = 0
    · subst hi
      simp only [decide_true]
      rw [KT.get_node]
      by_cases hj : j = 0
      · subst hj; simp
      · have : ¬ 0 = j := fun e => hj e.symm
        simp [hj, this]
    · simp only [decide_eq_false hi]
      by_cases ho : i % 2 = 1
      · simp only [ho, decide_true]
        rw [KT.get_node, ktDel_get l]
        by_cases hj : j = 0
        · subst hj; simp [hi]
        · by_cases pj : j % 2 = 1
          · simp only [hj, pj, if_false, if_true]
            by_cases e : i = j
            · simp [e]
            · have : ¬ i / 2 = j / 2 := ar0 ho pj e
              simp [e, this]
          · have : ¬ i = j := ar1 ho pj
            simp [hj, pj, this]
      · simp only [decide_eq_false ho]
        rw [KT.get_node, ktDel_get r]
        by_cases hj : j = 0
        · subst hj; simp [hi]
        · by_cases pj : j % 2 = 1
          · have : ¬ i = j := ar2 pj ho
            simp [hj, pj, this]
          · simp only [hj, pj, if_false]
            by_cases e : i = j
            · simp [e]
            · have : ¬ i / 2 - 1 = j / 2 - 1 := ar3 ho pj hi hj e
              simp [e, this]
noncomputable def ktLow (n : Nat) : KT → Nat → Nat → Bool
  | .nil, _, _ => true
  | .node v l r, s, b => (match v with
    | none => true
    | some _ => Nat.blt b n) && (ktLow n l (2 * s) (s + b) && ktLow n r (2 * s) (2 * s + b))
theorem ktLow_get {n : Nat} : ∀ {t : KT} {s b : Nat}, ktLow n t s b = true → ∀ {j : Nat} {o : Obj}, t.get j = some o → s * j + b < n
  | .nil, _, _, _, _, _, e => by cases e
  | .node v l r, s, b, H, j, o, e => by
    unfold ktLow at H
    rw [Bool.and_eq_true, Bool.and_eq_true] at H
    rw [KT.get_node] at e
    by_cases h0 : j = 0
    · subst h0
      rw [if_pos rfl] at e
      subst e
      rw [Nat.mul_zero, Nat.zero_add]
      exact Nat.le_of_ble_eq_true H.1
    · rw [if_neg h0] at e
      by_cases p : j % 2 = 1
      · rw [if_pos p] at e
        have z := ktLow_get H.2.1 e
        have hj : j = 2 * (j / 2) + 1 := ar4 p
        have : 2 * s * (j / 2) + (s + b) = s * j + b := by
          conv => rhs; rw [hj]
          rw [Nat.mul_add, Nat.mul_one, ← Nat.mul_assoc, Nat.mul_comm s 2]; exact ar5
        exact ar6 z this
      · rw [if_neg p] at e
        have z := ktLow_get H.2.2 e
        have hj : j = 2 * (j / 2 - 1) + 2 := ar7 p h0
        have : 2 * s * (j / 2 - 1) + (2 * s + b) = s * j + b := by
          conv => rhs; rw [hj]
          rw [Nat.mul_add, ← Nat.mul_assoc, Nat.mul_comm s 2]; exact ar8
        exact ar9 z this
noncomputable def ktd (K : Params → KT) (P : Params) : KT := ktDel (ktDel (K P) 140) 147
noncomputable def statO : Obj := ⟨.none, none, .dict #[] 0, #[]⟩
structure KOk (K : Params → KT) : Prop where
  low : ∀ P, ktLow 217 (K P) 1 0 = true
  stat : ∀ P, (ktd K P).get 2 = some statO
theorem ktd_get {K : Params → KT} {P : Params} {a : Addr} {o : Obj} (e : (ktd K P).get a = some o) : (K P).get a = some o ∧ a ≠ 140 ∧ a ≠ 147 := by
  unfold ktd at e
  rw [ktDel_get, ktDel_get] at e
  by_cases h1 : 147 = a
  · rw [if_pos h1] at e; cases e
  · rw [if_neg h1] at e
    by_cases h2 : 140 = a
    · rw [if_pos h2] at e; cases e
    · rw [if_neg h2] at e; exact ⟨e, Ne.symm h2, Ne.symm h1⟩
noncomputable def tabFine (h : Heap) (a : Addr) : Prop := ∃ ps : Array Value, h.get? a = some (tableObj ps) ∧ TriplesOk ps.toList
noncomputable def inv (K : Params → KT) (P : Params) (fz : List Ent) (h : Heap) : Prop :=
  (∀ a o, (ktd K P).get a = some o → h.get? a = some o) ∧ tabFine h 140 ∧ tabFine h 147 ∧ 217 ≤ h.objs.size ∧ Has h fz ∧ ∀ p ∈ fz, 217 ≤ p.1
noncomputable def OwnA (fz : List Ent) (a : Nat) : Prop := 217 ≤ a ∧ a ∉ fz.map (·.1)
theorem OwnA.ge {fz : List Ent} {a : Nat} (z : OwnA fz a) : 217 ≤ a := z.1
theorem kok (K : Params → KT) [ok : Nonempty (KOk K)] : KOk K := let ⟨x⟩ := ok; x
noncomputable def WI (K : Params → KT) [ok : Nonempty (KOk K)] (P : Params) (fz : List Ent) : IV where
  kt := ktd K P
  own := OwnA fz
  tabs := [140, 147]
  I := inv K P fz
  B := AllBare
  stab := fun h h' hi hk hs => ⟨fun a o e => (hk a (fun z => by have := ktLow_get ((kok K).low P) (ktd_get e).1; have := OwnA.ge z; omega)).trans (hi.1 a o e), (let ⟨ps, e, t⟩ := hi.2.1; ⟨ps, (hk _ (fun z => by have := OwnA.ge z; exact ar11 this)).trans e, t⟩),
    (let ⟨ps, e, t⟩ := hi.2.2.1; ⟨ps, (hk _ (fun z => by have := OwnA.ge z; exact ar12 this)).trans e, t⟩), Nat.le_trans hi.2.2.2.1 hs, fun p hp => (hk p.1 (fun z => z.2 (List.mem_map.mpr ⟨p, hp, rfl⟩))).trans (hi.2.2.2.2.1 p hp), hi.2.2.2.2.2⟩
  stat := fun h hi a o e => hi.1 a o e
  tlo := fun a ha z => by
    have h1 := OwnA.ge z
    rcases List.mem_cons.mp ha with rfl | ha
    · exact absurd h1 (by decide)
    · rcases List.mem_cons.mp ha with rfl | ha
      · exact absurd h1 (by decide)
      · cases ha
  nolim := fun h hi => ⟨fun _ => none, ⟨statO, #[], 0, hi.1 2 _ ((kok K).stat P), rfl, by intro e he; simp at he, fun _ => rfl⟩, rfl⟩
  big := fun h hi b hb => ⟨Nat.le_trans hi.2.2.2.1 hb, fun hm => by
    obtain ⟨p, hp, e⟩ := List.mem_map.mp hm
    have := Heap.lt_size (hi.2.2.2.2.1 p hp)
    have e2 : b < h.objs.size := e ▸ this
    exact ar13 e2 hb⟩
noncomputable def parF (f : String → Bool) (b1 b2 b3 : Bool) : String → Bool := fun s => if s = "special-get-raises" then b1 else if s = "comprehension-iter-twice" then b2 else if s = "for-iterable-display-folded" then b3 else f s
noncomputable def parP (P : Params) (f : String → Bool) (b1 b2 b3 : Bool) : Params := { P with followText := parF f b1 b2 b3 }
theorem par_all {Φ : Params → Prop} (h : ∀ P f b1 b2 b3, Φ (parP P f b1 b2 b3)) (P : Params) : Φ P := by
  have e : P = parP P P.followText (P.followText "special-get-raises") (P.followText "comprehension-iter-twice") (P.followText "for-iterable-display-folded") := by
    have : P.followText = parF P.followText (P.followText "special-get-raises") (P.followText "comprehension-iter-twice") (P.followText "for-iterable-display-folded") := by
      funext s
      unfold parF
      split
      · subst_vars; rfl
      · split
        · subst_vars; rfl
        · split
          · subst_vars; rfl
          · rfl
    unfold parP
    rw [← this]
  rw [e]; exact h ..
theorem par1 {Φ : Params → Prop} (ht : ∀ P f b2 b3, Φ (parP P f true b2 b3)) (hf : ∀ P f b2 b3, Φ (parP P f false b2 b3)) : ∀ P, Φ P := par_all fun P f b1 b2 b3 => by
  cases b1
  · exact hf P f b2 b3
  · exact ht P f b2 b3
theorem par2 {Φ : Params → Prop} (h1 : ∀ P f b3, Φ (parP P f true true b3)) (h2 : ∀ P f b3, Φ (parP P f true false b3)) (h3 : ∀ P f b3, Φ (parP P f false true b3)) (h4 : ∀ P f b3, Φ (parP P f false false b3)) : ∀ P, Φ P := par1 (fun P f b2 b3 => by
  cases b2
  · exact h2 P f b3
  · exact h1 P f b3) fun P f b2 b3 => by
  cases b2
  · exact h4 P f b3
  · exact h3 P f b3
noncomputable def accO (d : Addr) (xs : Array Value) (e : Nat) : Obj := ⟨.ref 178, some d, .seq xs e, #[]⟩
noncomputable def tupO (vs : Array Value) : Obj := ⟨.type "tuple", none, .seq vs 0, #[]⟩
noncomputable def hsh (P : Params) (k : Str) : Int := if k.cps.isEmpty then 0 else reduceHash (P.strHash k.cps)
noncomputable def dEnt (P : Params) (k : Str) (t : Nat) (v : Value) : DictEntry := ⟨hsh P k, .str k t, v⟩
noncomputable def dctO (es : Array DictEntry) (e : Nat) : Obj := ⟨.type "dict", none, .dict es e, #[]⟩
noncomputable def lisO (xs : Array Value) (e : Nat) : Obj := ⟨.type "list", none, .seq xs e, #[]⟩
noncomputable def makO (d : Addr) : Obj := ⟨.ref 94, some d, .plain, #[]⟩
noncomputable def makD (P : Params) (t : Nat → Nat) (W : Int) (ln ac : Addr) : Obj := dctO #[dEnt P "_maxlen" (t 0) (.int W (t 1)), dEnt P "_continuation_ws" (t 2) (.str "\t" (t 3)), dEnt P "_continuation_ws_len" (t 4) (.int 1 (t 5)), dEnt P "_splitchars" (t 6) (.str " " (t 7)), dEnt P "_lines" (t 8) (.ref ln), dEnt P "_current_line" (t 9) (.ref ac)] 6
noncomputable def accD (P : Params) (a b : Nat) : Obj := dctO #[dEnt P "_initial_size" a (.int 0 b)] 1
noncomputable def litO (l : Addr) (i : Nat) : Obj := ⟨.type "list_iterator", none, .fields #[.ref l, .int i 0], #[]⟩
noncomputable def runC (K : Params → KT) (P : Params) (dep un f : Nat) (c : Code) (pre : List Ent) (n tk : Nat) (tr : Tr) : Res := ck ⟨⟨prg, P⟩, ktd K P, dep, un, false⟩ f c [] (den c) pre n 0 tk 0 tr
noncomputable abbrev Sc := Tr × (Nat → Nat → Res)
noncomputable def rtN : Nat → Tr → Tr
  | 0, t => t
  | n + 1, t => .rt (rtN n t)
noncomputable def sS (run : List Nat) (c : Code) (ix : List Nat) (pre : List Ent) (dep un : Nat) (post : (Nat → Nat) → Post) (m : Nat) (k : (Nat → Nat) → Nat → Nat → Sc) : Sc := (Tr.run run (.sum c ix dep un post fun v n tk => (k v n tk).1), fun n _ => .sum c pre dep un post n m fun v n' tk' => (k v n' tk').2 n' tk')
noncomputable def sA (run : List Nat) (r : Nat) (got want : Value) (k : Sc) : Sc := (Tr.run run (rtN r (.as want k.1)), fun n tk => .asr got want (k.2 n tk))
noncomputable def sK (k : Sc) : Sc := (k.1, fun n tk => .stk fun _ _ => k.2 n tk)
noncomputable def sF (run : List Nat) (r : Result) (ix : List Nat) (es : List Ent) (m j : Nat) : Sc := (Tr.run run (.fin ix), fun n tk => .fin r es n m (tk + j))
noncomputable def sH (run : List Nat) (r : Result) (es : List Ent) (m j : Nat) : Sc := (Tr.run run .fa, fun n tk => .fin r es n m (tk + j))
noncomputable def sG (run : List Nat) (c : Code) (ix : List Nat) (es : List Ent) (m j : Nat) : Sc := (Tr.run run (.ag ix), fun n tk => .ag c es n m (tk + j))
noncomputable def sI (run : List Nat) (c : Code) (es : List Ent) (m j : Nat) : Sc := (Tr.run run .ga, fun n tk => .ag c es n m (tk + j))
noncomputable def RunsTo (K : Params → KT) (P : Params) (dep un f : Nat) (c : Code) (pre : List Ent) (n tk : Nat) (x : Sc) : Prop :=
  (runC K P dep un f c pre n tk x.1).ls = (runC K P dep un f c pre n tk x.1).rs ∧ (runC K P dep un f c pre n tk x.1).strip = x.2 n tk
section
variable {K : Params → KT} [ok : Nonempty (KOk K)] {P : Params} {dr : Source → Nat → Nat} {fz : List Ent}
variable (K P dr fz) in
noncomputable abbrev CON (c : Code) (pre : List Ent) (dep un : Nat) (post : (Nat → Nat) → Post) : Prop := Con (WI K P fz) prg ⟨dr, P⟩ c pre dep un post
variable (K P dr fz) in
noncomputable abbrev SVX (A : Around) (R : Result → Shared → Prop) (h : Heap) (ads : List Addr) (d : Drawn) (os : OsState) : SV := ⟨WI K P fz, prg, ⟨dr, P⟩, A, R, h, ads, d, os, false⟩
noncomputable def FineA (fz : List Ent) (h : Heap) (ads : List Addr) (sel : List Ent) (h' : Heap) : Prop := (sel.map (·.1)).Nodup ∧ (∀ p ∈ sel, OwnA fz p.1) ∧ (∀ p ∈ sel, p.1 ∈ ads ∨ h.objs.size ≤ p.1) ∧ h.objs.size ≤ h'.objs.size
variable (K P dr fz) in
noncomputable def GoodA (A : Around) (R : Result → Shared → Prop) (h : Heap) (ads : List Addr) (d : Drawn) (os : OsState) : Res → Prop
  | .bad _ => False
  | .eq a b r => a = b ∧ GoodA A R h ads d os r
  | .asr a b r => a = b ∧ GoodA A R h ads d os r
  | .stk k => ∀ p b, GoodA A R h ads d os (k p b)
  | .fin r sel n m tk => ∀ h' g', inv K P fz h' → AllBare g' → h'.objs.size = n + m → Has h' sel → Keep (WI K P fz) h h' ads → FineA fz h ads sel h' → R r ⟨h', g', d, tk, os⟩
  | .ag c sel n m tk => ∀ h' g', inv K P fz h' → AllBare g' → h'.objs.size = n + m → Has h' sel → Keep (WI K P fz) h h' ads → FineA fz h ads sel h' → codeAny (model prg ⟨dr, P⟩) A c R ⟨h', g', d, tk, os⟩
  | .sum c pre dep un post n m k => CON K P dr fz c pre dep un post ∧
      ∀ v n' tk', n + m ≤ n' → (∀ p ∈ (post v).news, n + m ≤ p.1 ∧ p.1 < n') → ((post v).news.map (·.1)).Nodup → GoodA A R h ads d os (k v n' tk')
theorem goodA {A : Around} {R : Result → Shared → Prop} {h : Heap} {ads : List Addr} {d : Drawn} {os : OsState} {any : Bool} {E : Res} : GoodA K P dr fz A R h ads d os E → Good ⟨WI K P fz, prg, ⟨dr, P⟩, A, R, h, ads, d, os, any⟩ E := by
  induction E with
  | bad n => exact fun z => z
  | eq a b r ih => exact fun z => ⟨z.1, ih z.2⟩
  | asr a b r ih => exact fun z => ⟨z.1, ih z.2⟩
  | stk k ih => exact fun z p b => ih p b (z p b)
  | fin r sel n m tk => exact fun z => z
  | ag c sel n m tk => exact fun z => z
  | sum c pre dep un post n m k ih => exact fun z => ⟨z.1, fun v n' tk' q1 q2 q3 => ih v n' tk' (z.2 v n' tk' q1 q2 q3)⟩
noncomputable def NewIn (post : (Nat → Nat) → Post) (v : Nat → Nat) (a b : Nat) : Prop := (∀ p ∈ (post v).news, a ≤ p.1 ∧ p.1 < b) ∧ ((post v).news.map (·.1)).Nodup
variable (K P dr fz) in
structure Sm (c : Code) (pre : List Ent) (dep un : Nat) (post : (Nat → Nat) → Post) (a : Nat) (G : (Nat → Nat) → Nat → Nat → Prop) : Prop where
  con : CON K P dr fz c pre dep un post
  nxt : ∀ v n' tk', a ≤ n' → NewIn post v a n' → G v n' tk'
variable (K P dr fz) in
noncomputable def GoodK (A : Around) (R : Result → Shared → Prop) (h : Heap) (ads : List Addr) (d : Drawn) (os : OsState) : Res → Prop
  | .bad _ => False
  | .eq a b r => a = b ∧ GoodK A R h ads d os r
  | .asr a b r => a = b ∧ GoodK A R h ads d os r
  | .stk k => ∀ p b, GoodK A R h ads d os (k p b)
  | .fin r sel n m tk => ∀ h' g', inv K P fz h' → AllBare g' → h'.objs.size = n + m → Has h' sel → Keep (WI K P fz) h h' ads → R r ⟨h', g', d, tk, os⟩
  | .ag c sel n m tk => ∀ h' g', inv K P fz h' → AllBare g' → h'.objs.size = n + m → Has h' sel → Keep (WI K P fz) h h' ads → codeAny (model prg ⟨dr, P⟩) A c R ⟨h', g', d, tk, os⟩
  | .sum c pre dep un post n m k => Sm K P dr fz c pre dep un post (n + m) fun v n' tk' => GoodK A R h ads d os (k v n' tk')
theorem goodK {A : Around} {R : Result → Shared → Prop} {h : Heap} {ads : List Addr} {d : Drawn} {os : OsState} {E : Res} : GoodK K P dr fz A R h ads d os E → GoodA K P dr fz A R h ads d os E := by
  induction E with
  | bad n => exact fun z => z
  | eq a b r ih => exact fun z => ⟨z.1, ih z.2⟩
  | asr a b r ih => exact fun z => ⟨z.1, ih z.2⟩
  | stk k ih => exact fun z p b => ih p b (z p b)
  | fin r sel n m tk => exact fun z h' g' a b c d e _ => z h' g' a b c d e
  | ag c sel n m tk => exact fun z h' g' a b c d e _ => z h' g' a b c d e
  | sum c pre dep un post n m k ih => exact fun z => ⟨z.1, fun v n' tk' q1 q2 q3 => ih v n' tk' (z.2 v n' tk' q1 ⟨q2, q3⟩)⟩
theorem con_by {c : Code} {pre : List Ent} {dep un : Nat} {post : (Nat → Nat) → Post} {f : Nat} {x : Nat → Nat → Sc}
    (hrun : ∀ n tk, RunsTo K P dep un f c pre n tk (x n tk))
    (hg : ∀ (A : Around) (h : Heap) (d : Drawn) (tk : Nat) (os : OsState) (R : Result → Shared → Prop), Room A dep un → inv K P fz h → (∀ p ∈ pre, p.1 < h.objs.size) → (∀ p ∈ pre, OwnA fz p.1) → (pre.map (·.1)).Nodup →
      (∀ (v : Nat → Nat) (h' : Heap) (g' : Array GenState) (tk' : Nat), inv K P fz h' → AllBare g' → h.objs.size ≤ h'.objs.size → HasZ h' pre (post v).now → NewOk h h' (post v).news → Keep (WI K P fz) h h' (pre.map (·.1)) → R (post v).res ⟨h', g', d, tk', os⟩) →
      GoodK K P dr fz A R h (pre.map (·.1)) d os ((x h.objs.size tk).2 h.objs.size tk)) : CON K P dr fz c pre dep un post :=
  con_run f (fun n tk => (x n tk).1) (fun n tk => (x n tk).2 n tk) (fun n tk => (hrun n tk).1) (fun n tk => (hrun n tk).2) fun A h d tk os R a1 a2 a3 a4 a5 a6 => goodA (goodK (hg A h d tk os R a1 a2 a3 a4 a5 a6))
theorem keep_trans {W : IV} {h h' h'' : Heap} {ads : List Addr} (k : Keep W h h' ads) (k' : Keep W h' h'' ads) : Keep W h h'' ads := fun b o e h1 h2 => k' b o (k b o e h1 h2) h1 h2
theorem has_of_hasZ : ∀ {h : Heap} {pre : List Ent}, HasZ h pre [] → Has h pre := fun z => hasZ_nil z
theorem con_again {c c' : Code} {pre : List Ent} {dep un : Nat} {post : (Nat → Nat) → Post} {f : Nat} {x : Nat → Nat → Sc} {i : Nat}
    (hrun : ∀ n tk, RunsTo K P dep un f c pre n tk (x n tk)) (he : ∀ n tk, (x n tk).2 n tk = .ag c' pre n 0 (tk + i)) (hc : CON K P dr fz c' pre dep un post) : CON K P dr fz c pre dep un post :=
  con_by hrun fun A h d tk os R room hi hlt hlo nd hR => by
    rw [he]
    intro h' g' hi' hB' hsz has hk
    refine hc A h' g' d (tk + i) os R room hi' hB' has hlo nd fun v h'' g'' tk'' hi'' hB'' hs'' hz hn hk'' => ?_
    have e : h'.objs.size = h.objs.size := hsz
    exact hR v h'' g'' tk'' hi'' hB'' (ar48 e hs'') hz ⟨fun p hp => ⟨by have := (hn.1 p hp).1; exact ar48 e this, (hn.1 p hp).2⟩, hn.2⟩ (keep_trans hk hk'')
theorem code_runA {c : Code} {pre : List Ent} {dep un : Nat} {f : Nat} {x : Sc} {A : Around} {h : Heap} {g : Array GenState} {d : Drawn} {tk : Nat} {os : OsState} {R : Result → Shared → Prop}
    (hrun : RunsTo K P dep un f c pre h.objs.size tk x) (room : Room A dep un) (hi : inv K P fz h) (hB : AllBare g) (has : Has h pre) (hlo : ∀ p ∈ pre, OwnA fz p.1) (nd : (pre.map (·.1)).Nodup)
    (hg : GoodA K P dr fz A R h (pre.map (·.1)) d os (x.2 h.objs.size tk)) : codeAny (model prg ⟨dr, P⟩) A c R ⟨h, g, d, tk, os⟩ := by
  have hg := goodA (any := false) hg
  rw [← hrun.2] at hg
  have H' := good_of_strip _ _ hrun.1 hg
  have z := ck_sound (SVX K P dr fz A R h (pre.map (·.1)) d os) ⟨⟨prg, P⟩, ktd K P, dep, un, false⟩ rfl rfl rfl room f c [] (den c) pre h.objs.size 0 tk 0 x.1 h g H'
    ⟨hi, rfl, has, nd, hlo, fun p hp => .inl (List.mem_map.mpr ⟨p, hp, rfl⟩), fun b o e _ _ => e, Nat.le_refl _⟩ hB
  rw [means_own (.inl rfl), ← den_eq] at z
  exact y_code _ _ _ _ _ _ z
theorem code_run {c : Code} {pre : List Ent} {dep un : Nat} {f : Nat} {x : Sc} {A : Around} {h : Heap} {g : Array GenState} {d : Drawn} {tk : Nat} {os : OsState} {R : Result → Shared → Prop}
    (hrun : RunsTo K P dep un f c pre h.objs.size tk x) (room : Room A dep un) (hi : inv K P fz h) (hB : AllBare g) (has : Has h pre) (hlo : ∀ p ∈ pre, OwnA fz p.1) (nd : (pre.map (·.1)).Nodup)
    (hg : GoodK K P dr fz A R h (pre.map (·.1)) d os (x.2 h.objs.size tk)) : codeAny (model prg ⟨dr, P⟩) A c R ⟨h, g, d, tk, os⟩ := code_runA hrun room hi hB has hlo nd (goodK hg)
theorem con_again2 {c c' : Code} {pre ex : List Ent} {dep un : Nat} {post : (Nat → Nat) → Post} {f : Nat} {x : Nat → Nat → Sc} {i : Nat}
    (hrun : ∀ n tk, RunsTo K P dep un f c pre n tk (x n tk)) (he : ∀ n tk, (x n tk).2 n tk = .ag c' pre n 0 (tk + i)) (hc : CON K P dr fz c' (pre ++ ex) dep un post) : CON K P dr fz c (pre ++ ex) dep un post := by
  intro A h g d tk os R room hi hB has hlo nd hR
  have nd' := nd
  rw [List.map_append, List.nodup_append] at nd'
  refine code_run (hrun h.objs.size tk) room hi hB (fun p hp => has p (List.mem_append_left _ hp)) (fun p hp => hlo p (List.mem_append_left _ hp)) nd'.1 ?_
  rw [he]
  intro h' g' hi' hB' hsz has' hk
  have e : h'.objs.size = h.objs.size := hsz
  have hex : ∀ p ∈ ex, p.1 ∉ (pre.map (·.1)) := fun p hp hm => nd'.2.2 _ hm _ (List.mem_map.mpr ⟨p, hp, rfl⟩) rfl
  refine hc A h' g' d (tk + i) os R room hi' hB' ?_ hlo nd fun v h'' g'' tk'' hi'' hB'' hs'' hz hn hk'' => ?_
  · intro p hp
    rcases List.mem_append.mp hp with hp | hp
    · exact has' p hp
    · exact hk p.1 p.2 (has p (List.mem_append_right _ hp)) (hex p hp) (fun hm => (WI K P fz).tlo _ hm (hlo p (List.mem_append_right _ hp)))
  · refine hR v h'' g'' tk'' hi'' hB'' (ar48 e hs'') hz ⟨fun p hp => ⟨by have := (hn.1 p hp).1; exact ar48 e this, (hn.1 p hp).2⟩, hn.2⟩ ?_
    intro b o eb h1 h2
    refine hk'' b o (hk b o eb (fun hm => h1 ?_) h2) h1 h2
    rw [List.map_append]
    exact List.mem_append_left _ hm
theorem hasZ_of {h : Heap} : ∀ {l : List Ent}, Has h l → HasZ h l []
  | [], _ => trivial
  | p :: l, he => ⟨he p List.mem_cons_self, hasZ_of fun q hq => he q (List.mem_cons_of_mem _ hq)⟩
theorem hasZ_app {h : Heap} : ∀ {pre ex : List Ent} {now : List Obj}, now.length ≤ pre.length → HasZ h pre now → Has h ex → HasZ h (pre ++ ex) now
  | [], ex, [], _, _, he => by
    exact hasZ_of he
  | [], ex, o :: os, hl, _, _ => by simp at hl
  | p :: pre, ex, [], hl, hz, he => ⟨hz.1, hasZ_app (by simp) hz.2 he⟩
  | p :: pre, ex, o :: os, hl, hz, he => ⟨hz.1, hasZ_app (by simpa using hl) hz.2 he⟩
theorem con_frame {c : Code} {pre : List Ent} (ex : List Ent) {dep un : Nat} {post : (Nat → Nat) → Post} (hc : CON K P dr fz c pre dep un post) (hl : ∀ v, (post v).now.length ≤ pre.length) : CON K P dr fz c (pre ++ ex) dep un post := by
  intro A h g d tk os R room hi hB has hlo nd hR
  have nd' := nd
  rw [List.map_append, List.nodup_append] at nd'
  have hex : ∀ p ∈ ex, p.1 ∉ (pre.map (·.1)) := fun p hp hm => nd'.2.2 _ hm _ (List.mem_map.mpr ⟨p, hp, rfl⟩) rfl
  refine hc A h g d tk os R room hi hB (fun p hp => has p (List.mem_append_left _ hp)) (fun p hp => hlo p (List.mem_append_left _ hp)) nd'.1 fun v h' g' tk' hi' hB' hsz hz hn hk => ?_
  refine hR v h' g' tk' hi' hB' hsz (hasZ_app (hl v) hz fun p hp => ?_) hn fun b o e h1 h2 => hk b o e (fun hm => h1 ?_) h2
  · exact hk p.1 p.2 (has p (List.mem_append_right _ hp)) (hex p hp) (fun hm => (WI K P fz).tlo _ hm (hlo p (List.mem_append_right _ hp)))
  · rw [List.map_append]
    exact List.mem_append_left _ hm
theorem con_freeze {c : Code} {pre ex : List Ent} {dep un : Nat} {post : (Nat → Nat) → Post} (hc : CON K P dr (ex ++ fz) c pre dep un post) (hl : ∀ v, (post v).now.length ≤ pre.length) : CON K P dr fz c (pre ++ ex) dep un post := by
  intro A h g d tk os R room hi hB has hlo nd hR
  have nd' := nd
  rw [List.map_append, List.nodup_append] at nd'
  have inv1 : ∀ {h : Heap}, inv K P (ex ++ fz) h → inv K P fz h ∧ Has h ex := fun z =>
    ⟨⟨z.1, z.2.1, z.2.2.1, z.2.2.2.1, fun p hp => z.2.2.2.2.1 p (List.mem_append_right _ hp), fun p hp => z.2.2.2.2.2 p (List.mem_append_right _ hp)⟩, fun p hp => z.2.2.2.2.1 p (List.mem_append_left _ hp)⟩
  refine hc A h g d tk os R room ⟨hi.1, hi.2.1, hi.2.2.1, hi.2.2.2.1, fun p hp => ?_, fun p hp => ?_⟩ hB (fun p hp => has p (List.mem_append_left _ hp)) (fun p hp => ?_) nd'.1 fun v h' g' tk' hi' hB' hsz hz hn hk => ?_
  · rcases List.mem_append.mp hp with hp | hp
    · exact has p (List.mem_append_right _ hp)
    · exact hi.2.2.2.2.1 p hp
  · rcases List.mem_append.mp hp with hp | hp
    · exact OwnA.ge (hlo p (List.mem_append_right _ hp))
    · exact hi.2.2.2.2.2 p hp
  · have q := hlo p (List.mem_append_left _ hp)
    refine ⟨q.1, fun hm => ?_⟩
    rw [List.map_append] at hm
    rcases List.mem_append.mp hm with hm | hm
    · exact nd'.2.2 _ (List.mem_map.mpr ⟨p, hp, rfl⟩) _ hm rfl
    · exact q.2 hm
  · have z := inv1 hi'
    refine hR v h' g' tk' z.1 hB' hsz (hasZ_app (hl v) hz z.2) hn fun b o e h1 h2 => hk b o e (fun hm => h1 ?_) h2
    rw [List.map_append]
    exact List.mem_append_left _ hm
theorem le_form {n : Nat} (h : 217 ≤ n) : ∃ k, n = k + 217 := ⟨n - 217, ar49 h⟩
noncomputable abbrev St0 (K : Params → KT) [ok : Nonempty (KOk K)] (P : Params) (dr : Source → Nat → Nat) (fz : List Ent) (h : Heap) (ads : List Addr) : SV := ⟨WI K P fz, prg, ⟨dr, P⟩, {}, fun _ _ => True, h, ads, {}, {}, false⟩
theorem rep_start {h : Heap} {pre : List Ent} (hi : inv K P fz h) (has : Has h pre) (hlo : ∀ p ∈ pre, OwnA fz p.1) (nd : (pre.map (·.1)).Nodup) : Rep (St0 K P dr fz h (pre.map (·.1))) h pre h.objs.size 0 :=
  ⟨hi, rfl, has, nd, hlo, fun p hp => .inl (List.mem_map.mpr ⟨p, hp, rfl⟩), fun b o e _ _ => e, Nat.le_refl _⟩
theorem con_builtin {id : String} {B : Builtin} {args : Args} {pre : List Ent} {dep un : Nat} {post : (Nat → Nat) → Post} (plain : plainId id = true) (entry : entryFor table id = some B)
    (H : ∀ (A : Around) (h : Heap) (g : Array GenState) (d : Drawn) (tk : Nat) (os : OsState) (R : Result → Shared → Prop), Room A dep un → inv K P fz h → AllBare g → Has h pre → Rep (St0 K P dr fz h (pre.map (·.1))) h pre h.objs.size 0 →
      (∀ (v : Nat → Nat) (h' : Heap) (tk' : Nat) (D : List Ent) (n m : Nat), Rep (St0 K P dr fz h (pre.map (·.1))) h' D n m → HasZ h' pre (post v).now → NewOk h h' (post v).news → R (post v).res ⟨h', g, d, tk', os⟩) →
      wpAny (model prg ⟨dr, P⟩) A.in1 (B args) (fun fin s' => match fin with | .done f => R (.ok f) s' | .again c' => c'.quiet = true ∧ codeAny (model prg ⟨dr, P⟩) A c' R s') (fun e s' => R (.error e) s') ⟨h, g, d, tk, os⟩) :
    CON K P dr fz (.builtin id args) pre dep un post := by
  intro A h g d tk os R room hi hB has hlo nd hR
  refine codeAny_builtin entry ?_
  rw [Around.under_plainId plain args]
  exact H A h g d tk os R room hi hB has (rep_start hi has hlo nd) fun v h' tk' D n m r hz hn => hR v h' g tk' r.inv hB r.grow hz hn r.keep
end
theorem has0 {h : Heap} {p : Ent} {l : List Ent} (x : Has h (p :: l)) : h.get? p.1 = some p.2 := x _ List.mem_cons_self
theorem has1 {h : Heap} {p q : Ent} {l : List Ent} (x : Has h (q :: p :: l)) : h.get? p.1 = some p.2 := x _ (List.mem_cons_of_mem _ List.mem_cons_self)
theorem has2 {h : Heap} {p q q' : Ent} {l : List Ent} (x : Has h (q :: q' :: p :: l)) : h.get? p.1 = some p.2 := x _ (List.mem_cons_of_mem _ (List.mem_cons_of_mem _ List.mem_cons_self))
theorem has3 {h : Heap} {p q q' q2 : Ent} {l : List Ent} (x : Has h (q :: q' :: q2 :: p :: l)) : h.get? p.1 = some p.2 := x _ (List.mem_cons_of_mem _ (List.mem_cons_of_mem _ (List.mem_cons_of_mem _ List.mem_cons_self)))
noncomputable def okChk (K : Params → KT) (id : String) (rest : List Value) : Prop := ∀ (P : Params) (n tk ac ad e : Nat) (xs : Array Value),
  RunsTo K P 0 0 30 (.call (.builtin id) ⟨.ref ac :: rest, []⟩) [(ac, accO ad xs e)] n tk (sG [3, 0] (.builtin id ⟨.ref ac :: rest, []⟩) [0] [(ac, accO ad xs e)] 0 0)
noncomputable def ritO (a k s : Int) : Obj := ⟨.type "range_iterator", none, .fields #[.int a 0, .int k 0, .int s 0], #[]⟩
noncomputable def excStop (a : Addr) : Obj := ⟨.type "StopIteration", none, .fields #[.ref a, .none, .none, .none, .bool false, .none], #[]⟩
section
variable {K : Params → KT} [ok : Nonempty (KOk K)] {P : Params} {dr : Source → Nat → Nat} {fz : List Ent}
variable {K' : Params → KT}
theorem con_mono {c : Code} {pre : List Ent} {dep un dep' un' : Nat} {post : (Nat → Nat) → Post} (h : CON K P dr fz c pre dep un post) (hd : dep ≤ dep') (hu : un ≤ un') : CON K P dr fz c pre dep' un' post :=
  fun A hp g d tk os R room => h A hp g d tk os R ⟨room.1, by have := room.2.1; exact ar14 this hd, by have := room.2.2; exact ar14 this hu⟩
theorem con_chk {id : String} {rest : List Value} {ac ad e : Nat} {xs : Array Value} {post : (Nat → Nat) → Post} (o : okChk K id rest)
    (h : CON K P dr fz (.builtin id ⟨.ref ac :: rest, []⟩) [(ac, accO ad xs e)] 0 0 post) : CON K P dr fz (.call (.builtin id) ⟨.ref ac :: rest, []⟩) [(ac, accO ad xs e)] 0 0 post :=
  con_again (i := 0) (fun n tk => o P n tk ac ad e xs) (fun _ _ => rfl) h
theorem con_chk2 {id : String} {rest : List Value} {ac ad e : Nat} {xs : Array Value} {ex : List Ent} {post : (Nat → Nat) → Post} (o : okChk K id rest)
    (h : CON K P dr fz (.builtin id ⟨.ref ac :: rest, []⟩) ((ac, accO ad xs e) :: ex) 0 0 post) : CON K P dr fz (.call (.builtin id) ⟨.ref ac :: rest, []⟩) ((ac, accO ad xs e) :: ex) 0 0 post :=
  con_again2 (pre := [(ac, accO ad xs e)]) (i := 0) (fun n tk => o P n tk ac ad e xs) (fun _ _ => rfl) h
noncomputable def okBi (K : Params → KT) (id : String) (rest : List Value) (o : Obj) : Prop := ∀ (P : Params) (l n tk : Nat),
    RunsTo K P 0 0 30 (.call (.builtin id) ⟨.ref l :: rest, []⟩) [(l, o)] n tk (sG [3] (.builtin id ⟨.ref l :: rest, []⟩) [0] [(l, o)] 0 0)
theorem con_bi {id : String} {rest : List Value} {l : Nat} {o : Obj} {ex : List Ent} {post : (Nat → Nat) → Post} (z : okBi K id rest o)
    (h : CON K P dr fz (.builtin id ⟨.ref l :: rest, []⟩) ((l, o) :: ex) 0 0 post) : CON K P dr fz (.call (.builtin id) ⟨.ref l :: rest, []⟩) ((l, o) :: ex) 0 0 post :=
  con_again2 (pre := [(l, o)]) (i := 0) (fun n tk => z P l n tk) (fun _ _ => rfl) h
theorem bi_next {l i : Nat} : okBi K "list_iterator.__next__" [] (litO l i) := fun P l n tk => And.intro (by kernel_rfl) (by kernel_rfl)
theorem bi_rnext {a k s : Int} : okBi K "range_iterator.__next__" [] (ritO a k s) := fun P l n tk => And.intro (by kernel_rfl) (by kernel_rfl)
theorem bi_append {x : Value} {xs : Array Value} {e : Nat} : okBi K "list.append" [x] (lisO xs e) := fun P l n tk => And.intro (by kernel_rfl) (by kernel_rfl)
theorem bi_getitem {x : Value} {xs : Array Value} {e : Nat} : okBi K "list.__getitem__" [x] (lisO xs e) := fun P l n tk => And.intro (by kernel_rfl) (by kernel_rfl)
theorem bi_iter {xs : Array Value} {e : Nat} : okBi K "list.__iter__" [] (lisO xs e) := fun P l n tk => And.intro (by kernel_rfl) (by kernel_rfl)
theorem bi_len {xs : Array Value} {e : Nat} : okBi K "list.__len__" [] (lisO xs e) := fun P l n tk => And.intro (by kernel_rfl) (by kernel_rfl)
theorem bi_contains {x : Value} {xs : Array Value} {e : Nat} : okBi K "list.__contains__" [x] (lisO xs e) := fun P l n tk => And.intro (by kernel_rfl) (by kernel_rfl)
theorem bi_add {x : Value} {xs : Array Value} {e : Nat} : okBi K "list.__add__" [x] (lisO xs e) := fun P l n tk => And.intro (by kernel_rfl) (by kernel_rfl)
theorem bi_eq {x : Value} {xs : Array Value} {e : Nat} : okBi K "list.__eq__" [x] (lisO xs e) := fun P l n tk => And.intro (by kernel_rfl) (by kernel_rfl)
theorem bi_ne {x : Value} {xs : Array Value} {e : Nat} : okBi K "list.__ne__" [x] (lisO xs e) := fun P l n tk => And.intro (by kernel_rfl) (by kernel_rfl)
theorem entry_list_append : entryFor table "list.append" = some Builtin.«list.append» := entryFor_of_fast (by kernel_rfl)
theorem entry_list_len : entryFor table "list.__len__" = some Builtin.«list.__len__» := entryFor_of_fast (by kernel_rfl)
theorem entry_list_pop : entryFor table "list.pop" = some Builtin.«list.pop» := entryFor_of_fast (by kernel_rfl)
theorem entry_list_getitem : entryFor table "list.__getitem__" = some Builtin.«list.__getitem__» := entryFor_of_fast (by kernel_rfl)
theorem entry_list_setitem : entryFor table "list.__setitem__" = some Builtin.«list.__setitem__» := entryFor_of_fast (by kernel_rfl)
theorem entry_list_iter : entryFor table "list.__iter__" = some Builtin.«list.__iter__» := entryFor_of_fast (by kernel_rfl)
theorem entry_listiter_next : entryFor table "list_iterator.__next__" = some Builtin.«list_iterator.__next__» := entryFor_of_fast (by kernel_rfl)
theorem entry_rangeiter_next : entryFor table "range_iterator.__next__" = some Builtin.«range_iterator.__next__» := entryFor_of_fast (by kernel_rfl)
theorem wp_raiseNew {α : Type} {M : Model} {A : Around} {E : Value → Shared → Prop} {s : Shared} {e : Value} {Q : α → Shared → Prop} (hh : A.handled = none) (h : E e s) : wpAny M A (raiseNew e : Sem α) Q E s := by
  unfold raiseNew
  refine wpAny_bind (wpAny_handled ?_)
  rw [hh]
  cases e <;> exact wpAny_throw h
section
variable {l : Addr} {c : Value} {d : Option Addr} {sl : Array (Option Value)} {xs : Array Value} {e : Nat}
theorem con_append {x : Value} (hsz : xs.size ≤ sizeLine) :
    CON K P dr fz (.builtin "list.append" ⟨[.ref l, x], []⟩) [(l, ⟨c, d, .seq xs e, sl⟩)] 0 0 (fun _ => ⟨.ok (.ret .none), [⟨c, d, .seq (xs.push x) (e + 1), sl⟩], []⟩) :=
  con_builtin (by decide +kernel) entry_list_append fun A h g dr' tk os R room hi hB has r hR => by
    have hl : h.get? l = some ⟨c, d, .seq xs e, sl⟩ := has _ List.mem_cons_self
    have hz' : (xs.push x).size ≤ sizeLine + 1 := by rw [Array.size_push]; exact ar15 hsz
    wp_walk using (wpAny_updateSeq hl rfl (hz := hsz) (_hz' := hz'))
    have r1 := r.update (f := Obj.mapSeq fun y => y.push x) (j := 0) rfl rfl
    refine hR (fun _ => 0) _ tk _ _ _ r1 ?_ ⟨by simp, by simp⟩
    have z := r1.has _ List.mem_cons_self
    refine ⟨z.trans ?_, trivial⟩
    simp [Obj.mapSeq]
theorem con_len : CON K P dr fz (.builtin "list.__len__" ⟨[.ref l], []⟩) [(l, ⟨c, d, .seq xs e, sl⟩)] 0 0 (fun v => ⟨.ok (.ret (.int xs.size (v 0))), [], []⟩) :=
  con_builtin (by decide +kernel) entry_list_len fun A h g dr' tk os R room hi hB has r hR => by
    have hl : h.get? l = some ⟨c, d, .seq xs e, sl⟩ := has _ List.mem_cons_self
    wp_walk
    exact hR (fun _ => tk) h _ _ _ _ r ⟨hl, trivial⟩ ⟨by simp, by simp⟩
theorem con_pop {ys : Array Value} {v : Value} (hsz : ys.size + 1 ≤ sizeLine) (hx : xs = ys.push v) :
    CON K P dr fz (.builtin "list.pop" ⟨[.ref l], []⟩) [(l, ⟨c, d, .seq xs e, sl⟩)] 0 0 (fun _ => ⟨.ok (.ret v), [⟨c, d, .seq ys (e + 1), sl⟩], []⟩) :=
  con_builtin (by decide +kernel) entry_list_pop fun A h g dr' tk os R room hi hB has r hR => by
    have hl : h.get? l = some ⟨c, d, .seq xs e, sl⟩ := has _ List.mem_cons_self
    have hne : xs.isEmpty = false := by subst hx; simp
    have hs : xs.size = ys.size + 1 := by subst hx; simp
    wp_walk
    have e1 : ((seqIndex? (-1) xs.size).bind fun k => Option.map (fun x => (k, x)) xs[k]?) = some (ys.size, v) := by
      have : seqIndex? (-1) xs.size = some ys.size := by
        unfold seqIndex?
        rw [hs]
        simp
        exact ar16
      rw [this]
      subst hx
      simp
    rw [e1]
    have e2 : xs.eraseIdxIfInBounds ys.size = ys := by
      subst hx
      apply Array.ext'
      simp [Array.eraseIdxIfInBounds, List.eraseIdx_append_of_length_le]
    wp_walk using (wpAny_updateSeq hl rfl (hz := ar17 hsz hs) (_hz' := by rw [e2]; exact ar18 hsz))
    have r1 := r.update (f := Obj.mapSeq fun y => y.eraseIdxIfInBounds ys.size) (j := 0) rfl rfl
    refine hR (fun _ => 0) _ tk _ _ _ r1 ?_ ⟨by simp, by simp⟩
    have z := r1.has _ List.mem_cons_self
    refine ⟨z.trans ?_, trivial⟩
    simp [Obj.mapSeq, e2, hs]
theorem con_next_item {it : Addr} {i : Nat} {v : Value} (hv : xs[i]? = some v) :
    CON K P dr fz (.builtin "list_iterator.__next__" ⟨[.ref it], []⟩) [(it, litO l i), (l, ⟨c, d, .seq xs e, sl⟩)] 0 0 (fun _ => ⟨.ok (.ret v), [litO l (i + 1)], []⟩) :=
  con_builtin (by decide +kernel) entry_listiter_next fun A h g dr' tk os R room hi hB has r hR => by
    have hl : h.get? l = some ⟨c, d, .seq xs e, sl⟩ := has1 has
    have hit : h.get? it = some (litO l i) := has0 has
    unfold litO at hit
    wp_walk
    rw [show xs[((i : Nat) : Int).toNat]? = some v from by simpa using hv]
    wp_walk
    have r1 := r.update (f := Obj.mapFields fun y => y.setIfInBounds 1 (rawInt (i + 1))) (j := 0) rfl rfl
    refine hR (fun _ => 0) _ tk _ _ _ r1 ?_ ⟨by simp, by simp⟩
    refine ⟨has0 r1.has, has1 r1.has, trivial⟩
theorem con_next_end {it : Addr} {i : Nat} (hv : xs[i]? = none) :
    CON K P dr fz (.builtin "list_iterator.__next__" ⟨[.ref it], []⟩) [(it, litO l i), (l, ⟨c, d, .seq xs e, sl⟩)] 0 0 (fun v => ⟨.error (.ref (v 0)), [⟨.type "list_iterator", none, .fields #[.none, .int i 0], #[]⟩], [(v 0, excStop (v 1))]⟩) :=
  con_builtin (by decide +kernel) entry_listiter_next fun A h g dr' tk os R room hi hB has r hR => by
    have hl : h.get? l = some ⟨c, d, .seq xs e, sl⟩ := has1 has
    have hit : h.get? it = some (litO l i) := has0 has
    have hh : A.in1.handled = none := room.1
    unfold litO at hit
    wp_walk
    rw [show xs[((i : Nat) : Int).toNat]? = none from by simpa using hv]
    wp_walk
    refine wp_raiseNew hh ?_
    have r1 := r.update (f := Obj.mapFields fun y => y.setIfInBounds 0 Value.none) (j := 0) rfl rfl
    have r2 := r1.alloc (o := { cls := .type "tuple", data := .seq #[] }) rfl
    have r3 := r2.alloc (o := excStop (h.objs.size + 0)) rfl
    have e2 := r2.size
    have e1 := r1.size
    have key : ((h.update it (Obj.mapFields fun x => x.setIfInBounds 0 Value.none)).push { cls := Value.type "tuple", data := Data.seq #[] }).push
          { cls := Value.type "StopIteration",
            data :=
              Data.fields
                (#[Value.ref (h.update it (Obj.mapFields fun x => x.setIfInBounds 0 Value.none)).objs.size, Value.none,
                    Value.none, Value.none, Value.bool false,
                    if
                        ((Manifest.find? "StopIteration").elim false fun t =>
                            t.mro.contains "StopIteration" || t.mro.contains "SystemExit") =
                          true then
                      [].headD Value.none
                    else Value.none] ++
                  ownMembersOf (Value.type "StopIteration") []) } = ((h.update it (Obj.mapFields fun x => x.setIfInBounds 0 Value.none)).push { cls := Value.type "tuple", data := Data.seq #[] }).push (excStop (h.objs.size + 0)) := by
      rw [e1]
      kernel_rfl
    rw [key, e2]
    refine hR (fun n => if n = 0 then h.objs.size + 1 else h.objs.size + 0) _ tk _ _ _ r3 ?_ ⟨?_, by simp⟩
    · exact ⟨has0 r3.has, has1 r3.has, trivial⟩
    · intro p hp
      rw [List.mem_singleton.mp hp]
      exact ⟨by simp, has3 r3.has⟩
theorem con_rnext_item {it : Addr} {a k s : Int} (hk : 0 < k) :
    CON K P dr fz (.builtin "range_iterator.__next__" ⟨[.ref it], []⟩) [(it, ritO a k s)] 0 0 (fun v => ⟨.ok (.ret (.int a (v 0))), [ritO (a + s) (k - 1) s], []⟩) :=
  con_builtin (by decide +kernel) entry_rangeiter_next fun A h g dr' tk os R room hi hB has r hR => by
    have hit : h.get? it = some (ritO a k s) := has0 has
    unfold ritO at hit
    have hk' : ¬ k ≤ 0 := ar19 hk
    wp_walk
    have r1 := r.update (f := Obj.mapFields fun x => x.setIfInBounds 0 (rawInt (a + s))) (j := 0) rfl rfl
    have r2 := r1.update (f := Obj.mapFields fun x => x.setIfInBounds 1 (rawInt (k - 1))) (j := 0) rfl rfl
    exact hR (fun _ => tk) _ (tk + 1) _ _ _ r2 ⟨has0 r2.has, trivial⟩ ⟨by simp, by simp⟩
theorem con_rnext_end {it : Addr} {a k s : Int} (hk : k ≤ 0) :
    CON K P dr fz (.builtin "range_iterator.__next__" ⟨[.ref it], []⟩) [(it, ritO a k s)] 0 0 (fun v => ⟨.error (.ref (v 0)), [], [(v 0, excStop (v 1))]⟩) :=
  con_builtin (by decide +kernel) entry_rangeiter_next fun A h g dr' tk os R room hi hB has r hR => by
    have hit : h.get? it = some (ritO a k s) := has0 has
    have hh : A.in1.handled = none := room.1
    unfold ritO at hit
    wp_walk
    refine wp_raiseNew hh ?_
    have r2 := r.alloc (o := { cls := .type "tuple", data := .seq #[] }) rfl
    have r3 := r2.alloc (o := excStop (h.objs.size + 0)) rfl
    have e2 := r2.size
    have key : (h.push { cls := Value.type "tuple", data := Data.seq #[] }).push
          { cls := Value.type "StopIteration",
            data :=
              Data.fields
                (#[Value.ref h.objs.size, Value.none,
                    Value.none, Value.none, Value.bool false,
                    if
                        ((Manifest.find? "StopIteration").elim false fun t =>
                            t.mro.contains "StopIteration" || t.mro.contains "SystemExit") =
                          true then
                      [].headD Value.none
                    else Value.none] ++
                  ownMembersOf (Value.type "StopIteration") []) } = (h.push { cls := Value.type "tuple", data := Data.seq #[] }).push (excStop (h.objs.size + 0)) := by
      kernel_rfl
    rw [key, e2]
    refine hR (fun n => if n = 0 then h.objs.size + 1 else h.objs.size + 0) _ tk _ _ _ r3 ⟨has0 r3.has, trivial⟩ ⟨?_, by simp⟩
    intro p hp
    rw [List.mem_singleton.mp hp]
    exact ⟨by simp, has2 r3.has⟩
theorem con_iter :
    CON K P dr fz (.builtin "list.__iter__" ⟨[.ref l], []⟩) [(l, ⟨c, d, .seq xs e, sl⟩)] 0 0 (fun v => ⟨.ok (.ret (.ref (v 0))), [], [(v 0, litO l 0)]⟩) :=
  con_builtin (by decide +kernel) entry_list_iter fun A h g dr' tk os R room hi hB has r hR => by
    have hl : h.get? l = some ⟨c, d, .seq xs e, sl⟩ := has0 has
    wp_walk
    have r1 := r.alloc (o := litO l 0) rfl
    refine hR (fun _ => h.objs.size + 0) _ tk _ _ _ r1 ⟨has0 r1.has, trivial⟩ ⟨?_, by simp⟩
    intro p hp
    rw [List.mem_singleton.mp hp]
    exact ⟨by simp, has1 r1.has⟩
theorem con_getitem {i : Int} {t : Tok} {v : Value} (h0 : 0 ≤ i) (hi : i < 2 ^ 63) (hv : xs[i.toNat]? = some v) :
    CON K P dr fz (.builtin "list.__getitem__" ⟨[.ref l, .int i t], []⟩) [(l, ⟨c, d, .seq xs e, sl⟩)] 0 0 (fun _ => ⟨.ok (.ret v), [], []⟩) :=
  con_builtin (by decide +kernel) entry_list_getitem fun A h g dr' tk os R room hinv hB has r hR => by
    have hl : h.get? l = some ⟨c, d, .seq xs e, sl⟩ := has0 has
    show wpAny _ _ (Builtin.List.listSubscript? (.int i t) >>= _) _ _ _
    refine wpAny_bind (wpAny_listSubscript_int (fitsIndex_of h0 hi) ?_)
    clear hi
    cases i with
    | negSucc n => exact absurd h0 (by omega)
    | ofNat n =>
    have hv' : xs[n]? = some v := hv
    clear h0 hv
    wp_walk
    rw [hv']
    wp_walk
    exact hR (fun _ => 0) h _ _ _ _ r ⟨hl, trivial⟩ ⟨by simp, by simp⟩
theorem con_getlast {k : Int} {t : Tok} {v : Value} {ys : Array Value} (hk : k = -1) (hx : xs = ys.push v) :
    CON K P dr fz (.builtin "list.__getitem__" ⟨[.ref l, .int k t], []⟩) [(l, ⟨c, d, .seq xs e, sl⟩)] 0 0 (fun _ => ⟨.ok (.ret v), [], []⟩) :=
  con_builtin (by decide +kernel) entry_list_getitem fun A h g dr' tk os R room hinv hB has r hR => by
    have hl : h.get? l = some ⟨c, d, .seq xs e, sl⟩ := has0 has
    subst hk
    wp_walk using (wpAny_listSubscript_int (fitsIndex_neg (by decide) (by decide)))
    have e1 : ((seqIndex? (-1) xs.size).bind fun j => Option.map (fun x => (j, x)) xs[j]?) = some (ys.size, v) := by
      have hs : xs.size = ys.size + 1 := by subst hx; simp
      have : seqIndex? (-1) xs.size = some ys.size := by
        unfold seqIndex?
        rw [hs]
        simp
        exact ar16
      rw [this]
      subst hx
      simp
    rw [e1]
    wp_walk
    exact hR (fun _ => 0) h _ _ _ _ r ⟨hl, trivial⟩ ⟨by simp, by simp⟩
noncomputable def slcO (a b s : Value) : Obj := ⟨.type "slice", none, .fields #[a, b, s], #[]⟩
theorem con_slice {vl vu vs : Value} {lo hi st : Option Int} {s : Addr} {zs : Array Value} (pl : IsPart vl lo) (pu : IsPart vu hi) (ps : IsPart vs st) (h0 : st ≠ some 0) (hsz : xs.size ≤ sizeLine) (hz : slicePick xs lo hi st = zs) :
    CON K P dr fz (.builtin "list.__getitem__" ⟨[.ref l, .ref s], []⟩) [(l, ⟨c, d, .seq xs e, sl⟩), (s, slcO vl vu vs)] 0 0 (fun v => ⟨.ok (.ret (.ref (v 0))), [], [(v 0, lisO zs 0)]⟩) := by
  subst hz
  exact con_builtin (by decide +kernel) entry_list_getitem fun A h g dr' tk os R room hinv hB has r hR => by
    have hl : h.get? l = some ⟨c, d, .seq xs e, sl⟩ := has0 has
    have hs : h.get? s = some (slcO vl vu vs) := has1 has
    have hTs : (⟨h, g, dr', tk, os⟩ : Shared).TypeIs (.ref s) "slice" := ⟨_, hs, rfl⟩
    have hstep : ¬ ((rawPart st == rawInt 0) = true) := by
      cases st with
      | none => exact Bool.false_ne_true
      | some c =>
        intro hh
        have : c = 0 := by simpa [rawPart, rawInt] using hh
        exact h0 (by rw [this])
    show wpAny _ _ (Builtin.List.listSubscript? (.ref s) >>= _) _ _ _
    refine wpAny_bind ?_
    unfold Builtin.List.listSubscript?
    refine wpAny_bind (wpAny_specialOf hTs slice_no_index ?_)
    simp only [Option.isNone_none, if_true]
    refine wpAny_pure ?_
    show wpAny _ _ (typeOf (.ref s) >>= _) _ _ _
    refine wpAny_bind (wpAny_typeOf hTs ?_)
    rw [if_neg (by decide), listSliceParts_eq]
    refine wpAny_bind (wpAny_bind (wpAny_field hs rfl (x := vs) rfl (wpAny_bind (wpAny_listPart ps ?_))))
    rw [if_neg hstep]
    refine wpAny_bind (wpAny_field hs rfl (x := vl) rfl (wpAny_bind (wpAny_listPart pl ?_)))
    refine wpAny_bind (wpAny_field hs rfl (x := vu) rfl (wpAny_bind (wpAny_listPart pu (wpAny_pure ?_))))
    refine wpAny_bind (m := Builtin.List.listItems (.ref l)) ?_
    unfold Builtin.List.listItems
    refine wpAny_bind (wpAny_seqItems hl rfl (wpAny_pure ?_))
    refine wpAny_bind (wpAny_of_eq (sliceIndices_raw lo hi st xs.size h0) ?_)
    refine wpAny_bind (wpAny_newObj_type (wpAny_pure ?_) (Nat.le_trans (slicePick_size_le xs lo hi st) hsz))
    have r1 := r.alloc (o := lisO (slicePick xs lo hi st) 0) rfl
    refine hR (fun _ => h.objs.size + 0) _ tk _ _ _ r1 ⟨has0 r1.has, has1 r1.has, trivial⟩ ⟨?_, by simp⟩
    intro p hp
    rw [List.mem_singleton.mp hp]
    exact ⟨by simp, has2 r1.has⟩
theorem con_setslice {vl : Value} {lo : Option Int} {n : Nat} {s w : Addr} {ys zs : Array Value} {ew : Nat} (pl : IsPart vl lo) (hn : sliceBounds lo none none xs.size = ((n : Int), (xs.size : Int), 1)) (hnx : n ≤ xs.size) (hsz : xs.size + ys.size ≤ sizeLine)
    (hz : xs.extract 0 n ++ ys = zs) : CON K P dr fz (.builtin "list.__setitem__" ⟨[.ref l, .ref s, .ref w], []⟩) [(l, ⟨c, d, .seq xs e, sl⟩), (s, slcO vl .none .none), (w, lisO ys ew)] 0 0
      (fun v => ⟨.ok (.ret .none), [⟨c, d, .seq zs (v 0), sl⟩], []⟩) := by
  subst hz
  exact con_builtin (by decide +kernel) entry_list_setitem fun A h g dr' tk os R room hinv hB has r hR => by
    have hlw : l ≠ w := fun z => by
      have q := r.nd
      subst z
      simp at q
    have hl : h.get? l = some ⟨c, d, .seq xs e, sl⟩ := has0 has
    have hs : h.get? s = some (slcO vl .none .none) := has1 has
    have hw : h.get? w = some (lisO ys ew) := has2 has
    have hTs : (⟨h, g, dr', tk, os⟩ : Shared).TypeIs (.ref s) "slice" := ⟨_, hs, rfl⟩
    show wpAny _ _ (Builtin.List.listSubscript? (.ref s) >>= _) _ _ _
    refine wpAny_bind ?_
    unfold Builtin.List.listSubscript?
    refine wpAny_bind (wpAny_specialOf hTs slice_no_index ?_)
    simp only [Option.isNone_none, if_true]
    refine wpAny_pure ?_
    show wpAny _ _ (typeOf (.ref s) >>= _) _ _ _
    refine wpAny_bind (wpAny_typeOf hTs ?_)
    rw [if_neg (by decide), listSliceParts_eq]
    refine wpAny_bind (wpAny_bind (wpAny_field hs rfl (x := .none) rfl (wpAny_bind (wpAny_listPart .none ?_))))
    rw [if_neg (by decide)]
    refine wpAny_bind (wpAny_field hs rfl (x := vl) rfl (wpAny_bind (wpAny_listPart pl ?_)))
    refine wpAny_bind (wpAny_field hs rfl (x := .none) rfl (wpAny_bind (wpAny_listPart .none (wpAny_pure ?_))))
    have hne : Builtin.List.listSameRef (Value.ref l) (Value.ref w) = false := by
      show decide (l = w) = false
      simp [hlw]
    rw [if_neg (by rw [hne]; exact Bool.false_ne_true)]
    have hTw : (⟨h, g, dr', tk, os⟩ : Shared).TypeIs (.ref w) "list" := ⟨_, hw, rfl⟩
    refine wpAny_bind (m := Builtin.List.listAllItems _ _) ?_
    unfold Builtin.List.listAllItems
    refine wpAny_bind (wpAny_typeOf hTw ?_)
    rw [if_pos (by decide)]
    unfold Builtin.List.listItems
    refine wpAny_bind (wpAny_seqItems hw rfl (wpAny_pure ?_))
    refine wpAny_bind (wpAny_bind (wpAny_seqItems hl rfl (wpAny_pure ?_)))
    refine wpAny_bind (wpAny_of_eq (sliceIndices_raw lo none none xs.size (by simp)) ?_)
    rw [hn]
    have hlong : Builtin.List.listTooLong (xs.size + ys.size) = false := by
      unfold Builtin.List.listTooLong
      simp
      exact hsz
    have e0 : ∀ zs : Array Value, zs.size = xs.size → (zs.extract 0 n ++ ys ++ zs.extract xs.size) = zs.extract 0 n ++ ys := fun zs hz => by
      apply Array.ext'
      simp [hz]
    have e1 : (max (n : Int) (xs.size : Int)).toNat = xs.size := ar21 hnx
    dsimp only
    rw [if_pos (show (((1 : Int) == 1) = true) from by decide)]
    refine wpAny_bind (wpAny_rule ?_)
    rw [if_neg (by rw [hlong]; exact Bool.false_ne_true), e1]
    refine wpAny_bind (m := Builtin.List.listUpdate _ _) ?_
    unfold Builtin.List.listUpdate
    refine wpAny_updateSeq hl rfl ?_ (ar22 hsz) ?_
    · refine wpAny_bind (wpAny_letGo (wpAny_pure ?_))
      have r1 := r.update (f := Obj.mapSeq fun xs_1 => xs_1.extract 0 (n : Int).toNat ++ ys ++ xs_1.extract xs.size) (j := 0) rfl rfl
      refine hR (fun _ => if (xs.extract 0 n ++ ys).size = xs.size then e else e + 1) _ tk _ _ _ r1 ⟨(has0 r1.has).trans ?_, has1 r1.has, has2 r1.has, trivial⟩ ⟨by simp, by simp⟩
      simp only [Obj.mapSeq, Int.toNat_natCast, e0 xs rfl, beq_iff_eq]
    · rw [Int.toNat_natCast, e0 xs rfl]
      simp
      exact ar23 hsz
end
end
noncomputable def rngO (a : Int) (ta : Nat) (b : Int) (tb : Nat) (c : Int) (tc : Nat) : Obj := ⟨.type "range", none, .fields #[.int a ta, .int b tb, .int c tc], #[]⟩
section
variable {K : Params → KT} [ok : Nonempty (KOk K)] {P : Params} {dr : Source → Nat → Nat} {fz : List Ent}
theorem entry_range_iter : entryFor table "range.__iter__" = some Builtin.«range.__iter__» := entryFor_of_fast (by kernel_rfl)
theorem fits_of {x : Int} (h1 : -1099511627776 ≤ x) (h2 : x ≤ 1099511627776) : Builtin.Range.rangeFitsLong x = true := by
  unfold Builtin.Range.rangeFitsLong
  simp
  exact ar24 h1 h2
theorem con_riter {r : Addr} {a b c n : Int} {ta tb tc : Nat} (hn : Builtin.Range.rangeSize a b c = n) (ha : -1000 ≤ a ∧ a ≤ 1099511627770) (hb : -1000 ≤ b ∧ b ≤ 1099511627770) (hc : c = 1 ∨ c = -1) (hN : 0 ≤ n ∧ n ≤ 1099511627770) :
    CON K P dr fz (.builtin "range.__iter__" ⟨[.ref r], []⟩) [(r, rngO a ta b tb c tc)] 0 0 (fun v => ⟨.ok (.ret (.ref (v 0))), [], [(v 0, ritO a n c)]⟩) :=
  con_builtin (by decide +kernel) entry_range_iter fun A h g dr' tk os R room hi hB has r' hR => by
    have hr : h.get? r = some (rngO a ta b tb c tc) := has0 has
    unfold rngO at hr
    have hs : (Builtin.Range.rangeFitsLong a && Builtin.Range.rangeFitsLong b && Builtin.Range.rangeFitsLong c && Builtin.Range.rangeFitsLong n && (n == 0 || (if c > 0 then Builtin.Range.rangeFitsLong (b + (c - 1)) else Builtin.Range.rangeFitsLong (b + (c + 1))))) = true := by
      rw [fits_of (x := a) (ar25 ha) (ar26 ha), fits_of (x := b) (ar25 hb) (ar26 hb), fits_of (x := c) (ar27 hc) (ar28 hc), fits_of (x := n) (ar29 hN) (ar30 hN)]
      have : (if c > 0 then Builtin.Range.rangeFitsLong (b + (c - 1)) else Builtin.Range.rangeFitsLong (b + (c + 1))) = true := by
        split <;> exact fits_of (by omega) (by omega)
      rw [this]
      simp
    subst hn
    wp_walk
    simp only [hs]
    wp_walk
    have r1 := r'.alloc (o := ritO a (Builtin.Range.rangeSize a b c) c) rfl
    exact hR (fun _ => h.objs.size + 0) _ tk _ _ _ r1 ⟨has0 r1.has, trivial⟩ ⟨fun p hp => by rw [List.mem_singleton.mp hp]; exact ⟨by simp, has1 r1.has⟩, by simp⟩
theorem bi_riter {a b c : Int} {ta tb tc : Nat} : okBi K "range.__iter__" [] (rngO a ta b tb c tc) := fun P l n tk => And.intro (by kernel_rfl) (by kernel_rfl)
end
noncomputable def fdOf (K : Params → KT) (P : Params) (a : Addr) : FuncData := match (ktd K P).get a with
  | some ⟨_, _, .func f, _⟩ => f
  | _ => default
noncomputable def bodyOf (K : Params → KT) (P : Params) (a : Addr) : List Stmt := match (fdOf K P a).body with
  | .stmts b => b
  | .expr _ => []
noncomputable abbrev envOf (K : Params → KT) (P : Params) (a N : Addr) : Env := callEnv (fdOf K P a) N a
noncomputable def frmO (es : Array DictEntry) (e : Nat) : Obj := ⟨.type "frame", none, .dict es e, #[]⟩
noncomputable def fEval := Fast.tw14044960220447912780
theorem fEval_eq : eval = fEval := Fast.te14044960220447912780
noncomputable def fExecs := Fast.tw12563942051412417395
theorem fExecs_eq : execs = fExecs := Fast.te12563942051412417395
noncomputable def fMethodCall := Fast.tw13401596951702201221
theorem fMethodCall_eq : methodCall = fMethodCall := Fast.te13401596951702201221
noncomputable def fLoadName := Fast.tw8468629109055619292
theorem fLoadName_eq : loadName = fLoadName := Fast.te8468629109055619292
noncomputable def fCall := @Fast.tw11478286150595567475
theorem fCall_eq : @call = @fCall := Fast.te11478286150595567475
noncomputable def fIsType := Fast.tw10380811246957099773
theorem fIsType_eq : isType = fIsType := Fast.te10380811246957099773
noncomputable def fPyIter := Fast.tw8711993805878244202
theorem fPyIter_eq : pyIter = fPyIter := Fast.te8711993805878244202
noncomputable def runA (K : Params → KT) (P : Params) (dep un f : Nat) (t : Sem PySem.Fin) (pre : List Ent) (n tk : Nat) (tr : Tr) : Res := ck ⟨⟨prg, P⟩, ktd K P, dep, un, true⟩ f default [] t pre n 0 tk 0 tr
noncomputable def RunsA (K : Params → KT) (P : Params) (dep un f : Nat) (t : Sem PySem.Fin) (pre : List Ent) (n tk : Nat) (x : Sc) : Prop :=
  (runA K P dep un f t pre n tk x.1).ls = (runA K P dep un f t pre n tk x.1).rs ∧ (runA K P dep un f t pre n tk x.1).strip = x.2 n tk
noncomputable def flFin (f : Flow) : Sem PySem.Fin := .pure (.done f)
noncomputable abbrev wantsF (Q : Flow → Shared → Prop) (E : Value → Shared → Prop) : Result → Shared → Prop := fun r s' => match r with | .ok f => Q f s' | .error e => E e s'
section
variable {K : Params → KT} [ok : Nonempty (KOk K)] {P : Params} {dr : Source → Nat → Nat} {fz : List Ent}
variable (K P dr fz) in
noncomputable abbrev SVA (A : Around) (R : Result → Shared → Prop) (h : Heap) (ads : List Addr) (d : Drawn) (os : OsState) : SV := ⟨WI K P fz, prg, ⟨dr, P⟩, A, R, h, ads, d, os, true⟩
theorem wpAny_of_flow {M : Model} {A : Around} {t : Sem Flow} {Q : Flow → Shared → Prop} {E : Value → Shared → Prop} {s : Shared}
    (h : wpAny M A (t >>= flFin) (postD (wantsF Q E)) (postE (wantsF Q E)) s) : wpAny M A t Q E s := by
  intro Γ p hΓ
  have z : Sem.wp M Γ (Sem.bind t flFin) _ _ p s := h Γ p hΓ
  rw [Sem.wp_bind] at z
  exact z
theorem run_any {t : Sem PySem.Fin} {pre : List Ent} {dep un f : Nat} {x : Sc} {A : Around} {h : Heap} {g : Array GenState} {d : Drawn} {tk : Nat} {os : OsState} {R : Result → Shared → Prop}
    (hrun : RunsA K P dep un f t pre h.objs.size tk x) (room : Room A dep un) (hi : inv K P fz h) (hB : AllBare g) (has : Has h pre) (hlo : ∀ p ∈ pre, OwnA fz p.1) (nd : (pre.map (·.1)).Nodup)
    (hg : GoodA K P dr fz A R h (pre.map (·.1)) d os (x.2 h.objs.size tk)) : wpAny (model prg ⟨dr, P⟩) A t (postD R) (postE R) ⟨h, g, d, tk, os⟩ := by
  have hg := goodA (any := true) hg
  rw [← hrun.2] at hg
  have H' := good_of_strip _ _ hrun.1 hg
  exact ck_sound (SVA K P dr fz A R h (pre.map (·.1)) d os) ⟨⟨prg, P⟩, ktd K P, dep, un, true⟩ rfl rfl rfl room f default [] t pre h.objs.size 0 tk 0 x.1 h g H'
    ⟨hi, rfl, has, nd, hlo, fun p hp => .inl (List.mem_map.mpr ⟨p, hp, rfl⟩), fun b o e _ _ => e, Nat.le_refl _⟩ hB
theorem run_val {t : Sem Value} {pre : List Ent} {dep un f : Nat} {x : Sc} {A : Around} {h : Heap} {g : Array GenState} {d : Drawn} {tk : Nat} {os : OsState} {Q E' : Value → Shared → Prop}
    (hrun : RunsA K P dep un f (t >>= asFin) pre h.objs.size tk x) (room : Room A dep un) (hi : inv K P fz h) (hB : AllBare g) (has : Has h pre) (hlo : ∀ p ∈ pre, OwnA fz p.1) (nd : (pre.map (·.1)).Nodup)
    (hg : GoodK K P dr fz A (wants Q E') h (pre.map (·.1)) d os (x.2 h.objs.size tk)) : wpAny (model prg ⟨dr, P⟩) A t Q E' ⟨h, g, d, tk, os⟩ :=
  wpAny_of_fin (run_any hrun room hi hB has hlo nd (goodK hg))
theorem run_flow {t : Sem Flow} {pre : List Ent} {dep un f : Nat} {x : Sc} {A : Around} {h : Heap} {g : Array GenState} {d : Drawn} {tk : Nat} {os : OsState} {Q : Flow → Shared → Prop} {E' : Value → Shared → Prop}
    (hrun : RunsA K P dep un f (t >>= flFin) pre h.objs.size tk x) (room : Room A dep un) (hi : inv K P fz h) (hB : AllBare g) (has : Has h pre) (hlo : ∀ p ∈ pre, OwnA fz p.1) (nd : (pre.map (·.1)).Nodup)
    (hg : GoodK K P dr fz A (wantsF Q E') h (pre.map (·.1)) d os (x.2 h.objs.size tk)) : wpAny (model prg ⟨dr, P⟩) A t Q E' ⟨h, g, d, tk, os⟩ :=
  wpAny_of_flow (run_any hrun room hi hB has hlo nd (goodK hg))
theorem room_deeper {A : Around} {env : Env} {dep un : Nat} (r : Room A (dep + 1) (un + 3)) : Room (A.deeper env) dep un :=
  ⟨r.1, by have := r.2.1; show A.depth + 1 + dep < _; exact ar328 this, by have := r.2.2; show A.units + 3 + un < _; exact ar329 this⟩
end
structure PS where
  p0 : Pos
  p1 : Pos
  p2 : Pos
  p3 : Pos
noncomputable def supO (q : PS) : PySem.Expr := .Call (.Name "super" q.p0) [] [] q.p1
noncomputable def supE (nm : Str) (q : PS) : PySem.Expr := .Call (.Attribute (supO q) nm q.p2) [] [] q.p3
noncomputable def supPos : PySem.Expr → PS
  | .Call (.Attribute (.Call (.Name _ p0) _ _ p1) _ p2) _ _ p3 => ⟨p0, p1, p2, p3⟩
  | _ => ⟨default, default, default, default⟩
noncomputable def supRest (nm : Str) (q : PS) (env : Env) (ov : Value) : Sem Value := do
  standAt q.p2.atName
  fMethodCall (supO q) nm q.p2 q.p3 env ov 0 (backTo q.p3 (starEach [] env)) (backToKw q.p3 (keywordEach [] env))
noncomputable def supAt (s : Option Stmt) : PS := match s with
  | some (.Return (some e) _) => supPos e
  | some (.Expr e _) => supPos e
  | _ => ⟨default, default, default, default⟩
noncomputable def supQ (K : Params → KT) (P : Params) (a : Addr) (i : Nat) : PS := supAt ((bodyOf K P a)[i]?)
noncomputable def objD (K : Params → KT) (P : Params) (a : Addr) : Obj := match (ktd K P).get a with
  | some o => o
  | none => default
noncomputable def fldD : Data → Array Value
  | .fields vs => vs
  | _ => #[]
noncomputable def refD : Value → Addr
  | .ref a => a
  | _ => 0
noncomputable def strD : Option Value → Str × Tok
  | some (.str s t) => (s, t)
  | _ => (Str.empty, 0)
noncomputable def supObj (a : Addr) : Obj := ⟨.type "super", none, .fields #[.ref 178, .ref a, .ref 178], #[]⟩
noncomputable def stmtOf (K : Params → KT) (P : Params) (a : Addr) (i : Nat) : Stmt := match (bodyOf K P a)[i]? with
  | some s => s
  | none => .Pass default
noncomputable def ccOf (K : Params → KT) (P : Params) (a : Addr) : Addr := refD (fdOf K P a).code
noncomputable def stPos (K : Params → KT) (P : Params) (a : Addr) (i : Nat) : Pos := match (bodyOf K P a)[i]? with
  | some (.Return _ p) => p
  | some (.Expr _ p) => p
  | _ => default
structure SupOk (K : Params → KT) (a : Addr) : Prop where
  hks : ∀ P N, (envOf K P a N).kindOf "super" = some .globalImplicit
  hkc : ∀ P N, (envOf K P a N).kindOf "__class__" = some .free
  hfu : ∀ P N, (envOf K P a N).func = some a
  obj : ∀ P, (ktd K P).get a = some (objD K P a)
  hfd : ∀ P, (objD K P a).data = .func (fdOf K P a)
  hp : ∀ P, (((fdOf K P a).params.posonlyargs ++ (fdOf K P a).params.args).head?).map (·.arg) = some "self"
  code : ∀ P, (fdOf K P a).code = .ref (ccOf K P a)
  cobj : ∀ P, (ktd K P).get (ccOf K P a) = some (objD K P (ccOf K P a))
  cdat : ∀ P, (objD K P (ccOf K P a)).data = .fields (fldD (objD K P (ccOf K P a)).data)
  file : ∀ P, (fldD (objD K P (ccOf K P a)).data)[2]? = some (.str (strD (fldD (objD K P (ccOf K P a)).data)[2]?).1 (strD (fldD (objD K P (ccOf K P a)).data)[2]?).2)
  here : ∀ P, ((prg.main.file : Str) == (strD (fldD (objD K P (ccOf K P a)).data)[2]?).1) = true
  top : (prg.main.scope.names.lookup ("super" : Str)).isSome = false
section
variable {K : Params → KT} [ok : Nonempty (KOk K)] {P : Params} {dr : Source → Nat → Nat} {fz : List Ent}
theorem wpAny_boolOf {M : Model} {A : Around} {t : Sem Bool} {Q : Bool → Shared → Prop} {E : Value → Shared → Prop} {s : Shared}
    (h : wpAny M A (t >>= fun b => pure (Value.bool b)) (fun v s' => ∀ b, v = .bool b → Q b s') E s) : wpAny M A t Q E s := by
  intro Γ p hΓ
  have z : Sem.wp M Γ (Sem.bind t fun b => pure (Value.bool b)) _ _ p s := h Γ p hΓ
  rw [Sem.wp_bind] at z
  exact Sem.wp_mono M Γ t (fun b p' s' h' => (show ∀ b', Value.bool b = .bool b' → Q b' s' from h') b rfl) (fun _ _ _ h' => h') p s z
theorem at_super {a : Addr} (o : SupOk K a) {N : Nat} {A : Around} {body : List Stmt} {nm : Str} {q : PS} {Q : Value → Shared → Prop} {E : Value → Shared → Prop} {s : Shared} (hi : inv K P fz s.heap) (hat : (nm == ("__class__" : Str)) = false)
    (h : wpAny (model prg ⟨dr, P⟩) A (loadName (envOf K P a N) "super") (fun g s₁ => g = .type "super" ∧ wpAny (model prg ⟨dr, P⟩) A (loadName (envOf K P a N) "__class__") (fun cls s₂ => wpAny (model prg ⟨dr, P⟩) A (loadName (envOf K P a N) "self") (fun self s₃ =>
      wpAny (model prg ⟨dr, P⟩) A (isType cls) (fun b s₄ => b = true ∧ wpAny (model prg ⟨dr, P⟩) A (call (.type "super") [cls, self]) (fun ov s₅ => wpAny (model prg ⟨dr, P⟩) A (supRest nm q (envOf K P a N) ov) Q E s₅) E s₄) E s₃) E s₂) E s₁) E s) :
    PySem.wpAt (model prg ⟨dr, P⟩) A (.func body (envOf K P a N)) (eval (supE nm q) (envOf K P a N)) Q E s := by
  have he : eval (supE nm q) (envOf K P a N) = attributeBase (supO q) nm (envOf K P a N) (eval (supO q) (envOf K P a N)) >>= supRest nm q (envOf K P a N) := by
    unfold supRest
    rw [← fMethodCall_eq]
    rfl
  rw [he]
  obtain ⟨ar, hp, har⟩ := Option.map_eq_some_iff.mp (o.hp P)
  refine PySem.wpAt_bind (ks_wpAt_super_base (o.hks P N) (o.hkc P N) hat (o.hfu P N) (hi.1 _ _ (o.obj P)) (o.hfd P) hp (o.code P) (hi.1 _ _ (o.cobj P)) (o.cdat P) (o.file P) (o.here P) o.top ?_)
  rw [har]
  exact wpAny_mono h (fun g s₁ h₁ => ⟨h₁.1, wpAny_mono h₁.2 (fun cls s₂ h₂ => wpAny_mono h₂ (fun self s₃ h₃ => wpAny_mono h₃ (fun b s₄ h₄ => ⟨h₄.1, wpAny_mono h₄.2 (fun ov s₅ h₅ => PySem.wpAt_of_wpAny h₅) fun _ _ e => e⟩) fun _ _ e => e) fun _ _ e => e) fun _ _ e => e⟩) fun _ _ e => e
end
noncomputable def sc_push (K : Params → KT) (P : Params) (ac ad e a b t1 t2 : Nat) (f w : Str) (xs : Array Value) (N tk : Nat) : Sc :=
  sS [0, 0, 5, 5, 5, 5, 5, 5, 1, 5, 3, 0, 0, 0, 3, 0, 0, 0, 3, 0, 0, 0, 3, 4, 5, 5] (.call (.builtin "list.append") ⟨[.ref ac, .ref (N + 1)], []⟩) [0] [(ac, accO ad xs e)] 0 0 (fun v1 => ⟨.ok (.ret .none), [accO ad (xs.push (.ref (N + 1))) (e + 1)], []⟩) 2 fun v1 n1 tk1 =>
  sF [] (.ok (.ret .none)) [0, 1, 3] [(ac, accO ad (xs.push (.ref (N + 1))) (e + 1)), (ad, accD P a b), (N + 1, tupO #[.str f t1, .str w t2])] 0 0
noncomputable def ok_push (K : Params → KT) : Prop := ∀ P ac ad e a b t1 t2 f w xs N tk,
  RunsTo K P 5 20 4000 (.call (.ref 122) ⟨[.ref ac, .str f t1, .str w t2], []⟩) [(ac, accO ad xs e), (ad, accD P a b)] N tk (sc_push K P ac ad e a b t1 t2 f w xs N tk)
noncomputable def sc_pop_from (K : Params → KT) (P : Params) (ac ad e ti : Nat) (v : Value) (ys : Array Value) (N tk : Nat) : Sc :=
  sS [0, 0, 0, 4, 4, 4, 4, 1, 4, 4, 3, 0, 0, 0, 3, 0, 3, 0, 0, 0] (.call (.builtin "list.__getitem__") ⟨[.ref ac, .ref (N + 1)], []⟩) [0, 2] [(ac, accO ad (ys.push v) e), (N + 1, slcO (.int (ys.size : Int) ti) .none .none)] 0 0 (fun v1 => ⟨.ok (.ret (.ref (v1 0))), [], [(v1 0, lisO #[v] 0)]⟩) 2 fun v1 n1 tk1 =>
  sS [4, 4, 4, 4, 3, 0, 3, 0, 0, 0] (.call (.builtin "list.__setitem__") ⟨[.ref ac, .ref (n1 + 1), .ref (n1 + 0)], []⟩) [0, 5, 4] [(ac, accO ad (ys.push v) e), (n1 + 1, slcO (.int (ys.size : Int) ti) .none .none), (n1 + 0, lisO #[] 0)] 0 0 (fun v2 => ⟨.ok (.ret .none), [accO ad ys (v2 0)], []⟩) 2 fun v2 n2 tk2 =>
  sF [4] (.ok (.ret (.ref (v1 0)))) [0, 3] [(ac, accO ad ys (v2 0)), (v1 0, lisO #[v] 0)] 0 0
noncomputable def ok_pop_from (K : Params → KT) : Prop := ∀ P ac ad e ti v ys N tk,
  RunsTo K P 5 20 4000 (.call (.ref 130) ⟨[.ref ac, .int (ys.size : Int) ti], []⟩) [(ac, accO ad (ys.push v) e)] N tk (sc_pop_from K P ac ad e ti v ys N tk)
noncomputable def sc_reset0 (K : Params → KT) (P : Params) (ac ad e a b : Nat) (xs : Array Value) (N tk : Nat) : Sc :=
  sS [0, 0, 0, 5, 5, 5, 5, 1, 5, 5, 5, 5, 5, 3, 0, 3, 0, 0, 0] (.call (.builtin "list.__setitem__") ⟨[.ref ac, .ref (N + 2), .ref (N + 1)], []⟩) [0, 4, 3] [(ac, accO ad xs e), (N + 2, slcO .none .none .none), (N + 1, lisO #[] 0)] 0 0 (fun v1 => ⟨.ok (.ret .none), [accO ad #[] (v1 0)], []⟩) 3 fun v1 n1 tk1 =>
  sF [5, 3, 0, 0, 0, 3, 0, 3, 0, 3, 0, 0, 0, 3, 0, 4, 4, 4] (.ok (.ret .none)) [0, 1] [(ac, accO ad #[] (v1 0)), (ad, accD P a (tk1 + 0))] 0 3
noncomputable def ok_reset0 (K : Params → KT) : Prop := ∀ P ac ad e a b xs N tk,
  RunsTo K P 5 20 4000 (.call (.ref 160) ⟨[.ref ac], []⟩) [(ac, accO ad xs e), (ad, accD P a b)] N tk (sc_reset0 K P ac ad e a b xs N tk)
noncomputable def sc_reset1 (K : Params → KT) (P : Params) (ac ad e a b r er : Nat) (xs zs : Array Value) (N tk : Nat) : Sc :=
  sS [0, 0, 0, 6, 6, 6, 6, 1, 6, 6, 6, 3, 0, 3, 0, 0, 0] (.call (.builtin "list.__setitem__") ⟨[.ref ac, .ref (N + 1), .ref r], []⟩) [0, 4, 2] [(ac, accO ad xs e), (N + 1, slcO .none .none .none), (r, lisO zs er)] 0 0 (fun v1 => ⟨.ok (.ret .none), [accO ad zs (v1 0)], []⟩) 2 fun v1 n1 tk1 =>
  sF [6, 3, 0, 0, 0, 3, 0, 3, 0, 3, 0, 0, 0, 3, 0, 4, 4, 4] (.ok (.ret .none)) [0, 1, 2] [(ac, accO ad zs (v1 0)), (ad, accD P a (tk1 + 0)), (r, lisO zs er)] 0 3
noncomputable def ok_reset1 (K : Params → KT) : Prop := ∀ P ac ad e a b r er xs zs N tk,
  RunsTo K P 5 20 4000 (.call (.ref 160) ⟨[.ref ac, .ref r], []⟩) [(ac, accO ad xs e), (ad, accD P a b), (r, lisO zs er)] N tk (sc_reset1 K P ac ad e a b r er xs zs N tk)
theorem newOk0 {h h' : Heap} : NewOk h h' [] := ⟨fun p hp => (nomatch hp), by simp⟩
theorem newOk1 {h h' : Heap} {a : Addr} {o : Obj} (ha : h.objs.size ≤ a) (ho : h'.get? a = some o) : NewOk h h' [(a, o)] := ⟨fun p hp => by rw [List.mem_singleton.mp hp]; exact ⟨ha, ho⟩, by simp⟩
theorem newOk2 {h h' : Heap} {a b : Addr} {o o' : Obj} (ha : h.objs.size ≤ a) (ho : h'.get? a = some o) (hb : h.objs.size ≤ b) (ho' : h'.get? b = some o') (hne : a ≠ b) : NewOk h h' [(a, o), (b, o')] :=
  ⟨fun p hp => by
    rcases List.mem_cons.mp hp with e | hp
    · rw [e]; exact ⟨ha, ho⟩
    · rw [List.mem_singleton.mp hp]; exact ⟨hb, ho'⟩, by simp [hne]⟩
section
variable {K : Params → KT} [ok : Nonempty (KOk K)] {P : Params} {dr : Source → Nat → Nat} {fz : List Ent}
theorem con_push (o : ok_push K) (oa : ∀ x, okChk K "list.append" [x]) {ac ad e a b t1 t2 : Nat} {f w : Str} {xs : Array Value} (hsz : xs.size ≤ sizeLine) :
    CON K P dr fz (.call (.ref 122) ⟨[.ref ac, .str f t1, .str w t2], []⟩) [(ac, accO ad xs e), (ad, accD P a b)] 5 20
      (fun v => ⟨.ok (.ret .none), [accO ad (xs.push (.ref (v 0))) (v 1)], [(v 0, tupO #[.str f t1, .str w t2])]⟩) :=
  con_by (fun N tk => o P ac ad e a b t1 t2 f w xs N tk) fun A h d tk os R room hi hlt hlo nd hR => by
    refine ⟨con_chk (oa _) (con_append hsz), fun v n' tk' h1 h2 h' g' hi' hB' hs' has' hk' => ?_⟩
    exact hR (fun i => if i = 0 then h.objs.size + 1 else e + 1) h' g' _ hi' hB' (ar152 h1 hs') ⟨has0 has', has1 has', trivial⟩ (newOk1 (by simp) (has2 has')) hk'
theorem pick_last (ys : Array Value) (v : Value) : slicePick (ys.push v) (some (ys.size : Int)) none none = #[v] := by
  rw [slicePick_from' (ys.push v) ys.size]
  simp
theorem bounds_last (ys : Array Value) (v : Value) : sliceBounds (some (ys.size : Int)) none none (ys.push v).size = ((ys.size : Int), ((ys.push v).size : Int), 1) := by
  simp only [sliceBounds, Option.getD_none, Array.size_push]
  have h1 : ¬ ((ys.size : Int) < 0) := ar153
  simp only [h1, if_false, show (1 : Int) > 0 by decide, if_true]
  congr 1
  exact ar154
theorem con_pop_from (o : ok_pop_from K) (og : ∀ x, okChk K "list.__getitem__" [x]) (os : ∀ x y, okChk K "list.__setitem__" [x, y]) {ac ad e ti : Nat} {v : Value} {ys : Array Value} (hsz : ys.size + 1 ≤ sizeLine) :
    CON K P dr fz (.call (.ref 130) ⟨[.ref ac, .int (ys.size : Int) ti], []⟩) [(ac, accO ad (ys.push v) e)] 5 20
      (fun w => ⟨.ok (.ret (.ref (w 0))), [accO ad ys (w 1)], [(w 0, lisO #[v] 0)]⟩) :=
  con_by (fun N tk => o P ac ad e ti v ys N tk) fun A h d tk os' R room hi hlt hlo nd hR => by
    refine ⟨con_chk2 (og _) (con_slice (.int _ _) .none .none (by simp) (by simpa using hsz) (pick_last ys v)), fun v1 n1 tk1 h1 h2 => ?_⟩
    refine ⟨con_chk2 (os _ _) (con_setslice (.int _ _) (bounds_last ys v) (by simp) (by simpa using hsz) (by simp)), fun v2 n2 tk2 h4 h5 h' g' hi' hB' hs' has' hk' => ?_⟩
    have q := (h2.1 _ List.mem_cons_self).1
    exact hR (fun i => if i = 0 then v1 0 else v2 0) h' g' _ hi' hB' (ar155 h1 h4 hs') ⟨has0 has', trivial⟩ (newOk1 (by simp only [if_true]; omega) (has1 has')) hk'
theorem bounds_all (n : Nat) : sliceBounds none none none n = (((0 : Nat) : Int), (n : Int), 1) := rfl
theorem con_reset0 (o : ok_reset0 K) (os : ∀ x y, okChk K "list.__setitem__" [x, y]) {ac ad e a b : Nat} {xs : Array Value} (hsz : xs.size ≤ sizeLine) :
    CON K P dr fz (.call (.ref 160) ⟨[.ref ac], []⟩) [(ac, accO ad xs e), (ad, accD P a b)] 5 20 (fun w => ⟨.ok (.ret .none), [accO ad #[] (w 0), accD P a (w 1)], []⟩) :=
  con_by (fun N tk => o P ac ad e a b xs N tk) fun A h d tk os' R room hi hlt hlo nd hR => by
    refine ⟨con_chk2 (os _ _) (con_setslice .none (bounds_all _) (by simp) (by simpa using hsz) (by simp)), fun v1 n1 tk1 h1 h2 h' g' hi' hB' hs' has' hk' => ?_⟩
    exact hR (fun i => if i = 0 then v1 0 else tk1 + 0) h' g' _ hi' hB' (ar157 h1 hs') ⟨has0 has', has1 has', trivial⟩ newOk0 hk'
theorem con_reset1 (o : ok_reset1 K) (os : ∀ x y, okChk K "list.__setitem__" [x, y]) {ac ad e a b r er : Nat} {xs zs : Array Value} (hsz : xs.size + zs.size ≤ sizeLine) :
    CON K P dr fz (.call (.ref 160) ⟨[.ref ac, .ref r], []⟩) [(ac, accO ad xs e), (ad, accD P a b), (r, lisO zs er)] 5 20 (fun w => ⟨.ok (.ret .none), [accO ad zs (w 0), accD P a (w 1)], []⟩) :=
  con_by (fun N tk => o P ac ad e a b r er xs zs N tk) fun A h d tk os' R room hi hlt hlo nd hR => by
    refine ⟨con_chk2 (os _ _) (con_setslice .none (bounds_all _) (by simp) hsz (by simp)), fun v1 n1 tk1 h1 h2 h' g' hi' hB' hs' has' hk' => ?_⟩
    exact hR (fun i => if i = 0 then v1 0 else tk1 + 0) h' g' _ hi' hB' (ar152 h1 hs') ⟨has0 has', has1 has', has2 has', trivial⟩ newOk0 hk'
end
noncomputable def sc_acc_make (K : Params → KT) (P : Params) (t1 : Nat) (N tk : Nat) : Sc :=
  sK <| sS [0, 0, 0, 0, 0, 0, 0, 0, 0, 0, 0, 0, 0, 2, 0, 0, 0, 4, 0, 4, 0, 0, 0, 0] (.call (.ref 115) ⟨[.ref (N + 1), .int 0 t1], []⟩) [1, 0] [(N + 1, accO N #[] 0), (N, dctO #[] 0)] 25 70 (fun v1 => ⟨.ok (.ret .none), [accO N #[] 0, accD P (v1 0) t1], []⟩) 2 fun v1 n1 tk1 =>
  sF [] (.ok (.ret (.ref (N + 1)))) [1, 0] [(N + 1, accO N #[] 0), (N, accD P (v1 0) t1)] 0 0
noncomputable def ok_acc_make (K : Params → KT) : Prop := ∀ P t1 N tk,
  RunsTo K P 60 200 4000 (.call (.ref 178) ⟨[.int 0 t1], []⟩) [] N tk (sc_acc_make K P t1 N tk)
noncomputable def sc_pc0 (K : Params → KT) (P : Params) (ac ad e : Nat) (xs : Array Value) (N tk : Nat) : Sc :=
  sG [0, 0, 4, 4, 1] (.func (bodyOf K P 175) (envOf K P 175 N)) [0, 1] [((ac + 217), accO ad xs e), (N, frmO #[dEnt P "self" (tk + 0) (.ref (ac + 217))] 1)] 1 1
noncomputable def ok_pc0 (K : Params → KT) : Prop := ∀ P ac ad e xs N tk,
  RunsTo K P 5 20 4000 (.call (.ref 175) ⟨[.ref (ac + 217)], []⟩) [((ac + 217), accO ad xs e)] N tk (sc_pc0 K P ac ad e xs N tk)
noncomputable def sc_pop0 (K : Params → KT) (P : Params) (ac ad e : Nat) (xs : Array Value) (N tk : Nat) : Sc :=
  sG [0, 0, 4, 4, 1] (.func (bodyOf K P 138) (envOf K P 138 N)) [0, 1] [((ac + 217), accO ad xs e), (N, frmO #[dEnt P "self" (tk + 0) (.ref (ac + 217))] 1)] 1 1
noncomputable def ok_pop0 (K : Params → KT) : Prop := ∀ P ac ad e xs N tk,
  RunsTo K P 20 60 4000 (.call (.ref 138) ⟨[.ref (ac + 217)], []⟩) [((ac + 217), accO ad xs e)] N tk (sc_pop0 K P ac ad e xs N tk)
noncomputable def sc_init0 (K : Params → KT) (P : Params) (ac ad e t1 : Nat) (N tk : Nat) : Sc :=
  sG [0, 0, 0, 4, 4, 4, 4, 1] (.func (bodyOf K P 115) (envOf K P 115 N)) [0, 1] [((ac + 217), accO ad #[] e), (N, frmO #[dEnt P "self" (tk + 0) (.ref (ac + 217)), dEnt P "initial_size" (tk + 1) (.int 0 t1)] 2)] 1 2
noncomputable def ok_init0 (K : Params → KT) : Prop := ∀ P ac ad e t1 N tk,
  RunsTo K P 20 60 4000 (.call (.ref 115) ⟨[.ref (ac + 217), .int 0 t1], []⟩) [((ac + 217), accO ad #[] e)] N tk (sc_init0 K P ac ad e t1 N tk)
noncomputable def sc_sn175 (K : Params → KT) (P : Params) (ac ad e L s0 s1 t1 : Nat) (xs : Array Value) (N tk : Nat) : Sc :=
  sF [0, 0] (.ok (.ret (.type "super"))) [0, 1] [((ac + 217), accO ad xs e), (L, frmO #[dEnt P "self" s0 (.ref (ac + 217))] 1)] 0 0
noncomputable def ok_sn175 (K : Params → KT) : Prop := ∀ P ac ad e L s0 s1 t1 xs N tk,
  RunsA K P 5 20 4000 (fLoadName (envOf K P 175 L) "super" >>= asFin) [((ac + 217), accO ad xs e), (L, frmO #[dEnt P "self" s0 (.ref (ac + 217))] 1)] N tk (sc_sn175 K P ac ad e L s0 s1 t1 xs N tk)
noncomputable def sc_sc175 (K : Params → KT) (P : Params) (ac ad e L s0 s1 t1 : Nat) (xs : Array Value) (N tk : Nat) : Sc :=
  sF [0] (.ok (.ret (.ref 178))) [0, 1] [((ac + 217), accO ad xs e), (L, frmO #[dEnt P "self" s0 (.ref (ac + 217))] 1)] 0 0
noncomputable def ok_sc175 (K : Params → KT) : Prop := ∀ P ac ad e L s0 s1 t1 xs N tk,
  RunsA K P 5 20 4000 (fLoadName (envOf K P 175 L) "__class__" >>= asFin) [((ac + 217), accO ad xs e), (L, frmO #[dEnt P "self" s0 (.ref (ac + 217))] 1)] N tk (sc_sc175 K P ac ad e L s0 s1 t1 xs N tk)
noncomputable def sc_ss175 (K : Params → KT) (P : Params) (ac ad e L s0 s1 t1 : Nat) (xs : Array Value) (N tk : Nat) : Sc :=
  sF [4] (.ok (.ret (.ref (ac + 217)))) [0, 1] [((ac + 217), accO ad xs e), (L, frmO #[dEnt P "self" s0 (.ref (ac + 217))] 1)] 0 0
noncomputable def ok_ss175 (K : Params → KT) : Prop := ∀ P ac ad e L s0 s1 t1 xs N tk,
  RunsA K P 5 20 4000 (fLoadName (envOf K P 175 L) "self" >>= asFin) [((ac + 217), accO ad xs e), (L, frmO #[dEnt P "self" s0 (.ref (ac + 217))] 1)] N tk (sc_ss175 K P ac ad e L s0 s1 t1 xs N tk)
noncomputable def sc_sn138 (K : Params → KT) (P : Params) (ac ad e L s0 s1 t1 : Nat) (xs : Array Value) (N tk : Nat) : Sc :=
  sF [0, 0] (.ok (.ret (.type "super"))) [0, 1] [((ac + 217), accO ad xs e), (L, frmO #[dEnt P "self" s0 (.ref (ac + 217))] 1)] 0 0
noncomputable def ok_sn138 (K : Params → KT) : Prop := ∀ P ac ad e L s0 s1 t1 xs N tk,
  RunsA K P 5 20 4000 (fLoadName (envOf K P 138 L) "super" >>= asFin) [((ac + 217), accO ad xs e), (L, frmO #[dEnt P "self" s0 (.ref (ac + 217))] 1)] N tk (sc_sn138 K P ac ad e L s0 s1 t1 xs N tk)
noncomputable def sc_sc138 (K : Params → KT) (P : Params) (ac ad e L s0 s1 t1 : Nat) (xs : Array Value) (N tk : Nat) : Sc :=
  sF [0] (.ok (.ret (.ref 178))) [0, 1] [((ac + 217), accO ad xs e), (L, frmO #[dEnt P "self" s0 (.ref (ac + 217))] 1)] 0 0
noncomputable def ok_sc138 (K : Params → KT) : Prop := ∀ P ac ad e L s0 s1 t1 xs N tk,
  RunsA K P 5 20 4000 (fLoadName (envOf K P 138 L) "__class__" >>= asFin) [((ac + 217), accO ad xs e), (L, frmO #[dEnt P "self" s0 (.ref (ac + 217))] 1)] N tk (sc_sc138 K P ac ad e L s0 s1 t1 xs N tk)
noncomputable def sc_ss138 (K : Params → KT) (P : Params) (ac ad e L s0 s1 t1 : Nat) (xs : Array Value) (N tk : Nat) : Sc :=
  sF [4] (.ok (.ret (.ref (ac + 217)))) [0, 1] [((ac + 217), accO ad xs e), (L, frmO #[dEnt P "self" s0 (.ref (ac + 217))] 1)] 0 0
noncomputable def ok_ss138 (K : Params → KT) : Prop := ∀ P ac ad e L s0 s1 t1 xs N tk,
  RunsA K P 5 20 4000 (fLoadName (envOf K P 138 L) "self" >>= asFin) [((ac + 217), accO ad xs e), (L, frmO #[dEnt P "self" s0 (.ref (ac + 217))] 1)] N tk (sc_ss138 K P ac ad e L s0 s1 t1 xs N tk)
noncomputable def sc_sn115 (K : Params → KT) (P : Params) (ac ad e L s0 s1 t1 : Nat) (xs : Array Value) (N tk : Nat) : Sc :=
  sF [0, 0] (.ok (.ret (.type "super"))) [0, 1] [((ac + 217), accO ad xs e), (L, frmO #[dEnt P "self" s0 (.ref (ac + 217)), dEnt P "initial_size" s1 (.int 0 t1)] 2)] 0 0
noncomputable def ok_sn115 (K : Params → KT) : Prop := ∀ P ac ad e L s0 s1 t1 xs N tk,
  RunsA K P 5 20 4000 (fLoadName (envOf K P 115 L) "super" >>= asFin) [((ac + 217), accO ad xs e), (L, frmO #[dEnt P "self" s0 (.ref (ac + 217)), dEnt P "initial_size" s1 (.int 0 t1)] 2)] N tk (sc_sn115 K P ac ad e L s0 s1 t1 xs N tk)
noncomputable def sc_sc115 (K : Params → KT) (P : Params) (ac ad e L s0 s1 t1 : Nat) (xs : Array Value) (N tk : Nat) : Sc :=
  sF [0] (.ok (.ret (.ref 178))) [0, 1] [((ac + 217), accO ad xs e), (L, frmO #[dEnt P "self" s0 (.ref (ac + 217)), dEnt P "initial_size" s1 (.int 0 t1)] 2)] 0 0
noncomputable def ok_sc115 (K : Params → KT) : Prop := ∀ P ac ad e L s0 s1 t1 xs N tk,
  RunsA K P 5 20 4000 (fLoadName (envOf K P 115 L) "__class__" >>= asFin) [((ac + 217), accO ad xs e), (L, frmO #[dEnt P "self" s0 (.ref (ac + 217)), dEnt P "initial_size" s1 (.int 0 t1)] 2)] N tk (sc_sc115 K P ac ad e L s0 s1 t1 xs N tk)
noncomputable def sc_ss115 (K : Params → KT) (P : Params) (ac ad e L s0 s1 t1 : Nat) (xs : Array Value) (N tk : Nat) : Sc :=
  sF [4] (.ok (.ret (.ref (ac + 217)))) [0, 1] [((ac + 217), accO ad xs e), (L, frmO #[dEnt P "self" s0 (.ref (ac + 217)), dEnt P "initial_size" s1 (.int 0 t1)] 2)] 0 0
noncomputable def ok_ss115 (K : Params → KT) : Prop := ∀ P ac ad e L s0 s1 t1 xs N tk,
  RunsA K P 5 20 4000 (fLoadName (envOf K P 115 L) "self" >>= asFin) [((ac + 217), accO ad xs e), (L, frmO #[dEnt P "self" s0 (.ref (ac + 217)), dEnt P "initial_size" s1 (.int 0 t1)] 2)] N tk (sc_ss115 K P ac ad e L s0 s1 t1 xs N tk)
noncomputable def sc_sity (K : Params → KT) (P : Params) (pre : List Ent) (N tk : Nat) : Sc :=
  sF [0] (.ok (.ret (.bool true))) [] [] 0 0
noncomputable def ok_sity (K : Params → KT) : Prop := ∀ P pre N tk,
  RunsA K P 5 20 4000 ((fIsType (.ref 178) >>= fun b => pure (Value.bool b)) >>= asFin) [] N tk (sc_sity K P pre N tk)
noncomputable def sc_scall (K : Params → KT) (P : Params) (ac ad e L n : Nat) (xs : Array Value) (es : Array DictEntry) (N tk : Nat) : Sc :=
  sF [0, 5, 5, 5, 0, 3, 3, 0, 5, 5, 5, 5, 5, 5] (.ok (.ret (.ref (N + 0)))) [0, 1, 2] [((ac + 217), accO ad xs e), (L, frmO es n), (N + 0, supObj (ac + 217))] 1 0
noncomputable def ok_scall (K : Params → KT) : Prop := ∀ P ac ad e L n xs es N tk,
  RunsA K P 5 20 4000 (fCall (.type "super") [.ref 178, .ref (ac + 217)] [] >>= asFin) [((ac + 217), accO ad xs e), (L, frmO es n)] N tk (sc_scall K P ac ad e L n xs es N tk)
noncomputable def sc_srest175 (K : Params → KT) (P : Params) (ac ad e L s0 so : Nat) (xs : Array Value) (N tk : Nat) : Sc :=
  sF [4, 4, 4, 4, 4, 4, 0, 0, 3, 0, 5, 5, 3] (.ok (.ret (.int (xs.size : Int) (tk + 1)))) [0] [((ac + 217), accO ad xs e)] 1 2
noncomputable def ok_srest175 (K : Params → KT) : Prop := ∀ P ac ad e L s0 so xs N tk,
  RunsA K P 5 20 4000 (supRest "__len__" (supQ K P 175 0) (envOf K P 175 L) (.ref so) >>= asFin) [((ac + 217), accO ad xs e), (so, supObj (ac + 217))] N tk (sc_srest175 K P ac ad e L s0 so xs N tk)
noncomputable def sc_bm_pop (K : Params → KT) (P : Params) (ac ad e bm : Nat) (xs : Array Value) (N tk : Nat) : Sc :=
  sG [4, 3, 0, 3, 3, 0, 0] (.builtin "list.pop" ⟨[.ref (ac + 217)], []⟩) [0, 1] [((ac + 217), accO ad xs e), (bm, ⟨.type "builtin_function_or_method", none, .fields #[.builtin "list.pop", .ref (ac + 217)], #[]⟩)] 0 0
noncomputable def ok_bm_pop (K : Params → KT) : Prop := ∀ P ac ad e bm xs N tk,
  RunsTo K P 0 0 4000 (.call (.ref bm) ⟨[], []⟩) [((ac + 217), accO ad xs e), (bm, ⟨.type "builtin_function_or_method", none, .fields #[.builtin "list.pop", .ref (ac + 217)], #[]⟩)] N tk (sc_bm_pop K P ac ad e bm xs N tk)
noncomputable def sc_srest138 (K : Params → KT) (P : Params) (ac ad e L s0 so p : Nat) (ys : Array Value) (N tk : Nat) : Sc :=
  sS [4, 4, 4, 4, 4, 4, 0, 0, 3, 0, 5] (.call (.ref (N + 0)) ⟨[], []⟩) [0, 2] [((ac + 217), accO ad (ys.push (.ref p)) e), (N + 0, ⟨.type "builtin_function_or_method", none, .fields #[.builtin "list.pop", .ref (ac + 217)], #[]⟩)] 0 0 (fun v1 => ⟨.ok (.ret (.ref p)), [accO ad ys (v1 0)], []⟩) 1 fun v1 n1 tk1 =>
  sF [] (.ok (.ret (.ref p))) [0] [((ac + 217), accO ad ys (v1 0))] 0 0
noncomputable def ok_srest138 (K : Params → KT) : Prop := ∀ P ac ad e L s0 so p ys N tk,
  RunsA K P 5 20 4000 (supRest "pop" (supQ K P 138 1) (envOf K P 138 L) (.ref so) >>= asFin) [((ac + 217), accO ad (ys.push (.ref p)) e), (so, supObj (ac + 217))] N tk (sc_srest138 K P ac ad e L s0 so p ys N tk)
noncomputable def sc_srest115 (K : Params → KT) (P : Params) (ac ad e L s0 so : Nat) (N tk : Nat) : Sc :=
  sF [4, 4, 4, 4, 4, 4, 0, 0, 3, 0, 5, 5, 3, 3, 3, 3] (.ok (.ret .none)) [0] [((ac + 217), accO ad #[] e)] 1 1
noncomputable def ok_srest115 (K : Params → KT) : Prop := ∀ P ac ad e L s0 so N tk,
  RunsA K P 5 20 4000 (supRest "__init__" (supQ K P 115 1) (envOf K P 115 L) (.ref so) >>= asFin) [((ac + 217), accO ad #[] e), (so, supObj (ac + 217))] N tk (sc_srest115 K P ac ad e L s0 so N tk)
noncomputable def sc_pop1 (K : Params → KT) (P : Params) (ac ad e a b L s0 p : Nat) (ys : Array Value) (N tk : Nat) : Sc :=
  sS [4, 3, 0, 0, 0, 3, 0, 0, 0, 3, 0, 0, 0, 0, 3, 5, 0] (.call (.ref 175) ⟨[.ref (ac + 217)], []⟩) [0] [((ac + 217), accO ad (ys.push (.ref p)) e)] 6 30 (fun v1 => ⟨.ok (.ret (.int ((ys.push (.ref p)).size : Int) (v1 0))), [], []⟩) 0 fun v1 n1 tk1 =>
  sA [] 0 (.bool (((ys.push (.ref p)).size : Int) == 0)) (.bool false) <|
  sF [] (.ok .next) [0, 1, 2] [((ac + 217), accO ad (ys.push (.ref p)) e), (L, frmO #[dEnt P "self" s0 (.ref (ac + 217))] 1), (ad, accD P a b)] 0 1
noncomputable def ok_pop1 (K : Params → KT) : Prop := ∀ P ac ad e a b L s0 p ys N tk,
  RunsA K P 15 40 4000 (fExecs [stmtOf K P 138 0] (envOf K P 138 L) >>= flFin) [((ac + 217), accO ad (ys.push (.ref p)) e), (L, frmO #[dEnt P "self" s0 (.ref (ac + 217))] 1), (ad, accD P a b)] N tk (sc_pop1 K P ac ad e a b L s0 p ys N tk)
noncomputable def sc_init1 (K : Params → KT) (P : Params) (ac ad e L s0 s1 t1 : Nat) (N tk : Nat) : Sc :=
  sF [4, 4, 3, 0, 0, 0, 3, 0, 3, 0, 3, 0, 0, 0, 3, 0, 5, 5, 5] (.ok .next) [0, 1, 2] [((ac + 217), accO ad #[] e), (L, frmO #[dEnt P "self" s0 (.ref (ac + 217)), dEnt P "initial_size" s1 (.int 0 t1)] 2), (ad, accD P (tk + 1) t1)] 0 2
noncomputable def ok_init1 (K : Params → KT) : Prop := ∀ P ac ad e L s0 s1 t1 N tk,
  RunsA K P 15 40 4000 (fExecs [stmtOf K P 115 0] (envOf K P 115 L) >>= flFin) [((ac + 217), accO ad #[] e), (L, frmO #[dEnt P "self" s0 (.ref (ac + 217)), dEnt P "initial_size" s1 (.int 0 t1)] 2), (ad, dctO #[] 0)] N tk (sc_init1 K P ac ad e L s0 s1 t1 N tk)
section
variable {K : Params → KT} [ok : Nonempty (KOk K)] {P : Params} {dr : Source → Nat → Nat} {fz : List Ent}
theorem super_go {a : Addr} (o : SupOk K a) (r4 : ok_sity K) (r5 : ok_scall K) {k ad e L n : Nat} {xs : Array Value} {es : Array DictEntry} {t1 t2 t3 j1 j2 j3 : List Nat} {i1 i2 i3 : Nat}
    (r1 : ∀ N tk, RunsA K P 5 20 4000 (fLoadName (envOf K P a L) "super" >>= asFin) [(k + 217, accO ad xs e), (L, frmO es n)] N tk (sF t1 (.ok (.ret (.type "super"))) j1 [(k + 217, accO ad xs e), (L, frmO es n)] 0 i1))
    (r2 : ∀ N tk, RunsA K P 5 20 4000 (fLoadName (envOf K P a L) "__class__" >>= asFin) [(k + 217, accO ad xs e), (L, frmO es n)] N tk (sF t2 (.ok (.ret (.ref 178))) j2 [(k + 217, accO ad xs e), (L, frmO es n)] 0 i2))
    (r3 : ∀ N tk, RunsA K P 5 20 4000 (fLoadName (envOf K P a L) "self" >>= asFin) [(k + 217, accO ad xs e), (L, frmO es n)] N tk (sF t3 (.ok (.ret (.ref (k + 217)))) j3 [(k + 217, accO ad xs e), (L, frmO es n)] 0 i3))
    {A : Around} {body : List Stmt} {nm : Str} {q : PS} {Q : Value → Shared → Prop} {E : Value → Shared → Prop} {h : Heap} {g : Array GenState} {d : Drawn} {tk : Nat} {os : OsState}
    (hat : (nm == ("__class__" : Str)) = false) (room : Room A 5 20) (hi : inv K P fz h) (hB : AllBare g) (has : Has h [(k + 217, accO ad xs e), (L, frmO es n)]) (hlo : ∀ p ∈ [(k + 217, accO ad xs e), (L, frmO es n)], OwnA fz p.1) (nd : ([(k + 217, accO ad xs e), (L, frmO es n)].map (·.1)).Nodup)
    (H : ∀ (h' : Heap) (g' : Array GenState) (tk' so : Nat), inv K P fz h' → AllBare g' → h.objs.size ≤ h'.objs.size → h.objs.size ≤ so → Has h' [(k + 217, accO ad xs e), (L, frmO es n), (so, supObj (k + 217))] → Keep (WI K P fz) h h' [] →
      wpAny (model prg ⟨dr, P⟩) A (supRest nm q (envOf K P a L) (.ref so)) Q E ⟨h', g', d, tk', os⟩) :
    PySem.wpAt (model prg ⟨dr, P⟩) A (.func body (envOf K P a L)) (eval (supE nm q) (envOf K P a L)) Q E ⟨h, g, d, tk, os⟩ := by
  have keep0 : ∀ {h h' : Heap}, Has h' [(k + 217, accO ad xs e), (L, frmO es n)] → Has h [(k + 217, accO ad xs e), (L, frmO es n)] → Keep (WI K P fz) h h' ([(k + 217, accO ad xs e), (L, frmO es n)].map (·.1)) → Keep (WI K P fz) h h' [] := by
    intro h h' z y kp b o' e' _ h2
    by_cases hb : b ∈ ([(k + 217, accO ad xs e), (L, frmO es n)].map (·.1))
    · obtain ⟨p, hp, hpe⟩ := List.mem_map.mp hb
      have e1 := y p hp
      rw [hpe, e'] at e1
      have e2 := z p hp
      rw [hpe] at e2
      rw [e2, e1]
    · exact kp b o' e' hb h2
  refine at_super o hi hat ?_
  rw [fLoadName_eq, fIsType_eq, fCall_eq]
  refine run_val (r1 _ _) room hi hB has hlo nd fun h1 g1 hi1 hB1 hs1 has1' hk1 => ⟨rfl, ?_⟩
  refine run_val (r2 _ _) room hi1 hB1 has1' hlo nd fun h2 g2 hi2 hB2 hs2 has2' hk2 => ?_
  refine run_val (r3 _ _) room hi2 hB2 has2' hlo nd fun h3 g3 hi3 hB3 hs3 has3' hk3 => ?_
  refine wpAny_boolOf (run_val (r4 P [] _ _) room hi3 hB3 (fun p hp => (nomatch hp)) (fun p hp => (nomatch hp)) (by simp) fun h4 g4 hi4 hB4 hs4 _ hk4 => ?_)
  intro b hb
  cases hb
  refine ⟨rfl, ?_⟩
  have has4 : Has h4 [(k + 217, accO ad xs e), (L, frmO es n)] := fun p hp => hk4 p.1 p.2 (has3' p hp) (by simp) (fun hm => (WI K P fz).tlo _ hm (hlo p hp))
  refine run_val (r5 P k ad e L n xs es _ _) room hi4 hB4 has4 hlo nd fun h5 g5 hi5 hB5 hs5 has5 hk5 => ?_
  have s1 : h1.objs.size = h.objs.size := hs1
  have s2 : h2.objs.size = h1.objs.size := hs2
  have s3 : h3.objs.size = h2.objs.size := hs3
  have s4 : h4.objs.size = h3.objs.size := hs4
  have s5 : h5.objs.size = h4.objs.size + 1 := hs5
  have has5' : Has h5 [(k + 217, accO ad xs e), (L, frmO es n)] := fun p hp => has5 p (by
    rcases List.mem_cons.mp hp with rfl | hp
    · exact List.mem_cons_self
    · rw [List.mem_singleton.mp hp]; exact List.mem_cons_of_mem _ List.mem_cons_self)
  exact H h5 g5 _ _ hi5 hB5 (ar158 s1 s2 s3 s4 s5) (by show h.objs.size ≤ h4.objs.size + 0; exact ar159 s1 s2 s3 s4) has5
    (keep_trans (keep_trans (keep_trans (keep_trans (keep0 has1' has hk1) (keep0 has2' has1' hk2)) (keep0 has3' has2' hk3)) hk4) (keep0 has5' has4 hk5))
theorem beq0_false {n : Int} (h : n ≠ 0) : Value.bool (n == 0) = .bool false := by simp [h]
theorem has_pair {h : Heap} {p q : Ent} (hp : h.get? p.1 = some p.2) (hq : h.get? q.1 = some q.2) : Has h [p, q] := fun x hx => by
  rcases List.mem_cons.mp hx with rfl | hx
  · exact hp
  · rw [List.mem_singleton.mp hx]; exact hq
theorem own_pair {p q : Ent} (hp : OwnA fz p.1) (hq : OwnA fz q.1) : ∀ x ∈ [p, q], OwnA fz x.1 := fun x hx => by
  rcases List.mem_cons.mp hx with rfl | hx
  · exact hp
  · rw [List.mem_singleton.mp hx]; exact hq
theorem nd_pair {a b : Nat} {o o' : Obj} (h : a ≠ b) : ([((a, o) : Ent), (b, o')].map (·.1)).Nodup := by simp [h]
theorem room_less {A : Around} {dep un dep' un' : Nat} (r : Room A dep un) (h1 : dep' ≤ dep) (h2 : un' ≤ un) : Room A dep' un' := ⟨r.1, by have := r.2.1; exact ar14 this h1, by have := r.2.2; exact ar14 this h2⟩
theorem rl {A : Around} {dep un dep' un' : Nat} (r : Room A dep un) (h1 : dep' ≤ dep := by decide) (h2 : un' ≤ un := by decide) : Room A dep' un' := room_less r h1 h2
end
structure OkPC (K : Params → KT) : Prop where
  sup : SupOk K 175
  body : ∀ P, bodyOf K P 175 = [.Return (some (supE "__len__" (supQ K P 175 0))) (stPos K P 175 0)]
  r0 : ok_pc0 K
  r1 : ok_sn175 K
  r2 : ok_sc175 K
  r3 : ok_ss175 K
  r4 : ok_sity K
  r5 : ok_scall K
  r6 : ok_srest175 K
structure OkPop (K : Params → KT) : Prop where
  pc : OkPC K
  sup : SupOk K 138
  body : ∀ P, bodyOf K P 138 = [stmtOf K P 138 0, .Return (some (supE "pop" (supQ K P 138 1))) (stPos K P 138 1)]
  r0 : ok_pop0 K
  rs : ok_pop1 K
  r1 : ok_sn138 K
  r2 : ok_sc138 K
  r3 : ok_ss138 K
  r6 : ok_srest138 K
  rb : ok_bm_pop K
structure OkInit (K : Params → KT) : Prop where
  pc : OkPC K
  sup : SupOk K 115
  body : ∀ P, bodyOf K P 115 = [stmtOf K P 115 0, .Expr (supE "__init__" (supQ K P 115 1)) (stPos K P 115 1)]
  hint : ∀ P N, interactive (envOf K P 115 N) = false
  hsw : ∀ P N, swapsWith (supE "__init__" (supQ K P 115 1)) none (stPos K P 115 1).line (envOf K P 115 N) = pure false
  r0 : ok_init0 K
  rs : ok_init1 K
  r1 : ok_sn115 K
  r2 : ok_sc115 K
  r3 : ok_ss115 K
  r6 : ok_srest115 K
section
variable {K : Params → KT} [ok : Nonempty (KOk K)] {P : Params} {dr : Source → Nat → Nat} {fz : List Ent}
theorem con_part_count (o : OkPC K) {ac ad e : Nat} {xs : Array Value} :
    CON K P dr fz (.call (.ref 175) ⟨[.ref ac], []⟩) [(ac, accO ad xs e)] 6 30 (fun v => ⟨.ok (.ret (.int (xs.size : Int) (v 0))), [], []⟩) := by
  intro A h g d tk os R room hi hB has hlo nd hR
  obtain ⟨k, rfl⟩ := le_form (OwnA.ge (hlo _ List.mem_cons_self))
  refine code_run (o.r0 P k ad e xs h.objs.size tk) (rl room) hi hB has hlo nd ?_
  intro h1 g1 hi1 hB1 hs1 has1 hk1
  have rm : Room (A.deeper (envOf K P 175 h.objs.size)) 5 20 := room_deeper (rl room)
  have hL : OwnA fz (k + 217) := hlo _ List.mem_cons_self
  have hlt : k + 217 < h.objs.size := Heap.lt_size (has0 has)
  have hN : OwnA fz h.objs.size := (WI K P fz).big h hi _ (Nat.le_refl _)
  have hs1' : h1.objs.size = h.objs.size + 1 := hs1
  refine ks_codeAny_funcAt ?_
  rw [o.body P]
  refine ks_wpAt_execs_cons (ks_wpAt_Return_some ?_)
  refine super_go o.sup o.r4 o.r5 (fun N tk' => o.r1 P k ad e _ (tk + 0) 0 0 xs N tk') (fun N tk' => o.r2 P k ad e _ (tk + 0) 0 0 xs N tk') (fun N tk' => o.r3 P k ad e _ (tk + 0) 0 0 xs N tk') (by decide) rm hi1 hB1 has1 (own_pair hL hN) (nd_pair (ar160 hlt)) ?_
  intro h2 g2 tk2 so hi2 hB2 hs2 hso has2' hk2
  have hSo : OwnA fz so := (WI K P fz).big h1 hi1 _ hso
  refine run_val (o.r6 P k ad e _ 0 so xs _ _) rm hi2 hB2 (has_pair (has0 has2') (Mine.has2 has2')) (own_pair hL hSo) (nd_pair (ar161 hlt hs1' hso)) fun h3 g3 hi3 hB3 hs3 has3 hk3 => ?_
  have hs3' : h3.objs.size = h2.objs.size + 1 := hs3
  refine hR (fun _ => tk2 + 1) h3 g3 _ hi3 hB3 (ar162 hs1' hs3' hs2) ⟨has0 has3, trivial⟩ newOk0 ?_
  intro b ob eb hb1 hb2
  have e1 := hk1 b ob eb hb1 hb2
  have e2 := hk2 b ob e1 (by simp) hb2
  refine hk3 b ob e2 (fun hm => ?_) hb2
  rcases List.mem_cons.mp hm with rfl | hm
  · exact hb1 List.mem_cons_self
  · have e3 := List.mem_singleton.mp hm
    have : b < h1.objs.size := Heap.lt_size e1
    exact absurd this (Nat.not_lt_of_le (e3 ▸ hso))
theorem at_first {M : Model} {A : Around} {c : Code} {st : Stmt} {rest : List Stmt} {env : Env} {Q : Flow → Shared → Prop} {E : Value → Shared → Prop} {s : Shared}
    (h : wpAny M A (fExecs [st] env) (fun f s' => match f with | .next => PySem.wpAt M A c (execs rest env) Q E s' | f => Q f s') E s) : PySem.wpAt M A c (execs (st :: rest) env) Q E s := by
  refine ks_wpAt_execs_cons fun Γ p hc hΓ => ?_
  have z := h Γ p hΓ
  rw [← fExecs_eq, execs_cons, Sem.wp_bind'] at z
  refine Sem.wp_mono M Γ _ (fun f p' s' h' => ?_) (fun _ _ _ h' => h') _ _ z
  cases f <;> exact h'
theorem con_bm (o : ok_bm_pop K) {ac ad e bm p : Nat} {ys : Array Value} (hsz : ys.size + 1 ≤ sizeLine) :
    CON K P dr fz (.call (.ref bm) ⟨[], []⟩) [(ac + 217, accO ad (ys.push (.ref p)) e), (bm, ⟨.type "builtin_function_or_method", none, .fields #[.builtin "list.pop", .ref (ac + 217)], #[]⟩)] 0 0
      (fun v => ⟨.ok (.ret (.ref p)), [accO ad ys (v 0)], []⟩) := by
  have c1 : CON K P dr fz (.builtin "list.pop" ⟨[.ref (ac + 217)], []⟩) ([(ac + 217, accO ad (ys.push (.ref p)) e)] ++ [(bm, ⟨.type "builtin_function_or_method", none, .fields #[.builtin "list.pop", .ref (ac + 217)], #[]⟩)]) 0 0
      (fun v => ⟨.ok (.ret (.ref p)), [accO ad ys (e + 1)], []⟩) := con_frame _ (con_pop hsz rfl) (by intro v; simp)
  have c2 := con_again (fun n tk => o P ac ad e bm (ys.push (.ref p)) n tk) (fun _ _ => rfl) c1
  intro A h g d tk os R room hi hB has hlo nd hR
  exact c2 A h g d tk os R room hi hB has hlo nd fun v h' g' tk' a1 a2 a3 a4 a5 a6 => hR (fun _ => e + 1) h' g' tk' a1 a2 a3 a4 a5 a6
theorem con_accpop (o : OkPop K) {ac ad e a b p : Nat} {ys : Array Value} (hsz : ys.size + 1 ≤ sizeLine) :
    CON K P dr fz (.call (.ref 138) ⟨[.ref ac], []⟩) [(ac, accO ad (ys.push (.ref p)) e), (ad, accD P a b)] 30 80 (fun v => ⟨.ok (.ret (.ref p)), [accO ad ys (v 0)], []⟩) := by
  intro A h g d tk os R room hi hB has hlo nd hR
  obtain ⟨k, rfl⟩ := le_form (OwnA.ge (hlo _ List.mem_cons_self))
  have hL : OwnA fz (k + 217) := hlo _ List.mem_cons_self
  have hD : OwnA fz ad := hlo _ (List.mem_cons_of_mem _ List.mem_cons_self)
  have hlt : k + 217 < h.objs.size := Heap.lt_size (has0 has)
  have hltd : ad < h.objs.size := Heap.lt_size (has1 has)
  have hN : OwnA fz h.objs.size := (WI K P fz).big h hi _ (Nat.le_refl _)
  have hne : k + 217 ≠ ad := by
    intro z
    rw [List.map_cons, List.nodup_cons] at nd
    exact nd.1 (by simp [z])
  refine code_run (o.r0 P k ad e (ys.push (.ref p)) h.objs.size tk) (rl room) hi hB (fun q hq => has q (by rw [List.mem_singleton.mp hq]; exact List.mem_cons_self)) (fun q hq => hlo q (by rw [List.mem_singleton.mp hq]; exact List.mem_cons_self)) (by simp) ?_
  intro h1 g1 hi1 hB1 hs1 has1' hk1
  have rm : Room (A.deeper (envOf K P 138 h.objs.size)) 15 40 := room_deeper (rl room)
  have hs1' : h1.objs.size = h.objs.size + 1 := hs1
  have hd1 : h1.get? ad = some (accD P a b) := hk1 ad _ (has1 has) (fun z => hne (List.mem_singleton.mp z).symm) (fun z => (WI K P fz).tlo _ z hD)
  refine ks_codeAny_funcAt ?_
  rw [o.body P]
  refine at_first ?_
  have e3 : ∀ x ∈ [((k + 217, accO ad (ys.push (.ref p)) e) : Ent), (h.objs.size, frmO #[dEnt P "self" (tk + 0) (.ref (k + 217))] 1), (ad, accD P a b)], OwnA fz x.1 := fun x hx => by
    rcases List.mem_cons.mp hx with rfl | hx
    · exact hL
    · exact own_pair hN hD x hx
  have nd3 : ([((k + 217, accO ad (ys.push (.ref p)) e) : Ent), (h.objs.size, frmO #[dEnt P "self" (tk + 0) (.ref (k + 217))] 1), (ad, accD P a b)].map (·.1)).Nodup := by
    simp only [List.map_cons, List.map_nil, List.nodup_cons, List.mem_cons, List.not_mem_nil, or_false, not_or, not_false_iff, List.nodup_nil, and_true]
    exact ⟨⟨Nat.ne_of_lt hlt, hne⟩, Nat.ne_of_gt hltd⟩
  have has3' : Has h1 [((k + 217, accO ad (ys.push (.ref p)) e) : Ent), (h.objs.size, frmO #[dEnt P "self" (tk + 0) (.ref (k + 217))] 1), (ad, accD P a b)] := fun x hx => by
    rcases List.mem_cons.mp hx with rfl | hx
    · exact has0 has1'
    · exact has_pair (Mine.has1 has1') hd1 x hx
  refine run_flow (o.rs P k ad e a b h.objs.size (tk + 0) p ys _ _) rm hi1 hB1 has3' e3 nd3 ⟨con_part_count o.pc, fun v n' tk' q1 q2 => ⟨beq0_false (by simp only [Array.size_push]; exact ar163), fun h2 g2 hi2 hB2 hs2 has2' hk2 => ?_⟩⟩
  have rm2 : Room (A.deeper (envOf K P 138 h.objs.size)) 5 20 := room_less rm (ar164) (ar165)
  have hs2' : h2.objs.size = n' := hs2
  show PySem.wpAt _ _ _ (execs _ _) _ _ _
  refine ks_wpAt_execs_cons (ks_wpAt_Return_some ?_)
  refine super_go o.sup o.pc.r4 o.pc.r5 (fun N tk' => o.r1 P k ad e _ (tk + 0) 0 0 _ N tk') (fun N tk' => o.r2 P k ad e _ (tk + 0) 0 0 _ N tk') (fun N tk' => o.r3 P k ad e _ (tk + 0) 0 0 _ N tk') (by decide) rm2 hi2 hB2 (has_pair (has0 has2') (Mine.has1 has2')) (own_pair hL hN) (nd_pair (ar160 hlt)) ?_
  intro h3 g3 tk3 so hi3 hB3 hs3 hso has3' hk3
  have hSo : OwnA fz so := (WI K P fz).big h2 hi2 _ hso
  refine run_val (o.r6 P k ad e _ 0 so p ys _ _) rm2 hi3 hB3 (has_pair (has0 has3') (Mine.has2 has3')) (own_pair hL hSo) (nd_pair (ar166 q1 hlt hs2' hs1' hso)) ⟨con_bm o.rb hsz, fun v4 n4 tk4 z1 z2 h4 g4 hi4 hB4 hs4 has4 hk4 => ?_⟩
  have hs4' : h4.objs.size = n4 := hs4
  have kk : ∀ b₁ ob, h.get? b₁ = some ob → b₁ ∉ ([((k + 217, accO ad (ys.push (.ref p)) e) : Ent), (ad, accD P a b)].map (·.1)) → b₁ ∉ (WI K P fz).tabs → h4.get? b₁ = some ob := by
    intro b₁ ob eb hb1 hb2
    have hlt1 : b₁ < h.objs.size := Heap.lt_size eb
    have x1 : b₁ ≠ k + 217 := fun z => hb1 (by rw [z]; exact List.mem_cons_self)
    have x2 : b₁ ≠ ad := fun z => hb1 (by rw [z]; exact List.mem_cons_of_mem _ List.mem_cons_self)
    have e1 := hk1 b₁ ob eb (by simpa using x1) hb2
    have e2 := hk2 b₁ ob e1 (by simp only [List.map_cons, List.map_nil, List.mem_cons, List.not_mem_nil, or_false, not_or]; exact ⟨x1, Nat.ne_of_lt hlt1, x2⟩) hb2
    have e3 := hk3 b₁ ob e2 (by simp) hb2
    refine hk4 b₁ ob e3 ?_ hb2
    simp only [List.map_cons, List.map_nil, List.mem_cons, List.not_mem_nil, or_false, not_or]
    exact ⟨x1, fun z => absurd (Heap.lt_size e2) (Nat.not_lt_of_le (z ▸ hso))⟩
  have hda : h4.get? ad = some (accD P a b) := by
    have e2 := Mine.has2 has2'
    have e3 := hk3 ad _ e2 (by simp) (fun z => (WI K P fz).tlo _ z hD)
    refine hk4 ad _ e3 ?_ (fun z => (WI K P fz).tlo _ z hD)
    simp only [List.map_cons, List.map_nil, List.mem_cons, List.not_mem_nil, or_false, not_or]
    exact ⟨Ne.symm hne, fun z => absurd (Heap.lt_size e2) (Nat.not_lt_of_le (z ▸ hso))⟩
  exact hR (fun _ => v4 0) h4 g4 _ hi4 hB4 (ar167 q1 z1 hs2' hs4' hs1' hs3) ⟨has0 has4, hda, trivial⟩ newOk0 kk
theorem con_init (o : OkInit K) {ac ad e t1 : Nat} :
    CON K P dr fz (.call (.ref 115) ⟨[.ref ac, .int 0 t1], []⟩) [(ac, accO ad #[] e), (ad, dctO #[] 0)] 25 70 (fun v => ⟨.ok (.ret .none), [accO ad #[] e, accD P (v 0) t1], []⟩) := by
  intro A h g d tk os R room hi hB has hlo nd hR
  obtain ⟨k, rfl⟩ := le_form (OwnA.ge (hlo _ List.mem_cons_self))
  have hL : OwnA fz (k + 217) := hlo _ List.mem_cons_self
  have hD : OwnA fz ad := hlo _ (List.mem_cons_of_mem _ List.mem_cons_self)
  have hlt : k + 217 < h.objs.size := Heap.lt_size (has0 has)
  have hltd : ad < h.objs.size := Heap.lt_size (has1 has)
  have hN : OwnA fz h.objs.size := (WI K P fz).big h hi _ (Nat.le_refl _)
  have hne : k + 217 ≠ ad := by
    intro z
    rw [List.map_cons, List.nodup_cons] at nd
    exact nd.1 (by simp [z])
  refine code_run (o.r0 P k ad e t1 h.objs.size tk) (rl room) hi hB (fun q hq => has q (by rw [List.mem_singleton.mp hq]; exact List.mem_cons_self)) (fun q hq => hlo q (by rw [List.mem_singleton.mp hq]; exact List.mem_cons_self)) (by simp) ?_
  intro h1 g1 hi1 hB1 hs1 has1' hk1
  have rm : Room (A.deeper (envOf K P 115 h.objs.size)) 15 40 := room_deeper (rl room)
  have hs1' : h1.objs.size = h.objs.size + 1 := hs1
  have hd1 : h1.get? ad = some (dctO #[] 0) := hk1 ad _ (has1 has) (fun z => hne (List.mem_singleton.mp z).symm) (fun z => (WI K P fz).tlo _ z hD)
  refine ks_codeAny_funcAt ?_
  rw [o.body P]
  refine at_first ?_
  have e3 : ∀ x ∈ [((k + 217, accO ad #[] e) : Ent), (h.objs.size, frmO #[dEnt P "self" (tk + 0) (.ref (k + 217)), dEnt P "initial_size" (tk + 1) (.int 0 t1)] 2), (ad, dctO #[] 0)], OwnA fz x.1 := fun x hx => by
    rcases List.mem_cons.mp hx with rfl | hx
    · exact hL
    · exact own_pair hN hD x hx
  have nd3 : ([((k + 217, accO ad #[] e) : Ent), (h.objs.size, frmO #[dEnt P "self" (tk + 0) (.ref (k + 217)), dEnt P "initial_size" (tk + 1) (.int 0 t1)] 2), (ad, dctO #[] 0)].map (·.1)).Nodup := by
    simp only [List.map_cons, List.map_nil, List.nodup_cons, List.mem_cons, List.not_mem_nil, or_false, not_or, not_false_iff, List.nodup_nil, and_true]
    exact ⟨⟨Nat.ne_of_lt hlt, hne⟩, Nat.ne_of_gt hltd⟩
  have has3' : Has h1 [((k + 217, accO ad #[] e) : Ent), (h.objs.size, frmO #[dEnt P "self" (tk + 0) (.ref (k + 217)), dEnt P "initial_size" (tk + 1) (.int 0 t1)] 2), (ad, dctO #[] 0)] := fun x hx => by
    rcases List.mem_cons.mp hx with rfl | hx
    · exact has0 has1'
    · exact has_pair (Mine.has1 has1') hd1 x hx
  refine run_flow (o.rs P k ad e h.objs.size (tk + 0) (tk + 1) t1 _ _) rm hi1 hB1 has3' e3 nd3 fun h2 g2 hi2 hB2 hs2 has2' hk2 => ?_
  have rm2 : Room (A.deeper (envOf K P 115 h.objs.size)) 5 20 := room_less rm (ar164) (ar165)
  have hs2' : h2.objs.size = h1.objs.size := hs2
  show PySem.wpAt _ _ _ (execs _ _) _ _ _
  refine ks_wpAt_execs_cons (ks_wpAt_Expr_any (hi := o.hint P _) (hs := o.hsw P _) ?_)
  refine super_go o.sup o.pc.r4 o.pc.r5 (fun N tk' => o.r1 P k ad e _ (tk + 0) (tk + 1) t1 _ N tk') (fun N tk' => o.r2 P k ad e _ (tk + 0) (tk + 1) t1 _ N tk') (fun N tk' => o.r3 P k ad e _ (tk + 0) (tk + 1) t1 _ N tk') (by decide) rm2 hi2 hB2 (has_pair (has0 has2') (Mine.has1 has2')) (own_pair hL hN) (nd_pair (ar160 hlt)) ?_
  intro h3 g3 tk3 so hi3 hB3 hs3 hso has3' hk3
  have hSo : OwnA fz so := (WI K P fz).big h2 hi2 _ hso
  refine run_val (o.r6 P k ad e _ 0 so _ _) rm2 hi3 hB3 (has_pair (has0 has3') (Mine.has2 has3')) (own_pair hL hSo) (nd_pair (ar168 hlt hs2' hs1' hso)) fun h4 g4 hi4 hB4 hs4 has4 hk4 => ?_
  have hs4' : h4.objs.size = h3.objs.size + 1 := hs4
  have kk : ∀ b₁ ob, h.get? b₁ = some ob → b₁ ∉ ([((k + 217, accO ad #[] e) : Ent), (ad, dctO #[] 0)].map (·.1)) → b₁ ∉ (WI K P fz).tabs → h4.get? b₁ = some ob := by
    intro b₁ ob eb hb1 hb2
    have hlt1 : b₁ < h.objs.size := Heap.lt_size eb
    have x1 : b₁ ≠ k + 217 := fun z => hb1 (by rw [z]; exact List.mem_cons_self)
    have x2 : b₁ ≠ ad := fun z => hb1 (by rw [z]; exact List.mem_cons_of_mem _ List.mem_cons_self)
    have e1 := hk1 b₁ ob eb (by simpa using x1) hb2
    have e2 := hk2 b₁ ob e1 (by simp only [List.map_cons, List.map_nil, List.mem_cons, List.not_mem_nil, or_false, not_or]; exact ⟨x1, Nat.ne_of_lt hlt1, x2⟩) hb2
    have e3 := hk3 b₁ ob e2 (by simp) hb2
    refine hk4 b₁ ob e3 ?_ hb2
    simp only [List.map_cons, List.map_nil, List.mem_cons, List.not_mem_nil, or_false, not_or]
    exact ⟨x1, fun z => absurd (Heap.lt_size e2) (Nat.not_lt_of_le (z ▸ hso))⟩
  have hda : h4.get? ad = some (accD P (tk + 2 + 1) t1) := by
    have e2 := Mine.has2 has2'
    have e3 := hk3 ad _ e2 (by simp) (fun z => (WI K P fz).tlo _ z hD)
    refine hk4 ad _ e3 ?_ (fun z => (WI K P fz).tlo _ z hD)
    simp only [List.map_cons, List.map_nil, List.mem_cons, List.not_mem_nil, or_false, not_or]
    exact ⟨Ne.symm hne, fun z => absurd (Heap.lt_size e2) (Nat.not_lt_of_le (z ▸ hso))⟩
  show PySem.wpAt _ _ _ (execs [] _) _ _ _
  rw [execs_nil]
  exact fun Γ p _ _ => hR (fun _ => tk + 2 + 1) h4 g4 _ hi4 hB4 (ar169 hs2' hs1' hs4' hs3) ⟨has0 has4, hda, trivial⟩ newOk0 kk
end
noncomputable def sc_ge145 (K : Params → KT) (P : Params) (ac ad e : Nat) (xs : Array Value) (N tk : Nat) : Sc :=
  sG [0, 0, 4, 4, 1] (.func (bodyOf K P 145) (envOf K P 145 N)) [0, 1] [(ac, accO ad xs e), (N, frmO #[dEnt P "self" (tk + 0) (.ref ac)] 1)] 1 1
noncomputable def ok_ge145 (K : Params → KT) : Prop := ∀ P ac ad e xs N tk,
  RunsTo K P 5 20 4000 (.call (.ref 145) ⟨[.ref ac], []⟩) [(ac, accO ad xs e)] N tk (sc_ge145 K P ac ad e xs N tk)
noncomputable def sc_gs145 (K : Params → KT) (P : Params) (ac ad e L s0 : Nat) (xs : Array Value) (ps : Pos) (N tk : Nat) : Sc :=
  sF [4] (.ok (.ret (.ref ac))) [0, 1] [(ac, accO ad xs e), (L, frmO #[dEnt P "self" s0 (.ref ac)] 1)] 0 0
noncomputable def ok_gs145 (K : Params → KT) : Prop := ∀ P ac ad e L s0 xs ps N tk,
  RunsA K P 5 20 4000 (fEval (.Name "self" ps) (envOf K P 145 L) >>= asFin) [(ac, accO ad xs e), (L, frmO #[dEnt P "self" s0 (.ref ac)] 1)] N tk (sc_gs145 K P ac ad e L s0 xs ps N tk)
noncomputable def sc_gb145 (K : Params → KT) (P : Params) (L : Nat) (N tk : Nat) : Sc :=
  sF [0, 0] (.ok (.ret (.ref 0))) [] [] 0 0
noncomputable def ok_gb145 (K : Params → KT) : Prop := ∀ P L N tk,
  RunsA K P 5 20 4000 ((builtinsFor (envOf K P 145 L).globals (envOf K P 145 L).builtins >>= fun x => pure (Value.ref x)) >>= asFin) [] N tk (sc_gb145 K P L N tk)
noncomputable def sc_ge152 (K : Params → KT) (P : Params) (ac ad e : Nat) (xs : Array Value) (N tk : Nat) : Sc :=
  sG [0, 0, 4, 4, 1] (.func (bodyOf K P 152) (envOf K P 152 N)) [0, 1] [(ac, accO ad xs e), (N, frmO #[dEnt P "self" (tk + 0) (.ref ac)] 1)] 1 1
noncomputable def ok_ge152 (K : Params → KT) : Prop := ∀ P ac ad e xs N tk,
  RunsTo K P 5 20 4000 (.call (.ref 152) ⟨[.ref ac], []⟩) [(ac, accO ad xs e)] N tk (sc_ge152 K P ac ad e xs N tk)
noncomputable def sc_gs152 (K : Params → KT) (P : Params) (ac ad e L s0 : Nat) (xs : Array Value) (ps : Pos) (N tk : Nat) : Sc :=
  sF [4] (.ok (.ret (.ref ac))) [0, 1] [(ac, accO ad xs e), (L, frmO #[dEnt P "self" s0 (.ref ac)] 1)] 0 0
noncomputable def ok_gs152 (K : Params → KT) : Prop := ∀ P ac ad e L s0 xs ps N tk,
  RunsA K P 5 20 4000 (fEval (.Name "self" ps) (envOf K P 152 L) >>= asFin) [(ac, accO ad xs e), (L, frmO #[dEnt P "self" s0 (.ref ac)] 1)] N tk (sc_gs152 K P ac ad e L s0 xs ps N tk)
noncomputable def sc_gb152 (K : Params → KT) (P : Params) (L : Nat) (N tk : Nat) : Sc :=
  sF [0, 0] (.ok (.ret (.ref 0))) [] [] 0 0
noncomputable def ok_gb152 (K : Params → KT) : Prop := ∀ P L N tk,
  RunsA K P 5 20 4000 ((builtinsFor (envOf K P 152 L).globals (envOf K P 152 L).builtins >>= fun x => pure (Value.ref x)) >>= asFin) [] N tk (sc_gb152 K P L N tk)
noncomputable def sc_git (K : Params → KT) (P : Params) (ac ad e L n : Nat) (xs : Array Value) (es : Array DictEntry) (N tk : Nat) : Sc :=
  sF [3, 0, 0, 0, 3, 0, 0, 0, 3, 0, 5] (.ok (.ret (.ref (N + 0)))) [0, 1, 2] [(ac, accO ad xs e), (L, frmO es n), (N + 0, litO ac 0)] 1 0
noncomputable def ok_git (K : Params → KT) : Prop := ∀ P ac ad e L n xs es N tk,
  RunsA K P 5 20 4000 (fPyIter (.ref ac) >>= asFin) [(ac, accO ad xs e), (L, frmO es n)] N tk (sc_git K P ac ad e L n xs es N tk)
section
variable {prog : Program} {w : World} {A : Around} {E : Value → Shared → Prop} {s : Shared}
noncomputable def SeqAt (h : Heap) (l : Addr) (items : Array Value) : Prop := ∃ o n, h.get? l = some o ∧ o.data = .seq items n
theorem next_item {it l : Addr} {i : Nat} {items : Array Value} {x : Value} {Q : Option Value → Shared → Prop} (hit : s.heap.IsListIter it l i) (hl : SeqAt s.heap l items) (hx : items[i]? = some x)
    (hQ : ∀ h', h'.IsListIter it l (i + 1) → Heap.SameBut it s.heap h' → Q (some x) { s with heap := h' }) : wpAny (model prog w) A (pyNext (.ref it)) Q E s := by
  obtain ⟨o, ho, hc, hd⟩ := id hit
  obtain ⟨ol, nl, hol, hdl⟩ := hl
  obtain ⟨h, g, d, tk, os⟩ := s
  unfold pyNext
  refine wpAny_bind (wpAny_attempt (wpAny_callSpecial?_slot (name := Str.ofString "__next__") hit.typeIs slot_listiter_next
    (wpAny_call_entry slot_listiter_next hit.typeIs PySem.entry_listiter_next ?_ (args_listiter_next _))))
  have hx' : items[((i : Nat) : Int).toNat]? = some x := by simpa using hx
  wp_walk using (wpAny_field ho hd (x := .ref l) rfl), (wpAny_field ho hd (x := .int i 0) rfl), (wpAny_seqItems hol hdl)
  rw [hx']
  wp_walk using (wpAny_setField ho hd (by simp))
  refine ⟨x, rfl, wpAny_pure (hQ _ ?_ (Heap.SameBut.update ..))⟩
  exact ⟨_, Heap.get?_update_self _ ho (Obj.isFreed_of_fields (Obj.data_mapFields hd _)), (Obj.cls_mapFields ..).trans hc, by
    rw [Obj.data_mapFields hd]; simp [rawInt]⟩
theorem next_end {it l : Addr} {i : Nat} {items : Array Value} {Q : Option Value → Shared → Prop} (hh : A.handled = none) (hit : s.heap.IsListIter it l i) (hl : SeqAt s.heap l items) (hx : items[i]? = none)
    (hQ : ∀ h', Heap.ExtBut it s.heap h' → Q none { s with heap := h' }) : wpAny (model prog w) A (pyNext (.ref it)) Q E s := by
  obtain ⟨o, ho, hc, hd⟩ := id hit
  obtain ⟨ol, nl, hol, hdl⟩ := hl
  obtain ⟨h, g, d, tk, os⟩ := s
  unfold pyNext
  refine wpAny_bind (wpAny_attempt (wpAny_callSpecial?_slot (name := Str.ofString "__next__") hit.typeIs slot_listiter_next
    (wpAny_call_entry slot_listiter_next hit.typeIs PySem.entry_listiter_next ?_ (args_listiter_next _))))
  have hx' : items[((i : Nat) : Int).toNat]? = none := by simpa using hx
  wp_walk using (wpAny_field ho hd (x := .ref l) rfl), (wpAny_field ho hd (x := .int i 0) rfl), (wpAny_seqItems hol hdl)
  rw [hx']
  wp_walk using (wpAny_setField ho hd (by simp))
  refine wp_raiseNew (by exact hh) ?_
  refine wpAny_bind (wpAny_isInstance (T := "StopIteration") (b := true) ⟨_, Heap.get?_push_size _ rfl, rfl⟩ isSubtype_stop ?_)
  exact wpAny_pure (hQ _ fun b ob hb eb => Heap.get?_push_of_some _ (Heap.get?_push_of_some _ ((Heap.SameBut.update ..).extBut b ob hb eb)))
end
theorem SeqAt.at {h h' : Heap} {l : Addr} {items : Array Value} (x : SeqAt h l items) (hk : ∀ o, h.get? l = some o → h'.get? l = some o) : SeqAt h' l items := let ⟨o, n, e, d⟩ := x; ⟨o, n, hk _ e, d⟩
theorem walksParts {prog : Program} {w : World} {A : Around} (hh : A.handled = none) (I ax : Addr) (hne : ax ≠ I) (items : Array Value) (Ts : Nat → Addr) (vals : Nat → Array Value)
    (hit : ∀ j, j < items.size → items[j]? = some (.ref (Ts j))) (hTI : ∀ j, j < items.size → Ts j ≠ I) :
    WalksU prog w A I (I :: ax :: (List.range items.size).map Ts) [I] items.size (fun j v => j < items.size ∧ v = vals j)
      (fun j h => h.IsListIter I ax j ∧ SeqAt h ax items ∧ ∀ k, k < items.size → h.IsTuple (Ts k) (vals k))
      (fun j T h => (j < items.size ∧ T = Ts j) ∧ h.IsListIter I ax (j + 1) ∧ SeqAt h ax items ∧ ∀ k, k < items.size → h.IsTuple (Ts k) (vals k)) where
  sub := fun b hb => by rw [List.mem_singleton.mp hb]; exact List.mem_cons_self
  frame := fun _ _ _ st hk => ⟨st.1.at fun o e => hk I (by simp) o e, st.2.1.at fun o e => hk ax (by simp) o e,
    fun k hk' => (st.2.2 k hk').at fun o e => hk (Ts k) (List.mem_cons_of_mem _ (List.mem_cons_of_mem _ (List.mem_map.mpr ⟨k, List.mem_range.mpr hk', rfl⟩))) o e⟩
  item := fun i s Q E hi st hQ => by
    refine next_item st.1 st.2.1 (hit i hi) fun h' hit' hs' => ?_
    have tup : ∀ k, k < items.size → h'.IsTuple (Ts k) (vals k) := fun k hk' => (st.2.2 k hk').extBut hs'.extBut (hTI k hk')
    exact hQ (Ts i) (vals i) h' s.toks ⟨hi, rfl⟩ (tup i hi) ⟨⟨hi, rfl⟩, hit', st.2.1.at fun o e => hs'.extBut _ _ hne e, tup⟩ fun b o hb e => hs'.extBut b o (fun h => hb (by rw [h]; exact List.mem_cons_self)) e
  go := fun _ _ _ _ _ s Q _ hm hQ => wpAny_letOwnedTupleGo_listiter hm.2.1 (hQ s.heap hm.2 fun _ _ _ e => e)
  apart := fun j T _ hm hmem => hTI j hm.1.1 (hm.1.2 ▸ List.mem_singleton.mp hmem)
  done := fun s Q E st hQ => next_end hh st.1 st.2.1 (by simp) fun h' he' => hQ h' s.toks fun b o hb e => he' b o (fun h => hb (by rw [h]; exact List.mem_cons_self)) e
  self := fun _ _ _ _ st hQ => wpAny_pyIter_listiter st.1 hQ
section
variable {prog : Program} {w : World} {A : Around} {E : Value → Shared → Prop} {s : Shared}
theorem args_sum2 (a b : Value) : argsOk "sum" ⟨[a, b], []⟩ := by unfold argsOk; kernel_rfl
theorem call_sum_start {x : Value} {t : Tok} {Q : Value → Shared → Prop}
    (h : wpAny (model prog w) A.in1 (pyIter x) (fun it s₂ => ∃ I fp wr G n P St val, it = .ref I ∧ WalksS prog w A.in1 I fp wr G n P St ∧ St 0 s₂ ∧ (∀ b ∈ fp, b < s₂.heap.objs.size) ∧
      (∀ i v, P i v → ∃ t, v = .int (val i) t) ∧ (∀ j, j < n → InLong (val j) ∧ InLong (preSum val (j + 1))) ∧
      ∀ s' t', Moved wr G s₂ s' → Q (.int (preSum val n) t') s') E s) :
    wpAny (model prog w) A (call (.builtin "sum") [x, .int 0 t]) Q E s := by
  refine call_function_tree F.kind_sum F.plain_sum F.entry_sum (args_sum2 _ _) ?_
  unfold Builtin.«sum»
  simp only [List.length_cons, List.length_nil]
  rw [if_neg (by decide)]
  refine wpAny_bind (wpAny_of_eq (show Builtin.Builtins.bindParams "sum" ["start"] 0 ⟨[.int 0 t], []⟩ = pure [some (.int 0 t)] from rfl) ?_)
  refine wpAny_bind (wpAny_mono h (fun it s₂ h₂ => ?_) fun _ _ e => e)
  obtain ⟨I, fp, wr, G, n, P, St, val, rfl, W, hst, hfp, hval, hfit, hQ⟩ := h₂
  dsimp only
  refine wpAny_ite_true (by decide) ?_
  refine wpAny_bind (wpAny_rule ?_)
  refine wpAny_bind (wpAny_mkInt ?_)
  refine wpAny_bind (wpAny_pure ?_)
  simp only [List.forIn_cons, List.forIn_nil]
  refine wpAny_bind (wpAny_bind (wpAny_bind (wpAny_isInstance (T := "int") (b := false) (typeIs_int _ _ _) PySem.sub_int_str ?_)))
  simp only [Bool.false_eq_true, if_false]
  refine wpAny_pure (wpAny_bind (wpAny_bind (wpAny_isInstance (T := "int") (b := false) (typeIs_int _ _ _) PySem.sub_int_bytes ?_)))
  simp only [Bool.false_eq_true, if_false]
  refine wpAny_pure (wpAny_bind (wpAny_bind (wpAny_isInstance (T := "int") (b := false) (typeIs_int _ _ _) PySem.sub_int_bytearray ?_)))
  simp only [Bool.false_eq_true, if_false]
  refine wpAny_pure (wpAny_pure ?_)
  refine wpAny_bind (wpAny_newObj_type ?_)
  have hSf : s₂.heap.objs.size ∉ fp := fun hm => Nat.lt_irrefl _ (hfp _ hm)
  refine wpAny_pure ⟨plainId_quiet F.plain_sum_loop _, codeAny_sum_loopS W val hval hfit s₂.heap.objs.size hSf n 0 _ s₂.toks 0 rfl (Nat.zero_le _)
    (W.frame 0 s₂ _ _ hst (Nat.le_succ _) fun b _ o e => Heap.get?_push_of_some _ e) (Heap.get?_push_size _ rfl) fun s' t' hm => ?_⟩
  exact hQ s' t' (hm.drop_new (Nat.le_succ _))
end
structure GQ where
  pa : Pos
  pb : Pos
  pt : Pos
  ps : Pos
  pg : Pos
  kt : Nat
  scope : Scope
noncomputable def genE (elt : PySem.Expr) (q : GQ) : PySem.Expr := .GeneratorExp elt [⟨.Tuple [.Name "fws" q.pa, .Name "part" q.pb] q.kt q.pt, .Name "self" q.ps, [], 0⟩] q.scope q.pg
noncomputable def genQ : PySem.Expr → GQ
  | .GeneratorExp _ [⟨.Tuple [.Name _ pa, .Name _ pb] kt pt, .Name _ ps, _, _⟩] sc pg => ⟨pa, pb, pt, ps, pg, kt, sc⟩
  | _ => ⟨default, default, default, default, default, 0, default⟩
noncomputable def intD : Value → Int × Tok
  | .int i t => (i, t)
  | _ => (0, 0)
noncomputable def boolD : Value → Bool
  | .bool b => b
  | _ => false
structure CodeOk (K : Params → KT) (a c T : Addr) : Prop where
  code : ∀ P L, (envOf K P a L).code = .ref c
  obj : ∀ P, (ktd K P).get c = some (objD K P c)
  cls : ∀ P, (objD K P c).cls = .type "code"
  dat : ∀ P, (objD K P c).data = .fields (fldD (objD K P c).data)
  f11 : ∀ P, (fldD (objD K P c).data)[11]? = some (.ref T)
  f18 : ∀ P, (fldD (objD K P c).data).getD 18 .none = .str (strD (fldD (objD K P c).data)[18]?).1 (strD (fldD (objD K P c).data)[18]?).2
  f7 : ∀ P, (fldD (objD K P c).data).getD 7 .none = .int (intD ((fldD (objD K P c).data).getD 7 .none)).1 (intD ((fldD (objD K P c).data).getD 7 .none)).2
  f9 : ∀ P, (fldD (objD K P c).data).getD 9 .none = .bool (boolD ((fldD (objD K P c).data).getD 9 .none))
  f10 : ∀ P, (fldD (objD K P c).data).getD 10 .none = .int (intD ((fldD (objD K P c).data).getD 10 .none)).1 (intD ((fldD (objD K P c).data).getD 10 .none)).2
  ne : c ≠ T
structure GenOk (K : Params → KT) (a : Addr) (q : Params → GQ) : Prop where
  hco : ∀ P, (q P).scope.isCoroutine = false
  hclos : ∀ P L, closureFor (q P).scope (envOf K P a L) = pure []
  hcell : ∀ P, ((q P).scope.names.all fun y => y.2 != .cell) = true
  h0 : ∀ P, (q P).scope.names.lookup (".0" : Str) = some NameKind.local
  hfws : ∀ P, (q P).scope.names.lookup ("fws" : Str) = some NameKind.local
  hpart : ∀ P, (q P).scope.names.lookup ("part" : Str) = some NameKind.local
  kind : ∀ P, (q P).scope.kind = .function
section
variable {K : Params → KT} [ok : Nonempty (KOk K)] {P : Params} {dr : Source → Nat → Nat} {fz : List Ent}
theorem isCode_of {a c T : Addr} (o : CodeOk K a c T) {h : Heap} (hi : inv K P fz h) (ht : tabFine h T) : ∃ ps, h.IsCode c T ps ∧ h.TableAt c T ps ∧ h.get? T = some (tableObj ps) := by
  obtain ⟨ps, hp, tr⟩ := ht
  have hc := hi.1 _ _ (o.obj P)
  have g11 : (fldD (objD K P c).data).getD 11 .none = .ref T := by
    rw [Array.getD_eq_getD_getElem?, o.f11 P]; rfl
  exact ⟨ps, ⟨_, _, _, _, _, _, _, _, _, _, hc, o.dat P, g11, o.f18 P, o.f7 P, o.f9 P, o.f10 P, hp, rfl, tr, o.ne⟩, ⟨⟨_, _, hc, o.cls P, o.dat P, o.f11 P⟩, hp⟩, hp⟩
theorem passing_len (n : Nat) : (passing (fun _ => true) n 0).length = n := by simp [passing, List.filter_eq_self.mpr]
theorem passing_get {n j i : Nat} (h : (passing (fun _ => true) n 0)[j]? = some i) : i = j ∧ j < n := by
  have e : passing (fun _ => true) n 0 = List.range n := by simp [passing, List.filter_eq_self.mpr]
  rw [e] at h
  obtain ⟨hj, e'⟩ := List.getElem?_eq_some_iff.mp h
  simp at hj e'
  exact ⟨e'.symm, hj⟩
theorem inv_keep {h h' : Heap} (hi : inv K P fz h) (hs : 217 ≤ h'.objs.size) (hk : ∀ b o, h.get? b = some o → h'.get? b = some o) : inv K P fz h' :=
  ⟨fun a o e => hk a o (hi.1 a o e), (let ⟨ps, e, t⟩ := hi.2.1; ⟨ps, hk _ _ e, t⟩), (let ⟨ps, e, t⟩ := hi.2.2.1; ⟨ps, hk _ _ e, t⟩), hs, fun p hp => hk _ _ (hi.2.2.2.2.1 p hp), hi.2.2.2.2.2⟩
theorem inv_tab {T : Addr} (hT : T = 140 ∨ T = 147) {h h' : Heap} (hi : inv K P fz h) (hs : h.objs.size ≤ h'.objs.size) (hk : Heap.ExtBut T h h') (ht : tabFine h' T) : inv K P fz h' := by
  refine ⟨fun a o e => hk a o ?_ (hi.1 a o e), ?_, ?_, Nat.le_trans hi.2.2.2.1 hs, fun p hp => hk p.1 _ ?_ (hi.2.2.2.2.1 p hp), hi.2.2.2.2.2⟩
  · have := ktd_get e
    rcases hT with rfl | rfl
    · exact this.2.1
    · exact this.2.2
  · rcases hT with rfl | rfl
    · exact ht
    · obtain ⟨ps, e, t⟩ := hi.2.1
      exact ⟨ps, hk 140 _ (by decide) e, t⟩
  · rcases hT with rfl | rfl
    · obtain ⟨ps, e, t⟩ := hi.2.2.1
      exact ⟨ps, hk 147 _ (by decide) e, t⟩
    · exact ht
  · have := hi.2.2.2.2.2 p hp
    intro z
    rw [z] at this
    rcases hT with rfl | rfl
    · exact absurd this (by decide)
    · exact absurd this (by decide)
theorem tab_of {T : Addr} (hT : T = 140 ∨ T = 147) {h : Heap} (hi : inv K P fz h) : tabFine h T := by
  rcases hT with rfl | rfl
  · exact hi.2.1
  · exact hi.2.2.1
theorem wpAny_refOf {M : Model} {A : Around} {t : Sem Addr} {Q : Addr → Shared → Prop} {E : Value → Shared → Prop} {s : Shared}
    (h : wpAny M A (t >>= fun b => pure (Value.ref b)) (fun v s' => ∀ b, v = .ref b → Q b s') E s) : wpAny M A t Q E s := by
  intro Γ p hΓ
  have z : Sem.wp M Γ (Sem.bind t fun b => pure (Value.ref b)) _ _ p s := h Γ p hΓ
  rw [Sem.wp_bind] at z
  exact Sem.wp_mono M Γ t (fun b p' s' h' => (show ∀ b', Value.ref b = .ref b' → Q b' s' from h') b rfl) (fun _ _ _ h' => h') p s z
theorem gen_go {a c T : Addr} (co : CodeOk K a c T) (hT : T = 140 ∨ T = 147) (rit : ok_git K) {q : Params → GQ} (go : GenOk K a q) {elt : PySem.Expr} {ac ad e L n : Nat} {xs : Array Value} {es : Array DictEntry} {t1 t2 j1 j2 : List Nat} {i1 i2 : Nat}
    (rs : ∀ N tk, RunsA K P 5 20 4000 (fEval (.Name "self" (q P).ps) (envOf K P a L) >>= asFin) [(ac, accO ad xs e), (L, frmO es n)] N tk (sF t1 (.ok (.ret (.ref ac))) j1 [(ac, accO ad xs e), (L, frmO es n)] 0 i1))
    (rb : ∀ N tk, RunsA K P 5 20 4000 ((builtinsFor (envOf K P a L).globals (envOf K P a L).builtins >>= fun x => pure (Value.ref x)) >>= asFin) [] N tk (sF t2 (.ok (.ret (.ref 0))) j2 [] 0 i2))
    (Ts : Nat → Addr) (va vb : Nat → Value) (F : Nat → Value → Prop) (hit : ∀ j, j < xs.size → xs[j]? = some (.ref (Ts j)))
    {A : Around} {Q : Value → Shared → Prop} {E : Value → Shared → Prop} {h : Heap} {g : Array GenState} {d : Drawn} {tk : Nat} {os : OsState}
    (room : Room A 5 20) (hi : inv K P fz h) (hB : AllBare g) (has : Has h [(ac, accO ad xs e), (L, frmO es n)]) (hlo : ∀ p ∈ [(ac, accO ad xs e), (L, frmO es n)], OwnA fz p.1) (nd : ([(ac, accO ad xs e), (L, frmO es n)].map (·.1)).Nodup)
    (hTs : ∀ j, j < xs.size → (Ts j, tupO #[va j, vb j]) ∈ fz)
    (hq : ∀ (C I : Addr) (code : Value) (href : Heap), inv K P fz href → 217 ≤ C → 217 ≤ I →
      QuietGenTD prg ⟨dr, P⟩ (genEnv (q P).scope [] C code 0 (envOf K P a L)) "fws" "part" [] elt (List.range C) [I] (fun j v => j < xs.size ∧ v = #[va j, vb j]) (fun _ => true) F href (A.depth + 1) (A.units + 8))
    (H : ∀ (s5 : Shared) (ga C I gi : Nat), inv K P fz s5.heap → AllBare s5.gens → s5.drawn = d → s5.os = os → h.objs.size ≤ C → h.objs.size ≤ I → C < s5.heap.objs.size → ga < s5.heap.objs.size → C < ga → I < C → Keep (WI K P fz) h s5.heap [] → s5.heap.IsGen ga gi →
      WalksS prg ⟨dr, P⟩ A.in4 ga (ga :: C :: List.range C) (C :: [I]) (GenOnlyQ gi) (passing (fun _ => true) xs.size 0).length (fun j y => ∃ i, (passing (fun _ => true) xs.size 0)[j]? = some i ∧ F i y) (GenAt prg ⟨dr, P⟩ A.in4 ga gi C (List.range C) [I] (fun _ => true) xs.size F) →
      GenAt prg ⟨dr, P⟩ A.in4 ga gi C (List.range C) [I] (fun _ => true) xs.size F 0 s5 → Q (.ref ga) s5) :
    wpAny (model prg ⟨dr, P⟩) A (eval (genE elt (q P)) (envOf K P a L)) Q E ⟨h, g, d, tk, os⟩ := by
  refine wpAny_GeneratorExp_walksQTD room.1 (go.hco P) (go.hclos P L) (fun y hy => ?_) (go.h0 P) (go.hfws P) (go.hpart P) (by decide) (go.kind P) (by have := room.2.1; exact ar170 this) ?_ (fun x => rfl)
  · have := List.all_eq_true.mp (go.hcell P) y hy
    simpa using this
  rw [fPyIter_eq, fEval_eq]
  have keep0 : ∀ {h h' : Heap}, Has h' [(ac, accO ad xs e), (L, frmO es n)] → Has h [(ac, accO ad xs e), (L, frmO es n)] → Keep (WI K P fz) h h' ([(ac, accO ad xs e), (L, frmO es n)].map (·.1)) → Keep (WI K P fz) h h' [] := by
    intro h h' z y kp b o' e' _ h2
    by_cases hb : b ∈ ([(ac, accO ad xs e), (L, frmO es n)].map (·.1))
    · obtain ⟨p, hp, hpe⟩ := List.mem_map.mp hb
      have e1 := y p hp
      rw [hpe, e'] at e1
      have e2 := z p hp
      rw [hpe] at e2
      rw [e2, e1]
    · exact kp b o' e' hb h2
  refine run_val (rs _ _) room hi hB has hlo nd fun h1 g1 hi1 hB1 hs1 has1' hk1 => ?_
  have s1 : h1.objs.size = h.objs.size := hs1
  refine run_val (rit P ac ad e L n xs es _ _) room hi1 hB1 has1' hlo nd fun h2 g2 hi2 hB2 hs2 has2' hk2 => ?_
  have s2 : h2.objs.size = h1.objs.size + 1 := hs2
  refine ⟨(WI K P fz).nolim h2 hi2, ?_⟩
  have has2'' : Has h2 [(ac, accO ad xs e), (L, frmO es n)] := has_pair (has0 has2') (Mine.has1 has2')
  have hI2 : h2.get? (h1.objs.size + 0) = some (litO ac 0) := Mine.has2 has2'
  have kp2 : Keep (WI K P fz) h h2 [] := keep_trans (keep0 has1' has hk1) (keep0 has2'' has1' hk2)
  obtain ⟨ps, hcode, htab, _⟩ := isCode_of co hi2 (tab_of hT hi2)
  have fin3 : ∀ (code : Value) (h3 : Heap) (tk3 : Nat), inv K P fz h3 → h2.objs.size ≤ h3.objs.size → Heap.ExtBut T h2 h3 →
      wpAny (model prg ⟨dr, P⟩) A (builtinsFor (envOf K P a L).globals (envOf K P a L).builtins) (fun bi s₄ =>
        ∃ I fp wr n₀ Pt St₀ Mid pz F, (Value.ref (h1.objs.size + 0)) = .ref I ∧ (∀ A' : Around, A'.handled = none → WalksU prg ⟨dr, P⟩ A' I fp wr n₀ Pt St₀ Mid) ∧ (∀ i vals, Pt i vals → ∃ va vb, vals = #[va, vb]) ∧ St₀ 0 s₄.heap ∧ (∀ b ∈ fp, b < s₄.heap.objs.size) ∧ s₄.heap.NoLimit ∧ cStatics ∉ wr ∧
          (∀ href : Heap, (∀ b o, s₄.heap.get? b = some o → href.get? b = some o) →
            QuietGenTD prg ⟨dr, P⟩ (genEnv (q P).scope [] s₄.heap.objs.size code bi (envOf K P a L)) "fws" "part" [] elt (List.range s₄.heap.objs.size) wr Pt pz F href (A.depth + 1) (A.units + 8)) ∧
          (∀ a' h₅ tk gs, gs.bare = true → s₄.heap.objs.size < a' → h₅.objs.size = a' + 1 → (∀ b o, s₄.heap.get? b = some o → h₅.get? b = some o) →
            WalksS prg ⟨dr, P⟩ A.in4 a' (a' :: s₄.heap.objs.size :: List.range s₄.heap.objs.size) (s₄.heap.objs.size :: wr) (GenOnlyQ s₄.gens.size) (passing pz n₀ 0).length
              (fun j y => ∃ i, (passing pz n₀ 0)[j]? = some i ∧ F i y) (GenAt prg ⟨dr, P⟩ A.in4 a' s₄.gens.size s₄.heap.objs.size (List.range s₄.heap.objs.size) wr pz n₀ F) →
            GenAt prg ⟨dr, P⟩ A.in4 a' s₄.gens.size s₄.heap.objs.size (List.range s₄.heap.objs.size) wr pz n₀ F 0 { s₄ with gens := s₄.gens.push gs, toks := tk, heap := h₅ } →
            Q (.ref a') { s₄ with gens := s₄.gens.push gs, toks := tk, heap := h₅ })) E ⟨h3, g2, d, tk3, os⟩ := by
    intro code h3 tk3 hi3 hs3 hx3
    have hac : OwnA fz ac := hlo _ List.mem_cons_self
    have hI : OwnA fz (h1.objs.size + 0) := (WI K P fz).big h1 hi1 _ (Nat.le_refl _)
    have noT : ∀ {b : Nat}, OwnA fz b → b ≠ T := fun {b} z y => by
      have := OwnA.ge z
      rcases hT with r | r <;> (rw [y, r] at this; exact absurd this (by decide))
    refine wpAny_refOf (run_val (rb _ _) room hi3 hB2 (fun p hp => (nomatch hp)) (fun p hp => (nomatch hp)) (by simp) fun h4 g4 hi4 hB4 hs4 _ hk4 => ?_)
    intro x hx
    cases hx
    have s4 : h4.objs.size = h3.objs.size := hs4
    have up : ∀ {b : Nat} {o : Obj}, OwnA fz b → h2.get? b = some o → h4.get? b = some o := fun z e' => hk4 _ _ (hx3 _ _ (noT z) e') (by simp) (fun hm => (WI K P fz).tlo _ hm z)
    have hI4 : h4.get? (h1.objs.size + 0) = some (litO ac 0) := up hI hI2
    have ha4 : h4.get? ac = some (accO ad xs e) := up hac (has0 has2'')
    have hne : ac ≠ h1.objs.size + 0 := Nat.ne_of_lt (Heap.lt_size (has0 has1'))
    have hTf : ∀ j, j < xs.size → h4.get? (Ts j) = some (tupO #[va j, vb j]) := fun j hj => hi4.2.2.2.2.1 _ (hTs j hj)
    have hTI : ∀ j, j < xs.size → Ts j ≠ h1.objs.size + 0 := fun j hj => Nat.ne_of_lt (Heap.lt_size (hi1.2.2.2.2.1 _ (hTs j hj)))
    refine ⟨h1.objs.size + 0, _, [h1.objs.size + 0], xs.size, _, _, _, fun _ => true, F, rfl, fun A' hA => walksParts hA _ ac hne xs Ts (fun j => #[va j, vb j]) hit hTI, fun i vals hv => ⟨_, _, hv.2⟩, ?_, ?_, (WI K P fz).nolim h4 hi4, ?_, ?_, ?_⟩
    · exact ⟨⟨_, hI4, rfl, rfl⟩, ⟨_, _, ha4, rfl⟩, fun k hk => ⟨_, hTf k hk, rfl, _, rfl⟩⟩
    · intro b hb
      rcases List.mem_cons.mp hb with rfl | hb
      · exact Heap.lt_size hI4
      · rcases List.mem_cons.mp hb with rfl | hb
        · exact Heap.lt_size ha4
        · obtain ⟨k, hk, rfl⟩ := List.mem_map.mp hb
          exact Heap.lt_size (hTf k (List.mem_range.mp hk))
    · intro z
      have e1 : (2 : Nat) = h1.objs.size + 0 := List.mem_singleton.mp z
      have := OwnA.ge hI
      exact ar171 e1 this
    · intro href hk
      have h1' : ac < href.objs.size := Heap.lt_size (hk _ _ ha4)
      have h2' : 217 ≤ ac := OwnA.ge hac
      exact hq _ _ _ _ (inv_keep hi4 (Nat.le_of_lt (Nat.lt_of_le_of_lt h2' h1')) hk) hi4.2.2.2.1 (OwnA.ge hI)
    · intro a' h5 tk5 gs hgs hlt hs5 hk5 W G0
      have hlt' : h4.objs.size < a' := hlt
      have h217 : 217 ≤ h4.objs.size := hi4.2.2.2.1
      refine H _ a' h4.objs.size (h1.objs.size + 0) _ (inv_keep hi4 (show 217 ≤ h5.objs.size by exact ar172 h217 hlt' hs5) hk5) ?_ rfl rfl (show h.objs.size ≤ h4.objs.size by exact ar173 s1 s4 s2 hs3) (show h.objs.size ≤ h1.objs.size + 0 by exact ar174 s1) (show h4.objs.size < h5.objs.size by exact ar175 hlt' hs5) (show a' < h5.objs.size by exact ar176 hs5) hlt' (show h1.objs.size + 0 < h4.objs.size by exact ar177 s4 s2 hs3) ?_ G0.1 W G0
      · intro y hy
        rcases Array.mem_push.mp hy with hy | rfl
        · exact hB4 y hy
        · exact hgs
      · intro b ob eb _ hb2
        have e2 := kp2 b ob eb (by simp) hb2
        have hbT : b ≠ T := fun z => hb2 (by
          rcases hT with r | r
          · rw [z, r]; exact List.mem_cons_self
          · rw [z, r]; exact List.mem_cons_of_mem _ List.mem_cons_self)
        exact hk5 _ _ (hk4 _ _ (hx3 _ _ hbT e2) (by simp) hb2)
  cases hf : codeAmong (q P).pg ps.toList with
  | none =>
    refine wpAny_genexprCodeX (co.code P L) hcode htab hf fun c' h3 tk3 hx hge hlt hc' _ ht' _ => fin3 (.ref c') h3 tk3 ?_ (Nat.le_of_lt (Nat.lt_of_le_of_lt hge hlt)) hx
    obtain ⟨_, _, _, _, _, _, _, _, _, _, _, _, _, _, _, _, _, hp2, hd2, htr, _⟩ := hc'
    exact inv_tab hT hi2 (Nat.le_of_lt (Nat.lt_of_le_of_lt hge hlt)) hx ⟨_, ht'.2, htr⟩
  | some c' => exact wpAny_genexprCode_hit (co.code P L) hcode hf (fin3 c' h2 _ hi2 (Nat.le_refl _) fun _ _ _ e' => e')
end
structure LQ where
  p0 : Pos
  g : GQ
  a0 : Pos
  a1 : Pos
  a2 : Pos
  b0 : Pos
  b1 : Pos
  b2 : Pos
  bp : Pos
  q0 : Pos
  q1 : Pos
  pc : Pos
  pr : Pos
noncomputable def lenElt (q : LQ) : PySem.Expr := .BinOp (.Call (.Name "len" q.a0) [.Name "fws" q.a1] [] q.a2) .Add (.Call (.Name "len" q.b0) [.Name "part" q.b1] [] q.b2) q.bp
noncomputable def lenStmt (q : LQ) : Stmt := .Return (some (.Call (.Name "sum" q.p0) [genE (lenElt q) q.g, .Attribute (.Name "self" q.q0) "_initial_size" q.q1] [] q.pc)) q.pr
noncomputable def dPos : Pos := default
noncomputable def lenQ : Stmt → LQ
  | .Return (some (.Call (.Name _ p0) [.GeneratorExp (.BinOp (.Call (.Name _ a0) [.Name _ a1] _ a2) _ (.Call (.Name _ b0) [.Name _ b1] _ b2) bp) gs sc pg, .Attribute (.Name _ q0) _ q1] _ pc)) pr =>
    ⟨p0, genQ (.GeneratorExp (.Name "x" dPos) gs sc pg), a0, a1, a2, b0, b1, b2, bp, q0, q1, pc, pr⟩
  | _ => ⟨dPos, genQ (.Name "x" dPos), dPos, dPos, dPos, dPos, dPos, dPos, dPos, dPos, dPos, dPos, dPos⟩
structure SQ where
  p0 : Pos
  g : GQ
  e0 : Pos
  e1 : Pos
  x0 : Pos
  x1 : Pos
  xk : Nat
  xp : Pos
  ep : Pos
  jp : Pos
  pc : Pos
  pr : Pos
noncomputable def strElt (q : SQ) : PySem.Expr := .Call (.Attribute (.Name "EMPTYSTRING" q.e0) "join" q.e1) [.Tuple [.Name "fws" q.x0, .Name "part" q.x1] q.xk q.xp] [] q.ep
noncomputable def strStmt (q : SQ) : Stmt := .Return (some (.Call (.Attribute (.Name "EMPTYSTRING" q.p0) "join" q.jp) [genE (strElt q) q.g] [] q.pc)) q.pr
noncomputable def strQ : Stmt → SQ
  | .Return (some (.Call (.Attribute (.Name _ p0) _ jp) [.GeneratorExp (.Call (.Attribute (.Name _ e0) _ e1) [.Tuple [.Name _ x0, .Name _ x1] xk xp] _ ep) gs sc pg] _ pc)) pr =>
    ⟨p0, genQ (.GeneratorExp (.Name "x" dPos) gs sc pg), e0, e1, x0, x1, xk, xp, ep, jp, pc, pr⟩
  | _ => ⟨dPos, genQ (.Name "x" dPos), dPos, dPos, dPos, dPos, 0, dPos, dPos, dPos, dPos, dPos⟩
noncomputable def strTok (K : Params → KT) (P : Params) : Nat := match (objD K P 3).data with
  | .dict es _ => match es.find? fun e => e.key.isStr "EMPTYSTRING" with
    | some ⟨_, _, .str _ t⟩ => t
    | _ => 0
  | _ => 0
section
variable {K : Params → KT} [ok : Nonempty (KOk K)] {P : Params} {dr : Source → Nat → Nat} {fz : List Ent}
noncomputable def WIg (K : Params → KT) [ok : Nonempty (KOk K)] (P : Params) (fz : List Ent) (g : Array GenState) : IV := { WI K P fz with B := (fun x => x = g), tabs := [], tlo := fun a ha => (nomatch ha) }
theorem run_valG {t : Sem Value} {pre : List Ent} {dep un f : Nat} {tr : List Nat} {r : Result} {ix : List Nat} {sel : List Ent} {m j : Nat} {A : Around} {h : Heap} {g : Array GenState} {d : Drawn} {tk : Nat} {os : OsState} {Q E' : Value → Shared → Prop}
    (hrun : RunsA K P dep un f (t >>= asFin) pre h.objs.size tk (sF tr r ix sel m j)) (room : Room A dep un) (hi : inv K P fz h) (has : Has h pre) (hlo : ∀ p ∈ pre, OwnA fz p.1) (nd : (pre.map (·.1)).Nodup)
    (hg : ∀ h', inv K P fz h' → h'.objs.size = h.objs.size + m → Has h' sel → (∀ b o, h.get? b = some o → b ∉ pre.map (·.1) → h'.get? b = some o) → wants Q E' r ⟨h', g, d, tk + j, os⟩) : wpAny (model prg ⟨dr, P⟩) A t Q E' ⟨h, g, d, tk, os⟩ := by
  have hg' : Good ⟨WIg K P fz g, prg, ⟨dr, P⟩, A, wants Q E', h, pre.map (·.1), d, os, true⟩ (.fin r sel h.objs.size m (tk + j)) := fun h' g' hi' hB' hs' has' hk' _ => by
    have e : g' = g := hB'
    subst e
    exact hg h' hi' hs' has' fun b o e hb => hk' b o e hb (by intro z; cases z)
  have e2 : (runA K P dep un f (t >>= asFin) pre h.objs.size tk (sF tr r ix sel m j).1).strip = Res.fin r sel h.objs.size m (tk + j) := hrun.2
  rw [← e2] at hg'
  have H' := good_of_strip _ _ hrun.1 hg'
  exact wpAny_of_fin (ck_sound ⟨WIg K P fz g, prg, ⟨dr, P⟩, A, wants Q E', h, pre.map (·.1), d, os, true⟩ ⟨⟨prg, P⟩, ktd K P, dep, un, true⟩ rfl rfl rfl room f default [] (t >>= asFin) pre h.objs.size 0 tk 0 (sF tr r ix sel m j).1 h g H'
    ⟨hi, rfl, has, nd, hlo, fun p hp => .inl (List.mem_map.mpr ⟨p, hp, rfl⟩), fun b o e _ _ => e, Nat.le_refl _⟩ rfl)
end
noncomputable def sc_lsum (K : Params → KT) (P : Params) (ac ad e L s0 : Nat) (xs : Array Value) (p : Pos) (N tk : Nat) : Sc :=
  sF [0, 0] (.ok (.ret (.builtin "sum"))) [0, 1] [(ac, accO ad xs e), (L, frmO #[dEnt P "self" s0 (.ref ac)] 1)] 0 0
noncomputable def ok_lsum (K : Params → KT) : Prop := ∀ P ac ad e L s0 xs p N tk,
  RunsA K P 5 20 4000 (fEval (.Name "sum" p) (envOf K P 145 L) >>= asFin) [(ac, accO ad xs e), (L, frmO #[dEnt P "self" s0 (.ref ac)] 1)] N tk (sc_lsum K P ac ad e L s0 xs p N tk)
noncomputable def sc_llen (K : Params → KT) (P : Params) (C L : Nat) (code : Value) (p : Pos) (N tk : Nat) : Sc :=
  sF [0, 0] (.ok (.ret (.builtin "len"))) [] [] 0 0
noncomputable def ok_llen (K : Params → KT) : Prop := ∀ P C L code p N tk,
  RunsA K P 5 20 4000 (fEval (.Name "len" p) (genEnv (lenQ (stmtOf K P 145 0)).g.scope [] C code 0 (envOf K P 145 L)) >>= asFin) [] N tk (sc_llen K P C L code p N tk)
noncomputable def sc_latt (K : Params → KT) (P : Params) (ac ad e L s0 a b : Nat) (xs : Array Value) (q0 q1 : Pos) (N tk : Nat) : Sc :=
  sF [4, 3, 0, 0, 0, 0, 0, 0, 3, 0, 3, 0, 0, 0, 3, 3, 0, 5] (.ok (.ret (.int 0 b))) [0, 1, 2] [(ac, accO ad xs e), (L, frmO #[dEnt P "self" s0 (.ref ac)] 1), (ad, accD P a b)] 0 1
noncomputable def ok_latt (K : Params → KT) : Prop := ∀ P ac ad e L s0 a b xs q0 q1 N tk,
  RunsA K P 5 20 4000 (fEval (.Attribute (.Name "self" q0) "_initial_size" q1) (envOf K P 145 L) >>= asFin) [(ac, accO ad xs e), (L, frmO #[dEnt P "self" s0 (.ref ac)] 1), (ad, accD P a b)] N tk (sc_latt K P ac ad e L s0 a b xs q0 q1 N tk)
noncomputable def sc_semp (K : Params → KT) (P : Params) (C L : Nat) (code : Value) (p : Pos) (N tk : Nat) : Sc :=
  sF [0] (.ok (.ret (.str "" (strTok K P)))) [] [] 0 0
noncomputable def ok_semp (K : Params → KT) : Prop := ∀ P C L code p N tk,
  RunsA K P 5 20 4000 (fEval (.Name "EMPTYSTRING" p) (genEnv (strQ (stmtOf K P 152 0)).g.scope [] C code 0 (envOf K P 152 L)) >>= asFin) [] N tk (sc_semp K P C L code p N tk)
noncomputable def sc_semp2 (K : Params → KT) (P : Params) (ac ad e L s0 : Nat) (xs : Array Value) (p : Pos) (N tk : Nat) : Sc :=
  sF [0] (.ok (.ret (.str "" (strTok K P)))) [0, 1] [(ac, accO ad xs e), (L, frmO #[dEnt P "self" s0 (.ref ac)] 1)] 0 0
noncomputable def ok_semp2 (K : Params → KT) : Prop := ∀ P ac ad e L s0 xs p N tk,
  RunsA K P 5 20 4000 (fEval (.Name "EMPTYSTRING" p) (envOf K P 152 L) >>= asFin) [(ac, accO ad xs e), (L, frmO #[dEnt P "self" s0 (.ref ac)] 1)] N tk (sc_semp2 K P ac ad e L s0 xs p N tk)
structure OkLen (K : Params → KT) : Prop where
  body : ∀ P, bodyOf K P 145 = [lenStmt (lenQ (stmtOf K P 145 0))]
  code : CodeOk K 145 144 140
  gen : GenOk K 145 (fun P => (lenQ (stmtOf K P 145 0)).g)
  r0 : ok_ge145 K
  rs : ok_gs145 K
  rb : ok_gb145 K
  rit : ok_git K
  rsum : ok_lsum K
  rlen : ok_llen K
  ratt : ok_latt K
section
variable {K : Params → KT} [ok : Nonempty (KOk K)] {P : Params} {dr : Source → Nat → Nat} {fz : List Ent}
theorem keeps_refl (s : Shared) : Keeps s s := ⟨s.heap, s.toks, rfl, fun _ _ e => e⟩
theorem inv_href {href h : Heap} {C I : Addr} (hi : inv K P fz href) (hC : 217 ≤ C) (hI : 217 ≤ I) (hs : 217 ≤ h.objs.size) (hk : ∀ b ∈ List.range C, b ∉ [I] → ∀ o, href.get? b = some o → h.get? b = some o) : inv K P [] h := by
  have up : ∀ {b : Nat} {o : Obj}, b < 217 → href.get? b = some o → h.get? b = some o := fun hb e => hk _ (List.mem_range.mpr (Nat.lt_of_lt_of_le hb hC)) (fun z => by
    have e1 := List.mem_singleton.mp z
    rw [e1] at hb
    exact absurd hb (Nat.not_lt_of_le hI)) _ e
  exact ⟨fun a o e => up (ktLow_get' e) (hi.1 a o e), (let ⟨ps, e, t⟩ := hi.2.1; ⟨ps, up (by decide) e, t⟩), (let ⟨ps, e, t⟩ := hi.2.2.1; ⟨ps, up (by decide) e, t⟩), hs, fun p hp => (nomatch hp), fun p hp => (nomatch hp)⟩
where
  ktLow_get' {a : Addr} {o : Obj} (e : (ktd K P).get a = some o) : a < 217 := by
    have q : 1 * a + 0 < 217 := ktLow_get ((kok K).low P) (ktd_get e).1
    rw [Nat.one_mul, Nat.add_zero] at q
    exact q
theorem len_of (o : OkLen K) {L : Nat} {C : Addr} {code : Value} {A : Around} {x : Str} {p p1 p2 : Pos} {y : Str} {ty : Tok} {m : Str → Option Value} {Q E : Value → Shared → Prop} {h : Heap} {g : Array GenState} {d : Drawn} {tk : Nat} {os : OsState} (rm : Room A 5 20)
    (hi : inv K P [] h) (hn : h.Ns C m) (hx : (lenQ (stmtOf K P 145 0)).g.scope.names.lookup x = some NameKind.local) (hdb : (x == ("__debug__" : Str)) = false) (hm : m x = some (.str y ty)) (hy : y.length ≤ 1000)
    (H : ∀ (h' : Heap) (tk' t' : Nat), inv K P [] h' → (∀ b ob, h.get? b = some ob → h'.get? b = some ob) → Q (.int (y.length : Int) t') ⟨h', g, d, tk', os⟩) :
    wpAny (model prg ⟨dr, P⟩) A (eval (.Call (.Name "len" p) [.Name x p1] [] p2) (genEnv (lenQ (stmtOf K P 145 0)).g.scope [] C code 0 (envOf K P 145 L))) Q E ⟨h, g, d, tk, os⟩ := by
  refine wpAny_Call_NameR ?_
  rw [fEval_eq]
  refine run_valG (o.rlen P C L code p _ _) rm hi (fun q hq => (nomatch hq)) (fun q hq => (nomatch hq)) (by simp) fun h1 hi1 hs1 _ hk1 => ?_
  have up : ∀ b ob, h.get? b = some ob → h1.get? b = some ob := fun b ob e => hk1 b ob e (by simp)
  show wpAny _ A (callWith p2 (.builtin "len") [] [(false, eval (.Name x p1) (genEnv (lenQ (stmtOf K P 145 0)).g.scope [] C code 0 (envOf K P 145 L)))] []) Q E _
  refine callWith_builtin1 (wpAny_Name (wpAny_loadName_local (m := m) (v := .str y ty) (o.gen.kind P) hx (hn.keeps up) hm ?_) hdb)
  refine PySem.P.len_str (ar269 hy) ?_
  exact H _ _ _ hi1 up
theorem quiet_len (o : OkLen K) {L n D U : Nat} (f w : Nat → Str) (tf tw : Nat → Nat) (hf : ∀ j, (f j).length ≤ 1000 ∧ (w j).length ≤ 1000) (hD : D + 5 < recursionLimit) (hU : U + 20 < cLine)
    (C I : Addr) (code : Value) (href : Heap) (hi : inv K P fz href) (hC : 217 ≤ C) (hI : 217 ≤ I) :
    QuietGenTD prg ⟨dr, P⟩ (genEnv (lenQ (stmtOf K P 145 0)).g.scope [] C code 0 (envOf K P 145 L)) "fws" "part" [] (lenElt (lenQ (stmtOf K P 145 0))) (List.range C) [I] (fun j v => j < n ∧ v = #[.str (f j) (tf j), .str (w j) (tw j)]) (fun _ => true)
      (fun j y => ∃ t, y = .int (((f j).length : Int) + ((w j).length : Int)) t) href D U where
  tests := fun A' E' i va vb s₂ m₂ hA _ _ _ _ _ _ _ => wpAny_pure ⟨rfl, keeps_refl s₂⟩
  elt := fun A' E' i va vb s₂ m₂ hA hd hu hP _ hn ha hb hk => by
    obtain ⟨hlt, hv⟩ := hP
    have e1 : va = .str (f i) (tf i) := by
      have := congrArg (fun a : Array Value => a[0]?) hv
      simpa using this
    have e2 : vb = .str (w i) (tw i) := by
      have := congrArg (fun a : Array Value => a[1]?) hv
      simpa using this
    subst e1 e2
    obtain ⟨h2, g2, d2, tk2, os2⟩ := s₂
    have rm : Room A' 5 20 := ⟨hA, ar297 hD hd, ar298 hU hu⟩
    have hs2 : 217 ≤ h2.objs.size := Nat.le_of_lt (Nat.lt_of_le_of_lt hC hn.lt)
    have hi2 : inv K P [] h2 := inv_href hi hC hI hs2 hk
    refine wpAny_BinOp ?_
    refine len_of o rm hi2 hn (o.gen.hfws P) (by decide) ha (hf i).1 fun h3 tk3 t3 hi3 k3 => ?_
    refine len_of o rm hi3 (hn.keeps k3) (o.gen.hpart P) (by decide) hb (hf i).2 fun h4 tk4 t4 hi4 k4 => ?_
    exact PySem.P.add_int ⟨⟨_, rfl⟩, _, _, rfl, fun b ob e => k4 b ob (k3 b ob e)⟩
theorem inv_but {h h' : Heap} {wr : List Addr} (hi : inv K P fz h) (hs : 217 ≤ h'.objs.size) (hw : ∀ b ∈ wr, OwnA fz b) (hk : ∀ b o, b ∉ wr → h.get? b = some o → h'.get? b = some o) : inv K P fz h' := by
  have low : ∀ {b : Nat}, b < 217 → b ∉ wr := fun {b} hb hm => absurd hb (Nat.not_lt_of_le (OwnA.ge (hw b hm)))
  exact ⟨fun a o e => hk a o (low (inv_href.ktLow_get' e)) (hi.1 a o e), (let ⟨ps, e, t⟩ := hi.2.1; ⟨ps, hk _ _ (low (by decide)) e, t⟩), (let ⟨ps, e, t⟩ := hi.2.2.1; ⟨ps, hk _ _ (low (by decide)) e, t⟩), hs,
    fun p hp => hk _ _ (fun hm => (hw _ hm).2 (List.mem_map.mpr ⟨p, hp, rfl⟩)) (hi.2.2.2.2.1 p hp), hi.2.2.2.2.2⟩
theorem keep_full {h h' : Heap} {pre : List Ent} (hs : Has h pre) (hs' : Has h' pre) (hk : ∀ b o, h.get? b = some o → b ∉ pre.map (·.1) → h'.get? b = some o) : ∀ b o, h.get? b = some o → h'.get? b = some o := by
  intro b o e
  by_cases hb : b ∈ pre.map (·.1)
  · obtain ⟨p, hp, hpe⟩ := List.mem_map.mp hb
    have e1 := hs p hp
    rw [hpe, e] at e1
    have e2 := hs' p hp
    rw [hpe] at e2
    rw [e2, e1]
  · exact hk b o e hb
theorem has_three {h : Heap} {p q r : Ent} (hp : h.get? p.1 = some p.2) (hq : h.get? q.1 = some q.2) (hr : h.get? r.1 = some r.2) : Has h [p, q, r] := fun x hx => by
  rcases List.mem_cons.mp hx with rfl | hx
  · exact hp
  · exact has_pair hq hr x hx
theorem own_three {p q r : Ent} (hp : OwnA fz p.1) (hq : OwnA fz q.1) (hr : OwnA fz r.1) : ∀ x ∈ [p, q, r], OwnA fz x.1 := fun x hx => by
  rcases List.mem_cons.mp hx with rfl | hx
  · exact hp
  · exact own_pair hq hr x hx
theorem nd_three {a b c : Nat} {o o' o'' : Obj} (h1 : a ≠ b) (h2 : a ≠ c) (h3 : b ≠ c) : ([((a, o) : Ent), (b, o'), (c, o'')].map (·.1)).Nodup := by simp [h1, h2, h3]
theorem preSum_bound (val : Nat → Int) (m : Int) (hv : ∀ j, 0 ≤ val j ∧ val j ≤ m) : ∀ n : Nat, 0 ≤ preSum val n ∧ preSum val n ≤ n * m
  | 0 => by simp [preSum]
  | n + 1 => by
    have ih := preSum_bound val m hv n
    have := hv n
    simp only [preSum]
    have e : ((n + 1 : Nat) : Int) * m = n * m + m := by push_cast; rw [Int.add_mul, Int.one_mul]
    rw [e]
    exact ar299 ih this
theorem con_acclen (o : OkLen K) {ac ad e a b : Nat} {xs : Array Value} (Ts : Nat → Addr) (f w : Nat → Str) (tf tw : Nat → Nat) (hf : ∀ j, (f j).length ≤ 1000 ∧ (w j).length ≤ 1000) (hsz : xs.size ≤ 1000)
    (hit : ∀ j, j < xs.size → xs[j]? = some (.ref (Ts j))) (hTs : ∀ j, j < xs.size → (Ts j, tupO #[.str (f j) (tf j), .str (w j) (tw j)]) ∈ fz) :
    CON K P dr fz (.call (.ref 145) ⟨[.ref ac], []⟩) [(ac, accO ad xs e), (ad, accD P a b)] 30 100 (fun v => ⟨.ok (.ret (.int (preSum (fun j => ((f j).length : Int) + ((w j).length : Int)) xs.size) (v 0))), [], []⟩) := by
  intro A h g d tk os R room hi hB has hlo nd hR
  have hL : OwnA fz ac := hlo _ List.mem_cons_self
  have hD : OwnA fz ad := hlo _ (List.mem_cons_of_mem _ List.mem_cons_self)
  have hlt : ac < h.objs.size := Heap.lt_size (has0 has)
  have hltd : ad < h.objs.size := Heap.lt_size (has1 has)
  have hN : OwnA fz h.objs.size := (WI K P fz).big h hi _ (Nat.le_refl _)
  have hne : ac ≠ ad := by
    intro z
    rw [List.map_cons, List.nodup_cons] at nd
    exact nd.1 (by simp [z])
  refine code_run (o.r0 P ac ad e xs h.objs.size tk) (rl room) hi hB (fun q hq => has q (by rw [List.mem_singleton.mp hq]; exact List.mem_cons_self)) (fun q hq => hlo q (by rw [List.mem_singleton.mp hq]; exact List.mem_cons_self)) (by simp) ?_
  intro h1 g1 hi1 hB1 hs1 has1' hk1
  have rm : Room (A.deeper (envOf K P 145 h.objs.size)) 15 60 := room_deeper (rl room)
  have hs1' : h1.objs.size = h.objs.size + 1 := hs1
  have hd1 : h1.get? ad = some (accD P a b) := hk1 ad _ (has1 has) (fun z => hne (List.mem_singleton.mp z).symm) (fun z => (WI K P fz).tlo _ z hD)
  refine ks_codeAny_funcAt ?_
  show PySem.wpAt (model prg ⟨dr, P⟩) (A.deeper (envOf K P 145 h.objs.size)) (.func (bodyOf K P 145) (envOf K P 145 h.objs.size)) (execs (bodyOf K P 145) (envOf K P 145 h.objs.size)) (fun f s' => R (.ok (.ret (match f with | .ret v => v | _ => .none))) s') _ ⟨h1, g1, d, tk + 1, os⟩
  rw [o.body P]
  refine ks_wpAt_execs_cons (ks_wpAt_Return_some (PySem.wpAt_of_wpAny ?_))
  refine wpAny_Call_NameR ?_
  rw [fEval_eq]
  refine run_val (o.rsum P ac ad e h.objs.size (tk + 0) xs _ _ _) (rl rm) hi1 hB1 has1' (own_pair hL hN) (nd_pair (Nat.ne_of_lt hlt)) fun h2 g2 hi2 hB2 hs2 has2' hk2 => ?_
  have hs2' : h2.objs.size = h1.objs.size := hs2
  show wpAny _ _ (callWith _ (.builtin "sum") [] [(false, eval (genE (lenElt (lenQ (stmtOf K P 145 0))) (lenQ (stmtOf K P 145 0)).g) (envOf K P 145 h.objs.size)), (false, eval (.Attribute (.Name "self" (lenQ (stmtOf K P 145 0)).q0) "_initial_size" (lenQ (stmtOf K P 145 0)).q1) (envOf K P 145 h.objs.size))] []) _ _ _
  refine Calls.callWith_builtin rfl (Calls.evalArgs_plain (Calls.spliced_cons ?_))
  refine gen_go (q := fun P => (lenQ (stmtOf K P 145 0)).g) o.code (.inl rfl) o.rit o.gen (fun N tk' => o.rs P ac ad e h.objs.size (tk + 0) xs _ N tk') (fun N tk' => o.rb P h.objs.size N tk') Ts (fun j => .str (f j) (tf j)) (fun j => .str (w j) (tw j)) (fun j y => ∃ t, y = .int (((f j).length : Int) + ((w j).length : Int)) t) hit
    (rl rm) hi2 hB2 has2' (own_pair hL hN) (nd_pair (Nat.ne_of_lt hlt)) hTs
    (fun C I code href hih hC hI => quiet_len o f w tf tw hf (by have := rm.2.1; exact ar300 this) (by have := rm.2.2; exact ar301 this) C I code href hih hC hI) ?_
  intro s5 ga C I gi hi5 hB5 hdr5 hos5 hC5 hI5 hCs hgs hCg hIC hk5 hgen W G0
  obtain ⟨h5, g5, d5, tk5, os5⟩ := s5
  have e1 : d5 = d := hdr5
  have e2 : os5 = os := hos5
  subst e1 e2
  have up5 : ∀ {b : Nat} {ob : Obj}, OwnA fz b → h2.get? b = some ob → h5.get? b = some ob := fun z e => hk5 _ _ e (by simp) (fun hm => (WI K P fz).tlo _ hm z)
  have hd2 : h2.get? ad = some (accD P a b) := by
    refine hk2 ad _ hd1 ?_ (fun z => (WI K P fz).tlo _ z hD)
    simp only [List.map_cons, List.map_nil, List.mem_cons, List.not_mem_nil, or_false, not_or]
    exact ⟨Ne.symm hne, Nat.ne_of_lt hltd⟩
  have has5 : Has h5 [((ac, accO ad xs e) : Ent), (h.objs.size, frmO #[dEnt P "self" (tk + 0) (.ref ac)] 1), (ad, accD P a b)] := has_three (up5 hL (has0 has2')) (up5 hN (Mine.has1 has2')) (up5 hD hd2)
  refine Calls.spliced_cons ?_
  rw [fEval_eq]
  refine run_valG (o.ratt P ac ad e h.objs.size (tk + 0) a b xs _ _ _ _) (rl rm) hi5 has5 (own_three hL hN hD) (nd_three (Nat.ne_of_lt hlt) hne (Nat.ne_of_gt hltd)) fun h6 hi6 hs6 has6 hk6 => ?_
  have kk6 := keep_full has5 has6 hk6
  have hs6' : h6.objs.size = h5.objs.size := hs6
  refine Calls.spliced_nil ?_
  show wpAny _ _ (call (.builtin "sum") [.ref ga, .int 0 b]) _ _ _
  have hval : ∀ j, 0 ≤ (((f j).length : Int) + ((w j).length : Int)) ∧ (((f j).length : Int) + ((w j).length : Int)) ≤ 2000 := fun j => by have := hf j; exact ar302 this
  have St6 := W.frame 0 _ h6 (tk5 + 1) G0 (Nat.le_succ _) fun b _ ob e => kk6 b ob e
  have W1 := W.in4_1
  refine call_sum_start (W1.self 0 _ _ _ St6 ?_)
  refine ⟨ga, _, _, _, _, _, _, fun j => ((f j).length : Int) + ((w j).length : Int), rfl, W1, St6, ?_, ?_, ?_, ?_⟩
  · intro b hb
    show b < h6.objs.size
    rw [hs6']
    rcases List.mem_cons.mp hb with rfl | hb
    · exact hgs
    · rcases List.mem_cons.mp hb with rfl | hb
      · exact hCs
      · exact Nat.lt_trans (List.mem_range.mp hb) hCs
  · intro i v hv
    obtain ⟨i', hi', t, rfl⟩ := hv
    obtain ⟨rfl, _⟩ := passing_get hi'
    exact ⟨t, rfl⟩
  · intro j hj
    rw [passing_len] at hj
    have h1 := hval j
    have h2 := preSum_bound (fun j => ((f j).length : Int) + ((w j).length : Int)) 2000 hval (j + 1)
    have h3 : ((j + 1 : Nat) : Int) * 2000 ≤ 1000 * 2000 := Int.mul_le_mul_of_nonneg_right (ar303 hj hsz) (ar304)
    clear hk1 hk2 hk5 hk6 hR hlo
    refine ⟨?_, ?_⟩ <;> (dsimp only [InLong]; omega)
  · intro s' t' hm
    rw [passing_len]
    obtain ⟨h7, g7, d7, tk7, os7⟩ := s'
    have e1 : d7 = d5 := hm.drawn
    have e2 : os7 = os5 := hm.os
    subst e1 e2
    have hCo : OwnA fz C := (WI K P fz).big h2 hi2 _ hC5
    have hIo : OwnA fz I := (WI K P fz).big h2 hi2 _ hI5
    have hw : ∀ x ∈ C :: [I], OwnA fz x := fun x hx => by
      rcases List.mem_cons.mp hx with rfl | hx
      · exact hCo
      · rw [List.mem_singleton.mp hx]; exact hIo
    have hmk : ∀ x ob, x ∉ C :: [I] → h6.get? x = some ob → h7.get? x = some ob := fun x ob hx e => hm.heap x ob hx e
    have notw : ∀ {x : Nat}, x < h2.objs.size → x ∉ C :: [I] := fun {x} hx hm' => by
      have q1 : h2.objs.size ≤ C := hC5
      have q2 : h2.objs.size ≤ I := hI5
      rcases List.mem_cons.mp hm' with z | hm'
      · have z' : x = C := z
        exact ar307 hx z' q1
      · have z' : x = I := List.mem_singleton.mp hm'
        exact ar307 hx z' q2
    have hsz7 : h.objs.size < h7.objs.size := Heap.lt_size (hmk _ _ (notw (ar308 hs2' hs1')) (Mine.has1 has6))
    have h217 : 217 ≤ h.objs.size := hi.2.2.2.1
    refine hR (fun _ => t') h7 g7 tk7 (inv_but hi6 (ar309 h217 hsz7) hw hmk) ?_ (ar179 hsz7) ⟨hmk _ _ (notw (by omega)) (has0 has6), hmk _ _ (notw (by omega)) (Mine.has2 has6), trivial⟩ newOk0 ?_
    · exact hm.gens.bare hB5
    · intro x ob ex hx1 hx2
      have hxlt : x < h.objs.size := Heap.lt_size ex
      have n1 : x ≠ ac := fun z => hx1 (by rw [z]; exact List.mem_cons_self)
      have n2 : x ≠ ad := fun z => hx1 (by rw [z]; exact List.mem_cons_of_mem _ List.mem_cons_self)
      have q1 := hk1 x ob ex (by simpa using n1) hx2
      have q2 := hk2 x ob q1 (by simp only [List.map_cons, List.map_nil, List.mem_cons, List.not_mem_nil, or_false, not_or]; exact ⟨n1, Nat.ne_of_lt hxlt⟩) hx2
      have q5 := hk5 x ob q2 (by simp) hx2
      exact hmk _ _ (notw (Heap.lt_size q2)) (kk6 _ _ q5)
end
noncomputable def optV : Option Value → Value
  | some v => v
  | none => .ellipsis
theorem wpAny_optOf {M : Model} {A : Around} {t : Sem (Option Value)} {Q : Option Value → Shared → Prop} {E : Value → Shared → Prop} {s : Shared}
    (h : wpAny M A (t >>= fun b => pure (optV b)) (fun v s' => ∀ b, optV b = v → Q b s') E s) : wpAny M A t Q E s := by
  intro Γ p hΓ
  have z : Sem.wp M Γ (Sem.bind t fun b => pure (optV b)) _ _ p s := h Γ p hΓ
  rw [Sem.wp_bind] at z
  exact Sem.wp_mono M Γ t (fun b p' s' h' => (show ∀ b', optV b' = optV b → Q b' s' from h') b rfl) (fun _ _ _ h' => h') p s z
noncomputable def sc_lens (K : Params → KT) (P : Params) (ac ad e a b : Nat) (T : Int) (xs : Array Value) (N tk : Nat) : Sc :=
  sS [3, 0, 0, 0, 0] (.call (.ref 145) ⟨[.ref ac], []⟩) [0, 1] [(ac, accO ad xs e), (ad, accD P a b)] 30 100 (fun v1 => ⟨.ok (.ret (.int T (v1 0))), [], []⟩) 0 fun v1 n1 tk1 =>
  sF [] (.ok (.ret (.int T (v1 0)))) [0, 1] [(ac, accO ad xs e), (ad, accD P a b)] 0 0
noncomputable def ok_lens (K : Params → KT) : Prop := ∀ P ac ad e a b T xs N tk,
  RunsA K P 35 120 4000 ((callSpecial? (.ref ac) "__len__" >>= fun r => pure (optV r)) >>= asFin) [(ac, accO ad xs e), (ad, accD P a b)] N tk (sc_lens K P ac ad e a b T xs N tk)
noncomputable def sc_lenc (K : Params → KT) (P : Params) (ac ad e a b : Nat) (xs : Array Value) (N tk : Nat) : Sc :=
  sG [] (.builtin "len" ⟨[.ref ac], []⟩) [0, 1] [(ac, accO ad xs e), (ad, accD P a b)] 0 0
noncomputable def ok_lenc (K : Params → KT) : Prop := ∀ P ac ad e a b xs N tk,
  RunsTo K P 35 120 4000 (.call (.builtin "len") ⟨[.ref ac], []⟩) [(ac, accO ad xs e), (ad, accD P a b)] N tk (sc_lenc K P ac ad e a b xs N tk)
section
variable {K : Params → KT} [ok : Nonempty (KOk K)] {P : Params} {dr : Source → Nat → Nat} {fz : List Ent}
theorem entry_blen : entryFor table "len" = some Builtin.«len» := entryFor_of_fast (by kernel_rfl)
theorem con_lenb (o : ok_lens K) {ac ad e a b : Nat} {xs : Array Value} {T : Int} (h0 : 0 ≤ T) (h1 : T ≤ 1000000000)
    (hc : CON K P dr fz (.call (.ref 145) ⟨[.ref ac], []⟩) [(ac, accO ad xs e), (ad, accD P a b)] 30 100 (fun v => ⟨.ok (.ret (.int T (v 0))), [], []⟩)) :
    CON K P dr fz (.builtin "len" ⟨[.ref ac], []⟩) [(ac, accO ad xs e), (ad, accD P a b)] 35 130 (fun v => ⟨.ok (.ret (.int T (v 0))), [], []⟩) := by
  intro A h g d tk os R room hi hB has hlo nd hR
  refine codeAny_builtin entry_blen ?_
  rw [Around.under_plainId (by decide +kernel)]
  unfold Builtin.«len»
  refine wpAny_bind (m := oneArg "len" _) (wpAny_pure ?_)
  refine wpAny_bind (m := callSpecial? (.ref ac) (Str.ofString "__len__")) (wpAny_optOf ?_)
  refine run_val (o P ac ad e a b T xs _ _) (⟨room.1, by have := room.2.1; exact this, by have := room.2.2; show A.units + 1 + 120 < cLine; exact ar311 this⟩) hi hB has hlo nd ⟨hc, fun v1 n1 tk1 q1 q2 h' g' hi' hB' hs' has' hk' => ?_⟩
  intro r hr
  cases r with
  | none => cases hr
  | some v =>
    have e : v = .int T (v1 0) := hr
    subst e
    refine wpAny_bind (wpAny_holding (wpAny_pure ?_))
    refine wpAny_bind (wpAny_letGo ?_)
    show wpAny _ _ (if T < 0 then _ else _) _ _ _
    rw [if_neg (ar312 h0)]
    show wpAny _ _ (if T ≥ 2 ^ 63 then _ else _) _ _ _
    rw [if_neg (ar313 h1)]
    refine wpAny_bind (wpAny_mkInt (wpAny_pure ?_))
    have hs2 : h'.objs.size = n1 := by simpa using hs'
    exact hR (fun _ => tk1 + 0) h' g' _ hi' hB' (ar52 q1 hs2) ⟨has0 has', has1 has', trivial⟩ newOk0 hk'
theorem con_lenc (o : ok_lens K) (oc : ok_lenc K) {ac ad e a b : Nat} {xs : Array Value} {T : Int} (h0 : 0 ≤ T) (h1 : T ≤ 1000000000)
    (hc : CON K P dr fz (.call (.ref 145) ⟨[.ref ac], []⟩) [(ac, accO ad xs e), (ad, accD P a b)] 30 100 (fun v => ⟨.ok (.ret (.int T (v 0))), [], []⟩)) :
    CON K P dr fz (.call (.builtin "len") ⟨[.ref ac], []⟩) [(ac, accO ad xs e), (ad, accD P a b)] 35 130 (fun v => ⟨.ok (.ret (.int T (v 0))), [], []⟩) := by
  intro A h g d tk os R room hi hB has hlo nd hR
  refine code_run (oc P ac ad e a b xs h.objs.size tk) (rl room) hi hB has hlo nd fun h1' g1 hi1 hB1 hs1 has1' hk1 => ?_
  have s1 : h1'.objs.size = h.objs.size := hs1
  exact con_lenb o h0 h1 hc A h1' g1 d _ os R room hi1 hB1 has1' hlo nd fun v h' g' tk' a1 a2 a3 a4 a5 a6 => hR v h' g' tk' a1 a2 (ar48 s1 a3) a4 ⟨fun p hp => (nomatch hp), a5.2⟩ (keep_trans hk1 a6)
end
structure OkStr (K : Params → KT) : Prop where
  body : ∀ P, bodyOf K P 152 = [strStmt (strQ (stmtOf K P 152 0))]
  code : CodeOk K 152 151 147
  gen : GenOk K 152 (fun P => (strQ (stmtOf K P 152 0)).g)
  line1 : ∀ P, ((strQ (stmtOf K P 152 0)).e1.endLine == (strQ (stmtOf K P 152 0)).ep.line) = true
  line2 : ∀ P, ((strQ (stmtOf K P 152 0)).jp.endLine == (strQ (stmtOf K P 152 0)).pc.line) = true
  r0 : ok_ge152 K
  rs : ok_gs152 K
  rb : ok_gb152 K
  rit : ok_git K
  remp : ok_semp K
  remp2 : ok_semp2 K
section
variable {K : Params → KT} [ok : Nonempty (KOk K)] {P : Params} {dr : Source → Nat → Nat} {fz : List Ent}
theorem emp_len : (Str.ofString "").length = 0 := by decide
theorem quiet_str (o : OkStr K) {L n D U : Nat} (f w : Nat → Str) (tf tw : Nat → Nat) (hf : ∀ j, (f j).length ≤ 1000 ∧ (w j).length ≤ 1000) (hD : D + 5 < recursionLimit) (hU : U + 20 < cLine)
    (C I : Addr) (code : Value) (href : Heap) (hi : inv K P fz href) (hC : 217 ≤ C) (hI : 217 ≤ I) :
    QuietGenTD prg ⟨dr, P⟩ (genEnv (strQ (stmtOf K P 152 0)).g.scope [] C code 0 (envOf K P 152 L)) "fws" "part" [] (strElt (strQ (stmtOf K P 152 0))) (List.range C) [I] (fun j v => j < n ∧ v = #[.str (f j) (tf j), .str (w j) (tw j)]) (fun _ => true)
      (fun j y => ∃ t, y = .str (Txt.join "" [f j, w j]) t) href D U where
  tests := fun A' E' i va vb s₂ m₂ hA _ _ _ _ _ _ _ => wpAny_pure ⟨rfl, keeps_refl s₂⟩
  elt := fun A' E' i va vb s₂ m₂ hA hd hu hP _ hn ha hb hk => by
    obtain ⟨hlt, hv⟩ := hP
    have e1 : va = .str (f i) (tf i) := by
      have := congrArg (fun a : Array Value => a[0]?) hv
      simpa using this
    have e2 : vb = .str (w i) (tw i) := by
      have := congrArg (fun a : Array Value => a[1]?) hv
      simpa using this
    subst e1 e2
    obtain ⟨h2, g2, d2, tk2, os2⟩ := s₂
    have rm : Room A' 5 20 := ⟨hA, ar297 hD hd, ar298 hU hu⟩
    have hs2 : 217 ≤ h2.objs.size := Nat.le_of_lt (Nat.lt_of_le_of_lt hC hn.lt)
    have hi2 : inv K P [] h2 := inv_href hi hC hI hs2 hk
    refine wpAny_Call_method_lateS rfl rfl (o.line1 P) ?_
    rw [fEval_eq]
    refine run_valG (o.remp P C L code _ _ _) rm hi2 (fun q hq => (nomatch hq)) (fun q hq => (nomatch hq)) (by simp) fun h3 hi3 hs3 _ hk3 => ?_
    have up : ∀ b ob, h2.get? b = some ob → h3.get? b = some ob := fun b ob e => hk3 b ob e (by simp)
    refine ⟨"str", _, F.plainAttrs_str, F.slot_str_join, F.type_str_join, typeIs_str _ _ _, (fun _ e => nomatch e), ?_⟩
    show wpAny _ _ (callWith _ (.builtin "str.join") [.str "" (strTok K P)] [(false, eval (.Tuple [.Name "fws" (strQ (stmtOf K P 152 0)).x0, .Name "part" (strQ (stmtOf K P 152 0)).x1] (strQ (stmtOf K P 152 0)).xk (strQ (stmtOf K P 152 0)).xp) (genEnv (strQ (stmtOf K P 152 0)).g.scope [] C code 0 (envOf K P 152 L)))] []) _ _ _
    refine Calls.callWith_builtin rfl (Calls.evalArgs_plain (Calls.spliced_cons (PySem.wpAny_Tuple ?_)))
    show wpAny _ _ (spliced [(false, eval (.Name "fws" (strQ (stmtOf K P 152 0)).x0) (genEnv (strQ (stmtOf K P 152 0)).g.scope [] C code 0 (envOf K P 152 L))), (false, eval (.Name "part" (strQ (stmtOf K P 152 0)).x1) (genEnv (strQ (stmtOf K P 152 0)).g.scope [] C code 0 (envOf K P 152 L)))]) _ _ _
    refine Calls.spliced_cons (wpAny_Name (wpAny_loadName_local (m := m₂) (v := .str (f i) (tf i)) (o.gen.kind P) (o.gen.hfws P) (hn.keeps up) ha ?_) (by decide))
    refine Calls.spliced_cons (wpAny_Name (wpAny_loadName_local (m := m₂) (v := .str (w i) (tw i)) (o.gen.kind P) (o.gen.hpart P) (hn.keeps up) hb ?_) (by decide))
    refine Calls.spliced_nil ⟨by show 2 ≤ sizeLine; decide, Calls.spliced_nil ?_⟩
    show wpAny _ _ (call (.builtin "str.join") [.str "" (strTok K P), .ref h3.objs.size]) _ _ _
    refine PyProof.Rows.join_tuple (items := #[.str (f i) (tf i), .str (w i) (tw i)]) (ys := [f i, w i]) ⟨_, Heap.get?_push_size _ rfl, rfl, _, rfl⟩ (.cons _ _ (.cons _ _ .nil)) ?_ ?_
    · have := hf i
      simp [emp_len]
      exact ar533 this
    · intro t' k
      exact ⟨⟨_, rfl⟩, _, _, rfl, fun b ob e => Heap.get?_push_of_some _ (up b ob e)⟩
theorem con_accstr (o : OkStr K) {ac ad e : Nat} {xs : Array Value} (Ts : Nat → Addr) (f w : Nat → Str) (tf tw : Nat → Nat) (hf : ∀ j, (f j).length ≤ 1000 ∧ (w j).length ≤ 1000) (hsz : xs.size ≤ 1000)
    (hit : ∀ j, j < xs.size → xs[j]? = some (.ref (Ts j))) (hTs : ∀ j, j < xs.size → (Ts j, tupO #[.str (f j) (tf j), .str (w j) (tw j)]) ∈ fz) :
    CON K P dr fz (.call (.ref 152) ⟨[.ref ac], []⟩) [(ac, accO ad xs e)] 30 100 (fun v => ⟨.ok (.ret (.str (Txt.join "" ((List.range xs.size).map fun j => Txt.join "" [f j, w j])) (v 0))), [], []⟩) := by
  intro A h g d tk os R room hi hB has hlo nd hR
  have hL : OwnA fz ac := hlo _ List.mem_cons_self
  have hlt : ac < h.objs.size := Heap.lt_size (has0 has)
  have hN : OwnA fz h.objs.size := (WI K P fz).big h hi _ (Nat.le_refl _)
  refine code_run (o.r0 P ac ad e xs h.objs.size tk) (rl room) hi hB has hlo nd ?_
  intro h1 g1 hi1 hB1 hs1 has1' hk1
  have rm : Room (A.deeper (envOf K P 152 h.objs.size)) 15 60 := room_deeper (rl room)
  have hs1' : h1.objs.size = h.objs.size + 1 := hs1
  refine ks_codeAny_funcAt ?_
  show PySem.wpAt (model prg ⟨dr, P⟩) (A.deeper (envOf K P 152 h.objs.size)) (.func (bodyOf K P 152) (envOf K P 152 h.objs.size)) (execs (bodyOf K P 152) (envOf K P 152 h.objs.size)) (fun f s' => R (.ok (.ret (match f with | .ret v => v | _ => .none))) s') _ ⟨h1, g1, d, tk + 1, os⟩
  rw [o.body P]
  refine ks_wpAt_execs_cons (ks_wpAt_Return_some (PySem.wpAt_of_wpAny ?_))
  refine wpAny_Call_method_lateS rfl rfl (o.line2 P) ?_
  rw [fEval_eq]
  refine run_val (o.remp2 P ac ad e h.objs.size (tk + 0) xs _ _ _) (rl rm) hi1 hB1 has1' (own_pair hL hN) (nd_pair (Nat.ne_of_lt hlt)) fun h2 g2 hi2 hB2 hs2 has2' hk2 => ?_
  have hs2' : h2.objs.size = h1.objs.size := hs2
  refine ⟨"str", _, F.plainAttrs_str, F.slot_str_join, F.type_str_join, typeIs_str _ _ _, (fun _ e => nomatch e), ?_⟩
  show wpAny _ _ (callWith _ (.builtin "str.join") [.str "" (strTok K P)] [(false, eval (genE (strElt (strQ (stmtOf K P 152 0))) (strQ (stmtOf K P 152 0)).g) (envOf K P 152 h.objs.size))] []) _ _ _
  refine Calls.callWith_builtin rfl (Calls.evalArgs_plain (Calls.spliced_cons ?_))
  refine gen_go (q := fun P => (strQ (stmtOf K P 152 0)).g) o.code (.inr rfl) o.rit o.gen (fun N tk' => o.rs P ac ad e h.objs.size (tk + 0) xs _ N tk') (fun N tk' => o.rb P h.objs.size N tk') Ts (fun j => .str (f j) (tf j)) (fun j => .str (w j) (tw j)) (fun j y => ∃ t, y = .str (Txt.join "" [f j, w j]) t) hit
    (rl rm) hi2 hB2 has2' (own_pair hL hN) (nd_pair (Nat.ne_of_lt hlt)) hTs
    (fun C I code href hih hC hI => quiet_str o f w tf tw hf (by have := rm.2.1; exact ar300 this) (by have := rm.2.2; exact ar301 this) C I code href hih hC hI) ?_
  intro s5 ga C I gi hi5 hB5 hdr5 hos5 hC5 hI5 hCs hgs hCg hIC hk5 hgen W G0
  refine Calls.spliced_nil ?_
  show wpAny _ _ (call (.builtin "str.join") [.str "" (strTok K P), .ref ga]) _ _ _
  have hlen : ∀ j, (Txt.join "" [f j, w j]).length ≤ 2000 := fun j => by
    have := StrLaws.join_length_le "" [f j, w j]
    have h3 := hf j
    have h4 : (Txt.join "" [f j, w j]).length ≤ _ := this
    simp [emp_len] at h4
    exact ar534 h3 h4
  refine SC.joinGen (W.in4_2) (fun i s st => st.1.typeIs) G0 ?_ List.mem_cons_self (fun i v hv => ?_) ?_ (by rw [passing_len]; show xs.size ≤ 16777216; exact ar535 hsz)
  · intro b hb
    rcases List.mem_cons.mp hb with rfl | hb
    · exact hgs
    · rcases List.mem_cons.mp hb with rfl | hb
      · exact hCs
      · exact Nat.lt_trans (List.mem_range.mp hb) hCs
  · obtain ⟨i', hi', t, rfl⟩ := hv
    exact ⟨_, t, rfl⟩
  · intro s' l hm hitems
    rw [passing_len] at hitems
    have hll : l.length = xs.size := by have := hitems.1; simpa [strValues] using this
    have hl : l.map (·.1) = (List.range xs.size).map fun j => Txt.join "" [f j, w j] := by
      refine List.ext_getElem (by simp [hll]) fun j h1 h2 => ?_
      have hj : j < l.length := by simpa using h1
      have hv := hitems.2 j (.str l[j].1 l[j].2) (by simp [strValues, hj])
      obtain ⟨i', hi', t, e'⟩ := hv
      obtain ⟨rfl, _⟩ := passing_get hi'
      injection e' with e1 _
      simp [e1]
    rw [hl]
    refine ⟨PyProof.Rows.joinOk_of ?_, ?_⟩
    · rw [emp_len, Nat.mul_zero, Nat.add_zero]
      have hb : ∀ m : Nat, (((List.range m).map fun j => Txt.join "" [f j, w j]).map (·.length)).sum ≤ m * 2000 := fun m => by
        induction m with
        | zero => simp
        | succ m ih =>
          rw [List.range_succ, List.map_append, List.map_append, List.sum_append]
          have := hlen m
          simp only [List.map_cons, List.map_nil, List.sum_cons, List.sum_nil]
          exact ar536 this ih
      have := hb xs.size
      exact ar537 hsz this
    · intro t' k
      obtain ⟨h5, g5, d5, tk5, os5⟩ := s5
      obtain ⟨h7, g7, d7, tk7, os7⟩ := s'
      have e1 : d7 = d := hm.drawn.trans hdr5
      have e2 : os7 = os := hm.os.trans hos5
      subst e1 e2
      have hCo : OwnA fz C := (WI K P fz).big h2 hi2 _ hC5
      have hIo : OwnA fz I := (WI K P fz).big h2 hi2 _ hI5
      have hw : ∀ x ∈ C :: [I], OwnA fz x := fun x hx => by
        rcases List.mem_cons.mp hx with rfl | hx
        · exact hCo
        · rw [List.mem_singleton.mp hx]; exact hIo
      have hmk : ∀ x ob, x ∉ C :: [I] → h5.get? x = some ob → h7.get? x = some ob := fun x ob hx e => hm.heap x ob hx e
      have notw : ∀ {x : Nat}, x < h2.objs.size → x ∉ C :: [I] := fun {x} hx hm' => by
        have q1 : h2.objs.size ≤ C := hC5
        have q2 : h2.objs.size ≤ I := hI5
        rcases List.mem_cons.mp hm' with z | hm'
        · have z' : x = C := z
          exact ar307 hx z' q1
        · have z' : x = I := List.mem_singleton.mp hm'
          exact ar307 hx z' q2
      have up5 : ∀ {b : Nat} {ob : Obj}, OwnA fz b → h2.get? b = some ob → h5.get? b = some ob := fun z e => hk5 _ _ e (by simp) (fun hm => (WI K P fz).tlo _ hm z)
      have hsz7 : h.objs.size < h7.objs.size := Heap.lt_size (hmk _ _ (notw (ar308 hs2' hs1')) (up5 hN (Mine.has1 has2')))
      have h217 : 217 ≤ h.objs.size := hi.2.2.2.1
      refine hR (fun _ => t') h7 g7 k (inv_but hi5 (ar309 h217 hsz7) hw hmk) ?_ (ar179 hsz7) ⟨hmk _ _ (notw (by omega)) (up5 hL (has0 has2')), trivial⟩ newOk0 ?_
      · exact hm.gens.bare hB5
      · intro x ob ex hx1 hx2
        have hxlt : x < h.objs.size := Heap.lt_size ex
        have n1 : x ≠ ac := fun z => hx1 (by rw [z]; exact List.mem_cons_self)
        have q1 := hk1 x ob ex (by simpa using n1) hx2
        have q2 := hk2 x ob q1 (by simp only [List.map_cons, List.map_nil, List.mem_cons, List.not_mem_nil, or_false, not_or]; exact ⟨n1, Nat.ne_of_lt hxlt⟩) hx2
        have q5 := hk5 x ob q2 (by simp) hx2
        exact hmk _ _ (notw (Heap.lt_size q2)) q5
end
noncomputable def sc_strs (K : Params → KT) (P : Params) (ac ad e : Nat) (S : Str) (xs : Array Value) (N tk : Nat) : Sc :=
  sS [3, 0, 0, 0, 0] (.call (.ref 152) ⟨[.ref ac], []⟩) [0] [(ac, accO ad xs e)] 30 100 (fun v1 => ⟨.ok (.ret (.str S (v1 0))), [], []⟩) 0 fun v1 n1 tk1 =>
  sF [] (.ok (.ret (.str S (v1 0)))) [0] [(ac, accO ad xs e)] 0 0
noncomputable def ok_strs (K : Params → KT) : Prop := ∀ P ac ad e S xs N tk,
  RunsA K P 35 120 4000 ((callSpecial? (.ref ac) "__str__" >>= fun r => pure (optV r)) >>= asFin) [(ac, accO ad xs e)] N tk (sc_strs K P ac ad e S xs N tk)
noncomputable def sc_strc (K : Params → KT) (P : Params) (ac ad e : Nat) (S : Str) (xs : Array Value) (N tk : Nat) : Sc :=
  sS [] (.call (.builtin "str.__new__") ⟨[.type "str", .ref ac], []⟩) [0] [(ac, accO ad xs e)] 40 130 (fun v1 => ⟨.ok (.ret (.str S (v1 0))), [], []⟩) 0 fun v1 n1 tk1 =>
  sF [] (.ok (.ret (.str S (v1 0)))) [0] [(ac, accO ad xs e)] 0 0
noncomputable def ok_strc (K : Params → KT) : Prop := ∀ P ac ad e S xs N tk,
  RunsTo K P 45 150 4000 (.call (.type "str") ⟨[.ref ac], []⟩) [(ac, accO ad xs e)] N tk (sc_strc K P ac ad e S xs N tk)
noncomputable def sc_onlyws (K : Params → KT) (P : Params) (ac ad e a b k : Nat) (xs : Array Value) (S : Str) (N tk : Nat) : Sc :=
  sS [0, 0, 5, 5, 1, 5, 3, 0, 0, 0, 0, 0, 0, 3, 0, 3, 0, 0, 0, 3, 3, 0, 4, 5, 3, 0, 0, 0, 3, 0, 0, 0] (.builtin "len" ⟨[.ref ac], []⟩) [0, 1] [(ac, accO ad xs e), (ad, accD P a b)] 35 130 (fun v1 => ⟨.ok (.ret (.int (Int.ofNat (k + 1)) (v1 0))), [], []⟩) 1 fun v1 n1 tk1 =>
  sS [0, 0, 5] (.call (.type "str") ⟨[.ref ac], []⟩) [0] [(ac, accO ad xs e)] 45 150 (fun v2 => ⟨.ok (.ret (.str S (v2 0))), [], []⟩) 0 fun v2 n2 tk2 =>
  sA [] 0 (.bool (decide (S.length > 0) && S.cps.all Unicode.isSpace)) (.bool false) <|
  sF [] (.ok (.ret (.bool false))) [0, 1] [(ac, accO ad xs e), (ad, accD P a b)] 0 0
noncomputable def ok_onlyws (K : Params → KT) : Prop := ∀ P ac ad e a b k xs S N tk,
  RunsTo K P 60 200 4000 (.call (.ref 167) ⟨[.ref ac], []⟩) [(ac, accO ad xs e), (ad, accD P a b)] N tk (sc_onlyws K P ac ad e a b k xs S N tk)
section
variable {K : Params → KT} [ok : Nonempty (KOk K)] {P : Params} {dr : Source → Nat → Nat} {fz : List Ent}
open Builtin Builtin.Str in
theorem con_strnew (o : ok_strs K) {ac ad e : Nat} {xs : Array Value} {S : Str}
    (hc : CON K P dr fz (.call (.ref 152) ⟨[.ref ac], []⟩) [(ac, accO ad xs e)] 30 100 (fun v => ⟨.ok (.ret (.str S (v 0))), [], []⟩)) :
    CON K P dr fz (.call (.builtin "str.__new__") ⟨[.type "str", .ref ac], []⟩) [(ac, accO ad xs e)] 40 130 (fun v => ⟨.ok (.ret (.str S (v 0))), [], []⟩) := by
  intro A h g d tk os R room hi hB has hlo nd hR
  refine codeAny_of_tree ?_
  show wpAny _ A.in1 (do checkBuiltinCall "str.__new__" ⟨[.type "str", .ref ac], []⟩; again (.builtin "str.__new__" ⟨[.type "str", .ref ac], []⟩)) _ _ _
  refine wpAny_bind (wpAny_of_eq (PySem.F.newCall_str_1 _) (wpAny_pure ⟨plainId_quiet (by decide +kernel) _, codeAny_builtin PySem.F.entry_str_new ?_⟩))
  rw [Around.under_plainId (by decide +kernel) _, str_new_tree]
  refine wpAny_bind (wpAny_pure ?_)
  refine wpAny_bind (wpAny_of_eq isSubtype_str_str ?_)
  refine wpAny_bind ?_
  unfold PySem.Builtin.Str.strOf
  rw [show isExactStr (.ref ac) = false from rfl]
  have hu : A.in1.units < cLine := by have := room.2.2; show A.units + 1 < cLine; exact ar538 this
  refine wpAny_bind (m := cRoomFor _ _) (wpAny_cRoomFor hu ?_)
  refine wpAny_bind (m := callSpecial? (.ref ac) (Str.ofString "__str__")) (wpAny_optOf ?_)
  refine run_val (o P ac ad e S xs _ _) (⟨room.1, by have := room.2.1; show A.depth + 35 < recursionLimit; exact ar539 this, by have := room.2.2; show A.units + 1 + 120 < cLine; exact ar311 this⟩) hi hB has hlo nd ⟨hc, fun v1 n1 tk1 q1 q2 h' g' hi' hB' hs' has' hk' => ?_⟩
  intro r hr
  cases r with
  | none => cases hr
  | some v =>
    have e : v = .str S (v1 0) := hr
    subst e
    have hs2 : h'.objs.size = n1 := by simpa using hs'
    exact wpAny_pure (wpAny_pure (hR (fun _ => v1 0) h' g' _ hi' hB' (ar52 q1 hs2) ⟨has0 has', trivial⟩ newOk0 hk'))
theorem con_strc (o : ok_strs K) (oc : ok_strc K) {ac ad e : Nat} {xs : Array Value} {S : Str}
    (hc : CON K P dr fz (.call (.ref 152) ⟨[.ref ac], []⟩) [(ac, accO ad xs e)] 30 100 (fun v => ⟨.ok (.ret (.str S (v 0))), [], []⟩)) :
    CON K P dr fz (.call (.type "str") ⟨[.ref ac], []⟩) [(ac, accO ad xs e)] 45 150 (fun v => ⟨.ok (.ret (.str S (v 0))), [], []⟩) :=
  con_by (fun N tk => oc P ac ad e S xs N tk) fun A h d tk os R room hi hlt hlo nd hR => by
    refine ⟨con_strnew o hc, fun v1 n1 tk1 q1 q2 h' g' hi' hB' hs' has' hk' => ?_⟩
    have hs2 : h'.objs.size = n1 := by simpa using hs'
    exact hR (fun _ => v1 0) h' g' _ hi' hB' (ar52 q1 hs2) ⟨has0 has', trivial⟩ newOk0 hk'
theorem con_onlyws (o : ok_onlyws K) {ac ad e a b k : Nat} {xs : Array Value} {S : Str} (hS : (decide (S.length > 0) && S.cps.all Unicode.isSpace) = false)
    (hl : CON K P dr fz (.builtin "len" ⟨[.ref ac], []⟩) [(ac, accO ad xs e), (ad, accD P a b)] 35 130 (fun v => ⟨.ok (.ret (.int (Int.ofNat (k + 1)) (v 0))), [], []⟩))
    (hc : CON K P dr fz (.call (.type "str") ⟨[.ref ac], []⟩) [(ac, accO ad xs e)] 45 150 (fun v => ⟨.ok (.ret (.str S (v 0))), [], []⟩)) :
    CON K P dr fz (.call (.ref 167) ⟨[.ref ac], []⟩) [(ac, accO ad xs e), (ad, accD P a b)] 60 200 (fun v => ⟨.ok (.ret (.bool false)), [], []⟩) :=
  con_by (fun N tk => o P ac ad e a b k xs S N tk) fun A h d tk os R room hi hlt hlo nd hR => by
    refine ⟨hl, fun v1 n1 tk1 q1 q2 => ⟨hc, fun v2 n2 tk2 q4 q5 => ⟨by rw [hS], fun h' g' hi' hB' hs' has' hk' => ?_⟩⟩⟩
    have hs2 : h'.objs.size = n2 := by simpa using hs'
    exact hR (fun _ => 0) h' g' _ hi' hB' (ar36 q4 q1 hs2) ⟨has0 has', has1 has', trivial⟩ newOk0 hk'
end
noncomputable def bmO (ac : Addr) : Obj := ⟨.type "method", none, .fields #[.ref 122, .ref ac], #[]⟩
structure IfQ where
  left : Expr
  right : Expr
  cp : Pos
  body : List Stmt
  els : List Stmt
  ip : Pos
deriving Inhabited
noncomputable def ifQ : Stmt → IfQ
  | .If (.Compare l _ [r] cp) b e p => ⟨l, r, cp, b, e, p⟩
  | _ => default
noncomputable def ifNe (q : IfQ) : Stmt := .If (.Compare q.left [.NotEq] [q.right] q.cp) q.body q.els q.ip
noncomputable def ifEl (q : IfQ) : Prop := q.els = []
structure ForQ where
  target : Expr
  iter : Expr
  body : List Stmt
  els : List Stmt
  fp : Pos
deriving Inhabited
noncomputable def forQ : Stmt → ForQ
  | .For t i b e p => ⟨t, i, b, e, p⟩
  | _ => default
noncomputable def forS (q : ForQ) : Stmt := .For q.target q.iter q.body q.els q.fp
noncomputable def sc_bmc (K : Params → KT) (P : Params) (bm ac ad e a b : Nat) (x y : Value) (ys : Array Value) (N tk : Nat) : Sc :=
  sG [5] (.call (.ref 122) ⟨[.ref ac, x, y], []⟩) [0, 1, 2] [(ac, accO ad ys e), (ad, accD P a b), (bm, bmO ac)] 0 0
noncomputable def ok_bmc (K : Params → KT) : Prop := ∀ P bm ac ad e a b x y ys N tk,
  RunsTo K P 5 20 4000 (.call (.ref bm) ⟨[x, y], []⟩) [(ac, accO ad ys e), (ad, accD P a b), (bm, bmO ac)] N tk (sc_bmc K P bm ac ad e a b x y ys N tk)
noncomputable def sc_nl0 (K : Params → KT) (P : Params) (mk md ln ac ad e le a b q t1 t2 : Nat) (w : Str) (t : Nat → Nat) (W : Int) (ls ys : Array Value) (N tk : Nat) : Sc :=
  sG [0, 0, 9, 9, 1] (.func (bodyOf K P 56) (envOf K P 56 N)) [0, 1, 2, 3, 4, 5, 6] [(mk, makO md), (md, makD P t W ln ac), (ln, lisO ls le), (ac, accO ad (ys.push (.ref q)) e), (ad, accD P a b), (q, tupO #[.str " " t1, .str w t2]), (N, frmO #[dEnt P "self" (tk + 0) (.ref mk)] 1)] 1 1
noncomputable def ok_nl0 (K : Params → KT) : Prop := ∀ P mk md ln ac ad e le a b q t1 t2 w t W ls ys N tk,
  RunsTo K P 140 400 4000 (.call (.ref 56) ⟨[.ref mk], []⟩) [(mk, makO md), (md, makD P t W ln ac), (ln, lisO ls le), (ac, accO ad (ys.push (.ref q)) e), (ad, accD P a b), (q, tupO #[.str " " t1, .str w t2])] N tk (sc_nl0 K P mk md ln ac ad e le a b q t1 t2 w t W ls ys N tk)
noncomputable def sc_nl1 (K : Params → KT) (P : Params) (mk md ln ac ad e le a b q t1 t2 : Nat) (w : Str) (t : Nat → Nat) (W : Int) (ls ys : Array Value) (L s0 : Nat) (N tk : Nat) : Sc :=
  sS [9, 3, 0, 0, 0, 3, 0, 0, 0, 3, 3, 0, 4, 6, 0, 0, 0, 6, 0, 0, 0, 6, 0, 0, 0, 0, 6, 7, 0] (.call (.ref 138) ⟨[.ref ac], []⟩) [3, 4] [(ac, accO ad (ys.push (.ref q)) e), (ad, accD P a b)] 30 80 (fun v1 => ⟨.ok (.ret (.ref q)), [accO ad ys (v1 0)], []⟩) 0 fun v1 n1 tk1 =>
  sF [9, 9] (.ok .next) [0, 1, 2, 3, 4, 5, 6] [(mk, makO md), (md, makD P t W ln ac), (ln, lisO ls le), (ac, accO ad ys (v1 0)), (ad, accD P a b), (q, tupO #[.str " " t1, .str w t2]), (L, frmO #[dEnt P "self" s0 (.ref mk), dEnt P "end_of_line" (tk1 + 0) (.ref q)] 2)] 0 1
noncomputable def ok_nl1 (K : Params → KT) : Prop := ∀ P mk md ln ac ad e le a b q t1 t2 w t W ls ys L s0 N tk,
  RunsA K P 100 300 4000 (fExecs [stmtOf K P 56 0] (envOf K P 56 L) >>= flFin) [(mk, makO md), (md, makD P t W ln ac), (ln, lisO ls le), (ac, accO ad (ys.push (.ref q)) e), (ad, accD P a b), (q, tupO #[.str " " t1, .str w t2]), (L, frmO #[dEnt P "self" s0 (.ref mk)] 1)] N tk (sc_nl1 K P mk md ln ac ad e le a b q t1 t2 w t W ls ys L s0 N tk)
noncomputable def sc_nl2 (K : Params → KT) (P : Params) (mk md ln ac ad e le a b q t1 t2 : Nat) (w : Str) (t : Nat → Nat) (W : Int) (ls ys : Array Value) (L s0 s1 : Nat) (N tk : Nat) : Sc :=
  sF [9] (.ok (.ret (.ref q))) [0, 1, 2, 3, 4, 5, 6] [(mk, makO md), (md, makD P t W ln ac), (ln, lisO ls le), (ac, accO ad ys e), (ad, accD P a b), (q, tupO #[.str " " t1, .str w t2]), (L, frmO #[dEnt P "self" s0 (.ref mk), dEnt P "end_of_line" s1 (.ref q)] 2)] 0 0
noncomputable def ok_nl2 (K : Params → KT) : Prop := ∀ P mk md ln ac ad e le a b q t1 t2 w t W ls ys L s0 s1 N tk,
  RunsA K P 5 20 4000 (fEval (ifQ (stmtOf K P 56 1)).left (envOf K P 56 L) >>= asFin) [(mk, makO md), (md, makD P t W ln ac), (ln, lisO ls le), (ac, accO ad ys e), (ad, accD P a b), (q, tupO #[.str " " t1, .str w t2]), (L, frmO #[dEnt P "self" s0 (.ref mk), dEnt P "end_of_line" s1 (.ref q)] 2)] N tk (sc_nl2 K P mk md ln ac ad e le a b q t1 t2 w t W ls ys L s0 s1 N tk)
noncomputable def sc_nl3 (K : Params → KT) (P : Params) (mk md ln ac ad e le a b q t1 t2 : Nat) (w : Str) (t : Nat → Nat) (W : Int) (ls ys : Array Value) (L s0 s1 : Nat) (N tk : Nat) : Sc :=
  sF [] (.ok (.ret (.ref (N + 0)))) [0, 1, 2, 3, 4, 5, 6, 7] [(mk, makO md), (md, makD P t W ln ac), (ln, lisO ls le), (ac, accO ad ys e), (ad, accD P a b), (q, tupO #[.str " " t1, .str w t2]), (L, frmO #[dEnt P "self" s0 (.ref mk), dEnt P "end_of_line" s1 (.ref q)] 2), (N + 0, tupO #[.str " " (tk + 0), .str "" (tk + 1)])] 1 2
noncomputable def ok_nl3 (K : Params → KT) : Prop := ∀ P mk md ln ac ad e le a b q t1 t2 w t W ls ys L s0 s1 N tk,
  RunsA K P 5 20 4000 (fEval (ifQ (stmtOf K P 56 1)).right (envOf K P 56 L) >>= asFin) [(mk, makO md), (md, makD P t W ln ac), (ln, lisO ls le), (ac, accO ad ys e), (ad, accD P a b), (q, tupO #[.str " " t1, .str w t2]), (L, frmO #[dEnt P "self" s0 (.ref mk), dEnt P "end_of_line" s1 (.ref q)] 2)] N tk (sc_nl3 K P mk md ln ac ad e le a b q t1 t2 w t W ls ys L s0 s1 N tk)
noncomputable def sc_nl4 (K : Params → KT) (P : Params) (mk md ln ac ad e le a b q t1 t2 : Nat) (w : Str) (t : Nat → Nat) (W : Int) (ls ys : Array Value) (L s0 s1 : Nat) (N tk : Nat) : Sc :=
  sS [9, 3, 0, 0, 0, 3, 0, 0, 0, 3, 3, 0, 4, 6, 0, 0, 0, 0, 0, 0, 6, 0, 6, 0, 0, 0, 0, 0, 0, 6, 6, 0, 7, 0, 9, 8] (.builtin "proto.collect" ⟨[.ref q], []⟩) [5] [(q, tupO #[.str " " t1, .str w t2])] 0 0 (fun v1 => ⟨.ok (.ret (.ref (v1 0))), [], [(v1 0, lisO #[.str " " t1, .str w t2] (v1 1))]⟩) 1 fun v1 n1 tk1 =>
  sS [11, 10, 0] (.call (.ref (N + 0)) ⟨[.str " " t1, .str w t2], []⟩) [3, 4, 7] [(ac, accO ad ys e), (ad, accD P a b), (N + 0, bmO ac)] 5 20 (fun v2 => ⟨.ok (.ret .none), [accO ad (ys.push (.ref (v2 0))) (v2 1)], [(v2 0, tupO #[.str " " t1, .str w t2])]⟩) 0 fun v2 n2 tk2 =>
  sF [] (.ok .next) [0, 1, 2, 3, 4, 5, 6, 9] [(mk, makO md), (md, makD P t W ln ac), (ln, lisO ls le), (ac, accO ad (ys.push (.ref (v2 0))) (v2 1)), (ad, accD P a b), (q, tupO #[.str " " t1, .str w t2]), (L, frmO #[dEnt P "self" s0 (.ref mk), dEnt P "end_of_line" s1 (.ref q)] 2), (v2 0, tupO #[.str " " t1, .str w t2])] 0 0
noncomputable def ok_nl4 (K : Params → KT) : Prop := ∀ P mk md ln ac ad e le a b q t1 t2 w t W ls ys L s0 s1 N tk,
  RunsA K P 100 300 4000 (fExecs (ifQ (stmtOf K P 56 1)).body (envOf K P 56 L) >>= flFin) [(mk, makO md), (md, makD P t W ln ac), (ln, lisO ls le), (ac, accO ad ys e), (ad, accD P a b), (q, tupO #[.str " " t1, .str w t2]), (L, frmO #[dEnt P "self" s0 (.ref mk), dEnt P "end_of_line" s1 (.ref q)] 2)] N tk (sc_nl4 K P mk md ln ac ad e le a b q t1 t2 w t W ls ys L s0 s1 N tk)
noncomputable def sc_nl5 (K : Params → KT) (P : Params) (mk md ln ac ad e le a b q q2 t1 t2 k : Nat) (w S : Str) (t : Nat → Nat) (W : Int) (ls xs : Array Value) (L s0 s1 : Nat) (N tk : Nat) : Sc :=
  sS [0, 0, 9, 3, 0, 0, 0, 3, 0, 0, 0, 3, 3, 0, 4] (.call (.builtin "len") ⟨[.ref ac], []⟩) [3, 4, 5] [(ac, accO ad xs e), (ad, accD P a b), (q2, tupO #[.str " " t1, .str w t2])] 35 130 (fun v1 => ⟨.ok (.ret (.int (Int.ofNat (k + 1)) (v1 0))), [], []⟩) 0 fun v1 n1 tk1 =>
  sA [] 0 (.bool (decide (Int.ofNat (k + 1) > 0))) (.bool true) <|
  sS [9, 3, 0, 0, 0, 3, 0, 0, 0, 3, 3, 0, 4, 6, 0, 0, 0, 6, 0, 0, 0, 6, 0, 0, 0, 0, 6, 7, 0] (.call (.ref 167) ⟨[.ref ac], []⟩) [3, 4, 5] [(ac, accO ad xs e), (ad, accD P a b), (q2, tupO #[.str " " t1, .str w t2])] 60 200 (fun v2 => ⟨.ok (.ret (.bool false)), [], []⟩) 0 fun v2 n2 tk2 =>
  sS [9, 3, 0, 0, 0, 3, 0, 0, 0, 3, 3, 0, 4, 5, 5, 5, 5, 0, 0, 9, 3, 0, 0, 0, 3, 0, 0, 0, 3, 3, 0, 4] (.call (.type "str") ⟨[.ref ac], []⟩) [3, 5] [(ac, accO ad xs e), (q2, tupO #[.str " " t1, .str w t2])] 45 150 (fun v3 => ⟨.ok (.ret (.str S (v3 0))), [], []⟩) 0 fun v3 n3 tk3 =>
  sS [] (.call (.builtin "list.append") ⟨[.ref ln, .str S (v3 0)], []⟩) [2] [(ln, lisO ls le)] 0 0 (fun v4 => ⟨.ok (.ret .none), [lisO (ls.push (.str S (v3 0))) (le + 1)], []⟩) 0 fun v4 n4 tk4 =>
  sS [9, 3, 0, 0, 0, 3, 0, 0, 0, 3, 3, 0, 4, 6, 0, 0, 0, 6, 0, 0, 0, 6, 0, 0, 0, 0, 6, 7, 0] (.call (.ref 160) ⟨[.ref ac], []⟩) [3, 4] [(ac, accO ad xs e), (ad, accD P a b)] 5 20 (fun v5 => ⟨.ok (.ret .none), [accO ad #[] (v5 0), accD P a (v5 1)], []⟩) 0 fun v5 n5 tk5 =>
  sF [] (.ok .next) [0, 1, 2, 3, 4, 5] [(mk, makO md), (md, makD P t W ln ac), (ln, lisO (ls.push (.str S (v3 0))) (le + 1)), (ac, accO ad #[] (v5 0)), (ad, accD P a (v5 1)), (q2, tupO #[.str " " t1, .str w t2])] 0 0
noncomputable def ok_nl5 (K : Params → KT) : Prop := ∀ P mk md ln ac ad e le a b q q2 t1 t2 k w S t W ls xs L s0 s1 N tk,
  RunsA K P 100 300 4000 (fExecs [stmtOf K P 56 2, stmtOf K P 56 3] (envOf K P 56 L) >>= flFin) [(mk, makO md), (md, makD P t W ln ac), (ln, lisO ls le), (ac, accO ad xs e), (ad, accD P a b), (q2, tupO #[.str " " t1, .str w t2]), (L, frmO #[dEnt P "self" s0 (.ref mk), dEnt P "end_of_line" s1 (.ref q)] 2)] N tk (sc_nl5 K P mk md ln ac ad e le a b q q2 t1 t2 k w S t W ls xs L s0 s1 N tk)
theorem keep_then {W : IV} {h h1 h2 : Heap} {ads ads2 : List Addr} (k : Keep W h h1 ads) (k2 : Keep W h1 h2 ads2) (hn : ∀ a ∈ ads2, a ∈ ads ∨ h.objs.size ≤ a) : Keep W h h2 ads := fun b o e n1 n2 =>
  k2 b o (k b o e n1 n2) (fun hm => (hn b hm).elim n1 fun hle => absurd (Heap.lt_size e) (Nat.not_lt_of_le hle)) n2
theorem at_exec {M : Model} {A : Around} {c : Code} {st : Stmt} {rest : List Stmt} {env : Env} {Q : Flow → Shared → Prop} {E : Value → Shared → Prop} {s : Shared}
    (h : wpAny M A (exec st env) (fun f s' => match f with | .next => PySem.wpAt M A c (execs rest env) Q E s' | f => Q f s') E s) : PySem.wpAt M A c (execs (st :: rest) env) Q E s := by
  refine ks_wpAt_execs_cons fun Γ p hc hΓ => ?_
  refine Sem.wp_mono M Γ _ (fun f p' s' h' => ?_) (fun _ _ _ h' => h') _ _ (h Γ p hΓ)
  cases f <;> exact h'
theorem at_all {M : Model} {A : Around} {c : Code} {ss : List Stmt} {env : Env} {Q : Flow → Shared → Prop} {E : Value → Shared → Prop} {s : Shared}
    (h : wpAny M A (fExecs ss env) Q E s) : PySem.wpAt M A c (execs ss env) Q E s := by
  rw [← fExecs_eq] at h
  exact PySem.wpAt_of_wpAny h
theorem own_by {fz : List Ent} {pre : List Ent} (h : ∀ a ∈ pre.map (·.1), OwnA fz a) : ∀ p ∈ pre, OwnA fz p.1 := fun p hp => h _ (List.mem_map.mpr ⟨p, hp, rfl⟩)
theorem own_cons {fz : List Ent} {a : Addr} {l : List Addr} (h : OwnA fz a) (hl : ∀ b ∈ l, OwnA fz b) : ∀ b ∈ a :: l, OwnA fz b := fun b hb => by
  rcases List.mem_cons.mp hb with rfl | hb
  · exact h
  · exact hl b hb
theorem own_app {fz : List Ent} {l l' : List Addr} (h : ∀ b ∈ l, OwnA fz b) (h' : ∀ b ∈ l', OwnA fz b) : ∀ b ∈ l ++ l', OwnA fz b := fun b hb => (List.mem_append.mp hb).elim (h b) (h' b)
theorem own_ads {fz : List Ent} {pre : List Ent} (h : ∀ p ∈ pre, OwnA fz p.1) : ∀ a ∈ pre.map (·.1), OwnA fz a := fun a ha => by
  obtain ⟨p, hp, rfl⟩ := List.mem_map.mp ha
  exact h p hp
theorem nd_snoc {l : List Addr} {a : Nat} (h : l.Nodup) (ha : ∀ b ∈ l, b < a) : (l ++ [a]).Nodup := by
  rw [List.nodup_append]
  exact ⟨h, by simp, fun x hx y hy => by rw [List.mem_singleton.mp hy]; exact Nat.ne_of_lt (ha x hx)⟩
theorem nd_snoc2 {l : List Addr} {a c : Nat} (h : l.Nodup) (ha : ∀ b ∈ l, b < a) (hc : a < c) : (l ++ [c, a]).Nodup := by
  rw [List.nodup_append]
  refine ⟨h, by simp; exact Nat.ne_of_gt hc, fun x hx y hy => ?_⟩
  have h1 : x < a := ha x hx
  rcases List.mem_cons.mp hy with e | hy
  · exact fun z => Nat.lt_irrefl c (Nat.lt_of_le_of_lt (Nat.le_of_eq (e.symm.trans z.symm)) (Nat.lt_trans h1 hc))
  · rw [List.mem_singleton.mp hy]; exact Nat.ne_of_lt h1
theorem lt_of_has {h : Heap} {pre : List Ent} (has : Has h pre) : ∀ b ∈ pre.map (·.1), b < h.objs.size := fun b hb => by
  obtain ⟨p, hp, rfl⟩ := List.mem_map.mp hb
  exact Heap.lt_size (has p hp)
theorem has_nth {h : Heap} {pre : List Ent} (has : Has h pre) (i : Nat) {p : Ent} (e : pre[i]? = some p) : h.get? p.1 = some p.2 := has p (List.mem_of_getElem? e)
structure OkNl (K : Params → KT) : Prop where
  body : ∀ P, bodyOf K P 56 = [stmtOf K P 56 0, ifNe (ifQ (stmtOf K P 56 1)), stmtOf K P 56 2, stmtOf K P 56 3]
  mark : ∀ P, behindInMarks .NotEq (ifQ (stmtOf K P 56 1)).right = false
  push : ok_push K
  app : ∀ x, okChk K "list.append" [x]
  set : ∀ x y, okChk K "list.__setitem__" [x, y]
  reset : ok_reset0 K
  pop : OkPop K
  bmc : ok_bmc K
  r0 : ok_nl0 K
  r1 : ok_nl1 K
  r2 : ok_nl2 K
  r3 : ok_nl3 K
  r4 : ok_nl4 K
  r5 : ok_nl5 K
section
variable {K : Params → KT} [ok : Nonempty (KOk K)] {P : Params} {dr : Source → Nat → Nat} {fz : List Ent}
theorem con_collect {q : Nat} {vs : Array Value} (hsz : vs.size ≤ sizeLine) :
    CON K P dr fz (.builtin "proto.collect" ⟨[.ref q], []⟩) [(q, tupO vs)] 0 0 (fun v => ⟨.ok (.ret (.ref (v 0))), [], [(v 0, lisO vs (v 1))]⟩) :=
  con_builtin F.plain_proto_collect F.entry_proto_collect fun A h g dr' tk os R room hi hB has r hR => by
    have hl : h.get? q = some (tupO vs) := has0 has
    show wpAny _ A.in1 (newList [] >>= fun l => again (.builtin "list.__iadd__" ⟨[l, .ref q], []⟩)) _ _ _
    refine wpAny_bind (wpAny_newObj_type ?_)
    refine wpAny_pure ⟨plainId_quiet F.plain_list_iadd _, codeAny_builtin F.entry_list_iadd ?_⟩
    rw [Around.under_plainId F.plain_list_iadd _]
    show wpAny _ A.in1 (Builtin.List.listExtendWith (.ref h.objs.size) (.ref q) (.ref h.objs.size)) _ _ _
    have r1 := r.alloc (o := lisO #[] 0) rfl
    have r2 := r1.update (f := Obj.mapSeq (· ++ vs)) (j := 1) rfl rfl
    refine wpAny_extend_seq (hsz := hsz) _ q _ 0 (.inr rfl) (Heap.get?_push_size _ rfl) (Heap.get?_push_of_some _ hl) rfl rfl ?_
    refine hR (fun i => if i = 0 then h.objs.size + 0 else if (#[] ++ vs).size = 0 then 0 else 1) _ tk _ _ _ r2 ⟨has0 r2.has, trivial⟩ ⟨?_, by simp⟩
    intro p hp
    rw [List.mem_singleton.mp hp]
    refine ⟨by simp, (has1 r2.has).trans ?_⟩
    simp [Obj.mapSeq, lisO]
theorem con_bmpush (o : OkNl K) {bm ac ad e a b t1 t2 : Nat} {w f : Str} {ys : Array Value} (hsz : ys.size ≤ sizeLine) :
    CON K P dr fz (.call (.ref bm) ⟨[.str f t1, .str w t2], []⟩) [(ac, accO ad ys e), (ad, accD P a b), (bm, bmO ac)] 5 20
      (fun v => ⟨.ok (.ret .none), [accO ad (ys.push (.ref (v 0))) (v 1)], [(v 0, tupO #[.str f t1, .str w t2])]⟩) :=
  con_again (fun n tk => o.bmc P bm ac ad e a b (.str f t1) (.str w t2) ys n tk) (fun _ _ => rfl) (con_frame [(bm, bmO ac)] (con_push o.push o.app hsz) (by intro v; simp))
theorem con_newline (o : OkNl K) {mk md ln ac ad e le a b q t1 t2 k : Nat} {w S : Str} {t : Nat → Nat} {W : Int} {ls ys : Array Value} (hw : (w == "") = false) (hsz : ys.size + 1 ≤ sizeLine) (hls : ls.size ≤ sizeLine)
    (hlen : ∀ q2 e2, CON K P dr fz (.call (.builtin "len") ⟨[.ref ac], []⟩) [(ac, accO ad (ys.push (.ref q2)) e2), (ad, accD P a b), (q2, tupO #[.str " " t1, .str w t2])] 35 130 (fun v => ⟨.ok (.ret (.int (Int.ofNat (k + 1)) (v 0))), [], []⟩))
    (hws : ∀ q2 e2, CON K P dr fz (.call (.ref 167) ⟨[.ref ac], []⟩) [(ac, accO ad (ys.push (.ref q2)) e2), (ad, accD P a b), (q2, tupO #[.str " " t1, .str w t2])] 60 200 (fun v => ⟨.ok (.ret (.bool false)), [], []⟩))
    (hstr : ∀ q2 e2, CON K P dr fz (.call (.type "str") ⟨[.ref ac], []⟩) [(ac, accO ad (ys.push (.ref q2)) e2), (q2, tupO #[.str " " t1, .str w t2])] 45 150 (fun v => ⟨.ok (.ret (.str S (v 0))), [], []⟩)) :
    CON K P dr fz (.call (.ref 56) ⟨[.ref mk], []⟩) [(mk, makO md), (md, makD P t W ln ac), (ln, lisO ls le), (ac, accO ad (ys.push (.ref q)) e), (ad, accD P a b), (q, tupO #[.str " " t1, .str w t2])] 140 400
      (fun v => ⟨.ok (.ret .none), [makO md, makD P t W ln ac, lisO (ls.push (.str S (v 0))) (le + 1), accO ad #[] (v 1), accD P a (v 2)], []⟩) := by
  intro A h g d tk os R room hi hB has hlo nd hR
  have hN : OwnA fz h.objs.size := (WI K P fz).big h hi _ (Nat.le_refl _)
  have own7 : ∀ x ∈ [mk, md, ln, ac, ad, q, h.objs.size], OwnA fz x := own_app (own_ads hlo) (own_cons hN (fun _ z => nomatch z))
  have nd7 : [mk, md, ln, ac, ad, q, h.objs.size].Nodup := nd_snoc nd (lt_of_has has)
  have sub7 : ∀ x ∈ [mk, md, ln, ac, ad, q, h.objs.size], x ∈ [mk, md, ln, ac, ad, q] ∨ h.objs.size ≤ x := fun x hx => by
    rcases List.mem_append.mp (show x ∈ [mk, md, ln, ac, ad, q] ++ [h.objs.size] from hx) with hx | hx
    · exact .inl hx
    · exact .inr (by rw [List.mem_singleton.mp hx]; exact Nat.le_refl _)
  refine code_run (o.r0 P mk md ln ac ad e le a b q t1 t2 w t W ls ys h.objs.size tk) room hi hB has hlo nd ?_
  intro h1 g1 hi1 hB1 hs1 has1' hk1
  have rm : Room (A.deeper (envOf K P 56 h.objs.size)) 100 300 := room_deeper (rl room)
  have hs1' : h1.objs.size = h.objs.size + 1 := hs1
  refine ks_codeAny_funcAt ?_
  rw [o.body P]
  refine at_first ?_
  refine run_flow (o.r1 P mk md ln ac ad e le a b q t1 t2 w t W ls ys h.objs.size (tk + 0) _ _) rm hi1 hB1 has1' (own_by own7) nd7 ⟨con_accpop o.pop hsz, fun v n2 tk2 q1 q2 h2 g2 hi2 hB2 hs2 has2' hk2 => ?_⟩
  have hs2' : h2.objs.size = n2 := hs2
  have k2 := keep_then hk1 hk2 sub7
  show PySem.wpAt _ _ _ (execs _ _) _ _ _
  refine at_exec (wpAny_If (wpAny_isTrue_Compare1 ?_ (o.mark P)))
  rw [fEval_eq]
  refine run_val (o.r2 P mk md ln ac ad (v 0) le a b q t1 t2 w t W ls ys h.objs.size (tk + 0) (tk2 + 0) _ _) (rl rm) hi2 hB2 has2' (own_by own7) nd7 fun h3 g3 hi3 hB3 hs3 has3' hk3 => ?_
  have hs3' : h3.objs.size = h2.objs.size := hs3
  have k3 := keep_then k2 hk3 sub7
  refine run_val (o.r3 P mk md ln ac ad (v 0) le a b q t1 t2 w t W ls ys h.objs.size (tk + 0) (tk2 + 0) _ _) (rl rm) hi3 hB3 has3' (own_by own7) nd7 fun h4 g4 hi4 hB4 hs4 has4' hk4 => ?_
  have hs4' : h4.objs.size = h3.objs.size + 1 := hs4
  have k4 := keep_then k3 hk4 sub7
  have hq4 : h4.get? q = some (tupO #[.str " " t1, .str w t2]) := has_nth has4' 5 rfl
  have hn4 : h4.get? (h3.objs.size + 0) = some (tupO #[.str " " (tk2 + 1 + 0 + 0), .str "" (tk2 + 1 + 0 + 1)]) := has_nth has4' 7 rfl
  have hu4 : (A.deeper (envOf K P 56 h.objs.size)).units < cLine := by have := rm.2.2; exact ar325 this
  refine EqBoolInt.of_rcne (SeqAt.RcNeAt.tuples (e := fun j => j == 0) ⟨_, hq4, rfl, _, rfl⟩ ⟨_, hn4, rfl, _, rfl⟩ hu4 ?_) ?_
  · intro j h1 h2
    match j, h1, h2 with
    | 0, _, _ => exact SeqAt.EqAt.str_str _ _ _ _
    | 1, _, _ =>
      have z := SeqAt.EqAt.str_str (A := (A.deeper (envOf K P 56 h.objs.size)).in1) (s := ⟨h4, g4, d, tk2 + 1 + 0 + 2, os⟩) w t2 "" (tk2 + 1 + 0 + 1)
      rw [hw] at z
      exact z
  refine wpAny_truthy_bool ?_
  show wpAny _ _ (execs _ _) _ _ _
  rw [fExecs_eq]
  have has4 : Has h4 [(mk, makO md), (md, makD P t W ln ac), (ln, lisO ls le), (ac, accO ad ys (v 0)), (ad, accD P a b), (q, tupO #[.str " " t1, .str w t2]), (h.objs.size, frmO #[dEnt P "self" (tk + 0) (.ref mk), dEnt P "end_of_line" (tk2 + 0) (.ref q)] 2)] := fun p hp => has4' p (List.mem_append_left [(_, _)] hp)
  refine run_flow (o.r4 P mk md ln ac ad (v 0) le a b q t1 t2 w t W ls ys h.objs.size (tk + 0) (tk2 + 0) _ _) rm hi4 hB4 has4 (own_by own7) nd7 ⟨con_collect (by show 2 ≤ sizeLine; decide), fun v5 n5 tk5 z1 z2 => ⟨con_bmpush o (ar35 hsz), fun v6 n6 tk6 y1 y2 h6 g6 hi6 hB6 hs6 has6' hk6 => ?_⟩⟩
  have hs6' : h6.objs.size = n6 := hs6
  have k6 := keep_then k4 hk6 sub7
  have hq2 : h.objs.size < v6 0 := by
    have := (y2.1 _ List.mem_cons_self).1
    simp at this
    exact ar326 q1 z1 hs2' hs3' hs1' hs4' this
  have hO2 : OwnA fz (v6 0) := (WI K P fz).big h hi _ (Nat.le_of_lt hq2)
  have nd6 : [mk, md, ln, ac, ad].Nodup := by
    have := nd
    rw [show ([((mk, makO md) : Ent), (md, makD P t W ln ac), (ln, lisO ls le), (ac, accO ad (ys.push (.ref q)) e), (ad, accD P a b), (q, tupO #[.str " " t1, .str w t2])].map (·.1)) = [mk, md, ln, ac, ad] ++ [q] from rfl, List.nodup_append] at this
    exact this.1
  have lt5 : ∀ x ∈ [mk, md, ln, ac, ad], x < h.objs.size := fun x hx => lt_of_has has x (List.mem_append_left [q] hx)
  have own5 : ∀ x ∈ [mk, md, ln, ac, ad], OwnA fz x := fun x hx => own_ads hlo x (List.mem_append_left [q] hx)
  have nd8 : [mk, md, ln, ac, ad, v6 0, h.objs.size].Nodup := nd_snoc2 nd6 lt5 hq2
  have own8 : ∀ x ∈ [mk, md, ln, ac, ad, v6 0, h.objs.size], OwnA fz x := own_app own5 (own_cons hO2 (own_cons hN (fun _ z => nomatch z)))
  have sub8 : ∀ x ∈ [mk, md, ln, ac, ad, v6 0, h.objs.size], x ∈ [mk, md, ln, ac, ad, q] ∨ h.objs.size ≤ x := fun x hx => by
    rcases List.mem_append.mp (show x ∈ [mk, md, ln, ac, ad] ++ [v6 0, h.objs.size] from hx) with hx | hx
    · exact .inl (List.mem_append_left [q] hx)
    · rcases List.mem_cons.mp hx with hx | hx
      · exact .inr (by rw [hx]; exact Nat.le_of_lt hq2)
      · exact .inr (by rw [List.mem_singleton.mp hx]; exact Nat.le_refl _)
  have has6 : Has h6 [(mk, makO md), (md, makD P t W ln ac), (ln, lisO ls le), (ac, accO ad (ys.push (.ref (v6 0))) (v6 1)), (ad, accD P a b), (v6 0, tupO #[.str " " t1, .str w t2]), (h.objs.size, frmO #[dEnt P "self" (tk + 0) (.ref mk), dEnt P "end_of_line" (tk2 + 0) (.ref q)] 2)] := fun p hp => by
    rcases List.mem_append.mp (show p ∈ [(mk, makO md), (md, makD P t W ln ac), (ln, lisO ls le), (ac, accO ad (ys.push (.ref (v6 0))) (v6 1)), (ad, accD P a b)] ++ [(v6 0, tupO #[.str " " t1, .str w t2]), (h.objs.size, frmO #[dEnt P "self" (tk + 0) (.ref mk), dEnt P "end_of_line" (tk2 + 0) (.ref q)] 2)] from hp) with hp | hp
    · exact has6' p (List.mem_append_left [_, _, _] hp)
    · rcases List.mem_cons.mp hp with rfl | hp
      · exact has_nth has6' 7 rfl
      · rw [List.mem_singleton.mp hp]; exact has_nth has6' 6 rfl
  show PySem.wpAt _ _ _ (fExecs _ _) _ _ _
  refine PySem.wpAt_of_wpAny ?_
  refine run_flow (o.r5 P mk md ln ac ad (v6 1) le a b q (v6 0) t1 t2 k w S t W ls (ys.push (.ref (v6 0))) h.objs.size (tk + 0) (tk2 + 0) _ _) rm hi6 hB6 has6 (own_by own8) nd8 ⟨hlen _ _, fun v7 n7 tk7 x1 x2 => ⟨by simp, ⟨hws _ _, fun v8 n8 tk8 u1 u2 => ⟨hstr _ _, fun v9 n9 tk9 c1 c2 =>
    ⟨con_bi (ex := []) bi_append (con_append hls), fun va na tka d1 d2 => ⟨con_reset0 o.reset o.set (by simpa using hsz), fun vb nb tkb b1 b2 hf gf hif hBf hsf hasf' hkf => ?_⟩⟩⟩⟩⟩⟩
  have hsf' : hf.objs.size = nb := hsf
  have kf := keep_then k6 hkf sub8
  refine hR (fun i => if i = 0 then v9 0 else if i = 1 then vb 0 else vb 1) hf gf _ hif hBf (ar327 q1 y1 x1 u1 c1 d1 b1 z1 hs2' hs3' hs6' hsf' hs1' hs4') ⟨has_nth hasf' 0 rfl, has_nth hasf' 1 rfl, has_nth hasf' 2 rfl, has_nth hasf' 3 rfl, has_nth hasf' 4 rfl, ?_, trivial⟩ newOk0 kf
  have hqO : OwnA fz q := hlo (q, _) (List.mem_append_right [_, _, _, _, _] List.mem_cons_self)
  have hql : q < h.objs.size := lt_of_has has q (List.mem_append_right [mk, md, ln, ac, ad] List.mem_cons_self)
  refine hkf q _ (has_nth has6' 5 rfl) (fun hm => ?_) (fun hm => (WI K P fz).tlo _ hm hqO)
  rcases List.mem_append.mp (show q ∈ [mk, md, ln, ac, ad] ++ [v6 0, h.objs.size] from hm) with hm | hm
  · have := nd
    rw [show ([((mk, makO md) : Ent), (md, makD P t W ln ac), (ln, lisO ls le), (ac, accO ad (ys.push (.ref q)) e), (ad, accD P a b), (q, tupO #[.str " " t1, .str w t2])].map (·.1)) = [mk, md, ln, ac, ad] ++ [q] from rfl, List.nodup_append] at this
    exact this.2.2 _ hm _ List.mem_cons_self rfl
  · rcases List.mem_cons.mp hm with hm | hm
    · exact Nat.lt_irrefl _ (Nat.lt_trans (hm ▸ hql : v6 0 < h.objs.size) hq2)
    · exact Nat.lt_irrefl _ ((List.mem_singleton.mp hm) ▸ hql)
end
noncomputable def sc_chunkA (K : Params → KT) (P : Params) (mk md ln ac ad e le a b t1 t2 : Nat) (w : Str) (t : Nat → Nat) (W T : Int) (ls xs : Array Value) (N tk : Nat) : Sc :=
  sS [0, 0, 8, 8, 8, 8, 8, 8, 1, 8, 3, 0, 0, 0, 3, 0, 0, 0, 3, 3, 0, 4, 6, 0, 0, 0, 6, 0, 0, 0, 6, 0, 0, 0, 0, 6, 7, 8, 8, 0] (.call (.ref 122) ⟨[.ref ac, .str " " t1, .str w t2], []⟩) [3, 4] [(ac, accO ad xs e), (ad, accD P a b)] 5 20 (fun v1 => ⟨.ok (.ret .none), [accO ad (xs.push (.ref (v1 0))) (v1 1)], [(v1 0, tupO #[.str " " t1, .str w t2])]⟩) 1 fun v1 n1 tk1 =>
  sS [0, 0, 8, 3, 0, 0, 0, 3, 0, 0, 0, 3, 3, 0, 4] (.call (.builtin "len") ⟨[.ref ac], []⟩) [3, 4, 6] [(ac, accO ad (xs.push (.ref (v1 0))) (v1 1)), (ad, accD P a b), (v1 0, tupO #[.str " " t1, .str w t2])] 35 130 (fun v2 => ⟨.ok (.ret (.int T (v2 0))), [], []⟩) 0 fun v2 n2 tk2 =>
  sA [8, 3, 0, 0, 0, 3, 0, 0, 0, 3, 3, 0, 4] 1 (.bool (decide (W < T))) (.bool false) <|
  sF [] (.ok (.ret .none)) [0, 1, 2, 3, 4, 6] [(mk, makO md), (md, makD P t W ln ac), (ln, lisO ls le), (ac, accO ad (xs.push (.ref (v1 0))) (v1 1)), (ad, accD P a b), (v1 0, tupO #[.str " " t1, .str w t2])] 0 1
noncomputable def ok_chunkA (K : Params → KT) : Prop := ∀ P mk md ln ac ad e le a b t1 t2 w t W T ls xs N tk,
  RunsTo K P 100 300 4000 (.call (.ref 91) ⟨[.ref mk, .str " " t1, .str w t2], []⟩) [(mk, makO md), (md, makD P t W ln ac), (ln, lisO ls le), (ac, accO ad xs e), (ad, accD P a b)] N tk (sc_chunkA K P mk md ln ac ad e le a b t1 t2 w t W T ls xs N tk)
noncomputable def sc_chunkB (K : Params → KT) (P : Params) (mk md ln ac ad e le a b t1 t2 : Nat) (w : Str) (t : Nat → Nat) (W T : Int) (ls xs : Array Value) (S : Str) (N tk : Nat) : Sc :=
  sS [0, 0, 8, 8, 8, 8, 8, 8, 1, 8, 3, 0, 0, 0, 3, 0, 0, 0, 3, 3, 0, 4, 6, 0, 0, 0, 6, 0, 0, 0, 6, 0, 0, 0, 0, 6, 7, 8, 8, 0] (.call (.ref 122) ⟨[.ref ac, .str " " t1, .str w t2], []⟩) [3, 4] [(ac, accO ad xs e), (ad, accD P a b)] 5 20 (fun v1 => ⟨.ok (.ret .none), [accO ad (xs.push (.ref (v1 0))) (v1 1)], [(v1 0, tupO #[.str " " t1, .str w t2])]⟩) 1 fun v1 n1 tk1 =>
  sS [0, 0, 8, 3, 0, 0, 0, 3, 0, 0, 0, 3, 3, 0, 4] (.call (.builtin "len") ⟨[.ref ac], []⟩) [3, 4, 6] [(ac, accO ad (xs.push (.ref (v1 0))) (v1 1)), (ad, accD P a b), (v1 0, tupO #[.str " " t1, .str w t2])] 35 130 (fun v2 => ⟨.ok (.ret (.int T (v2 0))), [], []⟩) 0 fun v2 n2 tk2 =>
  sA [8, 3, 0, 0, 0, 3, 0, 0, 0, 3, 3, 0, 4] 1 (.bool (decide (W < T))) (.bool true) <|
  sS [8, 3, 0, 0, 0, 3, 0, 0, 0, 3, 3, 0, 4, 10, 10, 10, 10, 10, 10, 10, 8, 8, 0, 0, 8, 3, 0, 0, 0, 3, 0, 0, 0, 3, 3, 0, 4, 6, 0, 0, 0, 6, 0, 0, 0, 6, 0, 0, 0, 0, 6, 7, 0] (.call (.ref 175) ⟨[.ref ac], []⟩) [3] [(ac, accO ad (xs.push (.ref (v1 0))) (v1 1))] 6 30 (fun v3 => ⟨.ok (.ret (.int ((xs.push (.ref (v1 0))).size : Int) (v3 0))), [], []⟩) 1 fun v3 n3 tk3 =>
  sA [] 0 (.int (((xs.push (.ref (v1 0))).size : Int) - 1) (tk3 + 1)) (.int (xs.size : Int) (tk3 + 1)) <|
  sS [11, 11, 11, 11, 11, 11] (.call (.builtin "range.__iter__") ⟨[.ref (n3 + 0)], []⟩) [8] [(n3 + 0, rngO (xs.size : Int) (tk3 + 1) 0 (tk3 + 2) (-1) (tk3 + 4))] 0 0 (fun v4 => ⟨.ok (.ret (.ref (v4 0))), [], [(v4 0, ritO (xs.size : Int) (xs.size : Int) (-1))]⟩) 1 fun v4 n4 tk4 =>
  sS [12, 12] (.call (.builtin "range_iterator.__next__") ⟨[.ref (v4 0)], []⟩) [9] [(v4 0, ritO (xs.size : Int) (xs.size : Int) (-1))] 0 0 (fun v5 => ⟨.ok (.ret (.int (xs.size : Int) (v5 0))), [ritO ((xs.size : Int) + -1) ((xs.size : Int) - 1) (-1)], []⟩) 0 fun v5 n5 tk5 =>
  sS [8, 8, 8, 8, 3, 0, 0, 0, 3, 0, 0, 0, 3, 3, 0, 4, 8, 6, 0, 0, 0, 6, 0, 6, 0, 0, 0] (.call (.builtin "list.__getitem__") ⟨[.ref ac, .int (xs.size : Int) (v5 0)], []⟩) [3] [(ac, accO ad (xs.push (.ref (v1 0))) (v1 1))] 0 0 (fun v6 => ⟨.ok (.ret (.ref (v1 0))), [], []⟩) 0 fun v6 n6 tk6 =>
  sS [9, 9, 9, 9, 9, 8, 8, 8, 8, 8, 8, 3, 0, 0, 0, 3, 0, 0, 0, 3, 3, 0, 4, 6, 0, 0, 0, 6, 0, 0, 0, 6, 0, 0, 0, 0, 6, 7, 8, 0] (.call (.ref 130) ⟨[.ref ac, .int (xs.size : Int) (v5 0)], []⟩) [3] [(ac, accO ad (xs.push (.ref (v1 0))) (v1 1))] 5 20 (fun v7 => ⟨.ok (.ret (.ref (v7 0))), [accO ad xs (v7 1)], [(v7 0, lisO #[(.ref (v1 0))] 0)]⟩) 0 fun v7 n7 tk7 =>
  sS [8, 8, 8, 3, 0, 0, 0, 3, 0, 0, 0, 3, 3, 0, 4, 5, 5, 5, 5, 0, 0, 8, 3, 0, 0, 0, 3, 0, 0, 0, 3, 3, 0, 4] (.call (.type "str") ⟨[.ref ac], []⟩) [3] [(ac, accO ad xs (v7 1))] 45 150 (fun v8 => ⟨.ok (.ret (.str S (v8 0))), [], []⟩) 0 fun v8 n8 tk8 =>
  sS [] (.call (.builtin "list.append") ⟨[.ref ln, .str S (v8 0)], []⟩) [2] [(ln, lisO ls le)] 0 0 (fun v9 => ⟨.ok (.ret .none), [lisO (ls.push (.str S (v8 0))) (le + 1)], []⟩) 0 fun v9 n9 tk9 =>
  sS [8, 3, 0, 0, 0, 3, 0, 0, 0, 3, 3, 0, 4, 6, 0, 0, 0, 6, 0, 0, 0, 6, 0, 0, 0, 0, 6, 7, 8, 0] (.call (.ref 160) ⟨[.ref ac, .ref (v7 0)], []⟩) [3, 4, 10] [(ac, accO ad xs (v7 1)), (ad, accD P a b), (v7 0, lisO #[(.ref (v1 0))] 0)] 5 20 (fun v10 => ⟨.ok (.ret .none), [accO ad #[(.ref (v1 0))] (v10 0), accD P a (v10 1)], []⟩) 0 fun v10 n10 tk10 =>
  sF [] (.ok (.ret .none)) [0, 1, 2, 3, 4, 6] [(mk, makO md), (md, makD P t W ln ac), (ln, lisO (ls.push (.str S (v8 0))) (le + 1)), (ac, accO ad #[(.ref (v1 0))] (v10 0)), (ad, accD P a (v10 1)), (v1 0, tupO #[.str " " t1, .str w t2])] 0 0
noncomputable def ok_chunkB (K : Params → KT) : Prop := ∀ P mk md ln ac ad e le a b t1 t2 w t W T ls xs S N tk,
  RunsTo K P 100 300 4000 (.call (.ref 91) ⟨[.ref mk, .str " " t1, .str w t2], []⟩) [(mk, makO md), (md, makD P t W ln ac), (ln, lisO ls le), (ac, accO ad xs e), (ad, accD P a b)] N tk (sc_chunkB K P mk md ln ac ad e le a b t1 t2 w t W T ls xs S N tk)
noncomputable def sc_chunkC (K : Params → KT) (P : Params) (mk md ln ac ad e le a b t1 t2 : Nat) (w : Str) (t : Nat → Nat) (W T : Int) (ls : Array Value) (N tk : Nat) : Sc :=
  sS [0, 0, 8, 8, 8, 8, 8, 8, 1, 8, 3, 0, 0, 0, 3, 0, 0, 0, 3, 3, 0, 4, 6, 0, 0, 0, 6, 0, 0, 0, 6, 0, 0, 0, 0, 6, 7, 8, 8, 0] (.call (.ref 122) ⟨[.ref ac, .str " " t1, .str w t2], []⟩) [3, 4] [(ac, accO ad #[] e), (ad, accD P a b)] 5 20 (fun v1 => ⟨.ok (.ret .none), [accO ad (#[].push (.ref (v1 0))) (v1 1)], [(v1 0, tupO #[.str " " t1, .str w t2])]⟩) 1 fun v1 n1 tk1 =>
  sS [0, 0, 8, 3, 0, 0, 0, 3, 0, 0, 0, 3, 3, 0, 4] (.call (.builtin "len") ⟨[.ref ac], []⟩) [3, 4, 6] [(ac, accO ad (#[].push (.ref (v1 0))) (v1 1)), (ad, accD P a b), (v1 0, tupO #[.str " " t1, .str w t2])] 35 130 (fun v2 => ⟨.ok (.ret (.int T (v2 0))), [], []⟩) 0 fun v2 n2 tk2 =>
  sA [8, 3, 0, 0, 0, 3, 0, 0, 0, 3, 3, 0, 4] 1 (.bool (decide (W < T))) (.bool true) <|
  sS [8, 3, 0, 0, 0, 3, 0, 0, 0, 3, 3, 0, 4, 10, 10, 10, 10, 10, 10, 10, 8, 8, 0, 0, 8, 3, 0, 0, 0, 3, 0, 0, 0, 3, 3, 0, 4, 6, 0, 0, 0, 6, 0, 0, 0, 6, 0, 0, 0, 0, 6, 7, 0] (.call (.ref 175) ⟨[.ref ac], []⟩) [3] [(ac, accO ad (#[].push (.ref (v1 0))) (v1 1))] 6 30 (fun v3 => ⟨.ok (.ret (.int 1 (v3 0))), [], []⟩) 1 fun v3 n3 tk3 =>
  sS [11, 11, 11, 11, 11, 11, 11, 11, 11, 11, 12, 12, 12, 12, 12, 12, 14, 10, 10, 10, 10, 10, 10, 16, 8, 3, 0, 0, 0, 3, 0, 0, 0, 3, 3, 0, 4, 6, 0, 0, 0, 6, 0, 0, 0, 6, 0, 0, 0, 0, 6, 7, 0] (.call (.ref 138) ⟨[.ref ac], []⟩) [3, 4] [(ac, accO ad (#[].push (.ref (v1 0))) (v1 1)), (ad, accD P a b)] 30 80 (fun v4 => ⟨.ok (.ret (.ref (v1 0))), [accO ad #[] (v4 0)], []⟩) 6 fun v4 n4 tk4 =>
  sS [9, 9, 9, 9, 17, 17, 17, 17, 17, 9, 17, 17, 17, 17, 17, 17, 9, 17, 17, 17, 17, 17, 17, 9, 17, 17, 19, 8, 8, 8, 8, 8, 3, 0, 0, 0, 3, 0, 0, 0, 3, 3, 0, 4, 6, 0, 0, 0, 0, 0, 0, 6, 0, 6, 0, 0, 0, 6, 6, 0, 7, 8, 3, 0, 0, 0, 3, 0, 0, 0, 3, 3, 0, 4, 6, 0, 0, 0, 6, 0, 0, 0, 6, 0, 0, 0, 0, 6, 7, 8, 8, 0] (.call (.ref 122) ⟨[.ref ac, .str " " t1, .str w t2], []⟩) [3, 4] [(ac, accO ad #[] (v4 0)), (ad, accD P a b)] 5 20 (fun v5 => ⟨.ok (.ret .none), [accO ad (#[].push (.ref (v5 0))) (v5 1)], [(v5 0, tupO #[.str " " t1, .str w t2])]⟩) 3 fun v5 n5 tk5 =>
  sF [] (.ok (.ret .none)) [0, 1, 2, 3, 4, 17] [(mk, makO md), (md, makD P t W ln ac), (ln, lisO ls le), (ac, accO ad #[.ref (v5 0)] (v5 1)), (ad, accD P a b), (v5 0, tupO #[.str " " t1, .str w t2])] 0 0
noncomputable def ok_chunkC (K : Params → KT) : Prop := ∀ P mk md ln ac ad e le a b t1 t2 w t W T ls N tk,
  RunsTo K P 100 300 4000 (.call (.ref 91) ⟨[.ref mk, .str " " t1, .str w t2], []⟩) [(mk, makO md), (md, makD P t W ln ac), (ln, lisO ls le), (ac, accO ad #[] e), (ad, accD P a b)] N tk (sc_chunkC K P mk md ln ac ad e le a b t1 t2 w t W T ls N tk)
structure OkCk (K : Params → KT) : Prop where
  nl : OkNl K
  pf : ok_pop_from K
  get : ∀ x, okChk K "list.__getitem__" [x]
  rs1 : ok_reset1 K
  ra : ok_chunkA K
  rb : ok_chunkB K
  rc : ok_chunkC K
section
variable {K : Params → KT} [ok : Nonempty (KOk K)] {P : Params} {dr : Source → Nat → Nat} {fz : List Ent}
theorem con_chunkA (o : OkCk K) {mk md ln ac ad e le a b t1 t2 : Nat} {w : Str} {t : Nat → Nat} {W T : Int} {ls xs : Array Value} (hsz : xs.size ≤ sizeLine) (hT : T ≤ W)
    (hlen : ∀ q2 e2, CON K P dr fz (.call (.builtin "len") ⟨[.ref ac], []⟩) [(ac, accO ad (xs.push (.ref q2)) e2), (ad, accD P a b), (q2, tupO #[.str " " t1, .str w t2])] 35 130 (fun v => ⟨.ok (.ret (.int T (v 0))), [], []⟩)) :
    CON K P dr fz (.call (.ref 91) ⟨[.ref mk, .str " " t1, .str w t2], []⟩) [(mk, makO md), (md, makD P t W ln ac), (ln, lisO ls le), (ac, accO ad xs e), (ad, accD P a b)] 100 300
      (fun v => ⟨.ok (.ret .none), [makO md, makD P t W ln ac, lisO ls le, accO ad (xs.push (.ref (v 0))) (v 1), accD P a b], [(v 0, tupO #[.str " " t1, .str w t2])]⟩) :=
  con_by (fun N tk => o.ra P mk md ln ac ad e le a b t1 t2 w t W T ls xs N tk) fun A h d tk os R room hi hlt hlo nd hR => by
    refine ⟨con_push o.nl.push o.nl.app hsz, fun v1 n1 tk1 q1 q2 => ⟨hlen _ _, fun v2 n2 tk2 q4 q5 => ⟨by simp; omega, fun h' g' hi' hB' hs' has' hk' => ?_⟩⟩⟩
    have hs2 : h'.objs.size = n2 := by simpa using hs'
    have hn : h.objs.size ≤ v1 0 := by have := (q2.1 _ List.mem_cons_self).1; simp at this; exact ar35 this
    exact hR v1 h' g' _ hi' hB' (ar36 q4 q1 hs2) ⟨has_nth has' 0 rfl, has_nth has' 1 rfl, has_nth has' 2 rfl, has_nth has' 3 rfl, has_nth has' 4 rfl, trivial⟩ (newOk1 hn (has_nth has' 5 rfl)) hk'
theorem range_down (n : Nat) : Builtin.Range.rangeSize (n : Int) 0 (-1) = (n : Int) := by
  unfold Builtin.Range.rangeSize
  rw [if_neg (by decide)]
  split
  · rw [show (-(-1) : Int) = 1 from rfl, Int.ediv_one]; exact ar37
  · omega
theorem con_chunkB (o : OkCk K) {mk md ln ac ad e le a b t1 t2 : Nat} {w S : Str} {t : Nat → Nat} {W T : Int} {ls xs : Array Value} (hsz : xs.size ≤ 1000) (hx : 0 < xs.size) (hls : ls.size ≤ sizeLine) (hT : W < T)
    (hlen : ∀ q2 e2, CON K P dr fz (.call (.builtin "len") ⟨[.ref ac], []⟩) [(ac, accO ad (xs.push (.ref q2)) e2), (ad, accD P a b), (q2, tupO #[.str " " t1, .str w t2])] 35 130 (fun v => ⟨.ok (.ret (.int T (v 0))), [], []⟩))
    (hstr : ∀ e2, CON K P dr fz (.call (.type "str") ⟨[.ref ac], []⟩) [(ac, accO ad xs e2)] 45 150 (fun v => ⟨.ok (.ret (.str S (v 0))), [], []⟩)) :
    CON K P dr fz (.call (.ref 91) ⟨[.ref mk, .str " " t1, .str w t2], []⟩) [(mk, makO md), (md, makD P t W ln ac), (ln, lisO ls le), (ac, accO ad xs e), (ad, accD P a b)] 100 300
      (fun v => ⟨.ok (.ret .none), [makO md, makD P t W ln ac, lisO (ls.push (.str S (v 1))) (le + 1), accO ad #[.ref (v 0)] (v 2), accD P a (v 3)], [(v 0, tupO #[.str " " t1, .str w t2])]⟩) :=
  con_by (fun N tk => o.rb P mk md ln ac ad e le a b t1 t2 w t W T ls xs S N tk) fun A h d tk os R room hi hlt hlo nd hR => by
    have hL : xs.size ≤ sizeLine := Nat.le_trans hsz (by decide)
    refine ⟨con_push o.nl.push o.nl.app hL, fun v1 n1 tk1 q1 q2 => ⟨hlen _ _, fun v2 n2 tk2 q4 q5 => ⟨by simp; omega, ⟨con_part_count o.nl.pop.pc, fun v3 n3 tk3 q7 q8 => ⟨by simp,
      ⟨con_bi (ex := []) bi_riter (con_riter (range_down _) (ar39 hsz) (ar40) (.inr rfl) (ar41 hsz)), fun v4 n4 tk4 p1 p2 => ⟨con_bi (ex := []) bi_rnext (con_rnext_item (ar42 hx)), fun v5 n5 tk5 p4 p5 =>
      ⟨con_chk (o.get _) (con_getitem (ar43) (ar44 hsz) (by simp)), fun v6 n6 tk6 p7 p8 => ⟨con_pop_from o.pf o.get o.nl.set (Nat.le_trans (Nat.succ_le_succ hsz) (by decide)), fun v7 n7 tk7 u1 u2 => ⟨hstr _, fun v8 n8 tk8 u4 u5 =>
      ⟨con_bi (ex := []) bi_append (con_append hls), fun v9 n9 tk9 u7 u8 => ⟨con_reset1 o.rs1 o.nl.set (Nat.le_trans (Nat.succ_le_succ hsz) (by decide)), fun va na tka w1 w2 h' g' hi' hB' hs' has' hk' => ?_⟩⟩⟩⟩⟩⟩⟩⟩⟩⟩⟩⟩
    have hs2 : h'.objs.size = na := by simpa using hs'
    have hn : h.objs.size ≤ v1 0 := by have := (q2.1 _ List.mem_cons_self).1; simp at this; exact ar35 this
    exact hR (fun i => if i = 0 then v1 0 else if i = 1 then v8 0 else if i = 2 then va 0 else va 1) h' g' _ hi' hB' (ar45 q4 p4 p7 u1 u4 u7 w1 q1 q7 p1 hs2) ⟨has_nth has' 0 rfl, has_nth has' 1 rfl, has_nth has' 2 rfl, has_nth has' 3 rfl, has_nth has' 4 rfl, trivial⟩ (newOk1 hn (has_nth has' 5 rfl)) hk'
theorem con_chunkC (o : OkCk K) {mk md ln ac ad e le a b t1 t2 : Nat} {w : Str} {t : Nat → Nat} {W T : Int} {ls : Array Value} (hT : W < T)
    (hlen : ∀ q2 e2, CON K P dr fz (.call (.builtin "len") ⟨[.ref ac], []⟩) [(ac, accO ad (#[].push (.ref q2)) e2), (ad, accD P a b), (q2, tupO #[.str " " t1, .str w t2])] 35 130 (fun v => ⟨.ok (.ret (.int T (v 0))), [], []⟩)) :
    CON K P dr fz (.call (.ref 91) ⟨[.ref mk, .str " " t1, .str w t2], []⟩) [(mk, makO md), (md, makD P t W ln ac), (ln, lisO ls le), (ac, accO ad #[] e), (ad, accD P a b)] 100 300
      (fun v => ⟨.ok (.ret .none), [makO md, makD P t W ln ac, lisO ls le, accO ad (#[].push (.ref (v 0))) (v 1), accD P a b], [(v 0, tupO #[.str " " t1, .str w t2])]⟩) :=
  con_by (fun N tk => o.rc P mk md ln ac ad e le a b t1 t2 w t W T ls N tk) fun A h d tk os R room hi hlt hlo nd hR => by
    refine ⟨con_push o.nl.push o.nl.app (by decide), fun v1 n1 tk1 q1 q2 => ⟨hlen _ _, fun v2 n2 tk2 q4 q5 => ⟨by simp; omega, ⟨con_part_count o.nl.pop.pc, fun v3 n3 tk3 q7 q8 => ⟨con_accpop o.nl.pop (by decide), fun v4 n4 tk4 p1 p2 =>
      ⟨con_push o.nl.push o.nl.app (by decide), fun v5 n5 tk5 p4 p5 h' g' hi' hB' hs' has' hk' => ?_⟩⟩⟩⟩⟩⟩
    have hs2 : h'.objs.size = n5 := by simpa using hs'
    have hn : h.objs.size ≤ v5 0 := by have := (p5.1 _ List.mem_cons_self).1; simp at this; exact ar46 q4 q1 q7 this p1
    exact hR v5 h' g' _ hi' hB' (ar47 q4 q1 q7 p4 p1 hs2) ⟨has_nth has' 0 rfl, has_nth has' 1 rfl, has_nth has' 2 rfl, has_nth has' 3 rfl, has_nth has' 4 rfl, trivial⟩ (newOk1 hn (has_nth has' 5 rfl)) hk'
end
noncomputable def mkT (tk tk1 t1 t2 t3 : Nat) : Nat → Nat := fun i => [tk + 6, t1, tk + 8, t2, tk + 12, tk + 10, tk + 14, t3, tk + 16, tk1 + 1].getD i 0
noncomputable def sc_vfmake (K : Params → KT) (P : Params) (t0 t1 t2 t3 : Nat) (W : Int) (N tk : Nat) : Sc :=
  sS [0, 0, 0, 0, 0, 0, 0, 0, 0, 0, 0, 0, 0, 0, 0, 0, 0, 0, 0, 0, 0, 0, 0, 0, 0, 0, 4, 0, 4, 0, 0, 0, 0, 0, 0, 5, 5, 5, 5, 5, 5, 5, 5, 5, 5, 1, 5, 5, 4, 0, 0, 0, 4, 0, 4, 0, 4, 0, 0, 0, 4, 0, 3, 3, 3, 5, 5, 4, 0, 0, 0, 4, 0, 4, 0, 4, 0, 0, 0, 4, 0, 3, 3, 3, 0, 0, 5, 5, 4, 0, 0, 0, 4, 0, 4, 0, 4, 0, 0, 0, 4, 0, 3, 3, 3, 5, 5, 4, 0, 0, 0, 4, 0, 4, 0, 4, 0, 0, 0, 4, 0, 3, 3, 3, 5, 4, 0, 0, 0, 4, 0, 4, 0, 4, 0, 0, 0, 4, 0, 3, 3, 3, 0, 5, 0, 0] (.call (.ref 178) ⟨[.int 0 t0], []⟩) [] [] 60 200 (fun v1 => ⟨.ok (.ret (.ref (v1 0))), [], [(v1 0, accO (v1 1) #[] 0), (v1 1, accD P (v1 2) t0)]⟩) 4 fun v1 n1 tk1 =>
  sF [5, 4, 0, 0, 0, 4, 0, 4, 0, 4, 0, 0, 0, 4, 0, 3, 3, 3] (.ok (.ret (.ref (N + 1)))) [1, 0, 3, 4, 5] [(N + 1, makO N), (N, makD P (mkT tk tk1 t1 t2 t3) W (N + 3) (v1 0)), (N + 3, lisO #[] 0), (v1 0, accO (v1 1) #[] 0), (v1 1, accD P (v1 2) t0)] 0 2
noncomputable def ok_vfmake (K : Params → KT) : Prop := ∀ P t0 t1 t2 t3 W N tk,
  RunsTo K P 100 300 4000 (.call (.ref 94) ⟨[.int 0 t0, .int W t1, .str "\t" t2, .str " " t3], []⟩) [] N tk (sc_vfmake K P t0 t1 t2 t3 W N tk)
noncomputable def strL (rs : List Str) (f : Nat → Nat) : List (Str × Tok) := rs.mapIdx fun i r => (r, f i)
noncomputable def strA (rs : List Str) (f : Nat → Nat) : Array Value := (strValues (strL rs f)).toArray
theorem strL_fst (rs : List Str) (f : Nat → Nat) : (strL rs f).map (·.1) = rs := by
  unfold strL
  apply List.ext_getElem <;> simp
theorem strL_of (l : List (Str × Tok)) : l = strL (l.map (·.1)) (fun i => ((l[i]?).map (·.2)).getD 0) := by
  unfold strL
  apply List.ext_getElem
  · simp
  · intro i h1 h2
    simp [h1]
theorem strA_of (l : List (Str × Tok)) : (strValues l).toArray = strA (l.map (·.1)) (fun i => ((l[i]?).map (·.2)).getD 0) := by
  unfold strA
  rw [← strL_of]
theorem strA_size (rs : List Str) (f : Nat → Nat) : (strA rs f).size = rs.length := by
  simp [strA, strL, strValues]
theorem strA_get (rs : List Str) (f : Nat → Nat) (i : Nat) : (strA rs f)[i]? = rs[i]?.map fun r => Value.str r (f i) := by
  simp [strA, strL, strValues]
  rfl
theorem strA_push (rs : List Str) (r : Str) (f : Nat → Nat) (t : Nat) : ((strA rs f).push (.str r t)) = strA (rs ++ [r]) (fun i => if i = rs.length then t else f i) := by
  apply Array.ext'
  simp only [strA, strL, strValues, Array.toList_push, List.mapIdx_append, List.map_append]
  congr 1
  · apply List.ext_getElem
    · simp
    · intro i h1 h2
      simp at h1
      simp [Nat.ne_of_lt h1]
  · simp
section
variable {K : Params → KT} [ok : Nonempty (KOk K)] {P : Params} {dr : Source → Nat → Nat} {fz : List Ent}
theorem con_split {x y : Str} {t u : Nat} (hy : (y.length == 0) = false) (hsz : x.length ≤ sizeLine) (hsz2 : (Builtin.Str.partsBetween x (Builtin.Str.occurrences x y 0 x.length (x.length + 1)) y.length).length ≤ sizeLine) :
    CON K P dr fz (.call (.builtin "str.split") ⟨[.str x t, .str y u], []⟩) [] 0 0 (fun v => ⟨.ok (.ret (.ref (v 0))), [], [(v 0, lisO (strA (Txt.split x y) (fun i => v (i + 1))) 0)]⟩) := by
  intro A h g d tk os R room hi hB has hlo nd hR
  have fin : ∀ (l : List (Str × Tok)) (k : Nat), l.map (·.1) = Txt.split x y → R (.ok (.ret (.ref h.objs.size))) ⟨h.push { cls := .type "list", data := .seq (strValues l).toArray }, g, d, k, os⟩ := by
    intro l k hl
    have r := rep_start (dr := dr) hi has hlo nd
    have r1 := r.alloc (o := lisO (strValues l).toArray 0) rfl
    refine hR (fun i => match i with | 0 => h.objs.size + 0 | i + 1 => ((l[i]?).map (·.2)).getD 0) _ g k r1.inv hB r1.grow trivial (newOk1 (by simp) ?_) r1.keep
    have e := strA_of l
    rw [hl] at e
    rw [← e]
    exact has0 r1.has
  have goal : ∀ S : PySem.Spec, Meets (Builtin.«str.split» ⟨[.str x t, .str y u], []⟩) S → S A R ⟨h, g, d, tk, os⟩ → codeAny (model prg ⟨dr, P⟩) A (.call (.builtin "str.split") ⟨[.str x t, .str y u], []⟩) R ⟨h, g, d, tk, os⟩ := fun S hm hs =>
    codeAny_call_builtin F.slot_str_split.plain F.entry_str_split (F.slot_str_split.check _ _ _ _ _ _ _ _ (typeIs_str _ _ _) (F.args_str_split_2 _ _) (hm prg ⟨dr, P⟩ A R _ hs))
  cases h1 : (decide (x.length < y.length) || decide (Builtin.Str.strKind x < Builtin.Str.strKind y))
  · cases hf : (Builtin.Str.occurrences x y 0 x.length (x.length + 1)).isEmpty
    · refine goal _ (meets_str_split_sep x y t u h1 hy hf hsz hsz2) ?_
      show R _ _
      rw [strsFrom_eq]
      exact fin (numbered tk _) _ ((numbered_texts _ _).trans ((if_neg (ne_true_of_eq_false h1)).trans (if_neg (ne_true_of_eq_false hf))).symm)
    · exact goal _ (meets_str_split_not_found x y t u h1 hy hf) (fin [(x, t)] tk ((if_neg (ne_true_of_eq_false h1)).trans (if_pos hf)).symm)
  · exact goal _ (meets_str_split_cannot_occur x y t u h1) (fin [(x, t)] tk (if_pos h1).symm)
theorem con_join {x : Str} {t l e : Nat} {rs : List Str} {f : Nat → Nat} (hok : (rs.map (·.length)).sum + rs.length * x.length ≤ 16777216) :
    CON K P dr fz (.call (.builtin "str.join") ⟨[.str x t, .ref l], []⟩) [(l, lisO (strA rs f) e)] 0 0 (fun v => ⟨.ok (.ret (.str (Txt.join x rs) (v 0))), [], []⟩) := by
  intro A h g d tk os R room hi hB has hlo nd hR
  have hok' : JoinOk x ((strL rs f).map (·.1)) := by rw [strL_fst]; exact joinOk_of hok
  unfold JoinOk at hok'
  rw [Bool.not_eq_true'] at hok'
  refine codeAny_call_builtin F.slot_str_join.plain F.entry_str_join (F.slot_str_join.check _ _ _ _ _ _ _ _ (typeIs_str _ _ _) (F.args_str_join_2 _ _) (meets_str_join_list x t l (strL rs f) hok' prg ⟨dr, P⟩ A R _ ⟨⟨_, has0 has, rfl, _, rfl⟩, post_join _ ⟨joinFit_length hok', fun t' k => ?_⟩⟩))
  have e2 : Txt.join x ((strL rs f).map (·.1)) = Txt.join x rs := by rw [strL_fst]
  rw [e2]
  exact hR (fun _ => t') h g k hi hB (Nat.le_refl _) ⟨has0 has, trivial⟩ newOk0 (fun b o e _ _ => e)
end
noncomputable def sc_str_ (K : Params → KT) (P : Params) (mk md ln ac ad e le a b q t1 t2 tn : Nat) (w S J : Str) (t : Nat → Nat) (W : Int) (ls ys : Array Value) (N tk : Nat) : Sc :=
  sS [0, 0, 9, 9, 9, 9, 1, 9, 3, 0, 0, 0, 3, 0, 0, 0, 3, 0, 0, 0, 0, 3, 4, 0] (.call (.ref 56) ⟨[.ref mk], []⟩) [0, 1, 2, 3, 4, 5] [(mk, makO md), (md, makD P t W ln ac), (ln, lisO ls le), (ac, accO ad (ys.push (.ref q)) e), (ad, accD P a b), (q, tupO #[.str " " t1, .str w t2])] 140 400 (fun v1 => ⟨.ok (.ret .none), [makO md, makD P t W ln ac, lisO (ls.push (.str S (v1 0))) (le + 1), accO ad #[] (v1 1), accD P a (v1 2)], []⟩) 1 fun v1 n1 tk1 =>
  sS [9, 9, 3, 0, 0, 0, 3, 0, 0, 0, 3, 3, 0, 4] (.call (.builtin "str.join") ⟨[.str "\n" tn, .ref ln], []⟩) [2] [(ln, lisO (ls.push (.str S (v1 0))) (le + 1))] 0 0 (fun v2 => ⟨.ok (.ret (.str J (v2 0))), [], []⟩) 0 fun v2 n2 tk2 =>
  sF [] (.ok (.ret (.str J (v2 0)))) [0, 1, 2, 3, 4, 5] [(mk, makO md), (md, makD P t W ln ac), (ln, lisO (ls.push (.str S (v1 0))) (le + 1)), (ac, accO ad #[] (v1 1)), (ad, accD P a (v1 2)), (q, tupO #[.str " " t1, .str w t2])] 0 0
noncomputable def ok_str_ (K : Params → KT) : Prop := ∀ P mk md ln ac ad e le a b q t1 t2 tn w S J t W ls ys N tk,
  RunsTo K P 160 450 4000 (.call (.ref 42) ⟨[.ref mk, .str "\n" tn], []⟩) [(mk, makO md), (md, makD P t W ln ac), (ln, lisO ls le), (ac, accO ad (ys.push (.ref q)) e), (ad, accD P a b), (q, tupO #[.str " " t1, .str w t2])] N tk (sc_str_ K P mk md ln ac ad e le a b q t1 t2 tn w S J t W ls ys N tk)
noncomputable def sc_lr0 (K : Params → KT) (P : Params) (wl we tw : Nat) (W : Int) (ws : Array Value) (N tk : Nat) : Sc :=
  sG [0, 0, 4, 4, 4, 4, 1] (.func (bodyOf K P 189) (envOf K P 189 N)) [0, 1] [(wl, lisO ws we), (N, frmO #[dEnt P "words" (tk + 0) (.ref wl), dEnt P "width" (tk + 1) (.int W tw)] 2)] 1 2
noncomputable def ok_lr0 (K : Params → KT) : Prop := ∀ P wl we tw W ws N tk,
  RunsTo K P 220 600 4000 (.call (.ref 189) ⟨[.ref wl, .int W tw], []⟩) [(wl, lisO ws we)] N tk (sc_lr0 K P wl we tw W ws N tk)
noncomputable def sc_lr1 (K : Params → KT) (P : Params) (wl we tw L s0 s1 : Nat) (W : Int) (ws : Array Value) (N tk : Nat) : Sc :=
  sS [0, 4, 0, 0] (.call (.ref 94) ⟨[.int 0 (tk + 0), .int W tw, .str "\t" (tk + 1), .str " " (tk + 2)], []⟩) [] [] 100 300 (fun v1 => ⟨.ok (.ret (.ref (v1 0))), [], [(v1 0, makO (v1 1)), (v1 1, makD P (fun i => v1 (i + 5)) W (v1 2) (v1 3)), (v1 2, lisO #[] 0), (v1 3, accO (v1 4) #[] 0), (v1 4, accD P (v1 15) (tk + 0))]⟩) 0 fun v1 n1 tk1 =>
  sF [4, 4] (.ok .next) [0, 1, 2, 3, 4, 5, 6] [(wl, lisO ws we), (L, frmO #[dEnt P "words" s0 (.ref wl), dEnt P "width" s1 (.int W tw), dEnt P "maker" (tk1 + 0) (.ref (v1 0))] 3), (v1 0, makO (v1 1)), (v1 1, makD P (fun i => v1 (i + 5)) W (v1 2) (v1 3)), (v1 2, lisO #[] 0), (v1 3, accO (v1 4) #[] 0), (v1 4, accD P (v1 15) (tk + 0))] 0 1
noncomputable def ok_lr1 (K : Params → KT) : Prop := ∀ P wl we tw L s0 s1 W ws N tk,
  RunsA K P 200 550 4000 (fExecs [stmtOf K P 189 0] (envOf K P 189 L) >>= flFin) [(wl, lisO ws we), (L, frmO #[dEnt P "words" s0 (.ref wl), dEnt P "width" s1 (.int W tw)] 2)] N tk (sc_lr1 K P wl we tw L s0 s1 W ws N tk)
noncomputable def sc_lr2 (K : Params → KT) (P : Params) (mk md ln ac ad e le a b wl we tw L s0 s1 s2 : Nat) (t : Nat → Nat) (W : Int) (ls xs ws : Array Value) (N tk : Nat) : Sc :=
  sF [9] (.ok (.ret (.ref wl))) [0, 1, 2, 3, 4, 5, 6] [(mk, makO md), (md, makD P t W ln ac), (ln, lisO ls le), (ac, accO ad xs e), (ad, accD P a b), (wl, lisO ws we), (L, frmO #[dEnt P "words" s0 (.ref wl), dEnt P "width" s1 (.int W tw), dEnt P "maker" s2 (.ref mk)] 3)] 0 0
noncomputable def ok_lr2 (K : Params → KT) : Prop := ∀ P mk md ln ac ad e le a b wl we tw L s0 s1 s2 t W ls xs ws N tk,
  RunsA K P 5 20 4000 (fEval (forQ (stmtOf K P 189 1)).iter (envOf K P 189 L) >>= asFin) [(mk, makO md), (md, makD P t W ln ac), (ln, lisO ls le), (ac, accO ad xs e), (ad, accD P a b), (wl, lisO ws we), (L, frmO #[dEnt P "words" s0 (.ref wl), dEnt P "width" s1 (.int W tw), dEnt P "maker" s2 (.ref mk)] 3)] N tk (sc_lr2 K P mk md ln ac ad e le a b wl we tw L s0 s1 s2 t W ls xs ws N tk)
noncomputable def sc_lr3 (K : Params → KT) (P : Params) (mk md ln ac ad e le a b wl we tw L s0 s1 s2 : Nat) (t : Nat → Nat) (W : Int) (ls xs ws : Array Value) (N tk : Nat) : Sc :=
  sF [8, 8, 8, 10] (.ok (.ret (.ref (N + 0)))) [0, 1, 2, 3, 4, 5, 6, 7] [(mk, makO md), (md, makD P t W ln ac), (ln, lisO ls le), (ac, accO ad xs e), (ad, accD P a b), (wl, lisO ws we), (L, frmO #[dEnt P "words" s0 (.ref wl), dEnt P "width" s1 (.int W tw), dEnt P "maker" s2 (.ref mk)] 3), (N + 0, litO wl 0)] 1 0
noncomputable def ok_lr3 (K : Params → KT) : Prop := ∀ P mk md ln ac ad e le a b wl we tw L s0 s1 s2 t W ls xs ws N tk,
  RunsA K P 5 20 4000 (fPyIter (.ref wl) >>= asFin) [(mk, makO md), (md, makD P t W ln ac), (ln, lisO ls le), (ac, accO ad xs e), (ad, accD P a b), (wl, lisO ws we), (L, frmO #[dEnt P "words" s0 (.ref wl), dEnt P "width" s1 (.int W tw), dEnt P "maker" s2 (.ref mk)] 3)] N tk (sc_lr3 K P mk md ln ac ad e le a b wl we tw L s0 s1 s2 t W ls xs ws N tk)
noncomputable def sc_lr4a (K : Params → KT) (P : Params) (mk md ln ac ad e le a b wl we tw L s0 s1 s2 : Nat) (t : Nat → Nat) (W : Int) (ls xs ws : Array Value) (it i t2 : Nat) (w : Str) (LS XS : (Nat → Nat) → Array Value) (LE AE AB : (Nat → Nat) → Nat) (N tk : Nat) : Sc :=
  sS [10] (.call (.builtin "list_iterator.__next__") ⟨[.ref it], []⟩) [7, 5] [(it, litO wl i), (wl, lisO ws we)] 0 0 (fun v1 => ⟨.ok (.ret (.str w t2)), [litO wl (i + 1)], []⟩) 0 fun v1 n1 tk1 =>
  sS [9, 9, 9, 3, 0, 0, 0, 3, 0, 0, 0, 3, 0, 0, 0, 0, 3, 4, 9, 0] (.call (.ref 91) ⟨[.ref mk, .str " " (tk1 + 1), .str w t2], []⟩) [0, 1, 2, 3, 4] [(mk, makO md), (md, makD P t W ln ac), (ln, lisO ls le), (ac, accO ad xs e), (ad, accD P a b)] 100 300 (fun v2 => ⟨.ok (.ret .none), [makO md, makD P t W ln ac, lisO (LS v2) (LE v2), accO ad (XS v2) (AE v2), accD P a (AB v2)], [(v2 0, tupO #[.str " " (tk1 + 1), .str w t2])]⟩) 0 fun v2 n2 tk2 =>
  sG [] (.forLoop (forQ (stmtOf K P 189 1)).target (.ref it) (forQ (stmtOf K P 189 1)).body (forQ (stmtOf K P 189 1)).els (envOf K P 189 L)) [0, 1, 2, 3, 4, 5, 6, 7, 8] [(mk, makO md), (md, makD P t W ln ac), (ln, lisO (LS v2) (LE v2)), (ac, accO ad (XS v2) (AE v2)), (ad, accD P a (AB v2)), (wl, lisO ws we), (L, frmO #[dEnt P "words" s0 (.ref wl), dEnt P "width" s1 (.int W tw), dEnt P "maker" s2 (.ref mk), dEnt P "word" (tk1 + 0) (.str w t2)] 4), (it, litO wl (i + 1)), (v2 0, tupO #[.str " " (tk1 + 1), .str w t2])] 0 0
noncomputable def ok_lr4a (K : Params → KT) : Prop := ∀ P mk md ln ac ad e le a b wl we tw L s0 s1 s2 t W ls xs ws it i t2 w LS XS LE AE AB N tk,
  RunsTo K P 130 400 4000 (.forLoop (forQ (stmtOf K P 189 1)).target (.ref it) (forQ (stmtOf K P 189 1)).body (forQ (stmtOf K P 189 1)).els (envOf K P 189 L)) [(mk, makO md), (md, makD P t W ln ac), (ln, lisO ls le), (ac, accO ad xs e), (ad, accD P a b), (wl, lisO ws we), (L, frmO #[dEnt P "words" s0 (.ref wl), dEnt P "width" s1 (.int W tw), dEnt P "maker" s2 (.ref mk)] 3), (it, litO wl i)] N tk (sc_lr4a K P mk md ln ac ad e le a b wl we tw L s0 s1 s2 t W ls xs ws it i t2 w LS XS LE AE AB N tk)
noncomputable def sc_lr4b (K : Params → KT) (P : Params) (mk md ln ac ad e le a b wl we tw L s0 s1 s2 : Nat) (t : Nat → Nat) (W : Int) (ls xs ws : Array Value) (s3 : Nat) (x0 : Value) (it i t2 : Nat) (w : Str) (LS XS : (Nat → Nat) → Array Value) (LE AE AB : (Nat → Nat) → Nat) (N tk : Nat) : Sc :=
  sS [10] (.call (.builtin "list_iterator.__next__") ⟨[.ref it], []⟩) [7, 5] [(it, litO wl i), (wl, lisO ws we)] 0 0 (fun v1 => ⟨.ok (.ret (.str w t2)), [litO wl (i + 1)], []⟩) 0 fun v1 n1 tk1 =>
  sS [9, 9, 9, 3, 0, 0, 0, 3, 0, 0, 0, 3, 0, 0, 0, 0, 3, 4, 9, 0] (.call (.ref 91) ⟨[.ref mk, .str " " (tk1 + 1), .str w t2], []⟩) [0, 1, 2, 3, 4] [(mk, makO md), (md, makD P t W ln ac), (ln, lisO ls le), (ac, accO ad xs e), (ad, accD P a b)] 100 300 (fun v2 => ⟨.ok (.ret .none), [makO md, makD P t W ln ac, lisO (LS v2) (LE v2), accO ad (XS v2) (AE v2), accD P a (AB v2)], [(v2 0, tupO #[.str " " (tk1 + 1), .str w t2])]⟩) 0 fun v2 n2 tk2 =>
  sG [] (.forLoop (forQ (stmtOf K P 189 1)).target (.ref it) (forQ (stmtOf K P 189 1)).body (forQ (stmtOf K P 189 1)).els (envOf K P 189 L)) [0, 1, 2, 3, 4, 5, 6, 7, 8] [(mk, makO md), (md, makD P t W ln ac), (ln, lisO (LS v2) (LE v2)), (ac, accO ad (XS v2) (AE v2)), (ad, accD P a (AB v2)), (wl, lisO ws we), (L, frmO #[dEnt P "words" s0 (.ref wl), dEnt P "width" s1 (.int W tw), dEnt P "maker" s2 (.ref mk), dEnt P "word" s3 (.str w t2)] 4), (it, litO wl (i + 1)), (v2 0, tupO #[.str " " (tk1 + 1), .str w t2])] 0 0
noncomputable def ok_lr4b (K : Params → KT) : Prop := ∀ P mk md ln ac ad e le a b wl we tw L s0 s1 s2 t W ls xs ws s3 x0 it i t2 w LS XS LE AE AB N tk,
  RunsTo K P 130 400 4000 (.forLoop (forQ (stmtOf K P 189 1)).target (.ref it) (forQ (stmtOf K P 189 1)).body (forQ (stmtOf K P 189 1)).els (envOf K P 189 L)) [(mk, makO md), (md, makD P t W ln ac), (ln, lisO ls le), (ac, accO ad xs e), (ad, accD P a b), (wl, lisO ws we), (L, frmO #[dEnt P "words" s0 (.ref wl), dEnt P "width" s1 (.int W tw), dEnt P "maker" s2 (.ref mk), dEnt P "word" s3 x0] 4), (it, litO wl i)] N tk (sc_lr4b K P mk md ln ac ad e le a b wl we tw L s0 s1 s2 t W ls xs ws s3 x0 it i t2 w LS XS LE AE AB N tk)
noncomputable def sc_lr5 (K : Params → KT) (P : Params) (mk md ln ac ad e le a b wl we tw L s0 s1 s2 : Nat) (t : Nat → Nat) (W : Int) (ls xs ws : Array Value) (it i s3 : Nat) (x0 : Value) (N tk : Nat) : Sc :=
  sS [10] (.call (.builtin "list_iterator.__next__") ⟨[.ref it], []⟩) [7, 5] [(it, litO wl i), (wl, lisO ws we)] 0 0 (fun v1 => ⟨.error (.ref (v1 0)), [⟨.type "list_iterator", none, .fields #[.none, .int i 0], #[]⟩], [(v1 0, excStop (v1 1))]⟩) 0 fun v1 n1 tk1 =>
  sF [11] (.ok .next) [0, 1, 2, 3, 4, 5, 6] [(mk, makO md), (md, makD P t W ln ac), (ln, lisO ls le), (ac, accO ad xs e), (ad, accD P a b), (wl, lisO ws we), (L, frmO #[dEnt P "words" s0 (.ref wl), dEnt P "width" s1 (.int W tw), dEnt P "maker" s2 (.ref mk), dEnt P "word" s3 x0] 4)] 0 0
noncomputable def ok_lr5 (K : Params → KT) : Prop := ∀ P mk md ln ac ad e le a b wl we tw L s0 s1 s2 t W ls xs ws it i s3 x0 N tk,
  RunsTo K P 130 400 4000 (.forLoop (forQ (stmtOf K P 189 1)).target (.ref it) (forQ (stmtOf K P 189 1)).body (forQ (stmtOf K P 189 1)).els (envOf K P 189 L)) [(mk, makO md), (md, makD P t W ln ac), (ln, lisO ls le), (ac, accO ad xs e), (ad, accD P a b), (wl, lisO ws we), (L, frmO #[dEnt P "words" s0 (.ref wl), dEnt P "width" s1 (.int W tw), dEnt P "maker" s2 (.ref mk), dEnt P "word" s3 x0] 4), (it, litO wl i)] N tk (sc_lr5 K P mk md ln ac ad e le a b wl we tw L s0 s1 s2 t W ls xs ws it i s3 x0 N tk)
noncomputable def sc_lr6 (K : Params → KT) (P : Params) (mk md ln ac ad e le a b wl we tw L s0 s1 s2 s3 q t1 t2 : Nat) (x0 : Value) (w S J : Str) (t : Nat → Nat) (W : Int) (ls ys ws : Array Value) (RS : (Nat → Nat) → Array Value) (N tk : Nat) : Sc :=
  sS [10, 3, 0, 0, 0, 3, 0, 0, 0, 3, 0, 0, 0, 0, 3, 4, 0] (.call (.ref 42) ⟨[.ref mk, .str "\n" (tk + 0)], []⟩) [0, 1, 2, 3, 4, 5] [(mk, makO md), (md, makD P t W ln ac), (ln, lisO ls le), (ac, accO ad (ys.push (.ref q)) e), (ad, accD P a b), (q, tupO #[.str " " t1, .str w t2])] 160 450 (fun v1 => ⟨.ok (.ret (.str J (v1 0))), [makO md, makD P t W ln ac, lisO (ls.push (.str S (v1 1))) (le + 1), accO ad #[] (v1 2), accD P a (v1 3)], []⟩) 0 fun v1 n1 tk1 =>
  sS [] (.call (.builtin "str.split") ⟨[.str J (v1 0), .str "\n" (tk1 + 0)], []⟩) [] [] 0 0 (fun v2 => ⟨.ok (.ret (.ref (v2 0))), [], [(v2 0, lisO (RS v2) 0)]⟩) 0 fun v2 n2 tk2 =>
  sF [] (.ok (.ret (.ref (v2 0)))) [6, 8] [(wl, lisO ws we), (v2 0, lisO (RS v2) 0)] 0 0
noncomputable def ok_lr6 (K : Params → KT) : Prop := ∀ P mk md ln ac ad e le a b wl we tw L s0 s1 s2 s3 q t1 t2 x0 w S J t W ls ys ws RS N tk,
  RunsA K P 200 550 4000 (fExecs [stmtOf K P 189 2] (envOf K P 189 L) >>= flFin) [(mk, makO md), (md, makD P t W ln ac), (ln, lisO ls le), (ac, accO ad (ys.push (.ref q)) e), (ad, accD P a b), (q, tupO #[.str " " t1, .str w t2]), (wl, lisO ws we), (L, frmO #[dEnt P "words" s0 (.ref wl), dEnt P "width" s1 (.int W tw), dEnt P "maker" s2 (.ref mk), dEnt P "word" s3 x0] 4)] N tk (sc_lr6 K P mk md ln ac ad e le a b wl we tw L s0 s1 s2 s3 q t1 t2 x0 w S J t W ls ys ws RS N tk)
noncomputable def Parts (fz : List Ent) (xs : Array Value) (cur : List Str) : Prop := xs.size = cur.length ∧ ∀ j, j < cur.length → ∃ q tf tw, xs[j]? = some (.ref q) ∧ (q, tupO #[.str " " tf, .str (cur.getD j "") tw]) ∈ fz
noncomputable def lenOf (cur : List Str) : Int := (cur.map fun w => 1 + (w.length : Int)).sum
noncomputable def lineOf (cur : List Str) : Str := Txt.join "" (cur.map fun w => Txt.join "" [" ", w])
theorem parts_nil {fz : List Ent} : Parts fz #[] [] := ⟨rfl, fun j h => by simp at h⟩
theorem parts_more {fz fz' : List Ent} {xs : Array Value} {cur : List Str} (h : Parts fz xs cur) (hs : ∀ p ∈ fz, p ∈ fz') : Parts fz' xs cur := ⟨h.1, fun j hj => by
  obtain ⟨q, tf, tw, h1, h2⟩ := h.2 j hj
  exact ⟨q, tf, tw, h1, hs _ h2⟩⟩
theorem parts_push {fz : List Ent} {xs : Array Value} {cur : List Str} {q tf tw : Nat} {w : Str} (h : Parts fz xs cur) (hq : (q, tupO #[.str " " tf, .str w tw]) ∈ fz) : Parts fz (xs.push (.ref q)) (cur ++ [w]) := by
  refine ⟨by simp [h.1], fun j hj => ?_⟩
  rw [List.length_append] at hj
  by_cases e : j < cur.length
  · obtain ⟨q', tf', tw', h1, h2⟩ := h.2 j e
    refine ⟨q', tf', tw', ?_, ?_⟩
    · rw [Array.getElem?_push, if_neg (by rw [h.1]; exact ar495 e)]; exact h1
    · have : (cur ++ [w]).getD j "" = cur.getD j "" := by simp [List.getD_eq_getElem?_getD, List.getElem?_append_left e]
      rw [this]; exact h2
  · have ej : j = cur.length := by simp at hj; exact ar496 hj e
    subst ej
    refine ⟨q, tf, tw, ?_, ?_⟩
    · rw [Array.getElem?_push, if_pos (by rw [h.1])]
    · have : (cur ++ [w]).getD cur.length "" = w := by simp [List.getD_eq_getElem?_getD]
      rw [this]; exact hq
theorem blank_len : (Str.ofString " ").length = 1 := by decide
theorem lenOf_push (cur : List Str) (w : Str) : lenOf (cur ++ [w]) = lenOf cur + (1 + (w.length : Int)) := by
  simp [lenOf]
theorem preSum_lenOf (cur : List Str) : ∀ n, n ≤ cur.length → preSum (fun j => ((Str.ofString " ").length : Int) + ((cur.getD j "").length : Int)) n = lenOf (cur.take n)
  | 0, _ => by simp [preSum, lenOf]
  | n + 1, h => by
    rw [preSum, preSum_lenOf cur n (ar35 h), List.take_succ_eq_append_getElem (ar352 h), lenOf_push, blank_len]
    simp [List.getD_eq_getElem?_getD, List.getElem?_eq_getElem (show n < cur.length by exact ar352 h)]
theorem lenOf_bound (cur : List Str) (hw : ∀ w ∈ cur, w.length ≤ 900) : 0 ≤ lenOf cur ∧ lenOf cur ≤ cur.length * 901 := by
  induction cur with
  | nil => simp [lenOf]
  | cons w cur ih =>
    have h1 := hw w List.mem_cons_self
    have h2 := ih fun w hw' => hw w (List.mem_cons_of_mem _ hw')
    simp only [lenOf, List.map_cons, List.sum_cons, List.length_cons] at h2 ⊢
    push_cast
    exact ar497 h2 h1
structure OkAcc (K : Params → KT) : Prop where
  len : OkLen K
  lens : ok_lens K
  lenc : ok_lenc K
  str : OkStr K
  rstrs : ok_strs K
  strc : ok_strc K
  ws : ok_onlyws K
section
variable {K : Params → KT} [ok : Nonempty (KOk K)] {P : Params} {dr : Source → Nat → Nat} {fz : List Ent}
theorem getD_le {cur : List Str} (hw : ∀ w ∈ cur, w.length ≤ 900) (j : Nat) : (cur.getD j "").length ≤ 1000 := by
  by_cases h : j < cur.length
  · have : cur.getD j "" = cur[j] := by simp [List.getD_eq_getElem?_getD, h]
    rw [this]
    have := hw _ (List.getElem_mem h)
    exact ar81 this
  · have : cur.getD j "" = "" := by simp [List.getD_eq_getElem?_getD, List.getElem?_eq_none (Nat.le_of_not_lt h)]
    rw [this]
    decide
theorem con_len145 (o : OkAcc K) {ac ad e a b : Nat} {xs : Array Value} {cur : List Str} (hp : Parts fz xs cur) (hw : ∀ w ∈ cur, w.length ≤ 900) (hn : cur.length ≤ 900) :
    CON K P dr fz (.call (.ref 145) ⟨[.ref ac], []⟩) [(ac, accO ad xs e), (ad, accD P a b)] 30 100 (fun v => ⟨.ok (.ret (.int (lenOf cur) (v 0))), [], []⟩) := by
  have hc : ∀ j, ∃ x : Addr × Nat × Nat, j < cur.length → xs[j]? = some (.ref x.1) ∧ (x.1, tupO #[.str " " x.2.1, .str (cur.getD j "") x.2.2]) ∈ fz := fun j => by
    by_cases h : j < cur.length
    · obtain ⟨q, tf, tw, h1, h2⟩ := hp.2 j h
      exact ⟨(q, tf, tw), fun _ => ⟨h1, h2⟩⟩
    · exact ⟨(0, 0, 0), fun z => absurd z h⟩
  have hx := fun j => Classical.choose_spec (hc j)
  have z := con_acclen (P := P) (dr := dr) (fz := fz) o.len (ac := ac) (ad := ad) (e := e) (a := a) (b := b) (xs := xs) (fun j => (Classical.choose (hc j)).1) (fun _ => " ") (fun j => cur.getD j "") (fun j => (Classical.choose (hc j)).2.1) (fun j => (Classical.choose (hc j)).2.2)
    (fun j => ⟨by rw [blank_len]; exact ar498, getD_le hw j⟩) (by rw [hp.1]; exact ar81 hn) (fun j h => (hx j (hp.1 ▸ h)).1) (fun j h => (hx j (hp.1 ▸ h)).2)
  rw [hp.1, preSum_lenOf cur cur.length (Nat.le_refl _), List.take_length] at z
  exact z
theorem con_lenP (o : OkAcc K) {ac ad e a b : Nat} {xs : Array Value} {cur : List Str} (hp : Parts fz xs cur) (hw : ∀ w ∈ cur, w.length ≤ 900) (hn : cur.length ≤ 900) :
    CON K P dr fz (.call (.builtin "len") ⟨[.ref ac], []⟩) [(ac, accO ad xs e), (ad, accD P a b)] 35 130 (fun v => ⟨.ok (.ret (.int (lenOf cur) (v 0))), [], []⟩) :=
  con_lenc o.lens o.lenc (lenOf_bound cur hw).1 (by have := (lenOf_bound cur hw).2; exact ar499 this hn) (con_len145 o hp hw hn)
theorem con_line (o : OkAcc K) {ac ad e : Nat} {xs : Array Value} {cur : List Str} (hp : Parts fz xs cur) (hw : ∀ w ∈ cur, w.length ≤ 900) (hn : cur.length ≤ 900) :
    CON K P dr fz (.call (.type "str") ⟨[.ref ac], []⟩) [(ac, accO ad xs e)] 45 150 (fun v => ⟨.ok (.ret (.str (lineOf cur) (v 0))), [], []⟩) := by
  have hc : ∀ j, ∃ x : Addr × Nat × Nat, j < cur.length → xs[j]? = some (.ref x.1) ∧ (x.1, tupO #[.str " " x.2.1, .str (cur.getD j "") x.2.2]) ∈ fz := fun j => by
    by_cases h : j < cur.length
    · obtain ⟨q, tf, tw, h1, h2⟩ := hp.2 j h
      exact ⟨(q, tf, tw), fun _ => ⟨h1, h2⟩⟩
    · exact ⟨(0, 0, 0), fun z => absurd z h⟩
  have hx := fun j => Classical.choose_spec (hc j)
  have z := con_accstr (P := P) (dr := dr) (fz := fz) o.str (ac := ac) (ad := ad) (e := e) (xs := xs) (fun j => (Classical.choose (hc j)).1) (fun _ => " ") (fun j => cur.getD j "") (fun j => (Classical.choose (hc j)).2.1) (fun j => (Classical.choose (hc j)).2.2)
    (fun j => ⟨by rw [blank_len]; exact ar498, getD_le hw j⟩) (by rw [hp.1]; exact ar81 hn) (fun j h => (hx j (hp.1 ▸ h)).1) (fun j h => (hx j (hp.1 ▸ h)).2)
  have e1 : Txt.join "" ((List.range xs.size).map fun j => Txt.join "" [" ", cur.getD j ""]) = lineOf cur := by
    rw [hp.1, lineOf]
    congr 1
    apply List.ext_getElem
    · simp
    · intro i h1 h2
      simp at h1
      simp [List.getD_eq_getElem?_getD, h1]
  rw [e1] at z
  exact con_strc o.rstrs o.strc z
end
structure OkRw (K : Params → KT) : Prop where
  acc : OkAcc K
  ck : OkCk K
  init : OkInit K
  am : ok_acc_make K
  vm : ok_vfmake K
  str : ok_str_ K
  body : ∀ P, bodyOf K P 189 = [stmtOf K P 189 0, forS (forQ (stmtOf K P 189 1)), stmtOf K P 189 2]
  fold : ∀ P L x, foldedSetIterable (forQ (stmtOf K P 189 1)).iter (envOf K P 189 L) x = pure x
  r0 : ok_lr0 K
  r1 : ok_lr1 K
  r2 : ok_lr2 K
  r3 : ok_lr3 K
  r4a : ok_lr4a K
  r4b : ok_lr4b K
  r5 : ok_lr5 K
  r6 : ok_lr6 K
theorem newOk_of {h h' : Heap} {news : List Ent} (hn : ∀ p ∈ news, h.objs.size ≤ p.1) (hh : Has h' news) (nd : (news.map (·.1)).Nodup) : NewOk h h' news := ⟨fun p hp => ⟨hn p hp, hh p hp⟩, nd⟩
section
variable {K : Params → KT} [ok : Nonempty (KOk K)] {P : Params} {dr : Source → Nat → Nat} {fz : List Ent}
theorem con_accmake (o : OkRw K) {t1 : Nat} : CON K P dr fz (.call (.ref 178) ⟨[.int 0 t1], []⟩) [] 60 200 (fun v => ⟨.ok (.ret (.ref (v 0))), [], [(v 0, accO (v 1) #[] 0), (v 1, accD P (v 2) t1)]⟩) :=
  con_by (fun N tk => o.am P t1 N tk) fun A h d tk os R room hi hlt hlo nd hR => by
    intro _ _
    refine ⟨con_init o.init, fun v1 n1 tk1 q1 q2 h' g' hi' hB' hs' has' hk' => ?_⟩
    have hs2 : h'.objs.size = n1 := by simpa using hs'
    exact hR (fun i => if i = 0 then h.objs.size + 1 else if i = 1 then h.objs.size else v1 0) h' g' _ hi' hB' (ar500 q1 hs2) trivial (newOk2 (by simp) (has_nth has' 0 rfl) (by simp) (has_nth has' 1 rfl) (by simp)) hk'
theorem con_vfmake (o : OkRw K) {t0 t1 t2 t3 : Nat} {W : Int} : CON K P dr fz (.call (.ref 94) ⟨[.int 0 t0, .int W t1, .str "\t" t2, .str " " t3], []⟩) [] 100 300
    (fun v => ⟨.ok (.ret (.ref (v 0))), [], [(v 0, makO (v 1)), (v 1, makD P (fun i => v (i + 5)) W (v 2) (v 3)), (v 2, lisO #[] 0), (v 3, accO (v 4) #[] 0), (v 4, accD P (v 15) t0)]⟩) :=
  con_by (fun N tk => o.vm P t0 t1 t2 t3 W N tk) fun A h d tk os R room hi hlt hlo nd hR => by
    refine ⟨con_accmake o, fun v1 n1 tk1 q1 q2 h' g' hi' hB' hs' has' hk' => ?_⟩
    have hs2 : h'.objs.size = n1 := by simpa using hs'
    have a1 := (q2.1 _ List.mem_cons_self).1
    have a2 := (q2.1 _ (List.mem_cons_of_mem _ List.mem_cons_self)).1
    simp only at a1 a2
    have hne : v1 0 ≠ v1 1 := by
      have := q2.2
      simp at this
      exact this
    refine hR (fun i => match i with | 0 => h.objs.size + 1 | 1 => h.objs.size | 2 => h.objs.size + 3 | 3 => v1 0 | 4 => v1 1 | 15 => v1 2 | i => mkT tk tk1 t1 t2 t3 (i - 5)) h' g' _ hi' hB' (ar501 q1 hs2) trivial (newOk_of ?_ ?_ ?_) hk'
    · intro p hp
      simp only [List.mem_cons, List.not_mem_nil, or_false] at hp
      rcases hp with rfl | rfl | rfl | rfl | rfl
      · exact Nat.le_add_right _ _
      · exact Nat.le_refl _
      · exact Nat.le_add_right _ _
      · exact Nat.le_trans (Nat.le_add_right _ _) a1
      · exact Nat.le_trans (Nat.le_add_right _ _) a2
    · intro p hp
      simp only [List.mem_cons, List.not_mem_nil, or_false] at hp
      rcases hp with rfl | rfl | rfl | rfl | rfl
      · exact has_nth has' 0 rfl
      · exact has_nth has' 1 rfl
      · exact has_nth has' 2 rfl
      · exact has_nth has' 3 rfl
      · exact has_nth has' 4 rfl
    · show [h.objs.size + 1, h.objs.size, h.objs.size + 3, v1 0, v1 1].Nodup
      have b1 : h.objs.size + 4 ≤ v1 0 := a1
      have b2 : h.objs.size + 4 ≤ v1 1 := a2
      simp
      refine ⟨⟨?_, ?_⟩, ⟨?_, ?_⟩, ⟨?_, ?_⟩, hne⟩ <;> exact fun z => by have z' : (_ : Nat) = _ := z; omega
theorem con_str_ (o : OkRw K) {mk md ln ac ad e le a b q t1 t2 tn : Nat} {w : Str} {t : Nat → Nat} {W : Int} {ys : Array Value} {rs : List Str} {f : Nat → Nat} {cur : List Str} (hp : Parts fz ys cur) (hw : ∀ x ∈ cur ++ [w], x.length ≤ 900 ∧ (x == ("" : Str)) = false)
    (hn : cur.length ≤ 800) (hrs : rs.length ≤ 800) (hsp : (lineOf (cur ++ [w])).cps.all Unicode.isSpace = false) (hsum : ((rs ++ [lineOf (cur ++ [w])]).map (·.length)).sum ≤ 1000000) :
    CON K P dr fz (.call (.ref 42) ⟨[.ref mk, .str "\n" tn], []⟩) [(mk, makO md), (md, makD P t W ln ac), (ln, lisO (strA rs f) le), (ac, accO ad (ys.push (.ref q)) e), (ad, accD P a b), (q, tupO #[.str " " t1, .str w t2])] 160 450
      (fun v => ⟨.ok (.ret (.str (Txt.join "\n" (rs ++ [lineOf (cur ++ [w])])) (v 0))), [makO md, makD P t W ln ac, lisO ((strA rs f).push (.str (lineOf (cur ++ [w])) (v 1))) (le + 1), accO ad #[] (v 2), accD P a (v 3)], []⟩) := by
  have hw9 : ∀ x ∈ cur ++ [w], x.length ≤ 900 := fun x hx => (hw x hx).1
  have hn9 : (cur ++ [w]).length ≤ 900 := by simp; exact ar505 hn
  have pq : ∀ q2, Parts ((q2, tupO #[.str " " t1, .str w t2]) :: fz) (ys.push (.ref q2)) (cur ++ [w]) := fun q2 => parts_push (parts_more hp fun p hp => List.mem_cons_of_mem _ hp) List.mem_cons_self
  have hb := lenOf_bound (cur ++ [w]) hw9
  have hpos : ∃ k : Nat, lenOf (cur ++ [w]) = Int.ofNat (k + 1) := by
    have h2 := lenOf_bound cur fun x hx => hw9 x (List.mem_append_left _ hx)
    have h3 := lenOf_push cur w
    refine ⟨(lenOf (cur ++ [w])).toNat - 1, ?_⟩
    rw [h3]
    simp only [Int.ofNat_eq_natCast]
    exact ar506 h2
  obtain ⟨k, hk⟩ := hpos
  refine con_by (fun N tk => o.str P mk md ln ac ad e le a b q t1 t2 tn w (lineOf (cur ++ [w])) (Txt.join "\n" (rs ++ [lineOf (cur ++ [w])])) t W (strA rs f) ys N tk) fun A h d tk os R room hi hlt hlo nd hR => ?_
  refine ⟨con_newline o.ck.nl (k := k) (hw w (by simp)).2 (by rw [hp.1]; exact Nat.le_trans (Nat.succ_le_succ hn) (by decide)) (by rw [strA_size]; exact Nat.le_trans hrs (by decide)) ?_ ?_ ?_, fun v1 n1 tk1 q1 q2 => ⟨?_, fun v2 n2 tk2 q4 q5 h' g' hi' hB' hs' has' hk' => ?_⟩⟩
  · intro q2 e2
    have z := con_lenP (P := P) (dr := dr) o.acc (ac := ac) (ad := ad) (e := e2) (a := a) (b := b) (pq q2) hw9 hn9
    rw [hk] at z
    exact con_freeze (ex := [_]) z (by simp)
  · intro q2 e2
    have z := con_len145 (P := P) (dr := dr) o.acc (ac := ac) (ad := ad) (e := e2) (a := a) (b := b) (pq q2) hw9 hn9
    rw [hk] at z
    have z2 := con_line (P := P) (dr := dr) o.acc (ac := ac) (ad := ad) (e := e2) (pq q2) hw9 hn9
    refine con_freeze (ex := [_]) (con_onlyws o.acc.ws ?_ (con_lenb o.acc.lens (ar507 hb hk) (ar508 hb hk hn9) z) z2) (by simp)
    rw [hsp, Bool.and_false]
  · intro q2 e2
    exact con_freeze (ex := [_]) (con_line o.acc (pq q2) hw9 hn9) (by simp)
  · have e1 := strA_push rs (lineOf (cur ++ [w])) f (v1 0)
    rw [e1]
    refine con_join ?_
    have : (Str.ofString "\n").length = 1 := by decide
    rw [this]
    simp at hsum ⊢
    exact ar509 hsum hrs
  · have hs2 : h'.objs.size = n2 := by simpa using hs'
    exact hR (fun i => if i = 0 then v2 0 else v1 (i - 1)) h' g' _ hi' hB' (ar36 q4 q1 hs2) ⟨has_nth has' 0 rfl, has_nth has' 1 rfl, has_nth has' 2 rfl, has_nth has' 3 rfl, has_nth has' 4 rfl, has_nth has' 5 rfl, trivial⟩ newOk0 hk'
end
structure LrF where
  (m0 md ln ac ad wl we tw L s0 s1 s2 s3 it : Nat)
  t : Nat → Nat
  W : Int
  ws : List Str
  wf : Nat → Nat
  n0 : Nat
structure LrV where
  rs : List Str
  f : Nat → Nat
  (le e a b : Nat)
  ys : Array Value
  (q t1 t2 : Nat)
  w : Str
  cur : List Str
  x0 : Value
noncomputable def LrF.ads (F : LrF) : List Addr := [F.m0, F.md, F.ln, F.ac, F.ad, F.wl, F.L, F.it]
noncomputable def LrF.ents (F : LrF) (P : Params) (V : LrV) (i : Nat) : List Ent := [(F.m0, makO F.md), (F.md, makD P F.t F.W F.ln F.ac), (F.ln, lisO (strA V.rs V.f) V.le), (F.ac, accO F.ad (V.ys.push (.ref V.q)) V.e), (F.ad, accD P V.a V.b), (F.wl, lisO (strA F.ws F.wf) F.we),
  (F.L, frmO #[dEnt P "words" F.s0 (.ref F.wl), dEnt P "width" F.s1 (.int F.W F.tw), dEnt P "maker" F.s2 (.ref F.m0), dEnt P "word" F.s3 V.x0] 4), (F.it, litO F.wl i)]
noncomputable def LrV.bt (V : LrV) : Ent := (V.q, tupO #[.str " " V.t1, .str V.w V.t2])
noncomputable def LrF.ok (F : LrF) : Prop := F.ws.length ≤ 700 ∧ ∀ x ∈ F.ws, x.length ≤ 900
structure LrOk (K : Params → KT) (P : Params) (F : LrF) (fz : List Ent) (V : LrV) (i : Nat) (h : Heap) (g : Array GenState) : Prop where
  inv : inv K P fz h
  bare : AllBare g
  has : Has h (F.ents P V i)
  hq : h.get? V.q = some (tupO #[.str " " V.t1, .str V.w V.t2])
  own : ∀ a ∈ F.ads, OwnA fz a
  ownq : OwnA fz V.q
  nd : F.ads.Nodup
  nq : V.q ∉ F.ads
  parts : Parts fz V.ys V.cur
  szc : V.cur.length < i
  szr : V.rs.length < i
  mem : ∀ x ∈ V.cur ++ [V.w], x ∈ F.ws
  qn : F.n0 ≤ V.q
noncomputable def stepW (W : Int) (st : List Str × List Str) (w : Str) : List Str × List Str := if W < lenOf (st.2 ++ [w]) then (st.1 ++ [lineOf st.2], [w]) else (st.1, st.2 ++ [w])
noncomputable def lrLoop (K : Params → KT) (P : Params) (F : LrF) : Code := .forLoop (forQ (stmtOf K P 189 1)).target (.ref F.it) (forQ (stmtOf K P 189 1)).body (forQ (stmtOf K P 189 1)).els (envOf K P 189 F.L)
section
variable {K : Params → KT} [ok : Nonempty (KOk K)] {P : Params} {dr : Source → Nat → Nat} {fz : List Ent}
theorem inv_cons {h : Heap} {p : Ent} (hi : inv K P fz h) (hp : h.get? p.1 = some p.2) (ho : OwnA fz p.1) : inv K P (p :: fz) h :=
  ⟨hi.1, hi.2.1, hi.2.2.1, hi.2.2.2.1, fun x hx => by
    rcases List.mem_cons.mp hx with rfl | hx
    · exact hp
    · exact hi.2.2.2.2.1 x hx, fun x hx => by
    rcases List.mem_cons.mp hx with rfl | hx
    · exact OwnA.ge ho
    · exact hi.2.2.2.2.2 x hx⟩
theorem ownA_cons {p : Ent} {a : Nat} (ha : OwnA fz a) (hne : a ≠ p.1) : OwnA (p :: fz) a := ⟨ha.1, fun hm => by
  rcases List.mem_cons.mp hm with e | hm
  · exact hne e
  · exact ha.2 hm⟩
theorem lr_turn (o : OkRw K) {F : LrF} (hF : F.ok) {V : LrV} {i : Nat} {h : Heap} {g : Array GenState} (ho : LrOk K P F fz V i h g) {w' : Str} (hw : F.ws[i]? = some w') {A : Around} (room : Room A 130 400) {R : Result → Shared → Prop} {d : Drawn} {tk : Nat} {os : OsState}
    (hR : ∀ (V' : LrV) (h' : Heap) (g' : Array GenState) (tk' : Nat), LrOk K P F (V.bt :: fz) V' (i + 1) h' g' → (V'.rs, V'.cur ++ [V'.w]) = stepW F.W (V.rs, V.cur ++ [V.w]) w' → h.objs.size ≤ h'.objs.size → Keep (WI K P fz) h h' F.ads →
      codeAny (model prg ⟨dr, P⟩) A (lrLoop K P F) R ⟨h', g', d, tk', os⟩) : codeAny (model prg ⟨dr, P⟩) A (lrLoop K P F) R ⟨h, g, d, tk, os⟩ := by
  have hi1 : inv K P (V.bt :: fz) h := inv_cons ho.inv ho.hq ho.ownq
  have own1 : ∀ a ∈ F.ads, OwnA (V.bt :: fz) a := fun a ha => ownA_cons (ho.own a ha) fun z => ho.nq (by have z' : a = V.q := z; rw [← z']; exact ha)
  have hil : i < F.ws.length := by
    have := hw
    rw [List.getElem?_eq_some_iff] at this
    exact this.1
  have hw9 : ∀ x ∈ V.cur ++ [V.w], x.length ≤ 900 := fun x hx => hF.2 x (ho.mem x hx)
  have hw' : w' ∈ F.ws := List.mem_of_getElem? hw
  have hw99 : ∀ x ∈ V.cur ++ [V.w] ++ [w'], x.length ≤ 900 := fun x hx => by
    rcases List.mem_append.mp hx with hx | hx
    · exact hw9 x hx
    · rw [List.mem_singleton.mp hx]; exact hF.2 _ hw'
  have hcl : (V.cur ++ [V.w] ++ [w']).length ≤ 900 := by have := ho.szc; have := hF.1; simp; omega
  have p1 : Parts (V.bt :: fz) (V.ys.push (.ref V.q)) (V.cur ++ [V.w]) := parts_push (parts_more ho.parts fun p hp => List.mem_cons_of_mem _ hp) List.mem_cons_self
  have hxs : (V.ys.push (.ref V.q)).size = V.cur.length + 1 := by rw [p1.1]; simp
  have hnx : (strA F.ws F.wf)[i]? = some (.str w' (F.wf i)) := by rw [strA_get, hw]; rfl
  have hlen : ∀ tok q2 e2, CON K P dr (V.bt :: fz) (.call (.builtin "len") ⟨[.ref F.ac], []⟩) [(F.ac, accO F.ad ((V.ys.push (.ref V.q)).push (.ref q2)) e2), (F.ad, accD P V.a V.b), (q2, tupO #[.str " " tok, .str w' (F.wf i)])] 35 130 (fun v => ⟨.ok (.ret (.int (lenOf (V.cur ++ [V.w] ++ [w'])) (v 0))), [], []⟩) := fun tok q2 e2 =>
    con_freeze (ex := [_]) (con_lenP o.acc (parts_push (parts_more p1 fun p hp => List.mem_cons_of_mem _ hp) List.mem_cons_self) hw99 hcl) (by simp)
  have hc8 : V.cur.length + 1 ≤ 800 := by have := ho.szc; have := hF.1; omega
  by_cases hT : F.W < lenOf (V.cur ++ [V.w] ++ [w'])
  · refine code_run (fz := V.bt :: fz) (o.r4b P F.m0 F.md F.ln F.ac F.ad V.e V.le V.a V.b F.wl F.we F.tw F.L F.s0 F.s1 F.s2 F.t F.W (strA V.rs V.f) (V.ys.push (.ref V.q)) (strA F.ws F.wf) F.s3 V.x0 F.it i (F.wf i) w' (fun v => (strA V.rs V.f).push (.str (lineOf (V.cur ++ [V.w])) (v 1))) (fun v => #[.ref (v 0)]) (fun v => V.le + 1) (fun v => v 2) (fun v => v 3) h.objs.size tk)
      room hi1 ho.bare ho.has (own_by own1) ho.nd ⟨con_bi bi_next (con_next_item hnx), fun v1 n1 tk1 q1 q2 => ⟨con_chunkB o.ck (by rw [hxs]; exact ar512 hc8) (by rw [hxs]; exact ar513) (by rw [strA_size]; exact Nat.le_trans (Nat.le_trans (Nat.le_of_lt ho.szr) (Nat.le_trans (Nat.le_of_lt hil) hF.1)) (by decide)) hT (hlen _) (fun e2 => con_line o.acc p1 hw9 (by simp at hcl ⊢; exact ar514 hcl)),
        fun v2 n2 tk2 q4 q5 h' g' hi' hB' hs' has' hk' => ?_⟩⟩
    have hs2 : h'.objs.size = n2 := by simpa using hs'
    have hn : h.objs.size ≤ v2 0 := by have := (q5.1 _ List.mem_cons_self).1; simp at this; exact ar515 q1 this
    have ep := strA_push V.rs (lineOf (V.cur ++ [V.w])) V.f (v2 1)
    refine hR ⟨V.rs ++ [lineOf (V.cur ++ [V.w])], fun j => if j = V.rs.length then v2 1 else V.f j, V.le + 1, v2 2, V.a, v2 3, #[], v2 0, tk1 + 1, F.wf i, w', [], .str w' (F.wf i)⟩ h' g' _ ⟨hi', hB', ?_, has_nth has' 8 rfl, own1, (WI K P (V.bt :: fz)).big h hi1 _ hn, ho.nd, fun hm => ?_, parts_nil, ?_, ?_, ?_, Nat.le_trans ho.qn (Nat.le_trans (Nat.le_of_lt (Heap.lt_size ho.hq)) hn)⟩ ?_ (ar181 q1 q4 hs2) hk'
    · intro p hp
      unfold LrF.ents at hp
      simp only [← ep] at hp
      exact has' p (List.mem_append_left [_] hp)
    · exact absurd (lt_of_has ho.has _ hm) (Nat.not_lt_of_le hn)
    · exact Nat.succ_pos _
    · have := ho.szr; simp; omega
    · intro x hx
      rw [List.mem_singleton.mp hx]; exact hw'
    · unfold stepW
      rw [if_pos hT]
      rfl
  · refine code_run (fz := V.bt :: fz) (o.r4b P F.m0 F.md F.ln F.ac F.ad V.e V.le V.a V.b F.wl F.we F.tw F.L F.s0 F.s1 F.s2 F.t F.W (strA V.rs V.f) (V.ys.push (.ref V.q)) (strA F.ws F.wf) F.s3 V.x0 F.it i (F.wf i) w' (fun v => strA V.rs V.f) (fun v => (V.ys.push (.ref V.q)).push (.ref (v 0))) (fun v => V.le) (fun v => v 1) (fun v => V.b) h.objs.size tk)
      room hi1 ho.bare ho.has (own_by own1) ho.nd ⟨con_bi bi_next (con_next_item hnx), fun v1 n1 tk1 q1 q2 => ⟨con_chunkA o.ck (by rw [hxs]; exact Nat.le_trans (show V.cur.length + 1 ≤ 900 by simp at hcl; exact ar516 hcl) (by decide)) (ar434 hT) (hlen _),
        fun v2 n2 tk2 q4 q5 h' g' hi' hB' hs' has' hk' => ?_⟩⟩
    have hs2 : h'.objs.size = n2 := by simpa using hs'
    have hn : h.objs.size ≤ v2 0 := by have := (q5.1 _ List.mem_cons_self).1; simp at this; exact ar515 q1 this
    refine hR ⟨V.rs, V.f, V.le, v2 1, V.a, V.b, V.ys.push (.ref V.q), v2 0, tk1 + 1, F.wf i, w', V.cur ++ [V.w], .str w' (F.wf i)⟩ h' g' _ ⟨hi', hB', fun p hp => has' p (List.mem_append_left [_] hp), has_nth has' 8 rfl, own1, (WI K P (V.bt :: fz)).big h hi1 _ hn, ho.nd, fun hm => ?_, p1, ?_, ?_, ?_, Nat.le_trans ho.qn (Nat.le_trans (Nat.le_of_lt (Heap.lt_size ho.hq)) hn)⟩ ?_ (ar181 q1 q4 hs2) hk'
    · exact absurd (lt_of_has ho.has _ hm) (Nat.not_lt_of_le hn)
    · have := ho.szc; simp; omega
    · exact Nat.lt_succ_of_lt ho.szr
    · intro x hx
      rcases List.mem_append.mp hx with hx | hx
      · exact ho.mem x hx
      · rw [List.mem_singleton.mp hx]; exact hw'
    · unfold stepW
      rw [if_neg hT]
end
noncomputable def LrF.ads7 (F : LrF) : List Addr := [F.m0, F.md, F.ln, F.ac, F.ad, F.wl, F.L]
structure LrEnd (K : Params → KT) (P : Params) (F : LrF) (fz : List Ent) (V : LrV) (i : Nat) (h : Heap) (g : Array GenState) : Prop where
  inv : inv K P fz h
  bare : AllBare g
  has : Has h ((F.ents P V i).take 7)
  hq : h.get? V.q = some (tupO #[.str " " V.t1, .str V.w V.t2])
  own : ∀ a ∈ F.ads, OwnA fz a
  ownq : OwnA fz V.q
  nd : F.ads.Nodup
  nq : V.q ∉ F.ads
  parts : Parts fz V.ys V.cur
  szc : V.cur.length < i
  szr : V.rs.length < i
  mem : ∀ x ∈ V.cur ++ [V.w], x ∈ F.ws
  qn : F.n0 ≤ V.q
section
variable {K : Params → KT} [ok : Nonempty (KOk K)] {P : Params} {dr : Source → Nat → Nat}
theorem lr_loop (o : OkRw K) {F : LrF} (hF : F.ok) {A : Around} (room : Room A 130 400) {R : Result → Shared → Prop} {d : Drawn} {os : OsState} : ∀ (n : Nat) {fz : List Ent} {V : LrV} {i : Nat} {h : Heap} {g : Array GenState} {tk : Nat}, F.ws.length = i + n → LrOk K P F fz V i h g →
    (∀ (fz' : List Ent) (V' : LrV) (h' : Heap) (g' : Array GenState) (tk' : Nat), LrEnd K P F fz' V' F.ws.length h' g' → (∀ p ∈ fz, p ∈ fz') → (V'.rs, V'.cur ++ [V'.w]) = (F.ws.drop i).foldl (stepW F.W) (V.rs, V.cur ++ [V.w]) → h.objs.size ≤ h'.objs.size → Keep (WI K P fz) h h' F.ads →
      R (.ok .next) ⟨h', g', d, tk', os⟩) → codeAny (model prg ⟨dr, P⟩) A (lrLoop K P F) R ⟨h, g, d, tk, os⟩
  | 0, fz, V, i, h, g, tk, hn, ho, hR => by
    have hnx : (strA F.ws F.wf)[i]? = none := by rw [strA_get, List.getElem?_eq_none (ar517 hn)]; rfl
    refine code_run (o.r5 P F.m0 F.md F.ln F.ac F.ad V.e V.le V.a V.b F.wl F.we F.tw F.L F.s0 F.s1 F.s2 F.t F.W (strA V.rs V.f) (V.ys.push (.ref V.q)) (strA F.ws F.wf) F.it i F.s3 V.x0 h.objs.size tk)
      room ho.inv ho.bare ho.has (own_by ho.own) ho.nd ⟨con_bi bi_next (con_next_end hnx), fun v1 n1 tk1 q1 q2 h' g' hi' hB' hs' has' hk' => ?_⟩
    have hs2 : h'.objs.size = n1 := by simpa using hs'
    have hi0 : i = F.ws.length := ar518 hn
    refine hR fz V h' g' _ ⟨hi', hB', has', ?_, ho.own, ho.ownq, ho.nd, ho.nq, ho.parts, hi0 ▸ ho.szc, hi0 ▸ ho.szr, ho.mem, ho.qn⟩ (fun _ hp => hp) ?_ (ar52 q1 hs2) hk'
    · exact hk' _ _ ho.hq ho.nq (fun hm => (WI K P fz).tlo _ hm ho.ownq)
    · rw [List.drop_eq_nil_of_le (ar71 hi0)]
      rfl
  | n + 1, fz, V, i, h, g, tk, hn, ho, hR => by
    have hil : i < F.ws.length := ar519 hn
    refine lr_turn o hF ho (w' := F.ws[i]) (List.getElem?_eq_getElem hil) room fun V' h' g' tk' ho' hst hs' hk' => ?_
    refine lr_loop o hF room n (ar520 hn) ho' fun fz' V2 h2 g2 tk2 he hsub hf2 hs2 hk2 => ?_
    refine hR fz' V2 h2 g2 tk2 he (fun p hp => hsub p (List.mem_cons_of_mem _ hp)) ?_ (Nat.le_trans hs' hs2) (keep_trans hk' hk2)
    rw [hf2, List.drop_eq_getElem_cons hil, List.foldl_cons, ← hst]
end
noncomputable def LrF.ents0 (F : LrF) (P : Params) (e a b : Nat) : List Ent := [(F.m0, makO F.md), (F.md, makD P F.t F.W F.ln F.ac), (F.ln, lisO #[] 0), (F.ac, accO F.ad #[] e), (F.ad, accD P a b), (F.wl, lisO (strA F.ws F.wf) F.we),
  (F.L, frmO #[dEnt P "words" F.s0 (.ref F.wl), dEnt P "width" F.s1 (.int F.W F.tw), dEnt P "maker" F.s2 (.ref F.m0)] 3), (F.it, litO F.wl 0)]
section
variable {K : Params → KT} [ok : Nonempty (KOk K)] {P : Params} {dr : Source → Nat → Nat} {fz : List Ent}
theorem lr_first (o : OkRw K) {F : LrF} (hF : F.ok) {e a b : Nat} {h : Heap} {g : Array GenState} (hi : inv K P fz h) (hB : AllBare g) (has : Has h (F.ents0 P e a b)) (own : ∀ a ∈ F.ads, OwnA fz a) (nd : F.ads.Nodup) (hn0 : F.n0 ≤ h.objs.size) {w' : Str} (hw : F.ws[0]? = some w') {A : Around} (room : Room A 130 400) {R : Result → Shared → Prop} {d : Drawn} {tk : Nat} {os : OsState}
    (hR : ∀ (s3 : Nat) (V' : LrV) (h' : Heap) (g' : Array GenState) (tk' : Nat), LrOk K P { F with s3 := s3 } fz V' 1 h' g' → (V'.rs, V'.cur ++ [V'.w]) = ([], [w']) → h.objs.size ≤ h'.objs.size → Keep (WI K P fz) h h' F.ads →
      codeAny (model prg ⟨dr, P⟩) A (lrLoop K P F) R ⟨h', g', d, tk', os⟩) : codeAny (model prg ⟨dr, P⟩) A (lrLoop K P F) R ⟨h, g, d, tk, os⟩ := by
  have hw' : w' ∈ F.ws := List.mem_of_getElem? hw
  have hnx : (strA F.ws F.wf)[0]? = some (.str w' (F.wf 0)) := by rw [strA_get, hw]; rfl
  have hw9 : ∀ x ∈ ([] : List Str) ++ [w'], x.length ≤ 900 := fun x hx => by
    rw [List.mem_singleton.mp hx]; exact hF.2 _ hw'
  have hlen : ∀ tok q2 e2, CON K P dr fz (.call (.builtin "len") ⟨[.ref F.ac], []⟩) [(F.ac, accO F.ad ((#[] : Array Value).push (.ref q2)) e2), (F.ad, accD P a b), (q2, tupO #[.str " " tok, .str w' (F.wf 0)])] 35 130 (fun v => ⟨.ok (.ret (.int (lenOf ([] ++ [w'])) (v 0))), [], []⟩) := fun tok q2 e2 =>
    con_freeze (ex := [_]) (con_lenP o.acc (parts_push parts_nil List.mem_cons_self) hw9 (by simp)) (by simp)
  have hch : ∀ tok, CON K P dr fz (.call (.ref 91) ⟨[.ref F.m0, .str " " tok, .str w' (F.wf 0)], []⟩) [(F.m0, makO F.md), (F.md, makD P F.t F.W F.ln F.ac), (F.ln, lisO #[] 0), (F.ac, accO F.ad #[] e), (F.ad, accD P a b)] 100 300
      (fun v => ⟨.ok (.ret .none), [makO F.md, makD P F.t F.W F.ln F.ac, lisO #[] 0, accO F.ad ((#[] : Array Value).push (.ref (v 0))) (v 1), accD P a b], [(v 0, tupO #[.str " " tok, .str w' (F.wf 0)])]⟩) := fun tok => by
    by_cases hT : F.W < lenOf ([] ++ [w'])
    · exact con_chunkC o.ck hT (hlen tok)
    · exact con_chunkA o.ck (by decide) (ar434 hT) (hlen tok)
  refine code_run (o.r4a P F.m0 F.md F.ln F.ac F.ad e 0 a b F.wl F.we F.tw F.L F.s0 F.s1 F.s2 F.t F.W #[] #[] (strA F.ws F.wf) F.it 0 (F.wf 0) w' (fun v => #[]) (fun v => (#[] : Array Value).push (.ref (v 0))) (fun v => 0) (fun v => v 1) (fun v => b) h.objs.size tk)
      room hi hB has (own_by own) nd ⟨con_bi bi_next (con_next_item hnx), fun v1 n1 tk1 q1 q2 => ⟨hch _, fun v2 n2 tk2 q4 q5 h' g' hi' hB' hs' has' hk' => ?_⟩⟩
  have hs2 : h'.objs.size = n2 := by simpa using hs'
  have hn : h.objs.size ≤ v2 0 := by have := (q5.1 _ List.mem_cons_self).1; simp at this; exact ar515 q1 this
  refine hR (tk1 + 0) ⟨[], fun _ => 0, 0, v2 1, a, b, #[], v2 0, tk1 + 1, F.wf 0, w', [], .str w' (F.wf 0)⟩ h' g' _ ⟨hi', hB', fun p hp => has' p (List.mem_append_left [_] hp), has_nth has' 8 rfl, own, (WI K P fz).big h hi _ hn, nd, fun hm => ?_, parts_nil, by simp, by simp, ?_, Nat.le_trans hn0 hn⟩ rfl (ar181 q1 q4 hs2) hk'
  · exact absurd (lt_of_has has _ hm) (Nat.not_lt_of_le hn)
  · intro x hx
    rw [List.mem_singleton.mp hx]; exact hw'
end
noncomputable def stOf (W : Int) (ws : List Str) : List Str × List Str := (ws.drop 1).foldl (stepW W) ([], [ws.getD 0 ""])
noncomputable def rowsOf (W : Int) (ws : List Str) : List Str := (stOf W ws).1 ++ [lineOf (stOf W ws).2]
structure GoodWs (W : Int) (ws : List Str) : Prop where
  len : ws.length ≤ 700
  ne : 0 < ws.length
  word : ∀ x ∈ ws, x.length ≤ 900 ∧ (x == ("" : Str)) = false
  sp : (lineOf (stOf W ws).2).cps.all Unicode.isSpace = false
  sum : ((rowsOf W ws).map (·.length)).sum ≤ 1000000
  jl : (Txt.join "\n" (rowsOf W ws)).length ≤ sizeLine
  jn : (Builtin.Str.partsBetween (Txt.join "\n" (rowsOf W ws)) (Builtin.Str.occurrences (Txt.join "\n" (rowsOf W ws)) "\n" 0 (Txt.join "\n" (rowsOf W ws)).length ((Txt.join "\n" (rowsOf W ws)).length + 1)) (Str.ofString "\n").length).length ≤ sizeLine
theorem inv_less {K : Params → KT} {P : Params} {fz fz' : List Ent} {h : Heap} (hi : inv K P fz' h) (hs : ∀ p ∈ fz, p ∈ fz') : inv K P fz h := ⟨hi.1, hi.2.1, hi.2.2.1, hi.2.2.2.1, fun p hp => hi.2.2.2.2.1 p (hs p hp), fun p hp => hi.2.2.2.2.2 p (hs p hp)⟩
section
variable {K : Params → KT} [ok : Nonempty (KOk K)] {P : Params} {dr : Source → Nat → Nat} {fz : List Ent}
theorem con_rows (o : OkRw K) {wl we tw : Nat} {W : Int} {ws : List Str} {wf : Nat → Nat} (hg : GoodWs W ws) :
    CON K P dr fz (.call (.ref 189) ⟨[.ref wl, .int W tw], []⟩) [(wl, lisO (strA ws wf) we)] 220 600
      (fun v => ⟨.ok (.ret (.ref (v 0))), [], [(v 0, lisO (strA (Txt.split (Txt.join "\n" (rowsOf W ws)) "\n") (fun i => v (i + 1))) 0)]⟩) := by
  intro A h g d tk os R room hi hB has hlo nd hR
  have hN : OwnA fz h.objs.size := (WI K P fz).big h hi _ (Nat.le_refl _)
  have hwlo : OwnA fz wl := hlo _ List.mem_cons_self
  have hwlt : wl < h.objs.size := Heap.lt_size (has0 has)
  refine code_run (o.r0 P wl we tw W (strA ws wf) h.objs.size tk) room hi hB has hlo nd ?_
  intro h1 g1 hi1 hB1 hs1 has1' hk1
  have rm : Room (A.deeper (envOf K P 189 h.objs.size)) 200 550 := room_deeper (rl room)
  have hs1' : h1.objs.size = h.objs.size + 1 := hs1
  refine ks_codeAny_funcAt ?_
  rw [o.body P]
  refine at_first ?_
  refine run_flow (o.r1 P wl we tw h.objs.size (tk + 0) (tk + 1) W (strA ws wf) _ _) rm hi1 hB1 has1' (own_pair hwlo hN) (nd_pair (Nat.ne_of_lt hwlt)) ⟨con_vfmake o, fun v n2 tk2 q1 q2 h2 g2 hi2 hB2 hs2 has2' hk2 => ?_⟩
  have hs2' : h2.objs.size = n2 := hs2
  have k2 := keep_then hk1 hk2 (fun x hx => by
    rcases List.mem_cons.mp hx with hx | hx
    · exact .inl (by rw [hx]; exact List.mem_cons_self)
    · exact .inr (by rw [List.mem_singleton.mp hx]; exact Nat.le_refl _))
  have b5 : ∀ x ∈ [v 0, v 1, v 2, v 3, v 4], h.objs.size < x := fun x hx => by
    have : ∃ p ∈ [((v 0, makO (v 1)) : Ent), (v 1, makD P (fun i => v (i + 5)) W (v 2) (v 3)), (v 2, lisO #[] 0), (v 3, accO (v 4) #[] 0), (v 4, accD P (v 15) (tk + 2 + 0))], p.1 = x := List.mem_map.mp hx
    obtain ⟨p, hp, rfl⟩ := this
    have t2 : h1.objs.size + 0 ≤ p.1 := (q2.1 p hp).1
    exact Nat.lt_of_lt_of_le (show h.objs.size < h1.objs.size + 0 by exact ar521 hs1') t2
  have nd5 : [v 0, v 1, v 2, v 3, v 4].Nodup := q2.2
  show PySem.wpAt _ _ _ (execs _ _) _ _ _
  refine at_exec (wpAny_For ?_ (o.fold P _))
  have has2 : Has h2 [(v 0, makO (v 1)), (v 1, makD P (fun i => v (i + 5)) W (v 2) (v 3)), (v 2, lisO #[] 0), (v 3, accO (v 4) #[] 0), (v 4, accD P (v 15) (tk + 2 + 0)), (wl, lisO (strA ws wf) we), (h.objs.size, frmO #[dEnt P "words" (tk + 0) (.ref wl), dEnt P "width" (tk + 1) (.int W tw), dEnt P "maker" (tk2 + 0) (.ref (v 0))] 3)] := fun p hp => by
    rcases List.mem_append.mp (show p ∈ [(v 0, makO (v 1)), (v 1, makD P (fun i => v (i + 5)) W (v 2) (v 3)), (v 2, lisO #[] 0), (v 3, accO (v 4) #[] 0), (v 4, accD P (v 15) (tk + 2 + 0))] ++ [(wl, lisO (strA ws wf) we), (h.objs.size, frmO #[dEnt P "words" (tk + 0) (.ref wl), dEnt P "width" (tk + 1) (.int W tw), dEnt P "maker" (tk2 + 0) (.ref (v 0))] 3)] from hp) with hp | hp
    · exact has2' p (List.mem_append_right [_, _] hp)
    · exact has2' p (List.mem_append_left [_, _, _, _, _] hp)
  have own7 : ∀ x ∈ [v 0, v 1, v 2, v 3, v 4, wl, h.objs.size], OwnA fz x := own_app (l := [v 0, v 1, v 2, v 3, v 4]) (fun x hx => (WI K P fz).big h hi _ (Nat.le_of_lt (b5 x hx))) (own_cons hwlo (own_cons hN (fun _ z => nomatch z)))
  have nd7 : [v 0, v 1, v 2, v 3, v 4, wl, h.objs.size].Nodup := by
    show ([v 0, v 1, v 2, v 3, v 4] ++ [wl, h.objs.size]).Nodup
    rw [List.nodup_append]
    refine ⟨nd5, by simp; exact Nat.ne_of_lt hwlt, fun x hx y hy => ?_⟩
    have h1 := b5 x hx
    rcases List.mem_cons.mp hy with e | hy
    · rw [e]; exact Nat.ne_of_gt (Nat.lt_trans hwlt h1)
    · rw [List.mem_singleton.mp hy]; exact Nat.ne_of_gt h1
  have sub7 : ∀ x ∈ [v 0, v 1, v 2, v 3, v 4, wl, h.objs.size], x ∈ [wl] ∨ h.objs.size ≤ x := fun x hx => by
    rcases List.mem_append.mp (show x ∈ [v 0, v 1, v 2, v 3, v 4] ++ [wl, h.objs.size] from hx) with hx | hx
    · exact .inr (Nat.le_of_lt (b5 x hx))
    · rcases List.mem_cons.mp hx with hx | hx
      · exact .inl (by rw [hx]; exact List.mem_cons_self)
      · exact .inr (by rw [List.mem_singleton.mp hx]; exact Nat.le_refl _)
  rw [fEval_eq, fPyIter_eq]
  refine run_val (o.r2 P (v 0) (v 1) (v 2) (v 3) (v 4) 0 0 (v 15) (tk + 2 + 0) wl we tw h.objs.size (tk + 0) (tk + 1) (tk2 + 0) (fun i => v (i + 5)) W #[] #[] (strA ws wf) _ _) (rl rm) hi2 hB2 has2 (own_by own7) nd7 fun h3 g3 hi3 hB3 hs3 has3' hk3 => ?_
  have hs3' : h3.objs.size = h2.objs.size := hs3
  have k3 := keep_then k2 hk3 sub7
  refine run_val (o.r3 P (v 0) (v 1) (v 2) (v 3) (v 4) 0 0 (v 15) (tk + 2 + 0) wl we tw h.objs.size (tk + 0) (tk + 1) (tk2 + 0) (fun i => v (i + 5)) W #[] #[] (strA ws wf) _ _) (rl rm) hi3 hB3 has3' (own_by own7) nd7 fun h4 g4 hi4 hB4 hs4 has4' hk4 => ?_
  have hs4' : h4.objs.size = h3.objs.size + 1 := hs4
  have k4 := keep_then k3 hk4 sub7
  have hF : LrF.ok ⟨v 0, v 1, v 2, v 3, v 4, wl, we, tw, h.objs.size, tk + 0, tk + 1, tk2 + 0, 0, h3.objs.size + 0, fun i => v (i + 5), W, ws, wf, h.objs.size⟩ := ⟨hg.len, fun x hx => (hg.word x hx).1⟩
  have hit : h.objs.size ≤ h3.objs.size + 0 := ar522 q1 hs2' hs3' hs1'
  have own8 : ∀ x ∈ [v 0, v 1, v 2, v 3, v 4, wl, h.objs.size, h3.objs.size + 0], OwnA fz x := own_app (l := [v 0, v 1, v 2, v 3, v 4, wl, h.objs.size]) own7 (own_cons ((WI K P fz).big h hi _ hit) (fun _ z => nomatch z))
  have nd8 : [v 0, v 1, v 2, v 3, v 4, wl, h.objs.size, h3.objs.size + 0].Nodup := nd_snoc nd7 (fun x hx => lt_of_has has3' x hx)
  have sub8 : ∀ x ∈ [v 0, v 1, v 2, v 3, v 4, wl, h.objs.size, h3.objs.size + 0], x ∈ [wl] ∨ h.objs.size ≤ x := fun x hx => by
    rcases List.mem_append.mp (show x ∈ [v 0, v 1, v 2, v 3, v 4, wl, h.objs.size] ++ [h3.objs.size + 0] from hx) with hx | hx
    · exact sub7 x hx
    · exact .inr (by rw [List.mem_singleton.mp hx]; exact hit)
  have rm2 : Room (A.deeper (envOf K P 189 h.objs.size)) 130 400 := room_less rm (ar523) (ar524)
  obtain ⟨w0, ws', hws⟩ : ∃ w0 ws', ws = w0 :: ws' := by
    cases ws with
    | nil => exact absurd hg.ne (by simp)
    | cons x l => exact ⟨x, l, rfl⟩
  refine lr_first (F := ⟨v 0, v 1, v 2, v 3, v 4, wl, we, tw, h.objs.size, tk + 0, tk + 1, tk2 + 0, 0, h3.objs.size + 0, fun i => v (i + 5), W, ws, wf, h.objs.size⟩) o hF hi4 hB4 has4' own8 nd8 (show h.objs.size ≤ h4.objs.size by exact ar525 hs4' hit) (w' := w0) (by rw [hws]; rfl) rm2 fun s3 V1 h5 g5 tk5 ho5 e5 hs5 hk5 => ?_
  refine lr_loop (F := ⟨v 0, v 1, v 2, v 3, v 4, wl, we, tw, h.objs.size, tk + 0, tk + 1, tk2 + 0, s3, h3.objs.size + 0, fun i => v (i + 5), W, ws, wf, h.objs.size⟩) o hF rm2 (ws.length - 1) (by have := hg.ne; show ws.length = 1 + (ws.length - 1); exact ar526 this) ho5 fun fz' V6 h6 g6 tk6 ho6 hsub e6 hs6 hk6 => ?_
  have k5 := keep_then k4 hk5 sub8
  have k6 := keep_then k5 hk6 sub8
  have est : (V6.rs, V6.cur ++ [V6.w]) = stOf W ws := by
    rw [e6, e5, stOf, hws]
    rfl
  have er : V6.rs = (stOf W ws).1 := congrArg Prod.fst est
  have ec : V6.cur ++ [V6.w] = (stOf W ws).2 := congrArg Prod.snd est
  show PySem.wpAt _ _ _ (execs _ _) _ _ _
  refine at_all ?_
  have erow : V6.rs ++ [lineOf (V6.cur ++ [V6.w])] = rowsOf W ws := by rw [er, ec]; rfl
  have has6 : Has h6 [(v 0, makO (v 1)), (v 1, makD P (fun i => v (i + 5)) W (v 2) (v 3)), (v 2, lisO (strA V6.rs V6.f) V6.le), (v 3, accO (v 4) (V6.ys.push (.ref V6.q)) V6.e), (v 4, accD P V6.a V6.b), (V6.q, tupO #[.str " " V6.t1, .str V6.w V6.t2]), (wl, lisO (strA ws wf) we),
      (h.objs.size, frmO #[dEnt P "words" (tk + 0) (.ref wl), dEnt P "width" (tk + 1) (.int W tw), dEnt P "maker" (tk2 + 0) (.ref (v 0)), dEnt P "word" s3 V6.x0] 4)] := fun p hp => by
    rcases List.mem_append.mp (show p ∈ [(v 0, makO (v 1)), (v 1, makD P (fun i => v (i + 5)) W (v 2) (v 3)), (v 2, lisO (strA V6.rs V6.f) V6.le), (v 3, accO (v 4) (V6.ys.push (.ref V6.q)) V6.e), (v 4, accD P V6.a V6.b)] ++ [(V6.q, tupO #[.str " " V6.t1, .str V6.w V6.t2]), (wl, lisO (strA ws wf) we),
      (h.objs.size, frmO #[dEnt P "words" (tk + 0) (.ref wl), dEnt P "width" (tk + 1) (.int W tw), dEnt P "maker" (tk2 + 0) (.ref (v 0)), dEnt P "word" s3 V6.x0] 4)] from hp) with hp | hp
    · exact ho6.has p (List.mem_append_left [_, _] hp)
    · rcases List.mem_cons.mp hp with rfl | hp
      · exact ho6.hq
      · exact ho6.has p (List.mem_append_right [_, _, _, _, _] hp)
  have own6 : ∀ x ∈ [v 0, v 1, v 2, v 3, v 4, V6.q, wl, h.objs.size], OwnA fz' x := fun x hx => by
    rcases List.mem_append.mp (show x ∈ [v 0, v 1, v 2, v 3, v 4] ++ [V6.q, wl, h.objs.size] from hx) with hx | hx
    · exact ho6.own x (List.mem_append_left [_, _, _] hx)
    · rcases List.mem_cons.mp hx with hx | hx
      · rw [hx]; exact ho6.ownq
      · exact ho6.own x (List.mem_append_right [_, _, _, _, _] (List.mem_append_left [_] hx))
  have nd6 : [v 0, v 1, v 2, v 3, v 4, V6.q, wl, h.objs.size].Nodup := by
    have hnq : V6.q ∉ [v 0, v 1, v 2, v 3, v 4, wl, h.objs.size, h3.objs.size + 0] := ho6.nq
    show ([v 0, v 1, v 2, v 3, v 4] ++ (V6.q :: [wl, h.objs.size])).Nodup
    have z7 : ([v 0, v 1, v 2, v 3, v 4] ++ [wl, h.objs.size]).Nodup := nd7
    rw [List.nodup_append] at z7 ⊢
    refine ⟨z7.1, ?_, fun x hx y hy => ?_⟩
    · rw [List.nodup_cons]
      exact ⟨fun hm => hnq (List.mem_append_right [_, _, _, _, _] (List.mem_append_left [_] hm)), z7.2.1⟩
    · rcases List.mem_cons.mp hy with e | hy
      · intro z
        exact hnq (by rw [← e, ← z]; exact List.mem_append_left [_, _, _] hx)
      · exact z7.2.2 x hx y hy
  have rm3 : Room (A.deeper (envOf K P 189 h.objs.size)) 200 550 := rm
  refine run_flow (fz := fz') (o.r6 P (v 0) (v 1) (v 2) (v 3) (v 4) V6.e V6.le V6.a V6.b wl we tw h.objs.size (tk + 0) (tk + 1) (tk2 + 0) s3 V6.q V6.t1 V6.t2 V6.x0 V6.w (lineOf (V6.cur ++ [V6.w])) (Txt.join "\n" (rowsOf W ws)) (fun i => v (i + 5)) W (strA V6.rs V6.f) V6.ys (strA ws wf) (fun v => strA (Txt.split (Txt.join "\n" (rowsOf W ws)) "\n") (fun i => v (i + 1))) _ _)
    rm3 ho6.inv ho6.bare has6 (own_by own6) nd6 ⟨?_, fun v7 n7 tk7 c1 c2 => ⟨con_split (by decide) hg.jl hg.jn, fun v8 n8 tk8 c4 c5 h9 g9 hi9 hB9 hs9 has9' hk9 => ?_⟩⟩
  · rw [← erow]
    have l1 : V6.cur.length < ws.length := ho6.szc
    have l2 : V6.rs.length < ws.length := ho6.szr
    have l3 := hg.len
    refine con_str_ o ho6.parts (fun x hx => hg.word x (ho6.mem x hx)) (ar527 l1 l3) (ar527 l2 l3) (by rw [ec]; exact hg.sp) (by rw [erow]; exact hg.sum)
  · have hs10 : h9.objs.size = n8 := hs9
    have k9 := keep_then k6 hk9 (fun x hx => by
      rcases List.mem_append.mp (show x ∈ [v 0, v 1, v 2, v 3, v 4] ++ [V6.q, wl, h.objs.size] from hx) with hx | hx
      · exact .inr (Nat.le_of_lt (b5 x hx))
      · rcases List.mem_cons.mp hx with hx | hx
        · exact .inr (by rw [hx]; exact ho6.qn)
        · rcases List.mem_cons.mp hx with hx | hx
          · exact .inl (by rw [hx]; exact List.mem_cons_self)
          · exact .inr (by rw [List.mem_singleton.mp hx]; exact Nat.le_refl _))
    have hn8 : h.objs.size ≤ v8 0 := by have := (c5.1 _ List.mem_cons_self).1; simp at this; exact ar528 c1 hs4' hs5 hs6 this hit
    exact hR v8 h9 g9 _ (inv_less hi9 hsub) hB9 (ar529 c1 c4 hs10 hs4' hs5 hs6 hit) ⟨has_nth has9' 0 rfl, trivial⟩ (newOk1 hn8 (has_nth has9' 1 rfl)) k9
end
noncomputable def sc_fit1 (K : Params → KT) (P : Params) (sl se ta tb tw : Nat) (a b W T : Int) (ss zs : Array Value) (N tk : Nat) : Sc :=
  sA [0, 0, 4, 4, 4, 4, 4, 4, 4, 4, 1, 4, 4] 1 (.bool (b - a == 1)) (.bool true) <|
  sF [] (.ok (.ret (.bool true))) [0] [(sl, lisO ss se)] 1 6
noncomputable def ok_fit1 (K : Params → KT) : Prop := ∀ P sl se ta tb tw a b W T ss zs N tk,
  RunsTo K P 40 150 4000 (.call (.ref 201) ⟨[.ref sl, .int a ta, .int b tb, .int W tw], []⟩) [(sl, lisO ss se)] N tk (sc_fit1 K P sl se ta tb tw a b W T ss zs N tk)
noncomputable def sc_fit2 (K : Params → KT) (P : Params) (sl se ta tb tw : Nat) (a b W T : Int) (ss zs : Array Value) (N tk : Nat) : Sc :=
  sA [0, 0, 4, 4, 4, 4, 4, 4, 4, 4, 1, 4, 4] 1 (.bool (b - a == 1)) (.bool false) <|
  sA [4, 4] 0 (.bool (decide (a < b))) (.bool false) <|
  sF [] (.ok (.ret (.bool false))) [0] [(sl, lisO ss se)] 1 6
noncomputable def ok_fit2 (K : Params → KT) : Prop := ∀ P sl se ta tb tw a b W T ss zs N tk,
  RunsTo K P 40 150 4000 (.call (.ref 201) ⟨[.ref sl, .int a ta, .int b tb, .int W tw], []⟩) [(sl, lisO ss se)] N tk (sc_fit2 K P sl se ta tb tw a b W T ss zs N tk)
noncomputable def sc_fit3 (K : Params → KT) (P : Params) (sl se ta tb tw : Nat) (a b W T : Int) (ss zs : Array Value) (N tk : Nat) : Sc :=
  sA [0, 0, 4, 4, 4, 4, 4, 4, 4, 4, 1, 4, 4] 1 (.bool (b - a == 1)) (.bool false) <|
  sA [4, 4] 0 (.bool (decide (a < b))) (.bool true) <|
  sS [0, 0, 4, 4, 4, 3, 3, 3] (.call (.builtin "list.__getitem__") ⟨[.ref sl, .ref (N + 1)], []⟩) [0, 2] [(sl, lisO ss se), (N + 1, slcO (.int a ta) (.int b tb) .none)] 0 0 (fun v1 => ⟨.ok (.ret (.ref (v1 0))), [], [(v1 0, lisO zs 0)]⟩) 2 fun v1 n1 tk1 =>
  sS [] (.call (.builtin "sum") ⟨[.ref (v1 0)], []⟩) [3] [(v1 0, lisO zs 0)] 5 30 (fun v2 => ⟨.ok (.ret (.int T (v2 0))), [], []⟩) 0 fun v2 n2 tk2 =>
  sF [4] (.ok (.ret (.bool (decide (T ≤ W))))) [0] [(sl, lisO ss se)] 0 0
noncomputable def ok_fit3 (K : Params → KT) : Prop := ∀ P sl se ta tb tw a b W T ss zs N tk,
  RunsTo K P 40 150 4000 (.call (.ref 201) ⟨[.ref sl, .int a ta, .int b tb, .int W tw], []⟩) [(sl, lisO ss se)] N tk (sc_fit3 K P sl se ta tb tw a b W T ss zs N tk)
noncomputable def intL (xs : List Int) (f : Nat → Nat) : Array (Int × Tok) := (xs.mapIdx fun i x => (x, f i)).toArray
noncomputable def intA (xs : List Int) (f : Nat → Nat) : Array Value := intItems (intL xs f)
theorem intA_size (xs : List Int) (f : Nat → Nat) : (intA xs f).size = xs.length := by simp [intA, intL, intItems]
theorem intA_get (xs : List Int) (f : Nat → Nat) (i : Nat) : (intA xs f)[i]? = xs[i]?.map fun r => Value.int r (f i) := by
  simp [intA, intL, intItems]
  rfl
theorem numAt_intL (xs : List Int) (f : Nat → Nat) (i : Nat) : numAt (intL xs f) i = xs.getD i 0 := by
  simp [numAt, intL, List.getD_eq_getElem?_getD]
  cases xs[i]? <;> rfl
theorem preSum_intL (xs : List Int) (f : Nat → Nat) : ∀ n, n ≤ xs.length → preSum (numAt (intL xs f)) n = (xs.take n).sum
  | 0, _ => by simp [preSum]
  | n + 1, h => by
    rw [preSum, preSum_intL xs f n (ar35 h), numAt_intL, List.take_succ_eq_append_getElem (show n < xs.length by exact ar352 h), List.sum_append]
    simp only [List.getD_eq_getElem?_getD, List.getElem?_eq_getElem (show n < xs.length by exact ar352 h), Option.getD_some, List.sum_cons, List.sum_nil, Int.add_zero]
section
variable {K : Params → KT} [ok : Nonempty (KOk K)] {P : Params} {dr : Source → Nat → Nat} {fz : List Ent}
theorem code_function {prog : Program} {w : World} {A : Around} {s : Shared} {id : String} {b : Builtin} {args : List Value} {R : Result → Shared → Prop} (hk : builtinKind id = none) (hp : plainId id = true)
    (hb : entryFor table id = some b) (ha : argsOk id ⟨args, []⟩)
    (hc : wpAny (model prog w) A.in1 (b ⟨args, []⟩) (fun fin s' => match fin with | .done f => R (.ok f) s' | .again c' => c'.quiet = true ∧ codeAny (model prog w) A c' R s') (fun e s' => R (.error e) s') s) :
    codeAny (model prog w) A (.call (.builtin id) ⟨args, []⟩) R s := by
  refine codeAny_call_builtin hp hb ?_
  simp only [checkBuiltinCall, hk]
  cases hsig : Manifest.signature? id with
  | none => exact wpAny_pure hc
  | some sig =>
    simp only [argsOk, hsig] at ha
    have h2 : Bind.checkArgs id sig ⟨args, []⟩ = pure () := ha
    show wpAny _ A.in1 (Bind.checkArgs id sig ⟨args, []⟩) _ _ s
    rw [h2]; exact wpAny_pure hc
end
section
variable {prog : Program} {w : World} {A : Around} {R : Result → Shared → Prop} {I : Addr} {fp wr : List Addr} {n : Nat} {Pv : Nat → Value → Prop} {St : Nat → Heap → Prop}
theorem sum_turns (W : Walks prog w A.in1 I fp wr n Pv St) (val : Nat → Int) (hval : ∀ i v, Pv i v → ∃ t, v = .int (val i) t) (hfit : ∀ j, j < n → InLong (val j) ∧ InLong (preSum val (j + 1))) (S : Addr) (hSf : S ∉ fp) :
    ∀ (k i : Nat) (s : Shared) (tA : Tok) (c : Nat), n = i + k → St i s.heap → s.heap.get? S = some (lisO #[.int (preSum val i) tA] c) →
    (∀ h' tk t', (∃ o, h'.get? S = some o) → (∀ b o, b ∉ wr → b ≠ S → s.heap.get? b = some o → h'.get? b = some o) → R (.ok (.ret (.int (preSum val n) t'))) { s with heap := h', toks := tk }) →
    codeAny (model prog w) A (.builtin "sum.loop" ⟨[.ref I, .ref S, rawInt 0, rawInt 0], []⟩) R s := by
  have hSw : S ∉ wr := fun h => hSf (W.sub _ h)
  intro k
  induction k with
  | zero =>
    intro i s tA c hk hst hS hR
    obtain rfl : n = i := hk
    refine codeAny_builtin F.entry_sum_loop ?_
    rw [Around.under_plainId F.plain_sum_loop _]
    show wpAny _ A.in1 (seqItems? (.ref S) >>= _) _ _ s
    refine wpAny_bind (wpAny_seqItems hS rfl ?_)
    show wpAny _ A.in1 (tryCatch (pyNext (.ref I)) _ >>= _) _ _ s
    refine wpAny_bind (wpAny_tryCatch (W.done s _ _ hst fun h' tk hk' => ?_))
    exact wpAny_pure (hR h' tk tA ⟨_, hk' S _ hSw hS⟩ fun b o hbw _ e => hk' b o hbw e)
  | succ k ih =>
    intro i s tA c hk hst hS hR
    have hlt : i < n := ar519 hk
    refine codeAny_builtin F.entry_sum_loop ?_
    rw [Around.under_plainId F.plain_sum_loop _]
    show wpAny _ A.in1 (seqItems? (.ref S) >>= _) _ _ s
    refine wpAny_bind (wpAny_seqItems hS rfl ?_)
    show wpAny _ A.in1 (tryCatch (pyNext (.ref I)) _ >>= _) _ _ s
    refine wpAny_bind (wpAny_tryCatch (W.item i s _ _ hlt hst fun v h' tk hP hst' hk' => ?_))
    obtain ⟨t, rfl⟩ := hval i v hP
    have hS' := hk' S _ hSw hS
    obtain ⟨⟨f1, f2⟩, f3, f4⟩ := hfit i hlt
    have hc : ((decide (-(2 ^ 63) ≤ val i) && decide (val i < 2 ^ 63)) && (decide (-(2 ^ 63) ≤ preSum val i + val i) && decide (preSum val i + val i < 2 ^ 63))) = true := by
      simp only [preSum] at f3 f4
      simp only [Bool.and_eq_true, decide_eq_true_eq]
      exact ⟨⟨f1, f2⟩, f3, f4⟩
    show wpAny _ A.in1 (if (_ : Bool) = true then (mkInt (preSum val i + val i) >>= _) else _) _ _ _
    split
    · refine wpAny_bind (wpAny_mkInt ?_)
      show wpAny _ A.in1 (updateSeq S (fun _ => #[.int (preSum val i + val i) tk]) >>= _) _ _ _
      refine wpAny_bind ?_
      refine wpAny_updateSeq hS' rfl (wpAny_pure ⟨plainId_quiet F.plain_sum_loop _, ih (i + 1) _ tk _ (ar520 hk) (W.frame _ _ _ hst' fun b hb o e => ?_) (Heap.get?_update_self _ hS' rfl) fun h'' tk'' t'' hs'' hk'' => ?_⟩)
      · exact (Heap.get?_update_other _ _ (fun h : S = b => hSf (by rw [h]; exact hb))).trans e
      · exact hR h'' tk'' t'' hs'' fun b o hbw hbS e => hk'' b o hbw hbS ((Heap.get?_update_other _ _ (Ne.symm hbS)).trans (hk' b o hbw e))
    · rename_i hneg
      exact absurd hc hneg
end
theorem preSum_le (val : Nat → Int) (m : Int) (hm : 0 ≤ m) (hv : ∀ j, 0 ≤ val j ∧ val j ≤ m) : ∀ n : Nat, 0 ≤ preSum val n ∧ preSum val n ≤ n * m := preSum_bound val m hv
section
variable {K : Params → KT} [ok : Nonempty (KOk K)] {P : Params} {dr : Source → Nat → Nat} {fz : List Ent}
theorem con_sum {l e : Nat} {xs : List Int} {f : Nat → Nat} (hv : ∀ x ∈ xs, 0 ≤ x ∧ x ≤ 100000) (hn : xs.length ≤ 100000) :
    CON K P dr fz (.call (.builtin "sum") ⟨[.ref l], []⟩) [(l, lisO (intA xs f) e)] 5 30 (fun v => ⟨.ok (.ret (.int xs.sum (v 0))), [], []⟩) := by
  intro A h g d tk os R room hi hB has hlo nd hR
  have hl : h.get? l = some (lisO (intA xs f) e) := has0 has
  have hlt : l < h.objs.size := Heap.lt_size hl
  have hh : A.in1.in1.handled = none := room.1
  have hL : OwnA fz l := hlo _ List.mem_cons_self
  refine code_function F.kind_sum F.plain_sum F.entry_sum (F.args_sum1 _) ?_
  unfold Builtin.«sum»
  simp only [List.length_cons, List.length_nil]
  rw [if_neg (by decide)]
  refine wpAny_bind (wpAny_of_eq (show Builtin.Builtins.bindParams "sum" ["start"] 0 { } = pure [none] from rfl) ?_)
  have hlI : (⟨h, g, d, tk, os⟩ : Shared).heap.IsList l (intItems (intL xs f)) := ⟨_, hl, rfl, e, rfl⟩
  refine wpAny_bind (iter_intList hlI fun s₂ e2 st hfp hne => ?_)
  subst e2
  refine wpAny_bind (wpAny_mkInt ?_)
  refine wpAny_bind (wpAny_pure ?_)
  simp only [List.forIn_cons, List.forIn_nil]
  refine wpAny_bind (wpAny_bind (wpAny_bind (wpAny_isInstance (T := "int") (b := false) (typeIs_int _ _ _) PySem.sub_int_str ?_)))
  simp only [Bool.false_eq_true, if_false]
  refine wpAny_pure (wpAny_bind (wpAny_bind (wpAny_isInstance (T := "int") (b := false) (typeIs_int _ _ _) PySem.sub_int_bytes ?_)))
  simp only [Bool.false_eq_true, if_false]
  refine wpAny_pure (wpAny_bind (wpAny_bind (wpAny_isInstance (T := "int") (b := false) (typeIs_int _ _ _) PySem.sub_int_bytearray ?_)))
  simp only [Bool.false_eq_true, if_false]
  refine wpAny_pure (wpAny_pure ?_)
  refine wpAny_bind (wpAny_newObj_type ?_)
  have W := Walks.list (prog := prg) (w := ⟨dr, P⟩) (A := A.in1) room.1 h.objs.size l hne (intItems (intL xs f))
  have hval : ∀ i, 0 ≤ numAt (intL xs f) i ∧ numAt (intL xs f) i ≤ 100000 := fun i => by
    rw [numAt_intL]
    by_cases hi : i < xs.length
    · have : xs.getD i 0 = xs[i] := by simp [List.getD_eq_getElem?_getD, hi]
      rw [this]
      exact hv _ (List.getElem_mem hi)
    · have : xs.getD i 0 = 0 := by simp [List.getD_eq_getElem?_getD, List.getElem?_eq_none (Nat.le_of_not_lt hi)]
      rw [this]
      exact ar542
  have hsz : (intItems (intL xs f)).size = xs.length := intA_size xs f
  have key : ∀ s3 : Shared, s3.heap.get? (h.objs.size + 1) = some (lisO #[.int (preSum (numAt (intL xs f)) 0) tk] 0) → (s3.heap.IsListIter h.objs.size l 0 ∧ s3.heap.IsList l (intItems (intL xs f))) → s3.gens = g → s3.drawn = d → s3.os = os →
      (∀ b o, h.get? b = some o → s3.heap.get? b = some o) → codeAny (model prg ⟨dr, P⟩) A (.builtin "sum.loop" ⟨[.ref h.objs.size, .ref (h.objs.size + 1), rawInt 0, rawInt 0], []⟩) R s3 := by
    intro s3 hS hst e1 e2 e3 hk3
    obtain ⟨h3, g3, d3, tk3, os3⟩ := s3
    subst e1 e2 e3
    refine sum_turns W (numAt (intL xs f)) (fun _ _ => intItems_at) (fun j hj => ?_) (h.objs.size + 1) (fun hm => ?_) xs.length 0 _ tk 0 (by rw [hsz]; exact ar543) hst hS fun h' tk' t' hs' hk' => ?_
    · have h1 := hval j
      have h2 := preSum_bound (numAt (intL xs f)) 100000 hval (j + 1)
      rw [hsz] at hj
      have h3 : ((j + 1 : Nat) : Int) * 100000 ≤ 100000 * 100000 := Int.mul_le_mul_of_nonneg_right (ar544 hj hn) (ar545)
      clear hR hlo hi
      refine ⟨?_, ?_⟩ <;> (dsimp only [InLong]; omega)
    · rcases List.mem_cons.mp hm with e1 | hm
      · exact Nat.succ_ne_self _ e1
      · have e1 : h.objs.size + 1 = l := List.mem_singleton.mp hm
        exact ar548 e1 hlt
    · obtain ⟨oS, hoS⟩ := hs'
      have hS2 : h.objs.size + 1 < h'.objs.size := Heap.lt_size hoS
      have kk : ∀ b o, h.get? b = some o → h'.get? b = some o := fun b o e => by
        have hb := Heap.lt_size e
        exact hk' b o (fun hm => Nat.ne_of_lt hb (List.mem_singleton.mp hm)) (Nat.ne_of_lt (Nat.lt_succ_of_lt hb)) (hk3 b o e)
      have e1 : preSum (numAt (intL xs f)) (intItems (intL xs f)).size = xs.sum := by
        rw [hsz, preSum_intL xs f _ (Nat.le_refl _), List.take_length]
      rw [e1]
      have h217 : 217 ≤ h.objs.size := hi.2.2.2.1
      have h217' : 217 ≤ h'.objs.size := Nat.le_trans h217 (Nat.le_of_lt (Nat.lt_of_succ_lt hS2))
      have hge : h.objs.size ≤ h'.objs.size := Nat.le_of_lt (Nat.lt_of_succ_lt hS2)
      exact hR (fun _ => t') h' g3 tk' (inv_but (wr := []) hi h217' (fun b hb => (nomatch hb)) fun b o _ e => kk b o e) hB hge ⟨kk _ _ hl, trivial⟩ newOk0 (fun b o e _ _ => kk b o e)
  have hp1 : (h.push { cls := .type "list_iterator", data := .fields #[.ref l, .int 0 0] }).objs.size = h.objs.size + 1 := Heap.size_push ..
  refine wpAny_pure ⟨plainId_quiet F.plain_sum_loop _, ?_⟩
  have q := key ⟨(h.push { cls := .type "list_iterator", data := .fields #[.ref l, .int 0 0] }).push { cls := .type "list", data := .seq #[.int 0 tk] }, g, d, tk + 1, os⟩ ?_ ?_ rfl rfl rfl ?_
  · show codeAny _ A (.builtin "sum.loop" ⟨[.ref h.objs.size, .ref (h.push _).objs.size, rawInt 0, rawInt 0], []⟩) R _
    rw [hp1]
    exact q
  · rw [← hp1]; exact Heap.get?_push_size _ rfl
  · exact ⟨st.1.at fun o e => Heap.get?_push_of_some _ e, st.2.push _⟩
  · intro b o e
    exact Heap.get?_push_of_some _ (Heap.get?_push_of_some _ e)
end
noncomputable def fitB (xs : List Int) (a b : Nat) (W : Int) : Bool := ((b : Int) - a == 1) || (decide (a < b) && decide (((xs.drop a).take (b - a)).sum ≤ W))
structure OkFit (K : Params → KT) : Prop where
  f1 : ok_fit1 K
  f2 : ok_fit2 K
  f3 : ok_fit3 K
theorem intA_slice (xs : List Int) (f : Nat → Nat) (a b : Nat) (hb : b ≤ xs.length) (hab : a ≤ b) : slicePick (intA xs f) (some a) (some b) none = intA ((xs.drop a).take (b - a)) (fun i => f (i + a)) := by
  rw [slicePick_run _ a b (by rw [intA_size]; exact hb) hab]
  apply Array.ext'
  apply List.ext_getElem?
  intro i
  have e1 : (intA ((xs.drop a).take (b - a)) (fun i => f (i + a))).toList[i]? = (intA ((xs.drop a).take (b - a)) (fun i => f (i + a)))[i]? := by simp
  rw [e1, intA_get]
  show (((intA xs f).toList.drop a).take (b - a))[i]? = _
  rw [List.getElem?_take, List.getElem?_take]
  split
  · rw [List.getElem?_drop, List.getElem?_drop]
    have e2 : (intA xs f).toList[a + i]? = (intA xs f)[a + i]? := by simp
    rw [e2, intA_get, Nat.add_comm i a]
  · rfl
section
variable {K : Params → KT} [ok : Nonempty (KOk K)] {P : Params} {dr : Source → Nat → Nat} {fz : List Ent}
theorem con_fit (o : OkFit K) {sl se ta tb tw : Nat} {a b : Nat} {W : Int} {xs : List Int} {f : Nat → Nat} (hv : ∀ x ∈ xs, 0 ≤ x ∧ x ≤ 100000) (hn : xs.length ≤ 1000) (hb : b ≤ xs.length) :
    CON K P dr fz (.call (.ref 201) ⟨[.ref sl, .int a ta, .int b tb, .int W tw], []⟩) [(sl, lisO (intA xs f) se)] 40 150 (fun v => ⟨.ok (.ret (.bool (fitB xs a b W))), [], []⟩) := by
  by_cases h1 : ((b : Int) - a == 1) = true
  · have e : fitB xs a b W = true := by unfold fitB; rw [h1]; rfl
    rw [e]
    refine con_by (fun N tk => o.f1 P sl se ta tb tw a b W 0 (intA xs f) #[] N tk) fun A h d tk os R room hi hlt hlo nd hR => ?_
    refine ⟨by rw [h1], fun h' g' hi' hB' hs' has' hk' => ?_⟩
    exact hR (fun _ => 0) h' g' _ hi' hB' (ar148 hs') ⟨has0 has', trivial⟩ newOk0 hk'
  · have h1' : ((b : Int) - a == 1) = false := by simpa using h1
    by_cases h2 : a < b
    · have e : fitB xs a b W = decide (((xs.drop a).take (b - a)).sum ≤ W) := by unfold fitB; rw [h1']; simp [h2]
      rw [e]
      refine con_by (fun N tk => o.f3 P sl se ta tb tw a b W ((xs.drop a).take (b - a)).sum (intA xs f) (intA ((xs.drop a).take (b - a)) (fun i => f (i + a))) N tk) fun A h d tk os R room hi hlt hlo nd hR => ?_
      refine ⟨by rw [h1'], by simp [h2], con_bi bi_getitem (con_slice (.int _ _) (.int _ _) .none (by simp) (by rw [intA_size]; exact Nat.le_trans hn (by decide)) (intA_slice xs f a b hb (Nat.le_of_lt h2))), fun v1 n1 tk1 q1 q2 => ⟨con_sum (fun x hx => hv x (List.mem_of_mem_drop (List.mem_of_mem_take hx))) ?_, fun v2 n2 tk2 q4 q5 h' g' hi' hB' hs' has' hk' => ?_⟩⟩
      · rw [List.length_take, List.length_drop]; exact ar149 hn
      · have hs2 : h'.objs.size = n2 := by simpa using hs'
        exact hR (fun _ => 0) h' g' _ hi' hB' (ar150 q4 q1 hs2) ⟨has0 has', trivial⟩ newOk0 hk'
    · have e : fitB xs a b W = false := by unfold fitB; rw [h1']; simp [h2]
      rw [e]
      refine con_by (fun N tk => o.f2 P sl se ta tb tw a b W 0 (intA xs f) #[] N tk) fun A h d tk os R room hi hlt hlo nd hR => ?_
      refine ⟨by rw [h1'], ?_, fun h' g' hi' hB' hs' has' hk' => ?_⟩
      · have : ¬ (a : Int) < b := ar151 h2
        simp [h2]
      · exact hR (fun _ => 0) h' g' _ hi' hB' (ar148 hs') ⟨has0 has', trivial⟩ newOk0 hk'
end
noncomputable abbrev Never : Value → Shared → Prop := fun _ _ => False
noncomputable def optFin : Option Value → Sem PySem.Fin
  | none => .pure (.done .next)
  | some v => .pure (.done (.ret v))
noncomputable def unitFin (_ : Unit) : Sem PySem.Fin := .pure (.done .next)
noncomputable def boolFin (b : Bool) : Sem PySem.Fin := .pure (.done (.ret (.bool b)))
noncomputable abbrev wantsO (Q : Option Value → Shared → Prop) (E : Value → Shared → Prop) : Result → Shared → Prop := fun r s' => match r with
  | .ok .next => Q none s'
  | .ok (.ret v) => Q (some v) s'
  | .ok _ => False
  | .error e => E e s'
noncomputable abbrev wantsU (Q : Shared → Prop) (E : Value → Shared → Prop) : Result → Shared → Prop := fun r s' => match r with
  | .ok .next => Q s'
  | .ok _ => False
  | .error e => E e s'
noncomputable abbrev wantsB (Q : Bool → Shared → Prop) (E : Value → Shared → Prop) : Result → Shared → Prop := fun r s' => match r with
  | .ok (.ret (.bool b)) => Q b s'
  | .ok _ => False
  | .error e => E e s'
noncomputable def fPyNext := Fast.tw9404975358583537561
theorem fPyNext_eq : pyNext = fPyNext := Fast.te9404975358583537561
noncomputable def fAssign := Fast.tw17772580674575903948
theorem fAssign_eq : assign = fAssign := Fast.te17772580674575903948
noncomputable def fIsTrue := Fast.tw15418851999007992765
theorem fIsTrue_eq : PySem.isTrue = fIsTrue := Fast.te15418851999007992765
section
variable {K : Params → KT} [ok : Nonempty (KOk K)] {P : Params} {dr : Source → Nat → Nat} {fz : List Ent}
theorem wp_of_opt {M : Model} {A : Around} {t : Sem (Option Value)} {Q : Option Value → Shared → Prop} {E : Value → Shared → Prop} {s : Shared}
    (h : wpAny M A (t >>= optFin) (postD (wantsO Q E)) (postE (wantsO Q E)) s) : wpAny M A t Q E s := by
  intro Γ p hΓ
  have z : Sem.wp M Γ (Sem.bind t optFin) _ _ p s := h Γ p hΓ
  rw [Sem.wp_bind] at z
  refine Sem.wp_mono M Γ t (fun o p' s' h' => ?_) (fun _ _ _ h' => h') p s z
  cases o <;> exact h'
theorem wp_of_unit {M : Model} {A : Around} {t : Sem Unit} {Q : Unit → Shared → Prop} {E : Value → Shared → Prop} {s : Shared}
    (h : wpAny M A (t >>= unitFin) (postD (wantsU (Q ()) E)) (postE (wantsU (Q ()) E)) s) : wpAny M A t Q E s := by
  intro Γ p hΓ
  have z : Sem.wp M Γ (Sem.bind t unitFin) _ _ p s := h Γ p hΓ
  rw [Sem.wp_bind] at z
  exact Sem.wp_mono M Γ t (fun o p' s' h' => h') (fun _ _ _ h' => h') p s z
theorem wp_of_bool {M : Model} {A : Around} {t : Sem Bool} {Q : Bool → Shared → Prop} {E : Value → Shared → Prop} {s : Shared}
    (h : wpAny M A (t >>= boolFin) (postD (wantsB Q E)) (postE (wantsB Q E)) s) : wpAny M A t Q E s := by
  intro Γ p hΓ
  have z : Sem.wp M Γ (Sem.bind t boolFin) _ _ p s := h Γ p hΓ
  rw [Sem.wp_bind] at z
  exact Sem.wp_mono M Γ t (fun o p' s' h' => h') (fun _ _ _ h' => h') p s z
theorem run_opt {t : Sem (Option Value)} {pre : List Ent} {dep un f : Nat} {x : Sc} {A : Around} {h : Heap} {g : Array GenState} {d : Drawn} {tk : Nat} {os : OsState} {Q : Option Value → Shared → Prop} {E' : Value → Shared → Prop}
    (hrun : RunsA K P dep un f (t >>= optFin) pre h.objs.size tk x) (room : Room A dep un) (hi : inv K P fz h) (hB : AllBare g) (has : Has h pre) (hlo : ∀ p ∈ pre, OwnA fz p.1) (nd : (pre.map (·.1)).Nodup)
    (hg : GoodK K P dr fz A (wantsO Q E') h (pre.map (·.1)) d os (x.2 h.objs.size tk)) : wpAny (model prg ⟨dr, P⟩) A t Q E' ⟨h, g, d, tk, os⟩ :=
  wp_of_opt (run_any hrun room hi hB has hlo nd (goodK hg))
theorem run_unit {t : Sem Unit} {pre : List Ent} {dep un f : Nat} {x : Sc} {A : Around} {h : Heap} {g : Array GenState} {d : Drawn} {tk : Nat} {os : OsState} {Q : Unit → Shared → Prop} {E' : Value → Shared → Prop}
    (hrun : RunsA K P dep un f (t >>= unitFin) pre h.objs.size tk x) (room : Room A dep un) (hi : inv K P fz h) (hB : AllBare g) (has : Has h pre) (hlo : ∀ p ∈ pre, OwnA fz p.1) (nd : (pre.map (·.1)).Nodup)
    (hg : GoodK K P dr fz A (wantsU (Q ()) E') h (pre.map (·.1)) d os (x.2 h.objs.size tk)) : wpAny (model prg ⟨dr, P⟩) A t Q E' ⟨h, g, d, tk, os⟩ :=
  wp_of_unit (run_any hrun room hi hB has hlo nd (goodK hg))
theorem run_bool {t : Sem Bool} {pre : List Ent} {dep un f : Nat} {x : Sc} {A : Around} {h : Heap} {g : Array GenState} {d : Drawn} {tk : Nat} {os : OsState} {Q : Bool → Shared → Prop} {E' : Value → Shared → Prop}
    (hrun : RunsA K P dep un f (t >>= boolFin) pre h.objs.size tk x) (room : Room A dep un) (hi : inv K P fz h) (hB : AllBare g) (has : Has h pre) (hlo : ∀ p ∈ pre, OwnA fz p.1) (nd : (pre.map (·.1)).Nodup)
    (hg : GoodK K P dr fz A (wantsB Q E') h (pre.map (·.1)) d os (x.2 h.objs.size tk)) : wpAny (model prg ⟨dr, P⟩) A t Q E' ⟨h, g, d, tk, os⟩ :=
  wp_of_bool (run_any hrun room hi hB has hlo nd (goodK hg))
end
section
variable {prog : Program} {w : World} {A : Around} {R : Result → Shared → Prop} {s : Shared}
theorem wp_never {M : Model} {α : Type} {t : Sem α} {Q : α → Shared → Prop} {E : Value → Shared → Prop} (h : wpAny M A t Q Never s) : wpAny M A t Q E s :=
  wpAny_mono h (fun _ _ x => x) fun _ _ x => x.elim
theorem for_turn {target : PySem.Expr} {it : Value} {body orelse : List Stmt} {env : Env}
    (h : wpAny (model prog w) A (pyNext it) (fun r s₁ => match r with
      | none => wpAny (model prog w) A (execs orelse env) (fun f s₃ => R (.ok f) s₃) Never s₁
      | some v => wpAny (model prog w) A (letOwnedTupleGo target it v) (fun _ s₁' =>
          wpAny (model prog w) A (assign target env v) (fun _ s₂ => wpAny (model prog w) A (execs body env) (fun f s₃ => match f with
            | .next | .cont => codeAny (model prog w) A (.forLoop target it body orelse env) R s₃
            | .brk => R (.ok .next) s₃
            | .ret v => R (.ok (.ret v)) s₃) Never s₂) Never s₁') Never s₁) Never s) : codeAny (model prog w) A (.forLoop target it body orelse env) R s := by
  refine codeAny_of_tree ?_
  show wpAny _ A ((forTurn target it body orelse env).onRaise (fun x => do noteFrame x env; theTreesLotGoes x)) _ _ s
  refine wpAny_noted ?_
  simp only [forTurn]
  refine wpAny_bind (wpAny_standAt (wpAny_bind (wpAny_onRaise (wpAny_mono h (fun r s₁ h₁ => ?_) fun _ _ h' => h'.elim))))
  cases r with
  | none => exact wpAny_pure ⟨rfl, codeAny_block (wp_never h₁)⟩
  | some v =>
    refine wpAny_bind (wpAny_mono h₁ (fun _ s₁' h₁' => ?_) fun _ _ h' => h'.elim)
    refine wpAny_bind (wpAny_mono h₁' (fun _ s₂ h₂ => wpAny_bind (wpAny_mono h₂ (fun f s₃ h₃ => ?_) fun _ _ h' => h'.elim)) fun _ _ h' => h'.elim)
    cases f with
    | next => exact wpAny_pure ⟨rfl, h₃⟩
    | cont => exact wpAny_pure ⟨rfl, h₃⟩
    | brk => exact wpAny_pure h₃
    | ret v => exact wpAny_pure h₃
theorem while_turn {test : PySem.Expr} {body orelse : List Stmt} {env : Env}
    (h : wpAny (model prog w) A (PySem.isTrue test env (eval test env)) (fun b s₂ =>
        if b then wpAny (model prog w) A (execs body env) (fun f s₃ => match f with
            | .next | .cont => codeAny (model prog w) A (.whileLoop test body orelse env) R s₃
            | .brk => R (.ok .next) s₃
            | .ret v => R (.ok (.ret v)) s₃) Never s₂
        else wpAny (model prog w) A (execs orelse env) (fun f s₃ => R (.ok f) s₃) Never s₂) Never s) : codeAny (model prog w) A (.whileLoop test body orelse env) R s := by
  refine codeAny_of_tree ?_
  show wpAny _ A ((whileTurn test body orelse env).onRaise (fun x => do noteFrame x env; theTreesLotGoes x)) _ _ s
  refine wpAny_noted ?_
  simp only [whileTurn]
  refine wpAny_bind (wpAny_mono h (fun b s₂ h₂ => ?_) fun _ _ h' => h'.elim)
  cases b with
  | false =>
    simp only [Bool.false_eq_true, if_false] at h₂ ⊢
    exact wpAny_bind (wpAny_mono h₂ (fun f s₃ h₃ => wpAny_pure h₃) fun _ _ h' => h'.elim)
  | true =>
    simp only [if_true] at h₂ ⊢
    refine wpAny_bind (wpAny_mono h₂ (fun f s₃ h₃ => ?_) fun _ _ h' => h'.elim)
    cases f with
    | next => exact wpAny_pure ⟨rfl, h₃⟩
    | cont => exact wpAny_pure ⟨rfl, h₃⟩
    | brk => exact wpAny_pure h₃
    | ret v => exact wpAny_pure h₃
end
noncomputable def compScope : PySem.Expr → Scope
  | .ListComp _ _ sc _ => sc
  | _ => default
noncomputable def closC (sc : Scope) (env : Env) : List (Str × Addr) := sc.names.foldl (fun cs x => if x.2 == .free then (x.1, (env.cells.lookup x.1).getD 0) :: cs else cs) []
noncomputable def compE (e : PySem.Expr) (env : Env) (C : Addr) : Env :=
  { scope := { compScope e with names := (compScope e).names.map fun x => if x.2 == .free && env.scope.kind == .function && env.kindOf x.1 == some .cell then (x.1, .cell) else x },
    locals := C, globals := env.globals, cells := cellsFrom (C + 1) (compScope e).names (closC (compScope e) env), qual := env.qual, func := none, code := env.code, frame := env.frame, builtins := env.builtins }
noncomputable abbrev envC (K : Params → KT) (P : Params) (a N : Addr) : Env := callEnvC (fdOf K P a) N a
noncomputable def whBody : Stmt → List Stmt
  | .While _ b _ _ => b
  | _ => []
noncomputable def whTest : Stmt → PySem.Expr
  | .While t _ _ _ => t
  | _ => default
noncomputable def whEls : Stmt → List Stmt
  | .While _ _ e _ => e
  | _ => []
noncomputable def subS (b : List Stmt) (i : Nat) : Stmt := match b[i]? with
  | some s => s
  | none => .Pass default
noncomputable def valOf : Stmt → PySem.Expr
  | .Assign _ v _ => v
  | .Return (some v) _ => v
  | .Expr v _ => v
  | _ => default
noncomputable def celO (v : Option Value) : Obj := ⟨.type "cell", none, .cell v, #[]⟩
noncomputable def dicO (es : Array DictEntry) (e : Nat) : Obj := ⟨.type "dict", none, .dict es e, #[]⟩
noncomputable def hFor (K : Params → KT) (P : Params) : Stmt := subS (whBody (stmtOf K P 206 1)) 1
noncomputable def hIf (K : Params → KT) (P : Params) : Stmt := subS (forQ (hFor K P)).body 0
noncomputable def hComp (K : Params → KT) (P : Params) : PySem.Expr := (ifQ (hIf K P)).left
noncomputable def sc_hcA0 (K : Params → KT) (P : Params) (sl se r er acc eo tb tw L C it i : Nat) (b W : Int) (ss ls os : Array Value) (a : Int) (ta : Nat) (N tk : Nat) : Sc :=
  sS [10] (.call (.builtin "list_iterator.__next__") ⟨[.ref it], []⟩) [7, 1] [(it, litO r i), (r, lisO ls er)] 0 0 (fun v1 => ⟨.ok (.ret (.int a ta)), [litO r (i + 1)], []⟩) 0 fun v1 n1 tk1 =>
  sS [9, 9, 0, 5, 9, 7, 6, 0] (.call (.ref 201) ⟨[.ref sl, .int a ta, .int b tb, .int W tw], []⟩) [0] [(sl, lisO ss se)] 40 150 (fun v2 => ⟨.ok (.ret (.bool false)), [], []⟩) 0 fun v2 n2 tk2 =>
  sG [] (.compLoop (hComp K P) 0 (.ref it) (.ref acc) (compE (hComp K P) (envC K P 206 L) C)) [0, 1, 2, 3, 4, 5, 6, 7] [(sl, lisO ss se), (r, lisO ls er), ((L + 1), celO (some (.ref sl))), ((L + 2), celO (some (.int W tw))), ((L + 3), celO (some (.int b tb))), (acc, lisO os eo), (C, dicO #[dEnt P "start" (tk1 + 0) (.int a ta)] 1), (it, litO r (i + 1))] 0 0
noncomputable def ok_hcA0 (K : Params → KT) : Prop := ∀ P sl se r er acc eo tb tw L C it i b W ss ls os a ta N tk,
  RunsTo K P 50 200 4000 (.compLoop (hComp K P) 0 (.ref it) (.ref acc) (compE (hComp K P) (envC K P 206 L) C)) [(sl, lisO ss se), (r, lisO ls er), ((L + 1), celO (some (.ref sl))), ((L + 2), celO (some (.int W tw))), ((L + 3), celO (some (.int b tb))), (acc, lisO os eo), (C, dicO #[] 0), (it, litO r i)] N tk (sc_hcA0 K P sl se r er acc eo tb tw L C it i b W ss ls os a ta N tk)
noncomputable def sc_hcA1 (K : Params → KT) (P : Params) (sl se r er acc eo tb tw L C it i : Nat) (b W : Int) (ss ls os : Array Value) (a : Int) (ta : Nat) (N tk : Nat) : Sc :=
  sS [10] (.call (.builtin "list_iterator.__next__") ⟨[.ref it], []⟩) [7, 1] [(it, litO r i), (r, lisO ls er)] 0 0 (fun v1 => ⟨.ok (.ret (.int a ta)), [litO r (i + 1)], []⟩) 0 fun v1 n1 tk1 =>
  sS [9, 9, 0, 5, 9, 7, 6, 0] (.call (.ref 201) ⟨[.ref sl, .int a ta, .int b tb, .int W tw], []⟩) [0] [(sl, lisO ss se)] 40 150 (fun v2 => ⟨.ok (.ret (.bool true)), [], []⟩) 0 fun v2 n2 tk2 =>
  sS [9] (.call (.builtin "list.append") ⟨[.ref acc, .int a ta], []⟩) [5] [(acc, lisO os eo)] 0 0 (fun v3 => ⟨.ok (.ret .none), [lisO (os.push (.int a ta)) (eo + 1)], []⟩) 0 fun v3 n3 tk3 =>
  sG [] (.compLoop (hComp K P) 0 (.ref it) (.ref acc) (compE (hComp K P) (envC K P 206 L) C)) [0, 1, 2, 3, 4, 5, 6, 7] [(sl, lisO ss se), (r, lisO ls er), ((L + 1), celO (some (.ref sl))), ((L + 2), celO (some (.int W tw))), ((L + 3), celO (some (.int b tb))), (acc, lisO (os.push (.int a ta)) (eo + 1)), (C, dicO #[dEnt P "start" (tk1 + 0) (.int a ta)] 1), (it, litO r (i + 1))] 0 0
noncomputable def ok_hcA1 (K : Params → KT) : Prop := ∀ P sl se r er acc eo tb tw L C it i b W ss ls os a ta N tk,
  RunsTo K P 50 200 4000 (.compLoop (hComp K P) 0 (.ref it) (.ref acc) (compE (hComp K P) (envC K P 206 L) C)) [(sl, lisO ss se), (r, lisO ls er), ((L + 1), celO (some (.ref sl))), ((L + 2), celO (some (.int W tw))), ((L + 3), celO (some (.int b tb))), (acc, lisO os eo), (C, dicO #[] 0), (it, litO r i)] N tk (sc_hcA1 K P sl se r er acc eo tb tw L C it i b W ss ls os a ta N tk)
noncomputable def sc_hcB0 (K : Params → KT) (P : Params) (sl se r er acc eo tb tw L C it i : Nat) (b W : Int) (ss ls os : Array Value) (a : Int) (ta : Nat) (s0 : Nat) (x0 : Value) (N tk : Nat) : Sc :=
  sS [10] (.call (.builtin "list_iterator.__next__") ⟨[.ref it], []⟩) [7, 1] [(it, litO r i), (r, lisO ls er)] 0 0 (fun v1 => ⟨.ok (.ret (.int a ta)), [litO r (i + 1)], []⟩) 0 fun v1 n1 tk1 =>
  sS [9, 9, 0, 5, 9, 7, 6, 0] (.call (.ref 201) ⟨[.ref sl, .int a ta, .int b tb, .int W tw], []⟩) [0] [(sl, lisO ss se)] 40 150 (fun v2 => ⟨.ok (.ret (.bool false)), [], []⟩) 0 fun v2 n2 tk2 =>
  sG [] (.compLoop (hComp K P) 0 (.ref it) (.ref acc) (compE (hComp K P) (envC K P 206 L) C)) [0, 1, 2, 3, 4, 5, 6, 7] [(sl, lisO ss se), (r, lisO ls er), ((L + 1), celO (some (.ref sl))), ((L + 2), celO (some (.int W tw))), ((L + 3), celO (some (.int b tb))), (acc, lisO os eo), (C, dicO #[dEnt P "start" s0 (.int a ta)] 1), (it, litO r (i + 1))] 0 0
noncomputable def ok_hcB0 (K : Params → KT) : Prop := ∀ P sl se r er acc eo tb tw L C it i b W ss ls os a ta s0 x0 N tk,
  RunsTo K P 50 200 4000 (.compLoop (hComp K P) 0 (.ref it) (.ref acc) (compE (hComp K P) (envC K P 206 L) C)) [(sl, lisO ss se), (r, lisO ls er), ((L + 1), celO (some (.ref sl))), ((L + 2), celO (some (.int W tw))), ((L + 3), celO (some (.int b tb))), (acc, lisO os eo), (C, dicO #[dEnt P "start" s0 x0] 1), (it, litO r i)] N tk (sc_hcB0 K P sl se r er acc eo tb tw L C it i b W ss ls os a ta s0 x0 N tk)
noncomputable def sc_hcB1 (K : Params → KT) (P : Params) (sl se r er acc eo tb tw L C it i : Nat) (b W : Int) (ss ls os : Array Value) (a : Int) (ta : Nat) (s0 : Nat) (x0 : Value) (N tk : Nat) : Sc :=
  sS [10] (.call (.builtin "list_iterator.__next__") ⟨[.ref it], []⟩) [7, 1] [(it, litO r i), (r, lisO ls er)] 0 0 (fun v1 => ⟨.ok (.ret (.int a ta)), [litO r (i + 1)], []⟩) 0 fun v1 n1 tk1 =>
  sS [9, 9, 0, 5, 9, 7, 6, 0] (.call (.ref 201) ⟨[.ref sl, .int a ta, .int b tb, .int W tw], []⟩) [0] [(sl, lisO ss se)] 40 150 (fun v2 => ⟨.ok (.ret (.bool true)), [], []⟩) 0 fun v2 n2 tk2 =>
  sS [9] (.call (.builtin "list.append") ⟨[.ref acc, .int a ta], []⟩) [5] [(acc, lisO os eo)] 0 0 (fun v3 => ⟨.ok (.ret .none), [lisO (os.push (.int a ta)) (eo + 1)], []⟩) 0 fun v3 n3 tk3 =>
  sG [] (.compLoop (hComp K P) 0 (.ref it) (.ref acc) (compE (hComp K P) (envC K P 206 L) C)) [0, 1, 2, 3, 4, 5, 6, 7] [(sl, lisO ss se), (r, lisO ls er), ((L + 1), celO (some (.ref sl))), ((L + 2), celO (some (.int W tw))), ((L + 3), celO (some (.int b tb))), (acc, lisO (os.push (.int a ta)) (eo + 1)), (C, dicO #[dEnt P "start" s0 (.int a ta)] 1), (it, litO r (i + 1))] 0 0
noncomputable def ok_hcB1 (K : Params → KT) : Prop := ∀ P sl se r er acc eo tb tw L C it i b W ss ls os a ta s0 x0 N tk,
  RunsTo K P 50 200 4000 (.compLoop (hComp K P) 0 (.ref it) (.ref acc) (compE (hComp K P) (envC K P 206 L) C)) [(sl, lisO ss se), (r, lisO ls er), ((L + 1), celO (some (.ref sl))), ((L + 2), celO (some (.int W tw))), ((L + 3), celO (some (.int b tb))), (acc, lisO os eo), (C, dicO #[dEnt P "start" s0 x0] 1), (it, litO r i)] N tk (sc_hcB1 K P sl se r er acc eo tb tw L C it i b W ss ls os a ta s0 x0 N tk)
noncomputable def sc_hcE (K : Params → KT) (P : Params) (sl se r er acc eo tb tw L C it i : Nat) (b W : Int) (ss ls os : Array Value) (s0 : Nat) (x0 : Value) (N tk : Nat) : Sc :=
  sS [10] (.call (.builtin "list_iterator.__next__") ⟨[.ref it], []⟩) [7, 1] [(it, litO r i), (r, lisO ls er)] 0 0 (fun v1 => ⟨.error (.ref (v1 0)), [⟨.type "list_iterator", none, .fields #[.none, .int i 0], #[]⟩], [(v1 0, excStop (v1 1))]⟩) 0 fun v1 n1 tk1 =>
  sF [11] (.ok .next) [0, 1, 2, 3, 4, 5, 6, 7] [(sl, lisO ss se), (r, lisO ls er), ((L + 1), celO (some (.ref sl))), ((L + 2), celO (some (.int W tw))), ((L + 3), celO (some (.int b tb))), (acc, lisO os eo), (C, dicO #[dEnt P "start" s0 x0] 1), (it, ⟨.type "list_iterator", none, .fields #[.none, .int i 0], #[]⟩)] 0 0
noncomputable def ok_hcE (K : Params → KT) : Prop := ∀ P sl se r er acc eo tb tw L C it i b W ss ls os s0 x0 N tk,
  RunsTo K P 50 200 4000 (.compLoop (hComp K P) 0 (.ref it) (.ref acc) (compE (hComp K P) (envC K P 206 L) C)) [(sl, lisO ss se), (r, lisO ls er), ((L + 1), celO (some (.ref sl))), ((L + 2), celO (some (.int W tw))), ((L + 3), celO (some (.int b tb))), (acc, lisO os eo), (C, dicO #[dEnt P "start" s0 x0] 1), (it, litO r i)] N tk (sc_hcE K P sl se r er acc eo tb tw L C it i b W ss ls os s0 x0 N tk)
noncomputable def sc_hcS (K : Params → KT) (P : Params) (sl se r er acc eo tb tw L C it i : Nat) (b W : Int) (ss ls os : Array Value) (N tk : Nat) : Sc :=
  sG (bif P.followText "comprehension-iter-twice" then [] else [10, 10, 10, 10]) (.compLoop (hComp K P) 0 (.ref it) (.ref acc) (compE (hComp K P) (envC K P 206 L) C)) [0, 1, 2, 3, 4, 5, 6, 7] [(sl, lisO ss se), (r, lisO ls er), ((L + 1), celO (some (.ref sl))), ((L + 2), celO (some (.int W tw))), ((L + 3), celO (some (.int b tb))), (acc, lisO os eo), (C, dicO #[] 0), (it, litO r i)] 0 0
noncomputable def ok_hcS (K : Params → KT) : Prop := ∀ P sl se r er acc eo tb tw L C it i b W ss ls os N tk,
  RunsTo K P 50 200 4000 (.compStart (hComp K P) 0 (.ref it) (.ref acc) (compE (hComp K P) (envC K P 206 L) C)) [(sl, lisO ss se), (r, lisO ls er), ((L + 1), celO (some (.ref sl))), ((L + 2), celO (some (.int W tw))), ((L + 3), celO (some (.int b tb))), (acc, lisO os eo), (C, dicO #[] 0), (it, litO r i)] N tk (sc_hcS K P sl se r er acc eo tb tw L C it i b W ss ls os N tk)
noncomputable def natA (l : List Nat) (f : Nat → Nat) : Array Value := intA (List.map (α := Nat) (fun x => (x : Int)) l) f
theorem natA_size (l : List Nat) (f : Nat → Nat) : (natA l f).size = l.length := by simp [natA, intA_size]
theorem natA_get (l : List Nat) (f : Nat → Nat) (i : Nat) : (natA l f)[i]? = l[i]?.map fun (r : Nat) => Value.int (r : Int) (f i) := by
  rw [natA, intA_get, List.getElem?_map]
  cases l[i]? <;> rfl
theorem natA_push (l : List Nat) (f : Nat → Nat) (x t : Nat) : (natA l f).push (.int (x : Int) t) = natA (l ++ [x]) (fun i => if i = l.length then t else f i) := by
  apply Array.ext'
  apply List.ext_getElem?
  intro i
  have e1 : (natA (l ++ [x]) (fun i => if i = l.length then t else f i)).toList[i]? = (natA (l ++ [x]) (fun i => if i = l.length then t else f i))[i]? := by simp
  have e2 : ((natA l f).push (.int (x : Int) t)).toList[i]? = ((natA l f).push (.int (x : Int) t))[i]? := Array.getElem?_toList
  rw [e1, e2, natA_get, Array.getElem?_push, natA_size]
  by_cases h : i = l.length
  · subst h; simp
  · rw [if_neg h, natA_get]
    by_cases h2 : i < l.length
    · rw [List.getElem?_append_left h2, if_neg h]
    · have h3 : l.length < i := ar178 h2 h
      rw [List.getElem?_eq_none (ar179 h3), List.getElem?_eq_none (by simp; exact ar75 h3)]
      rfl
noncomputable def lendO (i : Nat) : Obj := ⟨.type "list_iterator", none, .fields #[.none, .int i 0], #[]⟩
theorem hasZ_same {h : Heap} : ∀ {pre pre' : List Ent} {now : List Obj}, pre'.map (·.1) = pre.map (·.1) → now.length = pre.length → HasZ h pre' now → HasZ h pre now
  | [], [], _, _, _, _ => trivial
  | [], _ :: _, _, e, _, _ => by simp at e
  | _ :: _, [], _, e, _, _ => by simp at e
  | _ :: _, _ :: _, [], _, hl, _ => by simp at hl
  | p :: l, p' :: l', o :: os, e, hl, hz => by
    rw [List.map_cons, List.map_cons, List.cons.injEq] at e
    exact ⟨by rw [← e.1]; exact hz.1, hasZ_same e.2 (by simpa using hl) hz.2⟩
section
variable {K : Params → KT} [ok : Nonempty (KOk K)] {P : Params} {dr : Source → Nat → Nat} {fz : List Ent}
theorem con_turn {c c' : Code} {pre pre' : List Ent} {dep un : Nat} {post : (Nat → Nat) → Post} (hc : CON K P dr fz c' pre' dep un post) (hads : pre'.map (·.1) = pre.map (·.1)) (hfull : ∀ v, (post v).now.length = pre.length)
    (ht : ∀ (A : Around) (h : Heap) (g : Array GenState) (d : Drawn) (tk : Nat) (os : OsState) (R : Result → Shared → Prop), Room A dep un → inv K P fz h → AllBare g → Has h pre → (∀ p ∈ pre, OwnA fz p.1) → (pre.map (·.1)).Nodup →
      (∀ (h' : Heap) (g' : Array GenState) (tk' : Nat), inv K P fz h' → AllBare g' → Has h' pre' → h.objs.size ≤ h'.objs.size → Keep (WI K P fz) h h' (pre.map (·.1)) → codeAny (model prg ⟨dr, P⟩) A c' R ⟨h', g', d, tk', os⟩) →
      codeAny (model prg ⟨dr, P⟩) A c R ⟨h, g, d, tk, os⟩) : CON K P dr fz c pre dep un post := by
  intro A h g d tk os R room hi hB has hlo nd hR
  have hlo' : ∀ p ∈ pre', OwnA fz p.1 := own_by (by rw [hads]; exact own_ads hlo)
  refine ht A h g d tk os R room hi hB has hlo nd fun h' g' tk' hi' hB' has' hs' hk' => ?_
  refine hc A h' g' d tk' os R room hi' hB' has' hlo' (by rw [hads]; exact nd) fun v h2 g2 tk2 hi2 hB2 hs2 hz hn hk2 => ?_
  exact hR v h2 g2 tk2 hi2 hB2 (Nat.le_trans hs' hs2) (hasZ_same hads (hfull v) hz) ⟨fun p hp => ⟨Nat.le_trans hs' (hn.1 p hp).1, (hn.1 p hp).2⟩, hn.2⟩ (keep_trans hk' (by rw [hads] at hk2; exact hk2))
structure OkHc (K : Params → KT) : Prop where
  fit : OkFit K
  a0 : ok_hcA0 K
  a1 : ok_hcA1 K
  b0 : ok_hcB0 K
  b1 : ok_hcB1 K
  e : ok_hcE K
  s : ok_hcS K
noncomputable def hAcc (fit : Nat → Bool) (lf : Nat → Nat) : Nat → List Nat → Array Value → Array Value
  | _, [], os => os
  | i, x :: l, os => hAcc fit lf (i + 1) l (bif fit x then os.push (.int (x : Int) (lf i)) else os)
noncomputable def hLast (lf : Nat → Nat) : Nat → List Nat → Value → Value
  | _, [], x0 => x0
  | i, x :: l, _ => hLast lf (i + 1) l (.int (x : Int) (lf i))
noncomputable abbrev hcCode (K : Params → KT) (P : Params) (it acc L C : Nat) : Code := .compLoop (hComp K P) 0 (.ref it) (.ref acc) (compE (hComp K P) (envC K P 206 L) C)
noncomputable abbrev hcPre (sl se r er acc tb tw L C it eo i : Nat) (b W : Int) (ss ls os : Array Value) (dc : Obj) : List Ent :=
  [(sl, lisO ss se), (r, lisO ls er), (L + 1, celO (some (.ref sl))), (L + 2, celO (some (.int W tw))), (L + 3, celO (some (.int b tb))), (acc, lisO os eo), (C, dc), (it, litO r i)]
theorem con_hloop (o : OkHc K) {sl se r er acc tb tw L C it b : Nat} {W : Int} {xs : List Int} {xf : Nat → Nat} {ls : List Nat} {lf : Nat → Nat} (hv : ∀ x ∈ xs, 0 ≤ x ∧ x ≤ 100000) (hn : xs.length ≤ 1000) (hb : b ≤ xs.length) (hl : ls.length ≤ 1000) :
    ∀ (l : List Nat) (i eo s0 : Nat) (os : Array Value) (x0 : Value), ls.drop i = l → i ≤ ls.length → os.size ≤ i →
      CON K P dr fz (hcCode K P it acc L C) (hcPre sl se r er acc tb tw L C it eo i b W (intA xs xf) (natA ls lf) os (dicO #[dEnt P "start" s0 x0] 1)) 50 200
        (fun v => ⟨.ok .next, [lisO (intA xs xf) se, lisO (natA ls lf) er, celO (some (.ref sl)), celO (some (.int W tw)), celO (some (.int b tb)), lisO (hAcc (fun a => fitB xs a b W) lf i l os) (v 0), dicO #[dEnt P "start" s0 (hLast lf i l x0)] 1, lendO ls.length], []⟩)
  | [], i, eo, s0, os, x0, hd, hi, hs => by
    have hnx : (natA ls lf)[i]? = none := by
      rw [natA_get, List.getElem?_eq_none (by have := List.drop_eq_nil_iff.mp hd; exact this)]
      rfl
    have hi2 : i = ls.length := Nat.le_antisymm hi (List.drop_eq_nil_iff.mp hd)
    refine con_by (fun N tk => o.e P sl se r er acc eo tb tw L C it i b W (intA xs xf) (natA ls lf) os s0 x0 N tk) fun A h d tk os' R room hi hlt hlo nd hR => ?_
    refine ⟨con_bi bi_next (con_next_end hnx), fun v1 n1 tk1 q1 q2 h' g' hi' hB' hs' has' hk' => ?_⟩
    have hs2 : h'.objs.size = n1 := by simpa using hs'
    exact hR (fun _ => eo) h' g' _ hi' hB' (ar52 q1 hs2) ⟨has_nth has' 0 rfl, has_nth has' 1 rfl, has_nth has' 2 rfl, has_nth has' 3 rfl, has_nth has' 4 rfl, has_nth has' 5 rfl, has_nth has' 6 rfl, by rw [← hi2]; exact has_nth has' 7 rfl, trivial⟩ newOk0 hk'
  | x :: l, i, eo, s0, os, x0, hd, hi, hs => by
    have hil : i < ls.length := by
      have : (ls.drop i).length = l.length + 1 := by rw [hd]; rfl
      rw [List.length_drop] at this
      exact ar72 this
    have hx : ls[i]? = some x := by
      have := congrArg (fun l => l[0]?) hd
      simpa using this
    have hd' : ls.drop (i + 1) = l := by
      have := congrArg (fun l => l.drop 1) hd
      simpa [List.drop_drop, Nat.add_comm] using this
    have hnx : (natA ls lf)[i]? = some (.int (x : Int) (lf i)) := by rw [natA_get, hx]; rfl
    cases hf : fitB xs x b W
    · have e1 : hAcc (fun a => fitB xs a b W) lf i (x :: l) os = hAcc (fun a => fitB xs a b W) lf (i + 1) l os := by rw [hAcc, hf]; rfl
      have e2 : hLast lf i (x :: l) x0 = hLast lf (i + 1) l (.int (x : Int) (lf i)) := rfl
      rw [e1, e2]
      refine con_turn (con_hloop o hv hn hb hl l (i + 1) eo s0 os (.int (x : Int) (lf i)) hd' (ar75 hil) (ar180 hs)) rfl (fun v => rfl) fun A h g d tk os' R room hi hB has hlo nd hR => ?_
      have zf := con_fit (P := P) (dr := dr) (fz := fz) o.fit (sl := sl) (se := se) (ta := lf i) (tb := tb) (tw := tw) (a := x) (b := b) (W := W) (f := xf) hv hn hb
      rw [hf] at zf
      refine code_run (o.b0 P sl se r er acc eo tb tw L C it i b W (intA xs xf) (natA ls lf) os x (lf i) s0 x0 h.objs.size tk) room hi hB has hlo nd
        ⟨con_bi bi_next (con_next_item hnx), fun v1 n1 tk1 q1 q2 => ⟨zf, fun v2 n2 tk2 q4 q5 h' g' hi' hB' hs' has' hk' => ?_⟩⟩
      have hs2 : h'.objs.size = n2 := by simpa using hs'
      exact hR h' g' _ hi' hB' has' (ar181 q1 q4 hs2) hk'
    · have e1 : hAcc (fun a => fitB xs a b W) lf i (x :: l) os = hAcc (fun a => fitB xs a b W) lf (i + 1) l (os.push (.int (x : Int) (lf i))) := by rw [hAcc, hf]; rfl
      have e2 : hLast lf i (x :: l) x0 = hLast lf (i + 1) l (.int (x : Int) (lf i)) := rfl
      rw [e1, e2]
      refine con_turn (con_hloop o hv hn hb hl l (i + 1) (eo + 1) s0 (os.push (.int (x : Int) (lf i))) (.int (x : Int) (lf i)) hd' (ar75 hil) (by simp; omega)) rfl (fun v => rfl) fun A h g d tk os' R room hi hB has hlo nd hR => ?_
      have zf := con_fit (P := P) (dr := dr) (fz := fz) o.fit (sl := sl) (se := se) (ta := lf i) (tb := tb) (tw := tw) (a := x) (b := b) (W := W) (f := xf) hv hn hb
      rw [hf] at zf
      refine code_run (o.b1 P sl se r er acc eo tb tw L C it i b W (intA xs xf) (natA ls lf) os x (lf i) s0 x0 h.objs.size tk) room hi hB has hlo nd
        ⟨con_bi bi_next (con_next_item hnx), fun v1 n1 tk1 q1 q2 => ⟨zf, fun v2 n2 tk2 q4 q5 => ⟨con_bi bi_append (con_append (Nat.le_trans (show os.size ≤ 1000 by exact ar182 hil hl hs) (by decide))), fun v3 n3 tk3 q7 q8 h' g' hi' hB' hs' has' hk' => ?_⟩⟩⟩
      have hs2 : h'.objs.size = n3 := by simpa using hs'
      exact hR h' g' _ hi' hB' has' (ar98 q1 q4 q7 hs2) hk'
end
noncomputable def sc_hf0 (K : Params → KT) (P : Params) (sl se r er hl eh en ee tw L it s0 s1 : Nat) (a k : Int) (W : Int) (ss ls ys es : Array Value) (x0 : Option Value) (N tk : Nat) : Sc :=
  sS [11] (.call (.builtin "range_iterator.__next__") ⟨[.ref it], []⟩) [8] [(it, ritO a k 1)] 0 0 (fun v1 => ⟨.ok (.ret (.int a (v1 0))), [ritO (a + 1) (k - 1) 1], []⟩) 0 fun v1 n1 tk1 =>
  sF [] (.ok (.ret (.int a (v1 0)))) [0, 1, 2, 3, 4, 5, 6, 7, 8] [(sl, lisO ss se), (L, frmO #[dEnt P "heads" s0 (.ref hl), dEnt P "ends" s1 (.ref en)] 2), ((L + 1), celO (some (.ref sl))), ((L + 2), celO (some (.int W tw))), ((L + 3), celO (x0)), (hl, lisO (ys.push (.ref r)) eh), (r, lisO ls er), (en, lisO es ee), (it, ritO (a + 1) (k - 1) 1)] 0 0
noncomputable def ok_hf0 (K : Params → KT) : Prop := ∀ P sl se r er hl eh en ee tw L it s0 s1 a k W ss ls ys es x0 N tk,
  RunsA K P 5 20 4000 (fPyNext (.ref it) >>= optFin) [(sl, lisO ss se), (L, frmO #[dEnt P "heads" s0 (.ref hl), dEnt P "ends" s1 (.ref en)] 2), ((L + 1), celO (some (.ref sl))), ((L + 2), celO (some (.int W tw))), ((L + 3), celO (x0)), (hl, lisO (ys.push (.ref r)) eh), (r, lisO ls er), (en, lisO es ee), (it, ritO a k 1)] N tk (sc_hf0 K P sl se r er hl eh en ee tw L it s0 s1 a k W ss ls ys es x0 N tk)
noncomputable def sc_hf0e (K : Params → KT) (P : Params) (sl se r er hl eh en ee tw L it s0 s1 : Nat) (a k : Int) (W : Int) (ss ls ys es : Array Value) (x0 : Option Value) (N tk : Nat) : Sc :=
  sS [11] (.call (.builtin "range_iterator.__next__") ⟨[.ref it], []⟩) [8] [(it, ritO a k 1)] 0 0 (fun v1 => ⟨.error (.ref (v1 0)), [], [(v1 0, excStop (v1 1))]⟩) 0 fun v1 n1 tk1 =>
  sF [12] (.ok .next) [0, 1, 2, 3, 4, 5, 6, 7, 8] [(sl, lisO ss se), (L, frmO #[dEnt P "heads" s0 (.ref hl), dEnt P "ends" s1 (.ref en)] 2), ((L + 1), celO (some (.ref sl))), ((L + 2), celO (some (.int W tw))), ((L + 3), celO (x0)), (hl, lisO (ys.push (.ref r)) eh), (r, lisO ls er), (en, lisO es ee), (it, ritO a k 1)] 0 0
noncomputable def ok_hf0e (K : Params → KT) : Prop := ∀ P sl se r er hl eh en ee tw L it s0 s1 a k W ss ls ys es x0 N tk,
  RunsA K P 5 20 4000 (fPyNext (.ref it) >>= optFin) [(sl, lisO ss se), (L, frmO #[dEnt P "heads" s0 (.ref hl), dEnt P "ends" s1 (.ref en)] 2), ((L + 1), celO (some (.ref sl))), ((L + 2), celO (some (.int W tw))), ((L + 3), celO (x0)), (hl, lisO (ys.push (.ref r)) eh), (r, lisO ls er), (en, lisO es ee), (it, ritO a k 1)] N tk (sc_hf0e K P sl se r er hl eh en ee tw L it s0 s1 a k W ss ls ys es x0 N tk)
noncomputable def sc_hf1 (K : Params → KT) (P : Params) (sl se r er hl eh en ee tw L it s0 s1 : Nat) (a k : Int) (W : Int) (ss ls ys es : Array Value) (x0 : Option Value) (ta : Nat) (a0 : Int) (N tk : Nat) : Sc :=
  sF [7, 7] (.ok .next) [0, 1, 2, 3, 4, 5, 6, 7, 8] [(sl, lisO ss se), (L, frmO #[dEnt P "heads" s0 (.ref hl), dEnt P "ends" s1 (.ref en)] 2), ((L + 1), celO (some (.ref sl))), ((L + 2), celO (some (.int W tw))), ((L + 3), celO (some (.int a0 ta))), (hl, lisO (ys.push (.ref r)) eh), (r, lisO ls er), (en, lisO es ee), (it, ritO a k 1)] 0 0
noncomputable def ok_hf1 (K : Params → KT) : Prop := ∀ P sl se r er hl eh en ee tw L it s0 s1 a k W ss ls ys es x0 ta a0 N tk,
  RunsA K P 5 20 4000 (fAssign (forQ (hFor K P)).target (envC K P 206 L) (.int a0 ta) >>= unitFin) [(sl, lisO ss se), (L, frmO #[dEnt P "heads" s0 (.ref hl), dEnt P "ends" s1 (.ref en)] 2), ((L + 1), celO (some (.ref sl))), ((L + 2), celO (some (.int W tw))), ((L + 3), celO (x0)), (hl, lisO (ys.push (.ref r)) eh), (r, lisO ls er), (en, lisO es ee), (it, ritO a k 1)] N tk (sc_hf1 K P sl se r er hl eh en ee tw L it s0 s1 a k W ss ls ys es x0 ta a0 N tk)
noncomputable def sc_hf2 (K : Params → KT) (P : Params) (sl se r er hl eh en ee tw L it s0 s1 : Nat) (a k : Int) (W : Int) (ss ls ys es : Array Value) (ta : Nat) (a0 : Int) (nl : Nat) (OS : Array Value) (X : Value) (N tk : Nat) : Sc :=
  sS [4, 8, 8, 8] (.call (.builtin "list.__getitem__") ⟨[.ref hl, .int (-1) (tk + 1)], []⟩) [5] [(hl, lisO (ys.push (.ref r)) eh)] 0 0 (fun v1 => ⟨.ok (.ret (.ref r)), [], []⟩) 0 fun v1 n1 tk1 =>
  sS [9, 9, 9, 12] (.compStart (hComp K P) 0 (.ref (n1 + 0)) (.ref (n1 + 1)) (compE (hComp K P) (envC K P 206 L) (n1 + 2))) [0, 6, 2, 3, 4, 10, 11, 9] [(sl, lisO ss se), (r, lisO ls er), ((L + 1), celO (some (.ref sl))), ((L + 2), celO (some (.int W tw))), ((L + 3), celO (some (.int a0 ta))), (n1 + 1, lisO #[] 0), (n1 + 2, dicO #[] 0), (n1 + 0, litO r 0)] 60 250 (fun v2 => ⟨.ok .next, [lisO ss se, lisO ls er, celO (some (.ref sl)), celO (some (.int W tw)), celO (some (.int a0 ta)), lisO OS (v2 0), dicO #[dEnt P "start" (v2 1) X] 1, lendO nl], []⟩) 3 fun v2 n2 tk2 =>
  sF [14, 14, 14] (.ok (.ret (.ref (n1 + 1)))) [0, 1, 2, 3, 4, 5, 6, 7, 8, 10] [(sl, lisO ss se), (L, frmO #[dEnt P "heads" s0 (.ref hl), dEnt P "ends" s1 (.ref en)] 2), ((L + 1), celO (some (.ref sl))), ((L + 2), celO (some (.int W tw))), ((L + 3), celO (some (.int a0 ta))), (hl, lisO (ys.push (.ref r)) eh), (r, lisO ls er), (en, lisO es ee), (it, ritO a k 1), (n1 + 1, lisO OS (v2 0))] 0 0
noncomputable def ok_hf2 (K : Params → KT) : Prop := ∀ P sl se r er hl eh en ee tw L it s0 s1 a k W ss ls ys es ta a0 nl OS X N tk,
  RunsA K P 70 300 4000 (fEval (hComp K P) (envC K P 206 L) >>= asFin) [(sl, lisO ss se), (L, frmO #[dEnt P "heads" s0 (.ref hl), dEnt P "ends" s1 (.ref en)] 2), ((L + 1), celO (some (.ref sl))), ((L + 2), celO (some (.int W tw))), ((L + 3), celO (some (.int a0 ta))), (hl, lisO (ys.push (.ref r)) eh), (r, lisO ls er), (en, lisO es ee), (it, ritO a k 1)] N tk (sc_hf2 K P sl se r er hl eh en ee tw L it s0 s1 a k W ss ls ys es ta a0 nl OS X N tk)
noncomputable def sc_hf3 (K : Params → KT) (P : Params) (sl se r er hl eh en ee tw L it s0 s1 : Nat) (a k : Int) (W : Int) (ss ls ys es : Array Value) (ta : Nat) (a0 : Int) (q qe : Nat) (OS : Array Value) (N tk : Nat) : Sc :=
  sF [] (.ok (.ret (.ref (N + 0)))) [0, 1, 2, 3, 4, 5, 6, 7, 8, 9, 10] [(sl, lisO ss se), (L, frmO #[dEnt P "heads" s0 (.ref hl), dEnt P "ends" s1 (.ref en)] 2), ((L + 1), celO (some (.ref sl))), ((L + 2), celO (some (.int W tw))), ((L + 3), celO (some (.int a0 ta))), (hl, lisO (ys.push (.ref r)) eh), (r, lisO ls er), (en, lisO es ee), (it, ritO a k 1), (q, lisO OS qe), (N + 0, lisO #[] 0)] 1 0
noncomputable def ok_hf3 (K : Params → KT) : Prop := ∀ P sl se r er hl eh en ee tw L it s0 s1 a k W ss ls ys es ta a0 q qe OS N tk,
  RunsA K P 5 20 4000 (fEval (ifQ (hIf K P)).right (envC K P 206 L) >>= asFin) [(sl, lisO ss se), (L, frmO #[dEnt P "heads" s0 (.ref hl), dEnt P "ends" s1 (.ref en)] 2), ((L + 1), celO (some (.ref sl))), ((L + 2), celO (some (.int W tw))), ((L + 3), celO (some (.int a0 ta))), (hl, lisO (ys.push (.ref r)) eh), (r, lisO ls er), (en, lisO es ee), (it, ritO a k 1), (q, lisO OS qe)] N tk (sc_hf3 K P sl se r er hl eh en ee tw L it s0 s1 a k W ss ls ys es ta a0 q qe OS N tk)
noncomputable def sc_hf4 (K : Params → KT) (P : Params) (sl se r er hl eh en ee tw L it s0 s1 : Nat) (a k : Int) (W : Int) (ss ls ys es : Array Value) (ta : Nat) (a0 : Int) (N tk : Nat) : Sc :=
  sS [4, 10, 10, 10, 10, 7] (.call (.builtin "list.append") ⟨[.ref en, .int a0 ta], []⟩) [7] [(en, lisO es ee)] 0 0 (fun v1 => ⟨.ok (.ret .none), [lisO (es.push (.int a0 ta)) (ee + 1)], []⟩) 0 fun v1 n1 tk1 =>
  sF [] (.ok .next) [0, 1, 2, 3, 4, 5, 6, 7, 8] [(sl, lisO ss se), (L, frmO #[dEnt P "heads" s0 (.ref hl), dEnt P "ends" s1 (.ref en)] 2), ((L + 1), celO (some (.ref sl))), ((L + 2), celO (some (.int W tw))), ((L + 3), celO (some (.int a0 ta))), (hl, lisO (ys.push (.ref r)) eh), (r, lisO ls er), (en, lisO (es.push (.int a0 ta)) (ee + 1)), (it, ritO a k 1)] 0 0
noncomputable def ok_hf4 (K : Params → KT) : Prop := ∀ P sl se r er hl eh en ee tw L it s0 s1 a k W ss ls ys es ta a0 N tk,
  RunsA K P 10 40 4000 (fExecs (ifQ (hIf K P)).body (envC K P 206 L) >>= flFin) [(sl, lisO ss se), (L, frmO #[dEnt P "heads" s0 (.ref hl), dEnt P "ends" s1 (.ref en)] 2), ((L + 1), celO (some (.ref sl))), ((L + 2), celO (some (.int W tw))), ((L + 3), celO (some (.int a0 ta))), (hl, lisO (ys.push (.ref r)) eh), (r, lisO ls er), (en, lisO es ee), (it, ritO a k 1)] N tk (sc_hf4 K P sl se r er hl eh en ee tw L it s0 s1 a k W ss ls ys es ta a0 N tk)
theorem hAcc_size (fit : Nat → Bool) (lf : Nat → Nat) : ∀ (l : List Nat) (i : Nat) (os : Array Value), (hAcc fit lf i l os).size = os.size + (l.filter fit).length
  | [], i, os => rfl
  | x :: l, i, os => by
    rw [hAcc, hAcc_size fit lf l, List.filter_cons]
    cases fit x
    · simp
    · simp; exact ar69
theorem hAcc_any (fit : Nat → Bool) (lf : Nat → Nat) (l : List Nat) : ((hAcc fit lf 0 l #[]).size != 0) = l.any fit := by
  rw [hAcc_size]
  cases h : l.any fit
  · have : l.filter fit = [] := List.filter_eq_nil_iff.mpr fun x hx => by
      have := List.any_eq_false.mp h x hx
      simpa using this
    simp [this]
  · obtain ⟨x, hx, hf⟩ := List.any_eq_true.mp h
    have : x ∈ l.filter fit := List.mem_filter.mpr ⟨hx, hf⟩
    have := List.length_pos_of_mem this
    have h2 : ¬ (#[] : Array Value).size + (l.filter fit).length = 0 := ar183 this
    rw [bne_iff_ne]
    exact h2
section
variable {K : Params → KT} [ok : Nonempty (KOk K)] {P : Params} {dr : Source → Nat → Nat} {fz : List Ent}
theorem con_hcomp (o : OkHc K) {sl se r er acc tb tw L C it b : Nat} {W : Int} {xs : List Int} {xf : Nat → Nat} {ls : List Nat} {lf : Nat → Nat} (hv : ∀ x ∈ xs, 0 ≤ x ∧ x ≤ 100000) (hn : xs.length ≤ 1000) (hb : b ≤ xs.length) (hl : ls.length ≤ 1000) (hne : ls ≠ []) :
    CON K P dr fz (.compStart (hComp K P) 0 (.ref it) (.ref acc) (compE (hComp K P) (envC K P 206 L) C)) (hcPre sl se r er acc tb tw L C it 0 0 b W (intA xs xf) (natA ls lf) #[] (dicO #[] 0)) 60 250
      (fun v => ⟨.ok .next, [lisO (intA xs xf) se, lisO (natA ls lf) er, celO (some (.ref sl)), celO (some (.int W tw)), celO (some (.int b tb)), lisO (hAcc (fun a => fitB xs a b W) lf 0 ls #[]) (v 0), dicO #[dEnt P "start" (v 1) (hLast lf 0 ls .none)] 1, lendO ls.length], []⟩) := by
  refine con_mono (dep := 50) (un := 200) (con_again (fun N tk => o.s P sl se r er acc 0 tb tw L C it 0 b W (intA xs xf) (natA ls lf) #[] N tk) (fun _ _ => rfl) ?_) (ar184) (ar185)
  obtain ⟨x, l, rfl⟩ : ∃ x l, ls = x :: l := by
    cases ls with
    | nil => exact absurd rfl hne
    | cons x l => exact ⟨x, l, rfl⟩
  have hnx : (natA (x :: l) lf)[0]? = some (.int (x : Int) (lf 0)) := by rw [natA_get]; rfl
  have zf := con_fit (P := P) (dr := dr) (fz := fz) o.fit (sl := sl) (se := se) (ta := lf 0) (tb := tb) (tw := tw) (a := x) (b := b) (W := W) (f := xf) hv hn hb
  intro A h g d tk os' R room hi hB has hlo nd hR
  have fin : ∀ (e s0 : Nat) (os : Array Value) (h' : Heap) (g' : Array GenState) (tk' : Nat), hAcc (fun a => fitB xs a b W) lf 0 (x :: l) #[] = hAcc (fun a => fitB xs a b W) lf 1 l os → os.size ≤ 1 → inv K P fz h' → AllBare g' →
      Has h' (hcPre sl se r er acc tb tw L C it e 1 b W (intA xs xf) (natA (x :: l) lf) os (dicO #[dEnt P "start" s0 (.int (x : Int) (lf 0))] 1)) → h.objs.size ≤ h'.objs.size → Keep (WI K P fz) h h' [sl, r, L + 1, L + 2, L + 3, acc, C, it] →
      codeAny (model prg ⟨dr, P⟩) A (hcCode K P it acc L C) R ⟨h', g', d, tk', os'⟩ := fun e s0 os h' g' tk' e1 hos hi' hB' has' hs' hk' => by
    have hlo' : ∀ p ∈ hcPre sl se r er acc tb tw L C it e 1 b W (intA xs xf) (natA (x :: l) lf) os (dicO #[dEnt P "start" s0 (.int (x : Int) (lf 0))] 1), OwnA fz p.1 := own_by (own_ads (pre := hcPre sl se r er acc tb tw L C it 0 0 b W (intA xs xf) (natA (x :: l) lf) #[] (dicO #[] 0)) hlo)
    refine con_hloop o hv hn hb hl l 1 e s0 os (.int (x : Int) (lf 0)) rfl (by simp) hos A h' g' d tk' os' R room hi' hB' has' hlo' nd fun v h2 g2 tk2 hi2 hB2 hs2 hz hn2 hk2 => ?_
    refine hR (fun i => if i = 0 then v 0 else s0) h2 g2 tk2 hi2 hB2 (Nat.le_trans hs' hs2) ?_ newOk0 (keep_trans hk' hk2)
    rw [e1]
    exact hasZ_same (pre' := hcPre sl se r er acc tb tw L C it e 1 b W (intA xs xf) (natA (x :: l) lf) os (dicO #[dEnt P "start" s0 (.int (x : Int) (lf 0))] 1)) rfl rfl hz
  cases hf : fitB xs x b W
  · rw [hf] at zf
    refine code_run (o.a0 P sl se r er acc 0 tb tw L C it 0 b W (intA xs xf) (natA (x :: l) lf) #[] x (lf 0) h.objs.size tk) room hi hB has hlo nd
        ⟨con_bi bi_next (con_next_item hnx), fun v1 n1 tk1 q1 q2 => ⟨zf, fun v2 n2 tk2 q4 q5 h' g' hi' hB' hs' has' hk' => ?_⟩⟩
    have hs2 : h'.objs.size = n2 := by simpa using hs'
    exact fin _ _ _ h' g' _ (by rw [hAcc, hf]; rfl) (by simp) hi' hB' has' (ar181 q1 q4 hs2) hk'
  · rw [hf] at zf
    refine code_run (o.a1 P sl se r er acc 0 tb tw L C it 0 b W (intA xs xf) (natA (x :: l) lf) #[] x (lf 0) h.objs.size tk) room hi hB has hlo nd
        ⟨con_bi bi_next (con_next_item hnx), fun v1 n1 tk1 q1 q2 => ⟨zf, fun v2 n2 tk2 q4 q5 => ⟨con_bi bi_append (con_append (by decide)), fun v3 n3 tk3 q7 q8 h' g' hi' hB' hs' has' hk' => ?_⟩⟩⟩
    have hs2 : h'.objs.size = n3 := by simpa using hs'
    exact fin _ _ _ h' g' _ (by rw [hAcc, hf]; rfl) (by simp) hi' hB' has' (ar98 q1 q4 q7 hs2) hk'
end
structure OkHf (K : Params → KT) : Prop where
  hc : OkHc K
  f0 : ok_hf0 K
  f0e : ok_hf0e K
  f1 : ok_hf1 K
  f2 : ok_hf2 K
  f3 : ok_hf3 K
  f4 : ok_hf4 K
  body : ∀ P, (forQ (hFor K P)).body = [ifNe (ifQ (hIf K P))]
  els : ∀ P, (forQ (hFor K P)).els = []
  iels : ∀ P, (ifQ (hIf K P)).els = []
  mark : ∀ P, behindInMarks .NotEq (ifQ (hIf K P)).right = false
  own : ∀ P it v, letOwnedTupleGo (forQ (hFor K P)).target it v = pure ()
noncomputable abbrev hfE (P : Params) (sl se r er hl eh en ee tw L it s0 s1 : Nat) (a k : Int) (W : Int) (ss ls ys es : Array Value) (x : Option Value) : List Ent :=
  [(sl, lisO ss se), (L, frmO #[dEnt P "heads" s0 (.ref hl), dEnt P "ends" s1 (.ref en)] 2), (L + 1, celO (some (.ref sl))), (L + 2, celO (some (.int W tw))), (L + 3, celO x), (hl, lisO (ys.push (.ref r)) eh), (r, lisO ls er), (en, lisO es ee), (it, ritO a k 1)]
noncomputable abbrev hfCode (K : Params → KT) (P : Params) (it L : Nat) : Code := .forLoop (forQ (hFor K P)).target (.ref it) (forQ (hFor K P)).body (forQ (hFor K P)).els (envC K P 206 L)
noncomputable def hEnds (xs : List Int) (W : Int) (ls : List Nat) (b k : Nat) : List Nat := (List.range' b k).filter fun e => ls.any fun s => fitB xs s e W
noncomputable def hEndC (k : Nat) (x0 : Option Value) (n : Nat) (t : Nat) : Option Value := if k = 0 then x0 else some (.int (n : Int) t)
section
variable {K : Params → KT} [ok : Nonempty (KOk K)] {P : Params} {dr : Source → Nat → Nat} {fz : List Ent}
theorem con_hfor (o : OkHf K) {sl se r er hl eh en tw L it s0 s1 : Nat} {W : Int} {xs : List Int} {xf : Nat → Nat} {ls : List Nat} {lf : Nat → Nat} {ys : Array Value} (hv : ∀ x ∈ xs, 0 ≤ x ∧ x ≤ 100000) (hn : xs.length ≤ 900) (hl2 : ls.length ≤ 1000) (hne : ls ≠ []) (hys : ys.size ≤ 1000) :
    ∀ (k b ee : Nat) (es : List Nat) (ef : Nat → Nat) (x0 : Option Value), b + k = xs.length + 1 → es.length ≤ b →
      CON K P dr fz (hfCode K P it L) (hfE P sl se r er hl eh en ee tw L it s0 s1 b k W (intA xs xf) (natA ls lf) ys (natA es ef) x0) 80 330
        (fun v => ⟨.ok .next, [lisO (intA xs xf) se, frmO #[dEnt P "heads" s0 (.ref hl), dEnt P "ends" s1 (.ref en)] 2, celO (some (.ref sl)), celO (some (.int W tw)), celO (hEndC k x0 xs.length (v 1)), lisO (ys.push (.ref r)) eh, lisO (natA ls lf) er,
          lisO (natA (es ++ hEnds xs W ls b k) (fun i => v (i + 10))) (v 0), ritO (xs.length + 1 : Nat) 0 1], []⟩)
  | 0, b, ee, es, ef, x0, hbk, hes => by
    intro A h g d tk os R room hi hB has hlo nd hR
    refine for_turn ?_
    rw [fPyNext_eq]
    refine run_opt (o.f0e P sl se r er hl eh en ee tw L it s0 s1 b (0 : Nat) W (intA xs xf) (natA ls lf) ys (natA es ef) x0 _ _) (rl room) hi hB has hlo nd ⟨con_bi bi_rnext (con_rnext_end (ar87)), fun v1 n1 tk1 q1 q2 h' g' hi' hB' hs' has' hk' => ?_⟩
    have hs2 : h'.objs.size = n1 := by simpa using hs'
    show wpAny _ _ (execs _ _) _ _ ⟨_, _, d, _, os⟩
    rw [o.els P]
    refine wpAny_execs_nil ?_
    have e1 : hEnds xs W ls b 0 = [] := rfl
    refine hR (fun i => if i = 0 then ee else ef (i - 10)) h' g' _ hi' hB' (ar52 q1 hs2) ?_ newOk0 hk'
    rw [e1, List.append_nil]
    have e2 : b = xs.length + 1 := hbk
    subst e2
    exact ⟨has_nth has' 0 rfl, has_nth has' 1 rfl, has_nth has' 2 rfl, has_nth has' 3 rfl, has_nth has' 4 rfl, has_nth has' 5 rfl, has_nth has' 6 rfl, has_nth has' 7 rfl, has_nth has' 8 rfl, trivial⟩
  | k + 1, b, ee, es, ef, x0, hbk, hes => by
    have hb : b ≤ xs.length := ar186 hbk
    have heE : hEnds xs W ls b (k + 1) = (bif ls.any fun s => fitB xs s b W then [b] else []) ++ hEnds xs W ls (b + 1) k := by
      rw [hEnds, List.range'_succ, List.filter_cons]
      cases h : (ls.any fun s => fitB xs s b W) <;> rfl
    intro A h g d tk os R room hi hB has hlo nd hR
    have own9 : ∀ x ∈ [sl, L, L + 1, L + 2, L + 3, hl, r, en, it], OwnA fz x := own_ads (pre := hfE P sl se r er hl eh en ee tw L it s0 s1 b (k + 1 : Nat) W (intA xs xf) (natA ls lf) ys (natA es ef) x0) hlo
    refine for_turn ?_
    rw [fPyNext_eq]
    refine run_opt (o.f0 P sl se r er hl eh en ee tw L it s0 s1 b (k + 1 : Nat) W (intA xs xf) (natA ls lf) ys (natA es ef) x0 _ _) (rl room) hi hB has hlo nd ⟨con_bi bi_rnext (con_rnext_item (ar97)), fun v1 n1 tk1 q1 q2 h1 g1 hi1 hB1 hs1 has1' hk1 => ?_⟩
    have hs1' : h1.objs.size = n1 := hs1
    have ek : (((k + 1 : Nat) : Int) - 1) = (k : Nat) := ar89
    have eb : ((b : Int) + 1) = ((b + 1 : Nat) : Int) := ar88
    rw [ek, eb] at has1'
    show wpAny _ _ (letOwnedTupleGo _ _ _) _ _ ⟨_, _, d, _, os⟩
    rw [o.own P]
    refine wpAny_pure ?_
    rw [fAssign_eq]
    refine run_unit (o.f1 P sl se r er hl eh en ee tw L it s0 s1 (b + 1 : Nat) (k : Nat) W (intA xs xf) (natA ls lf) ys (natA es ef) x0 (v1 0) b _ _) (rl room) hi1 hB1 has1' (own_by own9) nd fun h2 g2 hi2 hB2 hs2 has2' hk2 => ?_
    have hs2' : h2.objs.size = h1.objs.size := hs2
    have k2 := keep_trans hk1 hk2
    show wpAny _ _ (execs (forQ (hFor K P)).body _) _ _ ⟨_, _, d, _, os⟩
    rw [show execs (forQ (hFor K P)).body (envC K P 206 L) = execs [ifNe (ifQ (hIf K P))] (envC K P 206 L) from by rw [o.body P]]
    refine wpAny_execs_cons (wpAny_If (wpAny_isTrue_Compare1 ?_ (o.mark P)))
    rw [fEval_eq]
    refine run_val (o.f2 P sl se r er hl eh en ee tw L it s0 s1 (b + 1 : Nat) (k : Nat) W (intA xs xf) (natA ls lf) ys (natA es ef) (v1 0) b ls.length (hAcc (fun a => fitB xs a b W) lf 0 ls #[]) (hLast lf 0 ls .none) _ _) (rl room) hi2 hB2 has2' (own_by own9) nd
      ⟨con_bi bi_getitem (con_getlast (by rfl) rfl), fun v3 n3 tk3 q4 q5 => ⟨con_hcomp o.hc hv (ar81 hn) hb hl2 hne, fun v4 n4 tk4 q7 q8 h3 g3 hi3 hB3 hs3 has3' hk3 => ?_⟩⟩
    have hs3' : h3.objs.size = n4 := hs3
    have sub9 : ∀ x ∈ [sl, L, L + 1, L + 2, L + 3, hl, r, en, it], x ∈ [sl, L, L + 1, L + 2, L + 3, hl, r, en, it] ∨ h.objs.size ≤ x := fun x hx => .inl hx
    have k3 := keep_trans k2 hk3
    have hq3 : h.objs.size ≤ n3 + 1 := ar187 q1 q4 hs1' hs2'
    have own10 : ∀ x ∈ [sl, L, L + 1, L + 2, L + 3, hl, r, en, it, n3 + 1], OwnA fz x := own_app (l := [sl, L, L + 1, L + 2, L + 3, hl, r, en, it]) own9 (own_cons ((WI K P fz).big h hi _ hq3) (fun _ z => nomatch z))
    have nd10 : [sl, L, L + 1, L + 2, L + 3, hl, r, en, it, n3 + 1].Nodup := nd_snoc (l := [sl, L, L + 1, L + 2, L + 3, hl, r, en, it]) nd (fun x hx => Nat.lt_of_lt_of_le (lt_of_has has x hx) hq3)
    refine run_val (o.f3 P sl se r er hl eh en ee tw L it s0 s1 (b + 1 : Nat) (k : Nat) W (intA xs xf) (natA ls lf) ys (natA es ef) (v1 0) b (n3 + 1) (v4 0) (hAcc (fun a => fitB xs a b W) lf 0 ls #[]) _ _) (rl room) hi3 hB3 has3' (own_by own10) nd10
      fun h4 g4 hi4 hB4 hs4 has4' hk4 => ?_
    have hs4' : h4.objs.size = h3.objs.size + 1 := hs4
    have k4 := keep_then k3 hk4 (fun x hx => by
      rcases List.mem_append.mp (show x ∈ [sl, L, L + 1, L + 2, L + 3, hl, r, en, it] ++ [n3 + 1] from hx) with hx | hx
      · exact .inl hx
      · exact .inr (by rw [List.mem_singleton.mp hx]; exact hq3))
    have hu4 : A.units < cLine := by have := room.2.2; exact ar188 this
    have ha : h4.get? (n3 + 1) = some (lisO (hAcc (fun a => fitB xs a b W) lf 0 ls #[]) (v4 0)) := has_nth has4' 9 rfl
    have hz : h4.get? (h3.objs.size + 0) = some (lisO #[] 0) := has_nth has4' 10 rfl
    have has4 : Has h4 (hfE P sl se r er hl eh en ee tw L it s0 s1 (b + 1 : Nat) (k : Nat) W (intA xs xf) (natA ls lf) ys (natA es ef) (some (.int (b : Int) (v1 0)))) := fun p hp => has4' p (List.mem_append_left [(_, _), (_, _)] hp)
    have fin : ∀ (e2 : Nat) (es2 : List Nat) (ef2 : Nat → Nat) (h5 : Heap) (g5 : Array GenState) (tk5 : Nat), es ++ hEnds xs W ls b (k + 1) = es2 ++ hEnds xs W ls (b + 1) k → es2.length ≤ b + 1 → inv K P fz h5 → AllBare g5 →
        Has h5 (hfE P sl se r er hl eh en e2 tw L it s0 s1 (b + 1 : Nat) (k : Nat) W (intA xs xf) (natA ls lf) ys (natA es2 ef2) (some (.int (b : Int) (v1 0)))) → h.objs.size ≤ h5.objs.size → Keep (WI K P fz) h h5 [sl, L, L + 1, L + 2, L + 3, hl, r, en, it] →
        codeAny (model prg ⟨dr, P⟩) A (hfCode K P it L) R ⟨h5, g5, d, tk5, os⟩ := fun e2 es2 ef2 h5 g5 tk5 e1 hl5 hi5 hB5 has5 hs5 hk5 => by
      refine con_hfor o hv hn hl2 hne hys k (b + 1) e2 es2 ef2 (some (.int (b : Int) (v1 0))) (ar189 hbk) hl5 A h5 g5 d tk5 os R room hi5 hB5 has5 (own_by own9) nd fun v h6 g6 tk6 hi6 hB6 hs6 hz6 hn6 hk6 => ?_
      refine hR (fun i => if i = 1 then (if k = 0 then v1 0 else v 1) else v i) h6 g6 tk6 hi6 hB6 (Nat.le_trans hs5 hs6) ?_ newOk0 (keep_trans hk5 hk6)
      have ec : hEndC (k + 1) x0 xs.length (if k = 0 then v1 0 else v 1) = hEndC k (some (.int (b : Int) (v1 0))) xs.length (v 1) := by
        unfold hEndC
        by_cases hk0 : k = 0
        · have : b = xs.length := ar190 hbk hk0
          simp [hk0, this]
        · simp [hk0]
      show HasZ h6 _ [_, _, _, _, celO (hEndC (k + 1) x0 xs.length (if k = 0 then v1 0 else v 1)), _, _, lisO (natA (es ++ hEnds xs W ls b (k + 1)) fun i => if i + 10 = 1 then _ else v (i + 10)) _, _]
      rw [ec, e1]
      exact hasZ_same (pre' := hfE P sl se r er hl eh en e2 tw L it s0 s1 (b + 1 : Nat) (k : Nat) W (intA xs xf) (natA ls lf) ys (natA es2 ef2) (some (.int (b : Int) (v1 0)))) rfl rfl hz6
    cases hT : ls.any fun s => fitB xs s b W
    · have hsz0 : (hAcc (fun a => fitB xs a b W) lf 0 ls #[]).size = 0 := by
        have := hAcc_any (fun a => fitB xs a b W) lf ls
        rw [hT] at this
        simpa using this
      refine EqBoolInt.of_rcne (SeqAt.RcNeAt.lists (e := fun _ => true) ⟨_, ha, rfl, _, rfl⟩ ⟨_, hz, rfl, _, rfl⟩ (by rw [hsz0]; rfl) hu4 (fun j h1 _ => by rw [hsz0] at h1; exact absurd h1 (Nat.not_lt_zero _))) ?_
      have eb : (!(List.range (hAcc (fun a => fitB xs a b W) lf 0 ls #[]).size).all fun _ => true) = false := by rw [hsz0]; rfl
      rw [eb]
      refine wpAny_truthy_bool ?_
      show wpAny _ _ (execs _ _) _ _ ⟨_, _, d, _, os⟩
      rw [o.iels P]
      refine wpAny_execs_nil ?_
      show wpAny _ _ (execs [] _) _ _ ⟨_, _, d, _, os⟩
      refine wpAny_execs_nil ?_
      exact fin ee es ef h4 g4 _ (by rw [heE, hT]; rfl) (ar180 hes) hi4 hB4 has4 (ar191 q7 hs3' hs4' hq3) k4
    · refine EqBoolInt.of_rcne (SeqAt.RcNeAt.lists_lengths ⟨_, ha, rfl, _, rfl⟩ ⟨_, hz, rfl, _, rfl⟩ (by rw [← hT]; exact hAcc_any (fun a => fitB xs a b W) lf ls) hu4) ?_
      refine wpAny_truthy_bool ?_
      show wpAny _ _ (execs _ _) _ _ ⟨_, _, d, _, os⟩
      rw [fExecs_eq]
      refine run_flow (o.f4 P sl se r er hl eh en ee tw L it s0 s1 (b + 1 : Nat) (k : Nat) W (intA xs xf) (natA ls lf) ys (natA es ef) (v1 0) b _ _) (rl room) hi4 hB4 has4 (own_by own9) nd
        ⟨con_bi bi_append (con_append (by rw [natA_size]; exact Nat.le_trans (show es.length ≤ 1000 by exact ar192 hn hes hb) (by decide))), fun v5 n5 tk5 z1 z2 h5 g5 hi5 hB5 hs5 has5' hk5 => ?_⟩
      have hs5' : h5.objs.size = n5 := hs5
      rw [natA_push] at has5'
      show wpAny _ _ (fExecs [] _) _ _ ⟨_, _, d, _, os⟩
      rw [← fExecs_eq]
      refine wpAny_execs_nil ?_
      exact fin (ee + 1) (es ++ [b]) _ h5 g5 _ (by rw [heE, hT, List.append_assoc]; rfl) (by simp; omega) hi5 hB5 has5' (ar193 z1 q7 hs3' hs5' hs4' hq3) (keep_trans k4 hk5)
end
section
variable {K : Params → KT} [ok : Nonempty (KOk K)] {P : Params} {dr : Source → Nat → Nat} {fz : List Ent}
theorem con_contains {l : Addr} {ls : List Nat} {f : Nat → Nat} {e x t : Nat} :
    CON K P dr fz (.builtin "list.__contains__" ⟨[.ref l, .int (x : Int) t], []⟩) [(l, lisO (natA ls f) e)] 0 0 (fun _ => ⟨.ok (.ret (.bool (ls.contains x))), [], []⟩) :=
  con_builtin (by decide +kernel) F.entry_list_contains fun A h g dr' tk os R room hi hB has r hR => by
    have hl : h.get? l = some (lisO (natA ls f) e) := has0 has
    refine SeqAt.list_containsAt l (natA ls f) e none #[] (.int (x : Int) t) (fun y => match y with | .int i _ => i == (x : Int) | _ => false) prg ⟨dr, P⟩ A R ⟨h, g, dr', tk, os⟩ ⟨hl, fun y hy => ?_, ?_⟩
    · obtain ⟨i, hi1, hi2⟩ := Array.mem_iff_getElem.mp hy
      have := natA_get ls f i
      rw [Array.getElem?_eq_getElem hi1, hi2] at this
      cases h1 : ls[i]? with
      | none => rw [h1] at this; cases this
      | some z =>
        rw [h1] at this
        have e1 : y = .int (z : Int) (f i) := by injection this
        rw [e1]
        exact SeqAt.EqAt.int_int _ _ _ _
    · have e1 : ((natA ls f).any fun y => match y with | .int i _ => i == (x : Int) | _ => false) = ls.contains x := by
        rw [Bool.eq_iff_iff, Array.any_eq_true, List.contains_iff_mem]
        constructor
        · rintro ⟨i, hi1, hi2⟩
          have h1 := natA_get ls f i
          rw [Array.getElem?_eq_getElem hi1] at h1
          have hi3 : i < ls.length := by rw [natA_size] at hi1; exact hi1
          rw [List.getElem?_eq_getElem hi3] at h1
          have e1 : (natA ls f)[i] = .int ((ls[i] : Nat) : Int) (f i) := by injection h1
          rw [e1] at hi2
          have : ls[i] = x := by have z : ((ls[i] : Nat) : Int) = (x : Int) := by simpa using hi2
                                 exact ar194 z
          rw [← this]; exact List.getElem_mem hi3
        · intro hm
          obtain ⟨i, hi3, hx⟩ := List.mem_iff_getElem.mp hm
          have hi1 : i < (natA ls f).size := by rw [natA_size]; exact hi3
          refine ⟨i, hi1, ?_⟩
          have h1 := natA_get ls f i
          rw [Array.getElem?_eq_getElem hi1, List.getElem?_eq_getElem hi3] at h1
          have e1 : (natA ls f)[i] = .int ((ls[i] : Nat) : Int) (f i) := by injection h1
          rw [e1, hx]
          simp
      have z := hR (fun _ => 0) h tk _ _ _ r ⟨hl, trivial⟩ ⟨by simp, by simp⟩
      rw [e1]
      exact z
theorem con_lenL {l : Addr} {xs : Array Value} {e : Nat} (hfit : xs.size ≤ 100000) :
    CON K P dr fz (.call (.builtin "len") ⟨[.ref l], []⟩) [(l, lisO xs e)] 5 20 (fun v => ⟨.ok (.ret (.int xs.size (v 0))), [], []⟩) := by
  intro A h g d tk os R room hi hB has hlo nd hR
  have ho : h.get? l = some (lisO xs e) := has0 has
  have hl : (⟨h, g, d, tk, os⟩ : Shared).heap.IsList l xs := ⟨_, ho, rfl, e, rfl⟩
  refine code_function PySem.kind_len PySem.plain_len PySem.entry_len (PySem.args_len1 _) ?_
  unfold Builtin.«len»
  refine wpAny_bind (m := oneArg "len" _) (wpAny_pure ?_)
  refine wpAny_bind (m := callSpecial? (.ref l) (Str.ofString "__len__")) (wpAny_callSpecial?_slot (name := Str.ofString "__len__") hl.typeIs PySem.slot_list_len
    (wpAny_call_entry PySem.slot_list_len hl.typeIs PySem.entry_list_len ?_ (PySem.args_list_len _)))
  show wpAny _ _ (do retInt (← seqSize l)) _ _ _
  unfold seqSize
  refine wpAny_bind (wpAny_bind (wpAny_load ho ?_))
  refine wpAny_pure (wpAny_bind (wpAny_mkInt (wpAny_pure ⟨_, rfl, ?_⟩)))
  refine wpAny_bind (wpAny_holding (wpAny_pure ?_))
  refine wpAny_bind (wpAny_letGo ?_)
  show wpAny _ _ (if ((xs.size : Nat) : Int) < 0 then _ else _) _ _ _
  rw [if_neg (ar153)]
  show wpAny _ _ (if ((xs.size : Nat) : Int) ≥ 2 ^ 63 then _ else _) _ _ _
  rw [if_neg (ar195 hfit)]
  exact wpAny_bind (wpAny_mkInt (wpAny_pure (hR (fun _ => tk + 1) h g _ hi hB (Nat.le_refl _) ⟨ho, trivial⟩ newOk0 (fun b o e _ _ => e))))
end
noncomputable def rowTok (v : Nat → Nat) (j i : Nat) : Nat := v (4 * (1024 * j + i) + 3)
noncomputable def rowEnt (v : Nat → Nat) (j : Nat) (row : List Nat) : Ent := (v (4 * j + 1), lisO (natA row (rowTok v j)) (v (4 * j + 2)))
noncomputable def rowsEnt (v : Nat → Nat) : Nat → List (List Nat) → List Ent
  | _, [] => []
  | j, row :: l => rowEnt v j row :: rowsEnt v (j + 1) l
noncomputable def rowRefs (v : Nat → Nat) : Nat → List (List Nat) → List Value
  | _, [] => []
  | j, _ :: l => .ref (v (4 * j + 1)) :: rowRefs v (j + 1) l
noncomputable def vCons (c c2 a e : Nat) (t v : Nat → Nat) (k : Nat) : Nat :=
  if k % 4 = 0 then (if k = 4 then c else if k = 8 then c2 else v k) else if k % 4 = 1 then (if k / 4 = 0 then a else v (k - 4)) else if k % 4 = 2 then (if k / 4 = 0 then e else v (k - 4)) else if k / 4 < 1024 then t (k / 4) else v (k - 4096)
theorem vCons_0 (c c2 a e : Nat) (t v : Nat → Nat) : vCons c c2 a e t v (4 * 0) = v (4 * 0) := rfl
theorem vCons_4 (c c2 a e : Nat) (t v : Nat → Nat) : vCons c c2 a e t v (4 * 1) = c := rfl
theorem vCons_8 (c c2 a e : Nat) (t v : Nat → Nat) : vCons c c2 a e t v (4 * 2) = c2 := rfl
theorem vCons_a0 (c c2 a e : Nat) (t v : Nat → Nat) : vCons c c2 a e t v (4 * 0 + 1) = a := rfl
theorem vCons_e0 (c c2 a e : Nat) (t v : Nat → Nat) : vCons c c2 a e t v (4 * 0 + 2) = e := rfl
theorem vCons_a (c c2 a e : Nat) (t v : Nat → Nat) (j : Nat) : vCons c c2 a e t v (4 * (j + 1) + 1) = v (4 * j + 1) := by
  unfold vCons
  rw [if_neg (ar196), if_pos (ar197), if_neg (ar198)]
  congr 1
theorem vCons_e (c c2 a e : Nat) (t v : Nat → Nat) (j : Nat) : vCons c c2 a e t v (4 * (j + 1) + 2) = v (4 * j + 2) := by
  unfold vCons
  rw [if_neg (ar199), if_neg (ar200), if_pos (ar201), if_neg (ar202)]
  congr 1
theorem vCons_t0 (c c2 a e : Nat) (t v : Nat → Nat) {i : Nat} (hi : i < 1024) : rowTok (vCons c c2 a e t v) 0 i = t i := by
  unfold rowTok vCons
  rw [if_neg (ar203), if_neg (ar204), if_neg (ar205), if_pos (ar206 hi)]
  congr 1
  exact ar207
theorem vCons_t (c c2 a e : Nat) (t v : Nat → Nat) (j i : Nat) : rowTok (vCons c c2 a e t v) (j + 1) i = rowTok v j i := by
  unfold rowTok vCons
  rw [if_neg (ar208), if_neg (ar209), if_neg (ar210), if_neg (ar211)]
  congr 1
  exact ar212
theorem natA_congr {l : List Nat} {f g : Nat → Nat} (h : ∀ i, i < l.length → f i = g i) : natA l f = natA l g := by
  apply Array.ext'
  apply List.ext_getElem?
  intro i
  rw [Array.getElem?_toList, Array.getElem?_toList, natA_get, natA_get]
  by_cases hi : i < l.length
  · rw [List.getElem?_eq_getElem hi, h i hi]
  · rw [List.getElem?_eq_none (ar120 hi)]; rfl
theorem rowsEnt_cons (c c2 a e : Nat) (t v : Nat → Nat) : ∀ (l : List (List Nat)) (j : Nat), rowsEnt (vCons c c2 a e t v) (j + 1) l = rowsEnt v j l
  | [], _ => rfl
  | row :: l, j => by
    have e2 : rowTok (vCons c c2 a e t v) (j + 1) = rowTok v j := funext fun i => vCons_t c c2 a e t v j i
    rw [rowsEnt, rowsEnt, rowsEnt_cons c c2 a e t v l (j + 1), rowEnt, rowEnt, vCons_a, vCons_e, e2]
theorem rowRefs_cons (c c2 a e : Nat) (t v : Nat → Nat) : ∀ (l : List (List Nat)) (j : Nat), rowRefs (vCons c c2 a e t v) (j + 1) l = rowRefs v j l
  | [], _ => rfl
  | row :: l, j => by
    rw [rowRefs, rowRefs, rowRefs_cons c c2 a e t v l (j + 1), vCons_a]
theorem rowEnt_0 (c c2 a e : Nat) (t v : Nat → Nat) {row : List Nat} (hr : row.length ≤ 1024) : rowEnt (vCons c c2 a e t v) 0 row = (a, lisO (natA row t) e) := by
  rw [rowEnt, natA_congr (f := rowTok (vCons c c2 a e t v) 0) (g := t) fun i hi => vCons_t0 c c2 a e t v (Nat.lt_of_lt_of_le hi hr)]
  rfl
noncomputable def headsL (xs : List Int) (W : Int) : Nat → List Nat → List (List Nat)
  | 0, _ => []
  | f + 1, ls => bif ls.contains xs.length then [] else hEnds xs W ls 1 xs.length :: headsL xs W f (hEnds xs W ls 1 xs.length)
noncomputable def sc_hwA (K : Params → KT) (P : Params) (sl se r er hl eh tw L s0 : Nat) (n : Int) (W : Int) (ss ls ys : Array Value) (x0 : Option Value) (EE : (Nat → Nat) → Array Value) (XX : (Nat → Nat) → Option Value) (N tk : Nat) : Sc :=
  sS [0, 0, 5] (.call (.builtin "len") ⟨[.ref sl], []⟩) [0] [(sl, lisO ss se)] 5 20 (fun v1 => ⟨.ok (.ret (.int n (v1 0))), [], []⟩) 0 fun v1 n1 tk1 =>
  sS [4, 8, 8, 8] (.call (.builtin "list.__getitem__") ⟨[.ref hl, .int (-1) (tk1 + 1)], []⟩) [5] [(hl, lisO (ys.push (.ref r)) eh)] 0 0 (fun v2 => ⟨.ok (.ret (.ref r)), [], []⟩) 0 fun v2 n2 tk2 =>
  sS [9, 9] (.call (.builtin "list.__contains__") ⟨[.ref r, .int n (v1 0)], []⟩) [6] [(r, lisO ls er)] 0 0 (fun v3 => ⟨.ok (.ret (.bool false)), [], []⟩) 0 fun v3 n3 tk3 =>
  sS [4, 4, 0, 0, 0, 0, 5] (.call (.builtin "len") ⟨[.ref sl], []⟩) [0] [(sl, lisO ss se)] 5 20 (fun v4 => ⟨.ok (.ret (.int n (v4 0))), [], []⟩) 1 fun v4 n4 tk4 =>
  sS [11, 11, 11, 11, 11, 11] (.call (.builtin "range.__iter__") ⟨[.ref (n4 + 0)], []⟩) [8] [(n4 + 0, rngO 1 (tk3 + 1) (n + 1) (tk4 + 1) 1 (tk4 + 2))] 0 0 (fun v5 => ⟨.ok (.ret (.ref (v5 0))), [], [(v5 0, ritO 1 n 1)]⟩) 1 fun v5 n5 tk5 =>
  sS [12] (.forLoop (forQ (hFor K P)).target (.ref (v5 0)) (forQ (hFor K P)).body (forQ (hFor K P)).els (envC K P 206 L)) [0, 1, 2, 3, 4, 5, 6, 7, 9] [(sl, lisO ss se), (L, frmO #[dEnt P "heads" s0 (.ref hl), dEnt P "ends" (tk3 + 0) (.ref (n3 + 0))] 2), ((L + 1), celO (some (.ref sl))), ((L + 2), celO (some (.int W tw))), ((L + 3), celO (x0)), (hl, lisO (ys.push (.ref r)) eh), (r, lisO ls er), (n3 + 0, lisO #[] 0), ((v5 0), ritO 1 n 1)] 80 330 (fun v6 => ⟨.ok .next, [lisO ss se, frmO #[dEnt P "heads" s0 (.ref hl), dEnt P "ends" (tk3 + 0) (.ref (n3 + 0))] 2, celO (some (.ref sl)), celO (some (.int W tw)), celO (XX v6), lisO (ys.push (.ref r)) eh, lisO ls er, lisO (EE v6) (v6 0), ritO (n + 1) 0 1], []⟩) 0 fun v6 n6 tk6 =>
  sS [4, 8, 8, 8, 8, 4] (.call (.builtin "list.append") ⟨[.ref hl, .ref (n3 + 0)], []⟩) [5] [(hl, lisO (ys.push (.ref r)) eh)] 0 0 (fun v7 => ⟨.ok (.ret .none), [lisO ((ys.push (.ref r)).push (.ref (n3 + 0))) (eh + 1)], []⟩) 0 fun v7 n7 tk7 =>
  sG [] (.whileLoop (whTest (stmtOf K P 206 1)) (whBody (stmtOf K P 206 1)) (whEls (stmtOf K P 206 1)) (envC K P 206 L)) [0, 1, 2, 3, 4, 5, 7, 6] [(sl, lisO ss se), (L, frmO #[dEnt P "heads" s0 (.ref hl), dEnt P "ends" (tk3 + 0) (.ref (n3 + 0))] 2), ((L + 1), celO (some (.ref sl))), ((L + 2), celO (some (.int W tw))), ((L + 3), celO (XX v6)), (hl, lisO ((ys.push (.ref r)).push (.ref (n3 + 0))) (eh + 1)), (n3 + 0, lisO (EE v6) (v6 0)), (r, lisO ls er)] 0 0
noncomputable def ok_hwA (K : Params → KT) : Prop := ∀ P sl se r er hl eh tw L s0 n W ss ls ys x0 EE XX N tk,
  RunsTo K P 100 400 4000 (.whileLoop (whTest (stmtOf K P 206 1)) (whBody (stmtOf K P 206 1)) (whEls (stmtOf K P 206 1)) (envC K P 206 L)) [(sl, lisO ss se), (L, frmO #[dEnt P "heads" s0 (.ref hl)] 1), ((L + 1), celO (some (.ref sl))), ((L + 2), celO (some (.int W tw))), ((L + 3), celO (x0)), (hl, lisO (ys.push (.ref r)) eh), (r, lisO ls er)] N tk (sc_hwA K P sl se r er hl eh tw L s0 n W ss ls ys x0 EE XX N tk)
noncomputable def sc_hwB (K : Params → KT) (P : Params) (sl se r er hl eh tw L s0 : Nat) (n : Int) (W : Int) (ss ls ys : Array Value) (x0 : Option Value) (EE : (Nat → Nat) → Array Value) (XX : (Nat → Nat) → Option Value) (s1 en0 : Nat) (N tk : Nat) : Sc :=
  sS [0, 0, 5] (.call (.builtin "len") ⟨[.ref sl], []⟩) [0] [(sl, lisO ss se)] 5 20 (fun v1 => ⟨.ok (.ret (.int n (v1 0))), [], []⟩) 0 fun v1 n1 tk1 =>
  sS [4, 8, 8, 8] (.call (.builtin "list.__getitem__") ⟨[.ref hl, .int (-1) (tk1 + 1)], []⟩) [5] [(hl, lisO (ys.push (.ref r)) eh)] 0 0 (fun v2 => ⟨.ok (.ret (.ref r)), [], []⟩) 0 fun v2 n2 tk2 =>
  sS [9, 9] (.call (.builtin "list.__contains__") ⟨[.ref r, .int n (v1 0)], []⟩) [6] [(r, lisO ls er)] 0 0 (fun v3 => ⟨.ok (.ret (.bool false)), [], []⟩) 0 fun v3 n3 tk3 =>
  sS [4, 4, 0, 0, 0, 0, 5] (.call (.builtin "len") ⟨[.ref sl], []⟩) [0] [(sl, lisO ss se)] 5 20 (fun v4 => ⟨.ok (.ret (.int n (v4 0))), [], []⟩) 1 fun v4 n4 tk4 =>
  sS [11, 11, 11, 11, 11, 11] (.call (.builtin "range.__iter__") ⟨[.ref (n4 + 0)], []⟩) [8] [(n4 + 0, rngO 1 (tk3 + 1) (n + 1) (tk4 + 1) 1 (tk4 + 2))] 0 0 (fun v5 => ⟨.ok (.ret (.ref (v5 0))), [], [(v5 0, ritO 1 n 1)]⟩) 1 fun v5 n5 tk5 =>
  sS [12] (.forLoop (forQ (hFor K P)).target (.ref (v5 0)) (forQ (hFor K P)).body (forQ (hFor K P)).els (envC K P 206 L)) [0, 1, 2, 3, 4, 5, 6, 7, 9] [(sl, lisO ss se), (L, frmO #[dEnt P "heads" s0 (.ref hl), dEnt P "ends" s1 (.ref (n3 + 0))] 2), ((L + 1), celO (some (.ref sl))), ((L + 2), celO (some (.int W tw))), ((L + 3), celO (x0)), (hl, lisO (ys.push (.ref r)) eh), (r, lisO ls er), (n3 + 0, lisO #[] 0), ((v5 0), ritO 1 n 1)] 80 330 (fun v6 => ⟨.ok .next, [lisO ss se, frmO #[dEnt P "heads" s0 (.ref hl), dEnt P "ends" s1 (.ref (n3 + 0))] 2, celO (some (.ref sl)), celO (some (.int W tw)), celO (XX v6), lisO (ys.push (.ref r)) eh, lisO ls er, lisO (EE v6) (v6 0), ritO (n + 1) 0 1], []⟩) 0 fun v6 n6 tk6 =>
  sS [4, 8, 8, 8, 8, 4] (.call (.builtin "list.append") ⟨[.ref hl, .ref (n3 + 0)], []⟩) [5] [(hl, lisO (ys.push (.ref r)) eh)] 0 0 (fun v7 => ⟨.ok (.ret .none), [lisO ((ys.push (.ref r)).push (.ref (n3 + 0))) (eh + 1)], []⟩) 0 fun v7 n7 tk7 =>
  sG [] (.whileLoop (whTest (stmtOf K P 206 1)) (whBody (stmtOf K P 206 1)) (whEls (stmtOf K P 206 1)) (envC K P 206 L)) [0, 1, 2, 3, 4, 5, 7, 6] [(sl, lisO ss se), (L, frmO #[dEnt P "heads" s0 (.ref hl), dEnt P "ends" s1 (.ref (n3 + 0))] 2), ((L + 1), celO (some (.ref sl))), ((L + 2), celO (some (.int W tw))), ((L + 3), celO (XX v6)), (hl, lisO ((ys.push (.ref r)).push (.ref (n3 + 0))) (eh + 1)), (n3 + 0, lisO (EE v6) (v6 0)), (r, lisO ls er)] 0 0
noncomputable def ok_hwB (K : Params → KT) : Prop := ∀ P sl se r er hl eh tw L s0 n W ss ls ys x0 EE XX s1 en0 N tk,
  RunsTo K P 100 400 4000 (.whileLoop (whTest (stmtOf K P 206 1)) (whBody (stmtOf K P 206 1)) (whEls (stmtOf K P 206 1)) (envC K P 206 L)) [(sl, lisO ss se), (L, frmO #[dEnt P "heads" s0 (.ref hl), dEnt P "ends" s1 (.ref (en0))] 2), ((L + 1), celO (some (.ref sl))), ((L + 2), celO (some (.int W tw))), ((L + 3), celO (x0)), (hl, lisO (ys.push (.ref r)) eh), (r, lisO ls er)] N tk (sc_hwB K P sl se r er hl eh tw L s0 n W ss ls ys x0 EE XX s1 en0 N tk)
noncomputable def sc_hwE (K : Params → KT) (P : Params) (sl se r er hl eh tw L s0 : Nat) (n : Int) (W : Int) (ss ls ys : Array Value) (x0 : Option Value) (s1 en0 : Nat) (N tk : Nat) : Sc :=
  sS [0, 0, 5] (.call (.builtin "len") ⟨[.ref sl], []⟩) [0] [(sl, lisO ss se)] 5 20 (fun v1 => ⟨.ok (.ret (.int n (v1 0))), [], []⟩) 0 fun v1 n1 tk1 =>
  sS [4, 8, 8, 8] (.call (.builtin "list.__getitem__") ⟨[.ref hl, .int (-1) (tk1 + 1)], []⟩) [5] [(hl, lisO (ys.push (.ref r)) eh)] 0 0 (fun v2 => ⟨.ok (.ret (.ref r)), [], []⟩) 0 fun v2 n2 tk2 =>
  sS [9, 9] (.call (.builtin "list.__contains__") ⟨[.ref r, .int n (v1 0)], []⟩) [6] [(r, lisO ls er)] 0 0 (fun v3 => ⟨.ok (.ret (.bool true)), [], []⟩) 0 fun v3 n3 tk3 =>
  sF [] (.ok .next) [0, 1, 2, 3, 4, 5, 6] [(sl, lisO ss se), (L, frmO #[dEnt P "heads" s0 (.ref hl), dEnt P "ends" s1 (.ref (en0))] 2), ((L + 1), celO (some (.ref sl))), ((L + 2), celO (some (.int W tw))), ((L + 3), celO (x0)), (hl, lisO (ys.push (.ref r)) eh), (r, lisO ls er)] 0 0
noncomputable def ok_hwE (K : Params → KT) : Prop := ∀ P sl se r er hl eh tw L s0 n W ss ls ys x0 s1 en0 N tk,
  RunsTo K P 100 400 4000 (.whileLoop (whTest (stmtOf K P 206 1)) (whBody (stmtOf K P 206 1)) (whEls (stmtOf K P 206 1)) (envC K P 206 L)) [(sl, lisO ss se), (L, frmO #[dEnt P "heads" s0 (.ref hl), dEnt P "ends" s1 (.ref (en0))] 2), ((L + 1), celO (some (.ref sl))), ((L + 2), celO (some (.int W tw))), ((L + 3), celO (x0)), (hl, lisO (ys.push (.ref r)) eh), (r, lisO ls er)] N tk (sc_hwE K P sl se r er hl eh tw L s0 n W ss ls ys x0 s1 en0 N tk)
noncomputable def sc_heads (K : Params → KT) (P : Params) (sl se tw : Nat) (W : Int) (ss : Array Value) (EX : (Nat → Nat) → Nat) (CX : (Nat → Nat) → Option Value) (HX : (Nat → Nat) → Array Value) (NEWS : (Nat → Nat) → List Ent) (N tk : Nat) : Sc :=
  sS [0, 0, 5, 5, 6, 6, 1, 4, 4] (.whileLoop (whTest (stmtOf K P 206 1)) (whBody (stmtOf K P 206 1)) (whEls (stmtOf K P 206 1)) (envC K P 206 N)) [0, 1, 2, 3, 4, 6, 5] [(sl, lisO ss se), (N, frmO #[dEnt P "heads" (tk + 1) (.ref (N + 5))] 1), (N + 1, celO (some (.ref sl))), (N + 2, celO (some (.int W tw))), (N + 3, celO none), (N + 5, lisO ((#[] : Array Value).push (.ref (N + 4))) 0), (N + 4, lisO #[.int 0 (tk + 0)] 0)] 100 400 (fun v1 => ⟨.ok .next, [lisO ss se, frmO #[dEnt P "heads" (tk + 1) (.ref (N + 5)), dEnt P "ends" (v1 8) (.ref (EX v1))] 2, celO (some (.ref sl)), celO (some (.int W tw)), celO (CX v1), lisO (HX v1) (v1 0), lisO #[.int 0 (tk + 0)] 0], NEWS v1⟩) 6 fun v1 n1 tk1 =>
  sH [4] (.ok (.ret (.ref (N + 5)))) (app [(sl, lisO ss se), (N, frmO #[dEnt P "heads" (tk + 1) (.ref (N + 5)), dEnt P "ends" (v1 8) (.ref (EX v1))] 2), (N + 1, celO (some (.ref sl))), (N + 2, celO (some (.int W tw))), (N + 3, celO (CX v1)), (N + 4, lisO #[.int 0 (tk + 0)] 0), (N + 5, lisO (HX v1) (v1 0))] (NEWS v1)) 0 0
noncomputable def ok_heads (K : Params → KT) : Prop := ∀ P sl se tw W ss EX CX HX NEWS N tk,
  RunsTo K P 120 450 4000 (.call (.ref 206) ⟨[.ref sl, .int W tw], []⟩) [(sl, lisO ss se)] N tk (sc_heads K P sl se tw W ss EX CX HX NEWS N tk)
structure OkHd (K : Params → KT) : Prop where
  f : OkHf K
  a : ok_hwA K
  b : ok_hwB K
  e : ok_hwE K
  s : ok_heads K
noncomputable abbrev hwE (P : Params) (sl se r er hl eh tw L : Nat) (W : Int) (ss ls ys : Array Value) (x : Option Value) (fr : Obj) : List Ent :=
  [(sl, lisO ss se), (L, fr), (L + 1, celO (some (.ref sl))), (L + 2, celO (some (.int W tw))), (L + 3, celO x), (hl, lisO (ys.push (.ref r)) eh), (r, lisO ls er)]
noncomputable abbrev frH1 (P : Params) (s0 hl : Nat) : Obj := frmO #[dEnt P "heads" s0 (.ref hl)] 1
noncomputable abbrev frH2 (P : Params) (s0 hl s1 en : Nat) : Obj := frmO #[dEnt P "heads" s0 (.ref hl), dEnt P "ends" s1 (.ref en)] 2
noncomputable abbrev hwCode (K : Params → KT) (P : Params) (L : Nat) : Code := .whileLoop (whTest (stmtOf K P 206 1)) (whBody (stmtOf K P 206 1)) (whEls (stmtOf K P 206 1)) (envC K P 206 L)
noncomputable def hwEn (v : Nat → Nat) (en : Nat) (rows : List (List Nat)) : Nat := if rows.length = 0 then en else v (4 * (rows.length - 1) + 1)
noncomputable def hwX (v : Nat → Nat) (x0 : Option Value) (n : Nat) (rows : List (List Nat)) : Option Value := if rows.length = 0 then x0 else some (.int (n : Int) (v (4 * 1)))
theorem hEnds_next {xs : List Int} {W : Int} {ls : List Nat} {m : Nat} (hm : m ∈ ls) (h : m + 1 ≤ xs.length) : m + 1 ∈ hEnds xs W ls 1 xs.length := by
  refine List.mem_filter.mpr ⟨List.mem_range'_1.mpr ⟨ar213, ar214 h⟩, List.any_eq_true.mpr ⟨m, hm, ?_⟩⟩
  unfold fitB
  have : (((m + 1 : Nat) : Int) - (m : Int) == 1) = true := by simp; exact ar215
  rw [this]
  rfl
theorem hEnds_len (xs : List Int) (W : Int) (ls : List Nat) : (hEnds xs W ls 1 xs.length).length ≤ xs.length := by
  have := List.length_filter_le (fun e => ls.any fun s => fitB xs s e W) (List.range' 1 xs.length)
  rw [List.length_range'] at this
  exact this
theorem natA_nil (f : Nat → Nat) : natA [] f = #[] := Array.eq_empty_of_size_eq_zero (natA_size [] f)
theorem size_cast (xs : List Int) (f : Nat → Nat) : (((intA xs f).size : Nat) : Int) = (xs.length : Int) := by rw [intA_size]
section
variable {K : Params → KT} [ok : Nonempty (KOk K)] {P : Params} {dr : Source → Nat → Nat} {fz : List Ent}
theorem con_lenI {l : Nat} {xs : List Int} {f : Nat → Nat} {e : Nat} (h : xs.length ≤ 100000) : CON K P dr fz (.call (.builtin "len") ⟨[.ref l], []⟩) [(l, lisO (intA xs f) e)] 5 20 (fun v => ⟨.ok (.ret (.int (xs.length : Int) (v 0))), [], []⟩) := by
  have z := con_lenL (K := K) (P := P) (dr := dr) (fz := fz) (l := l) (xs := intA xs f) (e := e) (by rw [intA_size]; exact h)
  rw [size_cast] at z
  exact z
theorem con_rangeN {rg n ta tb tc : Nat} (h : n ≤ 100000) : CON K P dr fz (.call (.builtin "range.__iter__") ⟨[.ref rg], []⟩) [(rg, rngO 1 ta ((n : Int) + 1) tb 1 tc)] 0 0 (fun v => ⟨.ok (.ret (.ref (v 0))), [], [(v 0, ritO 1 n 1)]⟩) :=
  con_bi bi_riter (con_riter (by unfold Builtin.Range.rangeSize; simp; exact ar216) (ar217) (ar218 h) (.inl rfl) (ar219 h))
theorem hw_rest {sl se tw L hl s0 : Nat} {W : Int} {xs : List Int} {xf : Nat → Nat} (hp : 0 < xs.length) {f : Nat}
    (ih : ∀ (ls : List Nat) (lf : Nat → Nat) (r er eh s1 en : Nat) (ys : Array Value) (x0 : Option Value), f ≤ xs.length → xs.length - f ∈ ls → ls.length ≤ 1000 → ys.size + f ≤ 950 →
      CON K P dr fz (hwCode K P L) (hwE P sl se r er hl eh tw L W (intA xs xf) (natA ls lf) ys x0 (frH2 P s0 hl s1 en)) 100 400
        (fun v => ⟨.ok .next, [lisO (intA xs xf) se, frH2 P s0 hl s1 (hwEn v en (headsL xs W f ls)), celO (some (.ref sl)), celO (some (.int W tw)), celO (hwX v x0 xs.length (headsL xs W f ls)), lisO (ys.push (.ref r) ++ (rowRefs v 0 (headsL xs W f ls)).toArray) (v (4 * 0)), lisO (natA ls lf) er],
          rowsEnt v 0 (headsL xs W f ls)⟩))
    {ls : List Nat} {lf : Nat → Nat} {r er eh s1 en n3 : Nat} {v6 : Nat → Nat} {ys : Array Value} {x0 : Option Value} {fr : Obj} (hf : f ≤ xs.length) (hm' : xs.length - f ∈ hEnds xs W ls 1 xs.length) (hl3 : (hEnds xs W ls 1 xs.length).length ≤ 1000) (hl3' : (hEnds xs W ls 1 xs.length).length ≤ 1024) (hys : ys.size + (f + 1) ≤ 950)
    {A : Around} {h h' : Heap} {g' : Array GenState} {d : Drawn} {tk' : Nat} {os : OsState} {R : Result → Shared → Prop} (room : Room A 100 400) (hi : inv K P fz h)
    (has : Has h (hwE P sl se r er hl eh tw L W (intA xs xf) (natA ls lf) ys x0 fr)) (hlo : ∀ p ∈ hwE P sl se r er hl eh tw L W (intA xs xf) (natA ls lf) ys x0 fr, OwnA fz p.1) (nd : [sl, L, L + 1, L + 2, L + 3, hl, r].Nodup)
    (hi' : inv K P fz h') (hB' : AllBare g') (hsh : h.objs.size ≤ h'.objs.size) (hr' : h.objs.size ≤ n3 + 0)
    (has' : Has h' (hwE P sl se (n3 + 0) (v6 0) hl (eh + 1) tw L W (intA xs xf) (natA (hEnds xs W ls 1 xs.length) (fun i => v6 (i + 10))) (ys.push (.ref r)) (hEndC xs.length x0 xs.length (v6 1)) (frH2 P s0 hl s1 (n3 + 0)) ++ [(r, lisO (natA ls lf) er)]))
    (hk' : Keep (WI K P fz) h h' [sl, L, L + 1, L + 2, L + 3, hl, r])
    (hR : ∀ (v : Nat → Nat) (h2 : Heap) (g2 : Array GenState) (tk2 : Nat), inv K P fz h2 → AllBare g2 → h.objs.size ≤ h2.objs.size →
      HasZ h2 (hwE P sl se r er hl eh tw L W (intA xs xf) (natA ls lf) ys x0 fr) [lisO (intA xs xf) se, frH2 P s0 hl (v (4 * 2)) (hwEn v en (hEnds xs W ls 1 xs.length :: headsL xs W f (hEnds xs W ls 1 xs.length))), celO (some (.ref sl)), celO (some (.int W tw)), celO (hwX v x0 xs.length (hEnds xs W ls 1 xs.length :: headsL xs W f (hEnds xs W ls 1 xs.length))), lisO (ys.push (.ref r) ++ (rowRefs v 0 (hEnds xs W ls 1 xs.length :: headsL xs W f (hEnds xs W ls 1 xs.length))).toArray) (v (4 * 0)), lisO (natA ls lf) er] →
      v (4 * 2) = s1 → NewOk h h2 (rowsEnt v 0 (hEnds xs W ls 1 xs.length :: headsL xs W f (hEnds xs W ls 1 xs.length))) → Keep (WI K P fz) h h2 [sl, L, L + 1, L + 2, L + 3, hl, r] → R (.ok .next) ⟨h2, g2, d, tk2, os⟩) :
    codeAny (model prg ⟨dr, P⟩) A (hwCode K P L) R ⟨h', g', d, tk', os⟩ := by
  have own7 : ∀ x ∈ [sl, L, L + 1, L + 2, L + 3, hl, r], OwnA fz x := own_ads (pre := hwE P sl se r er hl eh tw L W (intA xs xf) (natA ls lf) ys x0 fr) hlo
  have nd7 : [sl, L, L + 1, L + 2, L + 3, hl, r].Nodup := nd
  have nd6 : [sl, L, L + 1, L + 2, L + 3, hl].Nodup := by
    have z : ([sl, L, L + 1, L + 2, L + 3, hl] ++ [r]).Nodup := nd7
    rw [List.nodup_append] at z
    exact z.1
  have lt6 : ∀ x ∈ [sl, L, L + 1, L + 2, L + 3, hl], x < n3 + 0 := fun x hx => Nat.lt_of_lt_of_le (lt_of_has has x (List.mem_append_left [r] hx)) hr'
  have nd7' : [sl, L, L + 1, L + 2, L + 3, hl, n3 + 0].Nodup := nd_snoc (l := [sl, L, L + 1, L + 2, L + 3, hl]) nd6 lt6
  have own7' : ∀ x ∈ [sl, L, L + 1, L + 2, L + 3, hl, n3 + 0], OwnA fz x := own_app (l := [sl, L, L + 1, L + 2, L + 3, hl]) (fun x hx => own7 x (List.mem_append_left [r] hx)) (own_cons ((WI K P fz).big h hi _ hr') (fun _ z => nomatch z))
  have hasP : Has h' (hwE P sl se (n3 + 0) (v6 0) hl (eh + 1) tw L W (intA xs xf) (natA (hEnds xs W ls 1 xs.length) (fun i => v6 (i + 10))) (ys.push (.ref r)) (hEndC xs.length x0 xs.length (v6 1)) (frH2 P s0 hl s1 (n3 + 0))) := fun p hp => has' p (List.mem_append_left [_] hp)
  refine ih (hEnds xs W ls 1 xs.length) (fun i => v6 (i + 10)) (n3 + 0) (v6 0) (eh + 1) s1 (n3 + 0) (ys.push (.ref r)) (hEndC xs.length x0 xs.length (v6 1)) hf hm' hl3 (by rw [Array.size_push]; exact ar220 hys)
    A h' g' d tk' os R room hi' hB' hasP (own_by own7') nd7' fun v h2 g2 tk2 hi2 hB2 hs3 hz hn2 hk2 => ?_
  have hrO : OwnA fz r := own7 r (List.mem_append_right [sl, L, L + 1, L + 2, L + 3, hl] List.mem_cons_self)
  have hr0 : r < h.objs.size := lt_of_has has r (List.mem_append_right [sl, L, L + 1, L + 2, L + 3, hl] List.mem_cons_self)
  have hrn : r ∉ [sl, L, L + 1, L + 2, L + 3, hl, n3 + 0] := fun hm2 => by
    rcases List.mem_append.mp (show r ∈ [sl, L, L + 1, L + 2, L + 3, hl] ++ [n3 + 0] from hm2) with hm2 | hm2
    · have z : ([sl, L, L + 1, L + 2, L + 3, hl] ++ [r]).Nodup := nd7
      rw [List.nodup_append] at z
      exact z.2.2 r hm2 r List.mem_cons_self rfl
    · exact Nat.ne_of_lt (Nat.lt_of_lt_of_le hr0 hr') (List.mem_singleton.mp hm2)
  have hr2 : h2.get? r = some (lisO (natA ls lf) er) := hk2 r _ (has_nth has' 7 rfl) hrn (fun hm2 => (WI K P fz).tlo _ hm2 hrO)
  have hsz : h.objs.size ≤ h2.objs.size := Nat.le_trans (hsh) hs3
  have hk3 : Keep (WI K P fz) h h2 [sl, L, L + 1, L + 2, L + 3, hl, r] := keep_then hk' hk2 (fun x hx => by
    rcases List.mem_append.mp (show x ∈ [sl, L, L + 1, L + 2, L + 3, hl] ++ [n3 + 0] from hx) with hx | hx
    · exact .inl (List.mem_append_left [r] hx)
    · exact .inr (by rw [List.mem_singleton.mp hx]; exact hr'))
  have e1 := rowsEnt_cons (if (headsL xs W f (hEnds xs W ls 1 xs.length)).length = 0 then v6 1 else v (4 * 1)) s1 (n3 + 0) (v6 0) (fun i => v6 (i + 10)) v (headsL xs W f (hEnds xs W ls 1 xs.length)) 0
  have e2 := rowRefs_cons (if (headsL xs W f (hEnds xs W ls 1 xs.length)).length = 0 then v6 1 else v (4 * 1)) s1 (n3 + 0) (v6 0) (fun i => v6 (i + 10)) v (headsL xs W f (hEnds xs W ls 1 xs.length)) 0
  have e3 := rowEnt_0 (if (headsL xs W f (hEnds xs W ls 1 xs.length)).length = 0 then v6 1 else v (4 * 1)) s1 (n3 + 0) (v6 0) (fun i => v6 (i + 10)) v (row := hEnds xs W ls 1 xs.length) hl3'
  refine hR (vCons (if (headsL xs W f (hEnds xs W ls 1 xs.length)).length = 0 then v6 1 else v (4 * 1)) s1 (n3 + 0) (v6 0) (fun i => v6 (i + 10)) v) h2 g2 tk2 hi2 hB2 hsz ⟨hz.1, ?_, hz.2.2.1, hz.2.2.2.1, ?_, ?_, hr2, trivial⟩ rfl ⟨?_, ?_⟩ hk3
  · have z := hz.2.1
    have e4 : hwEn (vCons (if (headsL xs W f (hEnds xs W ls 1 xs.length)).length = 0 then v6 1 else v (4 * 1)) s1 (n3 + 0) (v6 0) (fun i => v6 (i + 10)) v) en (hEnds xs W ls 1 xs.length :: headsL xs W f (hEnds xs W ls 1 xs.length)) = hwEn v (n3 + 0) (headsL xs W f (hEnds xs W ls 1 xs.length)) := by
      unfold hwEn
      rw [if_neg (by simp), List.length_cons]
      by_cases h0 : (headsL xs W f (hEnds xs W ls 1 xs.length)).length = 0
      · rw [if_pos h0, h0]; rfl
      · rw [if_neg h0]
        obtain ⟨k, hk⟩ : ∃ k, (headsL xs W f (hEnds xs W ls 1 xs.length)).length = k + 1 := ⟨_, (Nat.succ_pred h0).symm⟩
        rw [hk]
        exact vCons_a _ _ _ _ _ _ k
    rw [e4]; exact z
  · have z := hz.2.2.2.2.1
    have e4 : hwX (vCons (if (headsL xs W f (hEnds xs W ls 1 xs.length)).length = 0 then v6 1 else v (4 * 1)) s1 (n3 + 0) (v6 0) (fun i => v6 (i + 10)) v) x0 xs.length (hEnds xs W ls 1 xs.length :: headsL xs W f (hEnds xs W ls 1 xs.length)) = hwX v (hEndC xs.length x0 xs.length (v6 1)) xs.length (headsL xs W f (hEnds xs W ls 1 xs.length)) := by
      unfold hwX hEndC
      rw [if_neg (by simp), vCons_4]
      split
      · rw [if_neg (ar221 hp)]
      · rfl
    rw [e4]; exact z
  · have z := hz.2.2.2.2.2.1
    rw [show rowRefs (vCons (if (headsL xs W f (hEnds xs W ls 1 xs.length)).length = 0 then v6 1 else v (4 * 1)) s1 (n3 + 0) (v6 0) (fun i => v6 (i + 10)) v) 0 (hEnds xs W ls 1 xs.length :: headsL xs W f (hEnds xs W ls 1 xs.length)) = .ref (n3 + 0) :: rowRefs v 0 (headsL xs W f (hEnds xs W ls 1 xs.length)) from by rw [rowRefs, e2]; rfl, vCons_0]
    have e5 : (ys.push (.ref r) ++ (Value.ref (n3 + 0) :: rowRefs v 0 (headsL xs W f (hEnds xs W ls 1 xs.length))).toArray) = ((ys.push (.ref r)).push (.ref (n3 + 0)) ++ (rowRefs v 0 (headsL xs W f (hEnds xs W ls 1 xs.length))).toArray) := by
      apply Array.ext'; simp
    rw [e5]; exact z
  · intro p hp
    replace hp : p ∈ rowsEnt (vCons (if (headsL xs W f (hEnds xs W ls 1 xs.length)).length = 0 then v6 1 else v (4 * 1)) s1 (n3 + 0) (v6 0) (fun i => v6 (i + 10)) v) 0 (hEnds xs W ls 1 xs.length :: headsL xs W f (hEnds xs W ls 1 xs.length)) := hp
    rw [show rowsEnt (vCons (if (headsL xs W f (hEnds xs W ls 1 xs.length)).length = 0 then v6 1 else v (4 * 1)) s1 (n3 + 0) (v6 0) (fun i => v6 (i + 10)) v) 0 (hEnds xs W ls 1 xs.length :: headsL xs W f (hEnds xs W ls 1 xs.length)) = (n3 + 0, lisO (natA (hEnds xs W ls 1 xs.length) fun i => v6 (i + 10)) (v6 0)) :: rowsEnt v 0 (headsL xs W f (hEnds xs W ls 1 xs.length)) from by rw [rowsEnt, e1, e3]] at hp
    rcases List.mem_cons.mp hp with rfl | hp
    · exact ⟨hr', hz.2.2.2.2.2.2.1⟩
    · exact ⟨Nat.le_trans (hsh) (hn2.1 p hp).1, (hn2.1 p hp).2⟩
  · show ((rowsEnt (vCons (if (headsL xs W f (hEnds xs W ls 1 xs.length)).length = 0 then v6 1 else v (4 * 1)) s1 (n3 + 0) (v6 0) (fun i => v6 (i + 10)) v) 0 (hEnds xs W ls 1 xs.length :: headsL xs W f (hEnds xs W ls 1 xs.length))).map (·.1)).Nodup
    rw [show rowsEnt (vCons (if (headsL xs W f (hEnds xs W ls 1 xs.length)).length = 0 then v6 1 else v (4 * 1)) s1 (n3 + 0) (v6 0) (fun i => v6 (i + 10)) v) 0 (hEnds xs W ls 1 xs.length :: headsL xs W f (hEnds xs W ls 1 xs.length)) = (n3 + 0, lisO (natA (hEnds xs W ls 1 xs.length) fun i => v6 (i + 10)) (v6 0)) :: rowsEnt v 0 (headsL xs W f (hEnds xs W ls 1 xs.length)) from by rw [rowsEnt, e1, e3], List.map_cons, List.nodup_cons]
    refine ⟨fun hm2 => ?_, hn2.2⟩
    obtain ⟨p, hp, e⟩ := List.mem_map.mp hm2
    have z1 : h'.objs.size ≤ p.1 := (hn2.1 p hp).1
    have z2 : n3 + 0 < h'.objs.size := Heap.lt_size (has_nth has' 6 rfl)
    have z3 : p.1 = n3 + 0 := e
    exact absurd z1 (Nat.not_le_of_lt (by rw [z3]; exact z2))
theorem con_hwhile (o : OkHd K) {sl se tw L hl s0 : Nat} {W : Int} {xs : List Int} {xf : Nat → Nat} (hv : ∀ x ∈ xs, 0 ≤ x ∧ x ≤ 100000) (hn : xs.length ≤ 900) (hp : 0 < xs.length) :
    ∀ (f : Nat) (ls : List Nat) (lf : Nat → Nat) (r er eh s1 en : Nat) (ys : Array Value) (x0 : Option Value), f ≤ xs.length → xs.length - f ∈ ls → ls.length ≤ 1000 → ys.size + f ≤ 950 →
      CON K P dr fz (hwCode K P L) (hwE P sl se r er hl eh tw L W (intA xs xf) (natA ls lf) ys x0 (frH2 P s0 hl s1 en)) 100 400
        (fun v => ⟨.ok .next, [lisO (intA xs xf) se, frH2 P s0 hl s1 (hwEn v en (headsL xs W f ls)), celO (some (.ref sl)), celO (some (.int W tw)), celO (hwX v x0 xs.length (headsL xs W f ls)), lisO (ys.push (.ref r) ++ (rowRefs v 0 (headsL xs W f ls)).toArray) (v (4 * 0)), lisO (natA ls lf) er],
          rowsEnt v 0 (headsL xs W f ls)⟩) := by
  intro f
  have done : ∀ (f : Nat) (ls : List Nat) (lf : Nat → Nat) (r er eh s1 en : Nat) (ys : Array Value) (x0 : Option Value), headsL xs W f ls = [] → ls.contains xs.length = true →
      CON K P dr fz (hwCode K P L) (hwE P sl se r er hl eh tw L W (intA xs xf) (natA ls lf) ys x0 (frH2 P s0 hl s1 en)) 100 400
        (fun v => ⟨.ok .next, [lisO (intA xs xf) se, frH2 P s0 hl s1 (hwEn v en (headsL xs W f ls)), celO (some (.ref sl)), celO (some (.int W tw)), celO (hwX v x0 xs.length (headsL xs W f ls)), lisO (ys.push (.ref r) ++ (rowRefs v 0 (headsL xs W f ls)).toArray) (v (4 * 0)), lisO (natA ls lf) er],
          rowsEnt v 0 (headsL xs W f ls)⟩) := by
    intro f ls lf r er eh s1 en ys x0 he hc
    rw [he]
    refine con_by (fun N tk => o.e P sl se r er hl eh tw L s0 xs.length W (intA xs xf) (natA ls lf) ys x0 s1 en N tk) fun A h d tk os R room hi hlt hlo nd hR => ?_
    have zc := fun t => con_contains (K := K) (P := P) (dr := dr) (fz := fz) (l := r) (ls := ls) (f := lf) (e := er) (x := xs.length) (t := t)
    simp only [hc] at zc
    refine ⟨con_lenI (ar73 hn), fun v1 n1 tk1 q1 q2 => ⟨con_bi bi_getitem (con_getlast rfl rfl), fun v2 n2 tk2 q4 q5 => ⟨con_bi bi_contains (zc _), fun v3 n3 tk3 q7 q8 h' g' hi' hB' hs' has' hk' => ?_⟩⟩⟩
    have hs2 : h'.objs.size = n3 := by simpa using hs'
    refine hR (fun _ => eh) h' g' _ hi' hB' (ar98 q1 q4 q7 hs2) ⟨has_nth has' 0 rfl, has_nth has' 1 rfl, has_nth has' 2 rfl, has_nth has' 3 rfl, has_nth has' 4 rfl, ?_, has_nth has' 6 rfl, trivial⟩ newOk0 hk'
    have z : h'.get? hl = some (lisO (ys.push (.ref r)) eh) := has_nth has' 5 rfl
    simpa [rowRefs] using z
  induction f with
  | zero =>
    intro ls lf r er eh s1 en ys x0 hf hm hl2 hys
    exact done 0 ls lf r er eh s1 en ys x0 rfl (List.contains_iff_mem.mpr hm)
  | succ f ih =>
    intro ls lf r er eh s1 en ys x0 hf hm hl2 hys
    cases hc : ls.contains xs.length with
    | true => exact done (f + 1) ls lf r er eh s1 en ys x0 (by rw [headsL, hc]; rfl) hc
    | false =>
      have hne : ls ≠ [] := fun e => by rw [e] at hm; cases hm
      have hrows : headsL xs W (f + 1) ls = hEnds xs W ls 1 xs.length :: headsL xs W f (hEnds xs W ls 1 xs.length) := by rw [headsL, hc]; rfl
      have hm' : xs.length - f ∈ hEnds xs W ls 1 xs.length := by
        have := hEnds_next (xs := xs) (W := W) hm (ar222 hf)
        rw [show xs.length - (f + 1) + 1 = xs.length - f by exact ar223 hf] at this
        exact this
      have hlen := hEnds_len xs W ls
      rw [hrows]
      intro A h g d tk os R room hi hB has hlo nd hR
      have zc := fun t => con_contains (K := K) (P := P) (dr := dr) (fz := fz) (l := r) (ls := ls) (f := lf) (e := er) (x := xs.length) (t := t)
      simp only [hc] at zc
      have zf : ∀ en' it : Nat, CON K P dr fz (hfCode K P it L) (hfE P sl se r er hl eh en' 0 tw L it s0 s1 1 xs.length W (intA xs xf) (natA ls lf) ys #[] x0) 80 330
          (fun v => ⟨.ok .next, [lisO (intA xs xf) se, frH2 P s0 hl s1 en', celO (some (.ref sl)), celO (some (.int W tw)), celO (hEndC xs.length x0 xs.length (v 1)), lisO (ys.push (.ref r)) eh, lisO (natA ls lf) er,
            lisO (natA (hEnds xs W ls 1 xs.length) (fun i => v (i + 10))) (v 0), ritO ((xs.length : Int) + 1) 0 1], []⟩) := fun en' it => by
        have z := con_hfor (K := K) (P := P) (dr := dr) (fz := fz) o.f (sl := sl) (se := se) (r := r) (er := er) (hl := hl) (eh := eh) (en := en') (tw := tw) (L := L) (it := it) (s0 := s0) (s1 := s1) (W := W) (xf := xf) (lf := lf) hv hn hl2 hne (show ys.size ≤ 1000 by exact ar224 hys) xs.length 1 0 [] (fun _ => 0) x0 (ar225) (by simp)
        rw [natA_nil] at z
        exact z
      refine code_run (o.b P sl se r er hl eh tw L s0 xs.length W (intA xs xf) (natA ls lf) ys x0 (fun v => natA (hEnds xs W ls 1 xs.length) (fun i => v (i + 10))) (fun v => hEndC xs.length x0 xs.length (v 1)) s1 en h.objs.size tk) room hi hB has hlo nd
        ⟨con_lenI (ar73 hn), fun v1 n1 tk1 q1 q2 => ⟨con_bi bi_getitem (con_getlast rfl rfl), fun v2 n2 tk2 q4 q5 => ⟨con_bi bi_contains (zc _), fun v3 n3 tk3 q7 q8 => ⟨con_lenI (ar73 hn), fun v4 n4 tk4 q10 q11 => ⟨con_rangeN (ar73 hn), fun v5 n5 tk5 q13 q14 => ⟨zf _ _, fun v6 n6 tk6 q16 q17 =>
          ⟨con_bi bi_append (con_append (by rw [Array.size_push]; exact Nat.le_trans (show ys.size + 1 ≤ 1000 by exact ar226 hys) (by decide))), fun v7 n7 tk7 q19 q20 h' g' hi' hB' hs' has' hk' => ?_⟩⟩⟩⟩⟩⟩⟩
      have hs2 : h'.objs.size = n7 := by simpa using hs'
      exact hw_rest hp ih (ar35 hf) hm' (ar227 hn hlen) (ar228 hn hlen) hys room hi has hlo nd hi' hB' (ar229 q1 q4 q7 q16 q19 q10 q13 hs2) (ar230 q1 q4 q7) has' hk' fun v h2 g2 tk2 hi2 hB2 hs3 hz e8 hn2 hk2 => by
        rw [e8] at hz
        exact hR v h2 g2 tk2 hi2 hB2 hs3 hz hn2 hk2
end
noncomputable def headsOf (xs : List Int) (W : Int) : List (List Nat) := [0] :: headsL xs W xs.length [0]
section
variable {K : Params → KT} [ok : Nonempty (KOk K)] {P : Params} {dr : Source → Nat → Nat} {fz : List Ent}
theorem con_hw1 (o : OkHd K) {sl se tw L hl s0 r er eh : Nat} {W : Int} {xs : List Int} {xf : Nat → Nat} (hv : ∀ x ∈ xs, 0 ≤ x ∧ x ≤ 100000) (hn : xs.length ≤ 900) (hp : 0 < xs.length) {lf : Nat → Nat} {x0 : Option Value} :
    CON K P dr fz (hwCode K P L) (hwE P sl se r er hl eh tw L W (intA xs xf) (natA [0] lf) #[] x0 (frH1 P s0 hl)) 100 400
        (fun v => ⟨.ok .next, [lisO (intA xs xf) se, frH2 P s0 hl (v 8) (hwEn v 0 (headsL xs W xs.length [0])), celO (some (.ref sl)), celO (some (.int W tw)), celO (hwX v none xs.length (headsL xs W xs.length [0])), lisO ((#[] : Array Value).push (.ref r) ++ (rowRefs v 0 (headsL xs W xs.length [0])).toArray) (v 0), lisO (natA [0] lf) er],
          rowsEnt v 0 (headsL xs W xs.length [0])⟩) := by
  obtain ⟨f, hf⟩ : ∃ f, xs.length = f + 1 := ⟨xs.length - 1, ar59 hp⟩
  have hc : ([0] : List Nat).contains xs.length = false := by
    rw [hf]; simp
  have hrows : headsL xs W xs.length [0] = hEnds xs W [0] 1 xs.length :: headsL xs W f (hEnds xs W [0] 1 xs.length) := by
    conv => lhs; rw [hf, headsL]
    rw [hc]
    rfl
  have hm' : xs.length - f ∈ hEnds xs W [0] 1 xs.length := by
    have := hEnds_next (xs := xs) (W := W) (ls := [0]) (m := 0) (by simp) (ar231 hf)
    rw [show xs.length - f = 0 + 1 by exact ar232 hf]
    exact this
  have hlen := hEnds_len xs W [0]
  rw [hrows]
  intro A h g d tk os R room hi hB has hlo nd hR
  have zc := fun t => con_contains (K := K) (P := P) (dr := dr) (fz := fz) (l := r) (ls := [0]) (f := lf) (e := er) (x := xs.length) (t := t)
  simp only [hc] at zc
  have zf : ∀ en' it s1 : Nat, CON K P dr fz (hfCode K P it L) (hfE P sl se r er hl eh en' 0 tw L it s0 s1 1 xs.length W (intA xs xf) (natA [0] lf) #[] #[] x0) 80 330
      (fun v => ⟨.ok .next, [lisO (intA xs xf) se, frH2 P s0 hl s1 en', celO (some (.ref sl)), celO (some (.int W tw)), celO (hEndC xs.length x0 xs.length (v 1)), lisO ((#[] : Array Value).push (.ref r)) eh, lisO (natA [0] lf) er,
        lisO (natA (hEnds xs W [0] 1 xs.length) (fun i => v (i + 10))) (v 0), ritO ((xs.length : Int) + 1) 0 1], []⟩) := fun en' it s1 => by
    have z := con_hfor (K := K) (P := P) (dr := dr) (fz := fz) o.f (sl := sl) (se := se) (r := r) (er := er) (hl := hl) (eh := eh) (en := en') (tw := tw) (L := L) (it := it) (s0 := s0) (s1 := s1) (W := W) (xf := xf) (lf := lf) (ls := [0]) (ys := #[]) hv hn (by simp) (by simp) (by simp) xs.length 1 0 [] (fun _ => 0) x0 (ar225) (by simp)
    rw [natA_nil] at z
    exact z
  refine code_run (o.a P sl se r er hl eh tw L s0 xs.length W (intA xs xf) (natA [0] lf) #[] x0 (fun v => natA (hEnds xs W [0] 1 xs.length) (fun i => v (i + 10))) (fun v => hEndC xs.length x0 xs.length (v 1)) h.objs.size tk) room hi hB has hlo nd
    ⟨con_lenI (ar73 hn), fun v1 n1 tk1 q1 q2 => ⟨con_bi bi_getitem (con_getlast rfl rfl), fun v2 n2 tk2 q4 q5 => ⟨con_bi bi_contains (zc _), fun v3 n3 tk3 q7 q8 => ⟨con_lenI (ar73 hn), fun v4 n4 tk4 q10 q11 => ⟨con_rangeN (ar73 hn), fun v5 n5 tk5 q13 q14 => ⟨zf _ _ _, fun v6 n6 tk6 q16 q17 =>
      ⟨con_bi bi_append (con_append (show 1 ≤ sizeLine by decide)), fun v7 n7 tk7 q19 q20 h' g' hi' hB' hs' has' hk' => ?_⟩⟩⟩⟩⟩⟩⟩
  have hs2 : h'.objs.size = n7 := by simpa using hs'
  exact hw_rest hp (con_hwhile o hv hn hp f) (ar148 hf) hm' (ar227 hn hlen) (ar228 hn hlen) (by simp; exact ar233 hf hn) room hi has hlo nd hi' hB' (ar229 q1 q4 q7 q16 q19 q10 q13 hs2) (ar230 q1 q4 q7) has' hk' fun v h2 g2 tk2 hi2 hB2 hs3 hz e8 hn2 hk2 =>
    hR v h2 g2 tk2 hi2 hB2 hs3 hz hn2 hk2
theorem natA_zero (f : Nat → Nat) : natA [0] f = #[.int 0 (f 0)] := by
  apply Array.ext'
  apply List.ext_getElem?
  intro i
  rw [Array.getElem?_toList, natA_get]
  cases i with
  | zero => rfl
  | succ i => simp
theorem con_byA {c : Code} {pre : List Ent} {dep un : Nat} {post : (Nat → Nat) → Post} {f : Nat} {x : Nat → Nat → Sc}
    (hrun : ∀ n tk, RunsTo K P dep un f c pre n tk (x n tk))
    (hg : ∀ (A : Around) (h : Heap) (d : Drawn) (tk : Nat) (os : OsState) (R : Result → Shared → Prop), Room A dep un → inv K P fz h → (∀ p ∈ pre, p.1 < h.objs.size) → (∀ p ∈ pre, OwnA fz p.1) → (pre.map (·.1)).Nodup →
      (∀ (v : Nat → Nat) (h' : Heap) (g' : Array GenState) (tk' : Nat), inv K P fz h' → AllBare g' → h.objs.size ≤ h'.objs.size → HasZ h' pre (post v).now → NewOk h h' (post v).news → Keep (WI K P fz) h h' (pre.map (·.1)) → R (post v).res ⟨h', g', d, tk', os⟩) →
      GoodA K P dr fz A R h (pre.map (·.1)) d os ((x h.objs.size tk).2 h.objs.size tk)) : CON K P dr fz c pre dep un post :=
  con_run f (fun n tk => (x n tk).1) (fun n tk => (x n tk).2 n tk) (fun n tk => (hrun n tk).1) (fun n tk => (hrun n tk).2) fun A h d tk os R a1 a2 a3 a4 a5 a6 => goodA (hg A h d tk os R a1 a2 a3 a4 a5 a6)
theorem con_heads (o : OkHd K) {sl se tw : Nat} {W : Int} {xs : List Int} {xf : Nat → Nat} (hv : ∀ x ∈ xs, 0 ≤ x ∧ x ≤ 100000) (hn : xs.length ≤ 900) (hp : 0 < xs.length) :
    CON K P dr fz (.call (.ref 206) ⟨[.ref sl, .int W tw], []⟩) [(sl, lisO (intA xs xf) se)] 120 450
      (fun v => ⟨.ok (.ret (.ref (v 4))), [], (v 4, lisO (rowRefs v 0 (headsOf xs W)).toArray (v 0)) :: rowsEnt v 0 (headsOf xs W)⟩) :=
  con_byA (fun N tk => o.s P sl se tw W (intA xs xf) (fun v => hwEn v 0 (headsL xs W xs.length [0])) (fun v => hwX v none xs.length (headsL xs W xs.length [0])) (fun v => (#[] : Array Value).push (.ref (N + 4)) ++ (rowRefs v 0 (headsL xs W xs.length [0])).toArray) (fun v => rowsEnt v 0 (headsL xs W xs.length [0])) N tk) fun A h d tk os R room hi hlt hlo nd hR => by
    have z := con_hw1 (K := K) (P := P) (dr := dr) (fz := fz) o (sl := sl) (se := se) (tw := tw) (L := h.objs.size) (hl := h.objs.size + 5) (s0 := tk + 1) (r := h.objs.size + 4) (er := 0) (eh := 0) (W := W) (xf := xf) hv hn hp (lf := fun _ => tk + 0) (x0 := none)
    rw [natA_zero] at z
    refine ⟨z, fun v1 n1 tk1 q1 q2 q3 h' g' hi' hB' hs' has' hk' hfine => ?_⟩
    have hs2 : h'.objs.size = n1 := by simpa using hs'
    have e1 := rowsEnt_cons (h.objs.size + 5) 0 (h.objs.size + 4) 0 (fun _ => tk + 0) v1 (headsL xs W xs.length [0]) 0
    have e2 := rowRefs_cons (h.objs.size + 5) 0 (h.objs.size + 4) 0 (fun _ => tk + 0) v1 (headsL xs W xs.length [0]) 0
    have e3 := rowEnt_0 (h.objs.size + 5) 0 (h.objs.size + 4) 0 (fun _ => tk + 0) v1 (row := [0]) (by simp)
    have e4 : rowsEnt (vCons (h.objs.size + 5) 0 (h.objs.size + 4) 0 (fun _ => tk + 0) v1) 0 (headsOf xs W) = (h.objs.size + 4, lisO #[.int 0 (tk + 0)] 0) :: rowsEnt v1 0 (headsL xs W xs.length [0]) := by
      rw [headsOf, rowsEnt, e1, e3, natA_zero]
    have e5 : (rowRefs (vCons (h.objs.size + 5) 0 (h.objs.size + 4) 0 (fun _ => tk + 0) v1) 0 (headsOf xs W)).toArray = (#[] : Array Value).push (.ref (h.objs.size + 4)) ++ (rowRefs v1 0 (headsL xs W xs.length [0])).toArray := by
      rw [headsOf, rowRefs, e2]
      apply Array.ext'
      simp [vCons_a0]
    have hnd : (([(sl, lisO (intA xs xf) se), (h.objs.size, frH2 P (tk + 1) (h.objs.size + 5) (v1 8) (hwEn v1 0 (headsL xs W xs.length [0]))), (h.objs.size + 1, celO (some (.ref sl))), (h.objs.size + 2, celO (some (.int W tw))), (h.objs.size + 3, celO (hwX v1 none xs.length (headsL xs W xs.length [0]))), (h.objs.size + 4, lisO #[.int 0 (tk + 0)] 0), (h.objs.size + 5, lisO ((#[] : Array Value).push (.ref (h.objs.size + 4)) ++ (rowRefs v1 0 (headsL xs W xs.length [0])).toArray) (v1 0))] ++ rowsEnt v1 0 (headsL xs W xs.length [0]) : List Ent).map (·.1)).Nodup := by
      have := hfine.1
      rw [app_eq] at this
      exact this
    rw [app_eq] at has'
    refine hR (vCons (h.objs.size + 5) 0 (h.objs.size + 4) 0 (fun _ => tk + 0) v1) h' g' _ hi' hB' (ar234 q1 hs2) ⟨has' _ (by simp), trivial⟩ ?_ hk'
    show NewOk h h' ((h.objs.size + 5, lisO (rowRefs _ 0 (headsOf xs W)).toArray (v1 0)) :: rowsEnt _ 0 (headsOf xs W))
    rw [e4, e5]
    refine ⟨fun p hp => ?_, ?_⟩
    · rcases List.mem_cons.mp hp with rfl | hp
      · exact ⟨Nat.le_add_right _ _, has' _ (by simp)⟩
      · rcases List.mem_cons.mp hp with rfl | hp
        · exact ⟨Nat.le_add_right _ _, has' _ (by simp)⟩
        · have z2 : h.objs.size + 6 ≤ p.1 := (q2 p hp).1
          exact ⟨ar235 z2, has' _ (List.mem_append_right _ hp)⟩
    · rw [List.map_append, List.nodup_append] at hnd
      rw [List.map_cons, List.map_cons, List.nodup_cons, List.nodup_cons]
      refine ⟨fun hm => ?_, fun hm => ?_, hnd.2.1⟩
      · rcases List.mem_cons.mp hm with e | hm
        · exact Nat.succ_ne_self _ e
        · exact hnd.2.2 _ (by simp) _ hm rfl
      · exact hnd.2.2 _ (by simp) _ hm rfl
end
inductive Loc where
  | a
  | b (s : Nat) (x : Value)
  | c (s : Nat) (x : Value) (s1 : Nat) (x1 : Value) (s2 : Nat) (x2 : Value)
  | d (s : Nat) (x : Value) (s1 : Nat) (x1 : Value) (s2 : Nat) (x2 : Value) (s3 : Nat) (x3 : Value)
noncomputable def Loc.setS (t : Nat) (v : Value) : Loc → Loc
  | .a => .b t v
  | .b s _ => .b s v
  | .c s _ s1 x1 s2 x2 => .c s v s1 x1 s2 x2
  | .d s _ s1 x1 s2 x2 s3 x3 => .d s v s1 x1 s2 x2 s3 x3
noncomputable def Loc.setE (t1 : Nat) (v1 : Value) (t2 : Nat) (v2 : Value) : Loc → Loc
  | .a => .a
  | .b s x => .c s x t1 v1 t2 v2
  | .c s x s1 _ s2 _ => .c s x s1 v1 s2 v2
  | .d s x s1 _ s2 _ s3 x3 => .d s x s1 v1 s2 v2 s3 x3
noncomputable def Loc.setP (t : Nat) (v : Value) : Loc → Loc
  | .a => .a
  | .b s x => .b s x
  | .c s x s1 x1 s2 x2 => .d s x s1 x1 s2 x2 t v
  | .d s x s1 x1 s2 x2 s3 _ => .d s x s1 x1 s2 x2 s3 v
noncomputable def frD (P : Params) (s0 : Nat) (W : Int) (tw s1 hl s2 du : Nat) : Loc → Obj
  | .a => frmO #[dEnt P "width" s0 (.int W tw), dEnt P "heads" s1 (.ref hl), dEnt P "due" s2 (.ref du)] 3
  | .b s x => frmO #[dEnt P "width" s0 (.int W tw), dEnt P "heads" s1 (.ref hl), dEnt P "due" s2 (.ref du), dEnt P "stretches" s x] 4
  | .c s x t1 x1 t2 x2 => frmO #[dEnt P "width" s0 (.int W tw), dEnt P "heads" s1 (.ref hl), dEnt P "due" s2 (.ref du), dEnt P "stretches" s x, dEnt P "start" t1 x1, dEnt P "end" t2 x2] 6
  | .d s x t1 x1 t2 x2 t3 x3 => frmO #[dEnt P "width" s0 (.int W tw), dEnt P "heads" s1 (.ref hl), dEnt P "due" s2 (.ref du), dEnt P "stretches" s x, dEnt P "start" t1 x1, dEnt P "end" t2 x2, dEnt P "place" t3 x3] 7
inductive CL where
  | e
  | s (t : Nat) (x : Value)
  | r (t : Nat) (x : Value) (t2 : Nat) (y : Value)
noncomputable def CL.setA (t : Nat) (v : Value) : CL → CL
  | .e => .s t v
  | .s t0 _ => .s t0 v
  | .r t0 _ t2 y => .r t0 v t2 y
noncomputable def CL.setB (t : Nat) (v : Value) : CL → CL
  | .e => .e
  | .s t0 x => .r t0 x t v
  | .r t0 x t2 _ => .r t0 x t2 v
noncomputable def dicL (P : Params) (a b : String) : CL → Obj
  | .e => dicO #[] 0
  | .s t x => dicO #[dEnt P a t x] 1
  | .r t x t2 y => dicO #[dEnt P a t x, dEnt P b t2 y] 2
noncomputable def dFor (K : Params → KT) (P : Params) : Stmt := stmtOf K P 211 4
noncomputable def dStr (K : Params → KT) (P : Params) : Stmt := subS (forQ (dFor K P)).body 0
noncomputable def dFor2 (K : Params → KT) (P : Params) : Stmt := subS (forQ (dFor K P)).body 1
noncomputable def ifT : Stmt → PySem.Expr
  | .If t _ _ _ => t
  | _ => default
noncomputable def ifB : Stmt → List Stmt
  | .If _ b _ _ => b
  | _ => []
noncomputable def ifE : Stmt → List Stmt
  | .If _ _ e _ => e
  | _ => []
noncomputable def dIf (K : Params → KT) (P : Params) : Stmt := subS (forQ (dFor2 K P)).body 0
noncomputable def dFor3 (K : Params → KT) (P : Params) : Stmt := subS (ifB (dIf K P)) 0
noncomputable def dComp (K : Params → KT) (P : Params) : PySem.Expr := valOf (dStr K P)
noncomputable def dComp0 (K : Params → KT) (P : Params) : PySem.Expr := valOf (stmtOf K P 211 3)
noncomputable def sc_d0 (K : Params → KT) (P : Params) (sl se tw : Nat) (W : Int) (ss : Array Value) (N tk : Nat) : Sc :=
  sG [0, 0, 5, 5, 4, 4, 1] (.func (bodyOf K P 211) (envC K P 211 N)) [0, 1, 2, 3, 4, 5] [(sl, lisO ss se), (N, frmO #[dEnt P "width" (tk + 0) (.int W tw)] 1), (N + 1, celO (some (.ref sl))), (N + 2, celO none), (N + 3, celO none), (N + 4, celO none)] 5 1
noncomputable def ok_d0 (K : Params → KT) : Prop := ∀ P sl se tw W ss N tk,
  RunsTo K P 180 650 4000 (.call (.ref 211) ⟨[.ref sl, .int W tw], []⟩) [(sl, lisO ss se)] N tk (sc_d0 K P sl se tw W ss N tk)
noncomputable def sc_d1 (K : Params → KT) (P : Params) (sl se tw L s0 : Nat) (W : Int) (ss : Array Value) (HR : (Nat → Nat) → Array Value) (NEWS : (Nat → Nat) → List Ent) (N tk : Nat) : Sc :=
  sS [0, 5, 4, 0] (.call (.ref 206) ⟨[.ref sl, .int W tw], []⟩) [0] [(sl, lisO ss se)] 120 450 (fun v1 => ⟨.ok (.ret (.ref (v1 4))), [], (v1 4, lisO (HR v1) (v1 0)) :: NEWS v1⟩) 0 fun v1 n1 tk1 =>
  sH [4, 4] (.ok .next) (app [(sl, lisO ss se), (L, frmO #[dEnt P "width" s0 (.int W tw), dEnt P "heads" (tk1 + 0) (.ref (v1 4))] 2), (L + 1, celO (some (.ref sl))), (L + 2, celO (none)), (L + 3, celO (none)), (L + 4, celO (none)), (v1 4, lisO (HR v1) (v1 0))] (NEWS v1)) 0 1
noncomputable def ok_d1 (K : Params → KT) : Prop := ∀ P sl se tw L s0 W ss HR NEWS N tk,
  RunsA K P 150 550 4000 (fExecs [stmtOf K P 211 0] (envC K P 211 L) >>= flFin) [(sl, lisO ss se), (L, frmO #[dEnt P "width" s0 (.int W tw)] 1), (L + 1, celO (some (.ref sl))), (L + 2, celO (none)), (L + 3, celO (none)), (L + 4, celO (none))] N tk (sc_d1 K P sl se tw L s0 W ss HR NEWS N tk)
noncomputable def sc_d2 (K : Params → KT) (P : Params) (sl se tw L s0 s1 hl he : Nat) (W : Int) (ss hr : Array Value) (RS : Array Value) (TR : (Nat → Nat) → Array Value) (NEWS : (Nat → Nat) → List Ent) (N tk : Nat) : Sc :=
  sS [0, 5, 3, 3, 3] (.call (.builtin "list.__getitem__") ⟨[.ref sl, .ref (N + 0)], []⟩) [0, 7] [(sl, lisO ss se), (N + 0, slcO .none .none (.int (-1) (tk + 1)))] 0 0 (fun v1 => ⟨.ok (.ret (.ref (v1 0))), [], [(v1 0, lisO RS 0)]⟩) 1 fun v1 n1 tk1 =>
  sS [4, 0] (.call (.ref 206) ⟨[.ref (v1 0), .int W tw], []⟩) [8] [(v1 0, lisO RS 0)] 120 450 (fun v2 => ⟨.ok (.ret (.ref (v2 4))), [], (v2 4, lisO (TR v2) (v2 0)) :: NEWS v2⟩) 0 fun v2 n2 tk2 =>
  sH [6, 6] (.ok .next) (app [(sl, lisO ss se), (L, frmO #[dEnt P "width" s0 (.int W tw), dEnt P "heads" s1 (.ref hl)] 2), (L + 1, celO (some (.ref sl))), (L + 2, celO (some (.ref (v2 4)))), (L + 3, celO (none)), (L + 4, celO (none)), (hl, lisO hr he), (N + 0, slcO .none .none (.int (-1) (tk + 1))), (v1 0, lisO RS 0), (v2 4, lisO (TR v2) (v2 0))] (NEWS v2)) 0 0
noncomputable def ok_d2 (K : Params → KT) : Prop := ∀ P sl se tw L s0 s1 hl he W ss hr RS TR NEWS N tk,
  RunsA K P 150 550 4000 (fExecs [stmtOf K P 211 1] (envC K P 211 L) >>= flFin) [(sl, lisO ss se), (L, frmO #[dEnt P "width" s0 (.int W tw), dEnt P "heads" s1 (.ref hl)] 2), (L + 1, celO (some (.ref sl))), (L + 2, celO (none)), (L + 3, celO (none)), (L + 4, celO (none)), (hl, lisO hr he)] N tk (sc_d2 K P sl se tw L s0 s1 hl he W ss hr RS TR NEWS N tk)
noncomputable def sc_dcA (K : Params → KT) (P : Params) (sl se acc eo L C it i : Nat) (ss os : Array Value) (a : Int) (ta : Nat) (N tk : Nat) : Sc :=
  sS [6] (.call (.builtin "list_iterator.__next__") ⟨[.ref it], []⟩) [3, 0] [(it, litO sl i), (sl, lisO ss se)] 0 0 (fun v1 => ⟨.ok (.ret (.int a ta)), [litO sl (i + 1)], []⟩) 0 fun v1 n1 tk1 =>
  sS [5, 5] (.call (.builtin "list.append") ⟨[.ref acc, .ref (n1 + 0)], []⟩) [1] [(acc, lisO os eo)] 0 0 (fun v2 => ⟨.ok (.ret .none), [lisO (os.push (.ref (n1 + 0))) (eo + 1)], []⟩) 1 fun v2 n2 tk2 =>
  sG [] (.compLoop (dComp0 K P) 0 (.ref it) (.ref acc) (compE (dComp0 K P) (envC K P 211 L) C)) [0, 1, 2, 3, 4] [(sl, lisO ss se), (acc, lisO (os.push (.ref (n1 + 0))) (eo + 1)), (C, dicO #[dEnt P "size" (tk1 + 0) (.int a ta)] 1), (it, litO sl (i + 1)), (n1 + 0, lisO #[] 0)] 0 0
noncomputable def ok_dcA (K : Params → KT) : Prop := ∀ P sl se acc eo L C it i ss os a ta N tk,
  RunsTo K P 20 80 4000 (.compLoop (dComp0 K P) 0 (.ref it) (.ref acc) (compE (dComp0 K P) (envC K P 211 L) C)) [(sl, lisO ss se), (acc, lisO os eo), (C, dicO #[] 0), (it, litO sl i)] N tk (sc_dcA K P sl se acc eo L C it i ss os a ta N tk)
noncomputable def sc_dcB (K : Params → KT) (P : Params) (sl se acc eo L C it i : Nat) (ss os : Array Value) (a : Int) (ta : Nat) (s0 : Nat) (x0 : Value) (N tk : Nat) : Sc :=
  sS [6] (.call (.builtin "list_iterator.__next__") ⟨[.ref it], []⟩) [3, 0] [(it, litO sl i), (sl, lisO ss se)] 0 0 (fun v1 => ⟨.ok (.ret (.int a ta)), [litO sl (i + 1)], []⟩) 0 fun v1 n1 tk1 =>
  sS [5, 5] (.call (.builtin "list.append") ⟨[.ref acc, .ref (n1 + 0)], []⟩) [1] [(acc, lisO os eo)] 0 0 (fun v2 => ⟨.ok (.ret .none), [lisO (os.push (.ref (n1 + 0))) (eo + 1)], []⟩) 1 fun v2 n2 tk2 =>
  sG [] (.compLoop (dComp0 K P) 0 (.ref it) (.ref acc) (compE (dComp0 K P) (envC K P 211 L) C)) [0, 1, 2, 3, 4] [(sl, lisO ss se), (acc, lisO (os.push (.ref (n1 + 0))) (eo + 1)), (C, dicO #[dEnt P "size" s0 (.int a ta)] 1), (it, litO sl (i + 1)), (n1 + 0, lisO #[] 0)] 0 0
noncomputable def ok_dcB (K : Params → KT) : Prop := ∀ P sl se acc eo L C it i ss os a ta s0 x0 N tk,
  RunsTo K P 20 80 4000 (.compLoop (dComp0 K P) 0 (.ref it) (.ref acc) (compE (dComp0 K P) (envC K P 211 L) C)) [(sl, lisO ss se), (acc, lisO os eo), (C, dicO #[dEnt P "size" s0 x0] 1), (it, litO sl i)] N tk (sc_dcB K P sl se acc eo L C it i ss os a ta s0 x0 N tk)
noncomputable def sc_dcE (K : Params → KT) (P : Params) (sl se acc eo L C it i : Nat) (ss os : Array Value) (s0 : Nat) (x0 : Value) (N tk : Nat) : Sc :=
  sS [6] (.call (.builtin "list_iterator.__next__") ⟨[.ref it], []⟩) [3, 0] [(it, litO sl i), (sl, lisO ss se)] 0 0 (fun v1 => ⟨.error (.ref (v1 0)), [⟨.type "list_iterator", none, .fields #[.none, .int i 0], #[]⟩], [(v1 0, excStop (v1 1))]⟩) 0 fun v1 n1 tk1 =>
  sF [7] (.ok .next) [0, 1, 2, 3] [(sl, lisO ss se), (acc, lisO os eo), (C, dicO #[dEnt P "size" s0 x0] 1), (it, ⟨.type "list_iterator", none, .fields #[.none, .int i 0], #[]⟩)] 0 0
noncomputable def ok_dcE (K : Params → KT) : Prop := ∀ P sl se acc eo L C it i ss os s0 x0 N tk,
  RunsTo K P 20 80 4000 (.compLoop (dComp0 K P) 0 (.ref it) (.ref acc) (compE (dComp0 K P) (envC K P 211 L) C)) [(sl, lisO ss se), (acc, lisO os eo), (C, dicO #[dEnt P "size" s0 x0] 1), (it, litO sl i)] N tk (sc_dcE K P sl se acc eo L C it i ss os s0 x0 N tk)
noncomputable def sc_dcS (K : Params → KT) (P : Params) (sl se acc eo L C it i : Nat) (ss os : Array Value) (N tk : Nat) : Sc :=
  sG (bif P.followText "comprehension-iter-twice" then [] else [6, 6, 6, 6]) (.compLoop (dComp0 K P) 0 (.ref it) (.ref acc) (compE (dComp0 K P) (envC K P 211 L) C)) [0, 1, 2, 3] [(sl, lisO ss se), (acc, lisO os eo), (C, dicO #[] 0), (it, litO sl i)] 0 0
noncomputable def ok_dcS (K : Params → KT) : Prop := ∀ P sl se acc eo L C it i ss os N tk,
  RunsTo K P 20 80 4000 (.compStart (dComp0 K P) 0 (.ref it) (.ref acc) (compE (dComp0 K P) (envC K P 211 L) C)) [(sl, lisO ss se), (acc, lisO os eo), (C, dicO #[] 0), (it, litO sl i)] N tk (sc_dcS K P sl se acc eo L C it i ss os N tk)
noncomputable def sc_d3a (K : Params → KT) (P : Params) (sl se tw L s0 s1 hl he tl te : Nat) (W c : Int) (ss hr tr : Array Value) (N tk : Nat) : Sc :=
  sS [0, 0, 4] (.call (.builtin "len") ⟨[.ref hl], []⟩) [6] [(hl, lisO hr he)] 5 20 (fun v1 => ⟨.ok (.ret (.int c (v1 0))), [], []⟩) 0 fun v1 n1 tk1 =>
  sF [7, 7] (.ok .next) [0, 1, 2, 3, 4, 5, 6, 7] [(sl, lisO ss se), (L, frmO #[dEnt P "width" s0 (.int W tw), dEnt P "heads" s1 (.ref hl)] 2), (L + 1, celO (some (.ref sl))), (L + 2, celO (some (.ref tl))), (L + 3, celO (some (.int (c - 1) (tk1 + 1)))), (L + 4, celO (none)), (hl, lisO hr he), (tl, lisO tr te)] 0 2
noncomputable def ok_d3a (K : Params → KT) : Prop := ∀ P sl se tw L s0 s1 hl he tl te W c ss hr tr N tk,
  RunsA K P 40 150 4000 (fExecs [stmtOf K P 211 2] (envC K P 211 L) >>= flFin) [(sl, lisO ss se), (L, frmO #[dEnt P "width" s0 (.int W tw), dEnt P "heads" s1 (.ref hl)] 2), (L + 1, celO (some (.ref sl))), (L + 2, celO (some (.ref tl))), (L + 3, celO (none)), (L + 4, celO (none)), (hl, lisO hr he), (tl, lisO tr te)] N tk (sc_d3a K P sl se tw L s0 s1 hl he tl te W c ss hr tr N tk)
noncomputable def sc_d3 (K : Params → KT) (P : Params) (sl se tw L s0 s1 hl he tl te tc nl : Nat) (W c : Int) (ss hr tr : Array Value) (DR : (Nat → Nat) → Array Value) (DX : Value) (NEWS : (Nat → Nat) → List Ent) (N tk : Nat) : Sc :=
  sS [5, 3, 3, 3, 11] (.compStart (dComp0 K P) 0 (.ref (N + 0)) (.ref (N + 1)) (compE (dComp0 K P) (envC K P 211 L) (N + 2))) [0, 9, 10, 8] [(sl, lisO ss se), (N + 1, lisO #[] 0), (N + 2, dicO #[] 0), (N + 0, litO sl 0)] 30 120 (fun v1 => ⟨.ok .next, [lisO ss se, lisO (DR v1) (v1 0), dicO #[dEnt P "size" (v1 4) DX] 1, lendO nl], NEWS v1⟩) 3 fun v1 n1 tk1 =>
  sH [4, 4, 13, 13, 13] (.ok .next) (app [(sl, lisO ss se), (L, frmO #[dEnt P "width" s0 (.int W tw), dEnt P "heads" s1 (.ref hl), dEnt P "due" (tk1 + 0) (.ref (N + 1))] 3), (L + 1, celO (some (.ref sl))), (L + 2, celO (some (.ref tl))), (L + 3, celO (some (.int c tc))), (L + 4, celO (none)), (hl, lisO hr he), (tl, lisO tr te), (N + 0, lendO nl), (N + 1, lisO (DR v1) (v1 0)), (N + 2, dicO #[] 2)] (NEWS v1)) 0 1
noncomputable def ok_d3 (K : Params → KT) : Prop := ∀ P sl se tw L s0 s1 hl he tl te tc nl W c ss hr tr DR DX NEWS N tk,
  RunsA K P 40 150 4000 (fExecs [stmtOf K P 211 3] (envC K P 211 L) >>= flFin) [(sl, lisO ss se), (L, frmO #[dEnt P "width" s0 (.int W tw), dEnt P "heads" s1 (.ref hl)] 2), (L + 1, celO (some (.ref sl))), (L + 2, celO (some (.ref tl))), (L + 3, celO (some (.int c tc))), (L + 4, celO (none)), (hl, lisO hr he), (tl, lisO tr te)] N tk (sc_d3 K P sl se tw L s0 s1 hl he tl te tc nl W c ss hr tr DR DX NEWS N tk)
structure OkDc (K : Params → KT) : Prop where
  a : ok_dcA K
  b : ok_dcB K
  e : ok_dcE K
  s : ok_dcS K
noncomputable def dLast (xs : List Int) (xf : Nat → Nat) (m : Nat) (x0 : Value) : Value := if m = 0 then x0 else .int (xs.getD (xs.length - 1) 0) (xf (xs.length - 1))
noncomputable abbrev dcE (sl se acc eo C it i : Nat) (ss os : Array Value) (dc : Obj) : List Ent := [(sl, lisO ss se), (acc, lisO os eo), (C, dc), (it, litO sl i)]
noncomputable abbrev dcCode (K : Params → KT) (P : Params) (it acc L C : Nat) : Code := .compLoop (dComp0 K P) 0 (.ref it) (.ref acc) (compE (dComp0 K P) (envC K P 211 L) C)
theorem intA_at {xs : List Int} {xf : Nat → Nat} {i : Nat} (h : i < xs.length) : (intA xs xf)[i]? = some (.int (xs.getD i 0) (xf i)) := by
  rw [intA_get, List.getElem?_eq_getElem h]
  simp [List.getD_eq_getElem?_getD, h]
section
variable {K : Params → KT} [ok : Nonempty (KOk K)] {P : Params} {dr : Source → Nat → Nat} {fz : List Ent}
theorem dc_rest {sl se acc C it L i m s1 r : Nat} {xs : List Int} {xf : Nat → Nat} {os : Array Value} {eo1 : Nat}
    (ih : CON K P dr fz (dcCode K P it acc L C) (dcE sl se acc eo1 C it (i + 1) (intA xs xf) (os.push (.ref r)) (dicO #[dEnt P "size" s1 (.int (xs.getD i 0) (xf i))] 1)) 20 80
      (fun v => ⟨.ok .next, [lisO (intA xs xf) se, lisO (os.push (.ref r) ++ (rowRefs v 0 (List.replicate m [])).toArray) (v (4 * 0)), dicO #[dEnt P "size" s1 (dLast xs xf m (.int (xs.getD i 0) (xf i)))] 1, lendO xs.length], rowsEnt v 0 (List.replicate m [])⟩))
    (him : i + (m + 1) = xs.length) {dc : Obj} {eo : Nat} {A : Around} {h h' : Heap} {g' : Array GenState} {d : Drawn} {tk' : Nat} {os' : OsState} {R : Result → Shared → Prop} (room : Room A 20 80) (hi : inv K P fz h)
    (has : Has h (dcE sl se acc eo C it i (intA xs xf) os dc)) (hlo : ∀ x ∈ [sl, acc, C, it], OwnA fz x) (nd : [sl, acc, C, it].Nodup) (hi' : inv K P fz h') (hB' : AllBare g') (hsh : h.objs.size ≤ h'.objs.size) (hr' : h.objs.size ≤ r)
    (has' : Has h' (dcE sl se acc eo1 C it (i + 1) (intA xs xf) (os.push (.ref r)) (dicO #[dEnt P "size" s1 (.int (xs.getD i 0) (xf i))] 1) ++ [(r, lisO #[] 0)])) (hk' : Keep (WI K P fz) h h' [sl, acc, C, it])
    (hR : ∀ (v : Nat → Nat) (h2 : Heap) (g2 : Array GenState) (tk2 : Nat), inv K P fz h2 → AllBare g2 → h.objs.size ≤ h2.objs.size →
      HasZ h2 (dcE sl se acc eo C it i (intA xs xf) os dc) [lisO (intA xs xf) se, lisO (os ++ (rowRefs v 0 (List.replicate (m + 1) [])).toArray) (v (4 * 0)), dicO #[dEnt P "size" (v (4 * 1)) (.int (xs.getD (xs.length - 1) 0) (xf (xs.length - 1)))] 1, lendO xs.length] →
      v (4 * 1) = s1 → NewOk h h2 (rowsEnt v 0 (List.replicate (m + 1) [])) → Keep (WI K P fz) h h2 [sl, acc, C, it] → R (.ok .next) ⟨h2, g2, d, tk2, os'⟩) :
    codeAny (model prg ⟨dr, P⟩) A (dcCode K P it acc L C) R ⟨h', g', d, tk', os'⟩ := by
  refine ih A h' g' d tk' os' R room hi' hB' (fun p hp => has' p (List.mem_append_left _ hp)) (own_by hlo) nd fun v h2 g2 tk2 hi2 hB2 hs2 hz hn2 hk2 => ?_
  have e1 := rowsEnt_cons s1 0 r 0 (fun _ => 0) v (List.replicate m []) 0
  have e2 := rowRefs_cons s1 0 r 0 (fun _ => 0) v (List.replicate m []) 0
  have e3 := rowEnt_0 s1 0 r 0 (fun _ => 0) v (row := []) (by simp)
  have e4 : rowsEnt (vCons s1 0 r 0 (fun _ => 0) v) 0 (List.replicate (m + 1) []) = (r, lisO #[] 0) :: rowsEnt v 0 (List.replicate m []) := by rw [List.replicate_succ, rowsEnt, e1, e3, natA_nil]
  have e5 : rowRefs (vCons s1 0 r 0 (fun _ => 0) v) 0 (List.replicate (m + 1) []) = .ref r :: rowRefs v 0 (List.replicate m []) := by rw [List.replicate_succ, rowRefs, e2]; rfl
  have e6 : dLast xs xf m (.int (xs.getD i 0) (xf i)) = .int (xs.getD (xs.length - 1) 0) (xf (xs.length - 1)) := by
    unfold dLast
    split
    · have : i = xs.length - 1 := by omega
      rw [this]
    · rfl
  have hrlt : r < h'.objs.size := Heap.lt_size (has_nth has' 4 rfl)
  have hr2 : h2.get? r = some (lisO #[] 0) := hk2 r _ (has_nth has' 4 rfl) (fun hm => absurd (lt_of_has has r hm) (Nat.not_lt_of_le hr')) (fun hm => (WI K P fz).tlo _ hm ((WI K P fz).big h hi _ hr'))
  refine hR (vCons s1 0 r 0 (fun _ => 0) v) h2 g2 tk2 hi2 hB2 (Nat.le_trans hsh hs2) ?_ rfl ?_ (keep_trans hk' hk2)
  · rw [e5, vCons_0, vCons_4]
    rw [e6] at hz
    have e7 : os ++ (Value.ref r :: rowRefs v 0 (List.replicate m [])).toArray = os.push (.ref r) ++ (rowRefs v 0 (List.replicate m [])).toArray := by apply Array.ext'; simp
    rw [e7]
    exact hasZ_same (pre' := dcE sl se acc eo1 C it (i + 1) (intA xs xf) (os.push (.ref r)) (dicO #[dEnt P "size" s1 (.int (xs.getD i 0) (xf i))] 1)) rfl rfl hz
  · rw [e4]
    refine ⟨fun p hp => ?_, ?_⟩
    · rcases List.mem_cons.mp hp with rfl | hp
      · exact ⟨hr', hr2⟩
      · exact ⟨Nat.le_trans hsh (hn2.1 p hp).1, (hn2.1 p hp).2⟩
    · rw [List.map_cons, List.nodup_cons]
      refine ⟨fun hm2 => ?_, hn2.2⟩
      obtain ⟨p, hp, e⟩ := List.mem_map.mp hm2
      have z1 : h'.objs.size ≤ p.1 := (hn2.1 p hp).1
      exact absurd z1 (Nat.not_le_of_lt (by rw [show p.1 = r from e]; exact hrlt))
theorem con_dloop (o : OkDc K) {sl se acc C it L : Nat} {xs : List Int} {xf : Nat → Nat} (hn : xs.length ≤ 900) :
    ∀ (m i eo s0 : Nat) (os : Array Value) (x0 : Value), i + m = xs.length → os.size ≤ i →
      CON K P dr fz (dcCode K P it acc L C) (dcE sl se acc eo C it i (intA xs xf) os (dicO #[dEnt P "size" s0 x0] 1)) 20 80
        (fun v => ⟨.ok .next, [lisO (intA xs xf) se, lisO (os ++ (rowRefs v 0 (List.replicate m [])).toArray) (v (4 * 0)), dicO #[dEnt P "size" s0 (dLast xs xf m x0)] 1, lendO xs.length], rowsEnt v 0 (List.replicate m [])⟩)
  | 0, i, eo, s0, os, x0, him, hos => by
    have hnx : (intA xs xf)[i]? = none := by rw [intA_get, List.getElem?_eq_none (ar51 him)]; rfl
    refine con_by (fun N tk => o.e P sl se acc eo L C it i (intA xs xf) os s0 x0 N tk) fun A h d tk os' R room hi hlt hlo nd hR => ?_
    refine ⟨con_bi bi_next (con_next_end hnx), fun v1 n1 tk1 q1 q2 h' g' hi' hB' hs' has' hk' => ?_⟩
    have hs2 : h'.objs.size = n1 := by simpa using hs'
    have hi2 : i = xs.length := him
    refine hR (fun _ => eo) h' g' _ hi' hB' (ar52 q1 hs2) ⟨has_nth has' 0 rfl, ?_, has_nth has' 2 rfl, by rw [← hi2]; exact has_nth has' 3 rfl, trivial⟩ ⟨by simp [rowsEnt], by simp [rowsEnt]⟩ hk'
    have z : h'.get? acc = some (lisO os eo) := has_nth has' 1 rfl
    simpa [rowRefs] using z
  | m + 1, i, eo, s0, os, x0, him, hos => by
    intro A h g d tk os' R room hi hB has hlo nd hR
    refine code_run (o.b P sl se acc eo L C it i (intA xs xf) os (xs.getD i 0) (xf i) s0 x0 h.objs.size tk) room hi hB has hlo nd
      ⟨con_bi bi_next (con_next_item (intA_at (ar53 him))), fun v1 n1 tk1 q1 q2 => ⟨con_bi bi_append (con_append (Nat.le_trans (show os.size ≤ 1000 by exact ar54 him hn hos) (by decide))), fun v2 n2 tk2 q4 q5 h' g' hi' hB' hs' has' hk' => ?_⟩⟩
    have hs2 : h'.objs.size = n2 := by simpa using hs'
    refine dc_rest (con_dloop o hn m (i + 1) (eo + 1) s0 (os.push (.ref (n1 + 0))) (.int (xs.getD i 0) (xf i)) (ar55 him) (by simp; omega)) him room hi has (own_ads hlo) nd hi' hB' (ar56 q1 q4 hs2) (by omega) has' hk' fun v h2 g2 tk2 hi2 hB2 hs3 hz e8 hn2 hk2 => ?_
    rw [e8] at hz
    exact hR v h2 g2 tk2 hi2 hB2 hs3 hz hn2 hk2
theorem con_dcomp (o : OkDc K) {sl se acc C it L : Nat} {xs : List Int} {xf : Nat → Nat} (hn : xs.length ≤ 900) (hp : 0 < xs.length) :
    CON K P dr fz (.compStart (dComp0 K P) 0 (.ref it) (.ref acc) (compE (dComp0 K P) (envC K P 211 L) C)) (dcE sl se acc 0 C it 0 (intA xs xf) #[] (dicO #[] 0)) 30 120
      (fun v => ⟨.ok .next, [lisO (intA xs xf) se, lisO (rowRefs v 0 (List.replicate xs.length [])).toArray (v 0), dicO #[dEnt P "size" (v 4) (.int (xs.getD (xs.length - 1) 0) (xf (xs.length - 1)))] 1, lendO xs.length], rowsEnt v 0 (List.replicate xs.length [])⟩) := by
  refine con_mono (dep := 20) (un := 80) (con_again (fun N tk => o.s P sl se acc 0 L C it 0 (intA xs xf) #[] N tk) (fun _ _ => rfl) ?_) (ar57) (ar58)
  obtain ⟨m, hm⟩ : ∃ m, xs.length = m + 1 := ⟨xs.length - 1, ar59 hp⟩
  intro A h g d tk os' R room hi hB has hlo nd hR
  refine code_run (o.a P sl se acc 0 L C it 0 (intA xs xf) #[] (xs.getD 0 0) (xf 0) h.objs.size tk) room hi hB has hlo nd
      ⟨con_bi bi_next (con_next_item (intA_at (by omega))), fun v1 n1 tk1 q1 q2 => ⟨con_bi bi_append (con_append (by decide)), fun v2 n2 tk2 q4 q5 h' g' hi' hB' hs' has' hk' => ?_⟩⟩
  have hs2 : h'.objs.size = n2 := by simpa using hs'
  refine dc_rest (m := m) (con_dloop o hn m 1 1 (tk1 + 0) ((#[] : Array Value).push (.ref (n1 + 0))) (.int (xs.getD 0 0) (xf 0)) (ar60 hm) (by simp)) (ar61 hm) room hi has (own_ads hlo) nd hi' hB' (ar56 q1 q4 hs2) (by omega) has' hk' fun v h2 g2 tk2 hi2 hB2 hs3 hz e8 hn2 hk2 => ?_
  rw [hm] at hR
  rw [hm] at hz
  have e9 : (#[] : Array Value) ++ (rowRefs v 0 (List.replicate (m + 1) [])).toArray = (rowRefs v 0 (List.replicate (m + 1) [])).toArray := by apply Array.ext'; simp
  rw [e9] at hz
  exact hR v h2 g2 tk2 hi2 hB2 hs3 hz hn2 hk2
end
inductive RO where
  | n
  | y (t : Nat) (x : Value)
noncomputable def RO.set (t : Nat) (v : Value) : RO → RO
  | .n => .y t v
  | .y t0 _ => .y t0 v
noncomputable def dicI (P : Params) (s : Nat) (a : Int) (ta : Nat) : RO → Obj
  | .n => dicO #[dEnt P "start" s (.int a ta)] 1
  | .y t x => dicO #[dEnt P "start" s (.int a ta), dEnt P "rest" t x] 2
inductive OO where
  | e
  | y (s : Nat) (x : Value) (t : Nat) (z : Value)
noncomputable def dicX (P : Params) : OO → Obj
  | .e => dicO #[] 0
  | .y s x t z => dicO #[dEnt P "start" s x, dEnt P "rest" t z] 2
noncomputable def OO.key (k : Nat) : OO → Nat
  | .e => k
  | .y s _ _ _ => s
noncomputable def OO.rest : OO → RO
  | .e => .n
  | .y _ _ t z => .y t z
noncomputable def sc_dsI (K : Params → KT) (P : Params) (sl se acc eo r1 e1 L C it i s ta n : Nat) (a : Int) (ss os l1 : Array Value) (o : RO) (b : Int) (tb : Nat) (N tk : Nat) : Sc :=
  sS [8] (.call (.builtin "list_iterator.__next__") ⟨[.ref it], []⟩) [5, 4] [(it, litO r1 i), (r1, lisO l1 e1)] 0 0 (fun v1 => ⟨.ok (.ret (.int b tb)), [litO r1 (i + 1)], []⟩) 0 fun v1 n1 tk1 =>
  sS [6, 6, 6, 0, 0, 4] (.call (.builtin "len") ⟨[.ref sl], []⟩) [0] [(sl, lisO ss se)] 5 20 (fun v2 => ⟨.ok (.ret (.int n (v2 0))), [], []⟩) 0 fun v2 n2 tk2 =>
  sA [6] 0 (.int (n - b) (tk2 + 0)) (.int (n - b) (tk2 + 0)) <|
  sS [] (.call (.builtin "list.append") ⟨[.ref acc, .ref (n2 + 0)], []⟩) [2] [(acc, lisO os eo)] 0 0 (fun v3 => ⟨.ok (.ret .none), [lisO (os.push (.ref (n2 + 0))) (eo + 1)], []⟩) 1 fun v3 n3 tk3 =>
  sG [] (.compLoop (dComp K P) 1 (.ref it) (.ref acc) (compE (dComp K P) (envC K P 211 L) C)) [0, 1, 2, 3, 4, 5, 6] [(sl, lisO ss se), (L + 1, celO (some (.ref sl))), (acc, lisO (os.push (.ref (n2 + 0))) (eo + 1)), (C, dicI P s a ta (o.set (tk1 + 0) (.int b tb))), (r1, lisO l1 e1), (it, litO r1 (i + 1)), (n2 + 0, tupO #[.int a ta, .int (n - b) (tk2 + 0)])] 0 0
noncomputable def ok_dsI (K : Params → KT) : Prop := ∀ P sl se acc eo r1 e1 L C it i s ta n a ss os l1 o b tb N tk,
  RunsTo K P 20 80 4000 (.compLoop (dComp K P) 1 (.ref it) (.ref acc) (compE (dComp K P) (envC K P 211 L) C)) [(sl, lisO ss se), (L + 1, celO (some (.ref sl))), (acc, lisO os eo), (C, dicI P s a ta o), (r1, lisO l1 e1), (it, litO r1 i)] N tk (sc_dsI K P sl se acc eo r1 e1 L C it i s ta n a ss os l1 o b tb N tk)
noncomputable def sc_dsIe (K : Params → KT) (P : Params) (sl se acc eo r1 e1 L C it i s ta n : Nat) (a : Int) (ss os l1 : Array Value) (o : RO) (N tk : Nat) : Sc :=
  sS [8] (.call (.builtin "list_iterator.__next__") ⟨[.ref it], []⟩) [5, 4] [(it, litO r1 i), (r1, lisO l1 e1)] 0 0 (fun v1 => ⟨.error (.ref (v1 0)), [⟨.type "list_iterator", none, .fields #[.none, .int i 0], #[]⟩], [(v1 0, excStop (v1 1))]⟩) 0 fun v1 n1 tk1 =>
  sF [9] (.ok .next) [0, 1, 2, 3, 4, 5] [(sl, lisO ss se), (L + 1, celO (some (.ref sl))), (acc, lisO os eo), (C, dicI P s a ta o), (r1, lisO l1 e1), (it, ⟨.type "list_iterator", none, .fields #[.none, .int i 0], #[]⟩)] 0 0
noncomputable def ok_dsIe (K : Params → KT) : Prop := ∀ P sl se acc eo r1 e1 L C it i s ta n a ss os l1 o N tk,
  RunsTo K P 20 80 4000 (.compLoop (dComp K P) 1 (.ref it) (.ref acc) (compE (dComp K P) (envC K P 211 L) C)) [(sl, lisO ss se), (L + 1, celO (some (.ref sl))), (acc, lisO os eo), (C, dicI P s a ta o), (r1, lisO l1 e1), (it, litO r1 i)] N tk (sc_dsIe K P sl se acc eo r1 e1 L C it i s ta n a ss os l1 o N tk)
noncomputable def sc_dsIs (K : Params → KT) (P : Params) (sl se acc eo r1 e1 L C it i s ta n : Nat) (a : Int) (ss os l1 : Array Value) (o : RO) (N tk : Nat) : Sc :=
  sG (bif P.followText "comprehension-iter-twice" then [] else [8, 8, 8, 8]) (.compLoop (dComp K P) 1 (.ref it) (.ref acc) (compE (dComp K P) (envC K P 211 L) C)) [0, 1, 2, 3, 4, 5] [(sl, lisO ss se), (L + 1, celO (some (.ref sl))), (acc, lisO os eo), (C, dicI P s a ta o), (r1, lisO l1 e1), (it, litO r1 i)] 0 0
noncomputable def ok_dsIs (K : Params → KT) : Prop := ∀ P sl se acc eo r1 e1 L C it i s ta n a ss os l1 o N tk,
  RunsTo K P 20 80 4000 (.compStart (dComp K P) 1 (.ref it) (.ref acc) (compE (dComp K P) (envC K P 211 L) C)) [(sl, lisO ss se), (L + 1, celO (some (.ref sl))), (acc, lisO os eo), (C, dicI P s a ta o), (r1, lisO l1 e1), (it, litO r1 i)] N tk (sc_dsIs K P sl se acc eo r1 e1 L C it i s ta n a ss os l1 o N tk)
noncomputable def sc_dsO (K : Params → KT) (P : Params) (sl se acc eo r0 e0 r1 e1 L C it i tl te tc kt : Nat) (c k : Int) (ss os l0 l1 tr : Array Value) (l : OO) (a : Int) (ta m : Nat) (AC : (Nat → Nat) → Array Value) (Y : Value) (NEWS : (Nat → Nat) → List Ent) (N tk : Nat) : Sc :=
  sS [13] (.call (.builtin "list_iterator.__next__") ⟨[.ref it], []⟩) [10, 7] [(it, litO r0 i), (r0, lisO l0 e0)] 0 0 (fun v1 => ⟨.ok (.ret (.int a ta)), [litO r0 (i + 1)], []⟩) 0 fun v1 n1 tk1 =>
  sS [12, 12, 5, 6, 7, 8, 8, 8] (.call (.builtin "list.__getitem__") ⟨[.ref tl, .int (c - 1 - k) (tk1 + 3)], []⟩) [5] [(tl, lisO tr te)] 0 0 (fun v2 => ⟨.ok (.ret (.ref r1)), [], []⟩) 0 fun v2 n2 tk2 =>
  sS [9, 9, 9, 14] (.compStart (dComp K P) 1 (.ref (n2 + 0)) (.ref acc) (compE (dComp K P) (envC K P 211 L) C)) [0, 1, 8, 9, 6, 11] [(sl, lisO ss se), (L + 1, celO (some (.ref sl))), (acc, lisO os eo), (C, dicI P (l.key (tk1 + 0)) a ta l.rest), (r1, lisO l1 e1), (n2 + 0, litO r1 0)] 30 120 (fun v3 => ⟨.ok .next, [lisO ss se, celO (some (.ref sl)), lisO (AC v3) (v3 0), dicI P (l.key (tk1 + 0)) a ta (.y (v3 8) Y), lisO l1 e1, lendO m], NEWS v3⟩) 1 fun v3 n3 tk3 =>
  sI [] (.compLoop (dComp K P) 0 (.ref it) (.ref acc) (compE (dComp K P) (envC K P 211 L) C)) (app [(sl, lisO ss se), (L + 1, celO (some (.ref sl))), (L + 2, celO (some (.ref tl))), (L + 3, celO (some (.int c tc))), (L + 4, celO (some (.int k kt))), (tl, lisO tr te), (r1, lisO l1 e1), (r0, lisO l0 e0), (acc, lisO (AC v3) (v3 0)), (C, dicX P (.y (l.key (tk1 + 0)) (.int a ta) (v3 8) Y)), (it, litO r0 (i + 1)), (n2 + 0, lendO m)] (NEWS v3)) 0 0
noncomputable def ok_dsO (K : Params → KT) : Prop := ∀ P sl se acc eo r0 e0 r1 e1 L C it i tl te tc kt c k ss os l0 l1 tr l a ta m AC Y NEWS N tk,
  RunsTo K P 40 150 4000 (.compLoop (dComp K P) 0 (.ref it) (.ref acc) (compE (dComp K P) (envC K P 211 L) C)) [(sl, lisO ss se), (L + 1, celO (some (.ref sl))), (L + 2, celO (some (.ref tl))), (L + 3, celO (some (.int c tc))), (L + 4, celO (some (.int k kt))), (tl, lisO tr te), (r1, lisO l1 e1), (r0, lisO l0 e0), (acc, lisO os eo), (C, dicX P l), (it, litO r0 i)] N tk (sc_dsO K P sl se acc eo r0 e0 r1 e1 L C it i tl te tc kt c k ss os l0 l1 tr l a ta m AC Y NEWS N tk)
noncomputable def sc_dsOe (K : Params → KT) (P : Params) (sl se acc eo r0 e0 r1 e1 L C it i tl te tc kt : Nat) (c k : Int) (ss os l0 l1 tr : Array Value) (l : OO) (N tk : Nat) : Sc :=
  sS [13] (.call (.builtin "list_iterator.__next__") ⟨[.ref it], []⟩) [10, 7] [(it, litO r0 i), (r0, lisO l0 e0)] 0 0 (fun v1 => ⟨.error (.ref (v1 0)), [⟨.type "list_iterator", none, .fields #[.none, .int i 0], #[]⟩], [(v1 0, excStop (v1 1))]⟩) 0 fun v1 n1 tk1 =>
  sF [14] (.ok .next) [0, 1, 2, 3, 4, 5, 6, 7, 8, 9, 10] [(sl, lisO ss se), (L + 1, celO (some (.ref sl))), (L + 2, celO (some (.ref tl))), (L + 3, celO (some (.int c tc))), (L + 4, celO (some (.int k kt))), (tl, lisO tr te), (r1, lisO l1 e1), (r0, lisO l0 e0), (acc, lisO os eo), (C, dicX P l), (it, ⟨.type "list_iterator", none, .fields #[.none, .int i 0], #[]⟩)] 0 0
noncomputable def ok_dsOe (K : Params → KT) : Prop := ∀ P sl se acc eo r0 e0 r1 e1 L C it i tl te tc kt c k ss os l0 l1 tr l N tk,
  RunsTo K P 40 150 4000 (.compLoop (dComp K P) 0 (.ref it) (.ref acc) (compE (dComp K P) (envC K P 211 L) C)) [(sl, lisO ss se), (L + 1, celO (some (.ref sl))), (L + 2, celO (some (.ref tl))), (L + 3, celO (some (.int c tc))), (L + 4, celO (some (.int k kt))), (tl, lisO tr te), (r1, lisO l1 e1), (r0, lisO l0 e0), (acc, lisO os eo), (C, dicX P l), (it, litO r0 i)] N tk (sc_dsOe K P sl se acc eo r0 e0 r1 e1 L C it i tl te tc kt c k ss os l0 l1 tr l N tk)
noncomputable def sc_dsOs (K : Params → KT) (P : Params) (sl se acc eo r0 e0 r1 e1 L C it i tl te tc kt : Nat) (c k : Int) (ss os l0 l1 tr : Array Value) (N tk : Nat) : Sc :=
  sG (bif P.followText "comprehension-iter-twice" then [] else [13, 13, 13, 13]) (.compLoop (dComp K P) 0 (.ref it) (.ref acc) (compE (dComp K P) (envC K P 211 L) C)) [0, 1, 2, 3, 4, 5, 6, 7, 8, 9, 10] [(sl, lisO ss se), (L + 1, celO (some (.ref sl))), (L + 2, celO (some (.ref tl))), (L + 3, celO (some (.int c tc))), (L + 4, celO (some (.int k kt))), (tl, lisO tr te), (r1, lisO l1 e1), (r0, lisO l0 e0), (acc, lisO os eo), (C, dicX P OO.e), (it, litO r0 i)] 0 0
noncomputable def ok_dsOs (K : Params → KT) : Prop := ∀ P sl se acc eo r0 e0 r1 e1 L C it i tl te tc kt c k ss os l0 l1 tr N tk,
  RunsTo K P 40 150 4000 (.compStart (dComp K P) 0 (.ref it) (.ref acc) (compE (dComp K P) (envC K P 211 L) C)) [(sl, lisO ss se), (L + 1, celO (some (.ref sl))), (L + 2, celO (some (.ref tl))), (L + 3, celO (some (.int c tc))), (L + 4, celO (some (.int k kt))), (tl, lisO tr te), (r1, lisO l1 e1), (r0, lisO l0 e0), (acc, lisO os eo), (C, dicX P OO.e), (it, litO r0 i)] N tk (sc_dsOs K P sl se acc eo r0 e0 r1 e1 L C it i tl te tc kt c k ss os l0 l1 tr N tk)
noncomputable abbrev TP := Int × Nat × Int
noncomputable def tupEnt (v : Nat → Nat) (j : Nat) (p : TP) : Ent := (v (4 * j + 1), tupO #[.int p.1 p.2.1, .int p.2.2 (v (4 * j + 2))])
noncomputable def tupsEnt (v : Nat → Nat) : Nat → List TP → List Ent
  | _, [] => []
  | j, p :: l => tupEnt v j p :: tupsEnt v (j + 1) l
noncomputable def tupRefs (v : Nat → Nat) : Nat → List TP → List Value
  | _, [] => []
  | j, _ :: l => .ref (v (4 * j + 1)) :: tupRefs v (j + 1) l
noncomputable def vApp (s0 s4 s8 m : Nat) (v w : Nat → Nat) (k : Nat) : Nat :=
  if k % 4 = 0 then (if k = 0 then s0 else if k = 4 then s4 else s8) else if k / 4 < m then v k else w (k - 4 * m)
theorem vApp_0 (s0 s4 s8 m : Nat) (v w : Nat → Nat) : vApp s0 s4 s8 m v w 0 = s0 := rfl
theorem vApp_4 (s0 s4 s8 m : Nat) (v w : Nat → Nat) : vApp s0 s4 s8 m v w 4 = s4 := rfl
theorem vApp_8 (s0 s4 s8 m : Nat) (v w : Nat → Nat) : vApp s0 s4 s8 m v w 8 = s8 := rfl
theorem vApp_l (s0 s4 s8 m : Nat) (v w : Nat → Nat) {j r : Nat} (h : j < m) (hr : r = 1 ∨ r = 2) : vApp s0 s4 s8 m v w (4 * j + r) = v (4 * j + r) := by
  unfold vApp
  rw [if_neg (ar62 hr), if_pos (ar63 h hr)]
theorem vApp_r (s0 s4 s8 m : Nat) (v w : Nat → Nat) {j r : Nat} (hr : r = 1 ∨ r = 2) : vApp s0 s4 s8 m v w (4 * (m + j) + r) = w (4 * j + r) := by
  unfold vApp
  rw [if_neg (ar64 hr), if_neg (ar65)]
  congr 1
  exact ar66
section
variable (s0 s4 s8 m : Nat) (v w : Nat → Nat)
theorem tupsEnt_l : ∀ (l : List TP) (j : Nat), j + l.length ≤ m → tupsEnt (vApp s0 s4 s8 m v w) j l = tupsEnt v j l
  | [], _, _ => rfl
  | p :: l, j, h => by
    rw [List.length_cons] at h
    rw [tupsEnt, tupsEnt, tupsEnt_l l (j + 1) (ar67 h), tupEnt, tupEnt, vApp_l _ _ _ _ _ _ (ar68 h) (.inl rfl), vApp_l _ _ _ _ _ _ (ar68 h) (.inr rfl)]
theorem tupsEnt_r : ∀ (l : List TP) (j : Nat), tupsEnt (vApp s0 s4 s8 m v w) (m + j) l = tupsEnt w j l
  | [], _ => rfl
  | p :: l, j => by
    rw [tupsEnt, tupsEnt, Nat.add_assoc, tupsEnt_r l (j + 1), tupEnt, tupEnt, vApp_r _ _ _ _ _ _ (.inl rfl), vApp_r _ _ _ _ _ _ (.inr rfl)]
theorem tupRefs_l : ∀ (l : List TP) (j : Nat), j + l.length ≤ m → tupRefs (vApp s0 s4 s8 m v w) j l = tupRefs v j l
  | [], _, _ => rfl
  | p :: l, j, h => by
    rw [List.length_cons] at h
    rw [tupRefs, tupRefs, tupRefs_l l (j + 1) (ar67 h), vApp_l _ _ _ _ _ _ (ar68 h) (.inl rfl)]
theorem tupRefs_r : ∀ (l : List TP) (j : Nat), tupRefs (vApp s0 s4 s8 m v w) (m + j) l = tupRefs w j l
  | [], _ => rfl
  | p :: l, j => by
    rw [tupRefs, tupRefs, Nat.add_assoc, tupRefs_r l (j + 1), vApp_r _ _ _ _ _ _ (.inl rfl)]
end
theorem tupsEnt_append (v : Nat → Nat) : ∀ (l l' : List TP) (j : Nat), tupsEnt v j (l ++ l') = tupsEnt v j l ++ tupsEnt v (j + l.length) l'
  | [], l', j => rfl
  | p :: l, l', j => by
    rw [List.cons_append, tupsEnt, tupsEnt, tupsEnt_append v l l', List.length_cons, List.cons_append, show j + 1 + l.length = j + (l.length + 1) by exact ar69]
theorem tupRefs_append (v : Nat → Nat) : ∀ (l l' : List TP) (j : Nat), tupRefs v j (l ++ l') = tupRefs v j l ++ tupRefs v (j + l.length) l'
  | [], l', j => rfl
  | p :: l, l', j => by
    rw [List.cons_append, tupRefs, tupRefs, tupRefs_append v l l', List.length_cons, List.cons_append, show j + 1 + l.length = j + (l.length + 1) by exact ar69]
theorem tups_app (s0 s4 s8 : Nat) (v w : Nat → Nat) (l l' : List TP) : tupsEnt (vApp s0 s4 s8 l.length v w) 0 (l ++ l') = tupsEnt v 0 l ++ tupsEnt w 0 l' := by
  rw [tupsEnt_append, tupsEnt_l _ _ _ _ _ _ _ _ (ar70), Nat.zero_add]
  have := tupsEnt_r s0 s4 s8 l.length v w l' 0
  rw [Nat.add_zero] at this
  rw [this]
theorem refs_app (s0 s4 s8 : Nat) (v w : Nat → Nat) (l l' : List TP) : tupRefs (vApp s0 s4 s8 l.length v w) 0 (l ++ l') = tupRefs v 0 l ++ tupRefs w 0 l' := by
  rw [tupRefs_append, tupRefs_l _ _ _ _ _ _ _ _ (ar70), Nat.zero_add]
  have := tupRefs_r s0 s4 s8 l.length v w l' 0
  rw [Nat.add_zero] at this
  rw [this]
theorem newOk_app {W : IV} {h h' h2 : Heap} {N1 N2 : List Ent} {ads : List Addr} (hs : h.objs.size ≤ h'.objs.size) (h1 : ∀ p ∈ N1, h.objs.size ≤ p.1 ∧ h'.get? p.1 = some p.2) (nd1 : (N1.map (·.1)).Nodup) (h2' : NewOk h' h2 N2)
    (hk : Keep W h' h2 ads) (ha : ∀ a ∈ ads, a < h.objs.size) (ht : ∀ p ∈ N1, p.1 ∉ W.tabs) : NewOk h h2 (N1 ++ N2) := by
  refine ⟨fun p hp => ?_, ?_⟩
  · rcases List.mem_append.mp hp with hp | hp
    · exact ⟨(h1 p hp).1, hk _ _ (h1 p hp).2 (fun hm => absurd (ha _ hm) (Nat.not_lt_of_le (h1 p hp).1)) (ht p hp)⟩
    · exact ⟨Nat.le_trans hs (h2'.1 p hp).1, (h2'.1 p hp).2⟩
  · rw [List.map_append, List.nodup_append]
    refine ⟨nd1, h2'.2, fun x hx y hy => ?_⟩
    obtain ⟨p, hp, rfl⟩ := List.mem_map.mp hx
    obtain ⟨q, hq, rfl⟩ := List.mem_map.mp hy
    exact Nat.ne_of_lt (Nat.lt_of_lt_of_le (Heap.lt_size (h1 p hp).2) (h2'.1 q hq).1)
structure OkDs (K : Params → KT) : Prop where
  i : ok_dsI K
  ie : ok_dsIe K
  is : ok_dsIs K
  o : ok_dsO K
  oe : ok_dsOe K
  os : ok_dsOs K
noncomputable def nLast (row : List Nat) (f : Nat → Nat) : Value := .int ((row.getD (row.length - 1) 0 : Nat) : Int) (f (row.length - 1))
noncomputable def roEnd (v : Nat → Nat) (o : RO) (l : List Nat) (y : Value) : RO := if l.length = 0 then o else .y (v 8) y
noncomputable abbrev dsE (P : Params) (sl se acc eo r1 e1 L C it i s ta : Nat) (a : Int) (ss os l1 : Array Value) (o : RO) : List Ent :=
  [(sl, lisO ss se), (L + 1, celO (some (.ref sl))), (acc, lisO os eo), (C, dicI P s a ta o), (r1, lisO l1 e1), (it, litO r1 i)]
noncomputable abbrev dsCode (K : Params → KT) (P : Params) (d it acc L C : Nat) : Code := .compLoop (dComp K P) d (.ref it) (.ref acc) (compE (dComp K P) (envC K P 211 L) C)
noncomputable def pairsOf (a : Int) (ta : Nat) (n : Nat) (l : List Nat) : List TP := List.map (α := Nat) (fun b => (a, ta, (n : Int) - (b : Int))) l
section
variable {K : Params → KT} [ok : Nonempty (KOk K)] {P : Params} {dr : Source → Nat → Nat} {fz : List Ent}
theorem con_dsI (o : OkDs K) {sl se acc r1 e1 L C it s ta : Nat} {a : Int} {xs : List Int} {xf : Nat → Nat} {row : List Nat} {f : Nat → Nat} (hn : xs.length ≤ 900) (hl : row.length ≤ 1000) :
    ∀ (l : List Nat) (i eo : Nat) (os : Array Value) (ro : RO), row.drop i = l → i ≤ row.length → os.size ≤ 1000000 + i →
      CON K P dr fz (dsCode K P 1 it acc L C) (dsE P sl se acc eo r1 e1 L C it i s ta a (intA xs xf) os (natA row f) ro) 20 80
        (fun v => ⟨.ok .next, [lisO (intA xs xf) se, celO (some (.ref sl)), lisO (os ++ (tupRefs v 0 (pairsOf a ta xs.length l)).toArray) (v 0), dicI P s a ta (roEnd v ro l (nLast row f)), lisO (natA row f) e1, lendO row.length], tupsEnt v 0 (pairsOf a ta xs.length l)⟩)
  | [], i, eo, os, ro, hd, hi, hs => by
    have hi2 : i = row.length := Nat.le_antisymm hi (List.drop_eq_nil_iff.mp hd)
    have hnx : (natA row f)[i]? = none := by rw [natA_get, List.getElem?_eq_none (ar71 hi2)]; rfl
    refine con_by (fun N tk => o.ie P sl se acc eo r1 e1 L C it i s ta 0 a (intA xs xf) os (natA row f) ro N tk) fun A h d tk os' R room hi hlt hlo nd hR => ?_
    refine ⟨con_bi bi_next (con_next_end hnx), fun v1 n1 tk1 q1 q2 h' g' hi' hB' hs' has' hk' => ?_⟩
    have hs2 : h'.objs.size = n1 := by simpa using hs'
    refine hR (fun _ => eo) h' g' _ hi' hB' (ar52 q1 hs2) ⟨has_nth has' 0 rfl, has_nth has' 1 rfl, ?_, has_nth has' 3 rfl, has_nth has' 4 rfl, by rw [← hi2]; exact has_nth has' 5 rfl, trivial⟩ ⟨by simp [pairsOf, tupsEnt], by simp [pairsOf, tupsEnt]⟩ hk'
    have z : h'.get? acc = some (lisO os eo) := has_nth has' 2 rfl
    simpa [pairsOf, tupRefs] using z
  | b :: l, i, eo, os, ro, hd, hi, hs => by
    have hil : i < row.length := by
      have : (row.drop i).length = l.length + 1 := by rw [hd]; rfl
      rw [List.length_drop] at this
      exact ar72 this
    have hx : row[i]? = some b := by
      have := congrArg (fun l => l[0]?) hd
      simpa using this
    have hd' : row.drop (i + 1) = l := by
      have := congrArg (fun l => l.drop 1) hd
      simpa [List.drop_drop, Nat.add_comm] using this
    have hnx : (natA row f)[i]? = some (.int (b : Int) (f i)) := by rw [natA_get, hx]; rfl
    intro A h g d tk os' R room hi0 hB has hlo nd hR
    refine code_run (o.i P sl se acc eo r1 e1 L C it i s ta xs.length a (intA xs xf) os (natA row f) ro b (f i) h.objs.size tk) room hi0 hB has hlo nd
      ⟨con_bi bi_next (con_next_item hnx), fun v1 n1 tk1 q1 q2 => ⟨con_lenI (ar73 hn), fun v2 n2 tk2 q4 q5 => ⟨rfl, con_bi bi_append (con_append (Nat.le_trans (show os.size ≤ 1002000 by exact ar74 hil hl hs) (by decide))), fun v3 n3 tk3 q7 q8 h' g' hi' hB' hs' has' hk' => ?_⟩⟩⟩
    have hs2 : h'.objs.size = n3 := by simpa using hs'
    refine con_dsI o hn hl l (i + 1) (eo + 1) (os.push (.ref (n2 + 0))) (ro.set (tk1 + 0) (.int (b : Int) (f i))) hd' (ar75 hil) (by simp; exact ar76 hs) A h' g' d _ os' R room hi' hB' (fun p hp => has' p (List.mem_append_left [_] hp)) (own_by (own_ads (pre := dsE P sl se acc eo r1 e1 L C it i s ta a (intA xs xf) os (natA row f) ro) hlo)) nd fun v h2 g2 tk2' hi2 hB2 hs3 hz hn2 hk2 => ?_
    have hT : h'.get? (n2 + 0) = some (tupO #[.int a ta, .int ((xs.length : Int) - b) (tk2 + 0)]) := has_nth has' 6 rfl
    obtain ⟨t', ht'⟩ : ∃ t', ro.set (tk1 + 0) (.int (b : Int) (f i)) = .y t' (.int (b : Int) (f i)) := by cases ro <;> exact ⟨_, rfl⟩
    have ee1 := tups_app (v 0) 0 (if l.length = 0 then t' else v 8) (fun k => if k % 4 = 1 then n2 + 0 else tk2 + 0) v [(a, ta, (xs.length : Int) - b)] (pairsOf a ta xs.length l)
    have ee2 := refs_app (v 0) 0 (if l.length = 0 then t' else v 8) (fun k => if k % 4 = 1 then n2 + 0 else tk2 + 0) v [(a, ta, (xs.length : Int) - b)] (pairsOf a ta xs.length l)
    refine hR (vApp (v 0) 0 (if l.length = 0 then t' else v 8) [(a, ta, (xs.length : Int) - b)].length (fun k => if k % 4 = 1 then n2 + 0 else tk2 + 0) v) h2 g2 tk2' hi2 hB2 (Nat.le_trans (show h.objs.size ≤ h'.objs.size by exact ar77 q1 q4 q7 hs2) hs3) ?_ ?_ (keep_trans hk' hk2)
    · show HasZ h2 _ [_, _, lisO (os ++ (tupRefs (vApp _ _ _ _ _ _) 0 ([(a, ta, (xs.length : Int) - b)] ++ pairsOf a ta xs.length l)).toArray) (v 0), dicI P s a ta (.y (if l.length = 0 then t' else v 8) (nLast row f)), _, _]
      rw [ee2]
      have e3 : os ++ (tupRefs (fun k => if k % 4 = 1 then n2 + 0 else tk2 + 0) 0 [(a, ta, (xs.length : Int) - b)] ++ tupRefs v 0 (pairsOf a ta xs.length l)).toArray = os.push (.ref (n2 + 0)) ++ (tupRefs v 0 (pairsOf a ta xs.length l)).toArray := by
        apply Array.ext'
        simp [tupRefs]
      have e4 : roEnd v (ro.set (tk1 + 0) (.int (b : Int) (f i))) l (nLast row f) = .y (if l.length = 0 then t' else v 8) (nLast row f) := by
        unfold roEnd
        by_cases h0 : l.length = 0
        · rw [if_pos h0, if_pos h0, ht']
          have hl0 : l = [] := List.eq_nil_of_length_eq_zero h0
          have hi3 : i = row.length - 1 := by
            rw [hl0] at hd'
            have := List.drop_eq_nil_iff.mp hd'
            exact ar78 hil this
          have : nLast row f = .int (b : Int) (f i) := by
            unfold nLast
            rw [← hi3]
            have : row.getD i 0 = b := by simp [List.getD_eq_getElem?_getD, hx]
            rw [this]
          rw [this]
        · rw [if_neg h0, if_neg h0]
      rw [e3, ← e4]
      exact hasZ_same (pre' := dsE P sl se acc (eo + 1) r1 e1 L C it (i + 1) s ta a (intA xs xf) (os.push (.ref (n2 + 0))) (natA row f) (ro.set (tk1 + 0) (.int (b : Int) (f i)))) rfl rfl hz
    · show NewOk h h2 (tupsEnt (vApp _ _ _ _ _ _) 0 ([(a, ta, (xs.length : Int) - b)] ++ pairsOf a ta xs.length l))
      rw [ee1]
      refine newOk_app (h' := h') (ar77 q1 q4 q7 hs2) (fun p hp => ?_) (by simp [tupsEnt]) hn2 hk2 (fun x hx => lt_of_has has x hx) (fun p hp => ?_)
      · rw [List.mem_singleton.mp hp]
        exact ⟨show h.objs.size ≤ n2 + 0 by exact ar79 q1 q4, hT⟩
      · rw [List.mem_singleton.mp hp]
        exact fun hm => (WI K P fz).tlo _ hm ((WI K P fz).big h hi0 _ (show h.objs.size ≤ n2 + 0 by exact ar79 q1 q4))
end
noncomputable def stP (f0 : Nat → Nat) (row1 : List Nat) (n : Nat) : Nat → List Nat → List TP
  | _, [] => []
  | i, a :: l => pairsOf (a : Int) (f0 i) n row1 ++ stP f0 row1 n (i + 1) l
theorem stP_len (f0 : Nat → Nat) (row1 : List Nat) (n : Nat) : ∀ (l : List Nat) (i : Nat), (stP f0 row1 n i l).length = l.length * row1.length
  | [], i => by simp [stP]
  | a :: l, i => by
    rw [stP, List.length_append, stP_len f0 row1 n l, pairsOf, List.length_map, List.length_cons, Nat.succ_mul, Nat.add_comm]
noncomputable def ooEnd (v : Nat → Nat) (o : OO) (l : List Nat) (x y : Value) : OO := if l.length = 0 then o else .y (v 4) x (v 8) y
noncomputable abbrev doE (P : Params) (sl se acc eo r0 e0 r1 e1 L C it i tl te tc kt : Nat) (c k : Int) (ss os l0 l1 tr : Array Value) (o : OO) : List Ent :=
  [(sl, lisO ss se), (L + 1, celO (some (.ref sl))), (L + 2, celO (some (.ref tl))), (L + 3, celO (some (.int c tc))), (L + 4, celO (some (.int k kt))), (tl, lisO tr te), (r1, lisO l1 e1), (r0, lisO l0 e0), (acc, lisO os eo), (C, dicX P o), (it, litO r0 i)]
theorem tupRefs_len (v : Nat → Nat) : ∀ (l : List TP) (j : Nat), (tupRefs v j l).length = l.length
  | [], _ => rfl
  | _ :: l, j => by rw [tupRefs, List.length_cons, List.length_cons, tupRefs_len v l]
theorem pairsOf_len (a : Int) (ta n : Nat) (l : List Nat) : (pairsOf a ta n l).length = l.length := by simp [pairsOf]
theorem dicX_y (P : Params) (s t : Nat) (a : Int) (ta : Nat) (y : Value) : dicX P (.y s (.int a ta) t y) = dicI P s a ta (.y t y) := rfl
section
variable {K : Params → KT} [ok : Nonempty (KOk K)] {P : Params} {dr : Source → Nat → Nat} {fz : List Ent}
theorem con_dsI' (o : OkDs K) {sl se acc eo r1 e1 L C it s ta : Nat} {a : Int} {xs : List Int} {xf : Nat → Nat} {row : List Nat} {f : Nat → Nat} (hn : xs.length ≤ 900) (hl : row.length ≤ 1000) (hne : row ≠ []) {os : Array Value} (hos : os.size ≤ 1000000) (ro : RO) :
    CON K P dr fz (.compStart (dComp K P) 1 (.ref it) (.ref acc) (compE (dComp K P) (envC K P 211 L) C)) (dsE P sl se acc eo r1 e1 L C it 0 s ta a (intA xs xf) os (natA row f) ro) 30 120
        (fun v => ⟨.ok .next, [lisO (intA xs xf) se, celO (some (.ref sl)), lisO (os ++ (tupRefs v 0 (pairsOf a ta xs.length row)).toArray) (v 0), dicI P s a ta (.y (v 8) (nLast row f)), lisO (natA row f) e1, lendO row.length], tupsEnt v 0 (pairsOf a ta xs.length row)⟩) := by
  refine con_mono (dep := 20) (un := 80) (con_again (fun N tk => o.is P sl se acc eo r1 e1 L C it 0 s ta 0 a (intA xs xf) os (natA row f) ro N tk) (fun _ _ => rfl) ?_) (ar57) (ar58)
  have z := con_dsI (P := P) (dr := dr) (fz := fz) o (sl := sl) (se := se) (acc := acc) (r1 := r1) (e1 := e1) (L := L) (C := C) (it := it) (s := s) (ta := ta) (a := a) (xf := xf) (f := f) hn hl row 0 eo os ro rfl (ar80) (by omega)
  have e : ∀ v : Nat → Nat, roEnd v ro row (nLast row f) = .y (v 8) (nLast row f) := fun v => by
    unfold roEnd
    rw [if_neg]
    intro z
    exact hne (List.eq_nil_of_length_eq_zero z)
  simp only [e] at z
  exact z
theorem con_dsO (o : OkDs K) {sl se acc r0 e0 r1 e1 L C it tl te tc kt : Nat} {c k : Int} {xs : List Int} {xf : Nat → Nat} {row0 row1 : List Nat} {f0 f1 : Nat → Nat} {tr : Array Value} (hn : xs.length ≤ 900) (hl0 : row0.length ≤ 900) (hl1 : row1.length ≤ 900) (hne : row1 ≠ [])
    (h0 : 0 ≤ c - 1 - k) (h1 : c - 1 - k < 2 ^ 63) (hr1 : tr[(c - 1 - k).toNat]? = some (.ref r1)) :
    ∀ (l : List Nat) (i eo : Nat) (os : Array Value) (oo : OO), row0.drop i = l → i ≤ row0.length → os.size ≤ i * 1000 →
      CON K P dr fz (dsCode K P 0 it acc L C) (doE P sl se acc eo r0 e0 r1 e1 L C it i tl te tc kt c k (intA xs xf) os (natA row0 f0) (natA row1 f1) tr oo) 40 150
        (fun v => ⟨.ok .next, [lisO (intA xs xf) se, celO (some (.ref sl)), celO (some (.ref tl)), celO (some (.int c tc)), celO (some (.int k kt)), lisO tr te, lisO (natA row1 f1) e1, lisO (natA row0 f0) e0, lisO (os ++ (tupRefs v 0 (stP f0 row1 xs.length i l)).toArray) (v 0),
          dicX P (ooEnd v oo l (nLast row0 f0) (nLast row1 f1)), lendO row0.length], tupsEnt v 0 (stP f0 row1 xs.length i l)⟩)
  | [], i, eo, os, oo, hd, hi, hs => by
    have hi2 : i = row0.length := Nat.le_antisymm hi (List.drop_eq_nil_iff.mp hd)
    have hnx : (natA row0 f0)[i]? = none := by rw [natA_get, List.getElem?_eq_none (ar71 hi2)]; rfl
    refine con_by (fun N tk => o.oe P sl se acc eo r0 e0 r1 e1 L C it i tl te tc kt c k (intA xs xf) os (natA row0 f0) (natA row1 f1) tr oo N tk) fun A h d tk os' R room hi' hlt hlo nd hR => ?_
    refine ⟨con_bi bi_next (con_next_end hnx), fun v1 n1 tk1 q1 q2 h' g' hi' hB' hs' has' hk' => ?_⟩
    have hs2 : h'.objs.size = n1 := by simpa using hs'
    refine hR (fun _ => eo) h' g' _ hi' hB' (ar52 q1 hs2) ⟨has_nth has' 0 rfl, has_nth has' 1 rfl, has_nth has' 2 rfl, has_nth has' 3 rfl, has_nth has' 4 rfl, has_nth has' 5 rfl, has_nth has' 6 rfl, has_nth has' 7 rfl, ?_, has_nth has' 9 rfl, by rw [← hi2]; exact has_nth has' 10 rfl, trivial⟩ ⟨by simp [stP, tupsEnt], by simp [stP, tupsEnt]⟩ hk'
    have z : h'.get? acc = some (lisO os eo) := has_nth has' 8 rfl
    simpa [stP, tupRefs] using z
  | a :: l, i, eo, os, oo, hd, hi, hs => by
    have hil : i < row0.length := by
      have : (row0.drop i).length = l.length + 1 := by rw [hd]; rfl
      rw [List.length_drop] at this
      exact ar72 this
    have hx : row0[i]? = some a := by
      have := congrArg (fun l => l[0]?) hd
      simpa using this
    have hd' : row0.drop (i + 1) = l := by
      have := congrArg (fun l => l.drop 1) hd
      simpa [List.drop_drop, Nat.add_comm] using this
    have hnx : (natA row0 f0)[i]? = some (.int (a : Int) (f0 i)) := by rw [natA_get, hx]; rfl
    intro A h g d tk os' R room hi0 hB has hlo nd hR
    refine code_run (o.o P sl se acc eo r0 e0 r1 e1 L C it i tl te tc kt c k (intA xs xf) os (natA row0 f0) (natA row1 f1) tr oo a (f0 i) row1.length (fun v => os ++ (tupRefs v 0 (pairsOf a (f0 i) xs.length row1)).toArray) (nLast row1 f1) (fun v => tupsEnt v 0 (pairsOf a (f0 i) xs.length row1)) h.objs.size tk) room hi0 hB has hlo nd
      ⟨con_bi bi_next (con_next_item hnx), fun v1 n1 tk1 q1 q2 => ⟨con_bi bi_getitem (con_getitem h0 h1 hr1), fun v2 n2 tk2 q4 q5 => ⟨con_dsI' o hn (ar81 hl1) hne (ar82 hil hl0 hs) (oo.rest), fun v3 n3 tk3 q7 q8 h' g' hi' hB' hs' has' hk' => ?_⟩⟩⟩
    have hs2 : h'.objs.size = n3 := by simpa using hs'
    rw [app_eq] at has'
    have own11 : ∀ x ∈ [sl, L + 1, L + 2, L + 3, L + 4, tl, r1, r0, acc, C, it], OwnA fz x := own_ads (pre := doE P sl se acc eo r0 e0 r1 e1 L C it i tl te tc kt c k (intA xs xf) os (natA row0 f0) (natA row1 f1) tr oo) hlo
    have hsz3 : (os ++ (tupRefs v3 0 (pairsOf a (f0 i) xs.length row1)).toArray).size = os.size + row1.length := by
      simp [tupRefs_len, pairsOf_len]
    refine con_dsO o hn hl0 hl1 hne h0 h1 hr1 l (i + 1) (v3 0) (os ++ (tupRefs v3 0 (pairsOf a (f0 i) xs.length row1)).toArray) (.y (oo.key (tk1 + 0)) (.int (a : Int) (f0 i)) (v3 8) (nLast row1 f1)) hd' (ar75 hil) (by rw [hsz3]; exact ar83 hl1 hs)
      A h' g' d _ os' R room hi' hB' (fun p hp => has' p (List.mem_append_left _ (List.mem_append_left [_] hp))) (own_by own11) nd fun v h2 g2 tk2' hi2 hB2 hs3 hz hn2 hk2 => ?_
    have ee1 := tups_app (v 0) (if l.length = 0 then oo.key (tk1 + 0) else v 4) (if l.length = 0 then v3 8 else v 8) v3 v (pairsOf a (f0 i) xs.length row1) (stP f0 row1 xs.length (i + 1) l)
    have ee2 := refs_app (v 0) (if l.length = 0 then oo.key (tk1 + 0) else v 4) (if l.length = 0 then v3 8 else v 8) v3 v (pairsOf a (f0 i) xs.length row1) (stP f0 row1 xs.length (i + 1) l)
    have hsh : h.objs.size ≤ h'.objs.size := ar77 q1 q4 q7 hs2
    refine hR (vApp (v 0) (if l.length = 0 then oo.key (tk1 + 0) else v 4) (if l.length = 0 then v3 8 else v 8) (pairsOf a (f0 i) xs.length row1).length v3 v) h2 g2 tk2' hi2 hB2 (Nat.le_trans hsh hs3) ?_ ?_ (keep_trans hk' hk2)
    · show HasZ h2 _ [_, _, _, _, _, _, _, _, lisO (os ++ (tupRefs (vApp _ _ _ _ _ _) 0 (pairsOf a (f0 i) xs.length row1 ++ stP f0 row1 xs.length (i + 1) l)).toArray) (v 0), dicX P (.y (if l.length = 0 then oo.key (tk1 + 0) else v 4) (nLast row0 f0) (if l.length = 0 then v3 8 else v 8) (nLast row1 f1)), _]
      rw [ee2]
      have e3 : os ++ (tupRefs v3 0 (pairsOf a (f0 i) xs.length row1) ++ tupRefs v 0 (stP f0 row1 xs.length (i + 1) l)).toArray = (os ++ (tupRefs v3 0 (pairsOf a (f0 i) xs.length row1)).toArray) ++ (tupRefs v 0 (stP f0 row1 xs.length (i + 1) l)).toArray := by
        apply Array.ext'
        simp
      have e4 : ooEnd v (.y (oo.key (tk1 + 0)) (.int (a : Int) (f0 i)) (v3 8) (nLast row1 f1)) l (nLast row0 f0) (nLast row1 f1) = .y (if l.length = 0 then oo.key (tk1 + 0) else v 4) (nLast row0 f0) (if l.length = 0 then v3 8 else v 8) (nLast row1 f1) := by
        unfold ooEnd
        by_cases h0 : l.length = 0
        · rw [if_pos h0, if_pos h0, if_pos h0]
          have hl0 : l = [] := List.eq_nil_of_length_eq_zero h0
          have hi3 : i = row0.length - 1 := by
            rw [hl0] at hd'
            have := List.drop_eq_nil_iff.mp hd'
            exact ar78 hil this
          have : nLast row0 f0 = .int (a : Int) (f0 i) := by
            unfold nLast
            rw [← hi3]
            have : row0.getD i 0 = a := by simp [List.getD_eq_getElem?_getD, hx]
            rw [this]
          rw [this]
        · rw [if_neg h0, if_neg h0, if_neg h0]
      rw [e3, ← e4]
      exact hasZ_same (pre' := doE P sl se acc (v3 0) r0 e0 r1 e1 L C it (i + 1) tl te tc kt c k (intA xs xf) (os ++ (tupRefs v3 0 (pairsOf a (f0 i) xs.length row1)).toArray) (natA row0 f0) (natA row1 f1) tr (.y (oo.key (tk1 + 0)) (.int (a : Int) (f0 i)) (v3 8) (nLast row1 f1))) rfl rfl hz
    · show NewOk h h2 (tupsEnt (vApp _ _ _ _ _ _) 0 (pairsOf a (f0 i) xs.length row1 ++ stP f0 row1 xs.length (i + 1) l))
      rw [ee1]
      have hN : ∀ p ∈ tupsEnt v3 0 (pairsOf a (f0 i) xs.length row1), h.objs.size ≤ p.1 ∧ h'.get? p.1 = some p.2 := fun p hp => ⟨by have z2 : n2 + 1 ≤ p.1 := (q8.1 p hp).1; exact Nat.le_trans (show h.objs.size ≤ n2 + 1 by exact ar84 q1 q4) z2, has' p (List.mem_append_right _ hp)⟩
      exact newOk_app (h' := h') hsh hN q8.2 hn2 hk2 (fun x hx => lt_of_has has x hx) (fun p hp hm => (WI K P fz).tlo _ hm ((WI K P fz).big h hi0 _ (hN p hp).1))
theorem con_dsC (o : OkDs K) {sl se acc r0 e0 r1 e1 L C it tl te tc kt : Nat} {c k : Int} {xs : List Int} {xf : Nat → Nat} {row0 row1 : List Nat} {f0 f1 : Nat → Nat} {tr : Array Value} (hn : xs.length ≤ 900) (hl0 : row0.length ≤ 900) (hl1 : row1.length ≤ 900) (hne0 : row0 ≠ []) (hne : row1 ≠ [])
    (h0 : 0 ≤ c - 1 - k) (h1 : c - 1 - k < 2 ^ 63) (hr1 : tr[(c - 1 - k).toNat]? = some (.ref r1)) :
    CON K P dr fz (.compStart (dComp K P) 0 (.ref it) (.ref acc) (compE (dComp K P) (envC K P 211 L) C)) (doE P sl se acc 0 r0 e0 r1 e1 L C it 0 tl te tc kt c k (intA xs xf) #[] (natA row0 f0) (natA row1 f1) tr .e) 50 180
        (fun v => ⟨.ok .next, [lisO (intA xs xf) se, celO (some (.ref sl)), celO (some (.ref tl)), celO (some (.int c tc)), celO (some (.int k kt)), lisO tr te, lisO (natA row1 f1) e1, lisO (natA row0 f0) e0, lisO (tupRefs v 0 (stP f0 row1 xs.length 0 row0)).toArray (v 0),
          dicX P (.y (v 4) (nLast row0 f0) (v 8) (nLast row1 f1)), lendO row0.length], tupsEnt v 0 (stP f0 row1 xs.length 0 row0)⟩) := by
  refine con_mono (dep := 40) (un := 150) (con_again (fun N tk => o.os P sl se acc 0 r0 e0 r1 e1 L C it 0 tl te tc kt c k (intA xs xf) #[] (natA row0 f0) (natA row1 f1) tr N tk) (fun _ _ => rfl) ?_) (ar85) (ar86)
  have z := con_dsO (P := P) (dr := dr) (fz := fz) o (sl := sl) (se := se) (acc := acc) (r0 := r0) (e0 := e0) (r1 := r1) (e1 := e1) (L := L) (C := C) (it := it) (tl := tl) (te := te) (tc := tc) (kt := kt) (c := c) (k := k) (xf := xf) (f0 := f0) (f1 := f1) (tr := tr) hn hl0 hl1 hne h0 h1 hr1 row0 0 0 #[] .e rfl (ar80) (by simp)
  have e : ∀ v : Nat → Nat, ooEnd v .e row0 (nLast row0 f0) (nLast row1 f1) = .y (v 4) (nLast row0 f0) (v 8) (nLast row1 f1) := fun v => by
    unfold ooEnd
    rw [if_neg]
    intro z
    exact hne0 (List.eq_nil_of_length_eq_zero z)
  have e2 : ∀ l : List Value, (#[] : Array Value) ++ l.toArray = l.toArray := fun l => by apply Array.ext'; simp
  simp only [e, e2] at z
  exact z
end
noncomputable def fOwned := Fast.tw1578499551869305889
theorem fOwned_eq : letOwnedTupleGo = fOwned := Fast.te1578499551869305889
noncomputable def sc_e4a (K : Params → KT) (P : Params) (sl se L s0 tw s1 hl he s2 du de tl te tc : Nat) (W c : Int) (ss hr tr da : Array Value) (N tk : Nat) : Sc :=
  sF [0, 0, 7, 12, 12, 12, 12] (.ok (.ret (.ref (N + 0)))) [0, 1, 2, 3, 4, 5, 6, 7, 8, 9] [(sl, lisO ss se), (L, frD P s0 W tw s1 hl s2 du (.a)), (L + 1, celO (some (.ref sl))), (L + 2, celO (some (.ref tl))), (L + 3, celO (some (.int c tc))), (L + 4, celO (none)), (hl, lisO hr he), (tl, lisO tr te), (du, lisO da de), (N + 0, rngO 0 (tk + 0) c tc 1 (tk + 1))] 1 2
noncomputable def ok_e4a (K : Params → KT) : Prop := ∀ P sl se L s0 tw s1 hl he s2 du de tl te tc W c ss hr tr da N tk,
  RunsA K P 20 80 4000 (fEval (forQ (dFor K P)).iter (envC K P 211 L) >>= asFin) [(sl, lisO ss se), (L, frD P s0 W tw s1 hl s2 du (.a)), (L + 1, celO (some (.ref sl))), (L + 2, celO (some (.ref tl))), (L + 3, celO (some (.int c tc))), (L + 4, celO (none)), (hl, lisO hr he), (tl, lisO tr te), (du, lisO da de)] N tk (sc_e4a K P sl se L s0 tw s1 hl he s2 du de tl te tc W c ss hr tr da N tk)
noncomputable def sc_e4b (K : Params → KT) (P : Params) (sl se L s0 tw s1 hl he s2 du de tl te tc : Nat) (W c : Int) (ss hr tr da : Array Value) (rg ta tb : Nat) (N tk : Nat) : Sc :=
  sS [12, 12] (.call (.builtin "range.__iter__") ⟨[.ref rg], []⟩) [9] [(rg, rngO 0 ta c tc 1 tb)] 0 0 (fun v1 => ⟨.ok (.ret (.ref (v1 0))), [], [(v1 0, ritO 0 c 1)]⟩) 0 fun v1 n1 tk1 =>
  sF [13] (.ok (.ret (.ref (v1 0)))) [0, 1, 2, 3, 4, 5, 6, 7, 8, 10] [(sl, lisO ss se), (L, frD P s0 W tw s1 hl s2 du (.a)), (L + 1, celO (some (.ref sl))), (L + 2, celO (some (.ref tl))), (L + 3, celO (some (.int c tc))), (L + 4, celO (none)), (hl, lisO hr he), (tl, lisO tr te), (du, lisO da de), (v1 0, ritO 0 c 1)] 0 0
noncomputable def ok_e4b (K : Params → KT) : Prop := ∀ P sl se L s0 tw s1 hl he s2 du de tl te tc W c ss hr tr da rg ta tb N tk,
  RunsA K P 20 80 4000 (fPyIter (.ref rg) >>= asFin) [(sl, lisO ss se), (L, frD P s0 W tw s1 hl s2 du (.a)), (L + 1, celO (some (.ref sl))), (L + 2, celO (some (.ref tl))), (L + 3, celO (some (.int c tc))), (L + 4, celO (none)), (hl, lisO hr he), (tl, lisO tr te), (du, lisO da de), (rg, rngO 0 ta c tc 1 tb)] N tk (sc_e4b K P sl se L s0 tw s1 hl he s2 du de tl te tc W c ss hr tr da rg ta tb N tk)
noncomputable def sc_e5n (K : Params → KT) (P : Params) (sl se L s0 tw s1 hl he s2 du de tl te tc : Nat) (W c : Int) (ss hr tr da : Array Value) (it kt : Nat) (k m : Int) (x : Option Value) (l : Loc) (N tk : Nat) : Sc :=
  sS [12] (.call (.builtin "range_iterator.__next__") ⟨[.ref it], []⟩) [9] [(it, ritO k m 1)] 0 0 (fun v1 => ⟨.ok (.ret (.int k (v1 0))), [ritO (k + 1) (m - 1) 1], []⟩) 0 fun v1 n1 tk1 =>
  sF [] (.ok (.ret (.int k (v1 0)))) [0, 1, 2, 3, 4, 5, 6, 7, 8, 9] [(sl, lisO ss se), (L, frD P s0 W tw s1 hl s2 du (l)), (L + 1, celO (some (.ref sl))), (L + 2, celO (some (.ref tl))), (L + 3, celO (some (.int c tc))), (L + 4, celO (x)), (hl, lisO hr he), (tl, lisO tr te), (du, lisO da de), (it, ritO (k + 1) (m - 1) 1)] 0 0
noncomputable def ok_e5n (K : Params → KT) : Prop := ∀ P sl se L s0 tw s1 hl he s2 du de tl te tc W c ss hr tr da it kt k m x l N tk,
  RunsA K P 20 80 4000 (fPyNext (.ref it) >>= optFin) [(sl, lisO ss se), (L, frD P s0 W tw s1 hl s2 du (l)), (L + 1, celO (some (.ref sl))), (L + 2, celO (some (.ref tl))), (L + 3, celO (some (.int c tc))), (L + 4, celO (x)), (hl, lisO hr he), (tl, lisO tr te), (du, lisO da de), (it, ritO k m 1)] N tk (sc_e5n K P sl se L s0 tw s1 hl he s2 du de tl te tc W c ss hr tr da it kt k m x l N tk)
noncomputable def sc_e5e (K : Params → KT) (P : Params) (sl se L s0 tw s1 hl he s2 du de tl te tc : Nat) (W c : Int) (ss hr tr da : Array Value) (it kt : Nat) (k m : Int) (x : Option Value) (l : Loc) (N tk : Nat) : Sc :=
  sS [12] (.call (.builtin "range_iterator.__next__") ⟨[.ref it], []⟩) [9] [(it, ritO k m 1)] 0 0 (fun v1 => ⟨.error (.ref (v1 0)), [], [(v1 0, excStop (v1 1))]⟩) 0 fun v1 n1 tk1 =>
  sF [13] (.ok .next) [0, 1, 2, 3, 4, 5, 6, 7, 8, 9] [(sl, lisO ss se), (L, frD P s0 W tw s1 hl s2 du (l)), (L + 1, celO (some (.ref sl))), (L + 2, celO (some (.ref tl))), (L + 3, celO (some (.int c tc))), (L + 4, celO (x)), (hl, lisO hr he), (tl, lisO tr te), (du, lisO da de), (it, ritO k m 1)] 0 0
noncomputable def ok_e5e (K : Params → KT) : Prop := ∀ P sl se L s0 tw s1 hl he s2 du de tl te tc W c ss hr tr da it kt k m x l N tk,
  RunsA K P 20 80 4000 (fPyNext (.ref it) >>= optFin) [(sl, lisO ss se), (L, frD P s0 W tw s1 hl s2 du (l)), (L + 1, celO (some (.ref sl))), (L + 2, celO (some (.ref tl))), (L + 3, celO (some (.int c tc))), (L + 4, celO (x)), (hl, lisO hr he), (tl, lisO tr te), (du, lisO da de), (it, ritO k m 1)] N tk (sc_e5e K P sl se L s0 tw s1 hl he s2 du de tl te tc W c ss hr tr da it kt k m x l N tk)
noncomputable def sc_e5a (K : Params → KT) (P : Params) (sl se L s0 tw s1 hl he s2 du de tl te tc : Nat) (W c : Int) (ss hr tr da : Array Value) (it kt : Nat) (k m : Int) (k0 : Int) (x : Option Value) (l : Loc) (N tk : Nat) : Sc :=
  sF [8, 8] (.ok .next) [0, 1, 2, 3, 4, 5, 6, 7, 8, 9] [(sl, lisO ss se), (L, frD P s0 W tw s1 hl s2 du (l)), (L + 1, celO (some (.ref sl))), (L + 2, celO (some (.ref tl))), (L + 3, celO (some (.int c tc))), (L + 4, celO (some (.int k0 kt))), (hl, lisO hr he), (tl, lisO tr te), (du, lisO da de), (it, ritO k m 1)] 0 0
noncomputable def ok_e5a (K : Params → KT) : Prop := ∀ P sl se L s0 tw s1 hl he s2 du de tl te tc W c ss hr tr da it kt k m k0 x l N tk,
  RunsA K P 20 80 4000 (fAssign (forQ (dFor K P)).target (envC K P 211 L) (.int k0 kt) >>= unitFin) [(sl, lisO ss se), (L, frD P s0 W tw s1 hl s2 du (l)), (L + 1, celO (some (.ref sl))), (L + 2, celO (some (.ref tl))), (L + 3, celO (some (.int c tc))), (L + 4, celO (x)), (hl, lisO hr he), (tl, lisO tr te), (du, lisO da de), (it, ritO k m 1)] N tk (sc_e5a K P sl se L s0 tw s1 hl he s2 du de tl te tc W c ss hr tr da it kt k m k0 x l N tk)
noncomputable def sc_e6 (K : Params → KT) (P : Params) (sl se L s0 tw s1 hl he s2 du de tl te tc : Nat) (W c : Int) (ss hr tr da : Array Value) (it kt : Nat) (k m : Int) (k0 : Int) (l : Loc) (r0 e0 r1 e1 nl : Nat) (l0 l1 : Array Value) (AC : (Nat → Nat) → Array Value) (X Y : Value) (NEWS : (Nat → Nat) → List Ent) (N tk : Nat) : Sc :=
  sS [4, 8, 9, 9, 9] (.call (.builtin "list.__getitem__") ⟨[.ref hl, .int k0 kt], []⟩) [6] [(hl, lisO hr he)] 0 0 (fun v1 => ⟨.ok (.ret (.ref r0)), [], []⟩) 0 fun v1 n1 tk1 =>
  sS [14, 14, 14, 15] (.compStart (dComp K P) 0 (.ref (n1 + 0)) (.ref (n1 + 1)) (compE (dComp K P) (envC K P 211 L) (n1 + 2))) [0, 2, 3, 4, 5, 7, 10, 11, 13, 14, 12] [(sl, lisO ss se), (L + 1, celO (some (.ref sl))), (L + 2, celO (some (.ref tl))), (L + 3, celO (some (.int c tc))), (L + 4, celO (some (.int k0 kt))), (tl, lisO tr te), (r1, lisO l1 e1), (r0, lisO l0 e0), (n1 + 1, lisO #[] 0), (n1 + 2, dicX P .e), (n1 + 0, litO r0 0)] 50 180 (fun v2 => ⟨.ok .next, [lisO ss se, celO (some (.ref sl)), celO (some (.ref tl)), celO (some (.int c tc)), celO (some (.int k0 kt)), lisO tr te, lisO l1 e1, lisO l0 e0, lisO (AC v2) (v2 0), dicX P (.y (v2 4) X (v2 8) Y), lendO nl], NEWS v2⟩) 3 fun v2 n2 tk2 =>
  sH [4, 4, 17, 17, 17, 17, 17, 17] (.ok .next) (app [(sl, lisO ss se), (L, frD P s0 W tw s1 hl s2 du (l.setS (tk2 + 0) (.ref (n1 + 1)))), (L + 1, celO (some (.ref sl))), (L + 2, celO (some (.ref tl))), (L + 3, celO (some (.int c tc))), (L + 4, celO (some (.int k0 kt))), (hl, lisO hr he), (tl, lisO tr te), (du, lisO da de), (it, ritO k m 1), (r1, lisO l1 e1), (r0, lisO l0 e0), (n1 + 0, lendO nl), (n1 + 1, lisO (AC v2) (v2 0)), (n1 + 2, dicO #[] 4)] (NEWS v2)) 0 1
noncomputable def ok_e6 (K : Params → KT) : Prop := ∀ P sl se L s0 tw s1 hl he s2 du de tl te tc W c ss hr tr da it kt k m k0 l r0 e0 r1 e1 nl l0 l1 AC X Y NEWS N tk,
  RunsA K P 80 300 4000 (fExecs [dStr K P] (envC K P 211 L) >>= flFin) [(sl, lisO ss se), (L, frD P s0 W tw s1 hl s2 du (l)), (L + 1, celO (some (.ref sl))), (L + 2, celO (some (.ref tl))), (L + 3, celO (some (.int c tc))), (L + 4, celO (some (.int k0 kt))), (hl, lisO hr he), (tl, lisO tr te), (du, lisO da de), (it, ritO k m 1), (r1, lisO l1 e1), (r0, lisO l0 e0)] N tk (sc_e6 K P sl se L s0 tw s1 hl he s2 du de tl te tc W c ss hr tr da it kt k m k0 l r0 e0 r1 e1 nl l0 l1 AC X Y NEWS N tk)
noncomputable def sc_e7a (K : Params → KT) (P : Params) (sl se L s0 tw s1 hl he s2 du de tl te tc : Nat) (W c : Int) (ss hr tr da : Array Value) (it kt : Nat) (k m : Int) (k0 : Int) (l : Loc) (t st ste it2 i : Nat) (sts : Array Value) (N tk : Nat) : Sc :=
  sF [4] (.ok (.ret (.ref st))) [0, 1, 2, 3, 4, 5, 6, 7, 8, 9, 10] [(sl, lisO ss se), (L, frD P s0 W tw s1 hl s2 du (l.setS t (.ref st))), (L + 1, celO (some (.ref sl))), (L + 2, celO (some (.ref tl))), (L + 3, celO (some (.int c tc))), (L + 4, celO (some (.int k0 kt))), (hl, lisO hr he), (tl, lisO tr te), (du, lisO da de), (it, ritO k m 1), (st, lisO sts ste)] 0 0
noncomputable def ok_e7a (K : Params → KT) : Prop := ∀ P sl se L s0 tw s1 hl he s2 du de tl te tc W c ss hr tr da it kt k m k0 l t st ste it2 i sts N tk,
  RunsA K P 20 80 4000 (fEval (forQ (dFor2 K P)).iter (envC K P 211 L) >>= asFin) [(sl, lisO ss se), (L, frD P s0 W tw s1 hl s2 du (l.setS t (.ref st))), (L + 1, celO (some (.ref sl))), (L + 2, celO (some (.ref tl))), (L + 3, celO (some (.int c tc))), (L + 4, celO (some (.int k0 kt))), (hl, lisO hr he), (tl, lisO tr te), (du, lisO da de), (it, ritO k m 1), (st, lisO sts ste)] N tk (sc_e7a K P sl se L s0 tw s1 hl he s2 du de tl te tc W c ss hr tr da it kt k m k0 l t st ste it2 i sts N tk)
noncomputable def sc_e7b (K : Params → KT) (P : Params) (sl se L s0 tw s1 hl he s2 du de tl te tc : Nat) (W c : Int) (ss hr tr da : Array Value) (it kt : Nat) (k m : Int) (k0 : Int) (l : Loc) (t st ste it2 i : Nat) (sts : Array Value) (N tk : Nat) : Sc :=
  sF [13, 13, 13, 14] (.ok (.ret (.ref (N + 0)))) [0, 1, 2, 3, 4, 5, 6, 7, 8, 9, 10, 11] [(sl, lisO ss se), (L, frD P s0 W tw s1 hl s2 du (l.setS t (.ref st))), (L + 1, celO (some (.ref sl))), (L + 2, celO (some (.ref tl))), (L + 3, celO (some (.int c tc))), (L + 4, celO (some (.int k0 kt))), (hl, lisO hr he), (tl, lisO tr te), (du, lisO da de), (it, ritO k m 1), (st, lisO sts ste), (N + 0, litO st 0)] 1 0
noncomputable def ok_e7b (K : Params → KT) : Prop := ∀ P sl se L s0 tw s1 hl he s2 du de tl te tc W c ss hr tr da it kt k m k0 l t st ste it2 i sts N tk,
  RunsA K P 20 80 4000 (fPyIter (.ref st) >>= asFin) [(sl, lisO ss se), (L, frD P s0 W tw s1 hl s2 du (l.setS t (.ref st))), (L + 1, celO (some (.ref sl))), (L + 2, celO (some (.ref tl))), (L + 3, celO (some (.int c tc))), (L + 4, celO (some (.int k0 kt))), (hl, lisO hr he), (tl, lisO tr te), (du, lisO da de), (it, ritO k m 1), (st, lisO sts ste)] N tk (sc_e7b K P sl se L s0 tw s1 hl he s2 du de tl te tc W c ss hr tr da it kt k m k0 l t st ste it2 i sts N tk)
noncomputable def sc_e8n (K : Params → KT) (P : Params) (sl se L s0 tw s1 hl he s2 du de tl te tc : Nat) (W c : Int) (ss hr tr da : Array Value) (it kt : Nat) (k m : Int) (k0 : Int) (l : Loc) (t st ste it2 i : Nat) (sts : Array Value) (q : Nat) (N tk : Nat) : Sc :=
  sS [14] (.call (.builtin "list_iterator.__next__") ⟨[.ref it2], []⟩) [11, 10] [(it2, litO st i), (st, lisO sts ste)] 0 0 (fun v1 => ⟨.ok (.ret (.ref q)), [litO st (i + 1)], []⟩) 0 fun v1 n1 tk1 =>
  sF [] (.ok (.ret (.ref q))) [0, 1, 2, 3, 4, 5, 6, 7, 8, 9, 10, 11] [(sl, lisO ss se), (L, frD P s0 W tw s1 hl s2 du (l.setS t (.ref st))), (L + 1, celO (some (.ref sl))), (L + 2, celO (some (.ref tl))), (L + 3, celO (some (.int c tc))), (L + 4, celO (some (.int k0 kt))), (hl, lisO hr he), (tl, lisO tr te), (du, lisO da de), (it, ritO k m 1), (st, lisO sts ste), (it2, litO st (i + 1))] 0 0
noncomputable def ok_e8n (K : Params → KT) : Prop := ∀ P sl se L s0 tw s1 hl he s2 du de tl te tc W c ss hr tr da it kt k m k0 l t st ste it2 i sts q N tk,
  RunsA K P 20 80 4000 (fPyNext (.ref it2) >>= optFin) [(sl, lisO ss se), (L, frD P s0 W tw s1 hl s2 du (l.setS t (.ref st))), (L + 1, celO (some (.ref sl))), (L + 2, celO (some (.ref tl))), (L + 3, celO (some (.int c tc))), (L + 4, celO (some (.int k0 kt))), (hl, lisO hr he), (tl, lisO tr te), (du, lisO da de), (it, ritO k m 1), (st, lisO sts ste), (it2, litO st i)] N tk (sc_e8n K P sl se L s0 tw s1 hl he s2 du de tl te tc W c ss hr tr da it kt k m k0 l t st ste it2 i sts q N tk)
noncomputable def sc_e8e (K : Params → KT) (P : Params) (sl se L s0 tw s1 hl he s2 du de tl te tc : Nat) (W c : Int) (ss hr tr da : Array Value) (it kt : Nat) (k m : Int) (k0 : Int) (l : Loc) (t st ste it2 i : Nat) (sts : Array Value) (N tk : Nat) : Sc :=
  sS [14] (.call (.builtin "list_iterator.__next__") ⟨[.ref it2], []⟩) [11, 10] [(it2, litO st i), (st, lisO sts ste)] 0 0 (fun v1 => ⟨.error (.ref (v1 0)), [⟨.type "list_iterator", none, .fields #[.none, .int i 0], #[]⟩], [(v1 0, excStop (v1 1))]⟩) 0 fun v1 n1 tk1 =>
  sF [15] (.ok .next) [0, 1, 2, 3, 4, 5, 6, 7, 8, 9] [(sl, lisO ss se), (L, frD P s0 W tw s1 hl s2 du (l.setS t (.ref st))), (L + 1, celO (some (.ref sl))), (L + 2, celO (some (.ref tl))), (L + 3, celO (some (.int c tc))), (L + 4, celO (some (.int k0 kt))), (hl, lisO hr he), (tl, lisO tr te), (du, lisO da de), (it, ritO k m 1)] 0 0
noncomputable def ok_e8e (K : Params → KT) : Prop := ∀ P sl se L s0 tw s1 hl he s2 du de tl te tc W c ss hr tr da it kt k m k0 l t st ste it2 i sts N tk,
  RunsA K P 20 80 4000 (fPyNext (.ref it2) >>= optFin) [(sl, lisO ss se), (L, frD P s0 W tw s1 hl s2 du (l.setS t (.ref st))), (L + 1, celO (some (.ref sl))), (L + 2, celO (some (.ref tl))), (L + 3, celO (some (.int c tc))), (L + 4, celO (some (.int k0 kt))), (hl, lisO hr he), (tl, lisO tr te), (du, lisO da de), (it, ritO k m 1), (st, lisO sts ste), (it2, litO st i)] N tk (sc_e8e K P sl se L s0 tw s1 hl he s2 du de tl te tc W c ss hr tr da it kt k m k0 l t st ste it2 i sts N tk)
noncomputable def sc_e8o (K : Params → KT) (P : Params) (sl se L s0 tw s1 hl he s2 du de tl te tc : Nat) (W c : Int) (ss hr tr da : Array Value) (it kt : Nat) (k m : Int) (k0 : Int) (l : Loc) (t st ste it2 i : Nat) (sts : Array Value) (q : Nat) (vs : Array Value) (N tk : Nat) : Sc :=
  sF [14] (.ok .next) [0, 1, 2, 3, 4, 5, 6, 7, 8, 9, 10, 11, 12] [(sl, lisO ss se), (L, frD P s0 W tw s1 hl s2 du (l.setS t (.ref st))), (L + 1, celO (some (.ref sl))), (L + 2, celO (some (.ref tl))), (L + 3, celO (some (.int c tc))), (L + 4, celO (some (.int k0 kt))), (hl, lisO hr he), (tl, lisO tr te), (du, lisO da de), (it, ritO k m 1), (st, lisO sts ste), (it2, litO st i), (q, tupO vs)] 0 0
noncomputable def ok_e8o (K : Params → KT) : Prop := ∀ P sl se L s0 tw s1 hl he s2 du de tl te tc W c ss hr tr da it kt k m k0 l t st ste it2 i sts q vs N tk,
  RunsA K P 20 80 4000 (fOwned (forQ (dFor2 K P)).target (.ref it2) (.ref q) >>= unitFin) [(sl, lisO ss se), (L, frD P s0 W tw s1 hl s2 du (l.setS t (.ref st))), (L + 1, celO (some (.ref sl))), (L + 2, celO (some (.ref tl))), (L + 3, celO (some (.int c tc))), (L + 4, celO (some (.int k0 kt))), (hl, lisO hr he), (tl, lisO tr te), (du, lisO da de), (it, ritO k m 1), (st, lisO sts ste), (it2, litO st i), (q, tupO vs)] N tk (sc_e8o K P sl se L s0 tw s1 hl he s2 du de tl te tc W c ss hr tr da it kt k m k0 l t st ste it2 i sts q vs N tk)
noncomputable def sc_e8a (K : Params → KT) (P : Params) (sl se L s0 tw s1 hl he s2 du de tl te tc : Nat) (W c : Int) (ss hr tr da : Array Value) (it kt : Nat) (k m : Int) (k0 : Int) (l : Loc) (t st ste it2 i : Nat) (sts : Array Value) (q ta tb : Nat) (a b : Int) (N tk : Nat) : Sc :=
  sF [15, 15, 15, 15, 16, 16, 16, 16, 16, 15, 16, 16, 16, 16, 16, 16, 15, 16, 16, 16, 16, 16, 16, 15, 16, 16, 18, 4, 4, 4, 4] (.ok .next) [0, 1, 2, 3, 4, 5, 6, 7, 8, 9, 10, 11, 12] [(sl, lisO ss se), (L, frD P s0 W tw s1 hl s2 du ((l.setS t (.ref st)).setE (tk + 0) (.int a ta) (tk + 1) (.int b tb))), (L + 1, celO (some (.ref sl))), (L + 2, celO (some (.ref tl))), (L + 3, celO (some (.int c tc))), (L + 4, celO (some (.int k0 kt))), (hl, lisO hr he), (tl, lisO tr te), (du, lisO da de), (it, ritO k m 1), (st, lisO sts ste), (it2, litO st i), (q, tupO #[.int a ta, .int b tb])] 3 2
noncomputable def ok_e8a (K : Params → KT) : Prop := ∀ P sl se L s0 tw s1 hl he s2 du de tl te tc W c ss hr tr da it kt k m k0 l t st ste it2 i sts q ta tb a b N tk,
  RunsA K P 20 80 4000 (fAssign (forQ (dFor2 K P)).target (envC K P 211 L) (.ref q) >>= unitFin) [(sl, lisO ss se), (L, frD P s0 W tw s1 hl s2 du (l.setS t (.ref st))), (L + 1, celO (some (.ref sl))), (L + 2, celO (some (.ref tl))), (L + 3, celO (some (.int c tc))), (L + 4, celO (some (.int k0 kt))), (hl, lisO hr he), (tl, lisO tr te), (du, lisO da de), (it, ritO k m 1), (st, lisO sts ste), (it2, litO st i), (q, tupO #[.int a ta, .int b tb])] N tk (sc_e8a K P sl se L s0 tw s1 hl he s2 du de tl te tc W c ss hr tr da it kt k m k0 l t st ste it2 i sts q ta tb a b N tk)
noncomputable def sc_e8t (K : Params → KT) (P : Params) (sl se L s0 tw s1 hl he s2 du de tl te tc : Nat) (W c : Int) (ss hr tr da : Array Value) (it kt : Nat) (k m : Int) (k0 : Int) (l : Loc) (t st ste it2 i : Nat) (sts : Array Value) (t1 t2 ta tb : Nat) (a b : Int) (r : Bool) (N tk : Nat) : Sc :=
  sS [0, 5, 4, 4, 4, 0] (.call (.ref 201) ⟨[.ref sl, .int a ta, .int b tb, .int W tw], []⟩) [0] [(sl, lisO ss se)] 40 150 (fun v1 => ⟨.ok (.ret (.bool r)), [], []⟩) 0 fun v1 n1 tk1 =>
  sF [] (.ok (.ret (.bool r))) [0, 1, 2, 3, 4, 5, 6, 7, 8, 9, 10, 11] [(sl, lisO ss se), (L, frD P s0 W tw s1 hl s2 du ((l.setS t (.ref st)).setE t1 (.int a ta) t2 (.int b tb))), (L + 1, celO (some (.ref sl))), (L + 2, celO (some (.ref tl))), (L + 3, celO (some (.int c tc))), (L + 4, celO (some (.int k0 kt))), (hl, lisO hr he), (tl, lisO tr te), (du, lisO da de), (it, ritO k m 1), (st, lisO sts ste), (it2, litO st i)] 0 0
noncomputable def ok_e8t (K : Params → KT) : Prop := ∀ P sl se L s0 tw s1 hl he s2 du de tl te tc W c ss hr tr da it kt k m k0 l t st ste it2 i sts t1 t2 ta tb a b r N tk,
  RunsA K P 50 180 4000 (fIsTrue (ifT (dIf K P)) (envC K P 211 L) (fEval (ifT (dIf K P)) (envC K P 211 L)) >>= boolFin) [(sl, lisO ss se), (L, frD P s0 W tw s1 hl s2 du ((l.setS t (.ref st)).setE t1 (.int a ta) t2 (.int b tb))), (L + 1, celO (some (.ref sl))), (L + 2, celO (some (.ref tl))), (L + 3, celO (some (.int c tc))), (L + 4, celO (some (.int k0 kt))), (hl, lisO hr he), (tl, lisO tr te), (du, lisO da de), (it, ritO k m 1), (st, lisO sts ste), (it2, litO st i)] N tk (sc_e8t K P sl se L s0 tw s1 hl he s2 du de tl te tc W c ss hr tr da it kt k m k0 l t st ste it2 i sts t1 t2 ta tb a b r N tk)
noncomputable def sc_e9a (K : Params → KT) (P : Params) (sl se L s0 tw s1 hl he s2 du de tl te tc : Nat) (W c : Int) (ss hr tr da : Array Value) (it kt : Nat) (k m : Int) (k0 : Int) (l : Loc) (t st ste it2 i : Nat) (sts : Array Value) (t1 t2 ta tb : Nat) (a b : Int) (N tk : Nat) : Sc :=
  sF [0, 0, 4, 4, 15, 15, 15, 15] (.ok (.ret (.ref (N + 0)))) [0, 1, 2, 3, 4, 5, 6, 7, 8, 9, 10, 11, 12] [(sl, lisO ss se), (L, frD P s0 W tw s1 hl s2 du ((l.setS t (.ref st)).setE t1 (.int a ta) t2 (.int b tb))), (L + 1, celO (some (.ref sl))), (L + 2, celO (some (.ref tl))), (L + 3, celO (some (.int c tc))), (L + 4, celO (some (.int k0 kt))), (hl, lisO hr he), (tl, lisO tr te), (du, lisO da de), (it, ritO k m 1), (st, lisO sts ste), (it2, litO st i), (N + 0, rngO a ta b tb 1 (tk + 0))] 1 1
noncomputable def ok_e9a (K : Params → KT) : Prop := ∀ P sl se L s0 tw s1 hl he s2 du de tl te tc W c ss hr tr da it kt k m k0 l t st ste it2 i sts t1 t2 ta tb a b N tk,
  RunsA K P 20 80 4000 (fEval (forQ (dFor3 K P)).iter (envC K P 211 L) >>= asFin) [(sl, lisO ss se), (L, frD P s0 W tw s1 hl s2 du ((l.setS t (.ref st)).setE t1 (.int a ta) t2 (.int b tb))), (L + 1, celO (some (.ref sl))), (L + 2, celO (some (.ref tl))), (L + 3, celO (some (.int c tc))), (L + 4, celO (some (.int k0 kt))), (hl, lisO hr he), (tl, lisO tr te), (du, lisO da de), (it, ritO k m 1), (st, lisO sts ste), (it2, litO st i)] N tk (sc_e9a K P sl se L s0 tw s1 hl he s2 du de tl te tc W c ss hr tr da it kt k m k0 l t st ste it2 i sts t1 t2 ta tb a b N tk)
noncomputable def sc_e9b (K : Params → KT) (P : Params) (sl se L s0 tw s1 hl he s2 du de tl te tc : Nat) (W c : Int) (ss hr tr da : Array Value) (it kt : Nat) (k m : Int) (k0 : Int) (l : Loc) (t st ste it2 i : Nat) (sts : Array Value) (t1 t2 ta tb : Nat) (a b : Int) (rg tz : Nat) (mm : Int) (N tk : Nat) : Sc :=
  sS [15, 15] (.call (.builtin "range.__iter__") ⟨[.ref rg], []⟩) [12] [(rg, rngO a ta b tb 1 tz)] 0 0 (fun v1 => ⟨.ok (.ret (.ref (v1 0))), [], [(v1 0, ritO a mm 1)]⟩) 0 fun v1 n1 tk1 =>
  sF [16] (.ok (.ret (.ref (v1 0)))) [0, 1, 2, 3, 4, 5, 6, 7, 8, 9, 10, 11, 13] [(sl, lisO ss se), (L, frD P s0 W tw s1 hl s2 du ((l.setS t (.ref st)).setE t1 (.int a ta) t2 (.int b tb))), (L + 1, celO (some (.ref sl))), (L + 2, celO (some (.ref tl))), (L + 3, celO (some (.int c tc))), (L + 4, celO (some (.int k0 kt))), (hl, lisO hr he), (tl, lisO tr te), (du, lisO da de), (it, ritO k m 1), (st, lisO sts ste), (it2, litO st i), (v1 0, ritO a mm 1)] 0 0
noncomputable def ok_e9b (K : Params → KT) : Prop := ∀ P sl se L s0 tw s1 hl he s2 du de tl te tc W c ss hr tr da it kt k m k0 l t st ste it2 i sts t1 t2 ta tb a b rg tz mm N tk,
  RunsA K P 20 80 4000 (fPyIter (.ref rg) >>= asFin) [(sl, lisO ss se), (L, frD P s0 W tw s1 hl s2 du ((l.setS t (.ref st)).setE t1 (.int a ta) t2 (.int b tb))), (L + 1, celO (some (.ref sl))), (L + 2, celO (some (.ref tl))), (L + 3, celO (some (.int c tc))), (L + 4, celO (some (.int k0 kt))), (hl, lisO hr he), (tl, lisO tr te), (du, lisO da de), (it, ritO k m 1), (st, lisO sts ste), (it2, litO st i), (rg, rngO a ta b tb 1 tz)] N tk (sc_e9b K P sl se L s0 tw s1 hl he s2 du de tl te tc W c ss hr tr da it kt k m k0 l t st ste it2 i sts t1 t2 ta tb a b rg tz mm N tk)
noncomputable def sc_e10a (K : Params → KT) (P : Params) (sl se L s0 tw s1 hl he s2 du de tl te tc : Nat) (W c : Int) (ss hr tr da : Array Value) (it kt : Nat) (k m : Int) (k0 : Int) (l : Loc) (t st ste it2 i : Nat) (sts : Array Value) (t1 t2 ta tb : Nat) (a b : Int) (it3 rd re : Nat) (j mm : Int) (ds : Array Value) (N tk : Nat) : Sc :=
  sS [15] (.call (.builtin "range_iterator.__next__") ⟨[.ref it3], []⟩) [12] [(it3, ritO j mm 1)] 0 0 (fun v1 => ⟨.ok (.ret (.int j (v1 0))), [ritO (j + 1) (mm - 1) 1], []⟩) 0 fun v1 n1 tk1 =>
  sS [4, 4, 8, 4, 4, 11, 11, 11] (.call (.builtin "list.__getitem__") ⟨[.ref du, .int j (v1 0)], []⟩) [8] [(du, lisO da de)] 0 0 (fun v2 => ⟨.ok (.ret (.ref rd)), [], []⟩) 0 fun v2 n2 tk2 =>
  sS [16, 16] (.call (.builtin "list.__contains__") ⟨[.ref rd, .int k0 kt], []⟩) [13] [(rd, lisO ds re)] 0 0 (fun v3 => ⟨.ok (.ret (.bool false)), [], []⟩) 0 fun v3 n3 tk3 =>
  sS [4, 4, 11, 11, 11] (.call (.builtin "list.__getitem__") ⟨[.ref du, .int j (v1 0)], []⟩) [8] [(du, lisO da de)] 0 0 (fun v4 => ⟨.ok (.ret (.ref rd)), [], []⟩) 0 fun v4 n4 tk4 =>
  sS [16, 16, 16, 16, 8] (.call (.builtin "list.append") ⟨[.ref rd, .int k0 kt], []⟩) [13] [(rd, lisO ds re)] 0 0 (fun v5 => ⟨.ok (.ret .none), [lisO (ds.push (.int k0 kt)) (re + 1)], []⟩) 0 fun v5 n5 tk5 =>
  sG [] (.forLoop (forQ (dFor3 K P)).target (.ref it3) (forQ (dFor3 K P)).body (forQ (dFor3 K P)).els (envC K P 211 L)) [0, 1, 2, 3, 4, 5, 6, 7, 8, 9, 10, 11, 12, 13] [(sl, lisO ss se), (L, frD P s0 W tw s1 hl s2 du (((l.setS t (.ref st)).setE t1 (.int a ta) t2 (.int b tb)).setP (tk1 + 0) (.int j (v1 0)))), (L + 1, celO (some (.ref sl))), (L + 2, celO (some (.ref tl))), (L + 3, celO (some (.int c tc))), (L + 4, celO (some (.int k0 kt))), (hl, lisO hr he), (tl, lisO tr te), (du, lisO da de), (it, ritO k m 1), (st, lisO sts ste), (it2, litO st i), (it3, ritO (j + 1) (mm - 1) 1), (rd, lisO (ds.push (.int k0 kt)) (re + 1))] 0 0
noncomputable def ok_e10a (K : Params → KT) : Prop := ∀ P sl se L s0 tw s1 hl he s2 du de tl te tc W c ss hr tr da it kt k m k0 l t st ste it2 i sts t1 t2 ta tb a b it3 rd re j mm ds N tk,
  RunsTo K P 60 220 4000 (.forLoop (forQ (dFor3 K P)).target (.ref it3) (forQ (dFor3 K P)).body (forQ (dFor3 K P)).els (envC K P 211 L)) [(sl, lisO ss se), (L, frD P s0 W tw s1 hl s2 du ((l.setS t (.ref st)).setE t1 (.int a ta) t2 (.int b tb))), (L + 1, celO (some (.ref sl))), (L + 2, celO (some (.ref tl))), (L + 3, celO (some (.int c tc))), (L + 4, celO (some (.int k0 kt))), (hl, lisO hr he), (tl, lisO tr te), (du, lisO da de), (it, ritO k m 1), (st, lisO sts ste), (it2, litO st i), (it3, ritO j mm 1), (rd, lisO ds re)] N tk (sc_e10a K P sl se L s0 tw s1 hl he s2 du de tl te tc W c ss hr tr da it kt k m k0 l t st ste it2 i sts t1 t2 ta tb a b it3 rd re j mm ds N tk)
noncomputable def sc_e10b (K : Params → KT) (P : Params) (sl se L s0 tw s1 hl he s2 du de tl te tc : Nat) (W c : Int) (ss hr tr da : Array Value) (it kt : Nat) (k m : Int) (k0 : Int) (l : Loc) (t st ste it2 i : Nat) (sts : Array Value) (t1 t2 ta tb : Nat) (a b : Int) (it3 rd re : Nat) (j mm : Int) (ds : Array Value) (N tk : Nat) : Sc :=
  sS [15] (.call (.builtin "range_iterator.__next__") ⟨[.ref it3], []⟩) [12] [(it3, ritO j mm 1)] 0 0 (fun v1 => ⟨.ok (.ret (.int j (v1 0))), [ritO (j + 1) (mm - 1) 1], []⟩) 0 fun v1 n1 tk1 =>
  sS [4, 4, 8, 4, 4, 11, 11, 11] (.call (.builtin "list.__getitem__") ⟨[.ref du, .int j (v1 0)], []⟩) [8] [(du, lisO da de)] 0 0 (fun v2 => ⟨.ok (.ret (.ref rd)), [], []⟩) 0 fun v2 n2 tk2 =>
  sS [16, 16] (.call (.builtin "list.__contains__") ⟨[.ref rd, .int k0 kt], []⟩) [13] [(rd, lisO ds re)] 0 0 (fun v3 => ⟨.ok (.ret (.bool true)), [], []⟩) 0 fun v3 n3 tk3 =>
  sG [] (.forLoop (forQ (dFor3 K P)).target (.ref it3) (forQ (dFor3 K P)).body (forQ (dFor3 K P)).els (envC K P 211 L)) [0, 1, 2, 3, 4, 5, 6, 7, 8, 9, 10, 11, 12, 13] [(sl, lisO ss se), (L, frD P s0 W tw s1 hl s2 du (((l.setS t (.ref st)).setE t1 (.int a ta) t2 (.int b tb)).setP (tk1 + 0) (.int j (v1 0)))), (L + 1, celO (some (.ref sl))), (L + 2, celO (some (.ref tl))), (L + 3, celO (some (.int c tc))), (L + 4, celO (some (.int k0 kt))), (hl, lisO hr he), (tl, lisO tr te), (du, lisO da de), (it, ritO k m 1), (st, lisO sts ste), (it2, litO st i), (it3, ritO (j + 1) (mm - 1) 1), (rd, lisO ds re)] 0 0
noncomputable def ok_e10b (K : Params → KT) : Prop := ∀ P sl se L s0 tw s1 hl he s2 du de tl te tc W c ss hr tr da it kt k m k0 l t st ste it2 i sts t1 t2 ta tb a b it3 rd re j mm ds N tk,
  RunsTo K P 60 220 4000 (.forLoop (forQ (dFor3 K P)).target (.ref it3) (forQ (dFor3 K P)).body (forQ (dFor3 K P)).els (envC K P 211 L)) [(sl, lisO ss se), (L, frD P s0 W tw s1 hl s2 du ((l.setS t (.ref st)).setE t1 (.int a ta) t2 (.int b tb))), (L + 1, celO (some (.ref sl))), (L + 2, celO (some (.ref tl))), (L + 3, celO (some (.int c tc))), (L + 4, celO (some (.int k0 kt))), (hl, lisO hr he), (tl, lisO tr te), (du, lisO da de), (it, ritO k m 1), (st, lisO sts ste), (it2, litO st i), (it3, ritO j mm 1), (rd, lisO ds re)] N tk (sc_e10b K P sl se L s0 tw s1 hl he s2 du de tl te tc W c ss hr tr da it kt k m k0 l t st ste it2 i sts t1 t2 ta tb a b it3 rd re j mm ds N tk)
noncomputable def sc_e10e (K : Params → KT) (P : Params) (sl se L s0 tw s1 hl he s2 du de tl te tc : Nat) (W c : Int) (ss hr tr da : Array Value) (it kt : Nat) (k m : Int) (k0 : Int) (l : Loc) (t st ste it2 i : Nat) (sts : Array Value) (t1 t2 ta tb : Nat) (a b : Int) (it3 : Nat) (j mm : Int) (N tk : Nat) : Sc :=
  sS [15] (.call (.builtin "range_iterator.__next__") ⟨[.ref it3], []⟩) [12] [(it3, ritO j mm 1)] 0 0 (fun v1 => ⟨.error (.ref (v1 0)), [], [(v1 0, excStop (v1 1))]⟩) 0 fun v1 n1 tk1 =>
  sF [16] (.ok .next) [0, 1, 2, 3, 4, 5, 6, 7, 8, 9, 10, 11] [(sl, lisO ss se), (L, frD P s0 W tw s1 hl s2 du ((l.setS t (.ref st)).setE t1 (.int a ta) t2 (.int b tb))), (L + 1, celO (some (.ref sl))), (L + 2, celO (some (.ref tl))), (L + 3, celO (some (.int c tc))), (L + 4, celO (some (.int k0 kt))), (hl, lisO hr he), (tl, lisO tr te), (du, lisO da de), (it, ritO k m 1), (st, lisO sts ste), (it2, litO st i)] 0 0
noncomputable def ok_e10e (K : Params → KT) : Prop := ∀ P sl se L s0 tw s1 hl he s2 du de tl te tc W c ss hr tr da it kt k m k0 l t st ste it2 i sts t1 t2 ta tb a b it3 j mm N tk,
  RunsTo K P 60 220 4000 (.forLoop (forQ (dFor3 K P)).target (.ref it3) (forQ (dFor3 K P)).body (forQ (dFor3 K P)).els (envC K P 211 L)) [(sl, lisO ss se), (L, frD P s0 W tw s1 hl s2 du ((l.setS t (.ref st)).setE t1 (.int a ta) t2 (.int b tb))), (L + 1, celO (some (.ref sl))), (L + 2, celO (some (.ref tl))), (L + 3, celO (some (.int c tc))), (L + 4, celO (some (.int k0 kt))), (hl, lisO hr he), (tl, lisO tr te), (du, lisO da de), (it, ritO k m 1), (st, lisO sts ste), (it2, litO st i), (it3, ritO j mm 1)] N tk (sc_e10e K P sl se L s0 tw s1 hl he s2 du de tl te tc W c ss hr tr da it kt k m k0 l t st ste it2 i sts t1 t2 ta tb a b it3 j mm N tk)
noncomputable def sc_e11 (K : Params → KT) (P : Params) (sl se L s0 tw s1 hl he s2 du de tl te tc : Nat) (W c : Int) (ss hr tr da : Array Value) (x : Option Value) (l : Loc) (N tk : Nat) : Sc :=
  sF [7, 4] (.ok (.ret (.ref (N + 0)))) [0, 1, 2, 3, 4, 5, 6, 7, 8, 9] [(sl, lisO ss se), (L, frD P s0 W tw s1 hl s2 du (l)), (L + 1, celO (some (.ref sl))), (L + 2, celO (some (.ref tl))), (L + 3, celO (some (.int c tc))), (L + 4, celO (x)), (hl, lisO hr he), (tl, lisO tr te), (du, lisO da de), (N + 0, tupO #[.int c tc, .ref du])] 1 0
noncomputable def ok_e11 (K : Params → KT) : Prop := ∀ P sl se L s0 tw s1 hl he s2 du de tl te tc W c ss hr tr da x l N tk,
  RunsA K P 20 80 4000 (fExecs [stmtOf K P 211 5] (envC K P 211 L) >>= flFin) [(sl, lisO ss se), (L, frD P s0 W tw s1 hl s2 du (l)), (L + 1, celO (some (.ref sl))), (L + 2, celO (some (.ref tl))), (L + 3, celO (some (.int c tc))), (L + 4, celO (x)), (hl, lisO hr he), (tl, lisO tr te), (du, lisO da de)] N tk (sc_e11 K P sl se L s0 tw s1 hl he s2 du de tl te tc W c ss hr tr da x l N tk)
section
variable (K : Params → KT) [ok : Nonempty (KOk K)] (P : Params)
noncomputable def KeepB (W : IV) (N0 : Nat) (lo : List Addr) (h h' : Heap) : Prop := ∀ b o, b < N0 → b ∉ lo → b ∉ W.tabs → h.get? b = some o → h'.get? b = some o
structure St (N0 : Nat) (lo : List Addr) (FZ es : List Ent) (h : Heap) (g : Array GenState) : Prop where
  inv : inv K P FZ h
  bare : AllBare g
  has : Has h es
  own : ∀ p ∈ es, OwnA FZ p.1
  nd : (es.map (·.1)).Nodup
  low : ∀ p ∈ es, p.1 ∈ lo ∨ N0 ≤ p.1
  sz : N0 ≤ h.objs.size
end
section
variable {K : Params → KT} [ok : Nonempty (KOk K)] {P : Params} {dr : Source → Nat → Nat}
variable {N0 : Nat} {lo : List Addr} {FZ es : List Ent} {h h2 : Heap} {g g2 : Array GenState}
theorem KeepB.trans {W : IV} {h3 : Heap} (k : KeepB W N0 lo h h2) (k2 : KeepB W N0 lo h2 h3) : KeepB W N0 lo h h3 := fun b o h1 h4 h5 e => k2 b o h1 h4 h5 (k b o h1 h4 h5 e)
theorem KeepB.refl {W : IV} : KeepB W N0 lo h h := fun _ _ _ _ _ e => e
theorem St.go (st : St K P N0 lo FZ es h g) {sel : List Ent} (hi2 : Mine.inv K P FZ h2) (hB2 : AllBare g2) (has2 : Has h2 sel)
    (hk : Keep (WI K P FZ) h h2 (es.map (·.1))) (hf : FineA FZ h (es.map (·.1)) sel h2) : St K P N0 lo FZ sel h2 g2 ∧ KeepB (WI K P []) N0 lo h h2 := by
  refine ⟨⟨hi2, hB2, has2, hf.2.1, hf.1, fun p hp => ?_, Nat.le_trans st.sz hf.2.2.2⟩, fun b o h1 h3 h4 e => hk b o e (fun hm => ?_) h4⟩
  · rcases hf.2.2.1 p hp with z | z
    · obtain ⟨q, hq, e⟩ := List.mem_map.mp z
      exact e ▸ st.low q hq
    · exact .inr (Nat.le_trans st.sz z)
  · obtain ⟨q, hq, e⟩ := List.mem_map.mp hm
    rcases st.low q hq with z | z
    · exact h3 (e ▸ z)
    · exact absurd h1 (Nat.not_lt_of_le (e ▸ z))
theorem St.sub (st : St K P N0 lo FZ es h g) {es' : List Ent} (hs : ∀ p ∈ es', p ∈ es) (nd : (es'.map (·.1)).Nodup) : St K P N0 lo FZ es' h g :=
  ⟨st.inv, st.bare, fun p hp => st.has p (hs p hp), fun p hp => st.own p (hs p hp), nd, fun p hp => st.low p (hs p hp), st.sz⟩
theorem St.left {es' : List Ent} (st : St K P N0 lo FZ (es ++ es') h g) : St K P N0 lo FZ es h g :=
  st.sub (fun p hp => List.mem_append_left _ hp) (by
    have := st.nd
    rw [List.map_append, List.nodup_append] at this
    exact this.1)
theorem St.freeze {ns : List Ent} (st : St K P N0 lo FZ (es ++ ns) h g) : St K P N0 lo (ns ++ FZ) es h g := by
  have nd := st.nd
  rw [List.map_append, List.nodup_append] at nd
  refine ⟨⟨st.inv.1, st.inv.2.1, st.inv.2.2.1, st.inv.2.2.2.1, fun p hp => ?_, fun p hp => ?_⟩, st.bare, fun p hp => st.has p (List.mem_append_left _ hp), fun p hp => ?_, nd.1, fun p hp => st.low p (List.mem_append_left _ hp), st.sz⟩
  · rcases List.mem_append.mp hp with hp | hp
    · exact st.has p (List.mem_append_right _ hp)
    · exact st.inv.2.2.2.2.1 p hp
  · rcases List.mem_append.mp hp with hp | hp
    · exact OwnA.ge (st.own p (List.mem_append_right _ hp))
    · exact st.inv.2.2.2.2.2 p hp
  · have q := st.own p (List.mem_append_left _ hp)
    refine ⟨q.1, fun hm => ?_⟩
    rw [List.map_append] at hm
    rcases List.mem_append.mp hm with hm | hm
    · exact nd.2.2 _ (List.mem_map.mpr ⟨p, hp, rfl⟩) _ hm rfl
    · exact q.2 hm
noncomputable def but (FZ : List Ent) (a : Nat) : List Ent := FZ.filter fun p => !(p.1 == a)
theorem mem_but {FZ : List Ent} {a : Nat} {p : Ent} : p ∈ but FZ a ↔ p ∈ FZ ∧ p.1 ≠ a := by
  unfold but
  rw [List.mem_filter]
  simp
theorem St.thaw (st : St K P N0 lo FZ es h g) {a : Nat} {o : Obj} (hm : (a, o) ∈ FZ) (ha : N0 ≤ a) : St K P N0 lo (but FZ a) (es ++ [(a, o)]) h g := by
  have hget : h.get? a = some o := st.inv.2.2.2.2.1 _ hm
  refine ⟨⟨st.inv.1, st.inv.2.1, st.inv.2.2.1, st.inv.2.2.2.1, fun p hp => st.inv.2.2.2.2.1 p (mem_but.mp hp).1, fun p hp => st.inv.2.2.2.2.2 p (mem_but.mp hp).1⟩, st.bare, fun p hp => ?_, fun p hp => ?_, ?_, fun p hp => ?_, st.sz⟩
  · rcases List.mem_append.mp hp with hp | hp
    · exact st.has p hp
    · rw [List.mem_singleton.mp hp]; exact hget
  · rcases List.mem_append.mp hp with hp | hp
    · have q := st.own p hp
      refine ⟨q.1, fun hm2 => q.2 ?_⟩
      obtain ⟨r, hr, e⟩ := List.mem_map.mp hm2
      exact List.mem_map.mpr ⟨r, (mem_but.mp hr).1, e⟩
    · rw [List.mem_singleton.mp hp]
      refine ⟨st.inv.2.2.2.2.2 _ hm, fun hm2 => ?_⟩
      obtain ⟨r, hr, e⟩ := List.mem_map.mp hm2
      exact (mem_but.mp hr).2 e
  · rw [List.map_append, List.nodup_append]
    refine ⟨st.nd, by simp, fun x hx y hy => ?_⟩
    obtain ⟨q, hq, rfl⟩ := List.mem_map.mp hx
    have hy' : y = a := List.mem_singleton.mp hy
    intro e
    exact (st.own q hq).2 (List.mem_map.mpr ⟨(a, o), hm, (e.trans hy').symm⟩)
  · rcases List.mem_append.mp hp with hp | hp
    · exact st.low p hp
    · rw [List.mem_singleton.mp hp]; exact .inr ha
theorem St.pres (st : St K P N0 lo FZ es h g) (hk : Keep (WI K P FZ) h h2 (es.map (·.1))) {p : Ent} (hp : p ∈ FZ) : h2.get? p.1 = some p.2 := by
  have hb : 217 ≤ p.1 := st.inv.2.2.2.2.2 p hp
  refine hk _ _ (st.inv.2.2.2.2.1 p hp) (fun hm => ?_) (fun hm => ?_)
  · obtain ⟨q, hq, e⟩ := List.mem_map.mp hm
    exact (st.own q hq).2 (List.mem_map.mpr ⟨p, hp, e.symm⟩)
  · rcases List.mem_cons.mp hm with e | hm
    · rw [e] at hb; exact absurd hb (by decide)
    · have e : p.1 = 147 := List.mem_singleton.mp hm
      rw [e] at hb; exact absurd hb (by decide)
theorem St.big (st : St K P N0 lo FZ es h g) {b : Nat} (hb : h.objs.size ≤ b) : OwnA FZ b := (WI K P FZ).big h st.inv b hb
variable {fz : List Ent} {c : Code} {dep un f : Nat} {x : Sc} {A : Around} {d : Drawn} {tk : Nat} {os : OsState} {R : Result → Shared → Prop}
variable (K P dr fz N0 lo) in
noncomputable def GoodT (A : Around) (R : Result → Shared → Prop) (h : Heap) (d : Drawn) (os : OsState) : Res → Prop
  | .bad _ => False
  | .eq a b r => a = b ∧ GoodT A R h d os r
  | .asr a b r => a = b ∧ GoodT A R h d os r
  | .stk k => ∀ p b, GoodT A R h d os (k p b)
  | .fin r sel n m tk => ∀ h' g', St K P N0 lo fz sel h' g' → h'.objs.size = n + m → KeepB (WI K P []) N0 lo h h' → R r ⟨h', g', d, tk, os⟩
  | .ag c sel n m tk => ∀ h' g', St K P N0 lo fz sel h' g' → h'.objs.size = n + m → KeepB (WI K P []) N0 lo h h' → codeAny (model prg ⟨dr, P⟩) A c R ⟨h', g', d, tk, os⟩
  | .sum c pre dep un post n m k => Sm K P dr fz c pre dep un post (n + m) fun v n' tk' => GoodT A R h d os (k v n' tk')
theorem goodT (st : St K P N0 lo fz es h g) {E : Res} : GoodT K P dr N0 lo fz A R h d os E → GoodA K P dr fz A R h (es.map (·.1)) d os E := by
  induction E with
  | bad n => exact fun z => z
  | eq a b r ih => exact fun z => ⟨z.1, ih z.2⟩
  | asr a b r ih => exact fun z => ⟨z.1, ih z.2⟩
  | stk k ih => exact fun z p b => ih p b (z p b)
  | fin r sel n m tk => exact fun z h' g' a b c d e f => let q := st.go a b d e f; z h' g' q.1 c q.2
  | ag c sel n m tk => exact fun z h' g' a b c d e f => let q := st.go a b d e f; z h' g' q.1 c q.2
  | sum c pre dep un post n m k ih => exact fun z => ⟨z.1, fun v n' tk' q1 q2 q3 => ih v n' tk' (z.2 v n' tk' q1 ⟨q2, q3⟩)⟩
theorem go_code (hrun : RunsTo K P dep un f c es h.objs.size tk x) (room : Room A dep un) (s : St K P N0 lo fz es h g) (hg : GoodT K P dr N0 lo fz A R h d os (x.2 h.objs.size tk)) : codeAny (model prg ⟨dr, P⟩) A c R ⟨h, g, d, tk, os⟩ :=
  code_runA hrun room s.inv s.bare s.has s.own s.nd (goodT s hg)
theorem go_val {t : Sem Value} {Q : Value → Shared → Prop} {E' : Value → Shared → Prop} (hrun : RunsA K P dep un f (t >>= asFin) es h.objs.size tk x) (room : Room A dep un) (s : St K P N0 lo fz es h g) (hg : GoodT K P dr N0 lo fz A (wants Q E') h d os (x.2 h.objs.size tk)) : wpAny (model prg ⟨dr, P⟩) A t Q E' ⟨h, g, d, tk, os⟩ :=
  wpAny_of_fin (run_any hrun room s.inv s.bare s.has s.own s.nd (goodT s hg))
theorem go_flow {t : Sem Flow} {Q : Flow → Shared → Prop} {E' : Value → Shared → Prop} (hrun : RunsA K P dep un f (t >>= flFin) es h.objs.size tk x) (room : Room A dep un) (s : St K P N0 lo fz es h g) (hg : GoodT K P dr N0 lo fz A (wantsF Q E') h d os (x.2 h.objs.size tk)) : wpAny (model prg ⟨dr, P⟩) A t Q E' ⟨h, g, d, tk, os⟩ :=
  wpAny_of_flow (run_any hrun room s.inv s.bare s.has s.own s.nd (goodT s hg))
theorem go_opt {t : Sem (Option Value)} {Q : Option Value → Shared → Prop} {E' : Value → Shared → Prop} (hrun : RunsA K P dep un f (t >>= optFin) es h.objs.size tk x) (room : Room A dep un) (s : St K P N0 lo fz es h g) (hg : GoodT K P dr N0 lo fz A (wantsO Q E') h d os (x.2 h.objs.size tk)) : wpAny (model prg ⟨dr, P⟩) A t Q E' ⟨h, g, d, tk, os⟩ :=
  wp_of_opt (run_any hrun room s.inv s.bare s.has s.own s.nd (goodT s hg))
theorem go_unit {t : Sem Unit} {Q : Unit → Shared → Prop} {E' : Value → Shared → Prop} (hrun : RunsA K P dep un f (t >>= unitFin) es h.objs.size tk x) (room : Room A dep un) (s : St K P N0 lo fz es h g) (hg : GoodT K P dr N0 lo fz A (wantsU (Q ()) E') h d os (x.2 h.objs.size tk)) : wpAny (model prg ⟨dr, P⟩) A t Q E' ⟨h, g, d, tk, os⟩ :=
  wp_of_unit (run_any hrun room s.inv s.bare s.has s.own s.nd (goodT s hg))
theorem go_bool {t : Sem Bool} {Q : Bool → Shared → Prop} {E' : Value → Shared → Prop} (hrun : RunsA K P dep un f (t >>= boolFin) es h.objs.size tk x) (room : Room A dep un) (s : St K P N0 lo fz es h g) (hg : GoodT K P dr N0 lo fz A (wantsB Q E') h d os (x.2 h.objs.size tk)) : wpAny (model prg ⟨dr, P⟩) A t Q E' ⟨h, g, d, tk, os⟩ :=
  wp_of_bool (run_any hrun room s.inv s.bare s.has s.own s.nd (goodT s hg))
end
structure OkDue (K : Params → KT) : Prop where
  hd : OkHd K
  dc : OkDc K
  ds : OkDs K
  e4a : ok_e4a K
  e4b : ok_e4b K
  e5n : ok_e5n K
  e5e : ok_e5e K
  e5a : ok_e5a K
  e6 : ok_e6 K
  e7a : ok_e7a K
  e7b : ok_e7b K
  e8n : ok_e8n K
  e8e : ok_e8e K
  e8o : ok_e8o K
  e8a : ok_e8a K
  e8t : ok_e8t K
  e9a : ok_e9a K
  e9b : ok_e9b K
  e10a : ok_e10a K
  e10b : ok_e10b K
  e10e : ok_e10e K
  e11 : ok_e11 K
  d0 : ok_d0 K
  d1 : ok_d1 K
  d2 : ok_d2 K
  d3 : ok_d3 K
structure DX where
  (sl se L s0 tw s1 hl he s2 du de tl te tc : Nat)
  (W c : Int)
  xs : List Int
  xf : Nat → Nat
  (hr tr da : Array Value)
noncomputable abbrev DX.base (D : DX) (P : Params) (l : Loc) (x : Option Value) : List Ent :=
  [(D.sl, lisO (intA D.xs D.xf) D.se), (D.L, frD P D.s0 D.W D.tw D.s1 D.hl D.s2 D.du l), (D.L + 1, celO (some (.ref D.sl))), (D.L + 2, celO (some (.ref D.tl))), (D.L + 3, celO (some (.int D.c D.tc))), (D.L + 4, celO x), (D.hl, lisO D.hr D.he), (D.tl, lisO D.tr D.te), (D.du, lisO D.da D.de)]
noncomputable def DueIs (n : Nat) (RD : Nat → Nat) (DD : Nat → List Nat) (FZ : List Ent) : Prop := ∀ j, j < n → ∃ f e, (RD j, lisO (natA (DD j) f) e) ∈ FZ
structure RDok (n N0 : Nat) (RD : Nat → Nat) (da : Array Value) (fz0 : List Ent) : Prop where
  inj : ∀ i j, i < n → j < n → RD i = RD j → i = j
  low : ∀ j, j < n → N0 ≤ RD j
  off : ∀ p ∈ fz0, ∀ j, j < n → p.1 ≠ RD j
  at_ : ∀ j, j < n → da[j]? = some (.ref (RD j))
  n9 : n ≤ 900
noncomputable def plUpd (k j mm : Nat) (DD : Nat → List Nat) (i : Nat) : List Nat := if j ≤ i ∧ i < j + mm ∧ (DD i).contains k = false then DD i ++ [k] else DD i
noncomputable abbrev plCode (K : Params → KT) (P : Params) (it3 L : Nat) : Code := .forLoop (forQ (dFor3 K P)).target (.ref it3) (forQ (dFor3 K P)).body (forQ (dFor3 K P)).els (envC K P 211 L)
theorem setE_setE (l : Loc) (t t1 t2 t3 : Nat) (v v1 v2 v3 : Value) : ((((l.setS t v).setE t1 v1 t2 v2).setP t3 v3).setS t v).setE t1 v1 t2 v2 = ((l.setS t v).setE t1 v1 t2 v2).setP t3 v3 := by cases l <;> rfl
section
variable {K : Params → KT} [ok : Nonempty (KOk K)] {P : Params} {dr : Source → Nat → Nat}
theorem pl_loop (o : OkDue K) {D : DX} {n N0 k kt t st ste it2 i t1 t2 ta tb it it3 : Nat} {m a b : Int} {sts : Array Value} {RD : Nat → Nat} {fz0 : List Ent} {lo : List Addr} (rd : RDok n N0 RD D.da fz0) {A : Around} (room : Room A 60 220) {R : Result → Shared → Prop} {d : Drawn} {os : OsState} :
    ∀ (mm j : Nat) (FZ : List Ent) (DD : Nat → List Nat) (l : Loc) (h : Heap) (g : Array GenState) (tk : Nat), j + mm ≤ n → (∀ i, (DD i).contains k = false → (DD i).length ≤ 1000) →
      St K P N0 lo FZ (D.base P ((l.setS t (.ref st)).setE t1 (.int a ta) t2 (.int b tb)) (some (.int (k : Int) kt)) ++ [(it, ritO (k + 1 : Nat) m 1), (st, lisO sts ste), (it2, litO st i), (it3, ritO (j : Nat) (mm : Nat) 1)]) h g → (∀ p ∈ fz0, p ∈ FZ) → DueIs n RD DD FZ →
      (∀ (FZ' : List Ent) (l' : Loc) (h' : Heap) (g' : Array GenState) (tk' : Nat), St K P N0 lo FZ' (D.base P ((l'.setS t (.ref st)).setE t1 (.int a ta) t2 (.int b tb)) (some (.int (k : Int) kt)) ++ [(it, ritO (k + 1 : Nat) m 1), (st, lisO sts ste), (it2, litO st i)]) h' g' → (∀ p ∈ fz0, p ∈ FZ') → DueIs n RD (plUpd k j mm DD) FZ' →
        KeepB (WI K P []) N0 lo h h' → R (.ok .next) ⟨h', g', d, tk', os⟩) →
      codeAny (model prg ⟨dr, P⟩) A (plCode K P it3 D.L) R ⟨h, g, d, tk, os⟩
  | 0, j, FZ, DD, l, h, g, tk, hj, hDD, s, hfz, hdue, hR => by
    refine go_code (fz := FZ) (o.e10e P D.sl D.se D.L D.s0 D.tw D.s1 D.hl D.he D.s2 D.du D.de D.tl D.te D.tc D.W D.c (intA D.xs D.xf) D.hr D.tr D.da it kt (k + 1 : Nat) m k l t st ste it2 i sts t1 t2 ta tb a b it3 j (0 : Nat) h.objs.size tk) room s
      ⟨con_bi bi_rnext (con_rnext_end (ar87)), fun v1 n1 tk1 q1 q2 h' g' s' hs' kb => ?_⟩
    have hs2 : h'.objs.size = n1 := by simpa using hs'
    have e : plUpd k j 0 DD = DD := by
      funext x
      unfold plUpd
      rw [if_neg (by omega)]
    exact hR FZ l h' g' _ s' hfz (by rw [e]; exact hdue) kb
  | mm + 1, j, FZ, DD, l, h, g, tk, hj, hDD, s, hfz, hdue, hR => by
    obtain ⟨df, de, hmem⟩ := hdue j (ar68 hj)
    have hlow := rd.low j (ar68 hj)
    have s1 := s.thaw hmem hlow
    have hat := rd.at_ j (ar68 hj)
    have ej1 : ((j : Int) + 1) = ((j + 1 : Nat) : Int) := ar88
    have em1 : (((mm + 1 : Nat) : Int) - 1) = (mm : Nat) := ar89
    have zc := con_contains (K := K) (P := P) (dr := dr) (fz := but FZ (RD j)) (l := RD j) (ls := DD j) (f := df) (e := de) (x := k) (t := kt)
    have hgi : ∀ t, CON K P dr (but FZ (RD j)) (.builtin "list.__getitem__" ⟨[.ref D.du, .int (j : Int) t], []⟩) [(D.du, lisO D.da D.de)] 0 0 (fun _ => ⟨.ok (.ret (.ref (RD j))), [], []⟩) := fun t =>
      con_getitem (ar43) (by have := rd.n9; exact ar90 hj this) (by rw [Int.toNat_natCast]; exact hat)
    have fin : ∀ (h1 : Heap) (g1 : Array GenState) (tk1 tp : Nat) (vp : Value) (ds' : List Nat) (f' : Nat → Nat) (e' : Nat), ds' = plUpd k j (mm + 1) DD j →
        St K P N0 lo (but FZ (RD j)) (D.base P ((((l.setS t (.ref st)).setE t1 (.int a ta) t2 (.int b tb))).setP tp vp) (some (.int (k : Int) kt)) ++ [(it, ritO (k + 1 : Nat) m 1), (st, lisO sts ste), (it2, litO st i), (it3, ritO (j + 1 : Nat) (mm : Nat) 1)] ++ [(RD j, lisO (natA ds' f') e')]) h1 g1 → KeepB (WI K P []) N0 lo h h1 →
        codeAny (model prg ⟨dr, P⟩) A (plCode K P it3 D.L) R ⟨h1, g1, d, tk1, os⟩ := fun h1 g1 tk1 tp vp ds' f' e' eds s2 kb => by
      have s3 := s2.freeze
      rw [← setE_setE] at s3
      refine pl_loop o rd room mm (j + 1) _ (fun x => if x = j then ds' else DD x) _ h1 g1 tk1 (ar67 hj) (fun x hxc => ?_) s3 (fun p hp => ?_) (fun x hx => ?_) fun FZ' l' h' g' tk' s4 hfz' hdue' kb' => ?_
      · by_cases hx2 : x = j
        · exfalso
          simp only [hx2, if_true] at hxc
          rw [eds] at hxc
          unfold plUpd at hxc
          by_cases hc : (DD j).contains k = false
          · rw [if_pos ⟨ar91, ar92, hc⟩] at hxc
            simp at hxc
          · rw [if_neg (fun z => hc z.2.2)] at hxc
            exact hc hxc
        · simp only [if_neg hx2] at hxc ⊢
          exact hDD x hxc
      · exact List.mem_append_right _ (mem_but.mpr ⟨hfz p hp, rd.off p hp j (ar68 hj)⟩)
      · by_cases hx2 : x = j
        · subst hx2
          exact ⟨f', e', List.mem_append_left _ (by simp)⟩
        · obtain ⟨f2, e2, hm2⟩ := hdue x hx
          exact ⟨f2, e2, List.mem_append_right _ (mem_but.mpr ⟨by simpa [hx2] using hm2, fun z => hx2 (rd.inj x j hx (ar68 hj) z)⟩)⟩
      · refine hR FZ' l' h' g' tk' s4 hfz' ?_ (kb.trans kb')
        have e : plUpd k (j + 1) mm (fun x => if x = j then ds' else DD x) = plUpd k j (mm + 1) DD := by
          funext x
          by_cases hx : x = j
          · subst hx
            rw [← eds]
            unfold plUpd
            rw [if_neg (by omega)]
            simp
          · unfold plUpd
            simp only [if_neg hx]
            by_cases hc : (DD x).contains k = false
            · by_cases h5 : j ≤ x ∧ x < j + (mm + 1)
              · rw [if_pos ⟨ar93 h5 hx, ar94 h5, hc⟩, if_pos ⟨ar95 h5, ar96 h5, hc⟩]
              · rw [if_neg (by omega), if_neg (by omega)]
            · rw [if_neg (fun z => hc z.2.2), if_neg (fun z => hc z.2.2)]
        rw [← e]
        exact hdue'
    cases hc : (DD j).contains k with
    | true =>
      rw [hc] at zc
      refine go_code (fz := but FZ (RD j)) (o.e10b P D.sl D.se D.L D.s0 D.tw D.s1 D.hl D.he D.s2 D.du D.de D.tl D.te D.tc D.W D.c (intA D.xs D.xf) D.hr D.tr D.da it kt (k + 1 : Nat) m k l t st ste it2 i sts t1 t2 ta tb a b it3 (RD j) de j (mm + 1 : Nat) (natA (DD j) df) h.objs.size tk) room s1
        ⟨con_bi bi_rnext (con_rnext_item (ar97)), fun v1 n1 tk1 q1 q2 => ⟨con_bi bi_getitem (hgi _), fun v2 n2 tk2 q4 q5 => ⟨con_bi bi_contains zc, fun v3 n3 tk3 q7 q8 h' g' s' hs' kb => ?_⟩⟩⟩
      have hs2 : h'.objs.size = n3 := by simpa using hs'
      rw [ej1, em1] at s'
      exact fin h' g' _ _ _ (DD j) df de (by unfold plUpd; rw [if_neg (fun z => by rw [hc] at z; exact Bool.noConfusion z.2.2)]) s' kb
    | false =>
      rw [hc] at zc
      refine go_code (fz := but FZ (RD j)) (o.e10a P D.sl D.se D.L D.s0 D.tw D.s1 D.hl D.he D.s2 D.du D.de D.tl D.te D.tc D.W D.c (intA D.xs D.xf) D.hr D.tr D.da it kt (k + 1 : Nat) m k l t st ste it2 i sts t1 t2 ta tb a b it3 (RD j) de j (mm + 1 : Nat) (natA (DD j) df) h.objs.size tk) room s1
        ⟨con_bi bi_rnext (con_rnext_item (ar97)), fun v1 n1 tk1 q1 q2 => ⟨con_bi bi_getitem (hgi _), fun v2 n2 tk2 q4 q5 => ⟨con_bi bi_contains zc, fun v3 n3 tk3 q7 q8 => ⟨con_bi bi_getitem (hgi _), fun v4 n4 tk4 q10 q11 => ⟨con_bi bi_append (con_append (by rw [natA_size]; exact Nat.le_trans (hDD j hc) (by decide))), fun v5 n5 tk5 q13 q14 h' g' s' hs' kb => ?_⟩⟩⟩⟩⟩
      have hs2 : h'.objs.size = n5 := by simpa using hs'
      rw [ej1, em1, natA_push] at s'
      exact fin h' g' _ _ _ (DD j ++ [k]) _ (de + 1) (by unfold plUpd; rw [if_pos ⟨ar91, ar92, hc⟩]) s' kb
end
noncomputable def ifP : Stmt → Pos
  | .If _ _ _ p => p
  | _ => default
noncomputable def ifA (s : Stmt) : Stmt := .If (ifT s) (ifB s) (ifE s) (ifP s)
structure OkDue2 (K : Params → KT) : Prop where
  o : OkDue K
  body2 : ∀ P, (forQ (dFor2 K P)).body = [ifA (dIf K P)]
  els2 : ∀ P, (forQ (dFor2 K P)).els = []
  ifE : ∀ P, ifE (dIf K P) = []
  ifB : ∀ P, ifB (dIf K P) = [forS (forQ (dFor3 K P))]
  fold3 : ∀ P L x, foldedSetIterable (forQ (dFor3 K P)).iter (envC K P 211 L) x = pure x
noncomputable def slUpd (xs : List Int) (W : Int) (k : Nat) (DD : Nat → List Nat) (p : TP) : Nat → List Nat :=
  if fitB xs p.1.toNat p.2.2.toNat W = true then plUpd k p.1.toNat (p.2.2.toNat - p.1.toNat) DD else DD
structure TPok (n N0 : Nat) (ps : List TP) (sts : Array Value) (TA TT : Nat → Nat) (fz0 : List Ent) : Prop where
  at_ : ∀ i p, ps[i]? = some p → sts[i]? = some (.ref (TA i)) ∧ (TA i, tupO #[.int p.1 p.2.1, .int p.2.2 (TT i)]) ∈ fz0 ∧ N0 ≤ TA i
  end_ : sts[ps.length]? = none
  num : ∀ p ∈ ps, ∃ sa sb : Nat, p.1 = (sa : Int) ∧ p.2.2 = (sb : Int) ∧ sa ≤ n ∧ sb ≤ n
theorem len_plUpd {k : Nat} {DD : Nat → List Nat} (h : ∀ i, (DD i).contains k = false → (DD i).length ≤ 1000) (j mm : Nat) : ∀ i, (plUpd k j mm DD i).contains k = false → (plUpd k j mm DD i).length ≤ 1000 := fun i hc => by
  unfold plUpd at hc ⊢
  split at hc
  · simp at hc
  · rename_i hn
    rw [if_neg hn]
    exact h i hc
theorem setS_setS (l : Loc) (t : Nat) (v : Value) : (l.setS t v).setS t v = l.setS t v := by cases l <;> rfl
theorem setE_setS (l : Loc) (t t1 t2 : Nat) (v v1 v2 : Value) : ((l.setS t v).setE t1 v1 t2 v2).setS t v = (l.setS t v).setE t1 v1 t2 v2 := by cases l <;> rfl
noncomputable abbrev slCode (K : Params → KT) (P : Params) (it2 L : Nat) : Code := .forLoop (forQ (dFor2 K P)).target (.ref it2) (forQ (dFor2 K P)).body (forQ (dFor2 K P)).els (envC K P 211 L)
section
variable {K : Params → KT} [ok : Nonempty (KOk K)] {P : Params} {dr : Source → Nat → Nat}
theorem St.refreeze {N0 : Nat} {lo : List Addr} {FZ es es0 : List Ent} {h h0 : Heap} {g g0 : Array GenState} {a : Nat} {o : Obj} (s0 : St K P N0 lo FZ es0 h0 g0) (hm : (a, o) ∈ FZ) (s : St K P N0 lo (but FZ a) (es ++ [(a, o)]) h g) :
    ∃ FZ', St K P N0 lo FZ' es h g ∧ ∀ p ∈ FZ, p ∈ FZ' := by
  refine ⟨_, s.freeze, fun p hp => ?_⟩
  by_cases hpa : p.1 = a
  · have e1 := s0.inv.2.2.2.2.1 p hp
    have e2 := s0.inv.2.2.2.2.1 _ hm
    rw [hpa] at e1
    have : p.2 = o := by
      have : some p.2 = some o := e1.symm.trans e2
      injection this
    refine List.mem_append_left _ (List.mem_singleton.mpr ?_)
    exact Prod.ext hpa this
  · exact List.mem_append_right _ (mem_but.mpr ⟨hp, hpa⟩)
theorem sl_loop (o : OkDue2 K) {D : DX} {N0 k kt t st ste it2 it : Nat} {m : Int} {sts : Array Value} {RD : Nat → Nat} {fz0 : List Ent} {lo : List Addr} {ps : List TP} {TA TT : Nat → Nat} (hv : ∀ x ∈ D.xs, 0 ≤ x ∧ x ≤ 100000) (rd : RDok D.xs.length N0 RD D.da fz0) (tp : TPok D.xs.length N0 ps sts TA TT fz0)
    {A : Around} (room : Room A 60 220) {R : Result → Shared → Prop} {d : Drawn} {os : OsState} :
    ∀ (l' : List TP) (i : Nat) (FZ : List Ent) (DD : Nat → List Nat) (l : Loc) (h : Heap) (g : Array GenState) (tk : Nat), ps.drop i = l' → i ≤ ps.length → (∀ i, (DD i).contains k = false → (DD i).length ≤ 1000) →
      St K P N0 lo FZ (D.base P (l.setS t (.ref st)) (some (.int (k : Int) kt)) ++ [(it, ritO (k + 1 : Nat) m 1), (st, lisO sts ste), (it2, litO st i)]) h g → (∀ p ∈ fz0, p ∈ FZ) → DueIs D.xs.length RD DD FZ →
      (∀ (FZ' : List Ent) (l2 : Loc) (h' : Heap) (g' : Array GenState) (tk' : Nat), St K P N0 lo FZ' (D.base P (l2.setS t (.ref st)) (some (.int (k : Int) kt)) ++ [(it, ritO (k + 1 : Nat) m 1)]) h' g' → (∀ p ∈ fz0, p ∈ FZ') → DueIs D.xs.length RD (l'.foldl (slUpd D.xs D.W k) DD) FZ' →
        KeepB (WI K P []) N0 lo h h' → R (.ok .next) ⟨h', g', d, tk', os⟩) →
      codeAny (model prg ⟨dr, P⟩) A (slCode K P it2 D.L) R ⟨h, g, d, tk, os⟩
  | [], i, FZ, DD, l, h, g, tk, hd, hi, hDD, s, hfz, hdue, hR => by
    have hi2 : i = ps.length := Nat.le_antisymm hi (List.drop_eq_nil_iff.mp hd)
    have hnx : sts[i]? = none := by rw [hi2]; exact tp.end_
    refine for_turn ?_
    rw [fPyNext_eq]
    refine go_opt (fz := FZ) (o.o.e8e P D.sl D.se D.L D.s0 D.tw D.s1 D.hl D.he D.s2 D.du D.de D.tl D.te D.tc D.W D.c (intA D.xs D.xf) D.hr D.tr D.da it kt (k + 1 : Nat) m k l t st ste it2 i sts _ _) (rl room) s ⟨con_bi bi_next (con_next_end hnx), fun v1 n1 tk1 q1 q2 h' g' s' hs' kb => ?_⟩
    have hs2 : h'.objs.size = n1 := by simpa using hs'
    show wpAny _ _ (execs _ _) _ _ ⟨_, _, d, _, os⟩
    rw [o.els2 P]
    refine wpAny_execs_nil ?_
    exact hR FZ l h' g' _ s' hfz hdue kb
  | p :: l', i, FZ, DD, l, h, g, tk, hd, hi, hDD, s, hfz, hdue, hR => by
    have hil : i < ps.length := by
      have : (ps.drop i).length = l'.length + 1 := by rw [hd]; rfl
      rw [List.length_drop] at this
      exact ar72 this
    have hx : ps[i]? = some p := by
      have := congrArg (fun l => l[0]?) hd
      simpa using this
    have hd' : ps.drop (i + 1) = l' := by
      have := congrArg (fun l => l.drop 1) hd
      simpa [List.drop_drop, Nat.add_comm] using this
    obtain ⟨hat, hmem0, hlow⟩ := tp.at_ i p hx
    obtain ⟨sa, sb, ha, hb, hsa, hsb⟩ := tp.num p (List.mem_of_getElem? hx)
    rw [ha, hb] at hmem0
    have hn9 := rd.n9
    refine for_turn ?_
    rw [fPyNext_eq]
    refine go_opt (fz := FZ) (o.o.e8n P D.sl D.se D.L D.s0 D.tw D.s1 D.hl D.he D.s2 D.du D.de D.tl D.te D.tc D.W D.c (intA D.xs D.xf) D.hr D.tr D.da it kt (k + 1 : Nat) m k l t st ste it2 i sts (TA i) _ _) (rl room) s ⟨con_bi bi_next (con_next_item hat), fun v1 n1 tk1 q1 q2 h1 g1 s1 hs1 kb1 => ?_⟩
    have hs1' : h1.objs.size = n1 := hs1
    have s1t := s1.thaw (hfz _ hmem0) hlow
    show wpAny _ _ (letOwnedTupleGo _ _ _) _ _ ⟨_, _, d, _, os⟩
    rw [fOwned_eq]
    refine go_unit (fz := but FZ (TA i)) (o.o.e8o P D.sl D.se D.L D.s0 D.tw D.s1 D.hl D.he D.s2 D.du D.de D.tl D.te D.tc D.W D.c (intA D.xs D.xf) D.hr D.tr D.da it kt (k + 1 : Nat) m k l t st ste it2 (i + 1) sts (TA i) _ _ _) (rl room) s1t fun h2 g2 s2 hs2 kb2 => ?_
    show wpAny _ _ (assign _ _ _) _ _ ⟨_, _, d, _, os⟩
    rw [fAssign_eq]
    refine go_unit (fz := but FZ (TA i)) (o.o.e8a P D.sl D.se D.L D.s0 D.tw D.s1 D.hl D.he D.s2 D.du D.de D.tl D.te D.tc D.W D.c (intA D.xs D.xf) D.hr D.tr D.da it kt (k + 1 : Nat) m k l t st ste it2 (i + 1) sts (TA i) p.2.1 (TT i) sa sb _ _) (rl room) s2 fun h3 g3 s3t hs3 kb3 => ?_
    obtain ⟨FZ3, s3, hsub3⟩ := St.refreeze (es := D.base P ((l.setS t (.ref st)).setE _ _ _ _) _ ++ [(it, _), (st, _), (it2, _)]) s1 (hfz _ hmem0) s3t
    have hfz3 : ∀ p ∈ fz0, p ∈ FZ3 := fun p hp => hsub3 p (hfz p hp)
    have hdue3 : DueIs D.xs.length RD DD FZ3 := fun j hj => by
      obtain ⟨f2, e2, hm2⟩ := hdue j hj
      exact ⟨f2, e2, hsub3 _ hm2⟩
    have kb3' := ((kb1.trans kb2).trans kb3)
    have ep1 : p.1.toNat = sa := by rw [ha]; rfl
    have ep2 : p.2.2.toNat = sb := by rw [hb]; rfl
    show wpAny _ _ (execs (forQ (dFor2 K P)).body _) _ _ ⟨_, _, d, _, os⟩
    rw [show execs (forQ (dFor2 K P)).body (envC K P 211 D.L) = execs [ifA (dIf K P)] (envC K P 211 D.L) from by rw [o.body2 P]]
    refine wpAny_execs_cons (wpAny_If ?_)
    rw [fIsTrue_eq, fEval_eq]
    refine go_bool (fz := FZ3) (o.o.e8t P D.sl D.se D.L D.s0 D.tw D.s1 D.hl D.he D.s2 D.du D.de D.tl D.te D.tc D.W D.c (intA D.xs D.xf) D.hr D.tr D.da it kt (k + 1 : Nat) m k l t st ste it2 (i + 1) sts _ _ p.2.1 (TT i) sa sb (fitB D.xs sa sb D.W) _ _) (rl room) s3
      ⟨con_fit o.o.hd.f.hc.fit hv (ar81 hn9) hsb, fun v4 n4 tk4 q4 q5 h4 g4 s4 hs4 kb4 => ?_⟩
    have hs4' : h4.objs.size = n4 := hs4
    have kb4' := kb3'.trans kb4
    cases hfit : fitB D.xs sa sb D.W with
    | false =>
      show wpAny _ _ (execs (ifE (dIf K P)) _) _ _ ⟨_, _, d, _, os⟩
      rw [o.ifE P]
      refine wpAny_execs_nil ?_
      show wpAny _ _ (execs [] _) _ _ ⟨_, _, d, _, os⟩
      refine wpAny_execs_nil ?_
      have s5 := s4
      rw [← setE_setS] at s5
      have eu : slUpd D.xs D.W k DD p = DD := by
        unfold slUpd
        rw [ep1, ep2, hfit]
        rfl
      refine sl_loop o hv rd tp room l' (i + 1) FZ3 DD _ h4 g4 _ hd' (ar75 hil) hDD s5 hfz3 hdue3 fun FZ' l2 h' g' tk' s6 hfz6 hdue6 kb6 => ?_
      refine hR FZ' l2 h' g' tk' s6 hfz6 ?_ (kb4'.trans kb6)
      rw [List.foldl_cons, eu]
      exact hdue6
    | true =>
      have hlt : sa < sb := by
        unfold fitB at hfit
        rw [Bool.or_eq_true] at hfit
        rcases hfit with z | z
        · have : (sb : Int) - sa = 1 := by simpa using z
          exact ar100 this
        · rw [Bool.and_eq_true] at z
          simpa using z.1
      show wpAny _ _ (execs (ifB (dIf K P)) _) _ _ ⟨_, _, d, _, os⟩
      rw [o.ifB P]
      refine wpAny_execs_cons (wpAny_For ?_ (o.fold3 P _))
      rw [fEval_eq, fPyIter_eq]
      refine go_val (fz := FZ3) (o.o.e9a P D.sl D.se D.L D.s0 D.tw D.s1 D.hl D.he D.s2 D.du D.de D.tl D.te D.tc D.W D.c (intA D.xs D.xf) D.hr D.tr D.da it kt (k + 1 : Nat) m k l t st ste it2 (i + 1) sts _ _ p.2.1 (TT i) sa sb _ _) (rl room) s4 fun h5 g5 s5 hs5 kb5 => ?_
      refine go_val (fz := FZ3) (o.o.e9b P D.sl D.se D.L D.s0 D.tw D.s1 D.hl D.he D.s2 D.du D.de D.tl D.te D.tc D.W D.c (intA D.xs D.xf) D.hr D.tr D.da it kt (k + 1 : Nat) m k l t st ste it2 (i + 1) sts _ _ p.2.1 (TT i) sa sb _ _ ((sb - sa : Nat) : Int) _ _) (rl room) s5
        ⟨con_bi bi_riter (con_riter (by unfold Builtin.Range.rangeSize; simp; exact ar101) (ar102 hlt hn9 hsb) (ar103 hn9 hsb) (.inl rfl) (ar104 hn9 hsb)), fun v6 n6 tk6 q7 q8 h6 g6 s6 hs6 kb6 => ?_⟩
      have hs6' : h6.objs.size = n6 := hs6
      refine pl_loop o.o rd room (sb - sa) sa FZ3 DD l h6 g6 _ (ar105 hlt hsb) hDD s6 hfz3 hdue3 fun FZ7 l7 h7 g7 tk7 s7 hfz7 hdue7 kb7 => ?_
      show wpAny _ _ (execs [] _) _ _ ⟨_, _, d, _, os⟩
      refine wpAny_execs_nil ?_
      show wpAny _ _ (execs [] _) _ _ ⟨_, _, d, _, os⟩
      refine wpAny_execs_nil ?_
      rw [← setE_setS] at s7
      have eu : slUpd D.xs D.W k DD p = plUpd k sa (sb - sa) DD := by
        unfold slUpd
        rw [ep1, ep2, hfit]
        rfl
      refine sl_loop o hv rd tp room l' (i + 1) FZ7 (plUpd k sa (sb - sa) DD) _ h7 g7 _ hd' (ar75 hil) (len_plUpd hDD sa (sb - sa)) s7 hfz7 hdue7 fun FZ' l2 h' g' tk' s8 hfz8 hdue8 kb8 => ?_
      refine hR FZ' l2 h' g' tk' s8 hfz8 ?_ ((((kb4'.trans kb5).trans kb6).trans kb7).trans kb8)
      rw [List.foldl_cons, eu]
      exact hdue8
end
structure OkDue3 (K : Params → KT) : Prop where
  o2 : OkDue2 K
  body1 : ∀ P, (forQ (dFor K P)).body = [dStr K P, forS (forQ (dFor2 K P))]
  els1 : ∀ P, (forQ (dFor K P)).els = []
  own1 : ∀ P it v, letOwnedTupleGo (forQ (dFor K P)).target it v = pure ()
  fold2 : ∀ P L x, foldedSetIterable (forQ (dFor2 K P)).iter (envC K P 211 L) x = pure x
theorem wp_first {M : Model} {A : Around} {st : Stmt} {rest : List Stmt} {env : Env} {Q : Flow → Shared → Prop} {E : Value → Shared → Prop} {s : Shared}
    (h : wpAny M A (fExecs [st] env) (fun f s' => match f with | .next => wpAny M A (execs rest env) Q E s' | f => Q f s') E s) : wpAny M A (execs (st :: rest) env) Q E s := by
  rw [← fExecs_eq] at h
  intro Γ p hΓ
  have z := h Γ p hΓ
  rw [execs_cons, Sem.wp_bind'] at z
  rw [execs_cons, Sem.wp_bind']
  refine Sem.wp_mono M Γ _ (fun f p' s' h' => ?_) (fun _ _ _ h' => h') _ _ z
  cases f <;> first | exact h' Γ p' hΓ | exact h'
noncomputable def upd2 (xs : List Int) (W : Int) (k : Nat) (DD : Nat → List Nat) (p : Nat × Nat) : Nat → List Nat := if fitB xs p.1 p.2 W = true then plUpd k p.1 (p.2 - p.1) DD else DD
noncomputable def stp2 (row0 row1 : List Nat) (n : Nat) : List (Nat × Nat) := row0.flatMap fun a => row1.map fun b => (a, n - b)
theorem stP_fold (xs : List Int) (W : Int) (k : Nat) (f0 : Nat → Nat) {row1 : List Nat} {n : Nat} (h1 : ∀ b ∈ row1, b ≤ n) : ∀ (row0 : List Nat) (i : Nat) (DD : Nat → List Nat), (stP f0 row1 n i row0).foldl (slUpd xs W k) DD = (stp2 row0 row1 n).foldl (upd2 xs W k) DD
  | [], i, DD => rfl
  | a :: l, i, DD => by
    rw [stP, stp2, List.flatMap_cons, List.foldl_append, List.foldl_append]
    have e : ∀ (r : List Nat) (DD : Nat → List Nat), (∀ b ∈ r, b ≤ n) → (pairsOf (a : Int) (f0 i) n r).foldl (slUpd xs W k) DD = (r.map fun b => (a, n - b)).foldl (upd2 xs W k) DD := by
      intro r
      induction r with
      | nil => intro DD _; rfl
      | cons b r ih =>
        intro DD hb
        have hb1 := hb b List.mem_cons_self
        rw [pairsOf, List.map_cons, List.foldl_cons, List.map_cons, List.foldl_cons]
        have e2 : slUpd xs W k DD ((a : Int), f0 i, (n : Int) - (b : Int)) = upd2 xs W k DD (a, n - b) := by
          unfold slUpd upd2
          have e3 : ((n : Int) - (b : Int)).toNat = n - b := ar106
          simp only [e3, Int.toNat_natCast]
        rw [e2]
        exact ih _ fun x hx => hb x (List.mem_cons_of_mem _ hx)
    rw [e row1 DD h1]
    exact stP_fold xs W k f0 h1 l (i + 1) _
noncomputable def JJ (k : Nat) (DD : Nat → List Nat) : Prop := ∀ i, ((DD i).contains k = false → (DD i).length ≤ k) ∧ (DD i).length ≤ k + 1
theorem JJ.pl {k : Nat} {DD : Nat → List Nat} (h : JJ k DD) (j mm : Nat) : JJ k (plUpd k j mm DD) := fun i => by
  unfold plUpd
  split
  · rename_i hc
    refine ⟨fun z => by simp at z, ?_⟩
    have := (h i).1 hc.2.2
    simp; omega
  · exact h i
theorem JJ.upd {xs : List Int} {W : Int} {k : Nat} {DD : Nat → List Nat} (h : JJ k DD) (p : Nat × Nat) : JJ k (upd2 xs W k DD p) := by
  unfold upd2
  split
  · exact h.pl _ _
  · exact h
theorem JJ.fold {xs : List Int} {W : Int} {k : Nat} : ∀ (l : List (Nat × Nat)) {DD : Nat → List Nat}, JJ k DD → JJ k (l.foldl (upd2 xs W k) DD)
  | [], _, h => h
  | p :: l, _, h => JJ.fold l (h.upd p)
theorem tupRefs_at (v : Nat → Nat) : ∀ (ps : List TP) (j i : Nat), (tupRefs v j ps)[i]? = if i < ps.length then some (.ref (v (4 * (j + i) + 1))) else none
  | [], j, i => by simp [tupRefs]
  | p :: l, j, 0 => by simp [tupRefs]
  | p :: l, j, i + 1 => by
    rw [tupRefs, List.getElem?_cons_succ, tupRefs_at v l (j + 1) i, List.length_cons]
    have : j + 1 + i = j + (i + 1) := ar69
    rw [this]
    by_cases h : i < l.length
    · rw [if_pos h, if_pos (ar107 h)]
    · rw [if_neg h, if_neg (ar108 h)]
theorem tupsEnt_at (v : Nat → Nat) : ∀ (ps : List TP) (j i : Nat) (p : TP), ps[i]? = some p → (v (4 * (j + i) + 1), tupO #[.int p.1 p.2.1, .int p.2.2 (v (4 * (j + i) + 2))]) ∈ tupsEnt v j ps
  | [], j, i, p, h => by simp at h
  | q :: l, j, 0, p, h => by
    have e : q = p := by simpa using h
    subst e
    exact List.mem_cons_self
  | q :: l, j, i + 1, p, h => by
    have := tupsEnt_at v l (j + 1) i p (by simpa using h)
    rw [show j + 1 + i = j + (i + 1) by exact ar69] at this
    exact List.mem_cons_of_mem _ this
theorem stP_mem {f0 : Nat → Nat} {row1 : List Nat} {n : Nat} : ∀ {row0 : List Nat} {i : Nat} {p : TP}, p ∈ stP f0 row1 n i row0 → ∃ a ∈ row0, ∃ b ∈ row1, p.1 = (a : Int) ∧ p.2.2 = (n : Int) - b
  | [], i, p, h => by simp [stP] at h
  | a :: l, i, p, h => by
    rw [stP] at h
    rcases List.mem_append.mp h with h | h
    · obtain ⟨b, hb, e⟩ := List.mem_map.mp h
      exact ⟨a, List.mem_cons_self, b, hb, by rw [← e], by rw [← e]⟩
    · obtain ⟨a', ha', b, hb, e⟩ := stP_mem h
      exact ⟨a', List.mem_cons_of_mem _ ha', b, hb, e⟩
section
variable {K : Params → KT} [ok : Nonempty (KOk K)] {P : Params} {dr : Source → Nat → Nat}
theorem St.perm {N0 : Nat} {lo : List Addr} {FZ es es' : List Ent} {h : Heap} {g : Array GenState} (s : St K P N0 lo FZ es h g) (hp : es.Perm es') : St K P N0 lo FZ es' h g :=
  s.sub (fun p h => hp.mem_iff.mpr h) ((hp.map (·.1)).nodup_iff.mp s.nd)
theorem perm_mid {A N : List Ent} {r1 r0 a b c : Ent} : (A ++ (r1 :: r0 :: a :: b :: c :: N)).Perm (((A ++ [b]) ++ (r1 :: r0 :: N)) ++ [a, c]) := by
  rw [List.append_assoc, List.append_assoc]
  refine List.Perm.append_left A ?_
  have h1 : ([r1, r0, a] ++ b :: (c :: N)).Perm (b :: ([r1, r0, a] ++ (c :: N))) := List.perm_middle
  refine h1.trans ?_
  show (b :: r1 :: r0 :: ([a, c] ++ N)).Perm (b :: r1 :: r0 :: (N ++ [a, c]))
  exact (List.perm_append_comm.cons r0 |>.cons r1 |>.cons b)
noncomputable abbrev klCode (K : Params → KT) (P : Params) (it L : Nat) : Code := .forLoop (forQ (dFor K P)).target (.ref it) (forQ (dFor K P)).body (forQ (dFor K P)).els (envC K P 211 L)
structure RWok (n N0 count : Nat) (rows : List (List Nat)) (hr : Array Value) (HA : Nat → Nat) (HF : Nat → Nat → Nat) (HE : Nat → Nat) (fz0 : List Ent) : Prop where
  len : count ≤ rows.length
  at_ : ∀ k, k < count → hr[k]? = some (.ref (HA k)) ∧ (HA k, lisO (natA (rows.getD k []) (HF k)) (HE k)) ∈ fz0 ∧ N0 ≤ HA k
  num : ∀ k, k < count → rows.getD k [] ≠ [] ∧ (rows.getD k []).length ≤ 900 ∧ ∀ b ∈ rows.getD k [], b ≤ n
noncomputable def rowUpd (xs : List Int) (W : Int) (heads tails : List (List Nat)) (count : Nat) (DD : Nat → List Nat) (k : Nat) : Nat → List Nat :=
  (stp2 (heads.getD k []) (tails.getD (count - 1 - k) []) xs.length).foldl (upd2 xs W k) DD
theorem kl_loop (o : OkDue3 K) {D : DX} {N0 it count : Nat} {RD : Nat → Nat} {fz0 : List Ent} {lo : List Addr} (hv : ∀ x ∈ D.xs, 0 ≤ x ∧ x ≤ 100000) (rd : RDok D.xs.length N0 RD D.da fz0) {heads tails : List (List Nat)} {HA TA HE TE : Nat → Nat} {HF TF : Nat → Nat → Nat}
    (hh : RWok D.xs.length N0 count heads D.hr HA HF HE fz0) (ht : RWok D.xs.length N0 count tails D.tr TA TF TE fz0) (hne : ∀ i j, i < count → j < count → HA i ≠ TA j) (hoff : ∀ i, i < count → (∀ j, j < D.xs.length → HA i ≠ RD j) ∧ ∀ j, j < D.xs.length → TA i ≠ RD j) (hc : D.c = (count : Int)) (hc9 : count ≤ 900)
    {A : Around} (room : Room A 90 330) {R : Result → Shared → Prop} {d : Drawn} {os : OsState} :
    ∀ (m k : Nat) (FZ : List Ent) (DD : Nat → List Nat) (l : Loc) (x : Option Value) (h : Heap) (g : Array GenState) (tk : Nat), k + m = count → (∀ i, (DD i).length ≤ k) →
      St K P N0 lo FZ (D.base P l x ++ [(it, ritO (k : Nat) (m : Nat) 1)]) h g → (∀ p ∈ fz0, p ∈ FZ) → DueIs D.xs.length RD DD FZ →
      (∀ (FZ' : List Ent) (l2 : Loc) (x2 : Option Value) (h' : Heap) (g' : Array GenState) (tk' : Nat), St K P N0 lo FZ' (D.base P l2 x2) h' g' → (∀ p ∈ fz0, p ∈ FZ') → DueIs D.xs.length RD ((List.range' k m).foldl (rowUpd D.xs D.W heads tails count) DD) FZ' →
        KeepB (WI K P []) N0 lo h h' → R (.ok .next) ⟨h', g', d, tk', os⟩) →
      codeAny (model prg ⟨dr, P⟩) A (klCode K P it D.L) R ⟨h, g, d, tk, os⟩
  | 0, k, FZ, DD, l, x, h, g, tk, hk, hDD, s, hfz, hdue, hR => by
    refine for_turn ?_
    rw [fPyNext_eq]
    refine go_opt (fz := FZ) (o.o2.o.e5e P D.sl D.se D.L D.s0 D.tw D.s1 D.hl D.he D.s2 D.du D.de D.tl D.te D.tc D.W D.c (intA D.xs D.xf) D.hr D.tr D.da it 0 k (0 : Nat) x l _ _) (rl room) s ⟨con_bi bi_rnext (con_rnext_end (ar87)), fun v1 n1 tk1 q1 q2 h' g' s' hs' kb => ?_⟩
    have hs2 : h'.objs.size = n1 := by simpa using hs'
    show wpAny _ _ (execs _ _) _ _ ⟨_, _, d, _, os⟩
    rw [o.els1 P]
    refine wpAny_execs_nil ?_
    exact hR FZ l x h' g' _ (St.left (es := D.base P l x) s') hfz hdue kb
  | m + 1, k, FZ, DD, l, x, h, g, tk, hk, hDD, s, hfz, hdue, hR => by
    have hn9 := rd.n9
    have hkc : k < count := ar53 hk
    have hkt : count - 1 - k < count := ar109 hkc
    obtain ⟨hra, hrm, hrl⟩ := hh.at_ k hkc
    obtain ⟨hta, htm, htl⟩ := ht.at_ (count - 1 - k) hkt
    obtain ⟨hn1, hn2, hn3'⟩ := hh.num k hkc
    obtain ⟨tn1, tn2, tn3⟩ := ht.num (count - 1 - k) hkt
    have ek1 : ((k : Int) + 1) = ((k + 1 : Nat) : Int) := ar88
    have em1 : (((m + 1 : Nat) : Int) - 1) = (m : Nat) := ar89
    refine for_turn ?_
    rw [fPyNext_eq]
    refine go_opt (fz := FZ) (o.o2.o.e5n P D.sl D.se D.L D.s0 D.tw D.s1 D.hl D.he D.s2 D.du D.de D.tl D.te D.tc D.W D.c (intA D.xs D.xf) D.hr D.tr D.da it 0 k (m + 1 : Nat) x l _ _) (rl room) s ⟨con_bi bi_rnext (con_rnext_item (ar97)), fun v1 n1 tk1 q1 q2 h1 g1 s1 hs1 kb1 => ?_⟩
    have hs1' : h1.objs.size = n1 := hs1
    rw [ek1, em1] at s1
    show wpAny _ _ (letOwnedTupleGo _ _ _) _ _ ⟨_, _, d, _, os⟩
    rw [o.own1 P]
    refine wpAny_pure ?_
    show wpAny _ _ (assign _ _ _) _ _ ⟨_, _, d, _, os⟩
    rw [fAssign_eq]
    refine go_unit (fz := FZ) (o.o2.o.e5a P D.sl D.se D.L D.s0 D.tw D.s1 D.hl D.he D.s2 D.du D.de D.tl D.te D.tc D.W D.c (intA D.xs D.xf) D.hr D.tr D.da it (v1 0) (k + 1 : Nat) (m : Nat) k x l _ _) (rl room) s1 fun h2 g2 s2 hs2 kb2 => ?_
    have s2t := (s2.thaw (hfz _ htm) htl).thaw (mem_but.mpr ⟨hfz _ hrm, hne k (count - 1 - k) hkc hkt⟩) hrl
    show wpAny _ _ (execs (forQ (dFor K P)).body _) _ _ ⟨_, _, d, _, os⟩
    rw [show execs (forQ (dFor K P)).body (envC K P 211 D.L) = execs [dStr K P, forS (forQ (dFor2 K P))] (envC K P 211 D.L) from by rw [o.body1 P]]
    refine wp_first ?_
    have hcl : D.c - 1 - (k : Int) = ((count - 1 - k : Nat) : Int) := by rw [hc]; exact ar110 hkc
    refine go_flow (fz := but (but FZ (TA (count - 1 - k))) (HA k)) (o.o2.o.e6 P D.sl D.se D.L D.s0 D.tw D.s1 D.hl D.he D.s2 D.du D.de D.tl D.te D.tc D.W D.c (intA D.xs D.xf) D.hr D.tr D.da it (v1 0) (k + 1 : Nat) (m : Nat) k l (HA k) (HE k) (TA (count - 1 - k)) (TE (count - 1 - k)) (heads.getD k []).length (natA (heads.getD k []) (HF k)) (natA (tails.getD (count - 1 - k) []) (TF (count - 1 - k)))
        (fun v => (tupRefs v 0 (stP (HF k) (tails.getD (count - 1 - k) []) D.xs.length 0 (heads.getD k []))).toArray) (nLast (heads.getD k []) (HF k)) (nLast (tails.getD (count - 1 - k) []) (TF (count - 1 - k))) (fun v => tupsEnt v 0 (stP (HF k) (tails.getD (count - 1 - k) []) D.xs.length 0 (heads.getD k []))) _ _) (rl room)
      s2t ⟨con_bi bi_getitem (con_getitem (ar43) (ar111 hkc hc9) (by rw [Int.toNat_natCast]; exact hra)), fun v3 n3 tk3 q4 q5 => ⟨con_dsC o.o2.o.ds (by omega) hn2 tn2 hn1 tn1 (ar112 hcl) (ar113 hcl hc9) (by rw [hcl, Int.toNat_natCast]; exact hta), fun v4 n4 tk4 q7 q8 h3 g3 s3 hs3 kb3 => ?_⟩⟩
    have hs3' : h3.objs.size = n4 := hs3
    rw [app_eq] at s3
    have sz2 : N0 ≤ h2.objs.size := s2t.sz
    have hn3 : h2.objs.size ≤ n3 := by omega
    have s4 : St K P N0 lo (but (but FZ (TA (count - 1 - k))) (HA k)) ((D.base P (l.setS (tk4 + 0) (.ref (n3 + 1))) (some (.int (k : Int) (v1 0))) ++ [(it, ritO (k + 1 : Nat) (m : Nat) 1)] ++ [(n3 + 1, lisO (tupRefs v4 0 (stP (HF k) (tails.getD (count - 1 - k) []) D.xs.length 0 (heads.getD k []))).toArray (v4 0))]) ++
        ((TA (count - 1 - k), lisO (natA (tails.getD (count - 1 - k) []) (TF (count - 1 - k))) (TE (count - 1 - k))) :: (HA k, lisO (natA (heads.getD k []) (HF k)) (HE k)) :: tupsEnt v4 0 (stP (HF k) (tails.getD (count - 1 - k) []) D.xs.length 0 (heads.getD k [])))) h3 g3 :=
      (St.perm (es := (D.base P (l.setS (tk4 + 0) (.ref (n3 + 1))) (some (.int (k : Int) (v1 0))) ++ [(it, ritO (k + 1 : Nat) (m : Nat) 1)]) ++ ((TA (count - 1 - k), lisO (natA (tails.getD (count - 1 - k) []) (TF (count - 1 - k))) (TE (count - 1 - k))) :: (HA k, lisO (natA (heads.getD k []) (HF k)) (HE k)) :: (n3 + 0, lendO (heads.getD k []).length) ::
        (n3 + 1, lisO (tupRefs v4 0 (stP (HF k) (tails.getD (count - 1 - k) []) D.xs.length 0 (heads.getD k []))).toArray (v4 0)) :: (n3 + 2, dicO #[] 4) :: tupsEnt v4 0 (stP (HF k) (tails.getD (count - 1 - k) []) D.xs.length 0 (heads.getD k [])))) s3 perm_mid).left
    have s5 := s4.freeze
    have funR : ∀ {p : Ent} {a : Nat} {ob : Obj}, p ∈ FZ → (a, ob) ∈ FZ → p.1 = a → p = (a, ob) := fun {p a ob} hp ha e => by
      have e1 := s1.inv.2.2.2.2.1 p hp
      have e2 := s1.inv.2.2.2.2.1 _ ha
      rw [e] at e1
      have : some p.2 = some ob := e1.symm.trans e2
      injection this with this
      exact Prod.ext e this
    have hsub5 : ∀ p ∈ FZ, p ∈ ((TA (count - 1 - k), lisO (natA (tails.getD (count - 1 - k) []) (TF (count - 1 - k))) (TE (count - 1 - k))) :: (HA k, lisO (natA (heads.getD k []) (HF k)) (HE k)) :: tupsEnt v4 0 (stP (HF k) (tails.getD (count - 1 - k) []) D.xs.length 0 (heads.getD k []))) ++ but (but FZ (TA (count - 1 - k))) (HA k) := fun p hp => by
      by_cases h1 : p.1 = TA (count - 1 - k)
      · rw [funR hp (hfz _ htm) h1]; exact List.mem_append_left _ List.mem_cons_self
      · by_cases h2 : p.1 = HA k
        · rw [funR hp (hfz _ hrm) h2]; exact List.mem_append_left _ (List.mem_cons_of_mem _ List.mem_cons_self)
        · exact List.mem_append_right _ (mem_but.mpr ⟨mem_but.mpr ⟨hp, h1⟩, h2⟩)
    generalize hFZ5 : ((TA (count - 1 - k), lisO (natA (tails.getD (count - 1 - k) []) (TF (count - 1 - k))) (TE (count - 1 - k))) :: (HA k, lisO (natA (heads.getD k []) (HF k)) (HE k)) :: tupsEnt v4 0 (stP (HF k) (tails.getD (count - 1 - k) []) D.xs.length 0 (heads.getD k []))) ++ but (but FZ (TA (count - 1 - k))) (HA k) = FZ5 at s5 hsub5
    have hfz5 : ∀ p ∈ tupsEnt v4 0 (stP (HF k) (tails.getD (count - 1 - k) []) D.xs.length 0 (heads.getD k [])) ++ fz0, p ∈ FZ5 := fun p hp => by
      rcases List.mem_append.mp hp with hp | hp
      · rw [← hFZ5]; exact List.mem_append_left _ (List.mem_cons_of_mem _ (List.mem_cons_of_mem _ hp))
      · exact hsub5 p (hfz p hp)
    have hdue5 : DueIs D.xs.length RD DD FZ5 := fun j hj => by
      obtain ⟨f2, e2, hm2⟩ := hdue j hj
      exact ⟨f2, e2, hsub5 _ hm2⟩
    have rd5 : RDok D.xs.length N0 RD D.da (tupsEnt v4 0 (stP (HF k) (tails.getD (count - 1 - k) []) D.xs.length 0 (heads.getD k [])) ++ fz0) := ⟨rd.inj, rd.low, fun p hp j hj => by
      rcases List.mem_append.mp hp with hp | hp
      · have hown := s4.own p (List.mem_append_right _ (List.mem_cons_of_mem _ (List.mem_cons_of_mem _ hp)))
        intro e
        obtain ⟨f2, e2, hm2⟩ := hdue j hj
        exact hown.2 (List.mem_map.mpr ⟨_, mem_but.mpr ⟨mem_but.mpr ⟨hm2, fun z => (hoff (count - 1 - k) hkt).2 j hj z.symm⟩, fun z => (hoff k hkc).1 j hj z.symm⟩, e.symm⟩)
      · exact rd.off p hp j hj, rd.at_, rd.n9⟩
    have tp5 : TPok D.xs.length N0 (stP (HF k) (tails.getD (count - 1 - k) []) D.xs.length 0 (heads.getD k [])) (tupRefs v4 0 (stP (HF k) (tails.getD (count - 1 - k) []) D.xs.length 0 (heads.getD k []))).toArray (fun i => v4 (4 * (0 + i) + 1)) (fun i => v4 (4 * (0 + i) + 2))
        (tupsEnt v4 0 (stP (HF k) (tails.getD (count - 1 - k) []) D.xs.length 0 (heads.getD k [])) ++ fz0) := ⟨fun i p hp => by
      have hm := tupsEnt_at v4 _ 0 i p hp
      refine ⟨?_, List.mem_append_left _ hm, ?_⟩
      · have hi : i < (stP (HF k) (tails.getD (count - 1 - k) []) D.xs.length 0 (heads.getD k [])).length := (List.getElem?_eq_some_iff.mp hp).1
        rw [List.getElem?_toArray, tupRefs_at, if_pos hi]
      · have : n3 + 3 ≤ v4 (4 * (0 + i) + 1) := (q8.1 _ hm).1
        exact ar115 this sz2 hn3, by rw [List.getElem?_toArray, tupRefs_at, if_neg (ar116)], fun p hp => by
      obtain ⟨a, ha, b, hb, e1, e2⟩ := stP_mem hp
      have hb2 := tn3 b hb
      exact ⟨a, D.xs.length - b, e1, by rw [e2]; exact ar117 hb2, hn3' a ha, ar118⟩⟩
    have kb3' := (kb1.trans kb2).trans kb3
    show wpAny _ _ (execs [forS (forQ (dFor2 K P))] _) _ _ ⟨_, _, d, _, os⟩
    refine wpAny_execs_cons (wpAny_For ?_ (o.fold2 P _))
    rw [fEval_eq, fPyIter_eq]
    refine go_val (fz := FZ5) (o.o2.o.e7a P D.sl D.se D.L D.s0 D.tw D.s1 D.hl D.he D.s2 D.du D.de D.tl D.te D.tc D.W D.c (intA D.xs D.xf) D.hr D.tr D.da it (v1 0) (k + 1 : Nat) (m : Nat) k l (tk4 + 0) (n3 + 1) (v4 0) 0 0 (tupRefs v4 0 (stP (HF k) (tails.getD (count - 1 - k) []) D.xs.length 0 (heads.getD k []))).toArray _ _) (rl room) s5 fun h6 g6 s6 hs6 kb6 => ?_
    refine go_val (fz := FZ5) (o.o2.o.e7b P D.sl D.se D.L D.s0 D.tw D.s1 D.hl D.he D.s2 D.du D.de D.tl D.te D.tc D.W D.c (intA D.xs D.xf) D.hr D.tr D.da it (v1 0) (k + 1 : Nat) (m : Nat) k l (tk4 + 0) (n3 + 1) (v4 0) 0 0 (tupRefs v4 0 (stP (HF k) (tails.getD (count - 1 - k) []) D.xs.length 0 (heads.getD k []))).toArray _ _) (rl room) s6 fun h7 g7 s7 hs7 kb7 => ?_
    have hJ : JJ k DD := fun i => ⟨fun _ => hDD i, Nat.le_succ_of_le (hDD i)⟩
    refine sl_loop o.o2 hv rd5 tp5 (rl room) _ 0 FZ5 DD l h7 g7 _ rfl (ar80) (fun i _ => Nat.le_trans (hDD i) (ar119 hkc hc9)) s7 hfz5 hdue5 fun FZ8 l8 h8 g8 tk8 s8 hfz8 hdue8 kb8 => ?_
    rw [List.drop_zero, stP_fold D.xs D.W k (HF k) tn3] at hdue8
    show wpAny _ _ (execs [] _) _ _ ⟨_, _, d, _, os⟩
    refine wpAny_execs_nil ?_
    show codeAny _ _ _ _ _
    refine kl_loop o hv rd hh ht hne hoff hc hc9 room m (k + 1) FZ8 _ _ _ h8 g8 tk8 (ar55 hk) (fun i => ((hJ.fold _) i).2) s8 (fun p hp => hfz8 p (List.mem_append_right _ hp)) hdue8 fun FZ' l2 x2 h' g' tk' s9 hfz9 hdue9 kb9 => ?_
    refine hR FZ' l2 x2 h' g' tk' s9 hfz9 ?_ ((((kb3'.trans kb6).trans kb7).trans kb8).trans kb9)
    rw [List.range'_succ, List.foldl_cons]
    exact hdue9
end
structure OkDue4 (K : Params → KT) : Prop where
  o3 : OkDue3 K
  d3a : ok_d3a K
  body : ∀ P, bodyOf K P 211 = [stmtOf K P 211 0, stmtOf K P 211 1, stmtOf K P 211 2, stmtOf K P 211 3, forS (forQ (dFor K P)), stmtOf K P 211 5]
  fold1 : ∀ P L x, foldedSetIterable (forQ (dFor K P)).iter (envC K P 211 L) x = pure x
theorem rowRefs_at (v : Nat → Nat) : ∀ (rows : List (List Nat)) (j i : Nat), (rowRefs v j rows)[i]? = if i < rows.length then some (.ref (v (4 * (j + i) + 1))) else none
  | [], j, i => by simp [rowRefs]
  | p :: l, j, 0 => by simp [rowRefs]
  | p :: l, j, i + 1 => by
    rw [rowRefs, List.getElem?_cons_succ, rowRefs_at v l (j + 1) i, List.length_cons]
    have : j + 1 + i = j + (i + 1) := ar69
    rw [this]
    by_cases h : i < l.length
    · rw [if_pos h, if_pos (ar107 h)]
    · rw [if_neg h, if_neg (ar108 h)]
theorem rowsEnt_at (v : Nat → Nat) : ∀ (rows : List (List Nat)) (j i : Nat), i < rows.length → rowEnt v (j + i) (rows.getD i []) ∈ rowsEnt v j rows
  | [], j, i, h => by simp at h
  | q :: l, j, 0, h => by simp [rowsEnt]
  | q :: l, j, i + 1, h => by
    have := rowsEnt_at v l (j + 1) i (by simpa using h)
    rw [show j + 1 + i = j + (i + 1) by exact ar69] at this
    rw [rowsEnt]
    exact List.mem_cons_of_mem _ (by simpa using this)
theorem rowsEnt_mem (v : Nat → Nat) : ∀ {rows : List (List Nat)} {j : Nat} {p : Ent}, p ∈ rowsEnt v j rows → ∃ i, i < rows.length ∧ p = rowEnt v (j + i) (rows.getD i [])
  | [], j, p, h => by simp [rowsEnt] at h
  | q :: l, j, p, h => by
    rw [rowsEnt] at h
    rcases List.mem_cons.mp h with rfl | h
    · exact ⟨0, by simp, by simp⟩
    · obtain ⟨i, hi, e⟩ := rowsEnt_mem v h
      exact ⟨i + 1, by simpa using hi, by rw [e, show j + 1 + i = j + (i + 1) by exact ar69]; simp⟩
theorem rowsEnt_inj (v : Nat → Nat) : ∀ {rows : List (List Nat)} {j : Nat}, ((rowsEnt v j rows).map (·.1)).Nodup → ∀ a b, a < rows.length → b < rows.length → v (4 * (j + a) + 1) = v (4 * (j + b) + 1) → a = b
  | [], j, _, a, b, ha, _, _ => by simp at ha
  | q :: l, j, nd, a, b, ha, hb, e => by
    rw [rowsEnt, List.map_cons, List.nodup_cons] at nd
    have key : ∀ c, c < l.length → v (4 * (j + (c + 1)) + 1) ∈ (rowsEnt v (j + 1) l).map (·.1) := fun c hc => by
      refine List.mem_map.mpr ⟨_, rowsEnt_at v l (j + 1) c hc, ?_⟩
      show v (4 * (j + 1 + c) + 1) = _
      rw [show j + 1 + c = j + (c + 1) by exact ar69]
    have no : ∀ c, c < l.length → v (4 * j + 1) ≠ v (4 * (j + (c + 1)) + 1) := fun c hc e2 => nd.1 (by
      show v (4 * j + 1) ∈ _
      rw [e2]; exact key c hc)
    cases a with
    | zero =>
      cases b with
      | zero => rfl
      | succ b => exact absurd e (no b (by simpa using hb))
    | succ a =>
      cases b with
      | zero => exact absurd e.symm (no a (by simpa using ha))
      | succ b =>
        have := rowsEnt_inj v nd.2 a b (by simpa using ha) (by simpa using hb) (by rw [show j + 1 + a = j + (a + 1) by exact ar69, show j + 1 + b = j + (b + 1) by exact ar69]; exact e)
        rw [this]
noncomputable def dueOf (xs : List Int) (W : Int) : Nat → List Nat :=
  (List.range' 0 ((headsOf xs W).length - 1)).foldl (rowUpd xs W (headsOf xs W) (headsOf xs.reverse W) ((headsOf xs W).length - 1)) (fun _ => [])
structure RowsOk (n : Nat) (rows : List (List Nat)) : Prop where
  num : ∀ k, k < rows.length → rows.getD k [] ≠ [] ∧ (rows.getD k []).length ≤ 900 ∧ ∀ b ∈ rows.getD k [], b ≤ n
theorem rev_slice (xs : List Int) (f : Nat → Nat) : slicePick (intA xs f) none none (some (-1)) = intA xs.reverse (fun i => f (xs.length - 1 - i)) := by
  rw [krv_pick]
  apply Array.ext'
  apply List.ext_getElem?
  intro i
  rw [Array.getElem?_toList (xs := intA xs.reverse _), intA_get]
  show (intA xs f).toList.reverse[i]? = _
  by_cases h : i < xs.length
  · rw [List.getElem?_reverse (by simp [intA_size]; exact h), Array.getElem?_toList, List.getElem?_reverse h]
    have e : (intA xs f).toList.length - 1 - i = xs.length - 1 - i := by simp [intA_size]
    rw [e, intA_get]
  · rw [List.getElem?_eq_none (by simp [intA_size]; exact ar120 h), List.getElem?_eq_none (by simp; exact ar120 h)]
    rfl
theorem sub1 {A N : List Ent} {a b c : Ent} : ((A ++ [c]) ++ N).Sublist (A ++ (a :: b :: c :: N)) := by
  rw [List.append_assoc]
  exact List.Sublist.append (List.Sublist.refl A) (List.Sublist.cons _ (List.Sublist.cons _ (List.Sublist.refl _)))
theorem sub2 {A N : List Ent} {a b c : Ent} : ((A ++ [b]) ++ N).Sublist (A ++ (a :: b :: c :: N)) := by
  rw [List.append_assoc]
  exact List.Sublist.append (List.Sublist.refl A) (List.Sublist.cons _ (List.Sublist.cons_cons _ (List.Sublist.cons _ (List.Sublist.refl _))))
theorem rowRefs_len (v : Nat → Nat) : ∀ (rows : List (List Nat)) (j : Nat), (rowRefs v j rows).length = rows.length
  | [], _ => rfl
  | _ :: l, j => by rw [rowRefs, List.length_cons, List.length_cons, rowRefs_len v l]
theorem rowsEnt_fst (v : Nat → Nat) : ∀ (rows : List (List Nat)) (j : Nat), (rowsEnt v j rows).map (·.1) = (List.range' j rows.length).map fun i => v (4 * i + 1)
  | [], _ => rfl
  | _ :: l, j => by rw [rowsEnt, List.map_cons, rowsEnt_fst v l (j + 1), List.length_cons, List.range'_succ, List.map_cons]; rfl
theorem rowRefs_eq (v : Nat → Nat) : ∀ (rows : List (List Nat)) (j : Nat), rowRefs v j rows = (List.range' j rows.length).map fun i => Value.ref (v (4 * i + 1))
  | [], _ => rfl
  | _ :: l, j => by rw [rowRefs, rowRefs_eq v l (j + 1), List.length_cons, List.range'_succ, List.map_cons]
noncomputable def vMk (a b c d : Nat) (RD E : Nat → Nat) (F : Nat → Nat → Nat) (k : Nat) : Nat :=
  if k % 4 = 0 then (if k = 0 then a else if k = 4 then b else if k = 8 then c else d) else if k % 4 = 1 then RD (k / 4) else if k % 4 = 2 then E (k / 4) else F (k / 4 / 1024) (k / 4 % 1024)
theorem vMk_1 (a b c d : Nat) (RD E : Nat → Nat) (F : Nat → Nat → Nat) (j : Nat) : vMk a b c d RD E F (4 * j + 1) = RD j := by
  unfold vMk
  rw [if_neg (ar121), if_pos (ar122)]
  congr 1
  exact ar123
theorem vMk_2 (a b c d : Nat) (RD E : Nat → Nat) (F : Nat → Nat → Nat) (j : Nat) : vMk a b c d RD E F (4 * j + 2) = E j := by
  unfold vMk
  rw [if_neg (ar124), if_neg (ar125), if_pos (ar126)]
  congr 1
  exact ar127
theorem vMk_3 (a b c d : Nat) (RD E : Nat → Nat) (F : Nat → Nat → Nat) (j : Nat) {i : Nat} (hi : i < 1024) : rowTok (vMk a b c d RD E F) j i = F j i := by
  unfold rowTok vMk
  rw [if_neg (ar128), if_neg (ar129), if_neg (ar130)]
  have e1 : (4 * (1024 * j + i) + 3) / 4 / 1024 = j := ar131 hi
  have e2 : (4 * (1024 * j + i) + 3) / 4 % 1024 = i := ar132 e1
  rw [e1, e2]
theorem vMk_row (a b c d : Nat) (RD E : Nat → Nat) (F : Nat → Nat → Nat) (j : Nat) {row : List Nat} (h : row.length ≤ 1024) : rowEnt (vMk a b c d RD E F) j row = (RD j, lisO (natA row (F j)) (E j)) := by
  rw [rowEnt, vMk_1, vMk_2, natA_congr (f := rowTok (vMk a b c d RD E F) j) (g := F j) fun i hi => vMk_3 a b c d RD E F j (Nat.lt_of_lt_of_le hi h)]
section
variable {K : Params → KT} [ok : Nonempty (KOk K)] {P : Params} {dr : Source → Nat → Nat} {fz : List Ent}
theorem St.sublist {N0 : Nat} {lo : List Addr} {FZ es es' : List Ent} {h : Heap} {g : Array GenState} (s : St K P N0 lo FZ es h g) (hs : es'.Sublist es) : St K P N0 lo FZ es' h g :=
  s.sub (fun p hp => hs.subset hp) ((hs.map (·.1)).nodup s.nd)
theorem rw_ok {n N0 count : Nat} {rows : List (List Nat)} {v : Nat → Nat} {fz0 : List Ent} (hr : RowsOk n rows) (hc : count ≤ rows.length) (hm : ∀ p ∈ rowsEnt v 0 rows, p ∈ fz0) (hl : ∀ p ∈ rowsEnt v 0 rows, N0 ≤ p.1) :
    RWok n N0 count rows (rowRefs v 0 rows).toArray (fun k => v (4 * (0 + k) + 1)) (fun k => rowTok v (0 + k)) (fun k => v (4 * (0 + k) + 2)) fz0 :=
  ⟨hc, fun k hk => ⟨by rw [List.getElem?_toArray, rowRefs_at, if_pos (ar133 hk hc)], hm _ (rowsEnt_at v rows 0 k (ar133 hk hc)), hl _ (rowsEnt_at v rows 0 k (ar133 hk hc))⟩, fun k hk => hr.num k (ar133 hk hc)⟩
theorem con_due (o : OkDue4 K) {sl se tw : Nat} {W : Int} {xs : List Int} {xf : Nat → Nat} (hv : ∀ x ∈ xs, 0 ≤ x ∧ x ≤ 100000) (hn : xs.length ≤ 900) (hp : 0 < xs.length) (h1 : RowsOk xs.length (headsOf xs W)) (h2 : RowsOk xs.length (headsOf xs.reverse W))
    (hlen : (headsOf xs.reverse W).length = (headsOf xs W).length) (hcnt : (headsOf xs W).length ≤ 900) (hdl : ∀ i, (dueOf xs W i).length ≤ 1024) :
    CON K P dr fz (.call (.ref 211) ⟨[.ref sl, .int W tw], []⟩) [(sl, lisO (intA xs xf) se)] 180 650
      (fun v => ⟨.ok (.ret (.ref (v 0))), [], (v 0, tupO #[.int (((headsOf xs W).length - 1 : Nat) : Int) (v 4), .ref (v 8)]) :: (v 8, lisO (rowRefs v 0 ((List.range xs.length).map (dueOf xs W))).toArray (v 12)) :: rowsEnt v 0 ((List.range xs.length).map (dueOf xs W))⟩) := by
  intro A h g d tk os R room hi hB has hlo nd hR
  have s0 : St K P h.objs.size [sl] fz [(sl, lisO (intA xs xf) se)] h g := ⟨hi, hB, has, hlo, nd, fun p hp => by rw [List.mem_singleton.mp hp]; exact .inl List.mem_cons_self, Nat.le_refl _⟩
  have hN217 : 217 ≤ h.objs.size := hi.2.2.2.1
  refine go_code (fz := fz) (o.o3.o2.o.d0 P sl se tw W (intA xs xf) h.objs.size tk) room s0 fun h1' g1 s1 hs1 kb1 => ?_
  have rm : Room (A.deeper (envC K P 211 h.objs.size)) 170 600 := room_deeper (rl room)
  refine ks_codeAny_funcAt ?_
  rw [o.body P]
  refine PySem.wpAt_of_wpAny ?_
  refine wp_first ?_
  refine go_flow (fz := fz) (o.o3.o2.o.d1 P sl se tw h.objs.size (tk + 0) W (intA xs xf) (fun v => (rowRefs v 0 (headsOf xs W)).toArray) (fun v => rowsEnt v 0 (headsOf xs W)) _ _) (rl rm) s1
    ⟨con_heads o.o3.o2.o.hd hv hn hp, fun v1 n1 tk1 q1 q2 hb gb s2 hs2 kb2 => ?_⟩
  have hs2' : hb.objs.size = n1 := hs2
  simp only [app_eq] at s2
  have s2f := s2.freeze
  show wpAny _ _ (execs (stmtOf K P 211 1 :: _) _) _ _ ⟨_, _, d, _, os⟩
  refine wp_first ?_
  refine go_flow (o.o3.o2.o.d2 P sl se tw h.objs.size (tk + 0) (tk1 + 0) (v1 4) (v1 0) W (intA xs xf) (rowRefs v1 0 (headsOf xs W)).toArray (intA xs.reverse (fun i => xf (xs.length - 1 - i))) (fun v => (rowRefs v 0 (headsOf xs.reverse W)).toArray) (fun v => rowsEnt v 0 (headsOf xs.reverse W)) _ _) (rl rm) s2f
    ⟨con_bi bi_getitem (con_slice .none .none (.int _ _) (by simp) (by rw [intA_size]; exact Nat.le_trans hn (by decide)) (rev_slice xs xf)), fun v2 n2 tk2 q4 q5 => ⟨con_heads o.o3.o2.o.hd (fun x hx => hv x (List.mem_reverse.mp hx)) (by rw [List.length_reverse]; exact hn) (by rw [List.length_reverse]; exact hp), fun v3 n3 tk3 q7 q8 hc gc s3 hs3 kb3 => ?_⟩⟩
  have hs3' : hc.objs.size = n3 := hs3
  simp only [app_eq] at s3
  have s4 : St K P h.objs.size [sl] (rowsEnt v1 0 (headsOf xs W) ++ fz) (([(sl, lisO (intA xs xf) se), (h.objs.size, frmO #[dEnt P "width" (tk + 0) (.int W tw), dEnt P "heads" (tk1 + 0) (.ref (v1 4))] 2), (h.objs.size + 1, celO (some (.ref sl))), (h.objs.size + 2, celO (some (.ref (v3 4)))), (h.objs.size + 3, celO none), (h.objs.size + 4, celO none), (v1 4, lisO (rowRefs v1 0 (headsOf xs W)).toArray (v1 0))] ++
      [(v3 4, lisO (rowRefs v3 0 (headsOf xs.reverse W)).toArray (v3 0))]) ++ rowsEnt v3 0 (headsOf xs.reverse W)) hc gc := s3.sublist sub1
  have s5 := s4.freeze
  have hl1 : 1 ≤ (headsOf xs W).length := by simp [headsOf]
  have zl : CON K P dr (rowsEnt v3 0 (headsOf xs.reverse W) ++ (rowsEnt v1 0 (headsOf xs W) ++ fz)) (.call (.builtin "len") ⟨[.ref (v1 4)], []⟩) [(v1 4, lisO (rowRefs v1 0 (headsOf xs W)).toArray (v1 0))] 5 20 (fun v => ⟨.ok (.ret (.int ((headsOf xs W).length : Int) (v 0))), [], []⟩) := by
    have z := con_lenL (K := K) (P := P) (dr := dr) (fz := rowsEnt v3 0 (headsOf xs.reverse W) ++ (rowsEnt v1 0 (headsOf xs W) ++ fz)) (l := v1 4) (xs := (rowRefs v1 0 (headsOf xs W)).toArray) (e := v1 0) (by rw [List.size_toArray, rowRefs_len]; exact ar73 hcnt)
    rw [List.size_toArray, rowRefs_len] at z
    exact z
  show wpAny _ _ (execs (stmtOf K P 211 2 :: _) _) _ _ ⟨_, _, d, _, os⟩
  refine wp_first ?_
  refine go_flow (o.d3a P sl se tw h.objs.size (tk + 0) (tk1 + 0) (v1 4) (v1 0) (v3 4) (v3 0) W (headsOf xs W).length (intA xs xf) (rowRefs v1 0 (headsOf xs W)).toArray (rowRefs v3 0 (headsOf xs.reverse W)).toArray _ _) (rl rm) s5
    ⟨zl, fun v4 n4 tk4 q10 q11 hd' gd s6 hs4 kb6 => ?_⟩
  have hs4' : hd'.objs.size = n4 := hs4
  have ec : (((headsOf xs W).length : Int) - 1) = (((headsOf xs W).length - 1 : Nat) : Int) := ar134 hl1
  rw [ec] at s6
  show wpAny _ _ (execs (stmtOf K P 211 3 :: _) _) _ _ ⟨_, _, d, _, os⟩
  refine wp_first ?_
  refine go_flow (o.o3.o2.o.d3 P sl se tw h.objs.size (tk + 0) (tk1 + 0) (v1 4) (v1 0) (v3 4) (v3 0) (tk4 + 1) xs.length W (((headsOf xs W).length - 1 : Nat) : Int) (intA xs xf) (rowRefs v1 0 (headsOf xs W)).toArray (rowRefs v3 0 (headsOf xs.reverse W)).toArray (fun v => (rowRefs v 0 (List.replicate xs.length [])).toArray) (.int (xs.getD (xs.length - 1) 0) (xf (xs.length - 1))) (fun v => rowsEnt v 0 (List.replicate xs.length [])) _ _) (rl rm) s6
    ⟨con_dcomp o.o3.o2.o.dc hn hp, fun v5 n5 tk5 q13 q14 he ge s7 hs5 kb7 => ?_⟩
  have hs5' : he.objs.size = n5 := hs5
  simp only [app_eq] at s7
  generalize hda : (rowRefs v5 0 (List.replicate xs.length [])).toArray = da at s7
  have s8 : St K P h.objs.size [sl] (rowsEnt v3 0 (headsOf xs.reverse W) ++ (rowsEnt v1 0 (headsOf xs W) ++ fz))
      ((DX.base ⟨sl, se, h.objs.size, tk + 0, tw, tk1 + 0, v1 4, v1 0, tk5 + 0, hd'.objs.size + 1, v5 0, v3 4, v3 0, tk4 + 1, W, (((headsOf xs W).length - 1 : Nat) : Int), xs, xf, (rowRefs v1 0 (headsOf xs W)).toArray, (rowRefs v3 0 (headsOf xs.reverse W)).toArray, da⟩ P .a none) ++ rowsEnt v5 0 (List.replicate xs.length [])) he ge := s7.sublist (sub2 (A := [_, _, _, _, _, _, _, _]))
  have s9 := s8.freeze
  have c5 := hd'.objs.size + 1
  have mrep : ∀ j, j < xs.length → rowEnt v5 (0 + j) [] ∈ rowsEnt v5 0 (List.replicate xs.length []) := fun j hj => by
    have := rowsEnt_at v5 (List.replicate xs.length []) 0 j (by simpa using hj)
    simpa [List.getD_eq_getElem?_getD, List.getElem?_replicate, hj] using this
  have rd : RDok xs.length h.objs.size (fun j => v5 (4 * (0 + j) + 1)) da (rowsEnt v3 0 (headsOf xs.reverse W) ++ (rowsEnt v1 0 (headsOf xs W) ++ fz)) := ⟨fun i j hi hj e => rowsEnt_inj v5 (rows := List.replicate xs.length []) (j := 0) q14.2 i j (by simpa using hi) (by simpa using hj) e,
    fun j hj => by
      have z : hd'.objs.size + 3 ≤ v5 (4 * (0 + j) + 1) := (q14.1 _ (mrep j hj)).1
      have z2 := s6.sz
      exact ar136 z z2,
    fun p hp j hj e => (s8.own _ (List.mem_append_right _ (mrep j hj))).2 (List.mem_map.mpr ⟨p, hp, e⟩),
    fun j hj => by rw [← hda, List.getElem?_toArray, rowRefs_at, if_pos (by simpa using hj)], hn⟩
  have hdue : DueIs xs.length (fun j => v5 (4 * (0 + j) + 1)) (fun _ => []) (rowsEnt v5 0 (List.replicate xs.length []) ++ (rowsEnt v3 0 (headsOf xs.reverse W) ++ (rowsEnt v1 0 (headsOf xs W) ++ fz))) := fun j hj => ⟨_, _, List.mem_append_left _ (mrep j hj)⟩
  have low1 : ∀ p ∈ rowsEnt v1 0 (headsOf xs W), h.objs.size ≤ p.1 := fun p hp => by
    have z : h1'.objs.size + 0 ≤ p.1 := (q2.1 p (List.mem_cons_of_mem _ hp)).1
    have z2 := s1.sz
    exact Nat.le_trans z2 z
  have low3 : ∀ p ∈ rowsEnt v3 0 (headsOf xs.reverse W), h.objs.size ≤ p.1 := fun p hp => by
    have z : n2 + 0 ≤ p.1 := (q8.1 p (List.mem_cons_of_mem _ hp)).1
    have z2 := s2f.sz
    exact Nat.le_trans (show h.objs.size ≤ n2 + 0 by exact ar137 q4 z2) z
  have hh := rw_ok (n := xs.length) (N0 := h.objs.size) (count := (headsOf xs W).length - 1) (v := v1) (fz0 := rowsEnt v3 0 (headsOf xs.reverse W) ++ (rowsEnt v1 0 (headsOf xs W) ++ fz)) h1 (ar138) (fun p hp => List.mem_append_right _ (List.mem_append_left _ hp)) low1
  have ht := rw_ok (n := xs.length) (N0 := h.objs.size) (count := (headsOf xs W).length - 1) (v := v3) (fz0 := rowsEnt v3 0 (headsOf xs.reverse W) ++ (rowsEnt v1 0 (headsOf xs W) ++ fz)) h2 (ar139 hlen) (fun p hp => List.mem_append_left _ hp) low3
  show wpAny _ _ (execs (forS (forQ (dFor K P)) :: _) _) _ _ ⟨_, _, d, _, os⟩
  refine wpAny_execs_cons (wpAny_For ?_ (o.fold1 P _))
  rw [fEval_eq, fPyIter_eq]
  refine go_val (o.o3.o2.o.e4a P sl se h.objs.size (tk + 0) tw (tk1 + 0) (v1 4) (v1 0) (tk5 + 0) (hd'.objs.size + 1) (v5 0) (v3 4) (v3 0) (tk4 + 1) W (((headsOf xs W).length - 1 : Nat) : Int) (intA xs xf) (rowRefs v1 0 (headsOf xs W)).toArray (rowRefs v3 0 (headsOf xs.reverse W)).toArray da _ _) (rl rm) s9 fun hf gf s10 hs6 kb10 => ?_
  refine go_val (o.o3.o2.o.e4b P sl se h.objs.size (tk + 0) tw (tk1 + 0) (v1 4) (v1 0) (tk5 + 0) (hd'.objs.size + 1) (v5 0) (v3 4) (v3 0) (tk4 + 1) W (((headsOf xs W).length - 1 : Nat) : Int) (intA xs xf) (rowRefs v1 0 (headsOf xs W)).toArray (rowRefs v3 0 (headsOf xs.reverse W)).toArray da _ _ _ _ _) (rl rm) s10
    ⟨con_bi bi_riter (con_riter (by unfold Builtin.Range.rangeSize; simp; exact ar140) (ar40) (ar141 hcnt) (.inl rfl) (ar142 hcnt)), fun v7 n7 tk7 q19 q20 hg gg s11 hs7 kb11 => ?_⟩
  have hs7' : hg.objs.size = n7 := hs7
  refine kl_loop (D := ⟨sl, se, h.objs.size, tk + 0, tw, tk1 + 0, v1 4, v1 0, tk5 + 0, hd'.objs.size + 1, v5 0, v3 4, v3 0, tk4 + 1, W, (((headsOf xs W).length - 1 : Nat) : Int), xs, xf, (rowRefs v1 0 (headsOf xs W)).toArray, (rowRefs v3 0 (headsOf xs.reverse W)).toArray, da⟩) o.o3 hv rd hh ht ?_ ?_ rfl (ar143 hcnt) (rl rm) ((headsOf xs W).length - 1) 0 _ (fun _ => []) .a none hg gg _ (ar144) (fun _ => by simp) s11 (fun p hp => List.mem_append_right _ hp) hdue fun FZ8 l8 x8 h8 g8 tk8 s12 hfz8 hdue8 kb12 => ?_
  · intro i j hi hj e
    have m3 := rowsEnt_at v3 (headsOf xs.reverse W) 0 j (ar145 hj hlen)
    have m1 := rowsEnt_at v1 (headsOf xs W) 0 i (ar146 hi)
    exact (s4.own _ (List.mem_append_right _ m3)).2 (List.mem_map.mpr ⟨_, List.mem_append_left _ m1, e⟩)
  · intro i hi
    exact ⟨fun j hj => rd.off _ (List.mem_append_right _ (List.mem_append_left _ (rowsEnt_at v1 (headsOf xs W) 0 i (ar146 hi)))) j hj, fun j hj => rd.off _ (List.mem_append_left _ (rowsEnt_at v3 (headsOf xs.reverse W) 0 i (ar145 hi hlen))) j hj⟩
  show wpAny _ _ (execs [stmtOf K P 211 5] _) _ _ ⟨_, _, d, _, os⟩
  rw [fExecs_eq]
  refine go_flow (fz := FZ8) (o.o3.o2.o.e11 P sl se h.objs.size (tk + 0) tw (tk1 + 0) (v1 4) (v1 0) (tk5 + 0) (hd'.objs.size + 1) (v5 0) (v3 4) (v3 0) (tk4 + 1) W (((headsOf xs W).length - 1 : Nat) : Int) (intA xs xf) (rowRefs v1 0 (headsOf xs W)).toArray (rowRefs v3 0 (headsOf xs.reverse W)).toArray da x8 l8 _ _) (rl rm) s12 fun h9 g9 s13 hs9 kb13 => ?_
  have hch : ∀ j, ∃ fe : (Nat → Nat) × Nat, j < xs.length → (v5 (4 * (0 + j) + 1), lisO (natA (dueOf xs W j) fe.1) fe.2) ∈ FZ8 := fun j => by
    by_cases hj : j < xs.length
    · obtain ⟨f, e, hm⟩ := hdue8 j hj
      exact ⟨(f, e), fun _ => hm⟩
    · exact ⟨(fun _ => 0, 0), fun z => absurd z hj⟩
  have hFE := fun j => Classical.choose_spec (hch j)
  generalize hV : vMk (h8.objs.size + 0) (tk4 + 1) (hd'.objs.size + 1) (v5 0) (fun j => v5 (4 * (0 + j) + 1)) (fun j => (Classical.choose (hch j)).2) (fun j => (Classical.choose (hch j)).1) = V
  have hrow : ∀ j, rowEnt V j (dueOf xs W j) = (v5 (4 * (0 + j) + 1), lisO (natA (dueOf xs W j) (Classical.choose (hch j)).1) (Classical.choose (hch j)).2) := fun j => by
    rw [← hV]
    exact vMk_row _ _ _ _ _ _ _ j (hdl j)
  have hV1 : ∀ j, V (4 * j + 1) = v5 (4 * j + 1) := fun j => by
    rw [← hV, vMk_1, Nat.zero_add]
  have hrm : ∀ p ∈ rowsEnt V 0 ((List.range xs.length).map (dueOf xs W)), ∃ j, j < xs.length ∧ p = (v5 (4 * (0 + j) + 1), lisO (natA (dueOf xs W j) (Classical.choose (hch j)).1) (Classical.choose (hch j)).2) := fun p hp => by
    obtain ⟨j, hj, e⟩ := rowsEnt_mem V hp
    have hj2 : j < xs.length := by simpa using hj
    refine ⟨j, hj2, ?_⟩
    rw [e, ← hrow j, Nat.zero_add]
    congr 1
    simp [List.getD_eq_getElem?_getD, hj2]
  have hrefs : (rowRefs V 0 ((List.range xs.length).map (dueOf xs W))).toArray = da := by
    rw [← hda, rowRefs_eq, rowRefs_eq]
    simp [hV1]
  have kb := (((((((((kb1.trans kb2).trans kb3).trans kb6).trans kb7).trans kb10).trans kb11).trans kb12).trans kb13))
  have hdu : h9.get? (hd'.objs.size + 1) = some (lisO da (v5 0)) := has_nth s13.has 8 rfl
  have hT : h9.get? (h8.objs.size + 0) = some (tupO #[.int (((headsOf xs W).length - 1 : Nat) : Int) (tk4 + 1), .ref (hd'.objs.size + 1)]) := has_nth s13.has 9 rfl
  have hdu8 : hd'.objs.size + 1 < h8.objs.size := Heap.lt_size (has_nth s12.has 8 rfl)
  have ownT : OwnA FZ8 (h8.objs.size + 0) := s13.own (h8.objs.size + 0, tupO #[.int (((headsOf xs W).length - 1 : Nat) : Int) (tk4 + 1), .ref (hd'.objs.size + 1)]) (by simp)
  have ownD : OwnA FZ8 (hd'.objs.size + 1) := s13.own (hd'.objs.size + 1, lisO da (v5 0)) (by simp)
  have e0 : V 0 = h8.objs.size + 0 := by rw [← hV]; rfl
  have e4 : V 4 = tk4 + 1 := by rw [← hV]; rfl
  have e8 : V 8 = hd'.objs.size + 1 := by rw [← hV]; rfl
  have e12 : V 12 = v5 0 := by rw [← hV]; rfl
  show R (.ok (.ret (.ref (h8.objs.size + 0)))) _
  rw [← e0]
  refine hR V h9 g9 _ (inv_less s13.inv fun p hp => hfz8 p (List.mem_append_right _ (List.mem_append_right _ hp))) s13.bare s13.sz ⟨has_nth s13.has 0 rfl, trivial⟩ ?_ (fun b ob e z1 z2 => kb b ob (Heap.lt_size e) z1 z2 e)
  · show NewOk h h9 ((V 0, tupO #[.int (((headsOf xs W).length - 1 : Nat) : Int) (V 4), .ref (V 8)]) :: (V 8, lisO (rowRefs V 0 ((List.range xs.length).map (dueOf xs W))).toArray (V 12)) :: rowsEnt V 0 ((List.range xs.length).map (dueOf xs W)))
    rw [hrefs, e0, e4, e8, e12]
    have z6 := s6.sz
    refine ⟨fun p hp => ?_, ?_⟩
    · rcases List.mem_cons.mp hp with rfl | hp
      · exact ⟨Nat.le_trans s12.sz (Nat.le_add_right _ _), hT⟩
      · rcases List.mem_cons.mp hp with rfl | hp
        · exact ⟨Nat.le_trans z6 (Nat.le_add_right _ _), hdu⟩
        · obtain ⟨j, hj, rfl⟩ := hrm p hp
          exact ⟨rd.low j hj, s13.inv.2.2.2.2.1 _ (hFE j hj)⟩
    · have noF : ∀ {a : Nat}, OwnA FZ8 a → a ∉ (rowsEnt V 0 ((List.range xs.length).map (dueOf xs W))).map (·.1) := fun {a} ha hm => by
        obtain ⟨p, hp, e⟩ := List.mem_map.mp hm
        obtain ⟨j, hj, rfl⟩ := hrm p hp
        exact ha.2 (List.mem_map.mpr ⟨_, hFE j hj, e⟩)
      rw [List.map_cons, List.map_cons, List.nodup_cons, List.nodup_cons]
      refine ⟨fun hm => ?_, noF ownD, ?_⟩
      · rcases List.mem_cons.mp hm with e | hm
        · exact Nat.ne_of_gt (Nat.lt_of_lt_of_le hdu8 (Nat.le_add_right _ 0)) e
        · exact noF ownT hm
      · rw [rowsEnt_fst]
        have := q14.2
        have q15' : ((rowsEnt v5 0 (List.replicate xs.length [])).map (·.1)).Nodup := q14.2
        rw [rowsEnt_fst] at q15'
        simp only [List.length_map, List.length_range, hV1]
        simpa using q15'
end
noncomputable def pdI (P : Params) (s : Nat) (a : Int) (ta : Nat) : RO → Obj
  | .n => dicO #[dEnt P "k" s (.int a ta)] 1
  | .y t x => dicO #[dEnt P "k" s (.int a ta), dEnt P "blank" t x] 2
inductive PO where
  | e
  | n (s : Nat) (x : Value)
  | y (s : Nat) (x : Value) (t : Nat) (z : Value)
noncomputable def pdX (P : Params) : PO → Obj
  | .e => dicO #[] 0
  | .n s x => dicO #[dEnt P "k" s x] 1
  | .y s x t z => dicO #[dEnt P "k" s x, dEnt P "blank" t z] 2
noncomputable def PO.key (k : Nat) : PO → Nat
  | .e => k
  | .n s _ => s
  | .y s _ _ _ => s
noncomputable def PO.rest : PO → RO
  | .e => .n
  | .n _ _ => .n
  | .y _ _ t z => .y t z
noncomputable def PO.of (s : Nat) (x : Value) : RO → PO
  | .n => .n s x
  | .y t z => .y s x t z
noncomputable def pComp (K : Params → KT) (P : Params) : PySem.Expr := valOf (stmtOf K P 194 0)
noncomputable def sc_pI (K : Params → KT) (P : Params) (rl re L acc eo C it : Nat) (rr os : Array Value) (s ta : Nat) (a j m : Int) (o : RO) (N tk : Nat) : Sc :=
  sS [5] (.call (.builtin "range_iterator.__next__") ⟨[.ref it], []⟩) [2] [(it, ritO j m 1)] 0 0 (fun v1 => ⟨.ok (.ret (.int j (v1 0))), [ritO (j + 1) (m - 1) 1], []⟩) 0 fun v1 n1 tk1 =>
  sS [4, 4, 4] (.call (.builtin "list.append") ⟨[.ref acc, .int a ta], []⟩) [0] [(acc, lisO os eo)] 0 0 (fun v2 => ⟨.ok (.ret .none), [lisO (os.push (.int a ta)) (eo + 1)], []⟩) 0 fun v2 n2 tk2 =>
  sG [] (.compLoop (pComp K P) 1 (.ref it) (.ref acc) (compE (pComp K P) (envC K P 194 L) C)) [0, 1, 2] [(acc, lisO (os.push (.int a ta)) (eo + 1)), (C, pdI P s a ta (o.set (tk1 + 0) (.int j (v1 0)))), (it, ritO (j + 1) (m - 1) 1)] 0 0
noncomputable def ok_pI (K : Params → KT) : Prop := ∀ P rl re L acc eo C it rr os s ta a j m o N tk,
  RunsTo K P 20 80 4000 (.compLoop (pComp K P) 1 (.ref it) (.ref acc) (compE (pComp K P) (envC K P 194 L) C)) [(acc, lisO os eo), (C, pdI P s a ta o), (it, ritO j m 1)] N tk (sc_pI K P rl re L acc eo C it rr os s ta a j m o N tk)
noncomputable def sc_pIe (K : Params → KT) (P : Params) (rl re L acc eo C it : Nat) (rr os : Array Value) (s ta : Nat) (a j m : Int) (o : RO) (N tk : Nat) : Sc :=
  sS [5] (.call (.builtin "range_iterator.__next__") ⟨[.ref it], []⟩) [2] [(it, ritO j m 1)] 0 0 (fun v1 => ⟨.error (.ref (v1 0)), [], [(v1 0, excStop (v1 1))]⟩) 0 fun v1 n1 tk1 =>
  sF [6] (.ok .next) [0, 1, 2] [(acc, lisO os eo), (C, pdI P s a ta o), (it, ritO j m 1)] 0 0
noncomputable def ok_pIe (K : Params → KT) : Prop := ∀ P rl re L acc eo C it rr os s ta a j m o N tk,
  RunsTo K P 20 80 4000 (.compLoop (pComp K P) 1 (.ref it) (.ref acc) (compE (pComp K P) (envC K P 194 L) C)) [(acc, lisO os eo), (C, pdI P s a ta o), (it, ritO j m 1)] N tk (sc_pIe K P rl re L acc eo C it rr os s ta a j m o N tk)
noncomputable def sc_pIs (K : Params → KT) (P : Params) (rl re L acc eo C it : Nat) (rr os : Array Value) (s ta : Nat) (a j m : Int) (o : RO) (N tk : Nat) : Sc :=
  sG (bif P.followText "comprehension-iter-twice" then [] else [5, 5, 5, 5]) (.compLoop (pComp K P) 1 (.ref it) (.ref acc) (compE (pComp K P) (envC K P 194 L) C)) [0, 1, 2] [(acc, lisO os eo), (C, pdI P s a ta o), (it, ritO j m 1)] 0 0
noncomputable def ok_pIs (K : Params → KT) : Prop := ∀ P rl re L acc eo C it rr os s ta a j m o N tk,
  RunsTo K P 20 80 4000 (.compStart (pComp K P) 1 (.ref it) (.ref acc) (compE (pComp K P) (envC K P 194 L) C)) [(acc, lisO os eo), (C, pdI P s a ta o), (it, ritO j m 1)] N tk (sc_pIs K P rl re L acc eo C it rr os s ta a j m o N tk)
noncomputable def sc_pO (K : Params → KT) (P : Params) (rl re L acc eo C it : Nat) (rr os : Array Value) (k m : Int) (l : PO) (r : Str) (t : Nat) (c : Int) (AC : (Nat → Nat) → Array Value) (RR : (Nat → Nat) → RO) (N tk : Nat) : Sc :=
  sS [7] (.call (.builtin "range_iterator.__next__") ⟨[.ref it], []⟩) [4] [(it, ritO k m 1)] 0 0 (fun v1 => ⟨.ok (.ret (.int k (v1 0))), [ritO (k + 1) (m - 1) 1], []⟩) 0 fun v1 n1 tk1 =>
  sS [6, 6, 0, 0, 4, 6, 3, 3, 3] (.call (.builtin "list.__getitem__") ⟨[.ref rl, .int k (v1 0)], []⟩) [0] [(rl, lisO rr re)] 0 0 (fun v2 => ⟨.ok (.ret (.str r t)), [], []⟩) 0 fun v2 n2 tk2 =>
  sS [] (.call (.builtin "str.count") ⟨[.str r t, .str " " (tk2 + 0)], []⟩) [] [] 0 0 (fun v3 => ⟨.ok (.ret (.int c (v3 0))), [], []⟩) 0 fun v3 n3 tk3 =>
  sS [8, 8, 8, 8, 8, 8] (.call (.builtin "range.__iter__") ⟨[.ref (n3 + 0)], []⟩) [5] [(n3 + 0, rngO 0 (tk3 + 0) c (v3 0) 1 (tk3 + 1))] 0 0 (fun v4 => ⟨.ok (.ret (.ref (v4 0))), [], [(v4 0, ritO 0 c 1)]⟩) 1 fun v4 n4 tk4 =>
  sS [9] (.compStart (pComp K P) 1 (.ref (v4 0)) (.ref acc) (compE (pComp K P) (envC K P 194 L) C)) [2, 3, 6] [(acc, lisO os eo), (C, pdI P (l.key (tk1 + 0)) k (v1 0) l.rest), (v4 0, ritO 0 c 1)] 30 120 (fun v5 => ⟨.ok .next, [lisO (AC v5) (v5 0), pdI P (l.key (tk1 + 0)) k (v1 0) (RR v5), ritO c 0 1], []⟩) 0 fun v5 n5 tk5 =>
  sG [] (.compLoop (pComp K P) 0 (.ref it) (.ref acc) (compE (pComp K P) (envC K P 194 L) C)) [0, 1, 2, 3, 4] [(rl, lisO rr re), (L + 1, celO (some (.ref rl))), (acc, lisO (AC v5) (v5 0)), (C, pdI P (l.key (tk1 + 0)) k (v1 0) (RR v5)), (it, ritO (k + 1) (m - 1) 1)] 0 0
noncomputable def ok_pO (K : Params → KT) : Prop := ∀ P rl re L acc eo C it rr os k m l r t c AC RR N tk,
  RunsTo K P 50 200 4000 (.compLoop (pComp K P) 0 (.ref it) (.ref acc) (compE (pComp K P) (envC K P 194 L) C)) [(rl, lisO rr re), (L + 1, celO (some (.ref rl))), (acc, lisO os eo), (C, pdX P l), (it, ritO k m 1)] N tk (sc_pO K P rl re L acc eo C it rr os k m l r t c AC RR N tk)
noncomputable def sc_pOe (K : Params → KT) (P : Params) (rl re L acc eo C it : Nat) (rr os : Array Value) (k m : Int) (l : PO) (N tk : Nat) : Sc :=
  sS [7] (.call (.builtin "range_iterator.__next__") ⟨[.ref it], []⟩) [4] [(it, ritO k m 1)] 0 0 (fun v1 => ⟨.error (.ref (v1 0)), [], [(v1 0, excStop (v1 1))]⟩) 0 fun v1 n1 tk1 =>
  sF [8] (.ok .next) [0, 1, 2, 3, 4] [(rl, lisO rr re), (L + 1, celO (some (.ref rl))), (acc, lisO os eo), (C, pdX P l), (it, ritO k m 1)] 0 0
noncomputable def ok_pOe (K : Params → KT) : Prop := ∀ P rl re L acc eo C it rr os k m l N tk,
  RunsTo K P 50 200 4000 (.compLoop (pComp K P) 0 (.ref it) (.ref acc) (compE (pComp K P) (envC K P 194 L) C)) [(rl, lisO rr re), (L + 1, celO (some (.ref rl))), (acc, lisO os eo), (C, pdX P l), (it, ritO k m 1)] N tk (sc_pOe K P rl re L acc eo C it rr os k m l N tk)
noncomputable def sc_pOs (K : Params → KT) (P : Params) (rl re L acc eo C it : Nat) (rr os : Array Value) (k m : Int) (N tk : Nat) : Sc :=
  sG (bif P.followText "comprehension-iter-twice" then [] else [7, 7, 7, 7]) (.compLoop (pComp K P) 0 (.ref it) (.ref acc) (compE (pComp K P) (envC K P 194 L) C)) [0, 1, 2, 3, 4] [(rl, lisO rr re), (L + 1, celO (some (.ref rl))), (acc, lisO os eo), (C, pdX P PO.e), (it, ritO k m 1)] 0 0
noncomputable def ok_pOs (K : Params → KT) : Prop := ∀ P rl re L acc eo C it rr os k m N tk,
  RunsTo K P 50 200 4000 (.compStart (pComp K P) 0 (.ref it) (.ref acc) (compE (pComp K P) (envC K P 194 L) C)) [(rl, lisO rr re), (L + 1, celO (some (.ref rl))), (acc, lisO os eo), (C, pdX P PO.e), (it, ritO k m 1)] N tk (sc_pOs K P rl re L acc eo C it rr os k m N tk)
noncomputable def sc_places (K : Params → KT) (P : Params) (rl re : Nat) (n : Int) (rr : Array Value) (AC : (Nat → Nat) → Array Value) (KK JJ : Int) (N tk : Nat) : Sc :=
  sS [0, 0, 5, 5, 1, 0, 0, 0, 0, 5] (.call (.builtin "len") ⟨[.ref rl], []⟩) [0] [(rl, lisO rr re)] 5 20 (fun v1 => ⟨.ok (.ret (.int n (v1 0))), [], []⟩) 2 fun v1 n1 tk1 =>
  sS [6, 6, 6, 6, 6, 6] (.call (.builtin "range.__iter__") ⟨[.ref (n1 + 0)], []⟩) [3] [(n1 + 0, rngO 0 (tk1 + 0) n (v1 0) 1 (tk1 + 1))] 0 0 (fun v2 => ⟨.ok (.ret (.ref (v2 0))), [], [(v2 0, ritO 0 n 1)]⟩) 1 fun v2 n2 tk2 =>
  sS [7] (.compStart (pComp K P) 0 (.ref (v2 0)) (.ref (n2 + 0)) (compE (pComp K P) (envC K P 194 N) (n2 + 1))) [0, 2, 5, 6, 4] [(rl, lisO rr re), (N + 1, celO (some (.ref rl))), (n2 + 0, lisO #[] 0), (n2 + 1, pdX P .e), (v2 0, ritO 0 n 1)] 60 250 (fun v3 => ⟨.ok .next, [lisO rr re, celO (some (.ref rl)), lisO (AC v3) (v3 0), pdX P (.y (v3 4) (.int KK (v3 12)) (v3 8) (.int JJ (v3 16))), ritO n 0 1], []⟩) 2 fun v3 n3 tk3 =>
  sF [9, 9, 9, 9, 9, 9] (.ok (.ret (.ref (n2 + 0)))) [0, 5] [(rl, lisO rr re), (n2 + 0, lisO (AC v3) (v3 0))] 0 0
noncomputable def ok_places (K : Params → KT) : Prop := ∀ P rl re n rr AC KK JJ N tk,
  RunsTo K P 90 350 4000 (.call (.ref 194) ⟨[.ref rl], []⟩) [(rl, lisO rr re)] N tk (sc_places K P rl re n rr AC KK JJ N tk)
noncomputable def blanks (r : Str) : Nat := (Builtin.Str.occurrences r " " 0 r.length (r.length + 1)).length
structure OkPl (K : Params → KT) : Prop where
  i : ok_pI K
  ie : ok_pIe K
  is : ok_pIs K
  o : ok_pO K
  oe : ok_pOe K
  os : ok_pOs K
  f : ok_places K
noncomputable abbrev pIE (P : Params) (acc eo C it s ta : Nat) (a j m : Int) (os : Array Value) (o : RO) : List Ent := [(acc, lisO os eo), (C, pdI P s a ta o), (it, ritO j m 1)]
noncomputable abbrev pOE (P : Params) (rl re L acc eo C it : Nat) (k m : Int) (rr os : Array Value) (l : PO) : List Ent := [(rl, lisO rr re), (L + 1, celO (some (.ref rl))), (acc, lisO os eo), (C, pdX P l), (it, ritO k m 1)]
noncomputable abbrev pCode (K : Params → KT) (P : Params) (d it acc L C : Nat) : Code := .compLoop (pComp K P) d (.ref it) (.ref acc) (compE (pComp K P) (envC K P 194 L) C)
noncomputable def roP (v : Nat → Nat) (o : RO) (m c : Nat) : RO := if m = 0 then o else .y (v 8) (.int ((c : Int) - 1) (v 12))
theorem pdX_of (P : Params) (s : Nat) (a : Int) (ta : Nat) (o : RO) : pdX P (.of s (.int a ta) o) = pdI P s a ta o := by cases o <;> rfl
section
variable {K : Params → KT} [ok : Nonempty (KOk K)] {P : Params} {dr : Source → Nat → Nat} {fz : List Ent}
theorem con_strcount {x : Str} {t u : Tok} : CON K P dr fz (.call (.builtin "str.count") ⟨[.str x t, .str " " u], []⟩) [] 0 0 (fun v => ⟨.ok (.ret (.int (blanks x : Int) (v 0))), [], []⟩) := by
  intro A h g d tk os R room hi hB has hlo nd hR
  refine codeAny_call_builtin F.slot_str_count.plain F.entry_str_count (F.slot_str_count.check _ _ _ _ _ _ _ _ (typeIs_str _ _ _) (F.args_str_count_2 _ _) ((gives_str_count x " " t u).meets prg ⟨dr, P⟩ A R _ ?_))
  exact hR (fun _ => tk) h g _ hi hB (Nat.le_refl _) trivial newOk0 (fun b o e _ _ => e)
theorem con_pI (o : OkPl K) {acc C it L s ta a : Nat} {c : Nat} :
    ∀ (m j eo : Nat) (os : List Nat) (f : Nat → Nat) (ro : RO), j + m = c → os.length + m ≤ 1000000 →
      CON K P dr fz (pCode K P 1 it acc L C) (pIE P acc eo C it s ta (a : Nat) (j : Nat) (m : Nat) (natA os f) ro) 20 80
        (fun v => ⟨.ok .next, [lisO (natA (os ++ List.replicate m a) (fun i => v (i + 20))) (v 0), pdI P s a ta (roP v ro m c), ritO c 0 1], []⟩)
  | 0, j, eo, os, f, ro, hj, hos => by
    refine con_by (fun N tk => o.ie P 0 0 L acc eo C it #[] (natA os f) s ta a j (0 : Nat) ro N tk) fun A h d tk os' R room hi hlt hlo nd hR => ?_
    refine ⟨con_bi bi_rnext (con_rnext_end (ar87)), fun v1 n1 tk1 q1 q2 h' g' hi' hB' hs' has' hk' => ?_⟩
    have hs2 : h'.objs.size = n1 := by simpa using hs'
    have e : j = c := hj
    subst e
    refine hR (fun i => if i = 0 then eo else f (i - 20)) h' g' _ hi' hB' (ar52 q1 hs2) ⟨?_, has_nth has' 1 rfl, has_nth has' 2 rfl, trivial⟩ newOk0 hk'
    have z : h'.get? acc = some (lisO (natA os f) eo) := has_nth has' 0 rfl
    simpa using z
  | m + 1, j, eo, os, f, ro, hj, hos => by
    have ej1 : ((j : Int) + 1) = ((j + 1 : Nat) : Int) := ar88
    have em1 : (((m + 1 : Nat) : Int) - 1) = (m : Nat) := ar89
    intro A h g d tk os' R room hi hB has hlo nd hR
    refine code_run (o.i P 0 0 L acc eo C it #[] (natA os f) s ta a j (m + 1 : Nat) ro h.objs.size tk) room hi hB has hlo nd
      ⟨con_bi bi_rnext (con_rnext_item (ar97)), fun v1 n1 tk1 q1 q2 => ⟨con_bi bi_append (con_append (by rw [natA_size]; exact Nat.le_trans (show os.length ≤ 1000000 by exact ar330 hos) (by decide))), fun v2 n2 tk2 q4 q5 h' g' hi' hB' hs' has' hk' => ?_⟩⟩
    have hs2 : h'.objs.size = n2 := by simpa using hs'
    rw [ej1, em1, natA_push] at has'
    refine con_pI (c := c) o m (j + 1) (eo + 1) (os ++ [a]) _ (ro.set (tk1 + 0) (.int (j : Int) (v1 0))) (ar55 hj) (by simp; exact ar331 hos) A h' g' d _ os' R room hi' hB' has' (own_by (own_ads (pre := pIE P acc eo C it s ta (a : Nat) (j : Nat) ((m + 1 : Nat) : Int) (natA os f) ro) hlo)) nd fun v h2 g2 tk2' hi2 hB2 hs3 hz hn2 hk2 => ?_
    obtain ⟨t', ht'⟩ : ∃ t', ro.set (tk1 + 0) (.int (j : Int) (v1 0)) = .y t' (.int (j : Int) (v1 0)) := by cases ro <;> exact ⟨_, rfl⟩
    refine hR (fun i => if i = 8 then (if m = 0 then t' else v 8) else if i = 12 then (if m = 0 then v1 0 else v 12) else v i) h2 g2 tk2' hi2 hB2 (Nat.le_trans (show h.objs.size ≤ h'.objs.size by exact ar181 q1 q4 hs2) hs3) ?_ newOk0 (keep_trans hk' hk2)
    have e1 : os ++ List.replicate (m + 1) a = (os ++ [a]) ++ List.replicate m a := by simp [List.replicate_succ]
    have e2 : roP (fun i => if i = 8 then (if m = 0 then t' else v 8) else if i = 12 then (if m = 0 then v1 0 else v 12) else v i) ro (m + 1) c = roP v (ro.set (tk1 + 0) (.int (j : Int) (v1 0))) m c := by
      unfold roP
      rw [if_neg (ar332)]
      by_cases h0 : m = 0
      · simp only [h0, if_true, ht']
        have : (c : Int) - 1 = (j : Int) := ar333 hj h0
        rw [this]
        rfl
      · simp [h0]
    show HasZ h2 _ [lisO (natA (os ++ List.replicate (m + 1) a) fun i => if i + 20 = 8 then _ else if i + 20 = 12 then _ else v (i + 20)) _, pdI P s a ta (roP _ ro (m + 1) c), _]
    have e3 : (fun i : Nat => if i + 20 = 8 then (if m = 0 then t' else v 8) else if i + 20 = 12 then (if m = 0 then v1 0 else v 12) else v (i + 20)) = fun i => v (i + 20) := by
      funext i
      rw [if_neg (ar296), if_neg (ar334)]
    rw [e1, e2, e3]
    exact hasZ_same (pre' := pIE P acc (eo + 1) C it s ta (a : Nat) ((j + 1 : Nat) : Int) (m : Nat) _ (ro.set (tk1 + 0) (.int (j : Int) (v1 0)))) rfl rfl hz
theorem con_pI' (o : OkPl K) {acc C it L s ta a c eo : Nat} (hc : 0 < c) {os : List Nat} {f : Nat → Nat} (ro : RO) (hos : os.length + c ≤ 1000000) :
    CON K P dr fz (.compStart (pComp K P) 1 (.ref it) (.ref acc) (compE (pComp K P) (envC K P 194 L) C)) (pIE P acc eo C it s ta (a : Nat) 0 (c : Nat) (natA os f) ro) 30 120
        (fun v => ⟨.ok .next, [lisO (natA (os ++ List.replicate c a) (fun i => v (i + 20))) (v 0), pdI P s a ta (.y (v 8) (.int ((c : Int) - 1) (v 12))), ritO c 0 1], []⟩) := by
  refine con_mono (dep := 20) (un := 80) (con_again (fun N tk => o.is P 0 0 L acc eo C it #[] (natA os f) s ta a 0 c ro N tk) (fun _ _ => rfl) ?_) (ar57) (ar58)
  have z := con_pI (P := P) (dr := dr) (fz := fz) o (acc := acc) (C := C) (it := it) (L := L) (s := s) (ta := ta) (a := a) (c := c) c 0 eo os f ro (ar335) hos
  have e : ∀ v : Nat → Nat, roP v ro c c = .y (v 8) (.int ((c : Int) - 1) (v 12)) := fun v => by
    unfold roP
    rw [if_neg (ar221 hc)]
  simp only [e] at z
  exact z
noncomputable def placesFrom : Nat → List Str → List Nat
  | _, [] => []
  | k, r :: l => List.replicate (blanks r) k ++ placesFrom (k + 1) l
noncomputable def poEnd (v : Nat → Nat) (o : PO) (m n : Nat) (x : Int) : PO := if m = 0 then o else .y (v 4) (.int ((n : Int) - 1) (v 12)) (v 8) (.int (x - 1) (v 16))
theorem con_getstr {rl re : Nat} {rows : List Str} {f : Nat → Nat} {k t : Nat} (h : k < rows.length) (h9 : rows.length ≤ 1000000) :
    CON K P dr fz (.builtin "list.__getitem__" ⟨[.ref rl, .int (k : Int) t], []⟩) [(rl, lisO (strA rows f) re)] 0 0 (fun _ => ⟨.ok (.ret (.str (rows.getD k "") (f k))), [], []⟩) :=
  con_getitem (ar43) (ar336 h h9) (by rw [Int.toNat_natCast, strA_get, List.getElem?_eq_getElem h]; simp [List.getD_eq_getElem?_getD, h])
theorem con_pO (o : OkPl K) {rl re L acc C it : Nat} {rows : List Str} {rf : Nat → Nat} (hb : ∀ r ∈ rows, 0 < blanks r ∧ blanks r ≤ 1000) (hn : rows.length ≤ 900) :
    ∀ (l : List Str) (k eo : Nat) (os : List Nat) (f : Nat → Nat) (po : PO), rows.drop k = l → k ≤ rows.length → os.length ≤ k * 1000 →
      CON K P dr fz (pCode K P 0 it acc L C) (pOE P rl re L acc eo C it (k : Nat) (l.length : Nat) (strA rows rf) (natA os f) po) 50 200
        (fun v => ⟨.ok .next, [lisO (strA rows rf) re, celO (some (.ref rl)), lisO (natA (os ++ placesFrom k l) (fun i => v (i + 20))) (v 0), pdX P (poEnd v po l.length rows.length (blanks (rows.getD (rows.length - 1) ""))), ritO rows.length 0 1], []⟩)
  | [], k, eo, os, f, po, hd, hk, hos => by
    have hk2 : k = rows.length := Nat.le_antisymm hk (List.drop_eq_nil_iff.mp hd)
    refine con_by (fun N tk => o.oe P rl re L acc eo C it (strA rows rf) (natA os f) k (0 : Nat) po N tk) fun A h d tk os' R room hi hlt hlo nd hR => ?_
    refine ⟨con_bi bi_rnext (con_rnext_end (ar87)), fun v1 n1 tk1 q1 q2 h' g' hi' hB' hs' has' hk' => ?_⟩
    have hs2 : h'.objs.size = n1 := by simpa using hs'
    refine hR (fun i => if i = 0 then eo else f (i - 20)) h' g' _ hi' hB' (ar52 q1 hs2) ⟨has_nth has' 0 rfl, has_nth has' 1 rfl, ?_, has_nth has' 3 rfl, by rw [← hk2]; exact has_nth has' 4 rfl, trivial⟩ newOk0 hk'
    have z : h'.get? acc = some (lisO (natA os f) eo) := has_nth has' 2 rfl
    simpa [placesFrom] using z
  | r :: l, k, eo, os, f, po, hd, hk, hos => by
    have hkl : k < rows.length := by
      have : (rows.drop k).length = l.length + 1 := by rw [hd]; rfl
      rw [List.length_drop] at this
      exact ar72 this
    have hx : rows[k]? = some r := by
      have := congrArg (fun l => l[0]?) hd
      simpa using this
    have hr : rows.getD k "" = r := by simp [List.getD_eq_getElem?_getD, hx]
    have hd' : rows.drop (k + 1) = l := by
      have := congrArg (fun l => l.drop 1) hd
      simpa [List.drop_drop, Nat.add_comm] using this
    have hbr := hb r (List.mem_of_getElem? hx)
    have ej1 : ((k : Int) + 1) = ((k + 1 : Nat) : Int) := ar88
    have em1 : ((((r :: l).length : Nat) : Int) - 1) = (l.length : Nat) := by simp
    intro A h g d tk os' R room hi hB has hlo nd hR
    have zg := fun t => con_getstr (K := K) (P := P) (dr := dr) (fz := fz) (rl := rl) (re := re) (f := rf) (k := k) (t := t) hkl (ar337 hn)
    simp only [hr] at zg
    refine code_run (o.o P rl re L acc eo C it (strA rows rf) (natA os f) k ((r :: l).length : Nat) po r (rf k) (blanks r) (fun v => natA (os ++ List.replicate (blanks r) k) (fun i => v (i + 20))) (fun v => .y (v 8) (.int ((blanks r : Int) - 1) (v 12))) h.objs.size tk) room hi hB has hlo nd
      ⟨con_bi bi_rnext (con_rnext_item (by show (0 : Int) < ((l.length + 1 : Nat) : Int); exact ar97)), fun v1 n1 tk1 q1 q2 => ⟨con_bi bi_getitem (zg _), fun v2 n2 tk2 q4 q5 => ⟨con_strcount, fun v3 n3 tk3 q7 q8 => ⟨con_bi bi_riter (con_riter (by unfold Builtin.Range.rangeSize; simp; exact ar237) (ar40) (ar338 hbr) (.inl rfl) (ar339 hbr)), fun v4 n4 tk4 q10 q11 =>
        ⟨con_pI' o hbr.1 _ (ar340 hbr hkl hn hos), fun v5 n5 tk5 q13 q14 h' g' hi' hB' hs' has' hk' => ?_⟩⟩⟩⟩⟩
    have hs2 : h'.objs.size = n5 := by simpa using hs'
    rw [ej1, em1, ← pdX_of] at has'
    refine con_pO o hb hn l (k + 1) (v5 0) (os ++ List.replicate (blanks r) k) (fun i => v5 (i + 20)) (.y (po.key (tk1 + 0)) (.int (k : Int) (v1 0)) (v5 8) (.int ((blanks r : Int) - 1) (v5 12))) hd' (ar75 hkl) (by simp; exact ar341 hbr hos) A h' g' d _ os' R room hi' hB' has' (own_by (own_ads (pre := pOE P rl re L acc eo C it (k : Nat) (((r :: l).length : Nat) : Int) (strA rows rf) (natA os f) po) hlo)) nd fun v h2 g2 tk2' hi2 hB2 hs3 hz hn2 hk2 => ?_
    refine hR (fun i => if i = 4 then (if l.length = 0 then po.key (tk1 + 0) else v 4) else if i = 8 then (if l.length = 0 then v5 8 else v 8) else if i = 12 then (if l.length = 0 then v1 0 else v 12) else if i = 16 then (if l.length = 0 then v5 12 else v 16) else v i) h2 g2 tk2' hi2 hB2 (Nat.le_trans (show h.objs.size ≤ h'.objs.size by exact ar342 q1 q4 q7 q13 q10 hs2) hs3) ?_ newOk0 (keep_trans hk' hk2)
    have e1 : os ++ placesFrom k (r :: l) = (os ++ List.replicate (blanks r) k) ++ placesFrom (k + 1) l := by simp [placesFrom]
    have e2 : poEnd (fun i => if i = 4 then (if l.length = 0 then po.key (tk1 + 0) else v 4) else if i = 8 then (if l.length = 0 then v5 8 else v 8) else if i = 12 then (if l.length = 0 then v1 0 else v 12) else if i = 16 then (if l.length = 0 then v5 12 else v 16) else v i) po (r :: l).length rows.length (blanks (rows.getD (rows.length - 1) "")) =
        poEnd v (.y (po.key (tk1 + 0)) (.int (k : Int) (v1 0)) (v5 8) (.int ((blanks r : Int) - 1) (v5 12))) l.length rows.length (blanks (rows.getD (rows.length - 1) "")) := by
      unfold poEnd
      rw [if_neg (by simp)]
      by_cases h0 : l.length = 0
      · have hl0 : l = [] := List.eq_nil_of_length_eq_zero h0
        have hk3 : k = rows.length - 1 := by
          rw [hl0] at hd'
          have := List.drop_eq_nil_iff.mp hd'
          exact ar78 hkl this
        have : ((rows.length : Int) - 1) = (k : Int) := ar295 hkl hk3
        have e5 : rows.getD (rows.length - 1) "" = r := by rw [← hk3]; exact hr
        simp only [h0, if_true, this, e5]
        rfl
      · simp [h0]
    have e3 : (fun i : Nat => (fun i => if i = 4 then (if l.length = 0 then po.key (tk1 + 0) else v 4) else if i = 8 then (if l.length = 0 then v5 8 else v 8) else if i = 12 then (if l.length = 0 then v1 0 else v 12) else if i = 16 then (if l.length = 0 then v5 12 else v 16) else v i) (i + 20)) = fun i => v (i + 20) := by
      funext i
      simp only []
      rw [if_neg (ar285), if_neg (ar296), if_neg (ar334), if_neg (ar343)]
    show HasZ h2 _ [_, _, lisO (natA (os ++ placesFrom k (r :: l)) _) (v 0), pdX P (poEnd _ po (r :: l).length rows.length _), _]
    rw [e1, e2, e3]
    exact hasZ_same (pre' := pOE P rl re L acc (v5 0) C it ((k + 1 : Nat) : Int) (l.length : Nat) (strA rows rf) _ (.y (po.key (tk1 + 0)) (.int (k : Int) (v1 0)) (v5 8) (.int ((blanks r : Int) - 1) (v5 12)))) rfl rfl hz
end
theorem rsz (n : Nat) : Builtin.Range.rangeSize 0 (n : Int) 1 = (n : Int) := by
  unfold Builtin.Range.rangeSize
  simp
  exact ar237
section
variable {K : Params → KT} [ok : Nonempty (KOk K)] {P : Params} {dr : Source → Nat → Nat} {fz : List Ent}
theorem con_pC (o : OkPl K) {rl re L acc C it : Nat} {rows : List Str} {rf : Nat → Nat} (hb : ∀ r ∈ rows, 0 < blanks r ∧ blanks r ≤ 1000) (hn : rows.length ≤ 900) (hp : 0 < rows.length) :
    CON K P dr fz (.compStart (pComp K P) 0 (.ref it) (.ref acc) (compE (pComp K P) (envC K P 194 L) C)) (pOE P rl re L acc 0 C it 0 (rows.length : Nat) (strA rows rf) #[] .e) 60 250
        (fun v => ⟨.ok .next, [lisO (strA rows rf) re, celO (some (.ref rl)), lisO (natA (placesFrom 0 rows) (fun i => v (i + 20))) (v 0), pdX P (.y (v 4) (.int ((rows.length : Int) - 1) (v 12)) (v 8) (.int ((blanks (rows.getD (rows.length - 1) "") : Int) - 1) (v 16))), ritO rows.length 0 1], []⟩) := by
  refine con_mono (dep := 50) (un := 200) (con_again (fun N tk => o.os P rl re L acc 0 C it (strA rows rf) #[] 0 rows.length N tk) (fun _ _ => rfl) ?_) (ar184) (ar185)
  have z := con_pO (P := P) (dr := dr) (fz := fz) o (rl := rl) (re := re) (L := L) (acc := acc) (C := C) (it := it) (rf := rf) hb hn rows 0 0 [] (fun _ => 0) .e rfl (ar80) (by simp)
  rw [natA_nil] at z
  have e : ∀ v : Nat → Nat, poEnd v .e rows.length rows.length (blanks (rows.getD (rows.length - 1) "")) = .y (v 4) (.int ((rows.length : Int) - 1) (v 12)) (v 8) (.int ((blanks (rows.getD (rows.length - 1) "") : Int) - 1) (v 16)) := fun v => by
    unfold poEnd
    rw [if_neg (ar221 hp)]
  simp only [e, List.nil_append] at z
  exact z
theorem con_lenS {l : Nat} {rows : List Str} {f : Nat → Nat} {e : Nat} (h : rows.length ≤ 100000) : CON K P dr fz (.call (.builtin "len") ⟨[.ref l], []⟩) [(l, lisO (strA rows f) e)] 5 20 (fun v => ⟨.ok (.ret (.int (rows.length : Int) (v 0))), [], []⟩) := by
  have z := con_lenL (K := K) (P := P) (dr := dr) (fz := fz) (l := l) (xs := strA rows f) (e := e) (by rw [strA_size]; exact h)
  rw [strA_size] at z
  exact z
theorem con_places (o : OkPl K) {rl re : Nat} {rows : List Str} {rf : Nat → Nat} (hb : ∀ r ∈ rows, 0 < blanks r ∧ blanks r ≤ 1000) (hn : rows.length ≤ 900) (hp : 0 < rows.length) :
    CON K P dr fz (.call (.ref 194) ⟨[.ref rl], []⟩) [(rl, lisO (strA rows rf) re)] 90 350 (fun v => ⟨.ok (.ret (.ref (v 4))), [], [(v 4, lisO (natA (placesFrom 0 rows) (fun i => v (i + 20))) (v 0))]⟩) :=
  con_by (fun N tk => o.f P rl re rows.length (strA rows rf) (fun v => natA (placesFrom 0 rows) (fun i => v (i + 20))) ((rows.length : Int) - 1) ((blanks (rows.getD (rows.length - 1) "") : Int) - 1) N tk) fun A h d tk os R room hi hlt hlo nd hR => by
    refine ⟨con_lenS (ar73 hn), fun v1 n1 tk1 q1 q2 => ⟨con_bi bi_riter (con_riter (a := 0) (b := (rows.length : Int)) (c := 1) (n := (rows.length : Int)) (rsz rows.length) (ar40) (ar344 hn) (.inl rfl) (ar345 hn)), fun v2 n2 tk2 q4 q5 => ⟨con_pC o hb hn hp, fun v3 n3 tk3 q7 q8 h' g' hi' hB' hs' has' hk' => ?_⟩⟩⟩
    have hs2 : h'.objs.size = n3 := by simpa using hs'
    exact hR (fun i => if i = 4 then n2 + 0 else v3 i) h' g' _ hi' hB' (ar346 q4 q1 q7 hs2) ⟨has_nth has' 0 rfl, trivial⟩ (newOk1 (show h.objs.size ≤ n2 + 0 by exact ar347 q4 q1) (has_nth has' 1 rfl)) hk'
end
section
variable {prog : Program} {w : World} {A : Around} {R : Result → Shared → Prop} {I : Addr} {fp wr : List Addr} {n : Nat} {Pv : Nat → Value → Prop} {St : Nat → Heap → Prop}
theorem sum_turnsG (W : Walks prog w A.in1 I fp wr n Pv St) (val : Nat → Int) (hval : ∀ i v, Pv i v → ∃ t, v = .int (val i) t) (S : Addr) (hSf : S ∉ fp) :
    ∀ (k i : Nat) (s : Shared) (tA : Tok) (c : Nat) (stage : Int), (stage = 0 ∨ stage = 2) → n = i + k → St i s.heap → s.heap.get? S = some (lisO #[.int (preSum val i) tA] c) →
    (∀ h' tk t', (∃ o, h'.get? S = some o) → (∀ b o, b ∉ wr → b ≠ S → s.heap.get? b = some o → h'.get? b = some o) → R (.ok (.ret (.int (preSum val n) t'))) { s with heap := h', toks := tk }) →
    codeAny (model prog w) A (.builtin "sum.loop" ⟨[.ref I, .ref S, rawInt stage, rawInt 0], []⟩) R s := by
  have hSw : S ∉ wr := fun h => hSf (W.sub _ h)
  intro k
  induction k with
  | zero =>
    intro i s tA c stage hstage hk hst hS hR
    obtain rfl : n = i := hk
    refine codeAny_builtin F.entry_sum_loop ?_
    rw [Around.under_plainId F.plain_sum_loop _]
    show wpAny _ A.in1 (seqItems? (.ref S) >>= _) _ _ s
    refine wpAny_bind (wpAny_seqItems hS rfl ?_)
    show wpAny _ A.in1 (tryCatch (pyNext (.ref I)) _ >>= _) _ _ s
    refine wpAny_bind (wpAny_tryCatch (W.done s _ _ hst fun h' tk hk' => ?_))
    exact wpAny_pure (hR h' tk tA ⟨_, hk' S _ hSw hS⟩ fun b o hbw _ e => hk' b o hbw e)
  | succ k ih =>
    intro i s tA c stage hstage hk hst hS hR
    have hlt : i < n := ar519 hk
    refine codeAny_builtin F.entry_sum_loop ?_
    rw [Around.under_plainId F.plain_sum_loop _]
    show wpAny _ A.in1 (seqItems? (.ref S) >>= _) _ _ s
    refine wpAny_bind (wpAny_seqItems hS rfl ?_)
    show wpAny _ A.in1 (tryCatch (pyNext (.ref I)) _ >>= _) _ _ s
    refine wpAny_bind (wpAny_tryCatch (W.item i s _ _ hlt hst fun v h' tk hP hst' hk' => ?_))
    obtain ⟨t, rfl⟩ := hval i v hP
    have hS' := hk' S _ hSw hS
    rcases hstage with rfl | rfl
    · show wpAny _ A.in1 (if (_ : Bool) = true then (mkInt (preSum val i + val i) >>= _) else _) _ _ _
      split
      · refine wpAny_bind (wpAny_mkInt ?_)
        show wpAny _ A.in1 (updateSeq S (fun _ => #[.int (preSum val i + val i) tk]) >>= _) _ _ _
        refine wpAny_bind ?_
        refine wpAny_updateSeq hS' rfl (wpAny_pure ⟨plainId_quiet F.plain_sum_loop _, ih (i + 1) _ tk _ 0 (Or.inl rfl) (ar520 hk) (W.frame _ _ _ hst' fun b hb o e => ?_) (Heap.get?_update_self _ hS' rfl) fun h'' tk'' t'' hs'' hk'' => ?_⟩)
        · exact (Heap.get?_update_other _ _ (fun h : S = b => hSf (by rw [h]; exact hb))).trans e
        · exact hR h'' tk'' t'' hs'' fun b o hbw hbS e => hk'' b o hbw hbS ((Heap.get?_update_other _ _ (Ne.symm hbS)).trans (hk' b o hbw e))
      · refine wpAny_bind (wpAny_rule ?_)
        refine wpAny_bind (wpAny_attempt (wpAny_holding (PySem.P.add_int ?_)))
        show wpAny _ A.in1 (updateSeq S (fun _ => #[.int (preSum val i + val i) tk]) >>= _) _ _ _
        refine wpAny_bind ?_
        refine wpAny_updateSeq hS' rfl ?_
        have hS2 := Heap.get?_update_self (Obj.mapSeq fun _ => #[Value.int (preSum val i + val i) tk]) hS' rfl
        refine wpAny_bind (wpAny_letGo ?_)
        refine wpAny_bind ?_
        refine wpAny_updateSeq hS2 rfl (wpAny_pure ⟨plainId_quiet F.plain_sum_loop _, ih (i + 1) _ tk _ 2 (Or.inr rfl) (ar520 hk) (W.frame _ _ _ hst' fun b hb o e => ?_) (Heap.get?_update_self _ hS2 rfl) fun h'' tk'' t'' hs'' hk'' => ?_⟩)
        · exact (Heap.get?_update_other _ _ (fun h : S = b => hSf (by rw [h]; exact hb))).trans ((Heap.get?_update_other _ _ (fun h : S = b => hSf (by rw [h]; exact hb))).trans e)
        · exact hR h'' tk'' t'' hs'' fun b o hbw hbS e => hk'' b o hbw hbS ((Heap.get?_update_other _ _ (Ne.symm hbS)).trans ((Heap.get?_update_other _ _ (Ne.symm hbS)).trans (hk' b o hbw e)))
    · show wpAny _ A.in1 ((holding [Value.int (val i) t] (binaryOp .Add (.int (preSum val i) tA) (.int (val i) t))).attempt >>= _) _ _ _
      refine wpAny_bind (wpAny_attempt (wpAny_holding (PySem.P.add_int ?_)))
      show wpAny _ A.in1 (updateSeq S (fun _ => #[.int (preSum val i + val i) tk]) >>= _) _ _ _
      refine wpAny_bind ?_
      refine wpAny_updateSeq hS' rfl ?_
      have hS2 := Heap.get?_update_self (Obj.mapSeq fun _ => #[Value.int (preSum val i + val i) tk]) hS' rfl
      refine wpAny_bind (wpAny_letGo ?_)
      refine wpAny_bind ?_
      refine wpAny_updateSeq hS2 rfl (wpAny_pure ⟨plainId_quiet F.plain_sum_loop _, ih (i + 1) _ tk _ 2 (Or.inr rfl) (ar520 hk) (W.frame _ _ _ hst' fun b hb o e => ?_) (Heap.get?_update_self _ hS2 rfl) fun h'' tk'' t'' hs'' hk'' => ?_⟩)
      · exact (Heap.get?_update_other _ _ (fun h : S = b => hSf (by rw [h]; exact hb))).trans ((Heap.get?_update_other _ _ (fun h : S = b => hSf (by rw [h]; exact hb))).trans e)
      · exact hR h'' tk'' t'' hs'' fun b o hbw hbS e => hk'' b o hbw hbS ((Heap.get?_update_other _ _ (Ne.symm hbS)).trans ((Heap.get?_update_other _ _ (Ne.symm hbS)).trans (hk' b o hbw e)))
end
section
variable {K : Params → KT} [ok : Nonempty (KOk K)] {P : Params} {dr : Source → Nat → Nat} {fz : List Ent}
theorem con_sumG {l e : Nat} {xs : List Int} {f : Nat → Nat} :
    CON K P dr fz (.call (.builtin "sum") ⟨[.ref l], []⟩) [(l, lisO (intA xs f) e)] 5 30 (fun v => ⟨.ok (.ret (.int xs.sum (v 0))), [], []⟩) := by
  intro A h g d tk os R room hi hB has hlo nd hR
  have hl : h.get? l = some (lisO (intA xs f) e) := has0 has
  have hlt : l < h.objs.size := Heap.lt_size hl
  have hh : A.in1.in1.handled = none := room.1
  have hL : OwnA fz l := hlo _ List.mem_cons_self
  refine code_function F.kind_sum F.plain_sum F.entry_sum (F.args_sum1 _) ?_
  unfold Builtin.«sum»
  simp only [List.length_cons, List.length_nil]
  rw [if_neg (by decide)]
  refine wpAny_bind (wpAny_of_eq (show Builtin.Builtins.bindParams "sum" ["start"] 0 { } = pure [none] from rfl) ?_)
  have hlI : (⟨h, g, d, tk, os⟩ : Shared).heap.IsList l (intItems (intL xs f)) := ⟨_, hl, rfl, e, rfl⟩
  refine wpAny_bind (iter_intList hlI fun s₂ e2 st hfp hne => ?_)
  subst e2
  refine wpAny_bind (wpAny_mkInt ?_)
  refine wpAny_bind (wpAny_pure ?_)
  simp only [List.forIn_cons, List.forIn_nil]
  refine wpAny_bind (wpAny_bind (wpAny_bind (wpAny_isInstance (T := "int") (b := false) (typeIs_int _ _ _) PySem.sub_int_str ?_)))
  simp only [Bool.false_eq_true, if_false]
  refine wpAny_pure (wpAny_bind (wpAny_bind (wpAny_isInstance (T := "int") (b := false) (typeIs_int _ _ _) PySem.sub_int_bytes ?_)))
  simp only [Bool.false_eq_true, if_false]
  refine wpAny_pure (wpAny_bind (wpAny_bind (wpAny_isInstance (T := "int") (b := false) (typeIs_int _ _ _) PySem.sub_int_bytearray ?_)))
  simp only [Bool.false_eq_true, if_false]
  refine wpAny_pure (wpAny_pure ?_)
  refine wpAny_bind (wpAny_newObj_type ?_)
  have W := Walks.list (prog := prg) (w := ⟨dr, P⟩) (A := A.in1) room.1 h.objs.size l hne (intItems (intL xs f))
  have hsz : (intItems (intL xs f)).size = xs.length := intA_size xs f
  have key : ∀ s3 : Shared, s3.heap.get? (h.objs.size + 1) = some (lisO #[.int (preSum (numAt (intL xs f)) 0) tk] 0) → (s3.heap.IsListIter h.objs.size l 0 ∧ s3.heap.IsList l (intItems (intL xs f))) → s3.gens = g → s3.drawn = d → s3.os = os →
      (∀ b o, h.get? b = some o → s3.heap.get? b = some o) → codeAny (model prg ⟨dr, P⟩) A (.builtin "sum.loop" ⟨[.ref h.objs.size, .ref (h.objs.size + 1), rawInt 0, rawInt 0], []⟩) R s3 := by
    intro s3 hS hst e1 e2 e3 hk3
    obtain ⟨h3, g3, d3, tk3, os3⟩ := s3
    subst e1 e2 e3
    refine sum_turnsG W (numAt (intL xs f)) (fun _ _ => intItems_at) (h.objs.size + 1) (fun hm => ?_) xs.length 0 _ tk 0 0 (Or.inl rfl) (by rw [hsz]; exact ar543) hst hS fun h' tk' t' hs' hk' => ?_
    · rcases List.mem_cons.mp hm with e1 | hm
      · exact Nat.succ_ne_self _ e1
      · have e1 : h.objs.size + 1 = l := List.mem_singleton.mp hm
        exact ar548 e1 hlt
    · obtain ⟨oS, hoS⟩ := hs'
      have hS2 : h.objs.size + 1 < h'.objs.size := Heap.lt_size hoS
      have kk : ∀ b o, h.get? b = some o → h'.get? b = some o := fun b o e => by
        have hb := Heap.lt_size e
        exact hk' b o (fun hm => Nat.ne_of_lt hb (List.mem_singleton.mp hm)) (Nat.ne_of_lt (Nat.lt_succ_of_lt hb)) (hk3 b o e)
      have e1 : preSum (numAt (intL xs f)) (intItems (intL xs f)).size = xs.sum := by
        rw [hsz, preSum_intL xs f _ (Nat.le_refl _), List.take_length]
      rw [e1]
      have h217 : 217 ≤ h.objs.size := hi.2.2.2.1
      have h217' : 217 ≤ h'.objs.size := Nat.le_trans h217 (Nat.le_of_lt (Nat.lt_of_succ_lt hS2))
      have hge : h.objs.size ≤ h'.objs.size := Nat.le_of_lt (Nat.lt_of_succ_lt hS2)
      exact hR (fun _ => t') h' g3 tk' (inv_but (wr := []) hi h217' (fun b hb => (nomatch hb)) fun b o _ e => kk b o e) hB hge ⟨kk _ _ hl, trivial⟩ newOk0 (fun b o e _ _ => kk b o e)
  have hp1 : (h.push { cls := .type "list_iterator", data := .fields #[.ref l, .int 0 0] }).objs.size = h.objs.size + 1 := Heap.size_push ..
  refine wpAny_pure ⟨plainId_quiet F.plain_sum_loop _, ?_⟩
  have q := key ⟨(h.push { cls := .type "list_iterator", data := .fields #[.ref l, .int 0 0] }).push { cls := .type "list", data := .seq #[.int 0 tk] }, g, d, tk + 1, os⟩ ?_ ?_ rfl rfl rfl ?_
  · show codeAny _ A (.builtin "sum.loop" ⟨[.ref h.objs.size, .ref (h.push _).objs.size, rawInt 0, rawInt 0], []⟩) R _
    rw [hp1]
    exact q
  · rw [← hp1]; exact Heap.get?_push_size _ rfl
  · exact ⟨st.1.at fun o e => Heap.get?_push_of_some _ e, st.2.push _⟩
  · intro b o e
    exact Heap.get?_push_of_some _ (Heap.get?_push_of_some _ e)
end
noncomputable def sc_g0 (K : Params → KT) (P : Params) (sc se : Nat) (ss : Array Value) (N tk : Nat) : Sc :=
  sG [0, 0, 4, 4, 1] (.func (bodyOf K P 216) (envC K P 216 N)) [0, 1, 2, 3] [(sc, lisO ss se), (N, frmO #[dEnt P "script" (tk + 0) (.ref sc)] 1), (N + 1, celO none), (N + 2, celO none)] 3 1
noncomputable def ok_g0 (K : Params → KT) : Prop := ∀ P sc se ss N tk,
  RunsTo K P 260 800 4000 (.call (.ref 216) ⟨[.ref sc], []⟩) [(sc, lisO ss se)] N tk (sc_g0 K P sc se ss N tk)
noncomputable def sc_g1 (K : Params → KT) (P : Params) (sc se L s0 : Nat) (ss ts ns : Array Value) (N tk : Nat) : Sc :=
  sS [4, 3, 3, 3] (.call (.builtin "list.__getitem__") ⟨[.ref sc, .ref (N + 0)], []⟩) [0, 4] [(sc, lisO ss se), (N + 0, slcO .none (.int 6 (tk + 0)) .none)] 0 0 (fun v1 => ⟨.ok (.ret (.ref (v1 0))), [], [(v1 0, lisO ts 0)]⟩) 1 fun v1 n1 tk1 =>
  sS [8, 9, 8] (.call (.builtin "list.__add__") ⟨[.ref (v1 0), .ref (n1 + 0)], []⟩) [5, 6] [(v1 0, lisO ts 0), (n1 + 0, lisO #[.int 3 (tk1 + 0), .int 0 (tk1 + 1), .int 5 (tk1 + 2), .int 1 (tk1 + 3)] 0)] 0 0 (fun v2 => ⟨.ok (.ret (.ref (v2 0))), [], [(v2 0, lisO ns 0)]⟩) 1 fun v2 n2 tk2 =>
  sF [5, 5] (.ok .next) [0, 1, 2, 3, 7] [(sc, lisO ss se), (L, frmO #[dEnt P "script" s0 (.ref sc)] 1), (L + 1, celO (some (.ref (v2 0)))), (L + 2, celO (none)), (v2 0, lisO ns 0)] 0 0
noncomputable def ok_g1 (K : Params → KT) : Prop := ∀ P sc se L s0 ss ts ns N tk,
  RunsA K P 40 150 4000 (fExecs [stmtOf K P 216 0] (envC K P 216 L) >>= flFin) [(sc, lisO ss se), (L, frmO #[dEnt P "script" s0 (.ref sc)] 1), (L + 1, celO (none)), (L + 2, celO (none))] N tk (sc_g1 K P sc se L s0 ss ts ns N tk)
noncomputable def sc_g2 (K : Params → KT) (P : Params) (sc se L s0 nl ne : Nat) (S : Int) (ss ts ns : Array Value) (N tk : Nat) : Sc :=
  sS [0, 0, 4, 3, 3, 3] (.call (.builtin "list.__getitem__") ⟨[.ref sc, .ref (N + 0)], []⟩) [0, 5] [(sc, lisO ss se), (N + 0, slcO .none (.int 6 (tk + 1)) .none)] 0 0 (fun v1 => ⟨.ok (.ret (.ref (v1 0))), [], [(v1 0, lisO ts 0)]⟩) 1 fun v1 n1 tk1 =>
  sS [] (.call (.builtin "sum") ⟨[.ref (v1 0)], []⟩) [6] [(v1 0, lisO ts 0)] 5 30 (fun v2 => ⟨.ok (.ret (.int S (v2 0))), [], []⟩) 0 fun v2 n2 tk2 =>
  sF [4, 4] (.ok .next) [0, 1, 2, 3, 4] [(sc, lisO ss se), (L, frmO #[dEnt P "script" s0 (.ref sc), dEnt P "width" (tk2 + 5) (.int (3 + (S + 6).fmod 12) (tk2 + 4))] 2), (L + 1, celO (some (.ref nl))), (L + 2, celO (none)), (nl, lisO ns ne)] 0 6
noncomputable def ok_g2 (K : Params → KT) : Prop := ∀ P sc se L s0 nl ne S ss ts ns N tk,
  RunsA K P 40 150 4000 (fExecs [stmtOf K P 216 1] (envC K P 216 L) >>= flFin) [(sc, lisO ss se), (L, frmO #[dEnt P "script" s0 (.ref sc)] 1), (L + 1, celO (some (.ref nl))), (L + 2, celO (none)), (nl, lisO ns ne)] N tk (sc_g2 K P sc se L s0 nl ne S ss ts ns N tk)
section
variable {K : Params → KT} [ok : Nonempty (KOk K)] {P : Params} {dr : Source → Nat → Nat} {fz : List Ent}
theorem con_add {a b : Addr} {xs ys : Array Value} {e e' : Nat} (hs : xs.size + ys.size ≤ sizeLine) :
    CON K P dr fz (.builtin "list.__add__" ⟨[.ref a, .ref b], []⟩) [(a, lisO xs e), (b, lisO ys e')] 0 0 (fun v => ⟨.ok (.ret (.ref (v 0))), [], [(v 0, lisO (xs ++ ys) 0)]⟩) :=
  con_builtin (by decide +kernel) F.entry_list_add fun A h g dr' tk os R room hi hB has r hR => by
    have r1 := r.alloc (o := lisO (xs ++ ys) 0) rfl
    exact AutoSeq1.list___add___list_list_0 a xs e b ys e' hs prg ⟨dr, P⟩ A R ⟨h, g, dr', tk, os⟩ ⟨has0 has, has1 has, hR (fun _ => h.objs.size + 0) _ tk _ _ _ r1 ⟨has0 r1.has, has1 r1.has, trivial⟩ ⟨fun p hp => by rw [List.mem_singleton.mp hp]; exact ⟨by simp, has2 r1.has⟩, by simp⟩⟩
theorem con_strget {x : Str} {t u : Tok} {k c : Nat} (hc : x.cps[k]? = some c) (hk : k < 1000000) :
    CON K P dr fz (.call (.builtin "str.__getitem__") ⟨[.str x t, .int (k : Int) u], []⟩) [] 0 0 (fun v => ⟨.ok (.ret (.str ⟨#[c]⟩ (v 0))), [], []⟩) := by
  intro A h g d tk os R room hi hB has hlo nd hR
  have hlt : k < x.length := by
    have := (Array.getElem?_eq_some_iff.mp hc).1
    exact this
  have h1 : (decide ((k : Int) < -(2 ^ 63 : Int)) || decide ((k : Int) ≥ 2 ^ 63)) = false := by
    rw [decide_eq_false (ar266), decide_eq_false (ar267 hk)]; rfl
  have h2 : (seqIndex? (k : Int) x.length).bind (x.cps[·]?) = some c := by
    have : seqIndex? (k : Int) x.length = some k := by
      unfold seqIndex?
      simp
      exact ar268 hlt
    rw [this]
    exact hc
  refine codeAny_call_builtin F.slot_str_getitem.plain F.entry_str_getitem (F.slot_str_getitem.check _ _ _ _ _ _ _ _ (typeIs_str _ _ _) (F.args_str_getitem_2 _ _) ((gives_str_getitem x k t u c h1 h2).meets prg ⟨dr, P⟩ A R _ ?_))
  exact ⟨show 1 ≤ sizeLine by decide, hR (fun _ => tk) h g _ hi hB (Nat.le_refl _) trivial newOk0 (fun b o e _ _ => e)⟩
theorem con_strmul {x : Str} {t u : Tok} {n : Nat} (hn : 1 ≤ n) (hn2 : n ≤ 1000) (hx : x.length = 1) :
    CON K P dr fz (.call (.builtin "str.__mul__") ⟨[.str x t, .int (n : Int) u], []⟩) [] 0 0 (fun v => ⟨.ok (.ret (.str ⟨(List.replicate n x.cps).foldl (· ++ ·) #[]⟩ (v 0))), [], []⟩) := by
  intro A h g d tk os R room hi hB has hlo nd hR
  have h1 : (decide ((n : Int) < -(2 ^ 63 : Int)) || decide ((n : Int) ≥ 2 ^ 63)) = false := by
    rw [decide_eq_false (ar266), decide_eq_false (ar269 hn2)]; rfl
  refine codeAny_call_builtin F.slot_str_mul.plain F.entry_str_mul (F.slot_str_mul.check _ _ _ _ _ _ _ _ (typeIs_str _ _ _) (F.args_str_mul_2 _ _) ((gives_str_mul x n t u h1 ?_ ?_).meets prg ⟨dr, P⟩ A R _ ?_))
  · intro _ _
    rw [hx]
    have : (1 : Int) ≤ (2 ^ 63 - 1) / (n : Int) := (Int.le_ediv_iff_mul_le (by omega)).mpr (ar271 hn2)
    exact ar272 this
  · intro _ _
    rw [hx, Int.toNat_natCast]
    unfold Builtin.Str.tooLong
    simp
    exact Nat.le_trans hn2 (by decide)
  · have hl : (⟨(List.replicate n x.cps).foldl (· ++ ·) #[]⟩ : Str).length = n := by
      have : ∀ (m : Nat) (a : Array Nat), ((List.replicate m x.cps).foldl (· ++ ·) a).size = a.size + m := by
        intro m
        induction m with
        | zero => intro a; rfl
        | succ m ih =>
          intro a
          rw [List.replicate_succ, List.foldl_cons, ih, Array.size_append]
          have : x.cps.size = 1 := hx
          exact ar273 this
      have := this n #[]
      simpa [Str.length] using this
    unfold Made.spec
    rw [if_neg (ar274 hn)]
    by_cases h1 : n = 1
    · subst h1
      have e : (⟨(List.replicate 1 x.cps).foldl (· ++ ·) #[]⟩ : Str) = x := by
        cases x
        simp
      rw [if_pos (by simp)]
      have z := hR (fun _ => t) h g tk hi hB (Nat.le_refl _) trivial newOk0 (fun b o e _ _ => e)
      simp only [e] at z
      exact z
    · rw [if_neg (by rw [hx]; simp; exact ar275 h1)]
      refine ⟨by rw [Int.toNat_natCast, hl]; exact Nat.le_trans hn2 (by decide), ?_⟩
      rw [Int.toNat_natCast]
      exact hR (fun _ => tk) h g _ hi hB (Nat.le_refl _) trivial newOk0 (fun b o e _ _ => e)
theorem con_stradd {x y : Str} {t u : Tok} (hx : (x.length == 0) = false) (hy : (y.length == 0) = false) (hl : (x ++ y).length ≤ sizeLine) :
    CON K P dr fz (.call (.builtin "str.__add__") ⟨[.str x t, .str y u], []⟩) [] 0 0 (fun v => ⟨.ok (.ret (.str (x ++ y) (v 0))), [], []⟩) := by
  intro A h g d tk os R room hi hB has hlo nd hR
  have gg := gives_str_add x y t u
  rw [hx, hy] at gg
  refine codeAny_call_builtin F.slot_str_add.plain F.entry_str_add (F.slot_str_add.check _ _ _ _ _ _ _ _ (typeIs_str _ _ _) (F.args_str_add_2 _ _) (gg.meets prg ⟨dr, P⟩ A R _ ?_))
  exact ⟨hl, hR (fun _ => tk) h g _ hi hB (Nat.le_refl _) trivial newOk0 (fun b o e _ _ => e)⟩
theorem con_listmul' {a : Addr} {x : Value} {e u : Nat} {m : Int} (h0 : 0 ≤ m) (h1 : m ≤ 1000) :
    CON K P dr fz (.builtin "list.__mul__" ⟨[.ref a, .int m u], []⟩) [(a, lisO #[x] e)] 0 0 (fun v => ⟨.ok (.ret (.ref (v 0))), [], [(v 0, lisO (List.replicate m.toNat x).toArray 0)]⟩) :=
  con_builtin (by decide +kernel) F.entry_list_mul fun A h g dr' tk os R room hi hB has r hR => by
    have ef : ∀ k : Nat, List.foldl (fun x1 x2 => x1 ++ x2) #[] (List.replicate (if (#[x] : Array Value).isEmpty = true then 0 else k) #[x]) = (List.replicate k x).toArray := fun k => by
      have : ∀ (m : Nat) (a : Array Value), List.foldl (fun x1 x2 => x1 ++ x2) a (List.replicate m #[x]) = a ++ (List.replicate m x).toArray := by
        intro m
        induction m with
        | zero => intro a; simp
        | succ m ih =>
          intro a
          rw [List.replicate_succ, List.foldl_cons, ih]
          apply Array.ext'
          simp [List.replicate_succ]
      rw [if_neg (by simp), this]
      apply Array.ext'
      simp
    have r1 := r.alloc (o := lisO (List.replicate m.toNat x).toArray 0) rfl
    refine AutoListH.list___mul___list_int_3 a #[x] e m u ?_ ?_ ?_ prg ⟨dr, P⟩ A R ⟨h, g, dr', tk, os⟩ ⟨has0 has, ?_⟩
    · simp [Builtin.List.listFitsIndex]; exact ar276 h0 h1
    · show ¬ 1 * m.toNat > _
      exact ar277 h1
    · have : m.toNat ≤ sizeLine := Nat.le_trans (show m.toNat ≤ 1000 by exact ar278 h1) (by decide)
      show ¬ Builtin.List.listTooLong (1 * m.toNat) = true
      unfold Builtin.List.listTooLong
      simp
      exact ar279 this
    · rw [ef]
      exact hR (fun _ => h.objs.size + 0) _ tk _ _ _ r1 ⟨has0 r1.has, trivial⟩ ⟨fun p hp => by rw [List.mem_singleton.mp hp]; exact ⟨by simp, has1 r1.has⟩, by simp⟩
end
noncomputable def dic1 (P : Params) (nm : String) : RO → Obj
  | .n => dicO #[] 0
  | .y t x => dicO #[dEnt P nm t x] 1
noncomputable def ifL : Stmt → PySem.Expr
  | .If (.Compare l _ _ _) _ _ _ => l
  | _ => default
noncomputable def ifR : Stmt → PySem.Expr
  | .If (.Compare _ _ [r] _) _ _ _ => r
  | _ => default
noncomputable def retL : Stmt → PySem.Expr
  | .Return (some (.Compare l _ _ _)) _ => l
  | _ => default
noncomputable def retR : Stmt → PySem.Expr
  | .Return (some (.Compare _ _ [r] _)) _ => r
  | _ => default
noncomputable def argOf : PySem.Expr → PySem.Expr
  | .Call _ (a :: _) _ _ => a
  | _ => default
noncomputable def lcW (K : Params → KT) (P : Params) : PySem.Expr := valOf (stmtOf K P 216 2)
noncomputable def lcB (K : Params → KT) (P : Params) : PySem.Expr := argOf (ifR (stmtOf K P 216 5))
noncomputable def lcS (K : Params → KT) (P : Params) : PySem.Expr := argOf (valOf (stmtOf K P 216 6))
noncomputable def lcL (K : Params → KT) (P : Params) : PySem.Expr := valOf (stmtOf K P 216 8)
noncomputable def lcZ (K : Params → KT) (P : Params) : PySem.Expr := retR (stmtOf K P 216 9)
noncomputable def zipO (it c : Nat) : Obj := ⟨.type "zip", none, .fields #[.none, .bool false, .bool false, .ref it, .ref c], #[]⟩
inductive ZO where
  | n
  | y (t : Nat) (x : Value) (t2 : Nat) (x2 : Value)
noncomputable def ZO.set (t : Nat) (v : Value) (t2 : Nat) (v2 : Value) : ZO → ZO
  | .n => .y t v t2 v2
  | .y t _ t2 _ => .y t v t2 v2
noncomputable def dicZ (P : Params) : ZO → Obj
  | .n => dicO #[] 0
  | .y t x t2 x2 => dicO #[dEnt P "a" t x, dEnt P "b" t2 x2] 2
noncomputable def cElt : PySem.Expr → PySem.Expr
  | .ListComp e _ _ _ => e
  | _ => default
noncomputable def cTgt : PySem.Expr → PySem.Expr
  | .ListComp _ (g :: _) _ _ => g.target
  | _ => default
noncomputable def cItr : PySem.Expr → PySem.Expr
  | .ListComp _ (g :: _) _ _ => g.iter
  | _ => default
noncomputable def cPos : PySem.Expr → Pos
  | .ListComp _ _ _ p => p
  | _ => default
noncomputable def asT : Stmt → PySem.Expr
  | .Assign (t :: _) _ _ => t
  | _ => default
noncomputable def asP : Stmt → Pos
  | .Assign _ _ p => p
  | _ => default
noncomputable def asS (s : Stmt) : Stmt := .Assign [asT s] (valOf s) (asP s)
noncomputable def cOne (e : PySem.Expr) : PySem.Expr := .ListComp (cElt e) [⟨cTgt e, cItr e, [], 0⟩] (compScope e) (cPos e)
section
variable {K : Params → KT} [ok : Nonempty (KOk K)] {P : Params} {dr : Source → Nat → Nat} {fz : List Ent}
noncomputable def repS (c : Nat) (n : Nat) : Str := ⟨(List.replicate n #[c]).foldl (· ++ ·) #[]⟩
theorem con_strmulI {c : Nat} {t u : Tok} {m : Int} (h1 : 1 ≤ m) (h2 : m ≤ 1000) :
    CON K P dr fz (.call (.builtin "str.__mul__") ⟨[.str ⟨#[c]⟩ t, .int m u], []⟩) [] 0 0 (fun v => ⟨.ok (.ret (.str (repS c m.toNat) (v 0))), [], []⟩) := by
  obtain ⟨n, rfl⟩ : ∃ n : Nat, m = (n : Int) := ⟨m.toNat, ar280 h1⟩
  exact con_strmul (ar281 h1) (ar282 h2) rfl
end
noncomputable def sc_lw (K : Params → KT) (P : Params) (nl ne L acc eo C it : Nat) (ns os : Array Value) (k m : Int) (o : RO) (c xt : Nat) (x : Int) (w : Str) (N tk : Nat) : Sc :=
  sS [7] (.call (.builtin "range_iterator.__next__") ⟨[.ref it], []⟩) [4] [(it, ritO k m 1)] 0 0 (fun v1 => ⟨.ok (.ret (.int k (v1 0))), [ritO (k + 1) (m - 1) 1], []⟩) 0 fun v1 n1 tk1 =>
  sS [6, 6, 6] (.call (.builtin "str.__getitem__") ⟨[.str "abcdefghij" (tk1 + 1), .int k (v1 0)], []⟩) [] [] 0 0 (fun v2 => ⟨.ok (.ret (.str ⟨#[c]⟩ (v2 0))), [], []⟩) 0 fun v2 n2 tk2 =>
  sS [3, 6, 4, 4, 4] (.call (.builtin "list.__getitem__") ⟨[.ref nl, .int k (v1 0)], []⟩) [1] [(nl, lisO ns ne)] 0 0 (fun v3 => ⟨.ok (.ret (.int x xt)), [], []⟩) 0 fun v3 n3 tk3 =>
  sA [] 0 (.int (x.fmod 6) (tk3 + 1)) (.int (x.fmod 6) (tk3 + 1)) <|
  sA [] 0 (.int (1 + x.fmod 6) (tk3 + 2)) (.int (1 + x.fmod 6) (tk3 + 2)) <|
  sA [] 0 (.notImplemented) (.notImplemented) <|
  sS [] (.call (.builtin "str.__mul__") ⟨[.str ⟨#[c]⟩ (v2 0), .int (1 + x.fmod 6) (tk3 + 2)], []⟩) [] [] 0 0 (fun v4 => ⟨.ok (.ret (.str w (v4 0))), [], []⟩) 0 fun v4 n4 tk4 =>
  sS [] (.call (.builtin "list.append") ⟨[.ref acc, .str w (v4 0)], []⟩) [2] [(acc, lisO os eo)] 0 0 (fun v5 => ⟨.ok (.ret .none), [lisO (os.push (.str w (v4 0))) (eo + 1)], []⟩) 0 fun v5 n5 tk5 =>
  sG [] (.compLoop (lcW K P) 0 (.ref it) (.ref acc) (compE (lcW K P) (envC K P 216 L) C)) [0, 1, 2, 3, 4] [(L + 1, celO (some (.ref nl))), (nl, lisO ns ne), (acc, lisO (os.push (.str w (v4 0))) (eo + 1)), (C, dic1 P "k" (o.set (tk1 + 0) (.int k (v1 0)))), (it, ritO (k + 1) (m - 1) 1)] 0 0
noncomputable def ok_lw (K : Params → KT) : Prop := ∀ P nl ne L acc eo C it ns os k m o c xt x w N tk,
  RunsTo K P 40 150 4000 (.compLoop (lcW K P) 0 (.ref it) (.ref acc) (compE (lcW K P) (envC K P 216 L) C)) [(L + 1, celO (some (.ref nl))), (nl, lisO ns ne), (acc, lisO os eo), (C, dic1 P "k" o), (it, ritO k m 1)] N tk (sc_lw K P nl ne L acc eo C it ns os k m o c xt x w N tk)
noncomputable def sc_lwe (K : Params → KT) (P : Params) (nl ne L acc eo C it : Nat) (ns os : Array Value) (k m : Int) (o : RO) (N tk : Nat) : Sc :=
  sS [7] (.call (.builtin "range_iterator.__next__") ⟨[.ref it], []⟩) [4] [(it, ritO k m 1)] 0 0 (fun v1 => ⟨.error (.ref (v1 0)), [], [(v1 0, excStop (v1 1))]⟩) 0 fun v1 n1 tk1 =>
  sF [8] (.ok .next) [0, 1, 2, 3, 4] [(L + 1, celO (some (.ref nl))), (nl, lisO ns ne), (acc, lisO os eo), (C, dic1 P "k" o), (it, ritO k m 1)] 0 0
noncomputable def ok_lwe (K : Params → KT) : Prop := ∀ P nl ne L acc eo C it ns os k m o N tk,
  RunsTo K P 40 150 4000 (.compLoop (lcW K P) 0 (.ref it) (.ref acc) (compE (lcW K P) (envC K P 216 L) C)) [(L + 1, celO (some (.ref nl))), (nl, lisO ns ne), (acc, lisO os eo), (C, dic1 P "k" o), (it, ritO k m 1)] N tk (sc_lwe K P nl ne L acc eo C it ns os k m o N tk)
noncomputable def sc_lws (K : Params → KT) (P : Params) (nl ne L acc eo C it : Nat) (ns os : Array Value) (k m : Int) (o : RO) (N tk : Nat) : Sc :=
  sG (bif P.followText "comprehension-iter-twice" then [] else [7, 7, 7, 7]) (.compLoop (lcW K P) 0 (.ref it) (.ref acc) (compE (lcW K P) (envC K P 216 L) C)) [0, 1, 2, 3, 4] [(L + 1, celO (some (.ref nl))), (nl, lisO ns ne), (acc, lisO os eo), (C, dic1 P "k" o), (it, ritO k m 1)] 0 0
noncomputable def ok_lws (K : Params → KT) : Prop := ∀ P nl ne L acc eo C it ns os k m o N tk,
  RunsTo K P 40 150 4000 (.compStart (lcW K P) 0 (.ref it) (.ref acc) (compE (lcW K P) (envC K P 216 L) C)) [(L + 1, celO (some (.ref nl))), (nl, lisO ns ne), (acc, lisO os eo), (C, dic1 P "k" o), (it, ritO k m 1)] N tk (sc_lws K P nl ne L acc eo C it ns os k m o N tk)
noncomputable def sc_lb (K : Params → KT) (P : Params) (wl we L acc eo C it i : Nat) (ws os : Array Value) (o : RO) (w x : Str) (wt : Nat) (N tk : Nat) : Sc :=
  sS [6] (.call (.builtin "list_iterator.__next__") ⟨[.ref it], []⟩) [3, 0] [(it, litO wl i), (wl, lisO ws we)] 0 0 (fun v1 => ⟨.ok (.ret (.str w wt)), [litO wl (i + 1)], []⟩) 0 fun v1 n1 tk1 =>
  sS [5, 5, 5] (.call (.builtin "str.__add__") ⟨[.str " " (tk1 + 1), .str w wt], []⟩) [] [] 0 0 (fun v2 => ⟨.ok (.ret (.str x (v2 0))), [], []⟩) 0 fun v2 n2 tk2 =>
  sS [] (.call (.builtin "list.append") ⟨[.ref acc, .str x (v2 0)], []⟩) [1] [(acc, lisO os eo)] 0 0 (fun v3 => ⟨.ok (.ret .none), [lisO (os.push (.str x (v2 0))) (eo + 1)], []⟩) 0 fun v3 n3 tk3 =>
  sG [] (.compLoop (lcB K P) 0 (.ref it) (.ref acc) (compE (lcB K P) (envC K P 216 L) C)) [0, 1, 2, 3] [(wl, lisO ws we), (acc, lisO (os.push (.str x (v2 0))) (eo + 1)), (C, dic1 P "word" (o.set (tk1 + 0) (.str w wt))), (it, litO wl (i + 1))] 0 0
noncomputable def ok_lb (K : Params → KT) : Prop := ∀ P wl we L acc eo C it i ws os o w x wt N tk,
  RunsTo K P 40 150 4000 (.compLoop (lcB K P) 0 (.ref it) (.ref acc) (compE (lcB K P) (envC K P 216 L) C)) [(wl, lisO ws we), (acc, lisO os eo), (C, dic1 P "word" o), (it, litO wl i)] N tk (sc_lb K P wl we L acc eo C it i ws os o w x wt N tk)
noncomputable def sc_lbe (K : Params → KT) (P : Params) (wl we L acc eo C it i : Nat) (ws os : Array Value) (o : RO) (N tk : Nat) : Sc :=
  sS [6] (.call (.builtin "list_iterator.__next__") ⟨[.ref it], []⟩) [3, 0] [(it, litO wl i), (wl, lisO ws we)] 0 0 (fun v1 => ⟨.error (.ref (v1 0)), [⟨.type "list_iterator", none, .fields #[.none, .int i 0], #[]⟩], [(v1 0, excStop (v1 1))]⟩) 0 fun v1 n1 tk1 =>
  sF [7] (.ok .next) [0, 1, 2, 3] [(wl, lisO ws we), (acc, lisO os eo), (C, dic1 P "word" o), (it, ⟨.type "list_iterator", none, .fields #[.none, .int i 0], #[]⟩)] 0 0
noncomputable def ok_lbe (K : Params → KT) : Prop := ∀ P wl we L acc eo C it i ws os o N tk,
  RunsTo K P 40 150 4000 (.compLoop (lcB K P) 0 (.ref it) (.ref acc) (compE (lcB K P) (envC K P 216 L) C)) [(wl, lisO ws we), (acc, lisO os eo), (C, dic1 P "word" o), (it, litO wl i)] N tk (sc_lbe K P wl we L acc eo C it i ws os o N tk)
noncomputable def sc_lbs (K : Params → KT) (P : Params) (wl we L acc eo C it i : Nat) (ws os : Array Value) (o : RO) (N tk : Nat) : Sc :=
  sG (bif P.followText "comprehension-iter-twice" then [] else [6, 6, 6, 6]) (.compLoop (lcB K P) 0 (.ref it) (.ref acc) (compE (lcB K P) (envC K P 216 L) C)) [0, 1, 2, 3] [(wl, lisO ws we), (acc, lisO os eo), (C, dic1 P "word" o), (it, litO wl i)] 0 0
noncomputable def ok_lbs (K : Params → KT) : Prop := ∀ P wl we L acc eo C it i ws os o N tk,
  RunsTo K P 40 150 4000 (.compStart (lcB K P) 0 (.ref it) (.ref acc) (compE (lcB K P) (envC K P 216 L) C)) [(wl, lisO ws we), (acc, lisO os eo), (C, dic1 P "word" o), (it, litO wl i)] N tk (sc_lbs K P wl we L acc eo C it i ws os o N tk)
noncomputable def sc_ls (K : Params → KT) (P : Params) (wl we L acc eo C it i : Nat) (ws os : Array Value) (o : RO) (w : Str) (wt : Nat) (n : Int) (N tk : Nat) : Sc :=
  sS [6] (.call (.builtin "list_iterator.__next__") ⟨[.ref it], []⟩) [3, 0] [(it, litO wl i), (wl, lisO ws we)] 0 0 (fun v1 => ⟨.ok (.ret (.str w wt)), [litO wl (i + 1)], []⟩) 0 fun v1 n1 tk1 =>
  sS [5, 5, 0, 0, 5] (.call (.builtin "len") ⟨[.str w wt], []⟩) [] [] 5 20 (fun v2 => ⟨.ok (.ret (.int n (v2 0))), [], []⟩) 0 fun v2 n2 tk2 =>
  sA [] 0 (.int (1 + n) (tk2 + 0)) (.int (1 + n) (tk2 + 0)) <|
  sS [] (.call (.builtin "list.append") ⟨[.ref acc, .int (1 + n) (tk2 + 0)], []⟩) [1] [(acc, lisO os eo)] 0 0 (fun v3 => ⟨.ok (.ret .none), [lisO (os.push (.int (1 + n) (tk2 + 0))) (eo + 1)], []⟩) 0 fun v3 n3 tk3 =>
  sG [] (.compLoop (lcS K P) 0 (.ref it) (.ref acc) (compE (lcS K P) (envC K P 216 L) C)) [0, 1, 2, 3] [(wl, lisO ws we), (acc, lisO (os.push (.int (1 + n) (tk2 + 0))) (eo + 1)), (C, dic1 P "word" (o.set (tk1 + 0) (.str w wt))), (it, litO wl (i + 1))] 0 0
noncomputable def ok_ls (K : Params → KT) : Prop := ∀ P wl we L acc eo C it i ws os o w wt n N tk,
  RunsTo K P 40 150 4000 (.compLoop (lcS K P) 0 (.ref it) (.ref acc) (compE (lcS K P) (envC K P 216 L) C)) [(wl, lisO ws we), (acc, lisO os eo), (C, dic1 P "word" o), (it, litO wl i)] N tk (sc_ls K P wl we L acc eo C it i ws os o w wt n N tk)
noncomputable def sc_lse (K : Params → KT) (P : Params) (wl we L acc eo C it i : Nat) (ws os : Array Value) (o : RO) (N tk : Nat) : Sc :=
  sS [6] (.call (.builtin "list_iterator.__next__") ⟨[.ref it], []⟩) [3, 0] [(it, litO wl i), (wl, lisO ws we)] 0 0 (fun v1 => ⟨.error (.ref (v1 0)), [⟨.type "list_iterator", none, .fields #[.none, .int i 0], #[]⟩], [(v1 0, excStop (v1 1))]⟩) 0 fun v1 n1 tk1 =>
  sF [7] (.ok .next) [0, 1, 2, 3] [(wl, lisO ws we), (acc, lisO os eo), (C, dic1 P "word" o), (it, ⟨.type "list_iterator", none, .fields #[.none, .int i 0], #[]⟩)] 0 0
noncomputable def ok_lse (K : Params → KT) : Prop := ∀ P wl we L acc eo C it i ws os o N tk,
  RunsTo K P 40 150 4000 (.compLoop (lcS K P) 0 (.ref it) (.ref acc) (compE (lcS K P) (envC K P 216 L) C)) [(wl, lisO ws we), (acc, lisO os eo), (C, dic1 P "word" o), (it, litO wl i)] N tk (sc_lse K P wl we L acc eo C it i ws os o N tk)
noncomputable def sc_lss (K : Params → KT) (P : Params) (wl we L acc eo C it i : Nat) (ws os : Array Value) (o : RO) (N tk : Nat) : Sc :=
  sG (bif P.followText "comprehension-iter-twice" then [] else [6, 6, 6, 6]) (.compLoop (lcS K P) 0 (.ref it) (.ref acc) (compE (lcS K P) (envC K P 216 L) C)) [0, 1, 2, 3] [(wl, lisO ws we), (acc, lisO os eo), (C, dic1 P "word" o), (it, litO wl i)] 0 0
noncomputable def ok_lss (K : Params → KT) : Prop := ∀ P wl we L acc eo C it i ws os o N tk,
  RunsTo K P 40 150 4000 (.compStart (lcS K P) 0 (.ref it) (.ref acc) (compE (lcS K P) (envC K P 216 L) C)) [(wl, lisO ws we), (acc, lisO os eo), (C, dic1 P "word" o), (it, litO wl i)] N tk (sc_lss K P wl we L acc eo C it i ws os o N tk)
noncomputable def sc_ll (K : Params → KT) (P : Params) (wl we L acc eo C it i : Nat) (ws os : Array Value) (o : RO) (c : Int) (ct : Nat) (k : Int) (kt : Nat) (N tk : Nat) : Sc :=
  sS [7] (.call (.builtin "list_iterator.__next__") ⟨[.ref it], []⟩) [4, 1] [(it, litO wl i), (wl, lisO ws we)] 0 0 (fun v1 => ⟨.ok (.ret (.int k kt)), [litO wl (i + 1)], []⟩) 0 fun v1 n1 tk1 =>
  sA [6, 6, 3] 0 (.int (c - 1) (tk1 + 2)) (.int (c - 1) (tk1 + 2)) <|
  sA [6] 0 (.int (c - 1 - k) (tk1 + 3)) (.int (c - 1 - k) (tk1 + 3)) <|
  sS [] (.call (.builtin "list.append") ⟨[.ref acc, .int (c - 1 - k) (tk1 + 3)], []⟩) [2] [(acc, lisO os eo)] 0 0 (fun v2 => ⟨.ok (.ret .none), [lisO (os.push (.int (c - 1 - k) (tk1 + 3))) (eo + 1)], []⟩) 0 fun v2 n2 tk2 =>
  sG [] (.compLoop (lcL K P) 0 (.ref it) (.ref acc) (compE (lcL K P) (envC K P 216 L) C)) [0, 1, 2, 3, 4] [(L + 2, celO (some (.int c ct))), (wl, lisO ws we), (acc, lisO (os.push (.int (c - 1 - k) (tk1 + 3))) (eo + 1)), (C, dic1 P "k" (o.set (tk1 + 0) (.int k kt))), (it, litO wl (i + 1))] 0 0
noncomputable def ok_ll (K : Params → KT) : Prop := ∀ P wl we L acc eo C it i ws os o c ct k kt N tk,
  RunsTo K P 40 150 4000 (.compLoop (lcL K P) 0 (.ref it) (.ref acc) (compE (lcL K P) (envC K P 216 L) C)) [(L + 2, celO (some (.int c ct))), (wl, lisO ws we), (acc, lisO os eo), (C, dic1 P "k" o), (it, litO wl i)] N tk (sc_ll K P wl we L acc eo C it i ws os o c ct k kt N tk)
noncomputable def sc_lle (K : Params → KT) (P : Params) (wl we L acc eo C it i : Nat) (ws os : Array Value) (o : RO) (c : Int) (ct : Nat) (N tk : Nat) : Sc :=
  sS [7] (.call (.builtin "list_iterator.__next__") ⟨[.ref it], []⟩) [4, 1] [(it, litO wl i), (wl, lisO ws we)] 0 0 (fun v1 => ⟨.error (.ref (v1 0)), [⟨.type "list_iterator", none, .fields #[.none, .int i 0], #[]⟩], [(v1 0, excStop (v1 1))]⟩) 0 fun v1 n1 tk1 =>
  sF [8] (.ok .next) [0, 1, 2, 3, 4] [(L + 2, celO (some (.int c ct))), (wl, lisO ws we), (acc, lisO os eo), (C, dic1 P "k" o), (it, ⟨.type "list_iterator", none, .fields #[.none, .int i 0], #[]⟩)] 0 0
noncomputable def ok_lle (K : Params → KT) : Prop := ∀ P wl we L acc eo C it i ws os o c ct N tk,
  RunsTo K P 40 150 4000 (.compLoop (lcL K P) 0 (.ref it) (.ref acc) (compE (lcL K P) (envC K P 216 L) C)) [(L + 2, celO (some (.int c ct))), (wl, lisO ws we), (acc, lisO os eo), (C, dic1 P "k" o), (it, litO wl i)] N tk (sc_lle K P wl we L acc eo C it i ws os o c ct N tk)
noncomputable def sc_lls (K : Params → KT) (P : Params) (wl we L acc eo C it i : Nat) (ws os : Array Value) (o : RO) (c : Int) (ct : Nat) (N tk : Nat) : Sc :=
  sG (bif P.followText "comprehension-iter-twice" then [] else [7, 7, 7, 7]) (.compLoop (lcL K P) 0 (.ref it) (.ref acc) (compE (lcL K P) (envC K P 216 L) C)) [0, 1, 2, 3, 4] [(L + 2, celO (some (.int c ct))), (wl, lisO ws we), (acc, lisO os eo), (C, dic1 P "k" o), (it, litO wl i)] 0 0
noncomputable def ok_lls (K : Params → KT) : Prop := ∀ P wl we L acc eo C it i ws os o c ct N tk,
  RunsTo K P 40 150 4000 (.compStart (lcL K P) 0 (.ref it) (.ref acc) (compE (lcL K P) (envC K P 216 L) C)) [(L + 2, celO (some (.int c ct))), (wl, lisO ws we), (acc, lisO os eo), (C, dic1 P "k" o), (it, litO wl i)] N tk (sc_lls K P wl we L acc eo C it i ws os o c ct N tk)
noncomputable def sc_zn (K : Params → KT) (P : Params) (z zt zc i1 i2 pl pe la le L acc eo C i : Nat) (pp ll os : Array Value) (x y : Value) (o : ZO) (a b : Int) (at_ bt : Nat) (N tk : Nat) : Sc :=
  sS [3, 3, 3, 3, 4, 3, 3, 3, 3, 6] (.call (.builtin "list_iterator.__next__") ⟨[.ref i1], []⟩) [3, 5] [(i1, litO pl i), (pl, lisO pp pe)] 0 0 (fun v1 => ⟨.ok (.ret (.int a at_)), [litO pl (i + 1)], []⟩) 0 fun v1 n1 tk1 =>
  sS [5, 5, 5, 5, 7] (.call (.builtin "list_iterator.__next__") ⟨[.ref i2], []⟩) [4, 6] [(i2, litO la i), (la, lisO ll le)] 0 0 (fun v2 => ⟨.ok (.ret (.int b bt)), [litO la (i + 1)], []⟩) 0 fun v2 n2 tk2 =>
  sF [5, 5, 5, 5, 5, 3, 3, 3, 3] (.ok (.ret (.ref (n2 + 0)))) [0, 1, 2, 3, 4, 5, 6, 7, 8, 9] [(z, ⟨.type "zip", none, .fields #[.int (Int.ofNat (n2 + 0)) 0, .bool false, .bool false, .ref zt, .ref zc], #[]⟩), (zt, tupO #[.ref i1, .ref i2]), (zc, tupO #[.int a at_, .int b bt]), (i1, litO pl (i + 1)), (i2, litO la (i + 1)), (pl, lisO pp pe), (la, lisO ll le), (acc, lisO os eo), (C, dicZ P o), (n2 + 0, tupO #[.int a at_, .int b bt])] 1 0
noncomputable def ok_zn (K : Params → KT) : Prop := ∀ P z zt zc i1 i2 pl pe la le L acc eo C i pp ll os x y o a b at_ bt N tk,
  RunsA K P 10 40 4000 (fPyNext (.ref z) >>= optFin) [(z, zipO zt zc), (zt, tupO #[.ref i1, .ref i2]), (zc, tupO #[x, y]), (i1, litO pl i), (i2, litO la i), (pl, lisO pp pe), (la, lisO ll le), (acc, lisO os eo), (C, dicZ P o)] N tk (sc_zn K P z zt zc i1 i2 pl pe la le L acc eo C i pp ll os x y o a b at_ bt N tk)
noncomputable def sc_zq (K : Params → KT) (P : Params) (z zt zc i1 i2 pl pe la le L acc eo C i : Nat) (pp ll os : Array Value) (x y : Value) (o : ZO) (N tk : Nat) : Sc :=
  sS [3, 3, 3, 3, 4, 3, 3, 3, 3, 6] (.call (.builtin "list_iterator.__next__") ⟨[.ref i1], []⟩) [3, 5] [(i1, litO pl i), (pl, lisO pp pe)] 0 0 (fun v1 => ⟨.error (.ref (v1 0)), [⟨.type "list_iterator", none, .fields #[.none, .int i 0], #[]⟩], [(v1 0, excStop (v1 1))]⟩) 0 fun v1 n1 tk1 =>
  sF [3, 3, 12] (.ok .next) [0, 1, 2, 3, 4, 5, 6, 7, 8] [(z, zipO zt zc), (zt, tupO #[.ref i1, .ref i2]), (zc, tupO #[x, y]), (i1, ⟨.type "list_iterator", none, .fields #[.none, .int i 0], #[]⟩), (i2, litO la i), (pl, lisO pp pe), (la, lisO ll le), (acc, lisO os eo), (C, dicZ P o)] 0 0
noncomputable def ok_zq (K : Params → KT) : Prop := ∀ P z zt zc i1 i2 pl pe la le L acc eo C i pp ll os x y o N tk,
  RunsA K P 10 40 4000 (fPyNext (.ref z) >>= optFin) [(z, zipO zt zc), (zt, tupO #[.ref i1, .ref i2]), (zc, tupO #[x, y]), (i1, litO pl i), (i2, litO la i), (pl, lisO pp pe), (la, lisO ll le), (acc, lisO os eo), (C, dicZ P o)] N tk (sc_zq K P z zt zc i1 i2 pl pe la le L acc eo C i pp ll os x y o N tk)
noncomputable def sc_za (K : Params → KT) (P : Params) (z zt zc i1 i2 pl pe la le L acc eo C i : Nat) (pp ll os : Array Value) (x y : Value) (o : ZO) (a b : Int) (at_ bt : Nat) (T : Nat) (N tk : Nat) : Sc :=
  sF [12, 12, 12, 12, 13, 13, 13, 13, 13, 12, 13, 13, 13, 13, 13, 13, 12, 13, 13, 13, 13, 13, 13, 12, 13, 13, 15, 11, 11, 11, 11] (.ok .next) [0, 1, 2, 3, 4, 5, 6, 7, 8] [(z, zipO zt zc), (zt, tupO #[.ref i1, .ref i2]), (zc, tupO #[.int a at_, .int b bt]), (i1, litO pl i), (i2, litO la i), (pl, lisO pp pe), (la, lisO ll le), (acc, lisO os eo), (C, dicZ P (o.set (tk + 0) (.int a at_) (tk + 1) (.int b bt)))] 3 2
noncomputable def ok_za (K : Params → KT) : Prop := ∀ P z zt zc i1 i2 pl pe la le L acc eo C i pp ll os x y o a b at_ bt T N tk,
  RunsA K P 10 40 4000 (fAssign (cTgt (lcZ K P)) (compE (lcZ K P) (envC K P 216 L) C) (.ref T) >>= unitFin) [(z, zipO zt zc), (zt, tupO #[.ref i1, .ref i2]), (zc, tupO #[.int a at_, .int b bt]), (i1, litO pl i), (i2, litO la i), (pl, lisO pp pe), (la, lisO ll le), (acc, lisO os eo), (C, dicZ P o), (T, tupO #[.int a at_, .int b bt])] N tk (sc_za K P z zt zc i1 i2 pl pe la le L acc eo C i pp ll os x y o a b at_ bt T N tk)
noncomputable def sc_zv (K : Params → KT) (P : Params) (z zt zc i1 i2 pl pe la le L acc eo C i : Nat) (pp ll os : Array Value) (x y : Value) (o : ZO) (a b : Int) (at_ bt : Nat) (t1 t2 : Nat) (RM RA : Array Value) (N tk : Nat) : Sc :=
  sA [11, 11, 11, 11] 0 (.int (b - a) (tk + 0)) (.int (b - a) (tk + 0)) <|
  sA [13, 13] 0 (.notImplemented) (.notImplemented) <|
  sS [13] (.call (.builtin "list.__mul__") ⟨[.ref (N + 1), .int (b - a) (tk + 0)], []⟩) [10] [(N + 1, lisO #[.int b bt] 0)] 0 0 (fun v1 => ⟨.ok (.ret (.ref (v1 0))), [], [(v1 0, lisO RM 0)]⟩) 2 fun v1 n1 tk1 =>
  sS [12, 14, 12] (.call (.builtin "list.__add__") ⟨[.ref (N + 0), .ref (v1 0)], []⟩) [9, 11] [(N + 0, lisO #[.int a at_] 0), (v1 0, lisO RM 0)] 0 0 (fun v2 => ⟨.ok (.ret (.ref (v2 0))), [], [(v2 0, lisO RA 0)]⟩) 0 fun v2 n2 tk2 =>
  sF [] (.ok (.ret (.ref (v2 0)))) [0, 1, 2, 3, 4, 5, 6, 7, 8, 12] [(z, zipO zt zc), (zt, tupO #[.ref i1, .ref i2]), (zc, tupO #[.int a at_, .int b bt]), (i1, litO pl i), (i2, litO la i), (pl, lisO pp pe), (la, lisO ll le), (acc, lisO os eo), (C, dicZ P (.y t1 (.int a at_) t2 (.int b bt))), (v2 0, lisO RA 0)] 0 0
noncomputable def ok_zv (K : Params → KT) : Prop := ∀ P z zt zc i1 i2 pl pe la le L acc eo C i pp ll os x y o a b at_ bt t1 t2 RM RA N tk,
  RunsA K P 20 80 4000 (fEval (cElt (lcZ K P)) (compE (lcZ K P) (envC K P 216 L) C) >>= asFin) [(z, zipO zt zc), (zt, tupO #[.ref i1, .ref i2]), (zc, tupO #[.int a at_, .int b bt]), (i1, litO pl i), (i2, litO la i), (pl, lisO pp pe), (la, lisO ll le), (acc, lisO os eo), (C, dicZ P (.y t1 (.int a at_) t2 (.int b bt)))] N tk (sc_zv K P z zt zc i1 i2 pl pe la le L acc eo C i pp ll os x y o a b at_ bt t1 t2 RM RA N tk)
noncomputable def sc_zp (K : Params → KT) (P : Params) (z zt zc i1 i2 pl pe la le L acc eo C i : Nat) (pp ll os : Array Value) (x y : Value) (o : ZO) (a b : Int) (at_ bt : Nat) (r : Nat) (RA : Array Value) (N tk : Nat) : Sc :=
  sS [] (.call (.builtin "list.append") ⟨[.ref acc, .ref r], []⟩) [7] [(acc, lisO os eo)] 0 0 (fun v1 => ⟨.ok (.ret .none), [lisO (os.push (.ref r)) (eo + 1)], []⟩) 0 fun v1 n1 tk1 =>
  sF [] (.ok (.ret .none)) [0, 1, 2, 3, 4, 5, 6, 7, 8, 9] [(z, zipO zt zc), (zt, tupO #[.ref i1, .ref i2]), (zc, tupO #[.int a at_, .int b bt]), (i1, litO pl i), (i2, litO la i), (pl, lisO pp pe), (la, lisO ll le), (acc, lisO (os.push (.ref r)) (eo + 1)), (C, dicZ P o), (r, lisO RA 0)] 0 0
noncomputable def ok_zp (K : Params → KT) : Prop := ∀ P z zt zc i1 i2 pl pe la le L acc eo C i pp ll os x y o a b at_ bt r RA N tk,
  RunsA K P 10 40 4000 (fCall (.builtin "list.append") [.ref acc, .ref r] >>= asFin) [(z, zipO zt zc), (zt, tupO #[.ref i1, .ref i2]), (zc, tupO #[.int a at_, .int b bt]), (i1, litO pl i), (i2, litO la i), (pl, lisO pp pe), (la, lisO ll le), (acc, lisO os eo), (C, dicZ P o), (r, lisO RA 0)] N tk (sc_zp K P z zt zc i1 i2 pl pe la le L acc eo C i pp ll os x y o a b at_ bt r RA N tk)
noncomputable def sc_zs (K : Params → KT) (P : Params) (z zt zc i1 i2 pl pe la le L acc eo C i : Nat) (pp ll os : Array Value) (x y : Value) (o : ZO) (N tk : Nat) : Sc :=
  sG (bif P.followText "comprehension-iter-twice" then [] else [3, 3, 3, 3]) (.compLoop (lcZ K P) 0 (.ref z) (.ref acc) (compE (lcZ K P) (envC K P 216 L) C)) [0, 1, 2, 3, 4, 5, 6, 7, 8] [(z, zipO zt zc), (zt, tupO #[.ref i1, .ref i2]), (zc, tupO #[x, y]), (i1, litO pl i), (i2, litO la i), (pl, lisO pp pe), (la, lisO ll le), (acc, lisO os eo), (C, dicZ P o)] 0 0
noncomputable def ok_zs (K : Params → KT) : Prop := ∀ P z zt zc i1 i2 pl pe la le L acc eo C i pp ll os x y o N tk,
  RunsTo K P 40 150 4000 (.compStart (lcZ K P) 0 (.ref z) (.ref acc) (compE (lcZ K P) (envC K P 216 L) C)) [(z, zipO zt zc), (zt, tupO #[.ref i1, .ref i2]), (zc, tupO #[x, y]), (i1, litO pl i), (i2, litO la i), (pl, lisO pp pe), (la, lisO ll le), (acc, lisO os eo), (C, dicZ P o)] N tk (sc_zs K P z zt zc i1 i2 pl pe la le L acc eo C i pp ll os x y o N tk)
noncomputable def sc_g3 (K : Params → KT) (P : Params) (sc se L s0 s1 wt nl ne : Nat) (W n : Int) (ss ns : Array Value) (WS : (Nat → Nat) → Array Value) (N tk : Nat) : Sc :=
  sS [0, 0, 0, 0, 5] (.call (.builtin "len") ⟨[.ref nl], []⟩) [4] [(nl, lisO ns ne)] 5 20 (fun v1 => ⟨.ok (.ret (.int n (v1 0))), [], []⟩) 0 fun v1 n1 tk1 =>
  sS [8, 8, 8, 8, 8, 8] (.call (.builtin "range.__iter__") ⟨[.ref (n1 + 0)], []⟩) [5] [(n1 + 0, rngO 0 (tk1 + 0) n (v1 0) 1 (tk1 + 1))] 0 0 (fun v2 => ⟨.ok (.ret (.ref (v2 0))), [], [(v2 0, ritO 0 n 1)]⟩) 1 fun v2 n2 tk2 =>
  sS [9] (.compStart (lcW K P) 0 (.ref (v2 0)) (.ref (n2 + 0)) (compE (lcW K P) (envC K P 216 L) (n2 + 1))) [2, 4, 7, 8, 6] [(L + 1, celO (some (.ref nl))), (nl, lisO ns ne), (n2 + 0, lisO #[] 0), (n2 + 1, dic1 P "k" .n), (v2 0, ritO 0 n 1)] 50 200 (fun v3 => ⟨.ok .next, [celO (some (.ref nl)), lisO ns ne, lisO (WS v3) (v3 0), dic1 P "k" (.y (v3 4) (.int (n - 1) (v3 8))), ritO n 0 1], []⟩) 2 fun v3 n3 tk3 =>
  sF [4, 4, 11, 11, 11] (.ok .next) [0, 1, 2, 3, 4, 7] [(sc, lisO ss se), (L, frmO #[dEnt P "script" s0 (.ref sc), dEnt P "width" s1 (.int W wt), dEnt P "words" (tk3 + 0) (.ref (n2 + 0))] 3), (L + 1, celO (some (.ref nl))), (L + 2, celO (none)), (nl, lisO ns ne), (n2 + 0, lisO (WS v3) (v3 0))] 0 1
noncomputable def ok_g3 (K : Params → KT) : Prop := ∀ P sc se L s0 s1 wt nl ne W n ss ns WS N tk,
  RunsA K P 100 350 4000 (fExecs [stmtOf K P 216 2] (envC K P 216 L) >>= flFin) [(sc, lisO ss se), (L, frmO #[dEnt P "script" s0 (.ref sc), dEnt P "width" s1 (.int W wt)] 2), (L + 1, celO (some (.ref nl))), (L + 2, celO (none)), (nl, lisO ns ne)] N tk (sc_g3 K P sc se L s0 s1 wt nl ne W n ss ns WS N tk)
noncomputable def sc_g4 (K : Params → KT) (P : Params) (sc se L s0 s1 s2 wt nl ne wl we : Nat) (W : Int) (ss ns ws : Array Value) (RS : (Nat → Nat) → Array Value) (N tk : Nat) : Sc :=
  sS [0, 4, 4, 0] (.call (.ref 189) ⟨[.ref wl, .int W wt], []⟩) [5] [(wl, lisO ws we)] 220 600 (fun v1 => ⟨.ok (.ret (.ref (v1 0))), [], [(v1 0, lisO (RS v1) 0)]⟩) 0 fun v1 n1 tk1 =>
  sF [4, 4] (.ok .next) [0, 1, 2, 3, 4, 5, 6] [(sc, lisO ss se), (L, frmO #[dEnt P "script" s0 (.ref sc), dEnt P "width" s1 (.int W wt), dEnt P "words" s2 (.ref wl), dEnt P "rows" (tk1 + 0) (.ref (v1 0))] 4), (L + 1, celO (some (.ref nl))), (L + 2, celO (none)), (nl, lisO ns ne), (wl, lisO ws we), (v1 0, lisO (RS v1) 0)] 0 1
noncomputable def ok_g4 (K : Params → KT) : Prop := ∀ P sc se L s0 s1 s2 wt nl ne wl we W ss ns ws RS N tk,
  RunsA K P 240 700 4000 (fExecs [stmtOf K P 216 3] (envC K P 216 L) >>= flFin) [(sc, lisO ss se), (L, frmO #[dEnt P "script" s0 (.ref sc), dEnt P "width" s1 (.int W wt), dEnt P "words" s2 (.ref wl)] 3), (L + 1, celO (some (.ref nl))), (L + 2, celO (none)), (nl, lisO ns ne), (wl, lisO ws we)] N tk (sc_g4 K P sc se L s0 s1 s2 wt nl ne wl we W ss ns ws RS N tk)
noncomputable def sc_g5 (K : Params → KT) (P : Params) (sc se L s0 s1 s2 s3 wt nl ne wl we rw re : Nat) (W : Int) (ss ns ws rr wr : Array Value) (RS : (Nat → Nat) → Array Value) (N tk : Nat) : Sc :=
  sS [0, 4, 8, 8, 8] (.call (.builtin "list.__getitem__") ⟨[.ref wl, .ref (N + 0)], []⟩) [5, 7] [(wl, lisO ws we), (N + 0, slcO .none .none (.int (-1) (tk + 1)))] 0 0 (fun v1 => ⟨.ok (.ret (.ref (v1 0))), [], [(v1 0, lisO wr 0)]⟩) 1 fun v1 n1 tk1 =>
  sS [4, 0] (.call (.ref 189) ⟨[.ref (v1 0), .int W wt], []⟩) [8] [(v1 0, lisO wr 0)] 220 600 (fun v2 => ⟨.ok (.ret (.ref (v2 0))), [], [(v2 0, lisO (RS v2) 0)]⟩) 0 fun v2 n2 tk2 =>
  sF [4, 4] (.ok .next) [0, 1, 2, 3, 4, 5, 6, 9] [(sc, lisO ss se), (L, frmO #[dEnt P "script" s0 (.ref sc), dEnt P "width" s1 (.int W wt), dEnt P "words" s2 (.ref wl), dEnt P "rows" s3 (.ref rw), dEnt P "back" (tk2 + 0) (.ref (v2 0))] 5), (L + 1, celO (some (.ref nl))), (L + 2, celO (none)), (nl, lisO ns ne), (wl, lisO ws we), (rw, lisO rr re), (v2 0, lisO (RS v2) 0)] 0 1
noncomputable def ok_g5 (K : Params → KT) : Prop := ∀ P sc se L s0 s1 s2 s3 wt nl ne wl we rw re W ss ns ws rr wr RS N tk,
  RunsA K P 240 700 4000 (fExecs [stmtOf K P 216 4] (envC K P 216 L) >>= flFin) [(sc, lisO ss se), (L, frmO #[dEnt P "script" s0 (.ref sc), dEnt P "width" s1 (.int W wt), dEnt P "words" s2 (.ref wl), dEnt P "rows" s3 (.ref rw)] 4), (L + 1, celO (some (.ref nl))), (L + 2, celO (none)), (nl, lisO ns ne), (wl, lisO ws we), (rw, lisO rr re)] N tk (sc_g5 K P sc se L s0 s1 s2 s3 wt nl ne wl we rw re W ss ns ws rr wr RS N tk)
noncomputable def sc_g6 (K : Params → KT) (P : Params) (sc se L s0 s1 s2 s3 s4 wt nl ne wl we rw re bk be nl2 : Nat) (W : Int) (J1 J2 : Str) (ss ns ws rr bb rb wr ww : Array Value) (X : (Nat → Nat) → Value) (BS : (Nat → Nat) → Array Value) (N tk : Nat) : Sc :=
  sS [4, 4, 9, 10, 9] (.call (.builtin "list.__add__") ⟨[.ref rw, .ref bk], []⟩) [6, 7] [(rw, lisO rr re), (bk, lisO bb be)] 0 0 (fun v1 => ⟨.ok (.ret (.ref (v1 0))), [], [(v1 0, lisO rb 0)]⟩) 0 fun v1 n1 tk1 =>
  sS [] (.call (.builtin "str.join") ⟨[.str "" (tk + 0), .ref (v1 0)], []⟩) [8] [(v1 0, lisO rb 0)] 0 0 (fun v2 => ⟨.ok (.ret (.str J1 (v2 0))), [], []⟩) 0 fun v2 n2 tk2 =>
  sS [4, 4, 8, 8, 8] (.call (.builtin "list.__getitem__") ⟨[.ref wl, .ref (n2 + 0)], []⟩) [5, 9] [(wl, lisO ws we), (n2 + 0, slcO .none .none (.int (-1) (tk2 + 2)))] 0 0 (fun v3 => ⟨.ok (.ret (.ref (v3 0))), [], [(v3 0, lisO wr 0)]⟩) 1 fun v3 n3 tk3 =>
  sS [8, 13, 8] (.call (.builtin "list.__add__") ⟨[.ref wl, .ref (v3 0)], []⟩) [5, 10] [(wl, lisO ws we), (v3 0, lisO wr 0)] 0 0 (fun v4 => ⟨.ok (.ret (.ref (v4 0))), [], [(v4 0, lisO ww 0)]⟩) 0 fun v4 n4 tk4 =>
  sS [14, 14, 14, 15] (.compStart (lcB K P) 0 (.ref (n4 + 0)) (.ref (n4 + 1)) (compE (lcB K P) (envC K P 216 L) (n4 + 2))) [11, 13, 14, 12] [(v4 0, lisO ww 0), (n4 + 1, lisO #[] 0), (n4 + 2, dic1 P "word" .n), (n4 + 0, litO (v4 0) 0)] 50 200 (fun v5 => ⟨.ok .next, [lisO ww 0, lisO (BS v5) (v5 0), dic1 P "word" (.y (v5 4) (X v5)), lendO nl2], []⟩) 3 fun v5 n5 tk5 =>
  sS [17, 17, 17] (.call (.builtin "str.join") ⟨[.str "" (tk2 + 0), .ref (n4 + 1)], []⟩) [13] [(n4 + 1, lisO (BS v5) (v5 0))] 0 0 (fun v6 => ⟨.ok (.ret (.str J2 (v6 0))), [], []⟩) 0 fun v6 n6 tk6 =>
  sA [] 0 (.bool (J1.cps.toList != J2.cps.toList)) (.bool false) <|
  sF [] (.ok .next) [0, 1, 2, 3, 4, 5, 6, 7] [(sc, lisO ss se), (L, frmO #[dEnt P "script" s0 (.ref sc), dEnt P "width" s1 (.int W wt), dEnt P "words" s2 (.ref wl), dEnt P "rows" s3 (.ref rw), dEnt P "back" s4 (.ref bk)] 5), (L + 1, celO (some (.ref nl))), (L + 2, celO (none)), (nl, lisO ns ne), (wl, lisO ws we), (rw, lisO rr re), (bk, lisO bb be)] 0 0
noncomputable def ok_g6 (K : Params → KT) : Prop := ∀ P sc se L s0 s1 s2 s3 s4 wt nl ne wl we rw re bk be nl2 W J1 J2 ss ns ws rr bb rb wr ww X BS N tk,
  RunsA K P 100 350 4000 (fExecs [stmtOf K P 216 5] (envC K P 216 L) >>= flFin) [(sc, lisO ss se), (L, frmO #[dEnt P "script" s0 (.ref sc), dEnt P "width" s1 (.int W wt), dEnt P "words" s2 (.ref wl), dEnt P "rows" s3 (.ref rw), dEnt P "back" s4 (.ref bk)] 5), (L + 1, celO (some (.ref nl))), (L + 2, celO (none)), (nl, lisO ns ne), (wl, lisO ws we), (rw, lisO rr re), (bk, lisO bb be)] N tk (sc_g6 K P sc se L s0 s1 s2 s3 s4 wt nl ne wl we rw re bk be nl2 W J1 J2 ss ns ws rr bb rb wr ww X BS N tk)
noncomputable def sc_g7 (K : Params → KT) (P : Params) (sc se L s0 s1 s2 s3 s4 wt nl ne wl we rw re bk be : Nat) (W : Int) (ss ns ws rr bb : Array Value) (nl2 : Nat) (c : Int) (SS : (Nat → Nat) → Array Value) (X : (Nat → Nat) → Value) (DD : (Nat → Nat) → Array Value) (NEWS : (Nat → Nat) → List Ent) (N tk : Nat) : Sc :=
  sS [0, 4, 8, 8, 8, 11] (.compStart (lcS K P) 0 (.ref (N + 0)) (.ref (N + 1)) (compE (lcS K P) (envC K P 216 L) (N + 2))) [5, 9, 10, 8] [(wl, lisO ws we), (N + 1, lisO #[] 0), (N + 2, dic1 P "word" .n), (N + 0, litO wl 0)] 50 200 (fun v1 => ⟨.ok .next, [lisO ws we, lisO (SS v1) (v1 0), dic1 P "word" (.y (v1 4) (X v1)), lendO nl2], []⟩) 3 fun v1 n1 tk1 =>
  sS [13, 13, 13, 4, 0] (.call (.ref 211) ⟨[.ref (N + 1), .int W wt], []⟩) [9] [(N + 1, lisO (SS v1) (v1 0))] 180 650 (fun v2 => ⟨.ok (.ret (.ref (v2 0))), [], (v2 0, tupO #[.int c (v2 4), .ref (v2 8)]) :: (v2 8, lisO (DD v2) (v2 12)) :: NEWS v2⟩) 0 fun v2 n2 tk2 =>
  sH [] (.ok (.ret (.ref (v2 0)))) (app [(sc, lisO ss se), (L, frmO #[dEnt P "script" s0 (.ref sc), dEnt P "width" s1 (.int W wt), dEnt P "words" s2 (.ref wl), dEnt P "rows" s3 (.ref rw), dEnt P "back" s4 (.ref bk)] 5), (L + 1, celO (some (.ref nl))), (L + 2, celO (none)), (nl, lisO ns ne), (wl, lisO ws we), (rw, lisO rr re), (bk, lisO bb be), (N + 0, lendO nl2), (N + 1, lisO (SS v1) (v1 0)), (N + 2, dicO #[] 2), (v2 0, tupO #[.int c (v2 4), .ref (v2 8)]), (v2 8, lisO (DD v2) (v2 12))] (NEWS v2)) 0 0
noncomputable def ok_g7 (K : Params → KT) : Prop := ∀ P sc se L s0 s1 s2 s3 s4 wt nl ne wl we rw re bk be W ss ns ws rr bb nl2 c SS X DD NEWS N tk,
  RunsA K P 220 800 4000 (fEval (valOf (stmtOf K P 216 6)) (envC K P 216 L) >>= asFin) [(sc, lisO ss se), (L, frmO #[dEnt P "script" s0 (.ref sc), dEnt P "width" s1 (.int W wt), dEnt P "words" s2 (.ref wl), dEnt P "rows" s3 (.ref rw), dEnt P "back" s4 (.ref bk)] 5), (L + 1, celO (some (.ref nl))), (L + 2, celO (none)), (nl, lisO ns ne), (wl, lisO ws we), (rw, lisO rr re), (bk, lisO bb be)] N tk (sc_g7 K P sc se L s0 s1 s2 s3 s4 wt nl ne wl we rw re bk be W ss ns ws rr bb nl2 c SS X DD NEWS N tk)
noncomputable def sc_g7b (K : Params → KT) (P : Params) (sc se L s0 s1 s2 s3 s4 wt nl ne wl we rw re bk be : Nat) (W : Int) (ss ns ws rr bb : Array Value) (c : Int) (tu du ct de : Nat) (dd : Array Value) (N tk : Nat) : Sc :=
  sF [11, 11, 11, 11, 13, 13, 13, 13, 13, 11, 13, 13, 13, 13, 13, 13, 11, 13, 13, 13, 13, 13, 13, 11, 13, 13, 15, 6, 6, 4, 4] (.ok .next) [0, 1, 2, 3, 4, 5, 6, 7, 9] [(sc, lisO ss se), (L, frmO #[dEnt P "script" s0 (.ref sc), dEnt P "width" s1 (.int W wt), dEnt P "words" s2 (.ref wl), dEnt P "rows" s3 (.ref rw), dEnt P "back" s4 (.ref bk), dEnt P "due" (tk + 0) (.ref du)] 6), (L + 1, celO (some (.ref nl))), (L + 2, celO (some (.int c ct))), (nl, lisO ns ne), (wl, lisO ws we), (rw, lisO rr re), (bk, lisO bb be), (du, lisO dd de)] 3 1
noncomputable def ok_g7b (K : Params → KT) : Prop := ∀ P sc se L s0 s1 s2 s3 s4 wt nl ne wl we rw re bk be W ss ns ws rr bb c tu du ct de dd N tk,
  RunsA K P 20 80 4000 (fAssign (asT (stmtOf K P 216 6)) (envC K P 216 L) (.ref tu) >>= unitFin) [(sc, lisO ss se), (L, frmO #[dEnt P "script" s0 (.ref sc), dEnt P "width" s1 (.int W wt), dEnt P "words" s2 (.ref wl), dEnt P "rows" s3 (.ref rw), dEnt P "back" s4 (.ref bk)] 5), (L + 1, celO (some (.ref nl))), (L + 2, celO (none)), (nl, lisO ns ne), (wl, lisO ws we), (rw, lisO rr re), (bk, lisO bb be), (tu, tupO #[.int c ct, .ref du]), (du, lisO dd de)] N tk (sc_g7b K P sc se L s0 s1 s2 s3 s4 wt nl ne wl we rw re bk be W ss ns ws rr bb c tu du ct de dd N tk)
noncomputable def sc_g8l (K : Params → KT) (P : Params) (sc se L s0 s1 s2 s3 s4 s5 wt nl ne wl we rw re bk be du de ct : Nat) (W c : Int) (ss ns ws rr bb dd : Array Value) (n1_ n2_ : Int) (N tk : Nat) : Sc :=
  sS [0, 0, 4] (.call (.builtin "len") ⟨[.ref rw], []⟩) [6] [(rw, lisO rr re)] 5 20 (fun v1 => ⟨.ok (.ret (.int n1_ (v1 0))), [], []⟩) 0 fun v1 n1 tk1 =>
  sS [0, 0, 4] (.call (.builtin "len") ⟨[.ref bk], []⟩) [7] [(bk, lisO bb be)] 5 20 (fun v2 => ⟨.ok (.ret (.int n2_ (v2 0))), [], []⟩) 0 fun v2 n2 tk2 =>
  sF [] (.ok (.ret (.ref (n2 + 0)))) [0, 1, 2, 3, 4, 5, 6, 7, 8, 9] [(sc, lisO ss se), (L, frmO #[dEnt P "script" s0 (.ref sc), dEnt P "width" s1 (.int W wt), dEnt P "words" s2 (.ref wl), dEnt P "rows" s3 (.ref rw), dEnt P "back" s4 (.ref bk), dEnt P "due" s5 (.ref du)] 6), (L + 1, celO (some (.ref nl))), (L + 2, celO (some (.int c ct))), (nl, lisO ns ne), (wl, lisO ws we), (rw, lisO rr re), (bk, lisO bb be), (du, lisO dd de), (n2 + 0, lisO #[.int n1_ (v1 0), .int n2_ (v2 0)] 0)] 1 0
noncomputable def ok_g8l (K : Params → KT) : Prop := ∀ P sc se L s0 s1 s2 s3 s4 s5 wt nl ne wl we rw re bk be du de ct W c ss ns ws rr bb dd n1_ n2_ N tk,
  RunsA K P 30 120 4000 (fEval (ifL (stmtOf K P 216 7)) (envC K P 216 L) >>= asFin) [(sc, lisO ss se), (L, frmO #[dEnt P "script" s0 (.ref sc), dEnt P "width" s1 (.int W wt), dEnt P "words" s2 (.ref wl), dEnt P "rows" s3 (.ref rw), dEnt P "back" s4 (.ref bk), dEnt P "due" s5 (.ref du)] 6), (L + 1, celO (some (.ref nl))), (L + 2, celO (some (.int c ct))), (nl, lisO ns ne), (wl, lisO ws we), (rw, lisO rr re), (bk, lisO bb be), (du, lisO dd de)] N tk (sc_g8l K P sc se L s0 s1 s2 s3 s4 s5 wt nl ne wl we rw re bk be du de ct W c ss ns ws rr bb dd n1_ n2_ N tk)
noncomputable def sc_g8r (K : Params → KT) (P : Params) (sc se L s0 s1 s2 s3 s4 s5 wt nl ne wl we rw re bk be du de ct : Nat) (W c : Int) (ss ns ws rr bb dd : Array Value) (q : Nat) (qo : Obj) (N tk : Nat) : Sc :=
  sF [6, 6] (.ok (.ret (.ref (N + 0)))) [0, 1, 2, 3, 4, 5, 6, 7, 8, 9, 10] [(sc, lisO ss se), (L, frmO #[dEnt P "script" s0 (.ref sc), dEnt P "width" s1 (.int W wt), dEnt P "words" s2 (.ref wl), dEnt P "rows" s3 (.ref rw), dEnt P "back" s4 (.ref bk), dEnt P "due" s5 (.ref du)] 6), (L + 1, celO (some (.ref nl))), (L + 2, celO (some (.int c ct))), (nl, lisO ns ne), (wl, lisO ws we), (rw, lisO rr re), (bk, lisO bb be), (du, lisO dd de), (q, qo), (N + 0, lisO #[.int c ct, .int c ct] 0)] 1 0
noncomputable def ok_g8r (K : Params → KT) : Prop := ∀ P sc se L s0 s1 s2 s3 s4 s5 wt nl ne wl we rw re bk be du de ct W c ss ns ws rr bb dd q qo N tk,
  RunsA K P 30 120 4000 (fEval (ifR (stmtOf K P 216 7)) (envC K P 216 L) >>= asFin) [(sc, lisO ss se), (L, frmO #[dEnt P "script" s0 (.ref sc), dEnt P "width" s1 (.int W wt), dEnt P "words" s2 (.ref wl), dEnt P "rows" s3 (.ref rw), dEnt P "back" s4 (.ref bk), dEnt P "due" s5 (.ref du)] 6), (L + 1, celO (some (.ref nl))), (L + 2, celO (some (.int c ct))), (nl, lisO ns ne), (wl, lisO ws we), (rw, lisO rr re), (bk, lisO bb be), (du, lisO dd de), (q, qo)] N tk (sc_g8r K P sc se L s0 s1 s2 s3 s4 s5 wt nl ne wl we rw re bk be du de ct W c ss ns ws rr bb dd q qo N tk)
noncomputable def sc_g9 (K : Params → KT) (P : Params) (sc se L s0 s1 s2 s3 s4 s5 wt nl ne wl we rw re bk be du de ct : Nat) (W c : Int) (ss ns ws rr bb dd : Array Value) (PB PR : (Nat → Nat) → Array Value) (LS : (Nat → Nat) → Array Value) (X : (Nat → Nat) → Value) (nl2 : Nat) (N tk : Nat) : Sc :=
  sS [0, 4, 0] (.call (.ref 194) ⟨[.ref bk], []⟩) [7] [(bk, lisO bb be)] 90 350 (fun v1 => ⟨.ok (.ret (.ref (v1 4))), [], [(v1 4, lisO (PB v1) (v1 0))]⟩) 0 fun v1 n1 tk1 =>
  sS [12, 12, 12] (.call (.builtin "list.__getitem__") ⟨[.ref (v1 4), .ref (n1 + 0)], []⟩) [9, 10] [(v1 4, lisO (PB v1) (v1 0)), (n1 + 0, slcO .none .none (.int (-1) (tk1 + 1)))] 0 0 (fun v2 => ⟨.ok (.ret (.ref (v2 0))), [], [(v2 0, lisO (PR v1) 0)]⟩) 1 fun v2 n2 tk2 =>
  sS [14, 14, 14, 15] (.compStart (lcL K P) 0 (.ref (n2 + 0)) (.ref (n2 + 1)) (compE (lcL K P) (envC K P 216 L) (n2 + 2))) [3, 11, 13, 14, 12] [(L + 2, celO (some (.int c ct))), (v2 0, lisO (PR v1) 0), (n2 + 1, lisO #[] 0), (n2 + 2, dic1 P "k" .n), (n2 + 0, litO (v2 0) 0)] 50 200 (fun v3 => ⟨.ok .next, [celO (some (.int c ct)), lisO (PR v1) 0, lisO (LS v3) (v3 0), dic1 P "k" (.y (v3 4) (X v1)), lendO nl2], []⟩) 3 fun v3 n3 tk3 =>
  sF [4, 4, 17, 17, 17] (.ok .next) [0, 1, 2, 3, 4, 5, 6, 7, 8, 13] [(sc, lisO ss se), (L, frmO #[dEnt P "script" s0 (.ref sc), dEnt P "width" s1 (.int W wt), dEnt P "words" s2 (.ref wl), dEnt P "rows" s3 (.ref rw), dEnt P "back" s4 (.ref bk), dEnt P "due" s5 (.ref du), dEnt P "last" (tk3 + 0) (.ref (n2 + 1))] 7), (L + 1, celO (some (.ref nl))), (L + 2, celO (some (.int c ct))), (nl, lisO ns ne), (wl, lisO ws we), (rw, lisO rr re), (bk, lisO bb be), (du, lisO dd de), (n2 + 1, lisO (LS v3) (v3 0))] 0 1
noncomputable def ok_g9 (K : Params → KT) : Prop := ∀ P sc se L s0 s1 s2 s3 s4 s5 wt nl ne wl we rw re bk be du de ct W c ss ns ws rr bb dd PB PR LS X nl2 N tk,
  RunsA K P 120 450 4000 (fExecs [stmtOf K P 216 8] (envC K P 216 L) >>= flFin) [(sc, lisO ss se), (L, frmO #[dEnt P "script" s0 (.ref sc), dEnt P "width" s1 (.int W wt), dEnt P "words" s2 (.ref wl), dEnt P "rows" s3 (.ref rw), dEnt P "back" s4 (.ref bk), dEnt P "due" s5 (.ref du)] 6), (L + 1, celO (some (.ref nl))), (L + 2, celO (some (.int c ct))), (nl, lisO ns ne), (wl, lisO ws we), (rw, lisO rr re), (bk, lisO bb be), (du, lisO dd de)] N tk (sc_g9 K P sc se L s0 s1 s2 s3 s4 s5 wt nl ne wl we rw re bk be du de ct W c ss ns ws rr bb dd PB PR LS X nl2 N tk)
noncomputable def sc_ga (K : Params → KT) (P : Params) (sc se L s0 s1 s2 s3 s4 s5 s6 wt nl ne wl we rw re bk be du de ct la le : Nat) (W c : Int) (ss ns ws rr bb dd ll : Array Value) (N tk : Nat) : Sc :=
  sF [4] (.ok (.ret (.ref du))) [0, 1, 2, 3, 4, 5, 6, 7, 8, 9] [(sc, lisO ss se), (L, frmO #[dEnt P "script" s0 (.ref sc), dEnt P "width" s1 (.int W wt), dEnt P "words" s2 (.ref wl), dEnt P "rows" s3 (.ref rw), dEnt P "back" s4 (.ref bk), dEnt P "due" s5 (.ref du), dEnt P "last" s6 (.ref la)] 7), (L + 1, celO (some (.ref nl))), (L + 2, celO (some (.int c ct))), (nl, lisO ns ne), (wl, lisO ws we), (rw, lisO rr re), (bk, lisO bb be), (du, lisO dd de), (la, lisO ll le)] 0 0
noncomputable def ok_ga (K : Params → KT) : Prop := ∀ P sc se L s0 s1 s2 s3 s4 s5 s6 wt nl ne wl we rw re bk be du de ct la le W c ss ns ws rr bb dd ll N tk,
  RunsA K P 30 120 4000 (fEval (retL (stmtOf K P 216 9)) (envC K P 216 L) >>= asFin) [(sc, lisO ss se), (L, frmO #[dEnt P "script" s0 (.ref sc), dEnt P "width" s1 (.int W wt), dEnt P "words" s2 (.ref wl), dEnt P "rows" s3 (.ref rw), dEnt P "back" s4 (.ref bk), dEnt P "due" s5 (.ref du), dEnt P "last" s6 (.ref la)] 7), (L + 1, celO (some (.ref nl))), (L + 2, celO (some (.int c ct))), (nl, lisO ns ne), (wl, lisO ws we), (rw, lisO rr re), (bk, lisO bb be), (du, lisO dd de), (la, lisO ll le)] N tk (sc_ga K P sc se L s0 s1 s2 s3 s4 s5 s6 wt nl ne wl we rw re bk be du de ct la le W c ss ns ws rr bb dd ll N tk)
noncomputable def sc_gb (K : Params → KT) (P : Params) (sc se L s0 s1 s2 s3 s4 s5 s6 wt nl ne wl we rw re bk be du de ct la le : Nat) (W c : Int) (ss ns ws rr bb dd ll : Array Value) (AC : (Nat → Nat) → Array Value) (PP : (Nat → Nat) → Array Value) (X Y X2 Y2 : (Nat → Nat) → Value) (m1 m2 : Nat) (NEWS : (Nat → Nat) → List Ent) (N tk : Nat) : Sc :=
  sS [0, 0, 0, 4, 0] (.call (.ref 194) ⟨[.ref rw], []⟩) [6] [(rw, lisO rr re)] 90 350 (fun v1 => ⟨.ok (.ret (.ref (v1 4))), [], [(v1 4, lisO (PP v1) (v1 0))]⟩) 0 fun v1 n1 tk1 =>
  sS [4, 13, 13, 13, 14, 12, 12, 12, 15, 18, 18, 18, 18, 18, 18, 18, 18] (.compStart (lcZ K P) 0 (.ref (n1 + 4)) (.ref (n1 + 5)) (compE (lcZ K P) (envC K P 216 L) (n1 + 6))) [15, 13, 14, 11, 12, 10, 9, 16, 17] [(n1 + 4, zipO (n1 + 2) (n1 + 3)), (n1 + 2, tupO #[.ref (n1 + 0), .ref (n1 + 1)]), (n1 + 3, tupO #[.none, .none]), (n1 + 0, litO (v1 4) 0), (n1 + 1, litO la 0), (v1 4, lisO (PP v1) (v1 0)), (la, lisO ll le), (n1 + 5, lisO #[] 0), (n1 + 6, dicZ P .n)] 60 250 (fun v2 => ⟨.ok .next, [zipO (n1 + 2) (n1 + 3), tupO #[.ref (n1 + 0), .ref (n1 + 1)], tupO #[X v2, Y v2], lendO m1, litO la m2, lisO (PP v1) (v1 0), lisO ll le, lisO (AC v2) (v2 0), dicZ P (.y (v2 4) (X2 v2) (v2 8) (Y2 v2))], NEWS v2⟩) 7 fun v2 n2 tk2 =>
  sH [20, 20, 20, 20, 20, 20] (.ok (.ret (.ref (n1 + 5)))) (app [(sc, lisO ss se), (L, frmO #[dEnt P "script" s0 (.ref sc), dEnt P "width" s1 (.int W wt), dEnt P "words" s2 (.ref wl), dEnt P "rows" s3 (.ref rw), dEnt P "back" s4 (.ref bk), dEnt P "due" s5 (.ref du), dEnt P "last" s6 (.ref la)] 7), (L + 1, celO (some (.ref nl))), (L + 2, celO (some (.int c ct))), (nl, lisO ns ne), (wl, lisO ws we), (rw, lisO rr re), (bk, lisO bb be), (du, lisO dd de), (la, lisO ll le), (v1 4, lisO (PP v1) (v1 0)), (n1 + 0, lendO m1), (n1 + 1, litO la m2), (n1 + 2, tupO #[.ref (n1 + 0), .ref (n1 + 1)]), (n1 + 3, tupO #[X v2, Y v2]), (n1 + 4, zipO (n1 + 2) (n1 + 3)), (n1 + 5, lisO (AC v2) (v2 0)), (n1 + 6, dicO #[] 4)] (NEWS v2)) 0 0
noncomputable def ok_gb (K : Params → KT) : Prop := ∀ P sc se L s0 s1 s2 s3 s4 s5 s6 wt nl ne wl we rw re bk be du de ct la le W c ss ns ws rr bb dd ll AC PP X Y X2 Y2 m1 m2 NEWS N tk,
  RunsA K P 120 450 4000 (fEval (lcZ K P) (envC K P 216 L) >>= asFin) [(sc, lisO ss se), (L, frmO #[dEnt P "script" s0 (.ref sc), dEnt P "width" s1 (.int W wt), dEnt P "words" s2 (.ref wl), dEnt P "rows" s3 (.ref rw), dEnt P "back" s4 (.ref bk), dEnt P "due" s5 (.ref du), dEnt P "last" s6 (.ref la)] 7), (L + 1, celO (some (.ref nl))), (L + 2, celO (some (.int c ct))), (nl, lisO ns ne), (wl, lisO ws we), (rw, lisO rr re), (bk, lisO bb be), (du, lisO dd de), (la, lisO ll le)] N tk (sc_gb K P sc se L s0 s1 s2 s3 s4 s5 s6 wt nl ne wl we rw re bk be du de ct la le W c ss ns ws rr bb dd ll AC PP X Y X2 Y2 m1 m2 NEWS N tk)
structure OkLc (K : Params → KT) : Prop where
  lw : ok_lw K
  lwe : ok_lwe K
  lws : ok_lws K
  lb : ok_lb K
  lbe : ok_lbe K
  lbs : ok_lbs K
  ls : ok_ls K
  lse : ok_lse K
  lss : ok_lss K
  ll : ok_ll K
  lle : ok_lle K
  lls : ok_lls K
theorem intA_push (l : List Int) (f : Nat → Nat) (x : Int) (t : Nat) : (intA l f).push (.int x t) = intA (l ++ [x]) (fun i => if i = l.length then t else f i) := by
  apply Array.ext'
  apply List.ext_getElem?
  intro i
  rw [Array.getElem?_toList, Array.getElem?_toList, intA_get, Array.getElem?_push, intA_size]
  by_cases h : i = l.length
  · subst h; simp
  · rw [if_neg h, intA_get]
    by_cases h2 : i < l.length
    · rw [List.getElem?_append_left h2, if_neg h]
    · have h3 : l.length < i := ar178 h2 h
      rw [List.getElem?_eq_none (ar179 h3), List.getElem?_eq_none (by simp; exact ar75 h3)]
      rfl
theorem intA_nil (f : Nat → Nat) : intA [] f = #[] := Array.eq_empty_of_size_eq_zero (intA_size [] f)
theorem strA_nil (f : Nat → Nat) : strA [] f = #[] := Array.eq_empty_of_size_eq_zero (strA_size [] f)
noncomputable def roL {α : Type} (t : Nat) (o : RO) (l : List α) (x : Value) : RO := if l.length = 0 then o else .y t x
theorem drop_facts {α : Type} {ls l : List α} {x : α} {i : Nat} (hd : ls.drop i = x :: l) : i < ls.length ∧ ls[i]? = some x ∧ ls.drop (i + 1) = l := by
  refine ⟨?_, ?_, ?_⟩
  · have : (ls.drop i).length = l.length + 1 := by rw [hd]; rfl
    rw [List.length_drop] at this
    exact ar72 this
  · have := congrArg (fun l => l[0]?) hd
    simpa using this
  · have := congrArg (fun l => l.drop 1) hd
    simpa [List.drop_drop, Nat.add_comm] using this
theorem drop_last {α : Type} {ls l : List α} {i : Nat} (hd : ls.drop (i + 1) = l) (hi : i < ls.length) (h0 : l.length = 0) : i = ls.length - 1 := by
  have hl : l = [] := List.eq_nil_of_length_eq_zero h0
  rw [hl] at hd
  have := List.drop_eq_nil_iff.mp hd
  exact ar78 hi this
theorem str_fits {w : Str} (h : w.length ≤ 900) : ((" " : Str) ++ w).length ≤ sizeLine := by
  have e : ((" " : Str) ++ w).length = 1 + w.length := by
    rw [strLen_append]; rfl
  rw [e]
  exact Nat.le_trans (show 1 + w.length ≤ 1000 by exact ar283 h) (by decide)
section
variable {K : Params → KT} [ok : Nonempty (KOk K)] {P : Params} {dr : Source → Nat → Nat} {fz : List Ent}
theorem con_lenstr {w : Str} {t : Nat} (h : w.length ≤ 100000) : CON K P dr fz (.call (.builtin "len") ⟨[.str w t], []⟩) [] 5 20 (fun v => ⟨.ok (.ret (.int (w.length : Int) (v 0))), [], []⟩) := by
  intro A h' g d tk os R room hi hB has hlo nd hR
  refine code_function PySem.kind_len PySem.plain_len PySem.entry_len (PySem.args_len1 _) ?_
  unfold Builtin.«len»
  refine wpAny_bind (m := oneArg "len" _) (wpAny_pure ?_)
  refine wpAny_bind (m := callSpecial? (.str w t) (Str.ofString "__len__")) (wpAny_callSpecial?_slot (name := Str.ofString "__len__") (typeIs_str _ w t) PyProof.Rows.slot_str_len
    (wpAny_call_entry PyProof.Rows.slot_str_len (typeIs_str _ w t) PyProof.Rows.entry_str_len ?_ (PyProof.Rows.args_str_len _)))
  show wpAny _ _ (retInt w.length) _ _ _
  refine wpAny_bind (wpAny_mkInt (wpAny_pure ⟨_, rfl, ?_⟩))
  refine wpAny_bind (wpAny_holding (wpAny_pure ?_))
  refine wpAny_bind (wpAny_letGo ?_)
  show wpAny _ _ (if ((w.length : Nat) : Int) < 0 then _ else _) _ _ _
  rw [if_neg (ar153)]
  show wpAny _ _ (if ((w.length : Nat) : Int) ≥ 2 ^ 63 then _ else _) _ _ _
  rw [if_neg (ar195 h)]
  exact wpAny_bind (wpAny_mkInt (wpAny_pure (hR (fun _ => tk + 1) h' g _ hi hB (Nat.le_refl _) trivial newOk0 (fun b o e _ _ => e))))
noncomputable abbrev lbCode (K : Params → KT) (P : Params) (it acc L C : Nat) : Code := .compLoop (lcB K P) 0 (.ref it) (.ref acc) (compE (lcB K P) (envC K P 216 L) C)
noncomputable abbrev lbE (P : Params) (wl we L acc eo C it i : Nat) (ws os : Array Value) (o : RO) : List Ent := [(wl, lisO ws we), (acc, lisO os eo), (C, dic1 P "word" o), (it, litO wl i)]
theorem con_lb (o : OkLc K) {wl we L acc C it : Nat} {ws : List Str} {wf : Nat → Nat} (hw : ∀ w ∈ ws, (w.length == 0) = false ∧ w.length ≤ 900) (hn : ws.length ≤ 900) :
    ∀ (l : List Str) (i eo : Nat) (os : List Str) (g : Nat → Nat) (ro : RO), ws.drop i = l → i ≤ ws.length → os.length ≤ i →
      CON K P dr fz (lbCode K P it acc L C) (lbE P wl we L acc eo C it i (strA ws wf) (strA os g) ro) 40 150
        (fun v => ⟨.ok .next, [lisO (strA ws wf) we, lisO (strA (os ++ l.map (fun w => (" " : Str) ++ w)) (fun j => v (j + 20))) (v 0), dic1 P "word" (roL (v 4) ro l (.str (ws.getD (ws.length - 1) "") (wf (ws.length - 1)))), lendO ws.length], []⟩)
  | [], i, eo, os, g, ro, hd, hi, hs => by
    have hi2 : i = ws.length := Nat.le_antisymm hi (List.drop_eq_nil_iff.mp hd)
    have hnx : (strA ws wf)[i]? = none := by rw [strA_get, List.getElem?_eq_none (ar71 hi2)]; rfl
    refine con_by (fun N tk => o.lbe P wl we L acc eo C it i (strA ws wf) (strA os g) ro N tk) fun A h d tk os' R room hi' hlt hlo nd hR => ?_
    refine ⟨con_bi bi_next (con_next_end hnx), fun v1 n1 tk1 q1 q2 h' g' hi' hB' hs' has' hk' => ?_⟩
    have hs2 : h'.objs.size = n1 := by simpa using hs'
    refine hR (fun i => if i = 0 then eo else g (i - 20)) h' g' _ hi' hB' (ar52 q1 hs2) ⟨has_nth has' 0 rfl, ?_, has_nth has' 2 rfl, by rw [← hi2]; exact has_nth has' 3 rfl, trivial⟩ newOk0 hk'
    have z : h'.get? acc = some (lisO (strA os g) eo) := has_nth has' 1 rfl
    simpa using z
  | w :: l, i, eo, os, g, ro, hd, hi, hs => by
    obtain ⟨hil, hx, hd'⟩ := drop_facts hd
    have hw' := hw w (List.mem_of_getElem? hx)
    have hnx : (strA ws wf)[i]? = some (.str w (wf i)) := by rw [strA_get, hx]; rfl
    intro A h g0 d tk os' R room hi0 hB has hlo nd hR
    refine code_run (o.lb P wl we L acc eo C it i (strA ws wf) (strA os g) ro w ((" " : Str) ++ w) (wf i) h.objs.size tk) room hi0 hB has hlo nd
      ⟨con_bi bi_next (con_next_item hnx), fun v1 n1 tk1 q1 q2 => ⟨con_stradd (by decide) hw'.1 (str_fits hw'.2), fun v2 n2 tk2 q4 q5 => ⟨con_bi bi_append (con_append (by rw [strA_size]; exact Nat.le_trans (show os.length ≤ 1000 by exact ar284 hil hn hs) (by decide))), fun v3 n3 tk3 q7 q8 h' g' hi' hB' hs' has' hk' => ?_⟩⟩⟩
    have hs2 : h'.objs.size = n3 := by simpa using hs'
    rw [strA_push] at has'
    refine con_lb o hw hn l (i + 1) (eo + 1) (os ++ [((" " : Str) ++ w)]) _ (ro.set (tk1 + 0) (.str w (wf i))) hd' (ar75 hil) (by simp; omega) A h' g' d _ os' R room hi' hB' has' (own_by (own_ads (pre := lbE P wl we L acc eo C it i (strA ws wf) (strA os g) ro) hlo)) nd fun v h2 g2 tk2' hi2 hB2 hs3 hz hn2 hk2 => ?_
    obtain ⟨t', ht'⟩ : ∃ t', ro.set (tk1 + 0) (.str w (wf i)) = .y t' (.str w (wf i)) := by cases ro <;> exact ⟨_, rfl⟩
    refine hR (fun i => if i = 4 then (if l.length = 0 then t' else v 4) else v i) h2 g2 tk2' hi2 hB2 (Nat.le_trans (show h.objs.size ≤ h'.objs.size by exact ar98 q1 q4 q7 hs2) hs3) ?_ newOk0 (keep_trans hk' hk2)
    have e1 : os ++ (w :: l).map (fun w => (" " : Str) ++ w) = (os ++ [((" " : Str) ++ w)]) ++ l.map (fun w => (" " : Str) ++ w) := by simp
    have e2 : roL (if l.length = 0 then t' else v 4) ro (w :: l) (.str (ws.getD (ws.length - 1) "") (wf (ws.length - 1))) = roL (v 4) (ro.set (tk1 + 0) (.str w (wf i))) l (.str (ws.getD (ws.length - 1) "") (wf (ws.length - 1))) := by
      unfold roL
      rw [if_neg (by simp)]
      by_cases h0 : l.length = 0
      · rw [if_pos h0, if_pos h0, ht']
        have hi3 := drop_last hd' hil h0
        have e5 : ws.getD (ws.length - 1) "" = w := by rw [← hi3]; simp [List.getD_eq_getElem?_getD, hx]
        rw [e5, ← hi3]
      · rw [if_neg h0, if_neg h0]
    have e3 : (fun j : Nat => (fun i => if i = 4 then (if l.length = 0 then t' else v 4) else v i) (j + 20)) = fun j => v (j + 20) := by
      funext j
      simp only []
      rw [if_neg (ar285)]
    show HasZ h2 _ [_, lisO (strA (os ++ (w :: l).map (fun w => (" " : Str) ++ w)) _) (v 0), dic1 P "word" (roL (if l.length = 0 then t' else v 4) ro (w :: l) (.str (ws.getD (ws.length - 1) "") (wf (ws.length - 1)))), _]
    rw [e1, e2, e3]
    exact hasZ_same (pre' := lbE P wl we L acc (eo + 1) C it (i + 1) (strA ws wf) _ (ro.set (tk1 + 0) (.str w (wf i)))) rfl rfl hz
theorem con_lbs (o : OkLc K) {wl we L acc C it : Nat} {ws : List Str} {wf : Nat → Nat} (hw : ∀ w ∈ ws, (w.length == 0) = false ∧ w.length ≤ 900) (hn : ws.length ≤ 900) (hp : 0 < ws.length) :
    CON K P dr fz (.compStart (lcB K P) 0 (.ref it) (.ref acc) (compE (lcB K P) (envC K P 216 L) C)) (lbE P wl we L acc 0 C it 0 (strA ws wf) #[] .n) 50 200
        (fun v => ⟨.ok .next, [lisO (strA ws wf) we, lisO (strA (ws.map (fun w => (" " : Str) ++ w)) (fun j => v (j + 20))) (v 0), dic1 P "word" (.y (v 4) (.str (ws.getD (ws.length - 1) "") (wf (ws.length - 1)))), lendO ws.length], []⟩) := by
  refine con_mono (dep := 40) (un := 150) (con_again (fun N tk => o.lbs P wl we L acc 0 C it 0 (strA ws wf) #[] .n N tk) (fun _ _ => rfl) ?_) (ar85) (ar286)
  have z := con_lb (P := P) (dr := dr) (fz := fz) o (wl := wl) (we := we) (L := L) (acc := acc) (C := C) (it := it) (wf := wf) hw hn ws 0 0 [] (fun _ => 0) .n rfl (ar80) (by simp)
  rw [strA_nil] at z
  have e : ∀ v : Nat → Nat, roL (v 4) .n ws (.str (ws.getD (ws.length - 1) "") (wf (ws.length - 1))) = .y (v 4) (.str (ws.getD (ws.length - 1) "") (wf (ws.length - 1))) := fun v => by
    unfold roL
    rw [if_neg (ar221 hp)]
  simp only [e, List.nil_append] at z
  exact z
noncomputable abbrev lsCode (K : Params → KT) (P : Params) (it acc L C : Nat) : Code := .compLoop (lcS K P) 0 (.ref it) (.ref acc) (compE (lcS K P) (envC K P 216 L) C)
noncomputable abbrev lsE (P : Params) (wl we L acc eo C it i : Nat) (ws os : Array Value) (o : RO) : List Ent := [(wl, lisO ws we), (acc, lisO os eo), (C, dic1 P "word" o), (it, litO wl i)]
theorem con_ls (o : OkLc K) {wl we L acc C it : Nat} {ws : List Str} {wf : Nat → Nat} (hw : ∀ w ∈ ws, w.length ≤ 900) (hn : ws.length ≤ 900) :
    ∀ (l : List Str) (i eo : Nat) (os : List Int) (g : Nat → Nat) (ro : RO), ws.drop i = l → i ≤ ws.length → os.length ≤ i →
      CON K P dr fz (lsCode K P it acc L C) (lsE P wl we L acc eo C it i (strA ws wf) (intA os g) ro) 40 150
        (fun v => ⟨.ok .next, [lisO (strA ws wf) we, lisO (intA (os ++ l.map (fun w => 1 + (w.length : Int))) (fun j => v (j + 20))) (v 0), dic1 P "word" (roL (v 4) ro l (.str (ws.getD (ws.length - 1) "") (wf (ws.length - 1)))), lendO ws.length], []⟩)
  | [], i, eo, os, g, ro, hd, hi, hs => by
    have hi2 : i = ws.length := Nat.le_antisymm hi (List.drop_eq_nil_iff.mp hd)
    have hnx : (strA ws wf)[i]? = none := by rw [strA_get, List.getElem?_eq_none (ar71 hi2)]; rfl
    refine con_by (fun N tk => o.lse P wl we L acc eo C it i (strA ws wf) (intA os g) ro N tk) fun A h d tk os' R room hi' hlt hlo nd hR => ?_
    refine ⟨con_bi bi_next (con_next_end hnx), fun v1 n1 tk1 q1 q2 h' g' hi' hB' hs' has' hk' => ?_⟩
    have hs2 : h'.objs.size = n1 := by simpa using hs'
    refine hR (fun i => if i = 0 then eo else g (i - 20)) h' g' _ hi' hB' (ar52 q1 hs2) ⟨has_nth has' 0 rfl, ?_, has_nth has' 2 rfl, by rw [← hi2]; exact has_nth has' 3 rfl, trivial⟩ newOk0 hk'
    have z : h'.get? acc = some (lisO (intA os g) eo) := has_nth has' 1 rfl
    simpa using z
  | w :: l, i, eo, os, g, ro, hd, hi, hs => by
    obtain ⟨hil, hx, hd'⟩ := drop_facts hd
    have hw' := hw w (List.mem_of_getElem? hx)
    have hnx : (strA ws wf)[i]? = some (.str w (wf i)) := by rw [strA_get, hx]; rfl
    intro A h g0 d tk os' R room hi0 hB has hlo nd hR
    refine code_run (o.ls P wl we L acc eo C it i (strA ws wf) (intA os g) ro w (wf i) (w.length : Int) h.objs.size tk) room hi0 hB has hlo nd
      ⟨con_bi bi_next (con_next_item hnx), fun v1 n1 tk1 q1 q2 => ⟨con_lenstr (Nat.le_trans hw' (by decide)), fun v2 n2 tk2 q4 q5 => ⟨rfl, ⟨con_bi bi_append (con_append (by rw [intA_size]; exact Nat.le_trans (show os.length ≤ 1000 by exact ar284 hil hn hs) (by decide))), fun v3 n3 tk3 q7 q8 h' g' hi' hB' hs' has' hk' => ?_⟩⟩⟩⟩
    have hs2 : h'.objs.size = n3 := by simpa using hs'
    rw [intA_push] at has'
    refine con_ls o hw hn l (i + 1) (eo + 1) (os ++ [1 + (w.length : Int)]) _ (ro.set (tk1 + 0) (.str w (wf i))) hd' (ar75 hil) (by simp; omega) A h' g' d _ os' R room hi' hB' has' (own_by (own_ads (pre := lsE P wl we L acc eo C it i (strA ws wf) (intA os g) ro) hlo)) nd fun v h2 g2 tk2' hi2 hB2 hs3 hz hn2 hk2 => ?_
    obtain ⟨t', ht'⟩ : ∃ t', ro.set (tk1 + 0) (.str w (wf i)) = .y t' (.str w (wf i)) := by cases ro <;> exact ⟨_, rfl⟩
    refine hR (fun i => if i = 4 then (if l.length = 0 then t' else v 4) else v i) h2 g2 tk2' hi2 hB2 (Nat.le_trans (show h.objs.size ≤ h'.objs.size by exact ar98 q1 q4 q7 hs2) hs3) ?_ newOk0 (keep_trans hk' hk2)
    have e1 : os ++ (w :: l).map (fun w => 1 + (w.length : Int)) = (os ++ [1 + (w.length : Int)]) ++ l.map (fun w => 1 + (w.length : Int)) := by simp
    have e2 : roL (if l.length = 0 then t' else v 4) ro (w :: l) (.str (ws.getD (ws.length - 1) "") (wf (ws.length - 1))) = roL (v 4) (ro.set (tk1 + 0) (.str w (wf i))) l (.str (ws.getD (ws.length - 1) "") (wf (ws.length - 1))) := by
      unfold roL
      rw [if_neg (by simp)]
      by_cases h0 : l.length = 0
      · rw [if_pos h0, if_pos h0, ht']
        have hi3 := drop_last hd' hil h0
        have e5 : ws.getD (ws.length - 1) "" = w := by rw [← hi3]; simp [List.getD_eq_getElem?_getD, hx]
        rw [e5, ← hi3]
      · rw [if_neg h0, if_neg h0]
    have e3 : (fun j : Nat => (fun i => if i = 4 then (if l.length = 0 then t' else v 4) else v i) (j + 20)) = fun j => v (j + 20) := by
      funext j
      simp only []
      rw [if_neg (ar285)]
    show HasZ h2 _ [_, lisO (intA (os ++ (w :: l).map (fun w => 1 + (w.length : Int))) _) (v 0), dic1 P "word" (roL (if l.length = 0 then t' else v 4) ro (w :: l) (.str (ws.getD (ws.length - 1) "") (wf (ws.length - 1)))), _]
    rw [e1, e2, e3]
    exact hasZ_same (pre' := lsE P wl we L acc (eo + 1) C it (i + 1) (strA ws wf) _ (ro.set (tk1 + 0) (.str w (wf i)))) rfl rfl hz
theorem con_lss (o : OkLc K) {wl we L acc C it : Nat} {ws : List Str} {wf : Nat → Nat} (hw : ∀ w ∈ ws, w.length ≤ 900) (hn : ws.length ≤ 900) (hp : 0 < ws.length) :
    CON K P dr fz (.compStart (lcS K P) 0 (.ref it) (.ref acc) (compE (lcS K P) (envC K P 216 L) C)) (lsE P wl we L acc 0 C it 0 (strA ws wf) #[] .n) 50 200
        (fun v => ⟨.ok .next, [lisO (strA ws wf) we, lisO (intA (ws.map (fun w => 1 + (w.length : Int))) (fun j => v (j + 20))) (v 0), dic1 P "word" (.y (v 4) (.str (ws.getD (ws.length - 1) "") (wf (ws.length - 1)))), lendO ws.length], []⟩) := by
  refine con_mono (dep := 40) (un := 150) (con_again (fun N tk => o.lss P wl we L acc 0 C it 0 (strA ws wf) #[] .n N tk) (fun _ _ => rfl) ?_) (ar85) (ar286)
  have z := con_ls (P := P) (dr := dr) (fz := fz) o (wl := wl) (we := we) (L := L) (acc := acc) (C := C) (it := it) (wf := wf) hw hn ws 0 0 [] (fun _ => 0) .n rfl (ar80) (by simp)
  rw [intA_nil] at z
  have e : ∀ v : Nat → Nat, roL (v 4) .n ws (.str (ws.getD (ws.length - 1) "") (wf (ws.length - 1))) = .y (v 4) (.str (ws.getD (ws.length - 1) "") (wf (ws.length - 1))) := fun v => by
    unfold roL
    rw [if_neg (ar221 hp)]
  simp only [e, List.nil_append] at z
  exact z
noncomputable abbrev llCode (K : Params → KT) (P : Params) (it acc L C : Nat) : Code := .compLoop (lcL K P) 0 (.ref it) (.ref acc) (compE (lcL K P) (envC K P 216 L) C)
noncomputable abbrev llE (P : Params) (wl we L acc eo C it i : Nat) (c : Int) (ct : Nat) (ws os : Array Value) (o : RO) : List Ent := [(L + 2, celO (some (.int c ct))), (wl, lisO ws we), (acc, lisO os eo), (C, dic1 P "k" o), (it, litO wl i)]
theorem con_ll (o : OkLc K) {wl we L acc C it : Nat} {c : Int} {ct : Nat} {ws : List Nat} {wf : Nat → Nat} (hw : ∀ w ∈ ws, True) (hn : ws.length ≤ 900) :
    ∀ (l : List Nat) (i eo : Nat) (os : List Int) (g : Nat → Nat) (ro : RO), ws.drop i = l → i ≤ ws.length → os.length ≤ i →
      CON K P dr fz (llCode K P it acc L C) (llE P wl we L acc eo C it i c ct (natA ws wf) (intA os g) ro) 40 150
        (fun v => ⟨.ok .next, [celO (some (.int c ct)), lisO (natA ws wf) we, lisO (intA (os ++ l.map (fun k : Nat => c - 1 - (k : Int))) (fun j => v (j + 20))) (v 0), dic1 P "k" (roL (v 4) ro l (.int ((ws.getD (ws.length - 1) 0 : Nat) : Int) (wf (ws.length - 1)))), lendO ws.length], []⟩)
  | [], i, eo, os, g, ro, hd, hi, hs => by
    have hi2 : i = ws.length := Nat.le_antisymm hi (List.drop_eq_nil_iff.mp hd)
    have hnx : (natA ws wf)[i]? = none := by rw [natA_get, List.getElem?_eq_none (ar71 hi2)]; rfl
    refine con_by (fun N tk => o.lle P wl we L acc eo C it i (natA ws wf) (intA os g) ro c ct N tk) fun A h d tk os' R room hi' hlt hlo nd hR => ?_
    refine ⟨con_bi bi_next (con_next_end hnx), fun v1 n1 tk1 q1 q2 h' g' hi' hB' hs' has' hk' => ?_⟩
    have hs2 : h'.objs.size = n1 := by simpa using hs'
    refine hR (fun i => if i = 0 then eo else g (i - 20)) h' g' _ hi' hB' (ar52 q1 hs2) ⟨has_nth has' 0 rfl, has_nth has' 1 rfl, ?_, has_nth has' 3 rfl, by rw [← hi2]; exact has_nth has' 4 rfl, trivial⟩ newOk0 hk'
    have z : h'.get? acc = some (lisO (intA os g) eo) := has_nth has' 2 rfl
    simpa using z
  | w :: l, i, eo, os, g, ro, hd, hi, hs => by
    obtain ⟨hil, hx, hd'⟩ := drop_facts hd
    have hw' := hw w (List.mem_of_getElem? hx)
    have hnx : (natA ws wf)[i]? = some (.int (w : Int) (wf i)) := by rw [natA_get, hx]; rfl
    intro A h g0 d tk os' R room hi0 hB has hlo nd hR
    refine code_run (o.ll P wl we L acc eo C it i (natA ws wf) (intA os g) ro c ct (w : Int) (wf i) h.objs.size tk) room hi0 hB has hlo nd
      ⟨con_bi bi_next (con_next_item hnx), fun v1 n1 tk1 q1 q2 => ⟨rfl, rfl, ⟨con_bi bi_append (con_append (by rw [intA_size]; exact Nat.le_trans (show os.length ≤ 1000 by exact ar284 hil hn hs) (by decide))), fun v3 n3 tk3 q7 q8 h' g' hi' hB' hs' has' hk' => ?_⟩⟩⟩
    have hs2 : h'.objs.size = n3 := by simpa using hs'
    rw [intA_push] at has'
    refine con_ll o hw hn l (i + 1) (eo + 1) (os ++ [c - 1 - (w : Int)]) _ (ro.set (tk1 + 0) (.int (w : Int) (wf i))) hd' (ar75 hil) (by simp; omega) A h' g' d _ os' R room hi' hB' has' (own_by (own_ads (pre := llE P wl we L acc eo C it i c ct (natA ws wf) (intA os g) ro) hlo)) nd fun v h2 g2 tk2' hi2 hB2 hs3 hz hn2 hk2 => ?_
    obtain ⟨t', ht'⟩ : ∃ t', ro.set (tk1 + 0) (.int (w : Int) (wf i)) = .y t' (.int (w : Int) (wf i)) := by cases ro <;> exact ⟨_, rfl⟩
    refine hR (fun i => if i = 4 then (if l.length = 0 then t' else v 4) else v i) h2 g2 tk2' hi2 hB2 (Nat.le_trans (show h.objs.size ≤ h'.objs.size by exact ar181 q1 q7 hs2) hs3) ?_ newOk0 (keep_trans hk' hk2)
    have e1 : os ++ (w :: l).map (fun k : Nat => c - 1 - (k : Int)) = (os ++ [c - 1 - (w : Int)]) ++ l.map (fun k : Nat => c - 1 - (k : Int)) := by simp
    have e2 : roL (if l.length = 0 then t' else v 4) ro (w :: l) (.int ((ws.getD (ws.length - 1) 0 : Nat) : Int) (wf (ws.length - 1))) = roL (v 4) (ro.set (tk1 + 0) (.int (w : Int) (wf i))) l (.int ((ws.getD (ws.length - 1) 0 : Nat) : Int) (wf (ws.length - 1))) := by
      unfold roL
      rw [if_neg (by simp)]
      by_cases h0 : l.length = 0
      · rw [if_pos h0, if_pos h0, ht']
        have hi3 := drop_last hd' hil h0
        have e5 : ws.getD (ws.length - 1) 0 = w := by rw [← hi3]; simp [List.getD_eq_getElem?_getD, hx]
        rw [e5, ← hi3]
      · rw [if_neg h0, if_neg h0]
    have e3 : (fun j : Nat => (fun i => if i = 4 then (if l.length = 0 then t' else v 4) else v i) (j + 20)) = fun j => v (j + 20) := by
      funext j
      simp only []
      rw [if_neg (ar285)]
    show HasZ h2 _ [_, _, lisO (intA (os ++ (w :: l).map (fun k : Nat => c - 1 - (k : Int))) _) (v 0), dic1 P "k" (roL (if l.length = 0 then t' else v 4) ro (w :: l) (.int ((ws.getD (ws.length - 1) 0 : Nat) : Int) (wf (ws.length - 1)))), _]
    rw [e1, e2, e3]
    exact hasZ_same (pre' := llE P wl we L acc (eo + 1) C it (i + 1) c ct (natA ws wf) _ (ro.set (tk1 + 0) (.int (w : Int) (wf i)))) rfl rfl hz
theorem con_lls (o : OkLc K) {wl we L acc C it : Nat} {c : Int} {ct : Nat} {ws : List Nat} {wf : Nat → Nat} (hw : ∀ w ∈ ws, True) (hn : ws.length ≤ 900) (hp : 0 < ws.length) :
    CON K P dr fz (.compStart (lcL K P) 0 (.ref it) (.ref acc) (compE (lcL K P) (envC K P 216 L) C)) (llE P wl we L acc 0 C it 0 c ct (natA ws wf) #[] .n) 50 200
        (fun v => ⟨.ok .next, [celO (some (.int c ct)), lisO (natA ws wf) we, lisO (intA (ws.map (fun k : Nat => c - 1 - (k : Int))) (fun j => v (j + 20))) (v 0), dic1 P "k" (.y (v 4) (.int ((ws.getD (ws.length - 1) 0 : Nat) : Int) (wf (ws.length - 1)))), lendO ws.length], []⟩) := by
  refine con_mono (dep := 40) (un := 150) (con_again (fun N tk => o.lls P wl we L acc 0 C it 0 (natA ws wf) #[] .n c ct N tk) (fun _ _ => rfl) ?_) (ar85) (ar286)
  have z := con_ll (P := P) (dr := dr) (fz := fz) o (wl := wl) (we := we) (L := L) (acc := acc) (C := C) (it := it) (c := c) (ct := ct) (wf := wf) hw hn ws 0 0 [] (fun _ => 0) .n rfl (ar80) (by simp)
  rw [intA_nil] at z
  have e : ∀ v : Nat → Nat, roL (v 4) .n ws (.int ((ws.getD (ws.length - 1) 0 : Nat) : Int) (wf (ws.length - 1))) = .y (v 4) (.int ((ws.getD (ws.length - 1) 0 : Nat) : Int) (wf (ws.length - 1))) := fun v => by
    unfold roL
    rw [if_neg (ar221 hp)]
  simp only [e, List.nil_append] at z
  exact z
end
noncomputable def wordsFrom : Nat → List Int → List Str
  | _, [] => []
  | k, x :: l => repS (97 + k) (1 + x.fmod 6).toNat :: wordsFrom (k + 1) l
noncomputable def roK (t : Nat) (o : RO) (m : Nat) (x : Value) : RO := if m = 0 then o else .y t x
theorem letters : ∀ k, k < 10 → ("abcdefghij" : Str).cps[k]? = some (97 + k) := by decide
theorem fmod_6 (x : Int) : 0 ≤ x.fmod 6 ∧ x.fmod 6 < 6 := by
  rw [Int.fmod_eq_emod_of_nonneg x (ar287)]
  exact ar288
noncomputable abbrev lwCode (K : Params → KT) (P : Params) (it acc L C : Nat) : Code := .compLoop (lcW K P) 0 (.ref it) (.ref acc) (compE (lcW K P) (envC K P 216 L) C)
noncomputable abbrev lwE (P : Params) (nl ne L acc eo C it : Nat) (k m : Int) (ns os : Array Value) (o : RO) : List Ent := [(L + 1, celO (some (.ref nl))), (nl, lisO ns ne), (acc, lisO os eo), (C, dic1 P "k" o), (it, ritO k m 1)]
section
variable {K : Params → KT} [ok : Nonempty (KOk K)] {P : Params} {dr : Source → Nat → Nat} {fz : List Ent}
theorem con_lw (o : OkLc K) {nl ne L acc C it : Nat} {nums : List Int} {nf : Nat → Nat} (hn : nums.length ≤ 10) :
    ∀ (l : List Int) (k eo : Nat) (os : List Str) (g : Nat → Nat) (ro : RO), nums.drop k = l → k ≤ nums.length → os.length ≤ k →
      CON K P dr fz (lwCode K P it acc L C) (lwE P nl ne L acc eo C it (k : Nat) (l.length : Nat) (intA nums nf) (strA os g) ro) 40 150
        (fun v => ⟨.ok .next, [celO (some (.ref nl)), lisO (intA nums nf) ne, lisO (strA (os ++ wordsFrom k l) (fun j => v (j + 20))) (v 0), dic1 P "k" (roK (v 4) ro l.length (.int ((nums.length : Int) - 1) (v 8))), ritO nums.length 0 1], []⟩)
  | [], k, eo, os, g, ro, hd, hk, hs => by
    have hk2 : k = nums.length := Nat.le_antisymm hk (List.drop_eq_nil_iff.mp hd)
    refine con_by (fun N tk => o.lwe P nl ne L acc eo C it (intA nums nf) (strA os g) k (0 : Nat) ro N tk) fun A h d tk os' R room hi' hlt hlo nd hR => ?_
    refine ⟨con_bi bi_rnext (con_rnext_end (ar87)), fun v1 n1 tk1 q1 q2 h' g' hi' hB' hs' has' hk' => ?_⟩
    have hs2 : h'.objs.size = n1 := by simpa using hs'
    refine hR (fun i => if i = 0 then eo else g (i - 20)) h' g' _ hi' hB' (ar52 q1 hs2) ⟨has_nth has' 0 rfl, has_nth has' 1 rfl, ?_, has_nth has' 3 rfl, by rw [← hk2]; exact has_nth has' 4 rfl, trivial⟩ newOk0 hk'
    have z : h'.get? acc = some (lisO (strA os g) eo) := has_nth has' 2 rfl
    simpa [wordsFrom] using z
  | x :: l, k, eo, os, g, ro, hd, hk, hs => by
    obtain ⟨hkl, hx, hd'⟩ := drop_facts hd
    have f6 := fmod_6 x
    have ej1 : ((k : Int) + 1) = ((k + 1 : Nat) : Int) := ar88
    have em1 : ((((x :: l).length : Nat) : Int) - 1) = (l.length : Nat) := by simp
    have hat : (intA nums nf)[k]? = some (.int x (nf k)) := by rw [intA_get, hx]; rfl
    intro A h g0 d tk os' R room hi0 hB has hlo nd hR
    refine code_run (o.lw P nl ne L acc eo C it (intA nums nf) (strA os g) k ((x :: l).length : Nat) ro (97 + k) (nf k) x (repS (97 + k) (1 + x.fmod 6).toNat) h.objs.size tk) room hi0 hB has hlo nd
      ⟨con_bi bi_rnext (con_rnext_item (by show (0 : Int) < ((l.length + 1 : Nat) : Int); exact ar97)), fun v1 n1 tk1 q1 q2 => ⟨con_strget (letters k (ar289 hkl hn)) (ar290 hkl hn), fun v2 n2 tk2 q4 q5 => ⟨con_bi bi_getitem (con_getitem (ar43) (ar291 hkl hn) (by rw [Int.toNat_natCast]; exact hat)), fun v3 n3 tk3 q7 q8 => ⟨rfl, rfl, rfl, con_strmulI (ar292 f6) (ar293 f6), fun v4 n4 tk4 q10 q11 =>
        ⟨con_bi bi_append (con_append (by rw [strA_size]; exact Nat.le_trans (show os.length ≤ 1000 by exact ar294 hkl hn hs) (by decide))), fun v5 n5 tk5 q13 q14 h' g' hi' hB' hs' has' hk' => ?_⟩⟩⟩⟩⟩
    have hs2 : h'.objs.size = n5 := by simpa using hs'
    rw [strA_push, ej1, em1] at has'
    refine con_lw o hn l (k + 1) (eo + 1) (os ++ [repS (97 + k) (1 + x.fmod 6).toNat]) _ (ro.set (tk1 + 0) (.int (k : Int) (v1 0))) hd' (ar75 hkl) (by simp; omega) A h' g' d _ os' R room hi' hB' has' (own_by (own_ads (pre := lwE P nl ne L acc eo C it (k : Nat) (((x :: l).length : Nat) : Int) (intA nums nf) (strA os g) ro) hlo)) nd fun v h2 g2 tk2' hi2 hB2 hs3 hz hn2 hk2 => ?_
    obtain ⟨t', ht'⟩ : ∃ t', ro.set (tk1 + 0) (.int (k : Int) (v1 0)) = .y t' (.int (k : Int) (v1 0)) := by cases ro <;> exact ⟨_, rfl⟩
    refine hR (fun i => if i = 4 then (if l.length = 0 then t' else v 4) else if i = 8 then (if l.length = 0 then v1 0 else v 8) else v i) h2 g2 tk2' hi2 hB2 (Nat.le_trans (show h.objs.size ≤ h'.objs.size by exact ar99 q1 q4 q7 q10 q13 hs2) hs3) ?_ newOk0 (keep_trans hk' hk2)
    have e1 : os ++ wordsFrom k (x :: l) = (os ++ [repS (97 + k) (1 + x.fmod 6).toNat]) ++ wordsFrom (k + 1) l := by simp [wordsFrom]
    have e2 : roK (if l.length = 0 then t' else v 4) ro (x :: l).length (.int ((nums.length : Int) - 1) (if l.length = 0 then v1 0 else v 8)) = roK (v 4) (ro.set (tk1 + 0) (.int (k : Int) (v1 0))) l.length (.int ((nums.length : Int) - 1) (v 8)) := by
      unfold roK
      rw [if_neg (by simp)]
      by_cases h0 : l.length = 0
      · have hi3 := drop_last hd' hkl h0
        have : (nums.length : Int) - 1 = (k : Int) := ar295 hkl hi3
        simp only [h0, if_true, ht', this]
      · simp [h0]
    have e3 : (fun j : Nat => (fun i => if i = 4 then (if l.length = 0 then t' else v 4) else if i = 8 then (if l.length = 0 then v1 0 else v 8) else v i) (j + 20)) = fun j => v (j + 20) := by
      funext j
      simp only []
      rw [if_neg (ar285), if_neg (ar296)]
    show HasZ h2 _ [_, _, lisO (strA (os ++ wordsFrom k (x :: l)) _) (v 0), dic1 P "k" (roK (if l.length = 0 then t' else v 4) ro (x :: l).length (.int ((nums.length : Int) - 1) (if l.length = 0 then v1 0 else v 8))), _]
    rw [e1, e2, e3]
    exact hasZ_same (pre' := lwE P nl ne L acc (eo + 1) C it ((k + 1 : Nat) : Int) (l.length : Nat) (intA nums nf) _ (ro.set (tk1 + 0) (.int (k : Int) (v1 0)))) rfl rfl hz
theorem con_lws (o : OkLc K) {nl ne L acc C it : Nat} {nums : List Int} {nf : Nat → Nat} (hn : nums.length ≤ 10) (hp : 0 < nums.length) :
    CON K P dr fz (.compStart (lcW K P) 0 (.ref it) (.ref acc) (compE (lcW K P) (envC K P 216 L) C)) (lwE P nl ne L acc 0 C it 0 (nums.length : Nat) (intA nums nf) #[] .n) 50 200
        (fun v => ⟨.ok .next, [celO (some (.ref nl)), lisO (intA nums nf) ne, lisO (strA (wordsFrom 0 nums) (fun j => v (j + 20))) (v 0), dic1 P "k" (.y (v 4) (.int ((nums.length : Int) - 1) (v 8))), ritO nums.length 0 1], []⟩) := by
  refine con_mono (dep := 40) (un := 150) (con_again (fun N tk => o.lws P nl ne L acc 0 C it (intA nums nf) #[] 0 nums.length .n N tk) (fun _ _ => rfl) ?_) (ar85) (ar286)
  have z := con_lw (P := P) (dr := dr) (fz := fz) o (nl := nl) (ne := ne) (L := L) (acc := acc) (C := C) (it := it) (nf := nf) hn nums 0 0 [] (fun _ => 0) .n rfl (ar80) (by simp)
  rw [strA_nil] at z
  have e : ∀ v : Nat → Nat, roK (v 4) .n nums.length (.int ((nums.length : Int) - 1) (v 8)) = .y (v 4) (.int ((nums.length : Int) - 1) (v 8)) := fun v => by
    unfold roK
    rw [if_neg (ar221 hp)]
  simp only [e, List.nil_append] at z
  exact z
end
theorem comp_turn {prog : Program} {w : World} {A : Around} {R : Result → Shared → Prop} {s : Shared} {e : PySem.Expr} {it acc : Value} {env : Env} (hE : e = cOne e)
    (h : wpAny (model prog w) A (pyNext it) (fun r s₁ => match r with
      | none => R (.ok .next) s₁
      | some v => wpAny (model prog w) A (letOwnedTupleGo (cTgt e) it v) (fun _ s₁' =>
          wpAny (model prog w) A (assign (cTgt e) env v) (fun _ s₂ => wpAny (model prog w) A (eval (cElt e) env) (fun x s₃ =>
            wpAny (model prog w) A (call (.builtin "list.append") [acc, x]) (fun _ s₄ => codeAny (model prog w) A (.compLoop e 0 it acc env) R s₄) Never s₃) Never s₂) Never s₁') Never s₁) Never s) :
    codeAny (model prog w) A (.compLoop e 0 it acc env) R s := by
  rw [hE]
  refine codeAny_of_tree ?_
  show wpAny _ A ((compTurn (.ListComp (cElt e) [⟨cTgt e, cItr e, [], 0⟩] (compScope e) (cPos e)) 0 it acc env).onRaise (fun x => do noteFrame x env; theTreesLotGoes x)) _ _ s
  refine wpAny_noted ?_
  rw [compTurn_list1]
  refine wpAny_bind (wpAny_standAt (wpAny_bind (wpAny_mono h (fun r s₁ h₁ => ?_) fun _ _ h' => h'.elim)))
  cases r with
  | none => exact wpAny_pure h₁
  | some v =>
    refine wpAny_bind (wpAny_mono h₁ (fun _ s₁' h₁' => ?_) fun _ _ h' => h'.elim)
    refine wpAny_bind (wpAny_mono h₁' (fun _ s₂ h₂ => wpAny_bind (wpAny_bind (wpAny_mono h₂ (fun x s₃ h₃ => wpAny_bind (wpAny_mono h₃
      (fun _ s₄ h₄ => wpAny_pure (wpAny_pure ⟨rfl, ?_⟩)) fun _ _ h' => h'.elim)) fun _ _ h' => h'.elim))) fun _ _ h' => h'.elim)
    have e1 : (PySem.Expr.ListComp (cElt e) [⟨cTgt e, cItr e, [], 0⟩] (compScope e) (cPos e)) = e := hE.symm
    rw [e1]
    exact h₄
noncomputable def zArr (a : Int) (ta : Nat) (b : Int) (tb : Nat) : Array Value := #[.int a ta] ++ (List.replicate (b - a).toNat (.int b tb)).toArray
noncomputable def zEnts (pf lf : Nat → Nat) (v : Nat → Nat) : Nat → Nat → List (Int × Int) → List Ent
  | _, _, [] => []
  | i, j, z :: l => (v (4 * j + 1), lisO (zArr z.1 (pf i) z.2 (lf i)) 0) :: zEnts pf lf v (i + 1) (j + 1) l
noncomputable def refsN (v : Nat → Nat) : Nat → Nat → List Value
  | _, 0 => []
  | j, n + 1 => .ref (v (4 * j + 1)) :: refsN v (j + 1) n
theorem zEnts_r (pf lf : Nat → Nat) (s0 s4 s8 m : Nat) (v w : Nat → Nat) : ∀ (l : List (Int × Int)) (i j : Nat), zEnts pf lf (vApp s0 s4 s8 m v w) i (m + j) l = zEnts pf lf w i j l
  | [], _, _ => rfl
  | p :: l, i, j => by
    rw [zEnts, zEnts, Nat.add_assoc, zEnts_r pf lf s0 s4 s8 m v w l (i + 1) (j + 1), vApp_r _ _ _ _ _ _ (.inl rfl)]
theorem refsN_r (s0 s4 s8 m : Nat) (v w : Nat → Nat) : ∀ (n j : Nat), refsN (vApp s0 s4 s8 m v w) (m + j) n = refsN w j n
  | 0, _ => rfl
  | n + 1, j => by
    rw [refsN, refsN, Nat.add_assoc, refsN_r s0 s4 s8 m v w n (j + 1), vApp_r _ _ _ _ _ _ (.inl rfl)]
noncomputable def zLast (f : Nat → Nat) (p : Int × Int → Int) : Nat → List (Int × Int) → Value → Value
  | _, [], x => x
  | i, z :: l, _ => zLast f p (i + 1) l (.int (p z) (f i))
noncomputable def zoEnd (v : Nat → Nat) (o : ZO) (l : List (Int × Int)) (x y : Value) : ZO := if l.length = 0 then o else .y (v 4) x (v 8) y
noncomputable def tupE : PySem.Expr → List PySem.Expr
  | .Tuple e _ _ => e
  | _ => []
noncomputable def tupK : PySem.Expr → Nat
  | .Tuple _ k _ => k
  | _ => 0
noncomputable def tupP : PySem.Expr → Pos
  | .Tuple _ _ p => p
  | _ => default
structure OkLz (K : Params → KT) : Prop where
  one : ∀ P, lcZ K P = cOne (lcZ K P)
  tgt : ∀ P, cTgt (lcZ K P) = .Tuple (tupE (cTgt (lcZ K P))) (tupK (cTgt (lcZ K P))) (tupP (cTgt (lcZ K P)))
  n : ok_zn K
  q : ok_zq K
  a : ok_za K
  v : ok_zv K
  p : ok_zp K
  s : ok_zs K
noncomputable abbrev zE (P : Params) (z zt zc i1 i2 pl pe la le acc eo C i : Nat) (pp ll os : Array Value) (x y : Value) (o : ZO) : List Ent :=
  [(z, zipO zt zc), (zt, tupO #[.ref i1, .ref i2]), (zc, tupO #[x, y]), (i1, litO pl i), (i2, litO la i), (pl, lisO pp pe), (la, lisO ll le), (acc, lisO os eo), (C, dicZ P o)]
noncomputable abbrev lzCode (K : Params → KT) (P : Params) (z acc L C : Nat) : Code := .compLoop (lcZ K P) 0 (.ref z) (.ref acc) (compE (lcZ K P) (envC K P 216 L) C)
section
variable {K : Params → KT} [ok : Nonempty (KOk K)] {P : Params} {dr : Source → Nat → Nat} {fz : List Ent}
theorem bi_mul {x : Value} {xs : Array Value} {e : Nat} : okBi K "list.__mul__" [x] (lisO xs e) := fun P l n tk => And.intro (by kernel_rfl) (by kernel_rfl)
theorem St.upd1 {N0 : Nat} {lo : List Addr} {FZ es : List Ent} {h h2 : Heap} {g : Array GenState} {z : Nat} {o o2 : Obj} (st : St K P N0 lo FZ ((z, o) :: es) h g)
    (hz : h2.get? z = some o2) (hs : Heap.SameBut z h h2) : St K P N0 lo FZ ((z, o2) :: es) h2 g ∧ KeepB (WI K P []) N0 lo h h2 := by
  have hsz := hs.1
  have own := st.own _ (List.mem_cons_self ..)
  have nd := st.nd
  rw [List.map_cons, List.nodup_cons] at nd
  refine ⟨⟨(WI K P FZ).stab h h2 st.inv (fun b hb => ?_) (ar71 hsz), st.bare, fun p hp => ?_, fun p hp => ?_, by have := st.nd; simpa using this, fun p hp => ?_, by have := st.sz; exact ar314 hsz this⟩, fun b o' h1 h3 h4 e => ?_⟩
  · have : b ≠ z := fun e => hb (e ▸ own)
    exact hs.2 b this
  · rcases List.mem_cons.mp hp with rfl | hp
    · exact hz
    · have : p.1 ≠ z := fun e => nd.1 (List.mem_map.mpr ⟨p, hp, e⟩)
      rw [hs.2 _ this]
      exact st.has p (List.mem_cons_of_mem _ hp)
  · rcases List.mem_cons.mp hp with rfl | hp
    · exact own
    · exact st.own p (List.mem_cons_of_mem _ hp)
  · rcases List.mem_cons.mp hp with rfl | hp
    · exact st.low (z, o) (List.mem_cons_self ..)
    · exact st.low p (List.mem_cons_of_mem _ hp)
  · have : b ≠ z := fun e2 => by
      rcases st.low (z, o) (List.mem_cons_self ..) with q | q
      · exact h3 (e2 ▸ q)
      · exact absurd h1 (Nat.not_lt_of_le (e2 ▸ q))
    rw [hs.2 _ this]
    exact e
theorem con_lz (o : OkLz K) {z zt zc i1 i2 pl pe la le L acc C : Nat} {pp ll : Array Value} {pf lf : Nat → Nat} {Z : List (Int × Int)} (hn : Z.length ≤ 1000) (hb : ∀ p ∈ Z, 0 ≤ p.2 - p.1 ∧ p.2 - p.1 ≤ 1000)
    (hat : ∀ i p, Z[i]? = some p → pp[i]? = some (Value.int p.1 (pf i)) ∧ ll[i]? = some (Value.int p.2 (lf i))) (hend : pp[Z.length]? = none) :
    ∀ (l : List (Int × Int)) (i eo : Nat) (os : Array Value) (x y : Value) (zo : ZO), Z.drop i = l → i ≤ Z.length → os.size ≤ i →
      CON K P dr fz (lzCode K P z acc L C) (zE P z zt zc i1 i2 pl pe la le acc eo C i pp ll os x y zo) 40 150
        (fun v => ⟨.ok .next, [zipO zt zc, tupO #[.ref i1, .ref i2], tupO #[zLast pf (·.1) i l x, zLast lf (·.2) i l y], lendO Z.length, litO la Z.length, lisO pp pe, lisO ll le, lisO (os ++ (refsN v 0 l.length).toArray) (v 0),
          dicZ P (zoEnd v zo l (zLast pf (·.1) i l x) (zLast lf (·.2) i l y))], zEnts pf lf v i 0 l⟩)
  | [], i, eo, os, x, y, zo, hd, hi, hs => by
    have hi2 : i = Z.length := Nat.le_antisymm hi (List.drop_eq_nil_iff.mp hd)
    intro A h g d tk os' R room hi0 hB has hlo nd hR
    have s0 : St K P h.objs.size ((zE P z zt zc i1 i2 pl pe la le acc eo C i pp ll os x y zo).map (·.1)) fz (zE P z zt zc i1 i2 pl pe la le acc eo C i pp ll os x y zo) h g := ⟨hi0, hB, has, hlo, nd, fun p hp => .inl (List.mem_map.mpr ⟨p, hp, rfl⟩), Nat.le_refl _⟩
    refine comp_turn (o.one P) ?_
    rw [fPyNext_eq]
    refine run_opt (fz := fz) (o.q P z zt zc i1 i2 pl pe la le L acc eo C i pp ll os x y zo _ _) (rl room) s0.inv s0.bare s0.has s0.own s0.nd ⟨con_bi bi_next (con_next_end (by rw [hi2]; exact hend)), fun v1 n1 tk1 q1 q2 h1 g1 hi1 hB1 hs1 has1 hk1 => ?_⟩
    have hs1' : h1.objs.size = n1 := hs1
    show R (.ok .next) _
    refine hR (fun _ => eo) h1 g1 _ hi1 hB1 (ar52 q1 hs1') ⟨has_nth has1 0 rfl, has_nth has1 1 rfl, has_nth has1 2 rfl, by rw [← hi2]; exact has_nth has1 3 rfl, by rw [← hi2]; exact has_nth has1 4 rfl, has_nth has1 5 rfl, has_nth has1 6 rfl, ?_, has_nth has1 8 rfl, trivial⟩ ⟨by simp [zEnts], by simp [zEnts]⟩ hk1
    have zz : h1.get? acc = some (lisO os eo) := has_nth has1 7 rfl
    simpa [refsN] using zz
  | p :: l, i, eo, os, x, y, zo, hd, hi, hs => by
    have hil : i < Z.length := by
      have : (Z.drop i).length = l.length + 1 := by rw [hd]; rfl
      rw [List.length_drop] at this
      exact ar72 this
    have hx : Z[i]? = some p := by
      have := congrArg (fun l => l[0]?) hd
      simpa using this
    have hd' : Z.drop (i + 1) = l := by
      have := congrArg (fun l => l.drop 1) hd
      simpa [List.drop_drop, Nat.add_comm] using this
    obtain ⟨ha, hbb⟩ := hat i p hx
    obtain ⟨hb0, hb1⟩ := hb p (List.mem_of_getElem? hx)
    intro A h g d tk os' R room hi0 hB has hlo nd hR
    have s0 : St K P h.objs.size ((zE P z zt zc i1 i2 pl pe la le acc eo C i pp ll os x y zo).map (·.1)) fz (zE P z zt zc i1 i2 pl pe la le acc eo C i pp ll os x y zo) h g := ⟨hi0, hB, has, hlo, nd, fun p hp => .inl (List.mem_map.mpr ⟨p, hp, rfl⟩), Nat.le_refl _⟩
    refine comp_turn (o.one P) ?_
    rw [fPyNext_eq]
    refine go_opt (fz := fz) (o.n P z zt zc i1 i2 pl pe la le L acc eo C i pp ll os x y zo p.1 p.2 (pf i) (lf i) _ _) (rl room) s0 ⟨con_bi bi_next (con_next_item ha), fun v1 n1 tk1 q1 q2 => ⟨con_bi bi_next (con_next_item hbb), fun v2 n2 tk2 q4 q5 h1 g1 s1 hs1 kb1 => ?_⟩⟩
    have hs1' : h1.objs.size = n2 + 1 := hs1
    show wpAny _ _ (letOwnedTupleGo _ _ _) _ _ _
    have hz1 : h1.get? z = some ⟨.type "zip", none, .fields #[.int (Int.ofNat (n2 + 0)) 0, .bool false, .bool false, .ref zt, .ref zc], #[]⟩ := has_nth s1.has 0 rfl
    rw [o.tgt P]
    refine wpAny_letOwnedTupleGo_zip (s := ⟨h1, g1, d, _, os'⟩) (TI := zt) (TO := zc) (T := n2 + 0) hz1 fun h2 hz2 hsb => ?_
    obtain ⟨s2, kb2⟩ := s1.upd1 (h2 := h2) hz2 hsb
    show wpAny _ _ (assign _ _ _) _ _ _
    rw [← o.tgt P, fAssign_eq]
    refine go_unit (fz := fz) (o.a P z zt zc i1 i2 pl pe la le L acc eo C (i + 1) pp ll os x y zo p.1 p.2 (pf i) (lf i) (n2 + 0) _ _) (rl room) s2 fun h3 g3 s3 hs3 kb3 => ?_
    have e0 : ∀ X Y, ∃ t1 t2, zo.set X (.int p.1 (pf i)) Y (.int p.2 (lf i)) = .y t1 (.int p.1 (pf i)) t2 (.int p.2 (lf i)) := fun X Y => by cases zo <;> exact ⟨_, _, rfl⟩
    obtain ⟨t1, t2, ht⟩ := e0 (tk2 + 0 + 0) (tk2 + 0 + 1)
    have s3 : St K P h.objs.size ((zE P z zt zc i1 i2 pl pe la le acc eo C i pp ll os x y zo).map (·.1)) fz (zE P z zt zc i1 i2 pl pe la le acc eo C (i + 1) pp ll os (.int p.1 (pf i)) (.int p.2 (lf i)) (.y t1 (.int p.1 (pf i)) t2 (.int p.2 (lf i)))) h3 g3 := by rw [← ht]; exact s3
    show wpAny _ _ (eval _ _) _ _ _
    rw [fEval_eq]
    refine go_val (fz := fz) (o.v P z zt zc i1 i2 pl pe la le L acc eo C (i + 1) pp ll os x y zo p.1 p.2 (pf i) (lf i) t1 t2 (List.replicate (p.2 - p.1).toNat (Value.int p.2 (lf i))).toArray (zArr p.1 (pf i) p.2 (lf i)) _ _) (rl room) s3
      ⟨rfl, rfl, con_bi bi_mul (con_listmul' hb0 hb1), fun v3 n3 tk3 q7 q8 => ⟨con_bi bi_add (con_add (by show 1 + _ ≤ sizeLine; rw [List.size_toArray, List.length_replicate]; exact Nat.le_trans (show 1 + (p.2 - p.1).toNat ≤ 1001 by exact ar315 hb1) (by decide))), fun v4 n4 tk4 q10 q11 h4 g4 s4 hs4 kb4 => ?_⟩⟩
    have hs4' : h4.objs.size = n4 := hs4
    show wpAny _ _ (call _ _) _ _ _
    rw [fCall_eq]
    refine go_val (fz := fz) (o.p P z zt zc i1 i2 pl pe la le L acc eo C (i + 1) pp ll os x y (.y t1 (.int p.1 (pf i)) t2 (.int p.2 (lf i))) p.1 p.2 (pf i) (lf i) (v4 0) (zArr p.1 (pf i) p.2 (lf i)) _ _) (rl room) s4
      ⟨con_bi bi_append (con_append (Nat.le_trans (show os.size ≤ 1000 by exact ar182 hil hn hs) (by decide))), fun v5 n5 tk5 q13 q14 h5 g5 s5 hs5 kb5 => ?_⟩
    have hs5' : h5.objs.size = n5 := hs5
    have kb := (((kb1.trans kb2).trans kb3).trans kb4).trans kb5
    have hsz : h.objs.size ≤ h5.objs.size := s5.sz
    show codeAny _ _ _ _ _
    have s5' : St K P h.objs.size ((zE P z zt zc i1 i2 pl pe la le acc eo C i pp ll os x y zo).map (·.1)) fz (zE P z zt zc i1 i2 pl pe la le acc (eo + 1) C (i + 1) pp ll (os.push (.ref (v4 0))) (.int p.1 (pf i)) (.int p.2 (lf i)) (.y t1 (.int p.1 (pf i)) t2 (.int p.2 (lf i))) ++ [(v4 0, lisO (zArr p.1 (pf i) p.2 (lf i)) 0)]) h5 g5 := s5
    have s6 := s5'.left
    have hk0 : Keep (WI K P fz) h h5 ((zE P z zt zc i1 i2 pl pe la le acc eo C i pp ll os x y zo).map (·.1)) := fun b ob e hm ht => kb b ob (Heap.lt_size e) hm ht e
    have hr0 : h.objs.size ≤ v4 0 := by
      have e1 : n3 + 0 ≤ v4 0 := (q11.1 _ (List.mem_cons_self ..)).1
      have e2 := s3.sz
      exact ar316 e1 q7 e2
    refine con_lz o hn hb hat hend l (i + 1) (eo + 1) (os.push (.ref (v4 0))) (.int p.1 (pf i)) (.int p.2 (lf i)) (.y t1 (.int p.1 (pf i)) t2 (.int p.2 (lf i))) hd' (ar75 hil) (by simp; omega) A h5 g5 d _ os' R room s6.inv s6.bare s6.has s6.own s6.nd fun v h6 g6 tk6 hi6 hB6 hs6 hz hn6 hk6 => ?_
    have ee1 := zEnts_r pf lf (v 0) (if l.length = 0 then t1 else v 4) (if l.length = 0 then t2 else v 8) 1 (fun _ => v4 0) v l (i + 1) 0
    have ee2 := refsN_r (v 0) (if l.length = 0 then t1 else v 4) (if l.length = 0 then t2 else v 8) 1 (fun _ => v4 0) v l.length 0
    refine hR (vApp (v 0) (if l.length = 0 then t1 else v 4) (if l.length = 0 then t2 else v 8) 1 (fun _ => v4 0) v) h6 g6 tk6 hi6 hB6 (Nat.le_trans hsz hs6) ?_ ?_ (keep_trans hk0 hk6)
    · show HasZ h6 _ [_, _, _, _, _, _, _, lisO (os ++ (refsN (vApp _ _ _ _ _ _) 0 (l.length + 1)).toArray) (v 0), dicZ P (.y (if l.length = 0 then t1 else v 4) (zLast pf (·.1) (i + 1) l (.int p.1 (pf i))) (if l.length = 0 then t2 else v 8) (zLast lf (·.2) (i + 1) l (.int p.2 (lf i))))]
      rw [refsN, ee2]
      have e3 : os ++ (Value.ref (v4 0) :: refsN v 0 l.length).toArray = os.push (.ref (v4 0)) ++ (refsN v 0 l.length).toArray := by
        apply Array.ext'
        simp
      have e4 : zoEnd v (.y t1 (.int p.1 (pf i)) t2 (.int p.2 (lf i))) l (zLast pf (·.1) (i + 1) l (.int p.1 (pf i))) (zLast lf (·.2) (i + 1) l (.int p.2 (lf i))) = .y (if l.length = 0 then t1 else v 4) (zLast pf (·.1) (i + 1) l (.int p.1 (pf i))) (if l.length = 0 then t2 else v 8) (zLast lf (·.2) (i + 1) l (.int p.2 (lf i))) := by
        unfold zoEnd
        by_cases h0 : l.length = 0
        · have hl0 : l = [] := List.eq_nil_of_length_eq_zero h0
          subst hl0
          rfl
        · rw [if_neg h0, if_neg h0, if_neg h0]
      have e5 : vApp (v 0) (if l.length = 0 then t1 else v 4) (if l.length = 0 then t2 else v 8) 1 (fun _ => v4 0) v (4 * 0 + 1) = v4 0 := rfl
      rw [e5, e3, ← e4]
      exact hasZ_same (pre' := zE P z zt zc i1 i2 pl pe la le acc (eo + 1) C (i + 1) pp ll (os.push (.ref (v4 0))) (.int p.1 (pf i)) (.int p.2 (lf i)) (.y t1 (.int p.1 (pf i)) t2 (.int p.2 (lf i)))) rfl rfl hz
    · show NewOk h h6 ([(v4 0, lisO (zArr p.1 (pf i) p.2 (lf i)) 0)] ++ zEnts pf lf (vApp _ _ _ _ _ _) (i + 1) (1 + 0) l)
      rw [ee1]
      refine newOk_app (h' := h5) hsz (fun q hq => ?_) (by simp) hn6 hk6 (fun a ha => lt_of_has has a ha) (fun q hq => ?_)
      · rw [List.mem_singleton.mp hq]
        exact ⟨hr0, s5'.has _ (by simp)⟩
      · rw [List.mem_singleton.mp hq]
        exact fun hm => (WI K P fz).tlo _ hm ((WI K P fz).big h hi0 _ hr0)
theorem con_lzs (o : OkLz K) {z zt zc i1 i2 pl pe la le L acc C : Nat} {pp ll : Array Value} {pf lf : Nat → Nat} {Z : List (Int × Int)} (hn : Z.length ≤ 1000) (hp : 0 < Z.length) (hb : ∀ p ∈ Z, 0 ≤ p.2 - p.1 ∧ p.2 - p.1 ≤ 1000)
    (hat : ∀ i p, Z[i]? = some p → pp[i]? = some (Value.int p.1 (pf i)) ∧ ll[i]? = some (Value.int p.2 (lf i))) (hend : pp[Z.length]? = none) :
    CON K P dr fz (.compStart (lcZ K P) 0 (.ref z) (.ref acc) (compE (lcZ K P) (envC K P 216 L) C)) (zE P z zt zc i1 i2 pl pe la le acc 0 C 0 pp ll #[] .none .none .n) 60 250
        (fun v => ⟨.ok .next, [zipO zt zc, tupO #[.ref i1, .ref i2], tupO #[zLast pf (·.1) 0 Z .none, zLast lf (·.2) 0 Z .none], lendO Z.length, litO la Z.length, lisO pp pe, lisO ll le, lisO (refsN v 0 Z.length).toArray (v 0),
          dicZ P (.y (v 4) (zLast pf (·.1) 0 Z .none) (v 8) (zLast lf (·.2) 0 Z .none))], zEnts pf lf v 0 0 Z⟩) := by
  refine con_mono (dep := 40) (un := 150) (con_again (fun N tk => o.s P z zt zc i1 i2 pl pe la le L acc 0 C 0 pp ll #[] .none .none .n N tk) (fun _ _ => rfl) ?_) (ar317) (ar318)
  have zz := con_lz (P := P) (dr := dr) (fz := fz) o (z := z) (zt := zt) (zc := zc) (i1 := i1) (i2 := i2) (pe := pe) (pl := pl) (la := la) (le := le) (L := L) (acc := acc) (C := C) hn hb hat hend Z 0 0 #[] .none .none .n rfl (ar80) (by simp)
  have e : ∀ v : Nat → Nat, zoEnd v .n Z (zLast pf (·.1) 0 Z .none) (zLast lf (·.2) 0 Z .none) = .y (v 4) (zLast pf (·.1) 0 Z .none) (v 8) (zLast lf (·.2) 0 Z .none) := fun v => by
    unfold zoEnd
    rw [if_neg (ar221 hp)]
  have e2 : ∀ l : List Value, (#[] : Array Value) ++ l.toArray = l.toArray := fun l => by apply Array.ext'; simp
  simp only [e, e2] at zz
  exact zz
end
noncomputable def zEntsV (v : Nat → Nat) : Nat → List (Int × Int) → List Ent
  | _, [] => []
  | j, z :: l => (v (4 * j + 1), lisO (zArr z.1 (v (4 * j + 2)) z.2 (v (4 * j + 3))) 0) :: zEntsV v (j + 1) l
noncomputable def reV (pf lf v : Nat → Nat) (k : Nat) : Nat := if k % 4 = 2 then pf (k / 4) else if k % 4 = 3 then lf (k / 4) else v k
theorem reV_2 (pf lf v : Nat → Nat) (j : Nat) : reV pf lf v (4 * j + 2) = pf j := by
  unfold reV
  rw [if_pos (ar126), show (4 * j + 2) / 4 = j by exact ar127]
theorem reV_3 (pf lf v : Nat → Nat) (j : Nat) : reV pf lf v (4 * j + 3) = lf j := by
  unfold reV
  rw [if_neg (ar319), if_pos (ar320), show (4 * j + 3) / 4 = j by exact ar321]
theorem reV_1 (pf lf v : Nat → Nat) (j : Nat) : reV pf lf v (4 * j + 1) = v (4 * j + 1) := by
  unfold reV
  rw [if_neg (ar322), if_neg (ar323)]
theorem zEnts_re (pf lf v : Nat → Nat) : ∀ (l : List (Int × Int)) (j : Nat), zEnts pf lf v j j l = zEntsV (reV pf lf v) j l
  | [], _ => rfl
  | p :: l, j => by rw [zEnts, zEntsV, zEnts_re pf lf v l (j + 1), reV_1, reV_2, reV_3]
theorem refsN_re (pf lf v : Nat → Nat) : ∀ (n j : Nat), refsN (reV pf lf v) j n = refsN v j n
  | 0, _ => rfl
  | n + 1, j => by rw [refsN, refsN, refsN_re pf lf v n (j + 1), reV_1]
theorem zLast_eq (f : Nat → Nat) (p : Int × Int → Int) : ∀ (l : List (Int × Int)) (i : Nat) (x : Value), 0 < l.length → zLast f p i l x = .int (p (l.getD (l.length - 1) (0, 0))) (f (i + (l.length - 1)))
  | [z], i, x, _ => rfl
  | z :: z2 :: l, i, x, _ => by
    have := zLast_eq f p (z2 :: l) (i + 1) (.int (p z) (f i)) (by simp)
    rw [zLast, this]
    simp only [List.length_cons, Nat.add_sub_cancel]
    rw [show i + 1 + l.length = i + (l.length + 1) by exact ar69]
    rfl
section
variable {K : Params → KT} [ok : Nonempty (KOk K)] {P : Params} {dr : Source → Nat → Nat} {fz : List Ent}
theorem con_re {c : Code} {pre : List Ent} {dep un : Nat} {post post' : (Nat → Nat) → Post} (h : CON K P dr fz c pre dep un post) (e : ∀ v, ∃ v', post v = post' v') : CON K P dr fz c pre dep un post' :=
  fun A h0 g d tk os R room hi hB has hlo nd hR => h A h0 g d tk os R room hi hB has hlo nd fun v h' g' tk' => by
    obtain ⟨v', e'⟩ := e v
    rw [e']
    exact hR v' h' g' tk'
theorem con_lzV (o : OkLz K) {z zt zc i1 i2 pl pe la le L acc C : Nat} {pp ll : Array Value} {pf lf : Nat → Nat} {Z : List (Int × Int)} (hn : Z.length ≤ 1000) (hp : 0 < Z.length) (hb : ∀ p ∈ Z, 0 ≤ p.2 - p.1 ∧ p.2 - p.1 ≤ 1000)
    (hat : ∀ i p, Z[i]? = some p → pp[i]? = some (Value.int p.1 (pf i)) ∧ ll[i]? = some (Value.int p.2 (lf i))) (hend : pp[Z.length]? = none) :
    CON K P dr fz (.compStart (lcZ K P) 0 (.ref z) (.ref acc) (compE (lcZ K P) (envC K P 216 L) C)) (zE P z zt zc i1 i2 pl pe la le acc 0 C 0 pp ll #[] .none .none .n) 60 250
        (fun v => ⟨.ok .next, [zipO zt zc, tupO #[.ref i1, .ref i2], tupO #[.int (Z.getD (Z.length - 1) (0, 0)).1 (v (4 * (Z.length - 1) + 2)), .int (Z.getD (Z.length - 1) (0, 0)).2 (v (4 * (Z.length - 1) + 3))], lendO Z.length, litO la Z.length, lisO pp pe, lisO ll le, lisO (refsN v 0 Z.length).toArray (v 0),
          dicZ P (.y (v 4) (.int (Z.getD (Z.length - 1) (0, 0)).1 (v (4 * (Z.length - 1) + 2))) (v 8) (.int (Z.getD (Z.length - 1) (0, 0)).2 (v (4 * (Z.length - 1) + 3))))], zEntsV v 0 Z⟩) :=
  con_re (con_lzs o hn hp hb hat hend) fun v => ⟨reV pf lf v, by
    rw [zEnts_re, refsN_re, zLast_eq pf _ _ _ _ hp, zLast_eq lf _ _ _ _ hp, reV_2, reV_3, Nat.zero_add]
    rfl⟩
end
noncomputable def sc_g1n (K : Params → KT) (P : Params) (sc se L s0 : Nat) (ss ts : Array Value) (NS : (Nat → Nat) → Array Value) (N tk : Nat) : Sc :=
  sS [4, 3, 3, 3] (.call (.builtin "list.__getitem__") ⟨[.ref sc, .ref (N + 0)], []⟩) [0, 4] [(sc, lisO ss se), (N + 0, slcO .none (.int 6 (tk + 0)) .none)] 0 0 (fun v1 => ⟨.ok (.ret (.ref (v1 0))), [], [(v1 0, lisO ts 0)]⟩) 1 fun v1 n1 tk1 =>
  sS [8, 9, 8] (.call (.builtin "list.__add__") ⟨[.ref (v1 0), .ref (n1 + 0)], []⟩) [5, 6] [(v1 0, lisO ts 0), (n1 + 0, lisO #[.int 3 (tk1 + 0), .int 0 (tk1 + 1), .int 5 (tk1 + 2), .int 1 (tk1 + 3)] 0)] 0 0 (fun v2 => ⟨.ok (.ret (.ref (v2 0))), [], [(v2 0, lisO (NS v2) 0)]⟩) 1 fun v2 n2 tk2 =>
  sF [5, 5] (.ok .next) [0, 1, 2, 3, 7] [(sc, lisO ss se), (L, frmO #[dEnt P "script" s0 (.ref sc)] 1), (L + 1, celO (some (.ref (v2 0)))), (L + 2, celO (none)), (v2 0, lisO (NS v2) 0)] 0 0
noncomputable def ok_g1n (K : Params → KT) : Prop := ∀ P sc se L s0 ss ts NS N tk,
  RunsA K P 40 150 4000 (fExecs [stmtOf K P 216 0] (envC K P 216 L) >>= flFin) [(sc, lisO ss se), (L, frmO #[dEnt P "script" s0 (.ref sc)] 1), (L + 1, celO (none)), (L + 2, celO (none))] N tk (sc_g1n K P sc se L s0 ss ts NS N tk)
noncomputable def ifC : Stmt → Pos
  | .If (.Compare _ _ _ p) _ _ _ => p
  | _ => default
noncomputable def ifM (s : Stmt) : Stmt := .If (.Compare (ifL s) [.NotEq] [ifR s] (ifC s)) (ifB s) (ifE s) (ifP s)
noncomputable def retC : Stmt → Pos
  | .Return (some (.Compare _ _ _ p)) _ => p
  | _ => default
noncomputable def retP : Stmt → Pos
  | .Return _ p => p
  | _ => default
noncomputable def retM (s : Stmt) : Stmt := .Return (some (.Compare (retL s) [.Eq] [retR s] (retC s))) (retP s)
structure OkLaw (K : Params → KT) : Prop where
  rw : OkRw K
  lc : OkLc K
  pl : OkPl K
  du : OkDue4 K
  lz : OkLz K
  g0 : ok_g0 K
  g1 : ok_g1n K
  g2 : ok_g2 K
  g3 : ok_g3 K
  g4 : ok_g4 K
  g5 : ok_g5 K
  g6 : ok_g6 K
  g7 : ok_g7 K
  g7b : ok_g7b K
  g8l : ok_g8l K
  g8r : ok_g8r K
  g9 : ok_g9 K
  ga : ok_ga K
  gb : ok_gb K
  body : ∀ P, bodyOf K P 216 = [stmtOf K P 216 0, stmtOf K P 216 1, stmtOf K P 216 2, stmtOf K P 216 3, stmtOf K P 216 4, stmtOf K P 216 5, asS (stmtOf K P 216 6), ifM (stmtOf K P 216 7), stmtOf K P 216 8, retM (stmtOf K P 216 9)]
  els : ∀ P, ifE (stmtOf K P 216 7) = []
  sw : ∀ P L, swapsWithSole [asT (stmtOf K P 216 6)] (valOf (stmtOf K P 216 6)) (asP (stmtOf K P 216 6)).line (envC K P 216 L) = pure false
  ss : ∀ P L, swappedStores [asT (stmtOf K P 216 6)] (valOf (stmtOf K P 216 6)) (envC K P 216 L) = pure none
  each : ∀ P L, (assignEach [asT (stmtOf K P 216 6)] (envC K P 216 L)).map (·.2) = [assign (asT (stmtOf K P 216 6)) (envC K P 216 L)]
  m8 : ∀ P, behindInMarks .NotEq (ifR (stmtOf K P 216 7)) = false
  ma : ∀ P, behindInMarks .Eq (lcZ K P) = false
noncomputable def lawNum (ns : List Int) : List Int := ns.take 6 ++ [3, 0, 5, 1]
noncomputable def lawW (ns : List Int) : Int := 3 + ((ns.take 6).sum + 6).fmod 12
noncomputable def lawRows (W : Int) (ws : List Str) : List Str := Txt.split (Txt.join "\n" (rowsOf W ws)) "\n"
noncomputable def lawXs (ws : List Str) : List Int := ws.map (fun w => 1 + (w.length : Int))
structure LawF (W : Int) (ws : List Str) (xs : List Int) (rows back : List Str) : Prop where
  good : GoodWs W ws
  goodR : GoodWs W ws.reverse
  len : ws.length ≤ 10
  pos : 0 < ws.length
  wl : ∀ w ∈ ws, (w.length == 0) = false ∧ w.length ≤ 900
  join : Txt.join "" (rows ++ back) = Txt.join "" ((ws ++ ws.reverse).map (fun w => (" " : Str) ++ w))
  jsz : ((rows ++ back).map (·.length)).sum ≤ 16777216
  jsz2 : (((ws ++ ws.reverse).map (fun w => (" " : Str) ++ w)).map (·.length)).sum ≤ 16777216
  nr : rows.length = (headsOf xs W).length - 1
  nb : back.length = (headsOf xs W).length - 1
  rp : 0 < rows.length ∧ rows.length ≤ 900
  br : ∀ r ∈ rows, 0 < blanks r ∧ blanks r ≤ 1000
  bb : ∀ r ∈ back, 0 < blanks r ∧ blanks r ≤ 1000
  v : ∀ x ∈ xs, 0 ≤ x ∧ x ≤ 100000
  h1 : RowsOk xs.length (headsOf xs W)
  h2 : RowsOk xs.length (headsOf xs.reverse W)
  hlen : (headsOf xs.reverse W).length = (headsOf xs W).length
  hcnt : (headsOf xs W).length ≤ 900
  hdl : ∀ i, (dueOf xs W i).length ≤ 1024
  pl : (placesFrom 0 rows).length = ws.length
  plb : (placesFrom 0 back).length = ws.length
  due : ∀ i, i < ws.length → ∃ a b : Int, ((placesFrom 0 rows).getD i 0 : Nat) = a ∧ (((headsOf xs W).length - 1 : Nat) : Int) - 1 - ((placesFrom 0 back).reverse.getD i 0 : Nat) = b ∧ 0 ≤ b - a ∧ b - a ≤ 1 ∧
    (dueOf xs W i).map (fun k : Nat => (k : Int)) = a :: List.replicate (b - a).toNat b
theorem strA_append (a b : List Str) (f g : Nat → Nat) : strA a f ++ strA b g = strA (a ++ b) (fun i => if i < a.length then f i else g (i - a.length)) := by
  apply Array.ext'
  apply List.ext_getElem?
  intro i
  rw [Array.toList_append, Array.getElem?_toList (xs := strA (a ++ b) _), strA_get, List.getElem?_append, List.getElem?_append, Array.getElem?_toList, Array.getElem?_toList, strA_get, strA_get]
  rw [Array.length_toList, strA_size]
  by_cases h : i < a.length
  · rw [if_pos h, if_pos h, if_pos h]
  · rw [if_neg h, if_neg h, if_neg h]
theorem intA_append (a b : List Int) (f g : Nat → Nat) : intA a f ++ intA b g = intA (a ++ b) (fun i => if i < a.length then f i else g (i - a.length)) := by
  apply Array.ext'
  apply List.ext_getElem?
  intro i
  rw [Array.toList_append, Array.getElem?_toList (xs := intA (a ++ b) _), intA_get, List.getElem?_append, List.getElem?_append, Array.getElem?_toList, Array.getElem?_toList, intA_get, intA_get]
  rw [Array.length_toList, intA_size]
  by_cases h : i < a.length
  · rw [if_pos h, if_pos h, if_pos h]
  · rw [if_neg h, if_neg h, if_neg h]
theorem intA_take (l : List Int) (f : Nat → Nat) (k : Nat) : slicePick (intA l f) none (some (k : Int)) none = intA (l.take k) f := by
  rw [slicePick_upto']
  apply Array.ext'
  apply List.ext_getElem?
  intro i
  rw [Array.getElem?_toList (xs := intA (l.take k) f), intA_get]
  show (List.take k (intA l f).toList)[i]? = _
  rw [List.getElem?_take, List.getElem?_take, Array.getElem?_toList, intA_get]
  by_cases h : i < k
  · rw [if_pos h, if_pos h]
  · rw [if_neg h, if_neg h]; rfl
theorem rev_any (xs : Array Value) : slicePick xs none none (some (-1)) = xs.toList.reverse.toArray := krv_pick xs
theorem rev_sliceS (ws : List Str) (f : Nat → Nat) : slicePick (strA ws f) none none (some (-1)) = strA ws.reverse (fun i => f (ws.length - 1 - i)) := by
  rw [krv_pick]
  apply Array.ext'
  apply List.ext_getElem?
  intro i
  rw [Array.getElem?_toList (xs := strA ws.reverse _), strA_get]
  show (strA ws f).toList.reverse[i]? = _
  by_cases h : i < ws.length
  · rw [List.getElem?_reverse (by simp [strA_size]; exact h), Array.getElem?_toList, List.getElem?_reverse h]
    have e : (strA ws f).toList.length - 1 - i = ws.length - 1 - i := by simp [strA_size]
    rw [e, strA_get]
  · rw [List.getElem?_eq_none (by simp [strA_size]; exact ar120 h), List.getElem?_eq_none (by simp; exact ar120 h)]
    rfl
theorem rev_sliceN (xs : List Nat) (f : Nat → Nat) : slicePick (natA xs f) none none (some (-1)) = natA xs.reverse (fun i => f (xs.length - 1 - i)) := by
  unfold natA
  rw [rev_slice, List.map_reverse, List.length_map]
theorem consts4 (t : Nat) : (#[.int 3 (t + 0), .int 0 (t + 1), .int 5 (t + 2), .int 1 (t + 3)] : Array Value) = intA [3, 0, 5, 1] (fun i => t + i) := by simp [intA, intL, intItems]
theorem zEntsV_at (v : Nat → Nat) : ∀ (l : List (Int × Int)) (j i : Nat) (z : Int × Int), l[i]? = some z → (v (4 * (j + i) + 1), lisO (zArr z.1 (v (4 * (j + i) + 2)) z.2 (v (4 * (j + i) + 3))) 0) ∈ zEntsV v j l
  | [], j, i, z, h => by simp at h
  | p :: l, j, 0, z, h => by
    have : p = z := by simpa using h
    subst this
    simp [zEntsV]
  | p :: l, j, i + 1, z, h => by
    have := zEntsV_at v l (j + 1) i z (by simpa using h)
    rw [show j + 1 + i = j + (i + 1) by exact ar69] at this
    rw [zEntsV]
    exact List.mem_cons_of_mem _ this
theorem refsN_at (v : Nat → Nat) : ∀ (n j i : Nat), (refsN v j n)[i]? = if i < n then some (.ref (v (4 * (j + i) + 1))) else none
  | 0, j, i => by simp [refsN]
  | n + 1, j, 0 => by simp [refsN]
  | n + 1, j, i + 1 => by
    rw [refsN, List.getElem?_cons_succ, refsN_at v n (j + 1) i, show j + 1 + i = j + (i + 1) by exact ar69]
    by_cases h : i < n
    · rw [if_pos h, if_pos (ar107 h)]
    · rw [if_neg h, if_neg (ar108 h)]
theorem refsN_len (v : Nat → Nat) : ∀ (n j : Nat), (refsN v j n).length = n
  | 0, _ => rfl
  | n + 1, j => by rw [refsN, List.length_cons, refsN_len v n]
theorem wordsFrom_len : ∀ (l : List Int) (k : Nat), (wordsFrom k l).length = l.length
  | [], _ => rfl
  | x :: l, k => by rw [wordsFrom, List.length_cons, List.length_cons, wordsFrom_len l]
noncomputable def numF (ns : List Int) (nf v : Nat → Nat) (i : Nat) : Nat := if i < (ns.take 6).length then nf i else v (i + 1)
section
variable {K : Params → KT} [ok : Nonempty (KOk K)] {P : Params} {dr : Source → Nat → Nat} {fz : List Ent}
theorem con_nums {a b tk1 : Nat} {ns : List Int} {nf : Nat → Nat} : CON K P dr fz (.builtin "list.__add__" ⟨[.ref a, .ref b], []⟩) [(a, lisO (intA (ns.take 6) nf) 0), (b, lisO #[.int 3 (tk1 + 0), .int 0 (tk1 + 1), .int 5 (tk1 + 2), .int 1 (tk1 + 3)] 0)] 0 0
    (fun v => ⟨.ok (.ret (.ref (v 0))), [], [(v 0, lisO (intA (lawNum ns) (numF ns nf v)) 0)]⟩) := by
  rw [consts4]
  refine con_re (con_add (by rw [intA_size, intA_size, List.length_take]; exact Nat.le_trans (show min 6 ns.length + 4 ≤ 10 by exact ar236) (by decide))) fun v => ⟨fun k => if k = 0 then v 0 else tk1 + (k - 1 - (ns.take 6).length), ?_⟩
  rw [intA_append]
  rfl
theorem con_lenI' {l : Nat} {xs : List Int} {f : Nat → Nat} {e : Nat} (h : xs.length ≤ 100000) : CON K P dr fz (.call (.builtin "len") ⟨[.ref l], []⟩) [(l, lisO (intA xs f) e)] 5 20 (fun v => ⟨.ok (.ret (.int ((xs.length : Nat) : Int) (v 0))), [], []⟩) := con_lenI h
theorem con_range0 {rg n ta tb tc : Nat} (h : n ≤ 100000) : CON K P dr fz (.call (.builtin "range.__iter__") ⟨[.ref rg], []⟩) [(rg, rngO 0 ta (n : Int) tb 1 tc)] 0 0 (fun v => ⟨.ok (.ret (.ref (v 0))), [], [(v 0, ritO 0 (n : Nat) 1)]⟩) := by
  refine con_bi bi_riter (con_riter (by unfold Builtin.Range.rangeSize; simp; exact ar237) (ar40) (ar238 h) (.inl rfl) (ar219 h))
end
section
variable {K : Params → KT} [ok : Nonempty (KOk K)] {P : Params} {dr : Source → Nat → Nat} {fz : List Ent}
theorem subE8 {a b c d e f g i x y z t u : Ent} : [a, b, c, d, e, f, g, i, t, u].Sublist [a, b, c, d, e, f, g, i, x, y, z, t, u] := by
  refine .cons_cons _ (.cons_cons _ (.cons_cons _ (.cons_cons _ (.cons_cons _ (.cons_cons _ (.cons_cons _ (.cons_cons _ (.cons _ (.cons _ (.cons _ (.refl _)))))))))))
theorem zArr_eq (a : Int) (ta : Nat) (b : Int) (tb : Nat) : zArr a ta b tb = intA (a :: List.replicate (b - a).toNat b) (fun i => if i = 0 then ta else tb) := by
  unfold zArr
  apply Array.ext'
  apply List.ext_getElem?
  intro i
  rw [Array.getElem?_toList (xs := intA _ _), intA_get]
  rw [show (#[Value.int a ta] ++ (List.replicate (b - a).toNat (Value.int b tb)).toArray).toList = Value.int a ta :: List.replicate (b - a).toNat (Value.int b tb) by simp]
  cases i with
  | zero => rfl
  | succ i =>
    rw [List.getElem?_cons_succ, List.getElem?_cons_succ, List.getElem?_replicate, List.getElem?_replicate]
    by_cases h : i < (b - a).toNat
    · rw [if_pos h, if_pos h]; rfl
    · rw [if_neg h, if_neg h]; rfl
theorem rc_intA {A : Around} {s : Shared} {a b e e' : Nat} {L : List Int} {f g : Nat → Nat} (ha : s.heap.get? a = some (lisO (intA L f) e)) (hb : s.heap.get? b = some (lisO (intA L g) e')) (hu : A.units < cLine) : SeqAt.RcAt A s (.ref a) (.ref b) true := by
  have z := SeqAt.RcAt.lists (A := A) (s := s) (l := a) (b := b) (items := intA L f) (items2 := intA L g) (e := fun _ => true) ⟨_, ha, rfl, _, rfl⟩ ⟨_, hb, rfl, _, rfl⟩ (by rw [intA_size, intA_size]) hu (fun j h1 h2 => by
    have hj : j < L.length := by rw [intA_size] at h1; exact h1
    have e1 := intA_get L f j
    have e2 := intA_get L g j
    rw [Array.getElem?_eq_getElem h1, List.getElem?_eq_getElem hj] at e1
    rw [Array.getElem?_eq_getElem h2, List.getElem?_eq_getElem hj] at e2
    injection e1 with e1
    injection e2 with e2
    rw [e1, e2]
    have z := SeqAt.EqAt.int_int (A := A.in1) (s := s) (L[j]) (f j) (L[j]) (g j)
    rw [beq_self_eq_true] at z
    exact z)
  rw [show ((List.range (intA L f).size).all fun _ => true) = true by simp] at z
  exact z
theorem con_law (o : OkLaw K) {sc se : Nat} {ns : List Int} {nf : Nat → Nat} (hn : ns.length ≤ 63)
    (F : LawF (lawW ns) (wordsFrom 0 (lawNum ns)) (lawXs (wordsFrom 0 (lawNum ns))) (lawRows (lawW ns) (wordsFrom 0 (lawNum ns))) (lawRows (lawW ns) (wordsFrom 0 (lawNum ns)).reverse)) :
    CON K P dr fz (.call (.ref 216) ⟨[.ref sc], []⟩) [(sc, lisO (intA ns nf) se)] 260 900 (fun v => ⟨.ok (.ret (.bool true)), [], []⟩) := by
  have hnum : (lawNum ns).length ≤ 10 ∧ 0 < (lawNum ns).length := by simp [lawNum]; exact ar239
  have hwlen := wordsFrom_len (lawNum ns) 0
  generalize hws : wordsFrom 0 (lawNum ns) = ws at F hwlen
  generalize hxs : lawXs ws = xs at F
  generalize hrr : lawRows (lawW ns) ws = rows at F
  generalize hbb : lawRows (lawW ns) ws.reverse = back at F
  intro A h g d tk os R room hi hB has hlo nd hR
  have s0 : St K P h.objs.size [sc] fz [(sc, lisO (intA ns nf) se)] h g := ⟨hi, hB, has, hlo, nd, fun p hp => by rw [List.mem_singleton.mp hp]; exact .inl List.mem_cons_self, Nat.le_refl _⟩
  have hN217 : 217 ≤ h.objs.size := hi.2.2.2.1
  refine go_code (fz := fz) (o.g0 P sc se (intA ns nf) h.objs.size tk) (rl room) s0 fun h1 g1 s1 hs1 kb1 => ?_
  have rm : Room (A.deeper (envC K P 216 h.objs.size)) 250 890 := room_deeper (rl room)
  refine ks_codeAny_funcAt ?_
  rw [o.body P]
  refine PySem.wpAt_of_wpAny ?_
  refine wp_first ?_
  refine go_flow (fz := fz) (o.g1 P sc se h.objs.size (tk + 0) (intA ns nf) (intA (ns.take 6) nf) (fun v => intA (lawNum ns) (numF ns nf v)) _ _) (rl rm) s1
    ⟨con_bi bi_getitem (con_slice .none (.int _ _) .none (by simp) (by rw [intA_size]; exact Nat.le_trans hn (by decide)) (intA_take ns nf 6)), fun v1 n1 tk1 q1 q2 => ⟨con_bi bi_add con_nums, fun v2 n2 tk2 q4 q5 h2 g2 s2 hs2 kb2 => ?_⟩⟩
  have hs2' : h2.objs.size = n2 := hs2
  show wpAny _ _ (execs (stmtOf K P 216 1 :: _) _) _ _ ⟨_, _, d, _, os⟩
  refine wp_first ?_
  refine go_flow (fz := fz) (o.g2 P sc se h.objs.size (tk + 0) (v2 0) 0 (ns.take 6).sum (intA ns nf) (intA (ns.take 6) nf) (intA (lawNum ns) (numF ns nf v2)) _ _) (rl rm) s2
    ⟨con_bi bi_getitem (con_slice .none (.int _ _) .none (by simp) (by rw [intA_size]; exact Nat.le_trans hn (by decide)) (intA_take ns nf 6)), fun v3 n3 tk3 q7 q8 => ⟨con_sumG, fun v4 n4 tk4 q10 q11 h3 g3 s3 hs3 kb3 => ?_⟩⟩
  have hs3' : h3.objs.size = n4 := hs3
  show wpAny _ _ (execs (stmtOf K P 216 2 :: _) _) _ _ ⟨_, _, d, _, os⟩
  refine wp_first ?_
  have zw := fun it acc C => con_lws (P := P) (dr := dr) (fz := fz) o.lc (nl := v2 0) (ne := 0) (L := h.objs.size) (acc := acc) (C := C) (it := it) (nf := numF ns nf v2) hnum.1 hnum.2
  rw [hws] at zw
  refine go_flow (fz := fz) (o.g3 P sc se h.objs.size (tk + 0) (tk4 + 5) (tk4 + 4) (v2 0) 0 (3 + ((ns.take 6).sum + 6).fmod 12) ((lawNum ns).length : Nat) (intA ns nf) (intA (lawNum ns) (numF ns nf v2)) (fun v => strA ws (fun j => v (j + 20))) _ _) (rl rm) s3
    ⟨con_lenI' (ar241 hnum), fun v5 n5 tk5 q13 q14 => ⟨con_range0 (ar241 hnum), fun v6 n6 tk6 q16 q17 => ⟨zw _ _ _, fun v7 n7 tk7 q19 q20 h4 g4 s4 hs4 kb4 => ?_⟩⟩⟩
  have hs4' : h4.objs.size = n7 := hs4
  show wpAny _ _ (execs (stmtOf K P 216 3 :: _) _) _ _ ⟨_, _, d, _, os⟩
  refine wp_first ?_
  have zr := con_rows (P := P) (dr := dr) (fz := fz) o.rw (wl := n6 + 0) (we := v7 0) (tw := tk4 + 4) (W := lawW ns) (ws := ws) (wf := fun j => v7 (j + 20)) F.good
  rw [show Txt.split (Txt.join "\n" (rowsOf (lawW ns) ws)) "\n" = rows from hrr] at zr
  refine go_flow (fz := fz) (o.g4 P sc se h.objs.size (tk + 0) (tk4 + 5) (tk7 + 0) (tk4 + 4) (v2 0) 0 (n6 + 0) (v7 0) (3 + ((ns.take 6).sum + 6).fmod 12) (intA ns nf) (intA (lawNum ns) (numF ns nf v2)) (strA ws (fun j => v7 (j + 20))) (fun v => strA rows (fun i => v (i + 1))) _ _) (rl rm) s4
    ⟨zr, fun v8 n8 tk8 q22 q23 h5 g5 s5 hs5 kb5 => ?_⟩
  have hs5' : h5.objs.size = n8 := hs5
  show wpAny _ _ (execs (stmtOf K P 216 4 :: _) _) _ _ ⟨_, _, d, _, os⟩
  refine wp_first ?_
  have zb := fun wl' => con_rows (P := P) (dr := dr) (fz := fz) o.rw (wl := wl') (we := 0) (tw := tk4 + 4) (W := lawW ns) (ws := ws.reverse) (wf := fun j => v7 (ws.length - 1 - j + 20)) F.goodR
  rw [show Txt.split (Txt.join "\n" (rowsOf (lawW ns) ws.reverse)) "\n" = back from hbb] at zb
  refine go_flow (fz := fz) (o.g5 P sc se h.objs.size (tk + 0) (tk4 + 5) (tk7 + 0) (tk8 + 0) (tk4 + 4) (v2 0) 0 (n6 + 0) (v7 0) (v8 0) 0 (3 + ((ns.take 6).sum + 6).fmod 12) (intA ns nf) (intA (lawNum ns) (numF ns nf v2)) (strA ws (fun j => v7 (j + 20))) (strA rows (fun i => v8 (i + 1))) (strA ws.reverse (fun j => v7 (ws.length - 1 - j + 20))) (fun v => strA back (fun i => v (i + 1))) _ _) (rl rm) s5
    ⟨con_bi bi_getitem (con_slice .none .none (.int _ _) (by simp) (by rw [strA_size]; exact Nat.le_trans F.len (by decide)) (rev_sliceS ws _)), fun v9 n9 tk9 q25 q26 => ⟨zb _, fun v10 n10 tk10 q28 q29 h6 g6 s6 hs6 kb6 => ?_⟩⟩
  have hs6' : h6.objs.size = n10 := hs6
  show wpAny _ _ (execs (stmtOf K P 216 5 :: _) _) _ _ ⟨_, _, d, _, os⟩
  refine wp_first ?_
  have zj1 : ∀ l e f t, CON K P dr fz (.call (.builtin "str.join") ⟨[.str "" t, .ref l], []⟩) [(l, lisO (strA (rows ++ back) f) e)] 0 0 (fun v => ⟨.ok (.ret (.str (Txt.join "" (rows ++ back)) (v 0))), [], []⟩) := fun l e f t => con_join (by rw [show ("" : Str).length = 0 from rfl, Nat.mul_zero]; exact F.jsz)
  have zj2 : ∀ l e f t, CON K P dr fz (.call (.builtin "str.join") ⟨[.str "" t, .ref l], []⟩) [(l, lisO (strA ((ws ++ ws.reverse).map (fun w => (" " : Str) ++ w)) f) e)] 0 0 (fun v => ⟨.ok (.ret (.str (Txt.join "" (rows ++ back)) (v 0))), [], []⟩) := fun l e f t => by
    rw [F.join]
    exact con_join (by rw [show ("" : Str).length = 0 from rfl, Nat.mul_zero]; exact F.jsz2)
  have zs := fun wl' acc C it wf => con_lbs (P := P) (dr := dr) (fz := fz) o.lc (wl := wl') (we := 0) (L := h.objs.size) (acc := acc) (C := C) (it := it) (ws := ws ++ ws.reverse) (wf := wf) (fun w hw => F.wl w (by simpa using hw)) (by have := F.len; simp; exact ar243 this) (by have := F.pos; simp; exact ar244 this)
  have hrl : rows.length = back.length := F.nr.trans F.nb.symm
  have hrl2 := F.rp
  refine go_flow (fz := fz) (o.g6 P sc se h.objs.size (tk + 0) (tk4 + 5) (tk7 + 0) (tk8 + 0) (tk10 + 0) (tk4 + 4) (v2 0) 0 (n6 + 0) (v7 0) (v8 0) 0 (v10 0) 0 (ws ++ ws.reverse).length (3 + ((ns.take 6).sum + 6).fmod 12) (Txt.join "" (rows ++ back)) (Txt.join "" (rows ++ back)) (intA ns nf) (intA (lawNum ns) (numF ns nf v2)) (strA ws (fun j => v7 (j + 20))) (strA rows (fun i => v8 (i + 1))) (strA back (fun i => v10 (i + 1)))
      (strA (rows ++ back) (fun i => if i < rows.length then v8 (i + 1) else v10 (i - rows.length + 1))) (strA ws.reverse (fun j => v7 (ws.length - 1 - j + 20))) (strA (ws ++ ws.reverse) (fun i => if i < ws.length then v7 (i + 20) else v7 (ws.length - 1 - (i - ws.length) + 20)))
      (fun v => .str ((ws ++ ws.reverse).getD ((ws ++ ws.reverse).length - 1) "") (if (ws ++ ws.reverse).length - 1 < ws.length then v7 ((ws ++ ws.reverse).length - 1 + 20) else v7 (ws.length - 1 - ((ws ++ ws.reverse).length - 1 - ws.length) + 20))) (fun v => strA ((ws ++ ws.reverse).map (fun w => (" " : Str) ++ w)) (fun j => v (j + 20))) _ _) (rl rm) s6
    ⟨con_bi bi_add ?_, fun v11 n11 tk11 q31 q32 => ⟨zj1 _ _ _ _, fun v12 n12 tk12 q34 q35 => ⟨con_bi bi_getitem (con_slice .none .none (.int _ _) (by simp) (by rw [strA_size]; exact Nat.le_trans F.len (by decide)) (rev_sliceS ws _)), fun v13 n13 tk13 q37 q38 => ⟨con_bi bi_add ?_, fun v14 n14 tk14 q40 q41 =>
      ⟨zs _ _ _ _ _, fun v15 n15 tk15 q43 q44 => ⟨zj2 _ _ _ _, fun v16 n16 tk16 q46 q47 => ⟨by simp, fun h7 g7 s7 hs7 kb7 => ?_⟩⟩⟩⟩⟩⟩⟩
  · have z := con_add (K := K) (P := P) (dr := dr) (fz := fz) (a := v8 0) (b := v10 0) (xs := strA rows (fun i => v8 (i + 1))) (ys := strA back (fun i => v10 (i + 1))) (e := 0) (e' := 0) (by rw [strA_size, strA_size]; exact Nat.le_trans (show rows.length + back.length ≤ 1800 by exact ar245 hrl2 hrl) (by decide))
    rw [strA_append] at z
    exact z
  · have z := con_add (K := K) (P := P) (dr := dr) (fz := fz) (a := n6 + 0) (b := v13 0) (xs := strA ws (fun j => v7 (j + 20))) (ys := strA ws.reverse (fun j => v7 (ws.length - 1 - j + 20))) (e := v7 0) (e' := 0) (by rw [strA_size, strA_size, List.length_reverse]; exact Nat.le_trans (show ws.length + ws.length ≤ 20 by have := F.len; exact ar246 this) (by decide))
    rw [strA_append] at z
    exact z
  have hs7' : h7.objs.size = n16 := hs7
  show wpAny _ _ (execs (asS (stmtOf K P 216 6) :: _) _) _ _ ⟨_, _, d, _, os⟩
  refine wpAny_execs_cons (wpAny_Assign_stores ?_ (o.sw P _) (o.ss P _))
  rw [fEval_eq]
  have zx := fun acc C it => con_lss (K := K) (P := P) (dr := dr) (fz := fz) o.lc (wl := n6 + 0) (we := v7 0) (L := h.objs.size) (acc := acc) (C := C) (it := it) (ws := ws) (wf := fun j => v7 (j + 20)) (fun w hw => (F.wl w hw).2) (by have := F.len; exact ar248 this) F.pos
  rw [show ws.map (fun w => 1 + (w.length : Int)) = xs from hxs] at zx
  have hxl : xs.length = ws.length := by rw [← hxs]; simp [lawXs]
  have hwl10 := F.len
  have hwp := F.pos
  have hrp := F.rp
  refine go_val (fz := fz) (OkLaw.g7 o P sc se h.objs.size (tk + 0) (tk4 + 5) (tk7 + 0) (tk8 + 0) (tk10 + 0) (tk4 + 4) (v2 0) 0 (n6 + 0) (v7 0) (v8 0) 0 (v10 0) 0 (3 + ((ns.take 6).sum + 6).fmod 12) (intA ns nf) (intA (lawNum ns) (numF ns nf v2)) (strA ws (fun j => v7 (j + 20))) (strA rows (fun i => v8 (i + 1))) (strA back (fun i => v10 (i + 1))) ws.length (((headsOf xs (lawW ns)).length - 1 : Nat) : Int)
      (fun v => intA xs (fun j => v (j + 20))) (fun _ => .str (ws.getD (ws.length - 1) "") (v7 (ws.length - 1 + 20))) (fun v => (rowRefs v 0 ((List.range xs.length).map (dueOf xs (lawW ns)))).toArray) (fun v => rowsEnt v 0 ((List.range xs.length).map (dueOf xs (lawW ns)))) _ _) (rl rm) s7
    ⟨zx _ _ _, fun v17 n17 tk17 q49 q50 => ⟨con_due (W := lawW ns) o.du F.v (ar249 hxl hwl10) (ar250 hwp hxl) F.h1 F.h2 F.hlen F.hcnt F.hdl, fun v18 n18 tk18 q52 q53 h8 g8 s8 hs8 kb8 => ?_⟩⟩
  have hs8' : h8.objs.size = n18 := hs8
  simp only [app_eq] at s8
  have s8f := s8.freeze
  generalize hc : (((headsOf xs (lawW ns)).length - 1 : Nat) : Int) = c at s8f
  have s9 := s8f.sublist subE8
  generalize hD : (List.range xs.length).map (dueOf xs (lawW ns)) = DD at s9
  show wpAny _ _ (assignAll _ _) _ _ ⟨_, _, d, _, os⟩
  rw [o.each P]
  show wpAny _ _ (assign _ _ _) _ _ ⟨_, _, d, _, os⟩
  rw [fAssign_eq]
  refine go_unit (o.g7b P sc se h.objs.size (tk + 0) (tk4 + 5) (tk7 + 0) (tk8 + 0) (tk10 + 0) (tk4 + 4) (v2 0) 0 (n6 + 0) (v7 0) (v8 0) 0 (v10 0) 0 (3 + ((ns.take 6).sum + 6).fmod 12) (intA ns nf) (intA (lawNum ns) (numF ns nf v2)) (strA ws (fun j => v7 (j + 20))) (strA rows (fun i => v8 (i + 1))) (strA back (fun i => v10 (i + 1))) c (v18 0) (v18 8) (v18 4) (v18 12) (rowRefs v18 0 DD).toArray _ _) (rl rm) s9 fun h9 g9 s10 hs9 kb10 => ?_
  show wpAny _ _ (execs (ifM (stmtOf K P 216 7) :: _) _) _ _ ⟨_, _, d, _, os⟩
  refine wpAny_execs_cons (wpAny_If (wpAny_isTrue_Compare1 ?_ (o.m8 P)))
  rw [fEval_eq]
  have zlen : ∀ (FZ : List Ent) (l e : Nat) (rs : List Str) (f : Nat → Nat), (rs.length : Int) = c → rs.length ≤ 900 → CON K P dr FZ (.call (.builtin "len") ⟨[.ref l], []⟩) [(l, lisO (strA rs f) e)] 5 20 (fun v => ⟨.ok (.ret (.int c (v 0))), [], []⟩) := fun FZ l e rs f h1 h2 => by
    have z := con_lenL (K := K) (P := P) (dr := dr) (fz := FZ) (l := l) (xs := strA rs f) (e := e) (by rw [strA_size]; exact ar73 h2)
    rw [strA_size, h1] at z
    exact z
  have hcr : (rows.length : Int) = c := by rw [← hc, F.nr]
  have hcb : (back.length : Int) = c := by rw [← hc, F.nb]
  refine go_val (o.g8l P sc se h.objs.size (tk + 0) (tk4 + 5) (tk7 + 0) (tk8 + 0) (tk10 + 0) (tk18 + 0) (tk4 + 4) (v2 0) 0 (n6 + 0) (v7 0) (v8 0) 0 (v10 0) 0 (v18 8) (v18 12) (v18 4) (3 + ((ns.take 6).sum + 6).fmod 12) c (intA ns nf) (intA (lawNum ns) (numF ns nf v2)) (strA ws (fun j => v7 (j + 20))) (strA rows (fun i => v8 (i + 1))) (strA back (fun i => v10 (i + 1))) (rowRefs v18 0 DD).toArray c c _ _) (rl rm) s10
    ⟨zlen _ _ _ _ _ hcr (ar253 hrp), fun v19 n19 tk19 q55 q56 => ⟨zlen _ _ _ _ _ hcb (ar254 hcr hcb hrp), fun v20 n20 tk20 q58 q59 h11 g11 s11 hs11 kb11 => ?_⟩⟩
  have hs11' : h11.objs.size = n20 + 1 := hs11
  refine go_val (o.g8r P sc se h.objs.size (tk + 0) (tk4 + 5) (tk7 + 0) (tk8 + 0) (tk10 + 0) (tk18 + 0) (tk4 + 4) (v2 0) 0 (n6 + 0) (v7 0) (v8 0) 0 (v10 0) 0 (v18 8) (v18 12) (v18 4) (3 + ((ns.take 6).sum + 6).fmod 12) c (intA ns nf) (intA (lawNum ns) (numF ns nf v2)) (strA ws (fun j => v7 (j + 20))) (strA rows (fun i => v8 (i + 1))) (strA back (fun i => v10 (i + 1))) (rowRefs v18 0 DD).toArray (n20 + 0) (lisO #[.int c (v19 0), .int c (v20 0)] 0) _ _) (rl rm) s11
    fun h12 g12 s12 hs12 kb12 => ?_
  have hs12' : h12.objs.size = h11.objs.size + 1 := hs12
  have hu12 : (A.deeper (envC K P 216 h.objs.size)).units < cLine := by have := rm.2.2; exact ar256 this
  have hl12 : h12.get? (n20 + 0) = some (lisO #[.int c (v19 0), .int c (v20 0)] 0) := has_nth s12.has 9 rfl
  have hr12 : h12.get? (h11.objs.size + 0) = some (lisO #[.int c (v18 4), .int c (v18 4)] 0) := has_nth s12.has 10 rfl
  refine EqBoolInt.of_rcne (SeqAt.RcNeAt.lists (e := fun _ => true) ⟨_, hl12, rfl, _, rfl⟩ ⟨_, hr12, rfl, _, rfl⟩ rfl hu12 ?_) ?_
  · intro j h1 h2
    have ebb : (c == c) = true := by simp
    match j, h1, h2 with
    | 0, _, _ =>
      have z := fun A' s' => SeqAt.EqAt.int_int (A := A') (s := s') c (v19 0) c (v18 4)
      rw [ebb] at z
      exact z _ _
    | 1, _, _ =>
      have z := fun A' s' => SeqAt.EqAt.int_int (A := A') (s := s') c (v20 0) c (v18 4)
      rw [ebb] at z
      exact z _ _
  refine wpAny_truthy_bool ?_
  show wpAny _ _ (execs (ifE _) _) _ _ ⟨_, _, d, _, os⟩
  rw [o.els P]
  refine wpAny_execs_nil ?_
  show wpAny _ _ (execs (stmtOf K P 216 8 :: _) _) _ _ ⟨_, _, d, _, os⟩
  have s13 := St.left (es := [_, _, _, _, _, _, _, _, _]) (es' := [_, _]) s12
  refine wp_first ?_
  have hpbl : (placesFrom 0 back).reverse.length = ws.length := by rw [List.length_reverse]; exact F.plb
  have zp1 := con_places (P := P) (dr := dr) (fz := rowsEnt v18 0 DD ++ fz) o.pl (rl := v10 0) (re := 0) (rows := back) (rf := fun i => v10 (i + 1)) F.bb (ar254 hcr hcb hrp) (ar257 hcr hcb hrp)
  have zl1 := fun wl' acc C it wf => con_lls (P := P) (dr := dr) (fz := rowsEnt v18 0 DD ++ fz) o.lc (wl := wl') (we := 0) (L := h.objs.size) (acc := acc) (C := C) (it := it) (c := c) (ct := v18 4) (ws := (placesFrom 0 back).reverse) (wf := wf) (fun _ _ => trivial) (ar249 hpbl hwl10) (ar250 hwp hpbl)
  refine go_flow (o.g9 P sc se h.objs.size (tk + 0) (tk4 + 5) (tk7 + 0) (tk8 + 0) (tk10 + 0) (tk18 + 0) (tk4 + 4) (v2 0) 0 (n6 + 0) (v7 0) (v8 0) 0 (v10 0) 0 (v18 8) (v18 12) (v18 4) (3 + ((ns.take 6).sum + 6).fmod 12) c (intA ns nf) (intA (lawNum ns) (numF ns nf v2)) (strA ws (fun j => v7 (j + 20))) (strA rows (fun i => v8 (i + 1))) (strA back (fun i => v10 (i + 1))) (rowRefs v18 0 DD).toArray
      (fun v => natA (placesFrom 0 back) (fun i => v (i + 20))) (fun v => natA (placesFrom 0 back).reverse (fun i => v ((placesFrom 0 back).length - 1 - i + 20))) (fun v => intA ((placesFrom 0 back).reverse.map (fun k : Nat => c - 1 - (k : Int))) (fun j => v (j + 20)))
      (fun v => .int (((placesFrom 0 back).reverse.getD ((placesFrom 0 back).reverse.length - 1) 0 : Nat) : Int) (v ((placesFrom 0 back).length - 1 - ((placesFrom 0 back).reverse.length - 1) + 20))) (placesFrom 0 back).reverse.length _ _) (rl rm) s13
    ⟨zp1, fun v21 n21 tk21 q61 q62 => ⟨con_bi bi_getitem (con_slice .none .none (.int _ _) (by simp) (by rw [natA_size]; exact Nat.le_trans (show (placesFrom 0 back).length ≤ 10 by have := F.plb; exact ar258 this hwl10) (by decide)) (rev_sliceN _ _)), fun v22 n22 tk22 q64 q65 => ⟨zl1 _ _ _ _ _, fun v23 n23 tk23 q67 q68 h14 g14 s14 hs14 kb14 => ?_⟩⟩⟩
  have hs14' : h14.objs.size = n23 := hs14
  show wpAny _ _ (execs [retM (stmtOf K P 216 9)] _) _ _ ⟨_, _, d, _, os⟩
  refine wpAny_execs_cons (wpAny_Return_some (wpAny_Compare1 ?_ (o.ma P)))
  rw [fEval_eq]
  refine go_val (o.ga P sc se h.objs.size (tk + 0) (tk4 + 5) (tk7 + 0) (tk8 + 0) (tk10 + 0) (tk18 + 0) (tk23 + 0) (tk4 + 4) (v2 0) 0 (n6 + 0) (v7 0) (v8 0) 0 (v10 0) 0 (v18 8) (v18 12) (v18 4) (n22 + 1) (v23 0) (3 + ((ns.take 6).sum + 6).fmod 12) c (intA ns nf) (intA (lawNum ns) (numF ns nf v2)) (strA ws (fun j => v7 (j + 20))) (strA rows (fun i => v8 (i + 1))) (strA back (fun i => v10 (i + 1))) (rowRefs v18 0 DD).toArray
      (intA ((placesFrom 0 back).reverse.map (fun k : Nat => c - 1 - (k : Int))) (fun j => v23 (j + 20))) _ _) (rl rm) s14 fun h15 g15 s15 hs15 kb15 => ?_
  have hs15' : h15.objs.size = h14.objs.size := hs15
  have zp2 := con_places (P := P) (dr := dr) (fz := rowsEnt v18 0 DD ++ fz) o.pl (rl := v8 0) (re := 0) (rows := rows) (rf := fun i => v8 (i + 1)) F.br (ar253 hrp) (ar260 hrp)
  generalize hZ : List.zip ((placesFrom 0 rows).map (fun k : Nat => (k : Int))) ((placesFrom 0 back).reverse.map (fun k : Nat => c - 1 - (k : Int))) = Z
  have hZl : Z.length = ws.length := by
    rw [← hZ, List.length_zip, List.length_map, List.length_map, hpbl, F.pl]
    exact ar261
  have hZat : ∀ (i : Nat) (z : Int × Int), Z[i]? = some z → i < ws.length ∧ z.1 = ((placesFrom 0 rows).getD i 0 : Nat) ∧ z.2 = c - 1 - ((placesFrom 0 back).reverse.getD i 0 : Nat) := fun i z hz => by
    have hi : i < ws.length := by rw [← hZl]; exact (List.getElem?_eq_some_iff.mp hz).1
    have h1 : i < (placesFrom 0 rows).length := by rw [F.pl]; exact hi
    have h2 : i < (placesFrom 0 back).reverse.length := by rw [hpbl]; exact hi
    rw [← hZ, List.getElem?_zip_eq_some, List.getElem?_map, List.getElem?_map, List.getElem?_eq_getElem h1, List.getElem?_eq_getElem h2] at hz
    obtain ⟨e1, e2⟩ := hz
    refine ⟨hi, ?_, ?_⟩
    · rw [List.getD_eq_getElem?_getD, List.getElem?_eq_getElem h1]
      injection e1 with e1
      exact e1.symm
    · rw [List.getD_eq_getElem?_getD, List.getElem?_eq_getElem h2]
      injection e2 with e2
      exact e2.symm
  have hdue : ∀ (i : Nat) (z : Int × Int), Z[i]? = some z → 0 ≤ z.2 - z.1 ∧ z.2 - z.1 ≤ 1 ∧ (dueOf xs (lawW ns) i).map (fun k : Nat => (k : Int)) = z.1 :: List.replicate (z.2 - z.1).toNat z.2 := fun i z hz => by
    obtain ⟨hi, e1, e2⟩ := hZat i z hz
    obtain ⟨a, b, ea, eb, h1, h2, h3⟩ := F.due i hi
    rw [hc] at eb
    rw [e1, e2, ea, eb]
    exact ⟨h1, h2, h3⟩
  have zz := fun z zt zc i1 i2 pl pe la le acc C pf lf => con_lzV (P := P) (dr := dr) (fz := rowsEnt v18 0 DD ++ fz) o.lz (z := z) (zt := zt) (zc := zc) (i1 := i1) (i2 := i2) (pl := pl) (pe := pe) (la := la) (le := le) (L := h.objs.size) (acc := acc) (C := C) (pp := natA (placesFrom 0 rows) pf) (ll := intA ((placesFrom 0 back).reverse.map (fun k : Nat => c - 1 - (k : Int))) lf) (pf := pf) (lf := lf) (Z := Z)
    (ar262 hZl hwl10) (ar250 hwp hZl) (fun p hp => by
      obtain ⟨i, hi, e⟩ := List.mem_iff_getElem.mp hp
      have := hdue i p (by rw [List.getElem?_eq_getElem hi, e])
      omega)
    (fun i p hp => by
      obtain ⟨hi, e1, e2⟩ := hZat i p hp
      have h1 : i < (placesFrom 0 rows).length := by rw [F.pl]; exact hi
      have h2 : i < (placesFrom 0 back).reverse.length := by rw [hpbl]; exact hi
      rw [natA_get, intA_get, List.getElem?_map, e1, e2, List.getD_eq_getElem?_getD, List.getD_eq_getElem?_getD, List.getElem?_eq_getElem h1, List.getElem?_eq_getElem h2]
      exact ⟨rfl, rfl⟩)
    (by rw [natA_get, List.getElem?_eq_none (by rw [F.pl, hZl]; exact Nat.le_refl _)]; rfl)
  refine go_val (o.gb P sc se h.objs.size (tk + 0) (tk4 + 5) (tk7 + 0) (tk8 + 0) (tk10 + 0) (tk18 + 0) (tk23 + 0) (tk4 + 4) (v2 0) 0 (n6 + 0) (v7 0) (v8 0) 0 (v10 0) 0 (v18 8) (v18 12) (v18 4) (n22 + 1) (v23 0) (3 + ((ns.take 6).sum + 6).fmod 12) c (intA ns nf) (intA (lawNum ns) (numF ns nf v2)) (strA ws (fun j => v7 (j + 20))) (strA rows (fun i => v8 (i + 1))) (strA back (fun i => v10 (i + 1))) (rowRefs v18 0 DD).toArray
      (intA ((placesFrom 0 back).reverse.map (fun k : Nat => c - 1 - (k : Int))) (fun j => v23 (j + 20))) (fun v => (refsN v 0 Z.length).toArray) (fun v => natA (placesFrom 0 rows) (fun i => v (i + 20)))
      (fun v => .int (Z.getD (Z.length - 1) (0, 0)).1 (v (4 * (Z.length - 1) + 2))) (fun v => .int (Z.getD (Z.length - 1) (0, 0)).2 (v (4 * (Z.length - 1) + 3))) (fun v => .int (Z.getD (Z.length - 1) (0, 0)).1 (v (4 * (Z.length - 1) + 2))) (fun v => .int (Z.getD (Z.length - 1) (0, 0)).2 (v (4 * (Z.length - 1) + 3))) Z.length Z.length (fun v => zEntsV v 0 Z) _ _) (rl rm) s15
    ⟨zp2, fun v24 n24 tk24 q70 q71 => ⟨zz _ _ _ _ _ _ _ _ _ _ _ _ _, fun v25 n25 tk25 q73 q74 h16 g16 s16 hs16 kb16 => ?_⟩⟩
  have hs16' : h16.objs.size = n25 := hs16
  simp only [app_eq] at s16
  have s17 := s16.left
  have hdu : h16.get? (v18 8) = some (lisO (rowRefs v18 0 DD).toArray (v18 12)) := has_nth s17.has 8 rfl
  have hac : h16.get? (n24 + 5) = some (lisO (refsN v25 0 Z.length).toArray (v25 0)) := has_nth s17.has 16 rfl
  have hDl : DD.length = ws.length := by rw [← hD]; simp [hxl]
  have hu : (A.deeper (envC K P 216 h.objs.size)).units + 1 < cLine := by have := rm.2.2; exact ar264 this
  have zrc := SeqAt.RcAt.lists (A := A.deeper (envC K P 216 h.objs.size)) (s := ⟨h16, g16, d, tk25 + 0, os⟩) (l := v18 8) (b := n24 + 5) (items := (rowRefs v18 0 DD).toArray) (items2 := (refsN v25 0 Z.length).toArray) (e := fun _ => true) ⟨_, hdu, rfl, _, rfl⟩ ⟨_, hac, rfl, _, rfl⟩ (by rw [List.size_toArray, List.size_toArray, rowRefs_len, refsN_len, hDl, hZl]) (by omega) (fun j h1 h2 => by
    have hj : j < ws.length := by rw [List.size_toArray, rowRefs_len, hDl] at h1; exact h1
    have hjZ : j < Z.length := by rw [hZl]; exact hj
    have e1 : (rowRefs v18 0 DD).toArray[j]? = some (.ref (v18 (4 * (0 + j) + 1))) := by rw [List.getElem?_toArray, rowRefs_at, if_pos (ar265 hj hDl)]
    have e2 : (refsN v25 0 Z.length).toArray[j]? = some (.ref (v25 (4 * (0 + j) + 1))) := by rw [List.getElem?_toArray, refsN_at, if_pos hjZ]
    rw [Array.getElem?_eq_getElem h1] at e1
    rw [Array.getElem?_eq_getElem h2] at e2
    injection e1 with e1
    injection e2 with e2
    rw [e1, e2]
    have hz : Z[j]? = some Z[j] := List.getElem?_eq_getElem hjZ
    obtain ⟨_, _, h3⟩ := hdue j _ hz
    have mD := rowsEnt_at v18 DD 0 j (ar265 hj hDl)
    have hDj : DD.getD j [] = dueOf xs (lawW ns) j := by
      rw [← hD, List.getD_eq_getElem?_getD, List.getElem?_map, List.getElem?_range (ar265 hj hxl)]
      rfl
    rw [hDj] at mD
    have mZ := zEntsV_at v25 Z 0 j _ hz
    have gD : h16.get? (v18 (4 * (0 + j) + 1)) = some (lisO (natA (dueOf xs (lawW ns) j) (rowTok v18 (0 + j))) (v18 (4 * (0 + j) + 2))) := s16.inv.2.2.2.2.1 _ (List.mem_append_left _ mD)
    have gZ := s16.has _ (List.mem_append_right _ mZ)
    have oZ := s16.own _ (List.mem_append_right _ mZ)
    unfold natA at gD
    rw [h3] at gD
    rw [zArr_eq] at gZ
    refine SeqAt.EqAt.of_refs (fun e => oZ.2 (List.mem_map.mpr ⟨_, List.mem_append_left _ mD, e⟩)) (rc_intA gD gZ ?_)
    exact hu)
  rw [show ((List.range (rowRefs v18 0 DD).toArray.size).all fun _ => true) = true by simp] at zrc
  refine zrc _ _ _ _ ?_
  have kb := (((((((((((((kb1.trans kb2).trans kb3).trans kb4).trans kb5).trans kb6).trans kb7).trans kb8).trans kb10).trans kb11).trans kb12).trans kb14).trans kb15).trans kb16)
  show R (.ok (.ret (.bool true))) _
  exact hR (fun _ => 0) h16 g16 _ (inv_less s16.inv fun p hp => List.mem_append_right _ hp) s16.bare s16.sz ⟨has_nth s17.has 0 rfl, trivial⟩ newOk0 (fun b ob e z1 z2 => kb b ob (Heap.lt_size e) z1 z2 e)
end
noncomputable def RR (F : Nat → Nat → Prop) : Nat → Nat → Nat → Prop
  | 0, a, b => a = b
  | k + 1, a, b => ∃ m, F a m ∧ RR F k m b
theorem RR.app {F : Nat → Nat → Prop} : ∀ {k j a b c : Nat}, RR F k a b → RR F j b c → RR F (k + j) a c
  | 0, j, a, b, c, h1, h2 => by
    rw [Nat.zero_add]
    have : a = b := h1
    rw [this]; exact h2
  | k + 1, j, a, b, c, ⟨m, f, h1⟩, h2 => by
    rw [Nat.add_right_comm]
    exact ⟨m, f, RR.app h1 h2⟩
theorem RR.snoc {F : Nat → Nat → Prop} {k a b c : Nat} (h1 : RR F k a b) (h2 : F b c) : RR F (k + 1) a c := RR.app h1 (⟨c, h2, rfl⟩ : RR F 1 b c)
theorem RR.last {F : Nat → Nat → Prop} : ∀ {k a c : Nat}, RR F (k + 1) a c → ∃ b, RR F k a b ∧ F b c
  | 0, a, c, ⟨m, f, h⟩ => ⟨a, rfl, by have : m = c := h; rw [← this]; exact f⟩
  | k + 1, a, c, ⟨m, f, h⟩ => by
    obtain ⟨b, h1, h2⟩ := RR.last h
    exact ⟨b, ⟨m, f, h1⟩, h2⟩
structure FF (F : Nat → Nat → Prop) (n : Nat) : Prop where
  lt : ∀ a b, F a b → a < b ∧ b ≤ n
  one : ∀ a, a < n → F a (a + 1)
  sub : ∀ a b a' b', F a b → a ≤ a' → a' < b' → b' ≤ b → F a' b'
structure Gr (F : Nat → Nat → Prop) (n c : Nat) (G : Nat → Nat) : Prop where
  z : G 0 = 0
  e : G c = n
  step : ∀ k, k < c → F (G k) (G (k + 1))
  mx : ∀ k, k < c → ∀ e, F (G k) e → e ≤ G (k + 1)
section
variable {F : Nat → Nat → Prop} {n : Nat} (hF : FF F n)
include hF
theorem Gr.mono {c : Nat} {G : Nat → Nat} (g : Gr F n c G) {k : Nat} : ∀ j, k + j ≤ c → G k ≤ G (k + j)
  | 0, _ => Nat.le_refl _
  | j + 1, h => Nat.le_trans (Gr.mono g j (ar348 h)) (Nat.le_of_lt (hF.lt _ _ (g.step (k + j) (ar349 h))).1)
theorem Gr.path {c : Nat} {G : Nat → Nat} (g : Gr F n c G) {k : Nat} : ∀ j, k + j ≤ c → RR F j (G k) (G (k + j))
  | 0, _ => rfl
  | j + 1, h => RR.snoc (Gr.path g j (ar348 h)) (g.step (k + j) (ar349 h))
theorem Gr.far {c : Nat} {G : Nat → Nat} (g : Gr F n c G) : ∀ (k e : Nat), k ≤ c → RR F k 0 e → e ≤ G k
  | 0, e, _, h => by have : 0 = e := h; exact ar350 this
  | k + 1, e, hk, h => by
    obtain ⟨s, h1, h2⟩ := RR.last h
    have ih := Gr.far g k s (ar35 hk) h1
    by_cases he : e ≤ G k
    · have := Gr.mono hF g (k := k) 1 hk
      exact ar351 he this
    · exact g.mx k (ar352 hk) e (hF.sub s e (G k) e h2 ih (ar353 he) (Nat.le_refl _))
theorem Gr.inside {c : Nat} {G : Nat → Nat} (g : Gr F n c G) {k : Nat} (hk : k < c) : G k < n := by
  have h1 := (hF.lt _ _ (g.step k hk)).1
  have h2 := (hF.lt _ _ (g.step k hk)).2
  exact ar133 h1 h2
theorem Gr.least {c m : Nat} {G : Nat → Nat} (g : Gr F n c G) (h1 : RR F m 0 n) (h2 : ∀ k, k < m → ¬ RR F k 0 n) : m = c := by
  have p := Gr.path hF g (k := 0) c (ar70)
  rw [g.z, Nat.zero_add, g.e] at p
  rcases Nat.lt_trichotomy m c with h | h | h
  · have := Gr.far hF g m n (ar179 h) h1
    have := Gr.inside hF g h
    omega
  · exact h
  · exact absurd p (h2 c h)
theorem later {m : Nat} : ∀ {q q' : Nat}, RR F m q n → q ≤ q' → q' ≤ n → ∃ m', m' ≤ m ∧ RR F m' q' n := by
  induction m with
  | zero =>
    intro q q' h h1 h2
    have : q = n := h
    exact ⟨0, Nat.le_refl _, show q' = n by exact ar355 this h1 h2⟩
  | succ m ih =>
    intro q q' h h1 h2
    obtain ⟨r, f, h⟩ := h
    by_cases h3 : q' < r
    · exact ⟨m + 1, Nat.le_refl _, r, hF.sub q r q' r f h1 h3 (Nat.le_refl _), h⟩
    · obtain ⟨m', h4, h5⟩ := ih h (ar120 h3) h2
      exact ⟨m', ar180 h4, h5⟩
theorem RR.le : ∀ {k a b : Nat}, RR F k a b → a ≤ b
  | 0, a, b, h => by have : a = b := h; exact ar356 this
  | k + 1, a, b, ⟨m, f, h⟩ => by
    have := (hF.lt _ _ f).1
    have := RR.le h
    omega
end
structure Rev (F F' : Nat → Nat → Prop) (n : Nat) : Prop where
  to : ∀ a b, F a b → F' (n - b) (n - a)
  fro : ∀ a b, F' a b → F (n - b) (n - a)
theorem Rev.path {F F' : Nat → Nat → Prop} {n : Nat} (hF : FF F n) (hF' : FF F' n) (r : Rev F F' n) : ∀ {k a b : Nat}, RR F k a b → b ≤ n → RR F' k (n - b) (n - a)
  | 0, a, b, h, _ => by have : a = b := h; rw [this]; rfl
  | k + 1, a, b, ⟨m, f, h⟩, hb => RR.snoc (Rev.path hF hF' r h hb) (r.to _ _ f)
noncomputable def Due1 (F : Nat → Nat → Prop) (n c i k : Nat) : Prop := ∃ a b, RR F k 0 a ∧ F a b ∧ RR F (c - 1 - k) b n ∧ a ≤ i ∧ i < b
theorem due_rows {F F' : Nat → Nat → Prop} {n c : Nat} {G G' : Nat → Nat} (hF : FF F n) (hF' : FF F' n) (rv : Rev F F' n) (rv' : Rev F' F n) (g : Gr F n c G) (g' : Gr F' n c G') (hmin : ∀ k, k < c → ¬ RR F k 0 n)
    {i al be : Nat} (hi : i < n) (ha : al < c) (hb : be < c) (a1 : G al ≤ i) (a2 : i < G (al + 1)) (b1 : G' be ≤ n - 1 - i) (b2 : n - 1 - i < G' (be + 1)) :
    (∀ k, k < c → (Due1 F n c i k → al ≤ k ∧ k ≤ c - 1 - be)) ∧ Due1 F n c i al ∧ Due1 F n c i (c - 1 - be) ∧ al ≤ c - 1 - be ∧ c - 1 - be ≤ al + 1 := by
  have hall : ∀ k, k < c → (Due1 F n c i k → al ≤ k ∧ k ≤ c - 1 - be) := fun k hk ⟨a, b, h1, h2, h3, h4, h5⟩ => by
    constructor
    · have z := Gr.far hF g (k + 1) b (ar75 hk) (RR.snoc h1 h2)
      rcases Nat.lt_or_ge k al with h | h
      · have z2 := Gr.mono hF g (k := k + 1) (al - (k + 1)) (ar358 ha h)
        rw [show k + 1 + (al - (k + 1)) = al by exact ar359 h] at z2
        exact ar360 h5 a1 z z2
      · exact h
    · have p : RR F (c - 1 - k + 1) a n := ⟨b, h2, h3⟩
      have p' := Rev.path hF hF' rv p (Nat.le_refl _)
      rw [Nat.sub_self] at p'
      have z := Gr.far hF' g' (c - 1 - k + 1) (n - a) (ar361 hk) p'
      rcases Nat.lt_or_ge (c - 1 - be) k with h | h
      · have z2 := Gr.mono hF' g' (k := c - 1 - k + 1) (be - (c - 1 - k + 1)) (ar362 hb)
        rw [show c - 1 - k + 1 + (be - (c - 1 - k + 1)) = be by exact ar363 h hk] at z2
        exact ar364 z hi h4 z2 b1
      · exact h
  have d1 : Due1 F n c i al := by
    have p1 := Gr.path hF g (k := 0) al (ar365 ha)
    rw [g.z, Nat.zero_add] at p1
    have p2 := Gr.path hF g (k := al + 1) (c - 1 - al) (ar366 ha)
    rw [show al + 1 + (c - 1 - al) = c by exact ar367 ha, g.e] at p2
    exact ⟨G al, G (al + 1), p1, g.step al ha, p2, a1, a2⟩
  have hbn := (hF'.lt _ _ (g'.step be hb)).2
  have p1 := Gr.path hF' g' (k := 0) be (ar365 hb)
  rw [g'.z, Nat.zero_add] at p1
  have q1 := Rev.path hF' hF rv' p1 (by have := Gr.inside hF' g' hb; exact ar179 this)
  rw [Nat.sub_zero] at q1
  have p2 := Gr.path hF' g' (k := be + 1) (c - 1 - be) (ar366 hb)
  rw [show be + 1 + (c - 1 - be) = c by exact ar367 hb, g'.e] at p2
  have q2 := Rev.path hF' hF rv' p2 (Nat.le_refl _)
  rw [Nat.sub_self] at q2
  have d2 : Due1 F n c i (c - 1 - be) := by
    refine ⟨n - G' (be + 1), n - G' be, q2, rv'.to _ _ (g'.step be hb), ?_, ar368 b2, ar369 hi b1⟩
    rw [show c - 1 - (c - 1 - be) = be by exact ar370 hb]
    exact q1
  refine ⟨hall, d1, d2, (hall al ha d1).2, ?_⟩
  rcases Nat.lt_or_ge (al + 1) (c - 1 - be) with h | h
  · exfalso
    have p : RR F (be + 1) (n - G' (be + 1)) n := ⟨n - G' be, rv'.to _ _ (g'.step be hb), q1⟩
    have hgn := (hF.lt _ _ (g.step al ha)).2
    obtain ⟨m', h1, h2⟩ := later hF p (q' := G (al + 1)) (ar371 b2 a2) hgn
    have p3 := Gr.path hF g (k := 0) (al + 1) (ar372 h)
    rw [g.z, Nat.zero_add] at p3
    exact hmin (al + 1 + m') (ar373 h h1) (RR.app p3 h2)
  · exact h
noncomputable def Fn (xs : List Int) (W : Int) (a b : Nat) : Prop := fitB xs a b W = true ∧ b ≤ xs.length
theorem psum (xs : List Int) {a b : Nat} (h : a ≤ b) : ((xs.drop a).take (b - a)).sum = (xs.take b).sum - (xs.take a).sum := by
  have e : xs.take b = xs.take a ++ (xs.drop a).take (b - a) := by
    have := List.take_add (l := xs) (i := a) (j := b - a)
    rw [show a + (b - a) = b by exact ar374 h] at this
    exact this
  rw [e, List.sum_append]
  exact ar375
theorem sum_nonneg : ∀ {l : List Int}, (∀ x ∈ l, 0 ≤ x) → 0 ≤ l.sum
  | [], _ => by simp
  | x :: l, h => by
    rw [List.sum_cons]
    have h1 := h x (by simp)
    have h2 := sum_nonneg (l := l) fun y hy => h y (by simp [hy])
    exact ar376 h1 h2
theorem pmono {xs : List Int} (hx : ∀ x ∈ xs, 0 ≤ x) {a b : Nat} (h : a ≤ b) : (xs.take a).sum ≤ (xs.take b).sum := by
  have e := psum xs h
  have := sum_nonneg (l := (xs.drop a).take (b - a)) fun x hx' => hx x (List.mem_of_mem_drop (List.mem_of_mem_take hx'))
  exact ar377 this e
theorem fitB_iff {xs : List Int} {W : Int} {a b : Nat} : fitB xs a b W = true ↔ b = a + 1 ∨ (a < b ∧ (xs.take b).sum - (xs.take a).sum ≤ W) := by
  unfold fitB
  rw [Bool.or_eq_true, Bool.and_eq_true, decide_eq_true_eq, decide_eq_true_eq, beq_iff_eq]
  constructor
  · rintro (h | ⟨h1, h2⟩)
    · exact .inl (ar378 h)
    · rw [psum xs (Nat.le_of_lt h1)] at h2
      exact .inr ⟨h1, h2⟩
  · rintro (h | ⟨h1, h2⟩)
    · exact .inl (ar379 h)
    · exact .inr ⟨h1, by rw [psum xs (Nat.le_of_lt h1)]; exact h2⟩
theorem FF_fn {xs : List Int} {W : Int} (hx : ∀ x ∈ xs, 0 ≤ x) : FF (Fn xs W) xs.length where
  lt := fun a b h => ⟨by rcases fitB_iff.mp h.1 with e | e <;> omega, h.2⟩
  one := fun a h => ⟨fitB_iff.mpr (.inl rfl), h⟩
  sub := fun a b a' b' h h1 h2 h3 => by
    refine ⟨fitB_iff.mpr ?_, by have := h.2; exact ar351 h3 this⟩
    rcases fitB_iff.mp h.1 with e | ⟨e1, e2⟩
    · exact .inl (ar381 h2 e h1 h3)
    · refine .inr ⟨h2, ?_⟩
      have m1 := pmono hx h1
      have m2 := pmono hx h3
      exact ar382 e2 m1 m2
theorem take_rev (xs : List Int) {i : Nat} (h : i ≤ xs.length) : (xs.reverse.take i).sum = xs.sum - (xs.take (xs.length - i)).sum := by
  rw [List.take_reverse, List.sum_reverse]
  have e : xs.sum = (xs.take (xs.length - i)).sum + (xs.drop (xs.length - i)).sum := by rw [← List.sum_append, List.take_append_drop]
  exact ar383 e
theorem rev_fn {xs : List Int} {W : Int} : Rev (Fn xs W) (Fn xs.reverse W) xs.length where
  to := fun a b h => by
    have hb := h.2
    have hl : a < b := by rcases fitB_iff.mp h.1 with e | e <;> omega
    refine ⟨fitB_iff.mpr ?_, by rw [List.length_reverse]; exact ar118⟩
    rcases fitB_iff.mp h.1 with e | ⟨e1, e2⟩
    · exact .inl (ar384 e hb)
    · refine .inr ⟨ar385 e1 hb, ?_⟩
      rw [take_rev xs (ar118), take_rev xs (ar118), show xs.length - (xs.length - a) = a by exact ar386 e1 hb, show xs.length - (xs.length - b) = b by exact ar387 hb]
      exact ar388 e2
  fro := fun a b h => by
    have hb : b ≤ xs.length := by have := h.2; rwa [List.length_reverse] at this
    have hl : a < b := by rcases fitB_iff.mp h.1 with e | e <;> omega
    refine ⟨fitB_iff.mpr ?_, ar118⟩
    rcases fitB_iff.mp h.1 with e | ⟨e1, e2⟩
    · exact .inl (ar384 e hb)
    · refine .inr ⟨ar385 e1 hb, ?_⟩
      rw [take_rev xs (by omega), take_rev xs (ar357 e1 hb)] at e2
      exact ar389 e2
theorem rev_fn' {xs : List Int} {W : Int} : Rev (Fn xs.reverse W) (Fn xs W) xs.length := ⟨fun a b h => rev_fn.fro a b h, fun a b h => rev_fn.to a b h⟩
noncomputable def hIt (xs : List Int) (W : Int) : Nat → List Nat → List Nat
  | 0, ls => ls
  | k + 1, ls => hIt xs W k (hEnds xs W ls 1 xs.length)
theorem headsL_spec (xs : List Int) (W : Int) : ∀ (f : Nat) (ls : List Nat), (headsL xs W f ls).length ≤ f ∧ (∀ k, k < (headsL xs W f ls).length → (headsL xs W f ls).getD k [] = hIt xs W (k + 1) ls) ∧
    (∀ k, k < (headsL xs W f ls).length → xs.length ∉ hIt xs W k ls) ∧ ((headsL xs W f ls).length < f → xs.length ∈ hIt xs W (headsL xs W f ls).length ls)
  | 0, ls => by simp [headsL]
  | f + 1, ls => by
    cases hc : ls.contains xs.length
    · obtain ⟨h1, h2, h3, h4⟩ := headsL_spec xs W f (hEnds xs W ls 1 xs.length)
      have e : headsL xs W (f + 1) ls = hEnds xs W ls 1 xs.length :: headsL xs W f (hEnds xs W ls 1 xs.length) := by rw [headsL, hc]; rfl
      rw [e, List.length_cons]
      refine ⟨ar15 h1, fun k hk => ?_, fun k hk => ?_, fun h => h4 (ar390 h)⟩
      · cases k with
        | zero => rfl
        | succ k => exact h2 k (ar390 hk)
      · cases k with
        | zero =>
          intro hm
          have : ls.contains xs.length = true := List.contains_iff_mem.mpr hm
          rw [hc] at this
          exact Bool.noConfusion this
        | succ k => exact h3 k (ar390 hk)
    · have e : headsL xs W (f + 1) ls = [] := by rw [headsL, hc]; rfl
      rw [e]
      refine ⟨by simp, fun k hk => absurd hk (by simp), fun k hk => absurd hk (by simp), fun _ => ?_⟩
      exact List.contains_iff_mem.mp hc
theorem hEnds_mem {xs : List Int} {W : Int} {ls : List Nat} {e : Nat} : e ∈ hEnds xs W ls 1 xs.length ↔ ∃ s ∈ ls, Fn xs W s e := by
  unfold hEnds
  rw [List.mem_filter, List.any_eq_true, List.mem_range']
  constructor
  · rintro ⟨⟨i, h1, rfl⟩, s, h2, h3⟩
    exact ⟨s, h2, h3, ar391 h1⟩
  · rintro ⟨s, h2, h3, h4⟩
    have hl : s < e := by rcases fitB_iff.mp h3 with e | e <;> omega
    exact ⟨⟨e - 1, ar392 hl h4, ar393 hl⟩, s, h2, h3⟩
theorem hIt_mem {xs : List Int} {W : Int} : ∀ {k : Nat} {ls : List Nat} {e : Nat}, e ∈ hIt xs W k ls ↔ ∃ s ∈ ls, RR (Fn xs W) k s e
  | 0, ls, e => ⟨fun h => ⟨e, h, rfl⟩, fun ⟨s, h, h2⟩ => by have : s = e := h2; rw [← this]; exact h⟩
  | k + 1, ls, e => by
    rw [hIt, hIt_mem]
    constructor
    · rintro ⟨m, h1, h2⟩
      obtain ⟨s, h3, h4⟩ := hEnds_mem.mp h1
      exact ⟨s, h3, m, h4, h2⟩
    · rintro ⟨s, h1, m, h2, h3⟩
      exact ⟨m, hEnds_mem.mpr ⟨s, h1, h2⟩, h3⟩
theorem hIt_mem0 {xs : List Int} {W : Int} {k e : Nat} : e ∈ hIt xs W k [0] ↔ RR (Fn xs W) k 0 e := by
  rw [hIt_mem]
  simp
theorem ones {xs : List Int} {W : Int} (hx : ∀ x ∈ xs, 0 ≤ x) : ∀ (k a : Nat), a + k ≤ xs.length → RR (Fn xs W) k a (a + k)
  | 0, a, _ => rfl
  | k + 1, a, h => ⟨a + 1, (FF_fn hx).one a (ar68 h), by have := ones (W := W) hx k (a + 1) (ar67 h); rwa [show a + 1 + k = a + (k + 1) by exact ar69] at this⟩
theorem heads_facts {xs : List Int} {W : Int} (hx : ∀ x ∈ xs, 0 ≤ x) : ∃ c, (headsOf xs W).length = c + 1 ∧ c ≤ xs.length ∧ (∀ k, k ≤ c → (headsOf xs W).getD k [] = hIt xs W k [0]) ∧ RR (Fn xs W) c 0 xs.length ∧ ∀ k, k < c → ¬ RR (Fn xs W) k 0 xs.length := by
  obtain ⟨h1, h2, h3, h4⟩ := headsL_spec xs W xs.length [0]
  refine ⟨(headsL xs W xs.length [0]).length, by simp [headsOf], h1, fun k hk => ?_, ?_, fun k hk h => h3 k hk (hIt_mem0.mpr h)⟩
  · cases k with
    | zero => rfl
    | succ k => exact h2 k (ar352 hk)
  · by_cases h : (headsL xs W xs.length [0]).length < xs.length
    · exact hIt_mem0.mp (h4 h)
    · have e : (headsL xs W xs.length [0]).length = xs.length := ar394 h1 h
      rw [e]
      have := ones (W := W) hx xs.length 0 (ar70)
      rwa [Nat.zero_add] at this
theorem hEnds_le (xs : List Int) (W : Int) (ls : List Nat) : (hEnds xs W ls 1 xs.length).length ≤ xs.length := by
  unfold hEnds
  exact Nat.le_trans (List.length_filter_le _ _) (by simp)
theorem hIt_le (xs : List Int) (W : Int) : ∀ (k : Nat) (ls : List Nat), (hIt xs W k ls).length ≤ max ls.length xs.length
  | 0, ls => Nat.le_max_left _ _
  | k + 1, ls => by
    have := hIt_le xs W k (hEnds xs W ls 1 xs.length)
    have h2 := hEnds_le xs W ls
    rw [hIt]
    exact ar395 h2 this
theorem rows_ok {xs : List Int} {W : Int} (hx : ∀ x ∈ xs, 0 ≤ x) (hn : xs.length ≤ 800) (hp : 0 < xs.length) : RowsOk xs.length (headsOf xs W) := by
  obtain ⟨c, h1, h2, h3, h4, h5⟩ := heads_facts (W := W) hx
  refine ⟨fun k hk => ?_⟩
  rw [h3 k (ar396 hk h1)]
  refine ⟨fun e => ?_, ?_, fun b hb => ?_⟩
  · have m : k ∈ hIt xs W k [0] := hIt_mem0.mpr (by have := ones (W := W) hx k 0 (ar397 hk h1 h2); rwa [Nat.zero_add] at this)
    rw [e] at m
    exact absurd m (by simp)
  · have := hIt_le xs W k [0]
    simp only [List.length_singleton] at this
    exact ar398 hn this
  · cases k with
    | zero =>
      have : b = 0 := by simpa [hIt] using hb
      exact ar399 this
    | succ k =>
      obtain ⟨a, _, h⟩ := RR.last (hIt_mem0.mp hb)
      exact h.2
noncomputable def hitB (xs : List Int) (W : Int) (i : Nat) (p : Nat × Nat) : Bool := fitB xs p.1 p.2 W && decide (p.1 ≤ i) && decide (i < p.1 + (p.2 - p.1))
theorem upd2_hit {xs : List Int} {W : Int} {k : Nat} {DD : Nat → List Nat} {p : Nat × Nat} {i : Nat} (h : (DD i).contains k = false) : upd2 xs W k DD p i = if hitB xs W i p = true then DD i ++ [k] else DD i := by
  unfold upd2 hitB
  by_cases h1 : fitB xs p.1 p.2 W = true
  · rw [if_pos h1, h1]
    unfold plUpd
    by_cases h2 : p.1 ≤ i ∧ i < p.1 + (p.2 - p.1)
    · rw [if_pos ⟨h2.1, h2.2, h⟩, if_pos (by simp only [Bool.true_and, Bool.and_eq_true, decide_eq_true_eq]; exact h2)]
    · rw [if_neg (fun z => h2 ⟨z.1, z.2.1⟩), if_neg (fun z => h2 (by simpa only [Bool.true_and, Bool.and_eq_true, decide_eq_true_eq] using z))]
  · rw [if_neg h1]
    have : fitB xs p.1 p.2 W = false := by simpa using h1
    rw [this]
    rfl
theorem upd2_has {xs : List Int} {W : Int} {k : Nat} {DD : Nat → List Nat} {p : Nat × Nat} {i : Nat} (h : (DD i).contains k = true) : upd2 xs W k DD p i = DD i := by
  unfold upd2
  by_cases h1 : fitB xs p.1 p.2 W = true
  · rw [if_pos h1]
    unfold plUpd
    rw [if_neg (fun z => by rw [h] at z; exact Bool.noConfusion z.2.2)]
  · rw [if_neg h1]
theorem fold_has {xs : List Int} {W : Int} {k i : Nat} : ∀ (ps : List (Nat × Nat)) (DD : Nat → List Nat), (DD i).contains k = true → (ps.foldl (upd2 xs W k) DD) i = DD i
  | [], DD, _ => rfl
  | p :: ps, DD, h => by
    have e := upd2_has (xs := xs) (W := W) (p := p) h
    rw [List.foldl_cons, fold_has ps _ (by rw [e]; exact h), e]
theorem fold_hit {xs : List Int} {W : Int} {k i : Nat} : ∀ (ps : List (Nat × Nat)) (DD : Nat → List Nat), (DD i).contains k = false → (ps.foldl (upd2 xs W k) DD) i = if ps.any (hitB xs W i) = true then DD i ++ [k] else DD i
  | [], DD, _ => rfl
  | p :: ps, DD, h => by
    have e := upd2_hit (xs := xs) (W := W) (p := p) h
    rw [List.foldl_cons, List.any_cons]
    cases hp : hitB xs W i p
    · rw [hp] at e
      have e2 : upd2 xs W k DD p i = DD i := e
      rw [fold_hit ps _ (by rw [e2]; exact h), e2, Bool.false_or]
    · rw [hp] at e
      have e2 : upd2 xs W k DD p i = DD i ++ [k] := e
      rw [fold_has ps _ (by rw [e2]; simp), e2, Bool.true_or]
      rfl
noncomputable def dueB (xs : List Int) (W : Int) (i k : Nat) : Bool := (stp2 ((headsOf xs W).getD k []) ((headsOf xs.reverse W).getD ((headsOf xs W).length - 1 - 1 - k) []) xs.length).any (hitB xs W i)
theorem fold_rows {xs : List Int} {W : Int} {i : Nat} : ∀ (m k0 : Nat) (DD : Nat → List Nat), (∀ y ∈ DD i, y < k0) → ((List.range' k0 m).foldl (rowUpd xs W (headsOf xs W) (headsOf xs.reverse W) ((headsOf xs W).length - 1)) DD) i = DD i ++ (List.range' k0 m).filter (dueB xs W i)
  | 0, k0, DD, _ => by simp
  | m + 1, k0, DD, h => by
    have hc : (DD i).contains k0 = false := by
      rw [Bool.eq_false_iff]
      intro z
      have := h k0 (List.contains_iff_mem.mp z)
      exact ar400 this
    have e : rowUpd xs W (headsOf xs W) (headsOf xs.reverse W) ((headsOf xs W).length - 1) DD k0 i = if dueB xs W i k0 = true then DD i ++ [k0] else DD i := fold_hit _ _ hc
    rw [List.range'_succ, List.foldl_cons, fold_rows m (k0 + 1) _ (fun y hy => ?_), e, List.filter_cons]
    · cases hb : dueB xs W i k0
      · simp
      · simp
    · rw [e] at hy
      cases hb : dueB xs W i k0 <;> rw [hb] at hy
      · have := h y (by simpa using hy)
        exact ar401 this
      · rcases List.mem_append.mp (show y ∈ DD i ++ [k0] from hy) with hy | hy
        · have := h y hy
          exact ar401 this
        · have : y = k0 := by simpa using hy
          exact ar402 this
theorem dueOf_eq (xs : List Int) (W : Int) (i : Nat) : dueOf xs W i = (List.range' 0 ((headsOf xs W).length - 1)).filter (dueB xs W i) := by
  unfold dueOf
  rw [fold_rows _ _ _ (fun y hy => by simp at hy)]
  rfl
theorem filter_one {p : Nat → Bool} : ∀ (m k0 a : Nat), k0 ≤ a → a < k0 + m → p a = true → (∀ k, k0 ≤ k → k < k0 + m → p k = true → k = a) → (List.range' k0 m).filter p = [a]
  | 0, k0, a, h1, h2, _, _ => by omega
  | m + 1, k0, a, h1, h2, h3, h4 => by
    rw [List.range'_succ, List.filter_cons]
    by_cases h : k0 = a
    · subst h
      rw [if_pos h3]
      have : (List.range' (k0 + 1) m).filter p = [] := by
        rw [List.filter_eq_nil_iff]
        intro k hk hp
        have hk2 := List.mem_range'.mp hk
        obtain ⟨i, hi, e⟩ := hk2
        have := h4 k (ar403 e) (ar404 hi e) hp
        exact ar405 this e
      rw [this]
    · have : ¬ p k0 = true := fun hp => h (h4 k0 (Nat.le_refl _) (ar92) hp)
      rw [if_neg this]
      exact filter_one m (k0 + 1) a (ar406 h1 h) (ar407 h2) h3 fun k z1 z2 => h4 k (ar35 z1) (ar408 z2)
theorem filter_two {p : Nat → Bool} : ∀ (m k0 a : Nat), k0 ≤ a → a + 1 < k0 + m → p a = true → p (a + 1) = true → (∀ k, k0 ≤ k → k < k0 + m → p k = true → k = a ∨ k = a + 1) → (List.range' k0 m).filter p = [a, a + 1]
  | 0, k0, a, h1, h2, _, _, _ => by omega
  | m + 1, k0, a, h1, h2, h3, h3', h4 => by
    rw [List.range'_succ, List.filter_cons]
    by_cases h : k0 = a
    · subst h
      rw [if_pos h3]
      have := filter_one (p := p) m (k0 + 1) (k0 + 1) (Nat.le_refl _) (ar409 h2) h3' fun k z1 z2 z3 => by
        have := h4 k (ar35 z1) (ar408 z2) z3
        exact ar410 z1 this
      rw [this]
    · have : ¬ p k0 = true := fun hp => by
        have := h4 k0 (Nat.le_refl _) (ar92) hp
        exact ar411 this h1 h
      rw [if_neg this]
      exact filter_two m (k0 + 1) a (ar406 h1 h) (ar412 h2) h3 h3' fun k z1 z2 => h4 k (ar35 z1) (ar408 z2)
section
variable {xs : List Int} {W : Int} (hx : ∀ x ∈ xs, 0 ≤ x)
include hx
theorem hx_rev : ∀ x ∈ xs.reverse, 0 ≤ x := fun x h => hx x (List.mem_reverse.mp h)
theorem FF_rev : FF (Fn xs.reverse W) xs.length := by
  have := FF_fn (W := W) (hx_rev hx)
  rwa [List.length_reverse] at this
theorem heads_rev : (headsOf xs.reverse W).length = (headsOf xs W).length := by
  obtain ⟨c, h1, h2, h3, h4, h5⟩ := heads_facts (W := W) hx
  obtain ⟨c', h1', h2', h3', h4', h5'⟩ := heads_facts (W := W) (hx_rev hx)
  rw [List.length_reverse] at h4' h5'
  have p := Rev.path (FF_fn hx) (FF_rev hx) (rev_fn (xs := xs) (W := W)) h4 (Nat.le_refl _)
  have p' := Rev.path (FF_rev hx) (FF_fn hx) (rev_fn' (xs := xs) (W := W)) h4' (Nat.le_refl _)
  rw [Nat.sub_self, Nat.sub_zero] at p p'
  rcases Nat.lt_trichotomy c c' with h | h | h
  · exact absurd p (h5' c h)
  · exact ar413 h h1 h1'
  · exact absurd p' (h5 c' h)
theorem dueB_iff {i k : Nat} (hk : k < (headsOf xs W).length - 1) : dueB xs W i k = true ↔ Due1 (Fn xs W) xs.length ((headsOf xs W).length - 1) i k := by
  obtain ⟨c, h1, h2, h3, h4, h5⟩ := heads_facts (W := W) hx
  obtain ⟨c', h1', h2', h3', h4', h5'⟩ := heads_facts (W := W) (hx_rev hx)
  have hcc := heads_rev (W := W) hx
  have e1 : c' = c := ar414 hcc h1 h1'
  subst e1
  have e2 : (headsOf xs W).length - 1 = c' := ar415 h1
  rw [e2] at hk ⊢
  unfold dueB
  rw [e2, h3 k (ar179 hk), h3' (c' - 1 - k) (ar416), List.any_eq_true]
  unfold stp2 Due1
  constructor
  · rintro ⟨p, hp, hh⟩
    obtain ⟨a, ha, hp⟩ := List.mem_flatMap.mp hp
    obtain ⟨b, hb, rfl⟩ := List.mem_map.mp hp
    unfold hitB at hh
    rw [Bool.and_eq_true, Bool.and_eq_true, decide_eq_true_eq, decide_eq_true_eq] at hh
    obtain ⟨⟨g1, g2⟩, g3⟩ := hh
    have hlt : a < xs.length - b := by rcases fitB_iff.mp g1 with e | e <;> omega
    have q := Rev.path (FF_rev hx) (FF_fn hx) (rev_fn' (xs := xs) (W := W)) (hIt_mem0.mp hb) (ar419 hlt)
    rw [Nat.sub_zero] at q
    refine ⟨a, xs.length - b, hIt_mem0.mp ha, ⟨g1, Nat.sub_le _ _⟩, q, g2, ?_⟩
    have g3' : i < a + (xs.length - b - a) := g3
    exact ar420 g3' hlt
  · rintro ⟨a, b, g1, g2, g3, g4, g5⟩
    have hbn := g2.2
    have q := Rev.path (FF_fn hx) (FF_rev hx) (rev_fn (xs := xs) (W := W)) g3 (Nat.le_refl _)
    rw [Nat.sub_self] at q
    refine ⟨(a, xs.length - (xs.length - b)), List.mem_flatMap.mpr ⟨a, hIt_mem0.mpr g1, List.mem_map.mpr ⟨xs.length - b, hIt_mem0.mpr q, rfl⟩⟩, ?_⟩
    rw [show xs.length - (xs.length - b) = b by exact ar387 hbn]
    unfold hitB
    rw [Bool.and_eq_true, Bool.and_eq_true, decide_eq_true_eq, decide_eq_true_eq]
    have hlt : a < b := by rcases fitB_iff.mp g2.1 with e | e <;> omega
    exact ⟨⟨g2.1, g4⟩, by show i < a + (b - a); exact ar421 g5⟩
theorem due_law {c : Nat} {G G' : Nat → Nat} (g : Gr (Fn xs W) xs.length c G) {c2 : Nat} (g' : Gr (Fn xs.reverse W) xs.length c2 G') :
    (headsOf xs W).length = c + 1 ∧ c2 = c ∧ ∀ i al be, i < xs.length → al < c → be < c → G al ≤ i → i < G (al + 1) → G' be ≤ xs.length - 1 - i → xs.length - 1 - i < G' (be + 1) →
      al ≤ c - 1 - be ∧ c - 1 - be ≤ al + 1 ∧ dueOf xs W i = al :: List.replicate (c - 1 - be - al) (c - 1 - be) := by
  obtain ⟨m, h1, h2, h3, h4, h5⟩ := heads_facts (W := W) hx
  obtain ⟨m', h1', h2', h3', h4', h5'⟩ := heads_facts (W := W) (hx_rev hx)
  have hcc := heads_rev (W := W) hx
  rw [List.length_reverse] at h4' h5'
  have e1 : m = c := Gr.least (FF_fn hx) g h4 h5
  have e2 : m' = c2 := Gr.least (FF_rev hx) g' h4' h5'
  have e3 : c2 = c := ar422 hcc e1 e2 h1 h1'
  subst e3
  have e1s := e1.symm
  subst e1s
  refine ⟨h1, rfl, fun i al be hi ha hb a1 a2 b1 b2 => ?_⟩
  have e4 : (headsOf xs W).length - 1 = c2 := ar415 h1
  obtain ⟨hall, d1, d2, l1, l2⟩ := due_rows (FF_fn hx) (FF_rev hx) (rev_fn (xs := xs) (W := W)) rev_fn' g g' h5 hi ha hb a1 a2 b1 b2
  have hB : ∀ k, k < c2 → (dueB xs W i k = true ↔ Due1 (Fn xs W) xs.length c2 i k) := fun k hk => by
    have := dueB_iff (W := W) hx (i := i) (k := k) (ar423 e4 hk)
    rwa [e4] at this
  refine ⟨l1, l2, ?_⟩
  rw [dueOf_eq, e4]
  rcases Nat.lt_or_ge al (c2 - 1 - be) with h | h
  · have e5 : c2 - 1 - be = al + 1 := ar424 l2 h
    rw [e5] at d2 hall ⊢
    rw [show al + 1 - al = 1 by exact ar425]
    exact filter_two c2 0 al (ar80) (ar426 e5) ((hB al ha).mpr d1) ((hB (al + 1) (ar427 e5)).mpr d2) fun k _ hk hp => by
      have := hall k (ar428 hk) ((hB k (ar428 hk)).mp hp)
      exact ar429 this
  · have e5 : c2 - 1 - be = al := ar430 l1 h
    rw [e5] at hall ⊢
    rw [Nat.sub_self]
    exact filter_one c2 0 al (ar80) (ar431 e5 hb) ((hB al ha).mpr d1) fun k _ hk hp => by
      have := hall k (ar428 hk) ((hB k (ar428 hk)).mp hp)
      exact ar432 this
end
noncomputable def gr (W : Int) : List Str → List Str → List (List Str)
  | cur, [] => [cur]
  | cur, w :: r => if W < lenOf (cur ++ [w]) then cur :: gr W [w] r else gr W (cur ++ [w]) r
theorem gr_fold (W : Int) : ∀ (ws : List Str) (rs : List Str) (cur : List Str), (ws.foldl (stepW W) (rs, cur)).1 ++ [lineOf (ws.foldl (stepW W) (rs, cur)).2] = rs ++ (gr W cur ws).map lineOf
  | [], rs, cur => rfl
  | w :: ws, rs, cur => by
    rw [List.foldl_cons, gr]
    by_cases h : W < lenOf (cur ++ [w])
    · have e : stepW W (rs, cur) w = (rs ++ [lineOf cur], [w]) := by unfold stepW; rw [if_pos h]
      rw [e, gr_fold W ws, if_pos h, List.map_cons, List.append_assoc]
      rfl
    · have e : stepW W (rs, cur) w = (rs, cur ++ [w]) := by unfold stepW; rw [if_neg h]
      rw [e, gr_fold W ws, if_neg h]
theorem gr_head (W : Int) : ∀ (ws cur : List Str), ∃ y B, gr W cur ws = (cur ++ y) :: B
  | [], cur => ⟨[], [], by simp [gr]⟩
  | w :: ws, cur => by
    rw [gr]
    by_cases h : W < lenOf (cur ++ [w])
    · rw [if_pos h]; exact ⟨[], _, by rw [List.append_nil]⟩
    · rw [if_neg h]
      obtain ⟨y, B, e⟩ := gr_head W ws (cur ++ [w])
      exact ⟨[w] ++ y, B, by rw [e, List.append_assoc]⟩
structure GrW (W : Int) (ws : List Str) (L : List (List Str)) : Prop where
  flat : L.flatten = ws
  ne : ∀ g ∈ L, g ≠ []
  fit : ∀ g ∈ L, g.length = 1 ∨ lenOf g ≤ W
  mx : ∀ A g h t B, L = A ++ g :: (h :: t) :: B → W < lenOf (g ++ [h])
theorem gr_ok (W : Int) : ∀ (ws cur : List Str), cur ≠ [] → (cur.length = 1 ∨ lenOf cur ≤ W) → GrW W (cur ++ ws) (gr W cur ws)
  | [], cur, h1, h2 => by
    refine ⟨by simp [gr], fun g hg => ?_, fun g hg => ?_, fun A g h t B e => ?_⟩
    · have : g = cur := by simpa [gr] using hg
      rw [this]; exact h1
    · have : g = cur := by simpa [gr] using hg
      rw [this]; exact h2
    · have := congrArg List.length e
      simp [gr] at this
      exact ar433 this
  | w :: ws, cur, h1, h2 => by
    rw [gr]
    by_cases h : W < lenOf (cur ++ [w])
    · rw [if_pos h]
      have ih := gr_ok W ws [w] (by simp) (.inl rfl)
      refine ⟨by rw [List.flatten_cons, ih.flat]; rfl, fun g hg => ?_, fun g hg => ?_, fun A g h' t B e => ?_⟩
      · rcases List.mem_cons.mp hg with rfl | hg
        · exact h1
        · exact ih.ne g hg
      · rcases List.mem_cons.mp hg with rfl | hg
        · exact h2
        · exact ih.fit g hg
      · cases A with
        | nil =>
          obtain ⟨y, B', e'⟩ := gr_head W ws [w]
          rw [e', List.nil_append, List.cons.injEq, List.cons.injEq] at e
          obtain ⟨e1, e2, e3⟩ := e
          have e4 : w = h' := by
            have := congrArg (fun l => l.headD "") e2
            simpa using this
          rw [← e1, ← e4]
          exact h
        | cons a A =>
          rw [List.cons_append, List.cons.injEq] at e
          exact ih.mx A g h' t B e.2
    · rw [if_neg h]
      have ih := gr_ok W ws (cur ++ [w]) (by simp) (.inr (ar434 h))
      rw [List.append_assoc] at ih
      exact ih
theorem lenOf_app (a b : List Str) : lenOf (a ++ b) = lenOf a + lenOf b := by
  unfold lenOf
  rw [List.map_append, List.sum_append]
noncomputable def ends (L : List (List Str)) (k : Nat) : Nat := ((L.take k).flatten).length
theorem ends_at {A B : List (List Str)} : ends (A ++ B) A.length = A.flatten.length := by
  unfold ends
  rw [List.take_left' rfl]
theorem ends_next {A B : List (List Str)} {g : List Str} : ends (A ++ g :: B) (A.length + 1) = A.flatten.length + g.length := by
  have := ends_at (A := A ++ [g]) (B := B)
  rw [List.length_append, List.append_assoc] at this
  rw [show A ++ g :: B = A ++ ([g] ++ B) from rfl, show A.length + 1 = A.length + [g].length from rfl, this]
  simp
theorem cut {L : List (List Str)} {k : Nat} (h : k < L.length) : ∃ A g B, L = A ++ g :: B ∧ A.length = k :=
  ⟨L.take k, L[k], L.drop (k + 1), by rw [List.getElem_cons_drop, List.take_append_drop], by rw [List.length_take]; exact ar435 h⟩
theorem xs_take (l r : List Str) : ((lawXs (l ++ r)).take l.length).sum = lenOf l := by
  unfold lawXs lenOf
  rw [List.map_append, List.take_left' (by simp)]
theorem lawXs_pos (ws : List Str) : ∀ x ∈ lawXs ws, 0 ≤ x := fun x hx => by
  obtain ⟨w, _, rfl⟩ := List.mem_map.mp hx
  exact ar436
theorem lawXs_len (ws : List Str) : (lawXs ws).length = ws.length := by simp [lawXs]
theorem gr_ends {W : Int} {ws : List Str} {L : List (List Str)} (g : GrW W ws L) : Gr (Fn (lawXs ws) W) ws.length L.length (ends L) where
  z := rfl
  e := by unfold ends; rw [List.take_length, g.flat]
  step := fun k hk => by
    obtain ⟨A, q, B, hL, hA⟩ := cut hk
    have hq : q ∈ L := by rw [hL]; simp
    have e1 : ends L k = A.flatten.length := by rw [hL, ← hA]; exact ends_at
    have e2 : ends L (k + 1) = A.flatten.length + q.length := by rw [hL, ← hA]; exact ends_next
    have hf : ws = A.flatten ++ (q ++ B.flatten) := by rw [← g.flat, hL]; simp
    have hf2 : ws = (A.flatten ++ q) ++ B.flatten := by rw [hf, List.append_assoc]
    have hpos : 0 < q.length := List.length_pos_iff.mpr (g.ne q hq)
    rw [e1, e2]
    refine ⟨fitB_iff.mpr ?_, by rw [lawXs_len, hf]; simp⟩
    rcases g.fit q hq with h | h
    · exact .inl (ar437 h)
    · refine .inr ⟨ar438 hpos, ?_⟩
      have p1 : ((lawXs ws).take A.flatten.length).sum = lenOf A.flatten := by rw [hf]; exact xs_take _ _
      have p2 : ((lawXs ws).take (A.flatten.length + q.length)).sum = lenOf (A.flatten ++ q) := by
        rw [hf2, ← List.length_append]; exact xs_take _ _
      rw [p1, p2, lenOf_app]
      exact ar439 h
  mx := fun k hk e he => by
    obtain ⟨A, q, B, hL, hA⟩ := cut hk
    have hq : q ∈ L := by rw [hL]; simp
    have e1 : ends L k = A.flatten.length := by rw [hL, ← hA]; exact ends_at
    have e2 : ends L (k + 1) = A.flatten.length + q.length := by rw [hL, ← hA]; exact ends_next
    have hpos : 0 < q.length := List.length_pos_iff.mpr (g.ne q hq)
    have hf : ws = A.flatten ++ (q ++ B.flatten) := by rw [← g.flat, hL]; simp
    rw [e1] at he
    rw [e2]
    rcases Nat.lt_or_ge (A.flatten.length + q.length) e with h | h
    · exfalso
      have hen : e ≤ ws.length := by have := he.2; rwa [lawXs_len] at this
      cases B with
      | nil => rw [hf] at hen; simp at hen; simp at h; exact ar440 h hen
      | cons p B =>
        have hp : p ≠ [] := g.ne p (by rw [hL]; simp)
        obtain ⟨x, t, rfl⟩ : ∃ x t, p = x :: t := by
          cases p with
          | nil => exact absurd rfl hp
          | cons x t => exact ⟨x, t, rfl⟩
        have hW := g.mx A q x t B hL
        have s := (FF_fn (W := W) (lawXs_pos ws)).sub _ _ A.flatten.length (A.flatten.length + q.length + 1) he (Nat.le_refl _) (ar441) (ar442 h)
        have hf3 : ws = (A.flatten ++ (q ++ [x])) ++ (t ++ B.flatten) := by rw [hf]; simp
        have p1 : ((lawXs ws).take A.flatten.length).sum = lenOf A.flatten := by rw [hf]; exact xs_take _ _
        have p2 : ((lawXs ws).take (A.flatten.length + q.length + 1)).sum = lenOf (A.flatten ++ (q ++ [x])) := by
          have := xs_take (A.flatten ++ (q ++ [x])) (t ++ B.flatten)
          rw [← hf3] at this
          rw [← this]
          simp [Nat.add_assoc]
        rcases fitB_iff.mp s.1 with z | ⟨z1, z2⟩
        · exact ar443 hpos z
        · rw [p1, p2, lenOf_app] at z2
          exact ar444 z2 hW
    · exact h
theorem Gr.find {F : Nat → Nat → Prop} {n c : Nat} {G : Nat → Nat} (g : Gr F n c G) {p : Nat} : ∀ m, m ≤ c → p < G m → ∃ k, k < m ∧ G k ≤ p ∧ p < G (k + 1)
  | 0, _, h => by rw [g.z] at h; omega
  | m + 1, hm, h => by
    by_cases h2 : p < G m
    · obtain ⟨k, h3, h4⟩ := Gr.find g m (ar35 hm) h2
      exact ⟨k, ar401 h3, h4⟩
    · exact ⟨m, ar445, ar120 h2, h⟩
theorem places_at : ∀ (A : List Str) (r : Str) (B : List Str) (j i : Nat), i < blanks r → (placesFrom j (A ++ r :: B))[(A.map blanks).sum + i]? = some (j + A.length)
  | [], r, B, j, i, h => by
    show (List.replicate (blanks r) j ++ _)[0 + i]? = _
    rw [Nat.zero_add, List.getElem?_append_left (by rw [List.length_replicate]; exact h), List.getElem?_replicate, if_pos h]
    rfl
  | a :: A, r, B, j, i, h => by
    have ih := places_at A r B (j + 1) i h
    show (List.replicate (blanks a) j ++ placesFrom (j + 1) (A ++ r :: B))[((a :: A).map blanks).sum + i]? = _
    rw [List.map_cons, List.sum_cons, List.getElem?_append_right (by rw [List.length_replicate]; exact ar446), List.length_replicate, show blanks a + (A.map blanks).sum + i - blanks a = (A.map blanks).sum + i by exact ar447, ih, List.length_cons, show j + 1 + A.length = j + (A.length + 1) by exact ar69]
theorem places_len : ∀ (rows : List Str) (j : Nat), (placesFrom j rows).length = (rows.map blanks).sum
  | [], j => rfl
  | r :: rows, j => by
    rw [placesFrom, List.length_append, List.length_replicate, places_len rows, List.map_cons, List.sum_cons]
theorem place_of {W : Int} {ws : List Str} {L : List (List Str)} {rows : List Str} (g : GrW W ws L) (hr : rows = L.map lineOf) (hb : ∀ q ∈ L, blanks (lineOf q) = q.length) {p k : Nat} (hk : k < L.length) (h1 : ends L k ≤ p) (h2 : p < ends L (k + 1)) :
    (placesFrom 0 rows)[p]? = some k := by
  obtain ⟨A, q, B, hL, hA⟩ := cut hk
  have hq : q ∈ L := by rw [hL]; simp
  have e1 : ends L k = A.flatten.length := by rw [hL, ← hA]; exact ends_at
  have e2 : ends L (k + 1) = A.flatten.length + q.length := by rw [hL, ← hA]; exact ends_next
  have hs : ((A.map lineOf).map blanks).sum = A.flatten.length := by
    rw [List.length_flatten, List.map_map]
    congr 1
    apply List.map_congr_left
    intro a ha
    exact hb a (by rw [hL]; simp [ha])
  have := places_at (A.map lineOf) (lineOf q) (B.map lineOf) 0 (p - A.flatten.length) (by rw [hb q hq]; exact ar448 h2 e1 e2 h1)
  rw [hs, List.length_map, hA, show A.flatten.length + (p - A.flatten.length) = p by exact ar449 e1 h1, Nat.zero_add] at this
  rw [hr, hL, List.map_append, List.map_cons]
  exact this
theorem places_all {W : Int} {ws : List Str} {L : List (List Str)} {rows : List Str} (g : GrW W ws L) (hr : rows = L.map lineOf) (hb : ∀ q ∈ L, blanks (lineOf q) = q.length) : (placesFrom 0 rows).length = ws.length := by
  rw [places_len, hr, List.map_map, ← g.flat, List.length_flatten]
  congr 1
  apply List.map_congr_left
  intro a ha
  exact hb a ha
noncomputable def toL (x : Str) : List Nat := x.cps.toList
theorem toL_inj {x y : Str} (h : toL x = toL y) : x = y := Str.ext' (Array.toList_inj.mp h)
theorem toL_app (x y : Str) : toL (x ++ y) = toL x ++ toL y := by
  unfold toL
  rw [Str.cps_append, Array.toList_append]
theorem toL_len (x : Str) : (toL x).length = x.length := by simp [toL, Str.length]
noncomputable def icat (c : Nat) : List (List Nat) → List Nat
  | [] => []
  | [x] => x
  | x :: y :: r => x ++ c :: icat c (y :: r)
theorem join_icat (c : Nat) : ∀ l : List Str, toL (Txt.join ⟨#[c]⟩ l) = icat c (l.map toL) := by
  intro l
  show toL (Builtin.Str.glued _ l) = _
  rw [StrLaws.glued_eq_join]
  induction l with
  | nil => rfl
  | cons x l ih =>
    cases l with
    | nil => rfl
    | cons y l =>
      show toL (x ++ (⟨#[c]⟩ : Str) ++ Str.join ⟨#[c]⟩ (y :: l)) = _
      rw [toL_app, toL_app, ih]
      show _ = toL x ++ c :: icat c ((y :: l).map toL)
      rw [List.append_assoc]
      rfl
theorem join_flat : ∀ l : List Str, toL (Txt.join "" l) = (l.map toL).flatten := by
  intro l
  show toL (Builtin.Str.glued _ l) = _
  rw [StrLaws.glued_eq_join]
  induction l with
  | nil => rfl
  | cons x l ih =>
    cases l with
    | nil => show toL x = _; simp
    | cons y l =>
      show toL (x ++ ("" : Str) ++ Str.join "" (y :: l)) = _
      rw [toL_app, toL_app, ih]
      show toL x ++ [] ++ _ = _
      rw [List.append_nil]
      rfl
theorem first_cut {c : Nat} : ∀ {x y A B : List Nat}, c ∉ x → c ∉ y → x ++ c :: A = y ++ c :: B → x = y ∧ A = B
  | [], [], A, B, _, _, h => ⟨rfl, by simpa using h⟩
  | [], b :: y, A, B, _, h2, h => by
    have : c = b := by simpa using congrArg (fun l => l.headD 0) h
    exact absurd (by rw [this]; simp) h2
  | a :: x, [], A, B, h1, _, h => by
    have : a = c := by simpa using congrArg (fun l => l.headD 0) h
    exact absurd (by rw [this]; simp) h1
  | a :: x, b :: y, A, B, h1, h2, h => by
    rw [List.cons_append, List.cons_append, List.cons.injEq] at h
    have ih := first_cut (fun m => h1 (List.mem_cons_of_mem _ m)) (fun m => h2 (List.mem_cons_of_mem _ m)) h.2
    exact ⟨by rw [h.1, ih.1], ih.2⟩
theorem icat_inj {c : Nat} : ∀ {P Q : List (List Nat)}, P ≠ [] → Q ≠ [] → (∀ p ∈ P, c ∉ p) → (∀ q ∈ Q, c ∉ q) → icat c P = icat c Q → P = Q
  | [], _, h, _, _, _, _ => absurd rfl h
  | _ :: _, [], _, h, _, _, _ => absurd rfl h
  | [x], [y], _, _, _, _, h => by
    have : x = y := h
    rw [this]
  | [x], y :: z :: Q, _, _, h1, _, h => by
    have h' : x = y ++ c :: icat c (z :: Q) := h
    exact absurd (by rw [h']; simp) (h1 x (by simp))
  | x :: z :: P, [y], _, _, _, h2, h => by
    have h' : x ++ c :: icat c (z :: P) = y := h
    exact absurd (by rw [← h']; simp) (h2 y (by simp))
  | x :: z :: P, y :: u :: Q, _, _, h1, h2, h => by
    have h' : x ++ c :: icat c (z :: P) = y ++ c :: icat c (u :: Q) := h
    obtain ⟨e1, e2⟩ := first_cut (h1 x (by simp)) (h2 y (by simp)) h'
    have ih := icat_inj (P := z :: P) (Q := u :: Q) (by simp) (by simp) (fun p hp => h1 p (List.mem_cons_of_mem _ hp)) (fun q hq => h2 q (List.mem_cons_of_mem _ hq)) e2
    rw [e1, ih]
theorem split_ne (x y : Str) : Txt.split x y ≠ [] := by
  unfold Txt.split
  split
  · simp
  · split
    · simp
    · rw [StrLaws.partsBetween_eq]
      obtain ⟨p, r, e⟩ := StrLaws.partsFrom_ne x y.length 0 (Builtin.Str.occurrences x y 0 x.length (x.length + 1))
      rw [e]
      simp
theorem map_inj {l r : List Str} (h : l.map toL = r.map toL) : l = r := by
  induction l generalizing r with
  | nil => cases r with
    | nil => rfl
    | cons _ _ => simp at h
  | cons x l ih => cases r with
    | nil => simp at h
    | cons y r =>
      rw [List.map_cons, List.map_cons, List.cons.injEq] at h
      rw [toL_inj h.1, ih h.2]
theorem split_parts {c : Nat} {x : Str} {P : List Str} (hP : P ≠ []) (hc : ∀ p ∈ P, c ∉ toL p) (hx : toL x = icat c (P.map toL)) : Txt.split x ⟨#[c]⟩ = P := by
  apply map_inj
  apply icat_inj (c := c)
  · simpa using split_ne x ⟨#[c]⟩
  · simpa using hP
  · intro p hp
    obtain ⟨q, hq, rfl⟩ := List.mem_map.mp hp
    exact StrLaws.split_free x c q hq
  · intro p hp
    obtain ⟨q, hq, rfl⟩ := List.mem_map.mp hp
    exact hc q hq
  · rw [← hx, ← join_icat]
    show toL (Builtin.Str.glued _ _) = _
    rw [StrLaws.glued_eq_join, StrLaws.join_split]
theorem split_join {c : Nat} {P : List Str} (hP : P ≠ []) (hc : ∀ p ∈ P, c ∉ toL p) : Txt.split (Txt.join ⟨#[c]⟩ P) ⟨#[c]⟩ = P := split_parts hP hc (join_icat c P)
theorem partsFrom_len (x : Str) (w : Nat) : ∀ (cuts : List Nat) (a : Nat), (StrLaws.partsFrom x w a cuts).length = cuts.length + 1
  | [], a => rfl
  | c :: r, a => by
    show (StrLaws.partsFrom x w (c + w) r).length + 1 = _
    rw [partsFrom_len x w r]
    rfl
theorem occ_split {c : Nat} {x : Str} {P : List Str} (h : Txt.split x ⟨#[c]⟩ = P) (h2 : 2 ≤ P.length) : (Builtin.Str.occurrences x ⟨#[c]⟩ 0 x.length (x.length + 1)).length + 1 = P.length := by
  unfold Txt.split at h
  split at h
  · rw [← h] at h2; simp at h2
  · split at h
    · rw [← h] at h2; simp at h2
    · rw [StrLaws.partsBetween_eq] at h
      rw [← h, partsFrom_len]
theorem icat_words : ∀ (q : List (List Nat)) (a : List Nat), icat 32 (a :: q) = a ++ (q.map (32 :: ·)).flatten
  | [], a => by simp [icat]
  | x :: q, a => by
    show a ++ 32 :: icat 32 (x :: q) = _
    rw [icat_words q x]
    simp
theorem toL_line : ∀ (q : List Str), toL (lineOf q) = ((q.map toL).map (32 :: ·)).flatten := by
  intro q
  unfold lineOf
  rw [join_flat, List.map_map, List.map_map]
  congr 1
  apply List.map_congr_left
  intro w _
  show toL (Txt.join "" [" ", w]) = 32 :: toL w
  rw [join_flat]
  show [32] ++ (toL w ++ []) = _
  simp
theorem sp32 : (Str.ofString " ") = ⟨#[32]⟩ := by decide +kernel
theorem nl10 : (Str.ofString "\n") = ⟨#[10]⟩ := by decide +kernel
theorem blanks_line {q : List Str} (h0 : q ≠ []) (h : ∀ w ∈ q, 32 ∉ toL w) : blanks (lineOf q) = q.length := by
  have e : toL (lineOf q) = icat 32 ((("" : Str) :: q).map toL) := by
    rw [List.map_cons, icat_words, toL_line]
    rfl
  have hs := split_parts (c := 32) (x := lineOf q) (P := "" :: q) (by simp) (fun p hp => by
    rcases List.mem_cons.mp hp with rfl | hp
    · show 32 ∉ ([] : List Nat); simp
    · exact h p hp) e
  have hl : 0 < q.length := List.length_pos_iff.mpr h0
  have := occ_split hs (by rw [List.length_cons]; exact ar450 hl)
  unfold blanks
  rw [sp32]
  rw [List.length_cons] at this
  exact ar451 this
theorem line_len (q : List Str) : (lineOf q).length = (q.map fun w => 1 + w.length).sum := by
  rw [← toL_len, toL_line, List.length_flatten, List.map_map, List.map_map]
  congr 1
  apply List.map_congr_left
  intro w _
  show (32 :: toL w).length = _
  rw [List.length_cons, toL_len]
  exact ar452
theorem lines_flat : ∀ (L : List (List Str)), ((L.map lineOf).map toL).flatten = ((L.flatten.map toL).map (32 :: ·)).flatten
  | [] => rfl
  | q :: L => by
    rw [List.map_cons, List.map_cons, List.flatten_cons, lines_flat L, List.flatten_cons, List.map_append, List.map_append, List.flatten_append, toL_line]
noncomputable def WordOk (w : Str) : Prop := ∃ c m, 97 ≤ c ∧ c < 107 ∧ 1 ≤ m ∧ m ≤ 6 ∧ toL w = List.replicate m c
theorem toL_rep (c : Nat) (m : Nat) : toL (repS c m) = List.replicate m c := by
  have : ∀ (m : Nat) (a : Array Nat), ((List.replicate m #[c]).foldl (· ++ ·) a).toList = a.toList ++ List.replicate m c := by
    intro m
    induction m with
    | zero => intro a; simp
    | succ m ih =>
      intro a
      rw [List.replicate_succ, List.foldl_cons, ih, Array.toList_append, List.append_assoc, List.replicate_succ]
      rfl
  have := this m #[]
  unfold toL repS
  rw [this]
  simp
theorem words_ok : ∀ (l : List Int) (k : Nat), k + l.length ≤ 10 → ∀ w ∈ wordsFrom k l, WordOk w
  | [], k, _, w, hw => by simp [wordsFrom] at hw
  | x :: l, k, hk, w, hw => by
    rw [List.length_cons] at hk
    have f6 := fmod_6 x
    rcases List.mem_cons.mp (show w ∈ repS (97 + k) (1 + x.fmod 6).toNat :: wordsFrom (k + 1) l from hw) with rfl | hw
    · exact ⟨97 + k, (1 + x.fmod 6).toNat, ar453, ar454 hk, ar455 f6, ar456 f6, toL_rep _ _⟩
    · exact words_ok l (k + 1) (ar457 hk) w hw
theorem WordOk.len {w : Str} (h : WordOk w) : 1 ≤ w.length ∧ w.length ≤ 6 := by
  obtain ⟨c, m, _, _, h1, h2, e⟩ := h
  rw [← toL_len, e, List.length_replicate]
  exact ⟨h1, h2⟩
theorem WordOk.free {w : Str} (h : WordOk w) : 32 ∉ toL w ∧ 10 ∉ toL w := by
  obtain ⟨c, m, h1, _, _, _, e⟩ := h
  rw [e]
  constructor
  · intro hm; have := (List.mem_replicate.mp hm).2; exact ar458 this h1
  · intro hm; have := (List.mem_replicate.mp hm).2; exact ar459 this h1
theorem sum_le {B : Nat} : ∀ {l : List Nat}, (∀ x ∈ l, x ≤ B) → l.sum ≤ l.length * B
  | [], _ => by simp
  | x :: l, h => by
    have h1 := h x (by simp)
    have h2 := sum_le (l := l) fun y hy => h y (by simp [hy])
    rw [List.sum_cons, List.length_cons, Nat.succ_mul]
    exact ar460 h1 h2
theorem len_flat {L : List (List Str)} : ∀ {q : List Str}, q ∈ L → q.length ≤ L.flatten.length := by
  induction L with
  | nil => intro q h; simp at h
  | cons a L ih =>
    intro q h
    rw [List.flatten_cons, List.length_append]
    rcases List.mem_cons.mp h with rfl | h
    · exact ar461
    · have := ih h; exact ar462 this
theorem count_flat : ∀ {L : List (List Str)}, (∀ g ∈ L, g ≠ []) → L.length ≤ L.flatten.length
  | [], _ => by simp
  | a :: L, h => by
    have h1 : 0 < a.length := List.length_pos_iff.mpr (h a (by simp))
    have h2 := count_flat (L := L) fun g hg => h g (by simp [hg])
    rw [List.flatten_cons, List.length_append, List.length_cons]
    exact ar463 h1 h2
theorem spaces : ∀ k, k < 10 → Unicode.isSpace (97 + k) = false := by decide +kernel
theorem cur_ok (W : Int) : ∀ (ws rs cur : List Str), cur ≠ [] → (∀ w ∈ cur, WordOk w) → (∀ w ∈ ws, WordOk w) → (ws.foldl (stepW W) (rs, cur)).2 ≠ [] ∧ ∀ w ∈ (ws.foldl (stepW W) (rs, cur)).2, WordOk w
  | [], rs, cur, h1, h2, _ => ⟨h1, h2⟩
  | x :: ws, rs, cur, h1, h2, h3 => by
    rw [List.foldl_cons]
    have hx := h3 x (by simp)
    have hr : ∀ w ∈ ws, WordOk w := fun w hw => h3 w (by simp [hw])
    by_cases h : W < lenOf (cur ++ [x])
    · have e : stepW W (rs, cur) x = (rs ++ [lineOf cur], [x]) := by unfold stepW; rw [if_pos h]
      rw [e]
      exact cur_ok W ws _ _ (by simp) (fun w hw => by rw [List.mem_singleton.mp hw]; exact hx) hr
    · have e : stepW W (rs, cur) x = (rs, cur ++ [x]) := by unfold stepW; rw [if_neg h]
      rw [e]
      exact cur_ok W ws _ _ (by simp) (fun w hw => by
        rcases List.mem_append.mp hw with hw | hw
        · exact h2 w hw
        · rw [List.mem_singleton.mp hw]; exact hx) hr
theorem line_sp {q : List Str} (h0 : q ≠ []) (h : ∀ w ∈ q, WordOk w) : (lineOf q).cps.all Unicode.isSpace = false := by
  rw [Bool.eq_false_iff]
  intro hs
  rw [← Array.all_toList, List.all_eq_true] at hs
  cases q with
  | nil => exact h0 rfl
  | cons w q =>
    obtain ⟨c, m, h1, h2, h3, h4, e⟩ := h w (by simp)
    have hm : c ∈ toL (lineOf (w :: q)) := by
      rw [toL_line, List.map_cons, List.map_cons, List.flatten_cons]
      apply List.mem_append_left
      apply List.mem_cons_of_mem
      rw [e]
      exact List.mem_replicate.mpr ⟨ar464 h3, rfl⟩
    have z := hs c hm
    have z2 := spaces (c - 97) (ar465 h2)
    rw [show 97 + (c - 97) = c by exact ar466 h1] at z2
    rw [z2] at z
    exact Bool.noConfusion z
structure RowsF (W : Int) (ws : List Str) (L : List (List Str)) : Prop where
  gr : GrW W ws L
  rows : lawRows W ws = L.map lineOf
  bl : ∀ q ∈ L, blanks (lineOf q) = q.length
  good : GoodWs W ws
  pos : 0 < L.length
  len : L.length ≤ ws.length
  mem : ∀ q ∈ L, 0 < q.length ∧ q.length ≤ ws.length
  ll : ∀ q ∈ L, (lineOf q).length ≤ 70
theorem rows_law {W : Int} {ws : List Str} (hw : ∀ w ∈ ws, WordOk w) (hn : ws.length ≤ 10) (hp : 0 < ws.length) : ∃ L, RowsF W ws L := by
  obtain ⟨w0, rest, rfl⟩ : ∃ w0 rest, ws = w0 :: rest := by
    cases ws with
    | nil => simp at hp
    | cons a b => exact ⟨a, b, rfl⟩
  have g : GrW W (w0 :: rest) (gr W [w0] rest) := gr_ok W rest [w0] (by simp) (.inl rfl)
  have hst : stOf W (w0 :: rest) = rest.foldl (stepW W) ([], [w0]) := rfl
  have hr : rowsOf W (w0 :: rest) = (gr W [w0] rest).map lineOf := by
    unfold rowsOf
    rw [hst, gr_fold]
    rfl
  generalize hL : gr W [w0] rest = L at g hr
  generalize hws : w0 :: rest = ws at *
  have hq : ∀ q ∈ L, ∀ w ∈ q, w ∈ ws := fun q hq w hw' => by rw [← g.flat]; exact List.mem_flatten.mpr ⟨q, hq, hw'⟩
  have hml : ∀ q ∈ L, 0 < q.length ∧ q.length ≤ ws.length := fun q h => ⟨List.length_pos_iff.mpr (g.ne q h), by rw [← g.flat]; exact len_flat h⟩
  have hc : L.length ≤ ws.length := by rw [← g.flat]; exact count_flat g.ne
  have hL0 : L ≠ [] := fun e => by
    have := g.flat
    rw [e] at this
    rw [← this] at hp
    simp at hp
  have hll : ∀ q ∈ L, (lineOf q).length ≤ 70 := fun q h => by
    rw [line_len]
    have := sum_le (B := 7) (l := q.map fun w => 1 + w.length) fun x hx => by
      obtain ⟨w, h1, rfl⟩ := List.mem_map.mp hx
      have := (hw w (hq q h w h1)).len
      exact ar467 this
    rw [List.length_map] at this
    have := (hml q h).2
    omega
  have hfree : ∀ p ∈ L.map lineOf, 10 ∉ toL p := fun p h hm => by
    obtain ⟨q, h1, rfl⟩ := List.mem_map.mp h
    rw [toL_line] at hm
    obtain ⟨y, h2, h3⟩ := List.mem_flatten.mp hm
    obtain ⟨z, h4, rfl⟩ := List.mem_map.mp h2
    obtain ⟨w, h5, rfl⟩ := List.mem_map.mp h4
    rcases List.mem_cons.mp h3 with h6 | h6
    · exact ar469 h6
    · exact (hw w (hq q h1 w h5)).free.2 h6
  have hsum : ((L.map lineOf).map (·.length)).sum ≤ 700 := by
    have := sum_le (B := 70) (l := (L.map lineOf).map (·.length)) fun x hx => by
      obtain ⟨p, h1, rfl⟩ := List.mem_map.mp hx
      obtain ⟨q, h2, rfl⟩ := List.mem_map.mp h1
      exact hll q h2
    rw [List.length_map, List.length_map] at this
    exact ar470 hn hc this
  have hjl : (Txt.join "\n" (L.map lineOf)).length ≤ 710 := by
    have e : Txt.join "\n" (L.map lineOf) = Str.join "\n" (L.map lineOf) := StrLaws.glued_eq_join _ _
    have := StrLaws.join_length_le "\n" (L.map lineOf)
    rw [← e, List.length_map, show ("\n" : Str).length = 1 from rfl] at this
    exact ar471 hn hsum hc this
  refine ⟨L, g, ?_, fun q h => blanks_line (g.ne q h) fun w h1 => (hw w (hq q h w h1)).free.1, ?_, List.length_pos_iff.mpr hL0, hc, hml, hll⟩
  · unfold lawRows
    rw [hr]
    show Txt.split (Txt.join (Str.ofString "\n") _) (Str.ofString "\n") = _
    rw [nl10]
    exact split_join (by simpa using hL0) hfree
  · refine ⟨ar472 hn, hp, fun x hx => ⟨by have := (hw x hx).len; exact ar473 this, ?_⟩, ?_, ?_, ?_, ?_⟩
    · rw [beq_eq_false_iff_ne]
      intro e
      have := (hw x hx).len
      rw [e] at this
      exact absurd this.1 (by decide)
    · have := cur_ok W rest [] [w0] (by simp) (fun w h => by rw [List.mem_singleton.mp h]; exact hw w0 (by rw [← hws]; simp)) (fun w h => hw w (by rw [← hws]; simp [h]))
      rw [hst]
      exact line_sp this.1 this.2
    · rw [hr]; exact ar474 hsum
    · rw [hr]; exact Nat.le_trans hjl (by decide)
    · rw [hr, StrLaws.partsBetween_eq, partsFrom_len]
      have := StrLaws.occ_length_le (Txt.join "\n" (L.map lineOf)) "\n" 0 (Txt.join "\n" (L.map lineOf)).length ((Txt.join "\n" (L.map lineOf)).length + 1)
      exact Nat.le_trans (show _ ≤ 712 by exact ar475 hjl this) (by decide)
theorem sp_len (w : Str) : ((" " : Str) ++ w).length = 1 + w.length := by
  rw [Str.length_append]
  rfl
theorem lawXs_rev (ws : List Str) : lawXs ws.reverse = (lawXs ws).reverse := by unfold lawXs; rw [List.map_reverse]
theorem lawF (ns : List Int) : LawF (lawW ns) (wordsFrom 0 (lawNum ns)) (lawXs (wordsFrom 0 (lawNum ns))) (lawRows (lawW ns) (wordsFrom 0 (lawNum ns))) (lawRows (lawW ns) (wordsFrom 0 (lawNum ns)).reverse) := by
  have hnum : (lawNum ns).length ≤ 10 ∧ 0 < (lawNum ns).length := by simp [lawNum]; exact ar239
  have hwlen := wordsFrom_len (lawNum ns) 0
  have hok := words_ok (lawNum ns) 0 (ar476 hnum)
  generalize wordsFrom 0 (lawNum ns) = ws at *
  generalize lawW ns = W at *
  obtain ⟨L, r⟩ := rows_law (W := W) hok (ar477 hwlen hnum) (ar478 hwlen hnum)
  obtain ⟨L', r'⟩ := rows_law (W := W) (ws := ws.reverse) (fun w hw => hok w (List.mem_reverse.mp hw)) (by rw [List.length_reverse]; exact ar477 hwlen hnum) (by rw [List.length_reverse]; exact ar478 hwlen hnum)
  have hx := lawXs_pos ws
  have hxl := lawXs_len ws
  have g := gr_ends r.gr
  have g' := gr_ends r'.gr
  rw [lawXs_rev, List.length_reverse, ← hxl] at g'
  rw [← hxl] at g
  obtain ⟨hc, hcc, hdue⟩ := due_law hx g g'
  have hrl := r.len
  have hrl' := r'.len
  have hpos := r.pos
  rw [List.length_reverse] at hrl'
  have hpl := places_all r.gr r.rows r.bl
  have hpl' := places_all r'.gr r'.rows r'.bl
  rw [List.length_reverse] at hpl'
  have hbl : ∀ q ∈ L, 0 < blanks (lineOf q) ∧ blanks (lineOf q) ≤ 1000 := fun q hq => by
    have := r.mem q hq
    rw [r.bl q hq]
    exact ar479 this hwlen hnum
  have hbl' : ∀ q ∈ L', 0 < blanks (lineOf q) ∧ blanks (lineOf q) ≤ 1000 := fun q hq => by
    have := r'.mem q hq
    rw [List.length_reverse] at this
    rw [r'.bl q hq]
    exact ar479 this hwlen hnum
  have hpos' : 0 < L'.length := r'.pos
  constructor
  case good => exact r.good
  case goodR => exact r'.good
  case len => exact ar477 hwlen hnum
  case pos => exact ar480 hpos' hrl'
  case wl =>
    intro w hw
    have := (hok w hw).len
    exact ⟨by rw [beq_eq_false_iff_ne]; exact ar481 this, ar473 this⟩
  case join =>
    apply toL_inj
    rw [join_flat, join_flat, r.rows, r'.rows, List.map_append, List.flatten_append, lines_flat, lines_flat, r.gr.flat, r'.gr.flat, ← List.flatten_append, ← List.map_append, ← List.map_append, List.map_map, List.map_map]
    congr 1
    apply List.map_congr_left
    intro w _
    show 32 :: toL w = toL ((" " : Str) ++ w)
    rw [toL_app]
    rfl
  case jsz =>
    have := sum_le (B := 70) (l := (lawRows W ws ++ lawRows W ws.reverse).map (·.length)) fun x hx' => by
      obtain ⟨p, h1, rfl⟩ := List.mem_map.mp hx'
      rw [r.rows, r'.rows] at h1
      rcases List.mem_append.mp h1 with h1 | h1
      · obtain ⟨q, h2, rfl⟩ := List.mem_map.mp h1
        exact r.ll q h2
      · obtain ⟨q, h2, rfl⟩ := List.mem_map.mp h1
        exact r'.ll q h2
    rw [List.length_map, List.length_append, r.rows, r'.rows, List.length_map, List.length_map] at this
    rw [r.rows, r'.rows]
    exact ar482 hwlen this hnum hrl hrl'
  case jsz2 =>
    have := sum_le (B := 7) (l := ((ws ++ ws.reverse).map (fun w => (" " : Str) ++ w)).map (·.length)) fun x hx' => by
      obtain ⟨p, h1, rfl⟩ := List.mem_map.mp hx'
      obtain ⟨w, h2, rfl⟩ := List.mem_map.mp h1
      have hw : w ∈ ws := by simpa using h2
      have := (hok w hw).len
      rw [sp_len]
      exact ar467 this
    rw [List.length_map, List.length_map, List.length_append, List.length_reverse] at this
    exact ar483 hwlen this hnum
  case nr => rw [r.rows, List.length_map, hc]; rfl
  case nb => rw [r'.rows, List.length_map, hc, hcc]; rfl
  case rp => rw [r.rows, List.length_map]; exact ar484 hpos hwlen hnum hrl
  case br =>
    intro p hp
    rw [r.rows] at hp
    obtain ⟨q, hq, rfl⟩ := List.mem_map.mp hp
    exact hbl q hq
  case bb =>
    intro p hp
    rw [r'.rows] at hp
    obtain ⟨q, hq, rfl⟩ := List.mem_map.mp hp
    exact hbl' q hq
  case v =>
    intro x hx'
    obtain ⟨w, hw, rfl⟩ := List.mem_map.mp hx'
    have := (hok w hw).len
    exact ar485 this
  case h1 => exact rows_ok hx (ar486 hwlen hxl hnum) (ar487 hpos' hxl hrl')
  case h2 =>
    have := rows_ok (W := W) (hx_rev hx) (by rw [List.length_reverse]; exact ar486 hwlen hxl hnum) (by rw [List.length_reverse]; exact ar487 hpos' hxl hrl')
    rwa [List.length_reverse] at this
  case hlen => exact heads_rev hx
  case hcnt => exact ar488 hwlen hc hnum hrl
  case hdl =>
    intro i
    rw [dueOf_eq]
    have := List.length_filter_le (dueB (lawXs ws) W i) (List.range' 0 ((headsOf (lawXs ws) W).length - 1))
    rw [List.length_range'] at this
    exact ar489 hwlen hc hnum hrl this
  case pl => exact hpl
  case plb => exact hpl'
  case due =>
    intro i hi
    obtain ⟨al, ha, a1, a2⟩ := Gr.find g (p := i) L.length (Nat.le_refl _) (by rw [g.e]; exact ar265 hi hxl)
    obtain ⟨be, hb, b1, b2⟩ := Gr.find g' (p := ws.length - 1 - i) L'.length (Nat.le_refl _) (by rw [g'.e]; exact ar490 hi hxl)
    rw [hcc] at hb
    obtain ⟨l1, l2, hd⟩ := hdue i al be (ar265 hi hxl) ha hb a1 a2 (by rw [hxl]; exact b1) (by rw [hxl]; exact b2)
    have p1 := place_of r.gr r.rows r.bl ha a1 a2
    have p2 := place_of r'.gr r'.rows r'.bl (ar265 hb hcc) b1 b2
    have e1 : (placesFrom 0 (lawRows W ws)).getD i 0 = al := by rw [List.getD_eq_getElem?_getD, p1]; rfl
    have e2 : (placesFrom 0 (lawRows W ws.reverse)).reverse.getD i 0 = be := by
      rw [List.getD_eq_getElem?_getD, List.getElem?_reverse (ar265 hi hpl'), hpl', p2]
      rfl
    rw [e1, e2, hc, hd]
    refine ⟨(al : Int), ((L.length - 1 - be : Nat) : Int), rfl, ar491 hb, ar492 l1, ar493 l2, ?_⟩
    rw [List.map_cons, List.map_replicate, show (((L.length - 1 - be : Nat) : Int) - (al : Int)).toNat = L.length - 1 - be - al by exact ar494]
theorem ints_intA : ∀ {vs : List Value} {ns : List Int}, IntsAre vs ns → ∃ f : Nat → Nat, vs.toArray = intA ns f
  | [], [], .nil => ⟨fun _ => 0, (intA_nil _).symm⟩
  | _ :: vs, _ :: ns, .cons n t h => by
    obtain ⟨f, hf⟩ := ints_intA h
    refine ⟨fun i => if i = 0 then t else f (i - 1), ?_⟩
    apply Array.ext'
    apply List.ext_getElem?
    intro i
    rw [Array.getElem?_toList (xs := intA _ _), intA_get]
    cases i with
    | zero => rfl
    | succ i =>
      have := congrArg (fun a : Array Value => a[i]?) hf
      simp only [List.getElem?_toArray, intA_get] at this
      simp only [List.getElem?_cons_succ, this, Nat.add_sub_cancel]
      rfl
structure KTab (K : Params → KT) : Prop where
  t0 : ∀ P, (K P).get 140 = some (tableObj #[])
  t1 : ∀ P, (K P).get 147 = some (tableObj #[])
  c0 : ∀ P, (ktd K P).get 144 = some (objD K P 144) ∧ (objD K P 144).cls = .type "code" ∧ (objD K P 144).data = .fields (fldD (objD K P 144).data) ∧ (fldD (objD K P 144).data)[11]? = some (.ref 140)
  c1 : ∀ P, (ktd K P).get 151 = some (objD K P 151) ∧ (objD K P 151).cls = .type "code" ∧ (objD K P 151).data = .fields (fldD (objD K P 151).data) ∧ (fldD (objD K P 151).data)[11]? = some (.ref 147)
theorem law_walk {K : Params → KT} [ok : Nonempty (KOk K)] (o : OkLaw K) (kt : KTab K) {w : World} {s₁ : Shared} (ZH : KT.Holds s₁.heap 1 0 (K w.params)) (hsz : s₁.heap.objs.size = 217 + 1) (hg : s₁.gens = #[]) {vs : List Value} {ns : List Int}
    (hobj : s₁.heap.get? 217 = some { cls := .type "list", data := .seq vs.toArray }) (hI : IntsAre vs ns) (hn : ns.length ≤ 63) {c : ClaimW} {cl : Str → Option Addr} {mean : ExcName → Option Value} {args : List WData}
    (hr : ∀ cls, c.raises args cls = false) (hp : c.post args (.bool true) args = true) :
    wpAny (model prg w) callerA (call (.ref 216) [.ref 217]) (fun v s' => GoodWG c cl mean args s₁ (.ok (.ret v)) s') (fun e s' => GoodWG c cl mean args s₁ (.error e) s') s₁ := by
  obtain ⟨h, g, d, tk, os⟩ := s₁
  obtain ⟨dr, P⟩ := w
  obtain ⟨f, hf⟩ := ints_intA hI
  rw [hf] at hobj
  have ZH : KT.Holds h 1 0 (K P) := ZH
  have hsz : h.objs.size = 218 := hsz
  have hg : g = #[] := hg
  have hobj : h.get? 217 = some (lisO (intA ns f) 0) := hobj
  have e0 : h.get? 140 = some (tableObj #[]) := kt_at ZH (kt.t0 P)
  have e1 : h.get? 147 = some (tableObj #[]) := kt_at ZH (kt.t1 P)
  have hi : Mine.inv K P [] h := ⟨fun a ob e => kt_at ZH (ktd_get e).1, ⟨#[], e0, trivial⟩, ⟨#[], e1, trivial⟩, ar147 hsz, fun p hp => by simp at hp, fun p hp => by simp at hp⟩
  refine wpAny_call ?_
  refine con_law (dr := dr) (P := P) (fz := []) o (nf := f) (se := 0) (sc := 217) hn (lawF ns) callerA h g d tk os _ ⟨rfl, by decide, by decide⟩ hi (.of_eq hg) (fun p hp => by rw [List.mem_singleton.mp hp]; exact hobj) (fun p hp => by rw [List.mem_singleton.mp hp]; exact ⟨Nat.le_refl _, by simp⟩) (by simp) fun v h' g' tk' hi' hB' hs' hz hn' hk => ?_
  have tab : ∀ b, (b = 140 ∨ b = 147) → ∀ ob, h.get? b = some ob → asItWas h h' b ob := fun b hb ob e => by
    rcases hb with rfl | rfl
    · rw [e0] at e
      have e' : tableObj #[] = ob := by injection e
      obtain ⟨ps, e2, _⟩ := hi'.2.1
      obtain ⟨k1, k2, k3, k4⟩ := kt.c0 P
      refine .inr (.inl ⟨⟨144, _, _, hi.1 _ _ k1, k2, k3, k4⟩, ?_, #[], ps, ?_, ?_⟩)
      · rw [← e']; rfl
      · rw [← e']; rfl
      · rw [e2, ← e']
        simp [tableObj]
    · rw [e1] at e
      have e' : tableObj #[] = ob := by injection e
      obtain ⟨ps, e2, _⟩ := hi'.2.2.1
      obtain ⟨k1, k2, k3, k4⟩ := kt.c1 P
      refine .inr (.inl ⟨⟨151, _, _, hi.1 _ _ k1, k2, k3, k4⟩, ?_, #[], ps, ?_, ?_⟩)
      · rw [← e']; rfl
      · rw [← e']; rfl
      · rw [e2, ← e']
        simp [tableObj]
  have old : ∀ b ob, h.get? b = some ob → asItWas h h' b ob := fun b ob e => by
    by_cases h1 : b = 140 ∨ b = 147
    · exact tab b h1 ob e
    · by_cases h2 : b = 217
      · subst h2
        have z : h'.get? 217 = some (lisO (intA ns f) 0) := hz.1
        rw [hobj] at e
        exact .inl (by rw [z]; exact e)
      · exact .inl (hk b ob e (fun hm => h2 (List.mem_singleton.mp hm)) (fun hm => h1 (by
          rcases List.mem_cons.mp hm with q | hm
          · exact .inl q
          · exact .inr (List.mem_singleton.mp hm))))
  refine ⟨.inl ⟨_, _, [], rfl, hr, ReadsW.bool true, hp, fun _ => ⟨List.nodup_nil, fun _ hm => (nomatch hm)⟩⟩, ⟨old, fun b ob e => ?_⟩, rfl, hB'⟩
  rcases old b ob e with z | ⟨_, _, _, _, _, z⟩ | ⟨_, _, ⟨_, _, _, z, _⟩, _⟩
  · exact ⟨_, z⟩
  · exact ⟨_, z⟩
  · exact ⟨_, z⟩
end Mine
local macro_rules | `(tactic| trivial) => `(tactic| (refine Mine.par1 ?_ ?_ <;> (intros; exact ⟨by kernel_rfl, by kernel_rfl⟩)))
open PySem PySem.W PySem.W.X PySem.W.ZRun PyProof.Rows Mine in
set_option maxRecDepth 100000 in
set_option maxHeartbeats 0 in
theorem PySem.Challenge.cw_oh0001_01_holds : PySem.Challenge.rw_oh0001_01.Holds := by
  w_on; o_law; (set_option synthInstance.maxSize 1 in z_head); (case hw => w_witness2)
  have hk : KOk cw_oh0001_01_holds.ktop_452 := ⟨fun P => by kernel_rfl, fun P => by kernel_rfl⟩
  have hk2 : Nonempty (KOk cw_oh0001_01_holds.ktop_452) := ⟨hk⟩
  have D_4 : CodeOk cw_oh0001_01_holds.ktop_452 145 144 140 := ⟨(by intros; kernel_rfl), (by intros; kernel_rfl), (by intros; kernel_rfl), (by intros; kernel_rfl), (by intros; kernel_rfl), (by intros; kernel_rfl), (by intros; kernel_rfl), (by intros; kernel_rfl), (by intros; kernel_rfl), (by decide)⟩
  have D_5 : GenOk cw_oh0001_01_holds.ktop_452 145 (fun P => (lenQ (stmtOf cw_oh0001_01_holds.ktop_452 P 145 0)).g) := ⟨(by intros; kernel_rfl), (by intros; kernel_rfl), (by intros; kernel_rfl), (by intros; kernel_rfl), (by intros; kernel_rfl), (by intros; kernel_rfl), (by intros; kernel_rfl)⟩
  have d_ge145 : ok_ge145 cw_oh0001_01_holds.ktop_452 := fun _ _ _ _ _ _ _ => ⟨by kernel_rfl, by kernel_rfl⟩
  have d_gs145 : ok_gs145 cw_oh0001_01_holds.ktop_452 := fun _ _ _ _ _ _ _ _ _ _ => ⟨by kernel_rfl, by kernel_rfl⟩
  have d_gb145 : ok_gb145 cw_oh0001_01_holds.ktop_452 := fun _ _ _ _ => ⟨by kernel_rfl, by kernel_rfl⟩
  have d_git : ok_git cw_oh0001_01_holds.ktop_452 := by trivial
  have d_lsum : ok_lsum cw_oh0001_01_holds.ktop_452 := fun _ _ _ _ _ _ _ _ _ _ => ⟨by kernel_rfl, by kernel_rfl⟩
  have d_llen : ok_llen cw_oh0001_01_holds.ktop_452 := fun _ _ _ _ _ _ _ => ⟨by kernel_rfl, by kernel_rfl⟩
  have d_latt : ok_latt cw_oh0001_01_holds.ktop_452 := fun _ _ _ _ _ _ _ _ _ _ _ _ _ => ⟨by kernel_rfl, by kernel_rfl⟩
  have D_3 : OkLen cw_oh0001_01_holds.ktop_452 := ⟨(by intros; kernel_rfl), D_4, D_5, d_ge145, d_gs145, d_gb145, d_git, d_lsum, d_llen, d_latt⟩
  have d_lens : ok_lens cw_oh0001_01_holds.ktop_452 := by trivial
  have d_lenc : ok_lenc cw_oh0001_01_holds.ktop_452 := fun _ _ _ _ _ _ _ _ _ => ⟨by kernel_rfl, by kernel_rfl⟩
  have D_7 : CodeOk cw_oh0001_01_holds.ktop_452 152 151 147 := ⟨(by intros; kernel_rfl), (by intros; kernel_rfl), (by intros; kernel_rfl), (by intros; kernel_rfl), (by intros; kernel_rfl), (by intros; kernel_rfl), (by intros; kernel_rfl), (by intros; kernel_rfl), (by intros; kernel_rfl), (by decide)⟩
  have D_8 : GenOk cw_oh0001_01_holds.ktop_452 152 (fun P => (strQ (stmtOf cw_oh0001_01_holds.ktop_452 P 152 0)).g) := ⟨(by intros; kernel_rfl), (by intros; kernel_rfl), (by intros; kernel_rfl), (by intros; kernel_rfl), (by intros; kernel_rfl), (by intros; kernel_rfl), (by intros; kernel_rfl)⟩
  have d_ge152 : ok_ge152 cw_oh0001_01_holds.ktop_452 := fun _ _ _ _ _ _ _ => ⟨by kernel_rfl, by kernel_rfl⟩
  have d_gs152 : ok_gs152 cw_oh0001_01_holds.ktop_452 := fun _ _ _ _ _ _ _ _ _ _ => ⟨by kernel_rfl, by kernel_rfl⟩
  have d_gb152 : ok_gb152 cw_oh0001_01_holds.ktop_452 := fun _ _ _ _ => ⟨by kernel_rfl, by kernel_rfl⟩
  have d_semp : ok_semp cw_oh0001_01_holds.ktop_452 := fun _ _ _ _ _ _ _ => ⟨by kernel_rfl, by kernel_rfl⟩
  have d_semp2 : ok_semp2 cw_oh0001_01_holds.ktop_452 := fun _ _ _ _ _ _ _ _ _ _ => ⟨by kernel_rfl, by kernel_rfl⟩
  have D_6 : OkStr cw_oh0001_01_holds.ktop_452 := ⟨(by intros; kernel_rfl), D_7, D_8, (by intros; kernel_rfl), (by intros; kernel_rfl), d_ge152, d_gs152, d_gb152, d_git, d_semp, d_semp2⟩
  have d_strs : ok_strs cw_oh0001_01_holds.ktop_452 := by trivial
  have d_strc : ok_strc cw_oh0001_01_holds.ktop_452 := by trivial
  have d_onlyws : ok_onlyws cw_oh0001_01_holds.ktop_452 := by trivial
  have D_2 : OkAcc cw_oh0001_01_holds.ktop_452 := ⟨D_3, d_lens, d_lenc, D_6, d_strs, d_strc, d_onlyws⟩
  have d_push : ok_push cw_oh0001_01_holds.ktop_452 := fun _ _ _ _ _ _ _ _ _ _ _ _ _ => ⟨by kernel_rfl, by kernel_rfl⟩
  have d_reset0 : ok_reset0 cw_oh0001_01_holds.ktop_452 := fun _ _ _ _ _ _ _ _ _ => ⟨by kernel_rfl, by kernel_rfl⟩
  have D_13 : SupOk cw_oh0001_01_holds.ktop_452 175 := ⟨(by intros; kernel_rfl), (by intros; kernel_rfl), (by intros; kernel_rfl), (by intros; kernel_rfl), (by intros; kernel_rfl), (by intros; kernel_rfl), (by intros; kernel_rfl), (by intros; kernel_rfl), (by intros; kernel_rfl), (by intros; kernel_rfl), (by intros; kernel_rfl), (by kernel_rfl)⟩
  have d_pc0 : ok_pc0 cw_oh0001_01_holds.ktop_452 := fun _ _ _ _ _ _ _ => ⟨by kernel_rfl, by kernel_rfl⟩
  have d_sn175 : ok_sn175 cw_oh0001_01_holds.ktop_452 := fun _ _ _ _ _ _ _ _ _ _ _ => ⟨by kernel_rfl, by kernel_rfl⟩
  have d_sc175 : ok_sc175 cw_oh0001_01_holds.ktop_452 := fun _ _ _ _ _ _ _ _ _ _ _ => ⟨by kernel_rfl, by kernel_rfl⟩
  have d_ss175 : ok_ss175 cw_oh0001_01_holds.ktop_452 := fun _ _ _ _ _ _ _ _ _ _ _ => ⟨by kernel_rfl, by kernel_rfl⟩
  have d_sity : ok_sity cw_oh0001_01_holds.ktop_452 := fun _ _ _ _ => ⟨by kernel_rfl, by kernel_rfl⟩
  have d_scall : ok_scall cw_oh0001_01_holds.ktop_452 := fun _ _ _ _ _ _ _ _ _ _ => ⟨by kernel_rfl, by kernel_rfl⟩
  have d_srest175 : ok_srest175 cw_oh0001_01_holds.ktop_452 := fun _ _ _ _ _ _ _ _ _ _ => ⟨by kernel_rfl, by kernel_rfl⟩
  have D_12 : OkPC cw_oh0001_01_holds.ktop_452 := ⟨D_13, (by intros; kernel_rfl), d_pc0, d_sn175, d_sc175, d_ss175, d_sity, d_scall, d_srest175⟩
  have D_14 : SupOk cw_oh0001_01_holds.ktop_452 138 := ⟨(by intros; kernel_rfl), (by intros; kernel_rfl), (by intros; kernel_rfl), (by intros; kernel_rfl), (by intros; kernel_rfl), (by intros; kernel_rfl), (by intros; kernel_rfl), (by intros; kernel_rfl), (by intros; kernel_rfl), (by intros; kernel_rfl), (by intros; kernel_rfl), (by kernel_rfl)⟩
  have d_pop0 : ok_pop0 cw_oh0001_01_holds.ktop_452 := fun _ _ _ _ _ _ _ => ⟨by kernel_rfl, by kernel_rfl⟩
  have d_pop1 : ok_pop1 cw_oh0001_01_holds.ktop_452 := by trivial
  have d_sn138 : ok_sn138 cw_oh0001_01_holds.ktop_452 := fun _ _ _ _ _ _ _ _ _ _ _ => ⟨by kernel_rfl, by kernel_rfl⟩
  have d_sc138 : ok_sc138 cw_oh0001_01_holds.ktop_452 := fun _ _ _ _ _ _ _ _ _ _ _ => ⟨by kernel_rfl, by kernel_rfl⟩
  have d_ss138 : ok_ss138 cw_oh0001_01_holds.ktop_452 := fun _ _ _ _ _ _ _ _ _ _ _ => ⟨by kernel_rfl, by kernel_rfl⟩
  have d_srest138 : ok_srest138 cw_oh0001_01_holds.ktop_452 := fun _ _ _ _ _ _ _ _ _ _ _ => ⟨by kernel_rfl, by kernel_rfl⟩
  have d_bm_pop : ok_bm_pop cw_oh0001_01_holds.ktop_452 := fun _ _ _ _ _ _ _ _ => ⟨by kernel_rfl, by kernel_rfl⟩
  have D_11 : OkPop cw_oh0001_01_holds.ktop_452 := ⟨D_12, D_14, (by intros; kernel_rfl), d_pop0, d_pop1, d_sn138, d_sc138, d_ss138, d_srest138, d_bm_pop⟩
  have d_bmc : ok_bmc cw_oh0001_01_holds.ktop_452 := fun _ _ _ _ _ _ _ _ _ _ _ _ => ⟨by kernel_rfl, by kernel_rfl⟩
  have d_nl0 : ok_nl0 cw_oh0001_01_holds.ktop_452 := fun _ _ _ _ _ _ _ _ _ _ _ _ _ _ _ _ _ _ _ _ => ⟨by kernel_rfl, by kernel_rfl⟩
  have d_nl1 : ok_nl1 cw_oh0001_01_holds.ktop_452 := by trivial
  have d_nl2 : ok_nl2 cw_oh0001_01_holds.ktop_452 := fun _ _ _ _ _ _ _ _ _ _ _ _ _ _ _ _ _ _ _ _ _ _ _ => ⟨by kernel_rfl, by kernel_rfl⟩
  have d_nl3 : ok_nl3 cw_oh0001_01_holds.ktop_452 := fun _ _ _ _ _ _ _ _ _ _ _ _ _ _ _ _ _ _ _ _ _ _ _ => ⟨by kernel_rfl, by kernel_rfl⟩
  have d_nl4 : ok_nl4 cw_oh0001_01_holds.ktop_452 := by trivial
  have d_nl5 : ok_nl5 cw_oh0001_01_holds.ktop_452 := by trivial
  have D_10 : OkNl cw_oh0001_01_holds.ktop_452 := ⟨(by intros; kernel_rfl), (by intros; kernel_rfl), d_push, (by unfold okChk; intros; exact And.intro (by kernel_rfl) (by kernel_rfl)), (by unfold okChk; intros; exact And.intro (by kernel_rfl) (by kernel_rfl)), d_reset0, D_11, d_bmc, d_nl0, d_nl1, d_nl2, d_nl3, d_nl4, d_nl5⟩
  have d_pop_from : ok_pop_from cw_oh0001_01_holds.ktop_452 := fun _ _ _ _ _ _ _ _ _ => ⟨by kernel_rfl, by kernel_rfl⟩
  have d_reset1 : ok_reset1 cw_oh0001_01_holds.ktop_452 := fun _ _ _ _ _ _ _ _ _ _ _ _ => ⟨by kernel_rfl, by kernel_rfl⟩
  have d_chunkA : ok_chunkA cw_oh0001_01_holds.ktop_452 := by trivial
  have d_chunkB : ok_chunkB cw_oh0001_01_holds.ktop_452 := by trivial
  have d_chunkC : ok_chunkC cw_oh0001_01_holds.ktop_452 := by trivial
  have D_9 : OkCk cw_oh0001_01_holds.ktop_452 := ⟨D_10, d_pop_from, (by unfold okChk; intros; exact And.intro (by kernel_rfl) (by kernel_rfl)), d_reset1, d_chunkA, d_chunkB, d_chunkC⟩
  have D_16 : SupOk cw_oh0001_01_holds.ktop_452 115 := ⟨(by intros; kernel_rfl), (by intros; kernel_rfl), (by intros; kernel_rfl), (by intros; kernel_rfl), (by intros; kernel_rfl), (by intros; kernel_rfl), (by intros; kernel_rfl), (by intros; kernel_rfl), (by intros; kernel_rfl), (by intros; kernel_rfl), (by intros; kernel_rfl), (by kernel_rfl)⟩
  have d_init0 : ok_init0 cw_oh0001_01_holds.ktop_452 := fun _ _ _ _ _ _ _ => ⟨by kernel_rfl, by kernel_rfl⟩
  have d_init1 : ok_init1 cw_oh0001_01_holds.ktop_452 := fun _ _ _ _ _ _ _ _ _ _ => ⟨by kernel_rfl, by kernel_rfl⟩
  have d_sn115 : ok_sn115 cw_oh0001_01_holds.ktop_452 := fun _ _ _ _ _ _ _ _ _ _ _ => ⟨by kernel_rfl, by kernel_rfl⟩
  have d_sc115 : ok_sc115 cw_oh0001_01_holds.ktop_452 := fun _ _ _ _ _ _ _ _ _ _ _ => ⟨by kernel_rfl, by kernel_rfl⟩
  have d_ss115 : ok_ss115 cw_oh0001_01_holds.ktop_452 := fun _ _ _ _ _ _ _ _ _ _ _ => ⟨by kernel_rfl, by kernel_rfl⟩
  have d_srest115 : ok_srest115 cw_oh0001_01_holds.ktop_452 := fun _ _ _ _ _ _ _ _ _ => ⟨by kernel_rfl, by kernel_rfl⟩
  have D_15 : OkInit cw_oh0001_01_holds.ktop_452 := ⟨D_12, D_16, (by intros; kernel_rfl), (by intros; kernel_rfl), (by intros; kernel_rfl), d_init0, d_init1, d_sn115, d_sc115, d_ss115, d_srest115⟩
  have d_acc_make : ok_acc_make cw_oh0001_01_holds.ktop_452 := fun _ _ _ _ => ⟨by kernel_rfl, by kernel_rfl⟩
  have d_vfmake : ok_vfmake cw_oh0001_01_holds.ktop_452 := by trivial
  have d_str_ : ok_str_ cw_oh0001_01_holds.ktop_452 := by trivial
  have d_lr0 : ok_lr0 cw_oh0001_01_holds.ktop_452 := fun _ _ _ _ _ _ _ _ => ⟨by kernel_rfl, by kernel_rfl⟩
  have d_lr1 : ok_lr1 cw_oh0001_01_holds.ktop_452 := by trivial
  have d_lr2 : ok_lr2 cw_oh0001_01_holds.ktop_452 := fun _ _ _ _ _ _ _ _ _ _ _ _ _ _ _ _ _ _ _ _ _ _ _ _ => ⟨by kernel_rfl, by kernel_rfl⟩
  have d_lr3 : ok_lr3 cw_oh0001_01_holds.ktop_452 := by trivial
  have d_lr4a : ok_lr4a cw_oh0001_01_holds.ktop_452 := by trivial
  have d_lr4b : ok_lr4b cw_oh0001_01_holds.ktop_452 := by trivial
  have d_lr5 : ok_lr5 cw_oh0001_01_holds.ktop_452 := by trivial
  have d_lr6 : ok_lr6 cw_oh0001_01_holds.ktop_452 := by trivial
  have D_1 : OkRw cw_oh0001_01_holds.ktop_452 := ⟨D_2, D_9, D_15, d_acc_make, d_vfmake, d_str_, (by intros; kernel_rfl), (by intros; kernel_rfl), d_lr0, d_lr1, d_lr2, d_lr3, d_lr4a, d_lr4b, d_lr5, d_lr6⟩
  have d_lw : ok_lw cw_oh0001_01_holds.ktop_452 := by refine par1 ?_ ?_ <;> (intro P f b2 b3 nl ne L acc eo C it ns os k m o c xt x w N tk <;> cases o <;> exact ⟨by kernel_rfl, by kernel_rfl⟩)
  have d_lwe : ok_lwe cw_oh0001_01_holds.ktop_452 := by refine par1 ?_ ?_ <;> (intro P f b2 b3 nl ne L acc eo C it ns os k m o N tk <;> cases o <;> exact ⟨by kernel_rfl, by kernel_rfl⟩)
  have d_lws : ok_lws cw_oh0001_01_holds.ktop_452 := by refine par2 ?_ ?_ ?_ ?_ <;> (intro P f b3 nl ne L acc eo C it ns os k m o N tk <;> cases o <;> exact ⟨by kernel_rfl, by kernel_rfl⟩)
  have d_lb : ok_lb cw_oh0001_01_holds.ktop_452 := by refine par1 ?_ ?_ <;> (intro P f b2 b3 wl we L acc eo C it i ws os o w x wt N tk <;> cases o <;> exact ⟨by kernel_rfl, by kernel_rfl⟩)
  have d_lbe : ok_lbe cw_oh0001_01_holds.ktop_452 := by refine par1 ?_ ?_ <;> (intro P f b2 b3 wl we L acc eo C it i ws os o N tk <;> cases o <;> exact ⟨by kernel_rfl, by kernel_rfl⟩)
  have d_lbs : ok_lbs cw_oh0001_01_holds.ktop_452 := by refine par2 ?_ ?_ ?_ ?_ <;> (intro P f b3 wl we L acc eo C it i ws os o N tk <;> cases o <;> exact ⟨by kernel_rfl, by kernel_rfl⟩)
  have d_ls : ok_ls cw_oh0001_01_holds.ktop_452 := by refine par1 ?_ ?_ <;> (intro P f b2 b3 wl we L acc eo C it i ws os o w wt n N tk <;> cases o <;> exact ⟨by kernel_rfl, by kernel_rfl⟩)
  have d_lse : ok_lse cw_oh0001_01_holds.ktop_452 := by refine par1 ?_ ?_ <;> (intro P f b2 b3 wl we L acc eo C it i ws os o N tk <;> cases o <;> exact ⟨by kernel_rfl, by kernel_rfl⟩)
  have d_lss : ok_lss cw_oh0001_01_holds.ktop_452 := by refine par2 ?_ ?_ ?_ ?_ <;> (intro P f b3 wl we L acc eo C it i ws os o N tk <;> cases o <;> exact ⟨by kernel_rfl, by kernel_rfl⟩)
  have d_ll : ok_ll cw_oh0001_01_holds.ktop_452 := by refine par1 ?_ ?_ <;> (intro P f b2 b3 wl we L acc eo C it i ws os o c ct k kt N tk <;> cases o <;> exact ⟨by kernel_rfl, by kernel_rfl⟩)
  have d_lle : ok_lle cw_oh0001_01_holds.ktop_452 := by refine par1 ?_ ?_ <;> (intro P f b2 b3 wl we L acc eo C it i ws os o c ct N tk <;> cases o <;> exact ⟨by kernel_rfl, by kernel_rfl⟩)
  have d_lls : ok_lls cw_oh0001_01_holds.ktop_452 := by refine par2 ?_ ?_ ?_ ?_ <;> (intro P f b3 wl we L acc eo C it i ws os o c ct N tk <;> cases o <;> exact ⟨by kernel_rfl, by kernel_rfl⟩)
  have D_17 : OkLc cw_oh0001_01_holds.ktop_452 := ⟨d_lw, d_lwe, d_lws, d_lb, d_lbe, d_lbs, d_ls, d_lse, d_lss, d_ll, d_lle, d_lls⟩
  have d_pI : ok_pI cw_oh0001_01_holds.ktop_452 := by refine par1 ?_ ?_ <;> (intro P f b2 b3 rl re L acc eo C it rr os s ta a j m o N tk <;> cases o <;> exact ⟨by kernel_rfl, by kernel_rfl⟩)
  have d_pIe : ok_pIe cw_oh0001_01_holds.ktop_452 := by refine par1 ?_ ?_ <;> (intro P f b2 b3 rl re L acc eo C it rr os s ta a j m o N tk <;> cases o <;> exact ⟨by kernel_rfl, by kernel_rfl⟩)
  have d_pIs : ok_pIs cw_oh0001_01_holds.ktop_452 := by refine par2 ?_ ?_ ?_ ?_ <;> (intro P f b3 rl re L acc eo C it rr os s ta a j m o N tk <;> cases o <;> exact ⟨by kernel_rfl, by kernel_rfl⟩)
  have d_pO : ok_pO cw_oh0001_01_holds.ktop_452 := by refine par1 ?_ ?_ <;> (intro P f b2 b3 rl re L acc eo C it rr os k m l r t c AC RR N tk <;> cases l <;> exact ⟨by kernel_rfl, by kernel_rfl⟩)
  have d_pOe : ok_pOe cw_oh0001_01_holds.ktop_452 := by refine par1 ?_ ?_ <;> (intro P f b2 b3 rl re L acc eo C it rr os k m l N tk <;> cases l <;> exact ⟨by kernel_rfl, by kernel_rfl⟩)
  have d_pOs : ok_pOs cw_oh0001_01_holds.ktop_452 := by refine par2 ?_ ?_ ?_ ?_ <;> (intros; exact ⟨by kernel_rfl, by kernel_rfl⟩)
  have d_places : ok_places cw_oh0001_01_holds.ktop_452 := by trivial
  have D_18 : OkPl cw_oh0001_01_holds.ktop_452 := ⟨d_pI, d_pIe, d_pIs, d_pO, d_pOe, d_pOs, d_places⟩
  have d_fit1 : ok_fit1 cw_oh0001_01_holds.ktop_452 := by trivial
  have d_fit2 : ok_fit2 cw_oh0001_01_holds.ktop_452 := by trivial
  have d_fit3 : ok_fit3 cw_oh0001_01_holds.ktop_452 := by trivial
  have D_26 : OkFit cw_oh0001_01_holds.ktop_452 := ⟨d_fit1, d_fit2, d_fit3⟩
  have d_hcA0 : ok_hcA0 cw_oh0001_01_holds.ktop_452 := by trivial
  have d_hcA1 : ok_hcA1 cw_oh0001_01_holds.ktop_452 := by trivial
  have d_hcB0 : ok_hcB0 cw_oh0001_01_holds.ktop_452 := by trivial
  have d_hcB1 : ok_hcB1 cw_oh0001_01_holds.ktop_452 := by trivial
  have d_hcE : ok_hcE cw_oh0001_01_holds.ktop_452 := by trivial
  have d_hcS : ok_hcS cw_oh0001_01_holds.ktop_452 := by refine par2 ?_ ?_ ?_ ?_ <;> (intros; exact ⟨by kernel_rfl, by kernel_rfl⟩)
  have D_25 : OkHc cw_oh0001_01_holds.ktop_452 := ⟨D_26, d_hcA0, d_hcA1, d_hcB0, d_hcB1, d_hcE, d_hcS⟩
  have d_hf0 : ok_hf0 cw_oh0001_01_holds.ktop_452 := by trivial
  have d_hf0e : ok_hf0e cw_oh0001_01_holds.ktop_452 := by trivial
  have d_hf1 : ok_hf1 cw_oh0001_01_holds.ktop_452 := by trivial
  have d_hf2 : ok_hf2 cw_oh0001_01_holds.ktop_452 := by trivial
  have d_hf3 : ok_hf3 cw_oh0001_01_holds.ktop_452 := by trivial
  have d_hf4 : ok_hf4 cw_oh0001_01_holds.ktop_452 := by trivial
  have D_24 : OkHf cw_oh0001_01_holds.ktop_452 := ⟨D_25, d_hf0, d_hf0e, d_hf1, d_hf2, d_hf3, d_hf4, (by intros; kernel_rfl), (by intros; kernel_rfl), (by intros; kernel_rfl), (by intros; kernel_rfl), (by intros; kernel_rfl)⟩
  have d_hwA : ok_hwA cw_oh0001_01_holds.ktop_452 := by trivial
  have d_hwB : ok_hwB cw_oh0001_01_holds.ktop_452 := by trivial
  have d_hwE : ok_hwE cw_oh0001_01_holds.ktop_452 := by trivial
  have d_heads : ok_heads cw_oh0001_01_holds.ktop_452 := by trivial
  have D_23 : OkHd cw_oh0001_01_holds.ktop_452 := ⟨D_24, d_hwA, d_hwB, d_hwE, d_heads⟩
  have d_dcA : ok_dcA cw_oh0001_01_holds.ktop_452 := by trivial
  have d_dcB : ok_dcB cw_oh0001_01_holds.ktop_452 := by trivial
  have d_dcE : ok_dcE cw_oh0001_01_holds.ktop_452 := by trivial
  have d_dcS : ok_dcS cw_oh0001_01_holds.ktop_452 := by refine par2 ?_ ?_ ?_ ?_ <;> (intros; exact ⟨by kernel_rfl, by kernel_rfl⟩)
  have D_27 : OkDc cw_oh0001_01_holds.ktop_452 := ⟨d_dcA, d_dcB, d_dcE, d_dcS⟩
  have d_dsI : ok_dsI cw_oh0001_01_holds.ktop_452 := by refine par1 ?_ ?_ <;> (intro P f b2 b3 sl se acc eo r1 e1 L C it i s ta n a ss os l1 o b tb N tk <;> cases o <;> exact ⟨by kernel_rfl, by kernel_rfl⟩)
  have d_dsIe : ok_dsIe cw_oh0001_01_holds.ktop_452 := by refine par1 ?_ ?_ <;> (intro P f b2 b3 sl se acc eo r1 e1 L C it i s ta n a ss os l1 o N tk <;> cases o <;> exact ⟨by kernel_rfl, by kernel_rfl⟩)
  have d_dsIs : ok_dsIs cw_oh0001_01_holds.ktop_452 := by refine par2 ?_ ?_ ?_ ?_ <;> (intro P f b3 sl se acc eo r1 e1 L C it i s ta n a ss os l1 o N tk <;> cases o <;> exact ⟨by kernel_rfl, by kernel_rfl⟩)
  have d_dsO : ok_dsO cw_oh0001_01_holds.ktop_452 := by refine par1 ?_ ?_ <;> (intro P f b2 b3 sl se acc eo r0 e0 r1 e1 L C it i tl te tc kt c k ss os l0 l1 tr l a ta m AC Y NEWS N tk <;> cases l <;> exact ⟨by kernel_rfl, by kernel_rfl⟩)
  have d_dsOe : ok_dsOe cw_oh0001_01_holds.ktop_452 := by refine par1 ?_ ?_ <;> (intro P f b2 b3 sl se acc eo r0 e0 r1 e1 L C it i tl te tc kt c k ss os l0 l1 tr l N tk <;> cases l <;> exact ⟨by kernel_rfl, by kernel_rfl⟩)
  have d_dsOs : ok_dsOs cw_oh0001_01_holds.ktop_452 := by refine par2 ?_ ?_ ?_ ?_ <;> (intros; exact ⟨by kernel_rfl, by kernel_rfl⟩)
  have D_28 : OkDs cw_oh0001_01_holds.ktop_452 := ⟨d_dsI, d_dsIe, d_dsIs, d_dsO, d_dsOe, d_dsOs⟩
  have d_e4a : ok_e4a cw_oh0001_01_holds.ktop_452 := by trivial
  have d_e4b : ok_e4b cw_oh0001_01_holds.ktop_452 := by trivial
  have d_e5n : ok_e5n cw_oh0001_01_holds.ktop_452 := by trivial
  have d_e5e : ok_e5e cw_oh0001_01_holds.ktop_452 := by trivial
  have d_e5a : ok_e5a cw_oh0001_01_holds.ktop_452 := by trivial
  have d_e6 : ok_e6 cw_oh0001_01_holds.ktop_452 := by refine par1 ?_ ?_ <;> (intro P f b2 b3 sl se L s0 tw s1 hl he s2 du de tl te tc W c ss hr tr da it kt k m k0 l r0 e0 r1 e1 nl l0 l1 AC X Y NEWS N tk <;> cases l <;> exact ⟨by kernel_rfl, by kernel_rfl⟩)
  have d_e7a : ok_e7a cw_oh0001_01_holds.ktop_452 := by refine par1 ?_ ?_ <;> (intro P f b2 b3 sl se L s0 tw s1 hl he s2 du de tl te tc W c ss hr tr da it kt k m k0 l t st ste it2 i sts N tk <;> cases l <;> exact ⟨by kernel_rfl, by kernel_rfl⟩)
  have d_e7b : ok_e7b cw_oh0001_01_holds.ktop_452 := by trivial
  have d_e8n : ok_e8n cw_oh0001_01_holds.ktop_452 := by trivial
  have d_e8e : ok_e8e cw_oh0001_01_holds.ktop_452 := by trivial
  have d_e8o : ok_e8o cw_oh0001_01_holds.ktop_452 := by trivial
  have d_e8a : ok_e8a cw_oh0001_01_holds.ktop_452 := by refine par1 ?_ ?_ <;> (intro P f b2 b3 sl se L s0 tw s1 hl he s2 du de tl te tc W c ss hr tr da it kt k m k0 l t st ste it2 i sts q ta tb a b N tk <;> cases l <;> exact ⟨by kernel_rfl, by kernel_rfl⟩)
  have d_e8t : ok_e8t cw_oh0001_01_holds.ktop_452 := by refine par1 ?_ ?_ <;> (intro P f b2 b3 sl se L s0 tw s1 hl he s2 du de tl te tc W c ss hr tr da it kt k m k0 l t st ste it2 i sts t1 t2 ta tb a b r N tk <;> cases l <;> exact ⟨by kernel_rfl, by kernel_rfl⟩)
  have d_e9a : ok_e9a cw_oh0001_01_holds.ktop_452 := by refine par1 ?_ ?_ <;> (intro P f b2 b3 sl se L s0 tw s1 hl he s2 du de tl te tc W c ss hr tr da it kt k m k0 l t st ste it2 i sts t1 t2 ta tb a b N tk <;> cases l <;> exact ⟨by kernel_rfl, by kernel_rfl⟩)
  have d_e9b : ok_e9b cw_oh0001_01_holds.ktop_452 := by trivial
  have d_e10a : ok_e10a cw_oh0001_01_holds.ktop_452 := by refine par1 ?_ ?_ <;> (intro P f b2 b3 sl se L s0 tw s1 hl he s2 du de tl te tc W c ss hr tr da it kt k m k0 l t st ste it2 i sts t1 t2 ta tb a b it3 rd re j mm ds N tk <;> cases l <;> exact ⟨by kernel_rfl, by kernel_rfl⟩)
  have d_e10b : ok_e10b cw_oh0001_01_holds.ktop_452 := by refine par1 ?_ ?_ <;> (intro P f b2 b3 sl se L s0 tw s1 hl he s2 du de tl te tc W c ss hr tr da it kt k m k0 l t st ste it2 i sts t1 t2 ta tb a b it3 rd re j mm ds N tk <;> cases l <;> exact ⟨by kernel_rfl, by kernel_rfl⟩)
  have d_e10e : ok_e10e cw_oh0001_01_holds.ktop_452 := by trivial
  have d_e11 : ok_e11 cw_oh0001_01_holds.ktop_452 := by refine par1 ?_ ?_ <;> (intro P f b2 b3 sl se L s0 tw s1 hl he s2 du de tl te tc W c ss hr tr da x l N tk <;> cases l <;> exact ⟨by kernel_rfl, by kernel_rfl⟩)
  have d_d0 : ok_d0 cw_oh0001_01_holds.ktop_452 := fun _ _ _ _ _ _ _ _ => ⟨by kernel_rfl, by kernel_rfl⟩
  have d_d1 : ok_d1 cw_oh0001_01_holds.ktop_452 := by trivial
  have d_d2 : ok_d2 cw_oh0001_01_holds.ktop_452 := by trivial
  have d_d3 : ok_d3 cw_oh0001_01_holds.ktop_452 := by trivial
  have D_22 : OkDue cw_oh0001_01_holds.ktop_452 := ⟨D_23, D_27, D_28, d_e4a, d_e4b, d_e5n, d_e5e, d_e5a, d_e6, d_e7a, d_e7b, d_e8n, d_e8e, d_e8o, d_e8a, d_e8t, d_e9a, d_e9b, d_e10a, d_e10b, d_e10e, d_e11, d_d0, d_d1, d_d2, d_d3⟩
  have D_21 : OkDue2 cw_oh0001_01_holds.ktop_452 := ⟨D_22, (by intros; kernel_rfl), (by intros; kernel_rfl), (by intros; kernel_rfl), (by intros; kernel_rfl), (by intros; kernel_rfl)⟩
  have D_20 : OkDue3 cw_oh0001_01_holds.ktop_452 := ⟨D_21, (by intros; kernel_rfl), (by intros; kernel_rfl), (by intros; kernel_rfl), (by intros; kernel_rfl)⟩
  have d_d3a : ok_d3a cw_oh0001_01_holds.ktop_452 := by trivial
  have D_19 : OkDue4 cw_oh0001_01_holds.ktop_452 := ⟨D_20, d_d3a, (by intros; kernel_rfl), (by intros; kernel_rfl)⟩
  have d_zn : ok_zn cw_oh0001_01_holds.ktop_452 := by trivial
  have d_zq : ok_zq cw_oh0001_01_holds.ktop_452 := by trivial
  have d_za : ok_za cw_oh0001_01_holds.ktop_452 := by refine par1 ?_ ?_ <;> (intro P f b2 b3 z zt zc i1 i2 pl pe la le L acc eo C i pp ll os x y o a b at_ bt T N tk <;> cases o <;> exact ⟨by kernel_rfl, by kernel_rfl⟩)
  have d_zv : ok_zv cw_oh0001_01_holds.ktop_452 := by trivial
  have d_zp : ok_zp cw_oh0001_01_holds.ktop_452 := by trivial
  have d_zs : ok_zs cw_oh0001_01_holds.ktop_452 := by refine par2 ?_ ?_ ?_ ?_ <;> (intros; exact ⟨by kernel_rfl, by kernel_rfl⟩)
  have D_29 : OkLz cw_oh0001_01_holds.ktop_452 := ⟨(by intros; kernel_rfl), (by intros; kernel_rfl), d_zn, d_zq, d_za, d_zv, d_zp, d_zs⟩
  have d_g0 : ok_g0 cw_oh0001_01_holds.ktop_452 := fun _ _ _ _ _ _ => ⟨by kernel_rfl, by kernel_rfl⟩
  have d_g1n : ok_g1n cw_oh0001_01_holds.ktop_452 := by trivial
  have d_g2 : ok_g2 cw_oh0001_01_holds.ktop_452 := by trivial
  have d_g3 : ok_g3 cw_oh0001_01_holds.ktop_452 := by trivial
  have d_g4 : ok_g4 cw_oh0001_01_holds.ktop_452 := by trivial
  have d_g5 : ok_g5 cw_oh0001_01_holds.ktop_452 := by trivial
  have d_g6 : ok_g6 cw_oh0001_01_holds.ktop_452 := by trivial
  have d_g7 : ok_g7 cw_oh0001_01_holds.ktop_452 := by trivial
  have d_g7b : ok_g7b cw_oh0001_01_holds.ktop_452 := by trivial
  have d_g8l : ok_g8l cw_oh0001_01_holds.ktop_452 := by trivial
  have d_g8r : ok_g8r cw_oh0001_01_holds.ktop_452 := by trivial
  have d_g9 : ok_g9 cw_oh0001_01_holds.ktop_452 := by trivial
  have d_ga : ok_ga cw_oh0001_01_holds.ktop_452 := by trivial
  have d_gb : ok_gb cw_oh0001_01_holds.ktop_452 := by trivial
  have D_0 : OkLaw cw_oh0001_01_holds.ktop_452 := ⟨D_1, D_17, D_18, D_19, D_29, d_g0, d_g1n, d_g2, d_g3, d_g4, d_g5, d_g6, d_g7, d_g7b, d_g8l, d_g8r, d_g9, d_ga, d_gb, (by intros; kernel_rfl), (by intros; kernel_rfl), (by intros; kernel_rfl), (by intros; kernel_rfl), (by intros; kernel_rfl), (by intros; kernel_rfl), (by intros; kernel_rfl)⟩
  have kt : KTab cw_oh0001_01_holds.ktop_452 := ⟨fun P => by kernel_rfl, fun P => by kernel_rfl, fun P => ⟨by kernel_rfl, by kernel_rfl, by kernel_rfl, by kernel_rfl⟩, fun P => ⟨by kernel_rfl, by kernel_rfl, by kernel_rfl, by kernel_rfl⟩⟩
  k_fill
  intro w s₀ s₁ mg mb G y fa o pm cd doc dV kV ho hd hcd hD hmg hg args vals as L hpre hlay hrd hwl hlo
  z_open y L KX ZH ZN ZT
  refine Ground.open G ?_
  intro T B D TE TW
  wrow_args hpre hlay hrd hwl hlo
  obtain ⟨hat, hsz⟩ := script_at L
  rw [ZN] at hat hsz
  subst hat
  x_fa T KX hmg
  refine law_walk (K := cw_oh0001_01_holds.ktop_452) D_0 kt ZH hsz hg (script_obj L ‹Heap.IsList _ _ _›) ‹IntsAre _ _› ?_ ?_ ?_
  · omega
  · intro cls; rfl
  · first
      | kernel_rfl
      | rfl
      | wrow_post
