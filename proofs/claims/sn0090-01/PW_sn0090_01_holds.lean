import PyProof.Rows.All
import KE.KItem
import KE.KListMore
import KE.KNest
import KE.KPar
import KE.KRevIter
import KE.KSortTup
import Wide.FinOn
import OpenK.AllK
import Wide.All
import Lean
import PySem.Challenge.RW_sn0090_01

set_option Elab.async false
set_option maxRecDepth 1000000
set_option maxHeartbeats 0
set_option linter.all false
open PySem PySem.W PyProof.Rows
section
namespace Mine
theorem ar21 {a : Int} {b : Nat} (h0 : 0 ≤ a ∧ a ≤ ((b + 1 : Nat) : Int) * 2 ^ 40) : -(2 ^ 63) ≤ a := by lia
theorem ar22 {a : Int} {b : Nat} (h0 : 0 ≤ a ∧ a ≤ ((b + 1 : Nat) : Int) * 2 ^ 40) (h1 : ((b + 1 : Nat) : Int) ≤ 1000) : a < 2 ^ 63 := by lia
theorem ar110 {a : Int} {b : Nat} (h0 : 0 ≤ a ∧ a < 2 ^ 63) (h1 : Int.toNat a < b) : a < (b : Int) := by omega
theorem ar148 {a : Int} {b : Nat} (h0 : 0 ≤ a) (h1 : a < (b : Int)) : Int.toNat a < b := by omega
theorem ar193 {a : Int} {b : Nat} (h0 : 0 < a) (h1 : Int.natAbs a < 2 ^ 0) : 0 < b := by lia
theorem ar212 {a : Int} {b : Nat} {c : Int} (h0 : a ≤ ((b + 1 : Nat) : Int)) (h1 : c < a) : c ≤ (b : Int) := by lia
theorem ar292 {a : Int} {b : Nat} (h0 : 0 ≤ a) (h1 : a < 5) (h2 : 65529 + a = (b : Int)) : b = 65529 ∨ b = 65530 ∨ b = 65531 ∨ b = 65532 ∨ b = 65533 := by lia
theorem ar319 {a b : Int} {c d e f : Nat} (h0 : Int.natAbs a < 2 ^ 64) (h1 : Int.natAbs (a + b) ≤ Int.natAbs a + c) (h2 : 2 ^ 64 ≤ d) (h3 : c ≤ e) (h4 : d ≤ e) (h5 : f = e + e) : Int.natAbs (a + b) < f := by lia
theorem ar345 {a b : Nat} {c : Int} (h0 : a < b) (h1 : c < (b : Int)) : Int.toNat c < b := by lia
theorem ar394 {a : Int} {b c d : Nat} (h0 : a < (b : Int)) (h1 : b ≤ 1000) (h2 : b = c) (h3 : c = d) : a < 2 ^ 63 := by lia
theorem ar395 {a : Int} {b c d : Nat} (h0 : a < (b : Int)) (h1 : b = c) (h2 : c = d) : a < (d : Int) := by lia
theorem ar416 {a : Int} {b c d : Nat} (h0 : a ≤ (b : Int)) (h1 : b = c) (h2 : c = d) (h3 : b ≤ 1000) : a < 2 ^ 63 := by lia
theorem ar418 {a : Int} {b c d : Nat} (h0 : a ≤ (b : Int)) (h1 : b = c) (h2 : c = d) (h3 : b ≤ 1000) : Int.toNat a ≤ d := by lia
theorem ar526 {a : Int} {b : Nat} : a + 1 + (b : Int) = a + ((b + 1 : Nat) : Int) := by lia
section
variable {a b c d e f g h i j k l m n o p q r s t u v w x y z : Nat}
theorem ar1 (h0 : a + 1 + 25 ≤ b) : b = b - 20 + 20 := by lia
theorem ar8 (h0 : 0 < a) : 0 < a + b := by omega
theorem ar11 (h0 : a + 1 + 25 ≤ b + 20) : a + 25 ≤ b + 19 := by lia
theorem ar12 (h0 : a = b) (h1 : c = b) (h2 : a ≤ 1000) : (b : Int) < 2 ^ 63 := by lia
theorem ar15 (h0 : a + 1 ≤ b) : a ≤ b := by lia
theorem ar16 (h0 : a + 1 ≤ b) : a < b := by lia
theorem ar17 : a < a + 1 := by lia
theorem ar18 (h0 : a ≤ 1000) (h1 : b = a) (h2 : c < a) : ((c + 1 : Nat) : Int) ≤ 1000 := by lia
theorem ar23 (h0 : a + (b + 1) < c) : a < c := by omega
theorem ar24 (h0 : a ≤ 3) : a = 0 ∨ a = 1 ∨ a = 2 ∨ a = 3 := by lia
theorem ar25 (h0 : a = b) : a ≤ b := by lia
theorem ar26 (h0 : a ≤ 5) : a ≤ 1000 := by lia
theorem ar27 (h0 : a ≤ 3) : 0 ≤ (a : Int) := by lia
theorem ar28 (h0 : a ≤ 3) : (a : Int) < 2 ^ 60 := by omega
theorem ar29 (h0 : a + 45 ≤ b) : b = b - 1 + 1 := by lia
theorem ar30 (h0 : a - b = 0) : a ≤ b := by lia
theorem ar31 (h0 : a + 1 + 45 ≤ b) : b = b - 45 + 45 := by lia
theorem ar35 : 0 ≤ (a : Int) := by lia
theorem ar36 (h0 : a ≤ 3) : (a : Int) ≤ 3 := by omega
theorem ar38 (h0 : a + 1 + 45 ≤ b + 45) (h1 : c ≤ 5 ∧ d ≤ 2) : d + 20 ≤ b + 41 := by lia
theorem ar43 (h0 : a + 1 + 45 ≤ b + 45) : a + 45 ≤ b + 44 := by lia
theorem ar44 (h0 : a ≤ 4) : a = 0 ∨ a = 1 ∨ a = 2 ∨ a = 3 ∨ a = 4 := by lia
theorem ar45 (h0 : a ≤ 4) : a + 45 ≤ 297 := by lia
theorem ar56 (h0 : a < 64) : a / 30 + 1 ≤ 300 := by lia
theorem ar57 (h0 : a ≤ 300) : ¬a > 300 := by lia
theorem ar58 : a + b = b + a := by lia
theorem ar59 (h0 : a ≤ 1000) : (a : Int) ≤ 1000 := by lia
theorem ar62 (h0 : a < b) (h1 : c < a) : c < b := by lia
theorem ar63 (h0 : ¬a < b) : b ≤ a := by lia
theorem ar65 (h0 : a < 1000) : (a : Int) < 2 ^ 63 := by lia
theorem ar67 (h0 : a < b) : 0 < b := by lia
theorem ar68 (h0 : a < b) (h1 : b ≤ 7) : a < 1000 := by lia
theorem ar69 (h0 : a < 4 * 0) : ¬a < 4 * 0 := by lia
theorem ar70 (h0 : a ≤ 4) : a + (4 - a) = 4 := by grind
theorem ar71 (h0 : ¬a ≤ 4) : 4 + (a - 4) = a := by lia
theorem ar72 (h0 : a ≤ b) (h1 : ¬a ≤ 4) : a - 4 ≤ b - 4 := by lia
theorem ar73 (h0 : a ≤ b) (h1 : b < 4 * (c + 1)) (h2 : ¬a ≤ 4) : b - 4 < 4 * c := by lia
theorem ar74 (h0 : a < 2 ^ 60) : a < 4 * 2 ^ 64 := by lia
theorem ar76 (h0 : a ≤ 10000) (h1 : b = a) : a ≤ 16777216 := by lia
theorem ar77 (h0 : a ≤ 10000) (h1 : b = a) : a + 1 ≤ 16777216 + 1 := by lia
theorem ar78 (h0 : a = 0) (h1 : b = c) : d + b + a + e = d + (c + e) := by lia
theorem ar79 (h0 : a ≤ 100000) : ¬a > 16777216 := by lia
theorem ar80 (h0 : a - b < 0) : ¬a - b < 0 := by lia
theorem ar81 (h0 : a < b) : b ≠ a := by lia
theorem ar83 (h0 : a ≤ b) (h1 : b < c) (h2 : d ≤ 2 * a + 1) : d + 1 ≤ 2 * c := by lia
theorem ar84 (h0 : a ≤ 2) (h1 : b ≤ 3 * c) (h2 : c ≤ d) (h3 : d < e) (h4 : f ≤ d - c) : b + f + a ≤ 3 * e := by lia
theorem ar85 (h0 : a ≤ 2000) (h1 : b ≤ a) (h2 : c ≤ 2 * b) : c ≤ 10000 := by lia
theorem ar86 (h0 : a ≤ 2000) (h1 : b ≤ a) (h2 : c ≤ 2 * b) : c + 1 ≤ 10000 := by lia
theorem ar87 (h0 : a ≤ 2 * b) : a + 1 ≤ 2 * b + 1 := by lia
theorem ar88 (h0 : a ≤ 2000) (h1 : b ≤ 2 * c) (h2 : c ≤ d) (h3 : d < e) (h4 : e ≤ a) (h5 : ¬c < d) : b ≤ 10000 := by lia
theorem ar89 (h0 : a ≤ 2 * b) (h1 : b ≤ c) (h2 : ¬b < c) : a ≤ 2 * b + 1 := by lia
theorem ar90 (h0 : a ≤ b) (h1 : ¬a < b) : b - a = 0 := by lia
theorem ar91 (h0 : a ≤ 2000) (h1 : b ≤ 2 * c) (h2 : d = a) (h3 : c < a) : b ≤ 10000 := by lia
theorem ar92 (h0 : a ≤ 2000) (h1 : b ≤ 2 * c) (h2 : d = a) (h3 : c < a) : b + 1 ≤ 10000 := by lia
theorem ar94 (h0 : a ≤ 2000) (h1 : b ≤ a) (h2 : c ≤ 2 * b) (h3 : d = a) (h4 : ¬b < a) : c ≤ 10000 := by lia
theorem ar95 (h0 : a ≤ 2000) (h1 : b ≤ a) (h2 : c ≤ 3 * b) (h3 : d = a) (h4 : ¬b < a) : c ≤ 100000 := by lia
theorem ar96 (h0 : a ≤ b) (h1 : c = b) (h2 : ¬a < b) : b ≤ a := by lia
theorem ar106 (h0 : a - 1 - 0 = a) : a ≤ a - 1 := by lia
theorem ar111 (h0 : a = b) (h1 : c = b) (h2 : a ≤ 2097152) : b ≤ 2097152 := by lia
theorem ar112 (h0 : a ≤ 2097152) : a ≤ 16777216 := by lia
theorem ar113 : ¬a + 1 + 1 = a := by lia
theorem ar114 (h0 : a ≤ 64) : a ≤ 1000 := by lia
theorem ar115 : 0 + a ≤ a := by lia
theorem ar124 (h0 : a + 20 ≤ b) : b = b - 1 + 1 := by lia
theorem ar125 (h0 : a + 1 + 20 ≤ b) : b = b - 17 + 17 := by lia
theorem ar126 (h0 : a + (b + 1) ≤ 100) : a ≤ 1000 := by lia
theorem ar127 (h0 : a + (b + 1) ≤ 100) (h1 : c + 10 * (b + 1) ≤ 400) : c ≤ 500 := by lia
theorem ar128 (h0 : a + 1 + 20 ≤ b + 17) : a + 20 ≤ b + 16 := by lia
theorem ar129 (h0 : a + (b + 1) ≤ 100) : a + (0 + 1) + b ≤ 100 := by lia
theorem ar130 (h0 : a + 10 * (b + 1) ≤ 400) (h1 : c ≤ 5) (h2 : d ≤ 2) : a + c + d + 10 * b ≤ 400 := by lia
theorem ar131 (h0 : a + 10 * (b + 1) ≤ 400) (h1 : c ≤ 6) : a + c + (0 + 1 + 1) + 10 * b ≤ 400 := by lia
theorem ar132 (h0 : a + (b + 1) = c + (d + 1)) : a + b = c + d := by lia
theorem ar133 (h0 : a + 0 = b + 0) : ¬a < b := by lia
theorem ar134 (h0 : a + (b + 1) = c + 0) : a < c := by lia
theorem ar135 (h0 : a + 0 = b + (c + 1)) : ¬a < b := by lia
theorem ar136 (h0 : a = b) (h1 : c = d) : a + d = c + b := by lia
theorem ar138 (h0 : a < b) (h1 : b < c) (h2 : d = c + 1) : c ≠ 0 := by lia
theorem ar139 (h0 : a < b) (h1 : b < c) (h2 : d = c + 1) (h3 : 4 < a) : 4 ≠ c := by lia
theorem ar140 (h0 : a < b) (h1 : c = d) (h2 : b < d) (h3 : e = d + 1) (h4 : 4 < a) : 4 < e := by lia
theorem ar141 (h0 : a < b) (h1 : b < c) (h2 : d = c + 1) (h3 : e < a) : e ≠ c := by lia
theorem ar142 (h0 : a < b) (h1 : b < c) (h2 : d = c + 1) (h3 : e < a) : e < d := by omega
theorem ar143 (h0 : a < b) (h1 : c = b + 1) : a ≠ b := by lia
theorem ar144 (h0 : a < b) (h1 : c = b + 1) : a < c := by grind
theorem ar145 (h0 : a < b) (h1 : c = b + 1) : b ≠ a := by lia
theorem ar146 (h0 : a ≤ 7) : a ≤ 1000 := by lia
theorem ar147 (h0 : 0 < a) : 0 < (a : Int) := by omega
theorem ar150 (h0 : a ≤ 5) : a + (5 - a) = 5 := by grind
theorem ar152 (h0 : a + (b + 1) < c) : a + 1 + b < c := by lia
theorem ar153 (h0 : a + 9 * (b + 1) + 100 < c) : a + 3 + 9 * b + 100 < c := by lia
theorem ar154 (h0 : a ≤ b) (h1 : c + b < d) : c + a < d := by lia
theorem ar155 (h0 : a ≤ b) (h1 : c + 9 * b + 100 < d) : c + 9 * a + 100 < d := by lia
theorem ar156 (h0 : a + 9 * b + 100 < c) : a < c := by lia
theorem ar157 (h0 : a < 64) : a + 1 ≤ 64 := by lia
theorem ar160 (h0 : a ≤ 65533) : 0 ≤ (a : Int) := by lia
theorem ar161 (h0 : a ≤ 65533) : (a : Int) ≤ 1114111 := by lia
theorem ar162 (h0 : a ≤ 2) : 0 ≤ (a : Int) := by lia
theorem ar163 (h0 : a ≤ 2) : (a : Int) ≤ 1000 := by lia
theorem ar164 (h0 : a ≤ 2) : 0 ≤ ((a + 1 : Nat) : Int) := by lia
theorem ar165 (h0 : a ≤ 2) : ((a + 1 : Nat) : Int) ≤ 1000 := by lia
theorem ar166 (h0 : a ≤ 2) (h1 : b = a) (h2 : c = a + 1) : b ≤ 1000 := by grind
theorem ar167 (h0 : a ≤ 2) (h1 : b = a) (h2 : c = a + 1) : 0 + 1 + b ≤ 1000 := by lia
theorem ar168 (h0 : a ≤ 2) : a ≤ 1000 := by lia
theorem ar169 (h0 : a ≤ 500) : a ≤ 1000 := by lia
theorem ar170 (h0 : a ≤ 2) (h1 : b ≤ 2) (h2 : c = a) (h3 : d = a + 1) : 0 + 1 + c + b ≤ 1000 := by lia
theorem ar171 (h0 : a ≤ 2) (h1 : b ≤ 2) (h2 : c ≤ 500) (h3 : d = a) (h4 : e = a + 1) : c + (0 + 1 + d + b) ≤ 1000 := by lia
theorem ar172 (h0 : a ≤ 2) (h1 : b = a) (h2 : c = a + 1) (h3 : 0 < (a : Int)) : 0 < a := by lia
theorem ar173 (h0 : a ≤ 2) (h1 : b = a) (h2 : c = a + 1) (h3 : 0 < a) : b ≤ 1000 := by lia
theorem ar174 (h0 : a ≤ 2) (h1 : b = a) (h2 : c = a + 1) (h3 : 0 < a) : c ≤ 1000 := by omega
theorem ar175 (h0 : a ≤ 2) (h1 : b = a) (h2 : c = a + 1) (h3 : 0 < a) : b + (0 + 1) ≤ 1000 := by lia
theorem ar176 (h0 : a ≤ 2) (h1 : b ≤ 2) (h2 : c = a) (h3 : d = a + 1) (h4 : 0 < a) : c + (0 + 1) + b ≤ 1000 := by lia
theorem ar177 (h0 : a ≤ 2) (h1 : b ≤ 2) (h2 : c ≤ 500) (h3 : d = a) (h4 : e = a + 1) (h5 : 0 < a) : c + (d + (0 + 1) + b) ≤ 1000 := by lia
theorem ar178 (h0 : a ≤ 2) (h1 : b ≤ 2) (h2 : c ≤ 500) (h3 : d = a) (h4 : e = a + 1) (h5 : 0 < a) : c + (0 + 1 + (d + (0 + 1) + b)) ≤ 1000 := by lia
theorem ar179 (h0 : a ≤ 2) (h1 : b ≤ 2) (h2 : c = a) (h3 : d = a + 1) (h4 : 0 < a) : 0 + 1 + (c + (0 + 1) + b) ≤ 1000 := by lia
theorem ar180 (h0 : a ≤ 2) (h1 : b = a) (h2 : c = a + 1) (h3 : ¬0 < (a : Int)) : ¬0 < a := by lia
theorem ar181 (h0 : a ≤ 2) (h1 : b = a) (h2 : c = a + 1) (h3 : ¬0 < a) : b ≤ 1000 := by lia
theorem ar182 (h0 : a ≤ 2) (h1 : b = a) (h2 : c = a + 1) (h3 : ¬0 < a) : c ≤ 1000 := by omega
theorem ar183 (h0 : a ≤ 2) (h1 : b = a) (h2 : c = a + 1) (h3 : ¬0 < a) : b + (0 + 1) ≤ 1000 := by omega
theorem ar184 (h0 : a ≤ 2) (h1 : b ≤ 2) (h2 : c = a) (h3 : d = a + 1) (h4 : ¬0 < a) : c + (0 + 1) + b ≤ 1000 := by lia
theorem ar185 (h0 : a ≤ 2) (h1 : b ≤ 2) (h2 : c ≤ 500) (h3 : d = a) (h4 : e = a + 1) (h5 : ¬0 < a) : c + (d + (0 + 1) + b) ≤ 1000 := by lia
theorem ar194 (h0 : 0 < a) (h1 : a ≤ 64) (h2 : b ≤ c) : b + a - 1 ≤ c + a - 1 := by lia
theorem ar195 (h0 : a ≤ 64) (h1 : b ≤ a) : b ≤ 64 := by lia
theorem ar196 (h0 : a ≤ 64) (h1 : 0 < b) (h2 : b ≤ 64) (h3 : c ≤ a + b - 1) : c ≤ 1000 := by lia
theorem ar197 (h0 : a + b - 1 < c + b) : a ≤ c := by lia
theorem ar198 (h0 : 0 < a) (h1 : a ≤ 64) : 0 < (a : Int) := by lia
theorem ar199 (h0 : 0 < a) (h1 : a ≤ 64) : (a : Int) ≤ 64 := by lia
theorem ar200 (h0 : 0 < a) (h1 : a ≤ 64) : a ≤ 64 := by lia
theorem ar201 (h0 : a = b) (h1 : a ≤ 64) : a ≤ 100 := by lia
theorem ar202 (h0 : a = b) (h1 : a ≤ 64) : a + 20 ≤ 294 := by lia
theorem ar203 : a ≤ a := by lia
theorem ar204 (h0 : a = b) (h1 : a ≤ 64) : 0 + a ≤ 100 := by lia
theorem ar206 (h0 : a ≤ 1000) : a ≤ 1000 := by lia
theorem ar207 (h0 : a = b) (h1 : a ≤ 64) (h2 : c = a) (h3 : a = d) : a ≤ 64 := by lia
theorem ar208 (h0 : a = b) (h1 : a ≤ 64) (h2 : c = a) (h3 : a = d) : a ≤ 1000 := by lia
theorem ar211 (h0 : a + 1 + 1 ≤ b) : b = b - 1 + 1 := by lia
theorem ar213 (h0 : a + 1 + 1 ≤ b + 1) : a + 1 ≤ b := by lia
theorem ar216 (h0 : a + 1 + 1 ≤ b + 1) : b = b - 1 + 1 := by lia
theorem ar225 (h0 : 0 + 10 ≤ a) : 8 + 1 ≤ a := by lia
theorem ar226 (h0 : a + 1 + 10 ≤ b) : a + 10 ≤ b := by lia
theorem ar227 (h0 : a + 1 + 10 ≤ b) : b = b - 1 + 1 := by lia
theorem ar228 (h0 : a + 1 + 10 ≤ b + 1) : a + 10 ≤ b := by lia
theorem ar240 (h0 : a < b) : ¬b + c = a := by lia
theorem ar241 (h0 : ¬a < b) : b + c = a ↔ c = a - b := by lia
theorem ar242 : a + 1 + 4 ≤ a + 8 := by lia
theorem ar243 : a + 1 ≤ a + 1 := by lia
theorem ar244 (h0 : a ≤ b + 1) : a ≤ b + 1 := by omega
theorem ar245 (h0 : a ≤ 4096) (h1 : 4096 ≤ b) : ¬a > b + 1 := by lia
theorem ar246 : a + 1 + 1 + 1 ≤ a + 3 := by lia
theorem ar247 (h0 : a ≤ b) : a ≤ b + c := by lia
theorem ar248 (h0 : a ≤ 4000) : a + 1 ≤ 4096 := by lia
theorem ar249 (h0 : a ≤ b + 8) (h1 : c ≤ a + 1) (h2 : d ≤ c + 1 + 3) : d ≤ b + 15 := by lia
theorem ar250 (h0 : a + (b + 1) ≤ 4000) : a ≤ 4000 := by lia
theorem ar251 (h0 : a + (b + 1) ≤ 4000) : a + 1 + b ≤ 4000 := by lia
theorem ar252 : a + 1 + b = a + (b + 1) := by lia
theorem ar253 : a + 1 + 1 + 1 + 3 * b = a + 3 * (b + 1) := by lia
theorem ar254 (h0 : a ≤ b + 1 + 1 + 1 + 15) (h1 : c ≤ a + 30 * d) : c ≤ b + 30 * (d + 1) := by lia
theorem ar255 (h0 : a ≤ b + 1) (h1 : c ≤ a + 3) : c ≤ b + 4 := by lia
theorem ar256 (h0 : a + 0 = b) : b ≤ a := by lia
theorem ar257 : a ≤ a + 10 * 0 := by lia
theorem ar258 (h0 : a + (b + 1) = c) : a < c := by lia
theorem ar259 (h0 : a + (b + 1) = c) (h1 : d + (b + 1) ≤ 4000) (h2 : a < c) : d ≤ 4000 := by lia
theorem ar260 (h0 : a + (b + 1) = c) : a + 1 + b = c := by lia
theorem ar261 (h0 : a ≤ b + 1) (h1 : c ≤ a + 4) (h2 : d ≤ c + 1) (h3 : e ≤ d + 10 * f) : e ≤ b + 10 * (f + 1) := by lia
theorem ar262 : 0 + a = a := by lia
theorem ar263 (h0 : a ≤ b + 1) (h1 : c ≤ a + 1) (h2 : d ≤ c + 1) (h3 : e ≤ d + 1) (h4 : f ≤ e + 1) (h5 : g ≤ f + 10 * h) : g ≤ b + 10 * h + 8 := by lia
theorem ar264 (h0 : a ≤ 1000) (h1 : a = b) (h2 : b = c) : (c : Int) < 2 ^ 63 := by lia
theorem ar266 (h0 : a ≤ 2 ^ 24) : ¬a > (2 ^ 63 - 1) / 8 := by lia
theorem ar267 (h0 : a ≤ 2 ^ 24) : a ≤ 16777216 := by lia
theorem ar268 (h0 : a ≤ 1000) : -(2 ^ 63) ≤ (a : Int) := by lia
theorem ar269 (h0 : a ≤ 1000) : (a : Int) < 2 ^ 63 := by lia
theorem ar270 (h0 : a ≤ 1000) : 1 * a ≤ 2 ^ 24 := by lia
theorem ar272 : a + (b + (0 + 1)) + (0 + c) = a + (b + (c + 1)) := by lia
theorem ar273 : a + (b + (0 + 1) + c) = a + (b + (c + 1)) := by lia
theorem ar274 (h0 : a + (b + (0 + 1)) = c) : c ≠ 0 := by lia
theorem ar275 (h0 : a = 650) : a ≤ 4000 := by lia
theorem ar276 (h0 : a = 4) : a ≤ 15 := by lia
theorem ar277 (h0 : a = 650) (h1 : b = 4) (h2 : c + b = 0 + (0 + a)) : c + b ≤ 4000 := by lia
theorem ar278 (h0 : a = 650) (h1 : b = 4) (h2 : c ≤ 0 + 1 + 1 + 200 * a + 60 * b + 40) : c ≤ 140000 := by lia
theorem ar279 (h0 : a = 3) (h1 : b = 3) (h2 : c = a) (h3 : d = b) : ¬c < d := by lia
theorem ar280 (h0 : 1 ≤ a) (h1 : a < 10) (h2 : b = a) : b ≤ 16777216 := by lia
theorem ar281 (h0 : a = b) (h1 : b = 1) : a < 2 := by lia
theorem ar282 (h0 : a = b) (h1 : b = 1) : a ≤ 16777216 + 1 := by lia
theorem ar283 (h0 : 1 ≤ a) (h1 : a < 10) (h2 : b = a) (h3 : ¬a = 1) : ¬b < 2 := by lia
theorem ar284 (h0 : 1 ≤ a) (h1 : a < 10) (h2 : b = a) (h3 : c = b) : 0 < c := by lia
theorem ar285 (h0 : 1 ≤ a) (h1 : a < 10) (h2 : b = a) (h3 : ¬a = 1) (h4 : c = b) : 2 ≤ b := by lia
theorem ar286 (h0 : 1 ≤ a) (h1 : a < 10) (h2 : b = a) (h3 : c = b) : b < 64 := by lia
theorem ar287 (h0 : 1 ≤ a) (h1 : a < 10) (h2 : b = a) (h3 : c = b) (h4 : d = b) : d ≤ 1000000 := by lia
theorem ar288 (h0 : a ≤ 1000000) : a ≤ 16777216 + 1 := by lia
theorem ar289 (h0 : a = b) (h1 : a ≤ c) : b ≤ c := by lia
theorem ar290 (h0 : a < b) (h1 : b = c) : a < c := by grind
theorem ar291 (h0 : ¬a < b) (h1 : a < b + 1) : a = b := by lia
theorem ar294 (h0 : a ≤ 63) (h1 : b = a) : b ≤ 1000 := by lia
theorem ar295 (h0 : a ≤ 1000) : a ≤ 16777216 := by lia
theorem ar297 (h0 : a + b ≤ 100) (h1 : b + 30 ≤ c) : c = c - 1 + 1 := by lia
theorem ar298 (h0 : a + 1 + 30 ≤ b) : b = b - 21 + 21 := by lia
theorem ar299 (h0 : a < b) : a < b + c := by lia
theorem ar300 (h0 : a + (b + 1) ≤ 100) : a + 1 + b ≤ 100 := by lia
theorem ar301 (h0 : a + 1 + 30 ≤ b + 21) : a + 30 ≤ b + 20 := by lia
theorem ar302 (h0 : a + b ≤ c) : a ≤ c := by lia
theorem ar303 (h0 : a ≤ 1000) : a + 1 ≤ 2097152 := by lia
theorem ar304 (h0 : a ≤ 100) : a ≤ 1000 := by lia
theorem ar305 (h0 : a < b) : b + c ≠ a := by lia
theorem ar306 : 4 + 30 ≤ a + 49 := by lia
theorem ar307 (h0 : a < b) : a < b + c + d := by lia
theorem ar308 (h0 : a + b + c ≤ d) : a ≤ d := by lia
theorem ar309 (h0 : 0 < a) : (a : Int) ≠ 0 := by lia
theorem ar310 (h0 : 0 < a) (h1 : a ≤ 64) (h2 : b ≤ 64) (h3 : c ≤ b + a - 1) : c ≤ 1000 := by lia
theorem ar311 (h0 : 0 < a) (h1 : a ≤ 64) (h2 : b ≤ 64) (h3 : b + a - 1 < c + a) : b ≤ c := by lia
theorem ar312 (h0 : 0 < a) (h1 : a ≤ 64) : 0 + a - 1 < a := by grind
theorem ar313 (h0 : a < 2 ^ 64) (h1 : a < 2 ^ 0) (h2 : a ≠ 0) : 0 < b := by lia
theorem ar314 (h0 : 0 < a) (h1 : (b + (b + (a + c))) / 2 = b + a) (h2 : a < 1000) : (b : Int) + 1 ≠ ((b + (a + c) : Nat) : Int) := by lia
theorem ar315 : ((a + b : Nat) : Int) - (a : Int) = (b : Int) := by lia
theorem ar316 (h0 : 0 < a) (h1 : (b + (b + (a + c))) / 2 = b + a) (h2 : a < 1000) : a < 2 ^ 64 := by lia
theorem ar317 : 64 ≤ 64 + a := by lia
theorem ar318 (h0 : a < b) : a ≤ b := by lia
theorem ar320 (h0 : a ≤ 0) (h1 : 0 < a) : ¬0 < a := by lia
theorem ar321 (h0 : 0 < a) : a = a - 1 + 1 := by lia
theorem ar322 (h0 : a + (0 + 1) ≤ b) : a < b := by lia
theorem ar323 (h0 : a ≤ 64) (h1 : b + (0 + 1) ≤ a) : b < 1000 := by grind
theorem ar324 (h0 : a > 0) : a + 1 = (a + 1) / 2 + (a + 1 - (a + 1) / 2) := by lia
theorem ar325 (h0 : a > 0) : 0 < (a + 1) / 2 := by lia
theorem ar326 (h0 : a > 0) : 0 < a + 1 - (a + 1) / 2 := by lia
theorem ar327 (h0 : a > 0) : (b + (b + ((a + 1) / 2 + (a + 1 - (a + 1) / 2)))) / 2 = b + (a + 1) / 2 := by grind
theorem ar328 (h0 : a + 1 = b + c) (h1 : 0 < c) : b ≤ a := by lia
theorem ar329 (h0 : a + 1 = b + c) (h1 : 0 < b) : c ≤ a := by lia
theorem ar330 (h0 : a + 1 ≤ b + 1) (h1 : a + 1 = c + d) (h2 : 0 < d) : c ≤ b := by lia
theorem ar331 (h0 : a + (b + 1) ≤ c) (h1 : b + 1 = d + e) (h2 : 0 < d) (h3 : (a + (a + (d + e))) / 2 = a + d) : a + d ≤ c := by omega
theorem ar332 (h0 : a + 1 ≤ b + 1) (h1 : a + 1 = c + d) (h2 : d ≤ a) : d ≤ b := by grind
theorem ar333 (h0 : a + (b + 1) ≤ c) (h1 : b + 1 = d + e) (h2 : (a + (a + (d + e))) / 2 = a + d) : a + d + e ≤ c := by lia
theorem ar335 (h0 : a + (b + 1) ≤ c) (h1 : b + 1 = d + e) (h2 : 0 < e) (h3 : (a + (a + (d + e))) / 2 = a + d) (h4 : f = g + c) : d ≤ c := by lia
theorem ar336 (h0 : a ≤ 64) (h1 : b ≤ 1000) (h2 : c ≤ 64 + d) (h3 : d ≤ e) (h4 : e = b + a) (h5 : f ≤ b) : c + f ≤ 2 ^ 27 := by lia
theorem ar337 (h0 : a ≤ 64) (h1 : b + (c + 1) ≤ a) (h2 : c > 0) (h3 : c + 1 = d + e) (h4 : 0 < e) (h5 : (b + (b + (d + e))) / 2 = b + d) : d < 1000 := by lia
theorem ar338 (h0 : a ≤ 64) (h1 : b + (c + 1) ≤ a) (h2 : c + 1 = d + e) (h3 : 0 < e) (h4 : (b + (b + (d + e))) / 2 = b + d) : d ≤ a - b := by lia
theorem ar344 (h0 : 0 < a) (h1 : a ≤ 7) : 0 < (a : Int) := by lia
theorem ar346 (h0 : 0 < a) (h1 : a ≤ 7) : a ≤ 1000 := by lia
theorem ar347 : a + b + 2 ≤ a + (b + (c + 1 + 1)) := by lia
theorem ar348 (h0 : a = b) : a ≤ b + c := by lia
theorem ar349 (h0 : a ≤ b) (h1 : b < a + c) : b - a < c := by grind
theorem ar350 : a ≤ a + b := by lia
theorem ar351 : a + (b + (0 + 1 + 1)) = a + b + 2 := by lia
theorem ar352 : 2 ≤ a + (0 + 1 + 1) + b := by lia
theorem ar353 (h0 : 2 ≤ a) (h1 : 1 ≤ b) : ¬(a < 2 ∨ b < 1) := by lia
theorem ar361 (h0 : a + 1 + 20 ≤ b) : b = b - 20 + 20 := by lia
theorem ar368 (h0 : a + 1 + 20 ≤ b + 20) : a + 20 ≤ b + 19 := by lia
theorem ar369 (h0 : a ≤ 5) (h1 : b ≤ 2) : a + b ≤ 20 := by lia
theorem ar370 (h0 : a ≤ 6) : a + (0 + 1 + 1) ≤ 20 := by lia
theorem ar371 : 0 ≤ a := by lia
theorem ar372 (h0 : a < b) : a + 1 ≤ b := by lia
theorem ar373 (h0 : a ≤ 1000) : 0 ≤ (a : Int) := by lia
theorem ar374 (h0 : 0 + 20 ≤ a) : a = a - 1 + 1 := by lia
theorem ar375 (h0 : a ≤ 100) (h1 : b + 1 + 20 ≤ c) (h2 : b + 1 ≤ a) : c = c - 13 + 13 := by lia
theorem ar380 (h0 : a ≤ 64) (h1 : b ≤ a + a) : (b : Int) - (a : Int) ≤ 4000 := by lia
theorem ar381 (h0 : a ≤ 100) (h1 : b + 1 ≤ a) (h2 : c + (b + 1) ≤ 100) : c ≤ 1000 := by lia
theorem ar382 (h0 : a + 1 + 20 ≤ b + 13) : a + 20 ≤ b + 12 := by lia
theorem ar383 (h0 : a + 1 ≤ b) (h1 : c = a) : a ≤ b := by lia
theorem ar389 : ¬(a : Int) < 0 := by lia
theorem ar390 (h0 : a ≤ b) : b - a + a = b := by lia
theorem ar391 : ¬0 ≤ -(a : Int) - 1 := by lia
theorem ar393 (h0 : a + b = c) : (c : Int) - (a : Int) = (b : Int) := by lia
theorem ar411 (h0 : 1 ≤ a) (h1 : a < 10) (h2 : a = b) (h3 : b = c) : 1 ≤ c := by lia
theorem ar412 (h0 : 1 ≤ a) (h1 : a < 10) (h2 : a = b) (h3 : b = c) : c < 10 := by lia
theorem ar413 (h0 : a ≤ 1000) : a ≤ 100000 := by lia
theorem ar414 (h0 : a ≤ 10) : a ≤ 1000 := by lia
theorem ar415 (h0 : a = b) (h1 : b = c) (h2 : a ≤ d) : c ≤ d := by lia
theorem ar417 (h0 : a = b) (h1 : b = c) (h2 : a ≤ 1000) : c ≤ 16777216 := by lia
theorem ar420 (h0 : 0 < a) : (b : Int) + (a : Int) - 1 = ((b + a - 1 : Nat) : Int) := by lia
theorem ar421 (h0 : a ≤ 64) (h1 : 0 < a) : a < 2 ^ 64 := by lia
theorem ar422 (h0 : a ≤ 64) (h1 : 0 < a) : (a : Int) ≠ 0 := by lia
theorem ar423 : ¬a = a + 1 + 1 := by lia
theorem ar424 (h0 : a = b) (h1 : a ≤ 64) : a ≤ 1000 := by lia
theorem ar425 (h0 : 0 < a) : a ≠ 0 := by lia
theorem ar426 (h0 : a + 1 < b + 1) (h1 : c < a + 1) : c < b := by lia
theorem ar427 (h0 : a ≥ b) (h1 : a ≤ c) : ¬c < b := by grind
theorem ar428 (h0 : ¬a ≥ b) : a < b := by lia
theorem ar429 (h0 : a ≤ b) (h1 : b < a) : ¬a ≤ b := by grind
theorem ar430 (h0 : a - b < c + 1) (h1 : ¬b ≥ a) (h2 : ¬(d = 10 ∨ d = 13)) : a - (b + 1) < c := by lia
theorem ar431 (h0 : a < b) : ¬a > b := by lia
theorem ar432 (h0 : a < b) : ¬b - a < 1 := by lia
theorem ar433 (h0 : a < b) : b - a < b + 1 - a := by lia
theorem ar434 : 20 ≤ (a + 1) * 6 + 30 := by lia
theorem ar435 : 1 ≤ (a + 1) * 6 + 30 := by lia
theorem ar436 (h0 : a ≤ b) (h1 : ¬a < b) : b - a < 1 := by lia
theorem ar437 (h0 : a ≤ b) (h1 : ¬a < b) (h2 : a ≤ c) : ¬c < b := by grind
theorem ar438 (h0 : a ≤ b) (h1 : ¬a < b) : 1 ≤ (b + 1) * 6 + 30 := by lia
theorem ar439 (h0 : a ≤ 2000) : a - 0 < a + 1 := by lia
theorem ar440 (h0 : a = b + 1) : b < a := by lia
theorem ar441 (h0 : a = b + 1) (h1 : b < c) : a ≤ c := by lia
theorem ar442 (h0 : a ≤ 2000) : (a + 1) * 6 < 2 ^ 60 := by lia
theorem ar443 (h0 : a = 13 ∧ b + 1 < c ∧ d = 10) : b < b + 2 ∧ b + 2 ≤ c := by lia
theorem ar444 (h0 : a < b) : a < a + 1 ∧ a + 1 ≤ b := by lia
theorem ar445 (h0 : a = b) (h1 : c < b ∧ b ≤ d) : c < a := by lia
theorem ar446 (h0 : a = b) (h1 : c < b ∧ b ≤ d) : a ≤ d := by lia
theorem ar447 (h0 : a ≤ 2000) : (a + 1) * 6 + 30 < 2 ^ 60 := by lia
theorem ar448 (h0 : a - b = 0) (h1 : b ≤ a) : b = a := by lia
theorem ar449 (h0 : a - b = c + 1) (h1 : b ≤ a) (h2 : a ≤ d) : b < d := by lia
theorem ar450 (h0 : a - b = c + 1) (h1 : b ≤ a) : a - (b + 1) = c := by grind
theorem ar451 (h0 : a - b = c + 1) (h1 : b ≤ a) : b + 1 ≤ a := by lia
theorem ar452 (h0 : a - b = c + 1) (h1 : b ≤ a) : b < a := by lia
theorem ar453 (h0 : a - b = c + 1) (h1 : b ≤ a) : a - b = a - (b + 1) + 1 := by grind
theorem ar454 (h0 : a + 1 = 0) : b = 10 := by lia
theorem ar455 (h0 : a = b + 1) (h1 : b < c) : b ≤ c := by lia
theorem ar456 (h0 : a - b = c + 1) (h1 : b ≤ a) (h2 : ¬d = 10 ∧ ¬d = 13) : a - b = a - (b + 1) + 1 := by lia
theorem ar457 (h0 : a = b + 2) (h1 : b + 1 < c ∧ d = 10) : a ≤ c := by lia
theorem ar458 (h0 : a = b + 1) (h1 : b < c) (h2 : ¬b + 1 < c) : c ≤ b + 1 := by lia
theorem ar459 : a ≤ a + (b + 1) := by lia
theorem ar460 (h0 : a + (b + (c + (d + (e + (f + (g + (h + (i + (j + k))))))))) ≤ l) : a + (b + (c + (d + (e + (f + (g + (h + (i + (j + k))))))))) + (l - (a + (b + (c + (d + (e + (f + (g + (h + (i + (j + k))))))))))) = l := by omega
theorem ar461 (h0 : a ≤ 60 + 140000) : 12 + (1 + (160 + (200 + (242 + (a + (31 + (200 + (80 + (132 + 2))))))))) ≤ 150000 := by lia
theorem ar462 : ((a + 1 : Nat) : Int) - 1 = (a : Int) := by lia
theorem ar463 : 0 < ((a + 1 : Nat) : Int) := by omega
theorem ar464 (h0 : 15 < a) (h1 : a ≤ 4000) : ¬a ≤ 15 := by lia
theorem ar465 (h0 : a ≤ b + 1 + 1 + 30 * c) : a ≤ b + 30 * c + 5 := by lia
theorem ar466 : a ≤ a + 3 * b := by lia
theorem ar467 (h0 : a ≤ b + 1 + 1 + 1 + 3 * c) : a ≤ b + 3 * (c + 1) := by lia
theorem ar468 : a + 2 * (b + 1) = a + 1 + 1 + 2 * b := by lia
theorem ar469 (h0 : a ≤ b + 15) (h1 : c ≤ a + 30 * d) : c ≤ b + 30 * (d + 1) := by lia
theorem ar470 (h0 : a ≤ 15) : a ≤ 15 := by lia
theorem ar471 (h0 : a ≤ 15) : a ≤ 4000 := by lia
theorem ar472 : a + 2 * b + b = a + 3 * b := by lia
theorem ar473 (h0 : a ≤ 15) (h1 : b ≤ c + 1 + 3 * a) (h2 : d ≤ b + 30 * a) : d ≤ c + 40 * a + 5 := by lia
theorem ar474 (h0 : a ≤ b + 40 * c + 5) : a ≤ b + 40 * c + 5 := by omega
theorem ar475 (h0 : ¬a ≤ 15) : 15 < a := by omega
theorem ar476 (h0 : a + b ≤ 4000) : b ≤ 4000 := by lia
theorem ar477 (h0 : a + b ≤ 4000) (h1 : ¬b ≤ 15) (h2 : c ≤ d + 30 * b + 5) : c ≤ d + 40 * b + 5 := by lia
theorem ar478 (h0 : a + b ≤ 4000) (h1 : c ≤ d + 40 * b + 5) : c ≤ d + 60 * b + 30 := by lia
theorem ar479 (h0 : a + b ≤ 4000) (h1 : c ≤ d + 40 * b + 5) (h2 : e = b) (h3 : f ≤ c + 10 * b + 8) : f ≤ d + 60 * b + 30 := by lia
theorem ar480 (h0 : a = 17) : ¬a ≤ 15 := by lia
theorem ar481 (h0 : a + b + (c + 1) ≤ 4000) (h1 : d = b + 1) (h2 : d = 17) : a + d ≤ 4000 := by omega
theorem ar482 (h0 : a + b + (c + 1) ≤ 4000) (h1 : d = b + 1) (h2 : d = 17) : a + d + 0 + c ≤ 4000 := by lia
theorem ar483 (h0 : a = b + 1) (h1 : a = 17) (h2 : c ≤ d + 60 * 17 + 30) (h3 : e ≤ c + 200 * (0 + f)) : e ≤ d + 200 * (b + (f + 1)) := by lia
theorem ar484 (h0 : a = 17) (h1 : b + a = c) : c ≠ 0 := by lia
theorem ar485 (h0 : a + b + (c + 1) ≤ 4000) (h1 : d = b + 1) : a + d + c ≤ 4000 := by lia
theorem ar486 (h0 : a = b + 1) (h1 : c ≤ d + 200 * (b + 1 + e)) : c ≤ d + 200 * (b + (e + 1)) := by lia
theorem ar487 (h0 : a ≤ b + 200 * (0 + c)) (h1 : d ≤ a + 60 * e + 30) : d ≤ b + 200 * c + 60 * e + 40 := by lia
theorem ar494 (h0 : a = b) (h1 : c = d) (h2 : d = e) (h3 : b = c) : a = e := by lia
theorem ar495 : a + 1 + b = a + b + 1 := by lia
theorem ar496 (h0 : a + 1 ≤ b) : (a : Int) < (b : Int) := by omega
theorem ar497 (h0 : 0 < a) : b ≤ b + a := by lia
theorem ar498 (h0 : 0 < a) (h1 : (b + (b + (a + c))) / 2 = b + a) : (b : Int) + 1 ≠ ((b + (a + c) : Nat) : Int) := by lia
theorem ar499 (h0 : (a + (a + (b + c))) / 2 = a + b) (h1 : a + (b + c) ≤ d) (h2 : d ≤ 1000) : b < 2 ^ 64 := by lia
theorem ar500 (h0 : a ≤ 1000) (h1 : b + (c + 1) ≤ a) (h2 : c > 0) (h3 : c + 1 = d + e) (h4 : 0 < e) (h5 : (b + (b + (d + e))) / 2 = b + d) : e ≤ c := by lia
theorem ar501 (h0 : a + 1 = b + c) (h1 : 0 < c) : b ≤ a + 1 := by lia
theorem ar502 (h0 : a + 1 = b + c) (h1 : c ≤ a) : c ≤ a + 1 := by lia
theorem ar503 (h0 : a + (b + 1) ≤ c) (h1 : b + 1 = d + e) (h2 : (a + (a + (d + e))) / 2 = a + d) (h3 : e ≤ b) : a + d ≤ c := by lia
theorem ar505 (h0 : a + (b + 1) ≤ c) (h1 : b + 1 = d + e) (h2 : (a + (a + (d + e))) / 2 = a + d) (h3 : f = c) : a + d + e ≤ f := by lia
theorem ar506 (h0 : a ≤ 1000) (h1 : b = a) : b ≤ 1000 := by grind
theorem ar507 (h0 : a + (b + 1) ≤ c) (h1 : b + 1 = d + e) (h2 : (a + (a + (d + e))) / 2 = a + d) (h3 : f = c) : a + (d + e) ≤ c := by lia
theorem ar509 (h0 : (a + (a + (b + c))) / 2 = a + b) (h1 : d + e = a + b) : d + e + c = a + (b + c) := by lia
theorem ar510 (h0 : a - b = c) (h1 : b < a) : c = c - 1 + 1 := by lia
theorem ar511 (h0 : a < b) (h1 : b - a = c + 1) : b - (a + 1) = c := by lia
theorem ar512 (h0 : a + 1 ≤ b) (h1 : c = b + 1) : a ≤ b := by lia
theorem ar513 : (a + 1) * 6 + 1 ≤ (a + 1) * 6 + 3 := by lia
theorem ar514 (h0 : a - b = c) : 1 + 1 ≤ c * 6 + 3 := by lia
theorem ar515 (h0 : a - b = c) : 1 + 1 + 1 + 1 + 1 ≤ (c + 1) * 6 := by lia
theorem ar516 : a * 6 + 3 + 1 + 1 ≤ (a + 1) * 6 := by lia
theorem ar517 : a * 6 + 3 + 1 ≤ (a + 1) * 6 := by lia
theorem ar518 (h0 : a < b) : (b - a + 1) * 6 ≤ (b + 1) * 6 := by lia
theorem ar519 (h0 : a ≤ b) (h1 : ¬a < b) : 1 ≤ (b + 1) * 6 := by lia
theorem ar520 : a + (b + 1) = a + 1 + b := by lia
theorem ar521 (h0 : a < b - c) : c + a < b := by lia
theorem ar522 : a ≤ b + (a - b) := by lia
theorem ar523 (h0 : a ≤ b) (h1 : c < b - a) : a + c < b := by grind
theorem ar524 (h0 : a ≤ b) : a + (b - a) = b := by lia
theorem ar525 (h0 : a + 1 < b + 1) : a < b := by lia
theorem ar528 : (a : Int) - ((0 : Nat) : Int) = (a : Int) := by lia
theorem ar529 (h0 : a < 3) : a + 0 + 0 < 30 := by lia
theorem ar530 (h0 : ¬((63 : Nat) : Int) < (a : Int)) : a ≤ 63 := by lia
theorem ar531 (h0 : a < b) : ¬a = b + 3 := by lia
theorem ar532 (h0 : a ≤ 8) : a + 20 ≤ 292 := by lia
theorem ar533 (h0 : a ≤ 8) : 0 + a ≤ 100 := by lia
theorem ar534 (h0 : a ≤ 8) : 0 + 10 * a ≤ 400 := by lia
theorem ar535 (h0 : a < 1000) : ¬16777216 < a + 1 := by lia
theorem ar536 (h0 : a ≤ b) : a + 1 ≤ b + 1 := by lia
theorem ar537 (h0 : a ≤ b) (h1 : c ≤ a) : c ≤ b := by lia
theorem ar539 (h0 : (a : Int) ≤ 64) (h1 : 0 < (a : Int)) : 0 < a := by lia
theorem ar540 (h0 : (a : Int) ≤ 64) (h1 : 0 < (a : Int)) : a ≤ 64 := by omega
theorem ar541 : ((((a : Int) = 65529 ∨ (a : Int) = 65530) ∨ (a : Int) = 65531) ∨ (a : Int) = 65532) ∨ (a : Int) = 65533 ↔ a = 65529 ∨ a = 65530 ∨ a = 65531 ∨ a = 65532 ∨ a = 65533 := by lia
theorem ar542 (h0 : a ≤ 1000) (h1 : b ≤ 2 * a) : b ≤ 2000 := by lia
theorem ar543 (h0 : a ≤ 1000) : a ≤ 2000 := by lia
end
section
variable {a b c d e f g h i j k l m n o p q r s t u v w x y z : Int}
theorem ar0 (h0 : -(2 ^ 60) ≤ a ∧ a ≤ 2 ^ 60) : Int.natAbs a < 2 ^ 64 := by lia
theorem ar2 (h0 : -(2 ^ 40) ≤ a ∧ a ≤ 2 ^ 40) (h1 : -(2 ^ 40) ≤ b ∧ b ≤ 2 ^ 40) (h2 : c = a - d) (h3 : c = b + e) (h4 : 0 < a) : -(2 ^ 60) ≤ a - b ∧ a - b ≤ 2 ^ 60 := by lia
theorem ar3 (h0 : -(2 ^ 40) ≤ a ∧ a ≤ 2 ^ 40) (h1 : b = a - c) (h2 : 0 < a) : 0 < 2 * a := by lia
theorem ar4 (h0 : -(2 ^ 40) ≤ a ∧ a ≤ 2 ^ 40) (h1 : b = a - c) (h2 : 0 < a) : -(2 ^ 60) ≤ 2 * a ∧ 2 * a ≤ 2 ^ 60 := by lia
theorem ar5 (h0 : -(2 ^ 40) ≤ a ∧ a ≤ 2 ^ 40) (h1 : -(2 ^ 40) ≤ b ∧ b ≤ 2 ^ 40) (h2 : c = b + d) (h3 : -a < c) (h4 : c ≤ a) (h5 : 0 < a) (h6 : c = a - e) (h7 : 2 * f = c - b) : -(2 ^ 60) ≤ f ∧ f ≤ 2 ^ 60 := by lia
theorem ar6 (h0 : -(2 ^ 40) ≤ a ∧ a ≤ 2 ^ 40) (h1 : 0 < a) (h2 : b = a - c) : -(2 ^ 60) ≤ a ∧ a ≤ 2 ^ 60 := by lia
theorem ar7 (h0 : -(2 ^ 40) ≤ a ∧ a ≤ 2 ^ 40) (h1 : b = a + c) : -(2 ^ 60) ≤ a ∧ a ≤ 2 ^ 60 := by lia
theorem ar9 (h0 : -(2 ^ 40) ≤ a ∧ a ≤ 2 ^ 40) (h1 : b = c + d + e) (h2 : 0 < b) (h3 : 0 < a) (h4 : f = a - g) (h5 : ¬(a < b ∨ a = b ∧ 0 ≤ f)) : -(2 ^ 40) ≤ b ∧ b ≤ 2 ^ 40 := by lia
theorem ar10 (h0 : -(2 ^ 40) ≤ a ∧ a ≤ 2 ^ 40) (h1 : -a < b) (h2 : b ≤ a) (h3 : 0 < a) (h4 : b = a - c) : -(2 ^ 40) ≤ -b ∧ -b ≤ 2 ^ 40 := by lia
theorem ar13 (h0 : ¬a ≤ b) : b ≤ a := by lia
theorem ar14 : a + (b + c) = a + b + c := by lia
theorem ar19 (h0 : 0 ≤ a ∧ a ≤ 2 ^ 40) : -(2 ^ 63) ≤ a := by lia
theorem ar20 (h0 : 0 ≤ a ∧ a ≤ 2 ^ 40) : a < 2 ^ 63 := by lia
theorem ar32 (h0 : 0 < a) : 1 ≤ a := by lia
theorem ar33 (h0 : 0 ≤ a) : 0 ≤ 169 * a := by lia
theorem ar34 (h0 : a ≤ 2 ^ 40) (h1 : a = b) (h2 : 169 * c * 1 ≤ b) : 169 * c ≤ 2 ^ 40 := by lia
theorem ar37 (h0 : 0 ≤ a) (h1 : 169 * a ≤ 2 ^ 40) (h2 : b ≤ a * 169) : b ≤ 2 ^ 40 := by lia
theorem ar39 (h0 : a ≤ b * 169) (h1 : -a ≤ c ∧ c ≤ a) : -(169 * b) ≤ c := by lia
theorem ar40 (h0 : a ≤ b * 169) (h1 : -a ≤ c ∧ c ≤ a) : c ≤ 169 * b := by lia
theorem ar41 (h0 : a ≤ 2 ^ 40) (h1 : a = b) : b ≤ 2 ^ 40 := by lia
theorem ar42 (h0 : 0 ≤ a) (h1 : 169 * a ≤ 2 ^ 40) : 0 ≤ 169 * a := by lia
theorem ar46 (h0 : 18 * a ≤ 2 ^ 40) (h1 : -(18 * a) ≤ b ∧ b ≤ 18 * a) : -(2 ^ 40) ≤ b := by lia
theorem ar47 (h0 : 18 * a ≤ 2 ^ 40) (h1 : -(18 * a) ≤ b ∧ b ≤ 18 * a) : b ≤ 2 ^ 40 := by lia
theorem ar48 (h0 : 0 < a) : ¬a < 0 := by lia
theorem ar49 (h0 : 0 ≤ a) : ¬a < 0 := by lia
theorem ar50 (h0 : ¬0 ≤ a) (h1 : Int.natAbs a < 2 ^ 64) : Int.natAbs (-a - 1) < 2 ^ 64 := by grind
theorem ar51 (h0 : ¬0 ≤ a) : 0 ≤ -a - 1 := by lia
theorem ar52 (h0 : ¬0 ≤ a) : a < 0 := by lia
theorem ar53 (h0 : a + b = -c - 1) : -a - 1 * d + (d + (-b - 1)) = c := by lia
theorem ar54 (h0 : a < b) : 0 ≤ b + (-a - 1) := by lia
theorem ar55 (h0 : 0 ≤ a) : b + (-a - 1) < b := by lia
theorem ar66 (h0 : -(2 ^ 40) ≤ a) (h1 : a ≤ 2 ^ 40) : a ≤ 8 * 2 ^ 50 := by lia
theorem ar109 (h0 : 0 ≤ a ∧ a < 2 ^ 63) : -(2 ^ 63) ≤ a := by lia
theorem ar119 (h0 : 0 ≤ a) (h1 : a < 10) : Int.toNat a < 10 := by lia
theorem ar120 (h0 : 0 ≤ a) (h1 : a < 3) : Int.toNat a < 3 := by lia
theorem ar121 (h0 : 0 ≤ a) (h1 : a < 5) : 0 ≤ 65529 + a := by lia
theorem ar122 (h0 : 0 ≤ a) (h1 : a < 3) : Int.toNat a ≤ 2 := by lia
theorem ar123 (h0 : 0 ≤ a) (h1 : a < 5) : Int.toNat (65529 + a) ≤ 65533 := by lia
theorem ar151 (h0 : 0 ≤ a) (h1 : a < 6) : Int.toNat a < 6 := by lia
theorem ar158 (h0 : 0 ≤ a) (h1 : a < 10) : a < 2 ^ 63 := by lia
theorem ar159 (h0 : 0 ≤ a) (h1 : a < 3) : a < 2 ^ 63 := by lia
theorem ar186 (h0 : 0 ≤ a) (h1 : a < b) : 0 < b := by lia
theorem ar187 (h0 : a + b = c) (h1 : d + e = c) : a - d = e - b := by lia
theorem ar188 (h0 : a - b < 0) : a - b ≤ -1 := by lia
theorem ar189 (h0 : 0 < a) : 0 ≤ a := by lia
theorem ar190 (h0 : 0 < a - b) : 1 ≤ a - b := by lia
theorem ar191 (h0 : a - b = 0) : a = b := by lia
theorem ar192 (h0 : 0 = a - b) : b = a := by lia
theorem ar205 (h0 : 0 ≤ a) : Int.natAbs a = Int.toNat a := by lia
theorem ar209 (h0 : a < b ∨ a = b ∧ 0 ≤ c) (h1 : ¬a < b) : a = b := by grind
theorem ar210 (h0 : a < b ∨ a = b ∧ 0 ≤ c) (h1 : ¬a < b) : 0 ≤ c := by grind
theorem ar214 (h0 : ¬(a < b ∨ a = b ∧ 0 ≤ c)) (h1 : ¬b < a) : b = a := by lia
theorem ar215 (h0 : ¬(a < b ∨ a = b ∧ 0 ≤ c)) (h1 : ¬b < a) : c < 0 := by grind
theorem ar217 (h0 : a = b) (h1 : a < 0) : a ≤ -1 := by lia
theorem ar218 (h0 : 0 < a) (h1 : b = a - c) (h2 : d = e + f + a) : 0 ≤ 2 * a := by lia
theorem ar219 (h0 : -a < b) (h1 : c = a - d) (h2 : e = f + g + a) (h3 : c = -b + h) (h4 : -a < c) (h5 : h ≤ 2 * a * (-1)) : i = 0 := by lia
theorem ar220 (h0 : a = b) (h1 : 0 < a) : 1 ≤ a := by lia
theorem ar221 (h0 : a < 0) (h1 : -b < a) (h2 : c = b - d) (h3 : e = f + g + b) (h4 : c = -a + h) (h5 : c ≤ b) (h6 : 2 * b * 1 ≤ h) : i = 0 := by lia
theorem ar222 : -a + 2 * b * 0 = -a := by lia
theorem ar223 (h0 : a < 0) (h1 : b = c - d) (h2 : e = f + g + c) (h3 : b = -a + h) (h4 : b = -a) (h5 : e = c) : 0 ≤ b := by lia
theorem ar224 (h0 : a ≤ 8 * 2 ^ 0) : a ≤ ((8 : Nat) : Int) := by lia
theorem ar230 (h0 : a ≤ b) : 0 ≤ b - a := by lia
theorem ar231 (h0 : -a < b) : 0 ≤ a + b := by lia
theorem ar232 (h0 : 0 ≤ a) (h1 : a = b - c) : c ≤ b := by lia
theorem ar233 (h0 : 9 ≤ a) : 0 ≤ a := by lia
theorem ar234 (h0 : 9 * 9 ≤ a) : 81 ≤ a := by lia
theorem ar235 (h0 : 0 < a) (h1 : a ≤ 71) (h2 : b - c = a) (h3 : c ≤ d) (h4 : 81 ≤ d) : b < 2 * d := by lia
theorem ar236 (h0 : 9 ≤ a) : 0 ≤ 2 * a := by lia
theorem ar237 : 8 * (a * 2) = 2 * (8 * a) := by lia
theorem ar239 (h0 : a ≤ b) (h1 : b ≤ c) (h2 : d - a = e) (h3 : d = 4 * c) : 3 * b ≤ e := by lia
theorem ar265 (h0 : -(2 ^ 63) ≤ a) (h1 : a < 2 ^ 63) : -9223372036854775808 ≤ a ∧ a < 9223372036854775808 := by lia
theorem ar271 (h0 : 0 ≤ a) (h1 : a < 6) : a < 2 ^ 63 := by lia
theorem ar293 (h0 : 0 ≤ a) (h1 : a < 3) : Int.toNat a = 0 ∨ Int.toNat a = 1 ∨ Int.toNat a = 2 := by lia
theorem ar296 (h0 : 0 ≤ a ∧ a < 1000) : a < 2 ^ 60 := by lia
theorem ar340 (h0 : 4 < a) : 5 ≤ a := by lia
theorem ar341 (h0 : 4 < a) : 0 ≤ a := by lia
theorem ar342 (h0 : a ≤ 71) (h1 : 3 * b ≤ a) (h2 : 5 * 5 ≤ b) : c ≤ 4 := by lia
theorem ar343 (h0 : 0 < a) (h1 : a ≤ 4) : a = 1 ∨ a = 2 ∨ a = 3 ∨ a = 4 := by lia
theorem ar354 (h0 : -3 ≤ a ∧ a ≤ 3) : a = -3 ∨ a = -2 ∨ a = -1 ∨ a = 0 ∨ a = 1 ∨ a = 2 ∨ a = 3 := by lia
theorem ar355 (h0 : -a ≤ b ∧ b ≤ a) (h1 : -(3 * (3 * a)) ≤ c ∧ c ≤ 3 * (3 * a)) (h2 : -(3 * a) ≤ d ∧ d ≤ 3 * a) : -(13 * a) ≤ c + d + b := by lia
theorem ar356 (h0 : -a ≤ b ∧ b ≤ a) (h1 : -(3 * (3 * a)) ≤ c ∧ c ≤ 3 * (3 * a)) (h2 : -(3 * a) ≤ d ∧ d ≤ 3 * a) : c + d + b ≤ 13 * a := by lia
theorem ar357 (h0 : -a ≤ b ∧ b ≤ a) (h1 : -(3 * a) ≤ c ∧ c ≤ 3 * a) (h2 : d = 2 * c) : -(13 * a) ≤ -b - d := by lia
theorem ar358 (h0 : -a ≤ b ∧ b ≤ a) (h1 : -(3 * a) ≤ c ∧ c ≤ 3 * a) (h2 : d = 2 * c) : -b - d ≤ 13 * a := by lia
theorem ar359 (h0 : -a ≤ b ∧ b ≤ a) : -(13 * a) ≤ b := by lia
theorem ar360 (h0 : -a ≤ b ∧ b ≤ a) : b ≤ 13 * a := by lia
theorem ar362 (h0 : 0 ≤ a) : 0 ≤ 13 * a := by lia
theorem ar363 (h0 : a ≤ 2 ^ 40) (h1 : a = b) (h2 : 13 * c * 1 ≤ b) : 13 * c ≤ 2 ^ 40 := by lia
theorem ar364 (h0 : 0 ≤ a) (h1 : 13 * a ≤ 2 ^ 40) (h2 : -a ≤ b ∧ b ≤ a) : -(2 ^ 60) ≤ b ∧ b ≤ 2 ^ 60 := by lia
theorem ar365 (h0 : 0 ≤ a) (h1 : 13 * a ≤ 2 ^ 40) (h2 : -(3 * a) ≤ b ∧ b ≤ 3 * a) : -(2 ^ 60) ≤ b ∧ b ≤ 2 ^ 60 := by lia
theorem ar366 (h0 : 0 ≤ a) (h1 : 13 * a ≤ 2 ^ 40) (h2 : -a ≤ b ∧ b ≤ a) : -(2 ^ 60) ≤ 2 * b ∧ 2 * b ≤ 2 ^ 60 := by lia
theorem ar367 (h0 : 0 ≤ a) (h1 : 13 * a ≤ 2 ^ 40) : 0 ≤ 13 * a := by lia
theorem ar376 (h0 : a < b) : a + 1 ≤ b := by lia
theorem ar377 (h0 : 0 ≤ a ∧ a < b) (h1 : c + b ≤ d) : c + a < d := by lia
theorem ar378 (h0 : 0 < a) (h1 : 0 ≤ b) (h2 : b < a) (h3 : Int.natAbs a < 2 ^ 64) : Int.natAbs b < 2 ^ 64 := by lia
theorem ar379 (h0 : a < b) : a ≤ b := by lia
theorem ar384 (h0 : a + b = c + d) (h1 : e + f = g + h) (h2 : i = e) (h3 : j = g) (h4 : c = f) : a + e + b = g + (d + h) := by lia
theorem ar385 (h0 : a < 0) : a ≤ -1 := by lia
theorem ar386 (h0 : 0 ≤ a + b) (h1 : 0 ≤ c ∧ c < d) (h2 : e + c = a + b) (h3 : e ≤ (-1) * d) : 0 ≤ f := by lia
theorem ar387 (h0 : a + b < c) (h1 : 0 ≤ d ∧ d < e) (h2 : f + d = a + b) (h3 : c ≤ f) : g < h := by lia
theorem ar388 (h0 : 0 < a) (h1 : a < b) (h2 : 0 < b) (h3 : b ≤ 2 ^ 64) (h4 : 0 ≤ c) (h5 : c < b) : Int.natAbs c < 2 ^ 64 := by lia
theorem ar392 : -(-a - 1) - 1 = a := by lia
theorem ar396 (h0 : a ≤ 0) : 0 ≤ -a := by lia
theorem ar397 (h0 : a < 0) : 0 < -a := by lia
theorem ar398 (h0 : Int.natAbs a = 1) : a = 1 ∨ a = -1 := by lia
theorem ar399 (h0 : Int.natAbs a = 1) (h1 : b = 1 ∨ b = -1) : a = 1 ∨ a = -1 := by lia
theorem ar400 (h0 : 0 < a) : 0 < 4 * a := by lia
theorem ar401 (h0 : a - b = c) (h1 : d < c) (h2 : 0 < d) : 0 < c := by lia
theorem ar402 (h0 : a - b = c) (h1 : 0 < c) : 0 ≤ c := by lia
theorem ar403 (h0 : a - b = c) (h1 : d < c) (h2 : d = e + f) (h3 : c * 1 ≤ f) (h4 : 0 ≤ e) : g = 0 := by lia
theorem ar404 (h0 : a - b * 0 = 1) : a = 1 := by lia
theorem ar405 (h0 : 0 < a) : 0 ≤ 4 * a := by lia
theorem ar406 (h0 : 0 < a) (h1 : b - c = a) (h2 : 0 ≤ c) (h3 : 0 < d) (h4 : b ≤ 4 * d * (-1)) : 0 < e := by lia
theorem ar407 (h0 : 0 < a) (h1 : b + c = a - d) : 0 < 2 * a := by lia
theorem ar408 (h0 : a + b = c - d) : c - b = d + a := by lia
theorem ar409 (h0 : a < 2 * b) (h1 : c + a = b - d) : -b < b - a := by lia
theorem ar410 (h0 : 0 ≤ a) : b - a ≤ b := by lia
theorem ar488 (h0 : 0 ≤ a) : -(2 ^ 62) ≤ a := by lia
theorem ar489 (h0 : a ≤ 1000) (h1 : b ≤ a) : b < 2 ^ 62 := by lia
theorem ar490 (h0 : 0 ≤ a) (h1 : a ≤ b) : -(2 ^ 62) ≤ b := by lia
theorem ar491 (h0 : a ≤ 1000) : a < 2 ^ 62 := by lia
theorem ar492 (h0 : 0 ≤ a) (h1 : a ≤ 1000) : -(2 ^ 62) ≤ a := by lia
theorem ar493 (h0 : 0 ≤ a) (h1 : a ≤ 1000) : a < 2 ^ 62 := by lia
theorem ar527 : a + ((0 : Nat) : Int) * 1 = a := by lia
theorem ar538 (h0 : a ≤ 64) (h1 : 0 < a) : 0 ≤ a := by lia
end
end Mine
end

section
namespace Mine
universe u v w x y z s t a b c d e f g
theorem ex0_2 {P0 P1 : Prop} {C : Prop} (h : P0 ∧ P1) (k : P0 → P1 → C) : C := k  h.1 h.2
theorem ex0_3 {P0 P1 P2 : Prop} {C : Prop} (h : P0 ∧ P1 ∧ P2) (k : P0 → P1 → P2 → C) : C := k  h.1 h.2.1 h.2.2
theorem ex0_4 {P0 P1 P2 P3 : Prop} {C : Prop} (h : P0 ∧ P1 ∧ P2 ∧ P3) (k : P0 → P1 → P2 → P3 → C) : C := k  h.1 h.2.1 h.2.2.1 h.2.2.2
theorem ex0_5 {P0 P1 P2 P3 P4 : Prop} {C : Prop} (h : P0 ∧ P1 ∧ P2 ∧ P3 ∧ P4) (k : P0 → P1 → P2 → P3 → P4 → C) : C := k  h.1 h.2.1 h.2.2.1 h.2.2.2.1 h.2.2.2.2
theorem ex1_1 {α0 : Sort u} {P0 : α0 → Prop} {C : Prop} (h : ∃ a0, P0 a0) (k : ∀ (a0 : α0), P0 a0 → C) : C := h.elim fun a0 h => k a0 h
theorem ex1_2 {α0 : Sort u} {P0 P1 : α0 → Prop} {C : Prop} (h : ∃ a0, P0 a0 ∧ P1 a0) (k : ∀ (a0 : α0), P0 a0 → P1 a0 → C) : C := h.elim fun a0 h => k a0 h.1 h.2
theorem ex1_3 {α0 : Sort u} {P0 P1 P2 : α0 → Prop} {C : Prop} (h : ∃ a0, P0 a0 ∧ P1 a0 ∧ P2 a0) (k : ∀ (a0 : α0), P0 a0 → P1 a0 → P2 a0 → C) : C := h.elim fun a0 h => k a0 h.1 h.2.1 h.2.2
theorem ex1_4 {α0 : Sort u} {P0 P1 P2 P3 : α0 → Prop} {C : Prop} (h : ∃ a0, P0 a0 ∧ P1 a0 ∧ P2 a0 ∧ P3 a0) (k : ∀ (a0 : α0), P0 a0 → P1 a0 → P2 a0 → P3 a0 → C) : C := h.elim fun a0 h => k a0 h.1 h.2.1 h.2.2.1 h.2.2.2
theorem ex1_5 {α0 : Sort u} {P0 P1 P2 P3 P4 : α0 → Prop} {C : Prop} (h : ∃ a0, P0 a0 ∧ P1 a0 ∧ P2 a0 ∧ P3 a0 ∧ P4 a0) (k : ∀ (a0 : α0), P0 a0 → P1 a0 → P2 a0 → P3 a0 → P4 a0 → C) : C := h.elim fun a0 h => k a0 h.1 h.2.1 h.2.2.1 h.2.2.2.1 h.2.2.2.2
theorem ex1_7 {α0 : Sort u} {P0 P1 P2 P3 P4 P5 P6 : α0 → Prop} {C : Prop} (h : ∃ a0, P0 a0 ∧ P1 a0 ∧ P2 a0 ∧ P3 a0 ∧ P4 a0 ∧ P5 a0 ∧ P6 a0) (k : ∀ (a0 : α0), P0 a0 → P1 a0 → P2 a0 → P3 a0 → P4 a0 → P5 a0 → P6 a0 → C) : C := h.elim fun a0 h => k a0 h.1 h.2.1 h.2.2.1 h.2.2.2.1 h.2.2.2.2.1 h.2.2.2.2.2.1 h.2.2.2.2.2.2
theorem ex2_1 {α0 : Sort u} {α1 : Sort v} {P0 : α0 → α1 → Prop} {C : Prop} (h : ∃ a0 a1, P0 a0 a1) (k : ∀ (a0 : α0) (a1 : α1), P0 a0 a1 → C) : C := h.elim fun a0 h => h.elim fun a1 h => k a0 a1 h
theorem ex2_2 {α0 : Sort u} {α1 : Sort v} {P0 P1 : α0 → α1 → Prop} {C : Prop} (h : ∃ a0 a1, P0 a0 a1 ∧ P1 a0 a1) (k : ∀ (a0 : α0) (a1 : α1), P0 a0 a1 → P1 a0 a1 → C) : C := h.elim fun a0 h => h.elim fun a1 h => k a0 a1 h.1 h.2
theorem ex2_3 {α0 : Sort u} {α1 : Sort v} {P0 P1 P2 : α0 → α1 → Prop} {C : Prop} (h : ∃ a0 a1, P0 a0 a1 ∧ P1 a0 a1 ∧ P2 a0 a1) (k : ∀ (a0 : α0) (a1 : α1), P0 a0 a1 → P1 a0 a1 → P2 a0 a1 → C) : C := h.elim fun a0 h => h.elim fun a1 h => k a0 a1 h.1 h.2.1 h.2.2
theorem ex2_4 {α0 : Sort u} {α1 : Sort v} {P0 P1 P2 P3 : α0 → α1 → Prop} {C : Prop} (h : ∃ a0 a1, P0 a0 a1 ∧ P1 a0 a1 ∧ P2 a0 a1 ∧ P3 a0 a1) (k : ∀ (a0 : α0) (a1 : α1), P0 a0 a1 → P1 a0 a1 → P2 a0 a1 → P3 a0 a1 → C) : C := h.elim fun a0 h => h.elim fun a1 h => k a0 a1 h.1 h.2.1 h.2.2.1 h.2.2.2
theorem ex2_5 {α0 : Sort u} {α1 : Sort v} {P0 P1 P2 P3 P4 : α0 → α1 → Prop} {C : Prop} (h : ∃ a0 a1, P0 a0 a1 ∧ P1 a0 a1 ∧ P2 a0 a1 ∧ P3 a0 a1 ∧ P4 a0 a1) (k : ∀ (a0 : α0) (a1 : α1), P0 a0 a1 → P1 a0 a1 → P2 a0 a1 → P3 a0 a1 → P4 a0 a1 → C) : C := h.elim fun a0 h => h.elim fun a1 h => k a0 a1 h.1 h.2.1 h.2.2.1 h.2.2.2.1 h.2.2.2.2
theorem ex2_6 {α0 : Sort u} {α1 : Sort v} {P0 P1 P2 P3 P4 P5 : α0 → α1 → Prop} {C : Prop} (h : ∃ a0 a1, P0 a0 a1 ∧ P1 a0 a1 ∧ P2 a0 a1 ∧ P3 a0 a1 ∧ P4 a0 a1 ∧ P5 a0 a1) (k : ∀ (a0 : α0) (a1 : α1), P0 a0 a1 → P1 a0 a1 → P2 a0 a1 → P3 a0 a1 → P4 a0 a1 → P5 a0 a1 → C) : C := h.elim fun a0 h => h.elim fun a1 h => k a0 a1 h.1 h.2.1 h.2.2.1 h.2.2.2.1 h.2.2.2.2.1 h.2.2.2.2.2
theorem ex2_9 {α0 : Sort u} {α1 : Sort v} {P0 P1 P2 P3 P4 P5 P6 P7 P8 : α0 → α1 → Prop} {C : Prop} (h : ∃ a0 a1, P0 a0 a1 ∧ P1 a0 a1 ∧ P2 a0 a1 ∧ P3 a0 a1 ∧ P4 a0 a1 ∧ P5 a0 a1 ∧ P6 a0 a1 ∧ P7 a0 a1 ∧ P8 a0 a1) (k : ∀ (a0 : α0) (a1 : α1), P0 a0 a1 → P1 a0 a1 → P2 a0 a1 → P3 a0 a1 → P4 a0 a1 → P5 a0 a1 → P6 a0 a1 → P7 a0 a1 → P8 a0 a1 → C) : C := h.elim fun a0 h => h.elim fun a1 h => k a0 a1 h.1 h.2.1 h.2.2.1 h.2.2.2.1 h.2.2.2.2.1 h.2.2.2.2.2.1 h.2.2.2.2.2.2.1 h.2.2.2.2.2.2.2.1 h.2.2.2.2.2.2.2.2
theorem ex3_1 {α0 : Sort u} {α1 : Sort v} {α2 : Sort w} {P0 : α0 → α1 → α2 → Prop} {C : Prop} (h : ∃ a0 a1 a2, P0 a0 a1 a2) (k : ∀ (a0 : α0) (a1 : α1) (a2 : α2), P0 a0 a1 a2 → C) : C := h.elim fun a0 h => h.elim fun a1 h => h.elim fun a2 h => k a0 a1 a2 h
theorem ex3_2 {α0 : Sort u} {α1 : Sort v} {α2 : Sort w} {P0 P1 : α0 → α1 → α2 → Prop} {C : Prop} (h : ∃ a0 a1 a2, P0 a0 a1 a2 ∧ P1 a0 a1 a2) (k : ∀ (a0 : α0) (a1 : α1) (a2 : α2), P0 a0 a1 a2 → P1 a0 a1 a2 → C) : C := h.elim fun a0 h => h.elim fun a1 h => h.elim fun a2 h => k a0 a1 a2 h.1 h.2
theorem ex3_3 {α0 : Sort u} {α1 : Sort v} {α2 : Sort w} {P0 P1 P2 : α0 → α1 → α2 → Prop} {C : Prop} (h : ∃ a0 a1 a2, P0 a0 a1 a2 ∧ P1 a0 a1 a2 ∧ P2 a0 a1 a2) (k : ∀ (a0 : α0) (a1 : α1) (a2 : α2), P0 a0 a1 a2 → P1 a0 a1 a2 → P2 a0 a1 a2 → C) : C := h.elim fun a0 h => h.elim fun a1 h => h.elim fun a2 h => k a0 a1 a2 h.1 h.2.1 h.2.2
theorem ex3_4 {α0 : Sort u} {α1 : Sort v} {α2 : Sort w} {P0 P1 P2 P3 : α0 → α1 → α2 → Prop} {C : Prop} (h : ∃ a0 a1 a2, P0 a0 a1 a2 ∧ P1 a0 a1 a2 ∧ P2 a0 a1 a2 ∧ P3 a0 a1 a2) (k : ∀ (a0 : α0) (a1 : α1) (a2 : α2), P0 a0 a1 a2 → P1 a0 a1 a2 → P2 a0 a1 a2 → P3 a0 a1 a2 → C) : C := h.elim fun a0 h => h.elim fun a1 h => h.elim fun a2 h => k a0 a1 a2 h.1 h.2.1 h.2.2.1 h.2.2.2
theorem ex3_8 {α0 : Sort u} {α1 : Sort v} {α2 : Sort w} {P0 P1 P2 P3 P4 P5 P6 P7 : α0 → α1 → α2 → Prop} {C : Prop} (h : ∃ a0 a1 a2, P0 a0 a1 a2 ∧ P1 a0 a1 a2 ∧ P2 a0 a1 a2 ∧ P3 a0 a1 a2 ∧ P4 a0 a1 a2 ∧ P5 a0 a1 a2 ∧ P6 a0 a1 a2 ∧ P7 a0 a1 a2) (k : ∀ (a0 : α0) (a1 : α1) (a2 : α2), P0 a0 a1 a2 → P1 a0 a1 a2 → P2 a0 a1 a2 → P3 a0 a1 a2 → P4 a0 a1 a2 → P5 a0 a1 a2 → P6 a0 a1 a2 → P7 a0 a1 a2 → C) : C := h.elim fun a0 h => h.elim fun a1 h => h.elim fun a2 h => k a0 a1 a2 h.1 h.2.1 h.2.2.1 h.2.2.2.1 h.2.2.2.2.1 h.2.2.2.2.2.1 h.2.2.2.2.2.2.1 h.2.2.2.2.2.2.2
theorem ex3_10 {α0 : Sort u} {α1 : Sort v} {α2 : Sort w} {P0 P1 P2 P3 P4 P5 P6 P7 P8 P9 : α0 → α1 → α2 → Prop} {C : Prop} (h : ∃ a0 a1 a2, P0 a0 a1 a2 ∧ P1 a0 a1 a2 ∧ P2 a0 a1 a2 ∧ P3 a0 a1 a2 ∧ P4 a0 a1 a2 ∧ P5 a0 a1 a2 ∧ P6 a0 a1 a2 ∧ P7 a0 a1 a2 ∧ P8 a0 a1 a2 ∧ P9 a0 a1 a2) (k : ∀ (a0 : α0) (a1 : α1) (a2 : α2), P0 a0 a1 a2 → P1 a0 a1 a2 → P2 a0 a1 a2 → P3 a0 a1 a2 → P4 a0 a1 a2 → P5 a0 a1 a2 → P6 a0 a1 a2 → P7 a0 a1 a2 → P8 a0 a1 a2 → P9 a0 a1 a2 → C) : C := h.elim fun a0 h => h.elim fun a1 h => h.elim fun a2 h => k a0 a1 a2 h.1 h.2.1 h.2.2.1 h.2.2.2.1 h.2.2.2.2.1 h.2.2.2.2.2.1 h.2.2.2.2.2.2.1 h.2.2.2.2.2.2.2.1 h.2.2.2.2.2.2.2.2.1 h.2.2.2.2.2.2.2.2.2
theorem ex4_1 {α0 : Sort u} {α1 : Sort v} {α2 : Sort w} {α3 : Sort x} {P0 : α0 → α1 → α2 → α3 → Prop} {C : Prop} (h : ∃ a0 a1 a2 a3, P0 a0 a1 a2 a3) (k : ∀ (a0 : α0) (a1 : α1) (a2 : α2) (a3 : α3), P0 a0 a1 a2 a3 → C) : C := h.elim fun a0 h => h.elim fun a1 h => h.elim fun a2 h => h.elim fun a3 h => k a0 a1 a2 a3 h
theorem ex4_2 {α0 : Sort u} {α1 : Sort v} {α2 : Sort w} {α3 : Sort x} {P0 P1 : α0 → α1 → α2 → α3 → Prop} {C : Prop} (h : ∃ a0 a1 a2 a3, P0 a0 a1 a2 a3 ∧ P1 a0 a1 a2 a3) (k : ∀ (a0 : α0) (a1 : α1) (a2 : α2) (a3 : α3), P0 a0 a1 a2 a3 → P1 a0 a1 a2 a3 → C) : C := h.elim fun a0 h => h.elim fun a1 h => h.elim fun a2 h => h.elim fun a3 h => k a0 a1 a2 a3 h.1 h.2
theorem ex4_3 {α0 : Sort u} {α1 : Sort v} {α2 : Sort w} {α3 : Sort x} {P0 P1 P2 : α0 → α1 → α2 → α3 → Prop} {C : Prop} (h : ∃ a0 a1 a2 a3, P0 a0 a1 a2 a3 ∧ P1 a0 a1 a2 a3 ∧ P2 a0 a1 a2 a3) (k : ∀ (a0 : α0) (a1 : α1) (a2 : α2) (a3 : α3), P0 a0 a1 a2 a3 → P1 a0 a1 a2 a3 → P2 a0 a1 a2 a3 → C) : C := h.elim fun a0 h => h.elim fun a1 h => h.elim fun a2 h => h.elim fun a3 h => k a0 a1 a2 a3 h.1 h.2.1 h.2.2
theorem ex4_4 {α0 : Sort u} {α1 : Sort v} {α2 : Sort w} {α3 : Sort x} {P0 P1 P2 P3 : α0 → α1 → α2 → α3 → Prop} {C : Prop} (h : ∃ a0 a1 a2 a3, P0 a0 a1 a2 a3 ∧ P1 a0 a1 a2 a3 ∧ P2 a0 a1 a2 a3 ∧ P3 a0 a1 a2 a3) (k : ∀ (a0 : α0) (a1 : α1) (a2 : α2) (a3 : α3), P0 a0 a1 a2 a3 → P1 a0 a1 a2 a3 → P2 a0 a1 a2 a3 → P3 a0 a1 a2 a3 → C) : C := h.elim fun a0 h => h.elim fun a1 h => h.elim fun a2 h => h.elim fun a3 h => k a0 a1 a2 a3 h.1 h.2.1 h.2.2.1 h.2.2.2
theorem ex4_5 {α0 : Sort u} {α1 : Sort v} {α2 : Sort w} {α3 : Sort x} {P0 P1 P2 P3 P4 : α0 → α1 → α2 → α3 → Prop} {C : Prop} (h : ∃ a0 a1 a2 a3, P0 a0 a1 a2 a3 ∧ P1 a0 a1 a2 a3 ∧ P2 a0 a1 a2 a3 ∧ P3 a0 a1 a2 a3 ∧ P4 a0 a1 a2 a3) (k : ∀ (a0 : α0) (a1 : α1) (a2 : α2) (a3 : α3), P0 a0 a1 a2 a3 → P1 a0 a1 a2 a3 → P2 a0 a1 a2 a3 → P3 a0 a1 a2 a3 → P4 a0 a1 a2 a3 → C) : C := h.elim fun a0 h => h.elim fun a1 h => h.elim fun a2 h => h.elim fun a3 h => k a0 a1 a2 a3 h.1 h.2.1 h.2.2.1 h.2.2.2.1 h.2.2.2.2
theorem ex5_4 {α0 : Sort u} {α1 : Sort v} {α2 : Sort w} {α3 : Sort x} {α4 : Sort y} {P0 P1 P2 P3 : α0 → α1 → α2 → α3 → α4 → Prop} {C : Prop} (h : ∃ a0 a1 a2 a3 a4, P0 a0 a1 a2 a3 a4 ∧ P1 a0 a1 a2 a3 a4 ∧ P2 a0 a1 a2 a3 a4 ∧ P3 a0 a1 a2 a3 a4) (k : ∀ (a0 : α0) (a1 : α1) (a2 : α2) (a3 : α3) (a4 : α4), P0 a0 a1 a2 a3 a4 → P1 a0 a1 a2 a3 a4 → P2 a0 a1 a2 a3 a4 → P3 a0 a1 a2 a3 a4 → C) : C := h.elim fun a0 h => h.elim fun a1 h => h.elim fun a2 h => h.elim fun a3 h => h.elim fun a4 h => k a0 a1 a2 a3 a4 h.1 h.2.1 h.2.2.1 h.2.2.2
end Mine
end

section
namespace Mine
noncomputable def ex (g : Setting) (n₀ : Nat) {α : Type} : Sem α → (α → Nat → Pos → Shared → Prop) → Nat → Pos → Shared → Prop
  | .pure a, Q, c, p, s => Q a c p s
  | .rule _ k, Q, c, p, s => ex g n₀ (k ()) Q (c + 1) p s
  | .at q k, Q, c, _, s => ex g n₀ (k ()) Q (c + 1) q s
  | .point _ k, Q, c, p, s => ex g n₀ (k ()) Q (c + 1) p s
  | .ask k, Q, c, p, s => ex g n₀ (k g) Q (c + 1) p s
  | .fresh k, Q, c, p, s => ex g n₀ (k s.toks) Q (c + 1) p { s with toks := s.toks + 1 }
  | .load a _ k, Q, c, p, s => ∃ o, s.heap.get? a = some o ∧ ex g n₀ (k o) Q (c + 1) p s
  | .update a _ f k, Q, c, p, s => (s.heap.get? a).isSome = true ∧ n₀ ≤ a ∧ ex g n₀ (k ()) Q (c + 1) p { s with heap := s.heap.update a f }
  | .alloc o k, Q, c, p, s => ex g n₀ (k s.heap.objs.size) Q (c + 1) p { s with heap := s.heap.push o }
  | .call c _ _ _ k, Q, n, p, s => ∃ i t, c = .call (.builtin "int.__hash__") ⟨[.int i t], []⟩ ∧ ex g n₀ (k (.ok (.ret (.int (rawHash i) s.toks)))) Q (n + 4) p { s with toks := s.toks + 1 }
  | _, _, _, _, _ => False
section
variable {g : Setting} {n₀ : Nat} {α β : Type}
theorem ex_mono {t : Sem α} {Q Q' : α → Nat → Pos → Shared → Prop} (hQ : ∀ a c p s, Q a c p s → Q' a c p s) : ∀ {c p s}, ex g n₀ t Q c p s → ex g n₀ t Q' c p s := by
  induction t with
  | pure a => intro c p s h; exact hQ _ _ _ _ h
  | rule _ k ih | «at» _ k ih | point _ k ih | ask k ih | fresh k ih | alloc _ k ih => intro c p s h; exact ih _ h
  | load a _ k ih => intro c p s ⟨o, ho, h⟩; exact ⟨o, ho, ih _ h⟩
  | update a _ f k ih => intro c p s ⟨h1, h2, h⟩; exact ⟨h1, h2, ih _ h⟩
  | call _ _ _ _ k ih => intro c p s ⟨i, t, h1, h⟩; exact ⟨i, t, h1, ih _ h⟩
  | _ => intro c p s h; exact h.elim
theorem ex_bind {m : Sem α} {f : α → Sem β} {Q : β → Nat → Pos → Shared → Prop} : ∀ {c p s}, ex g n₀ m (fun a c' p' s' => ex g n₀ (f a) Q c' p' s') c p s → ex g n₀ (m >>= f) Q c p s := by
  show ∀ {c p s}, ex g n₀ m (fun a c' p' s' => ex g n₀ (f a) Q c' p' s') c p s → ex g n₀ (m.bind f) Q c p s
  induction m with
  | pure a => intro c p s h; exact h
  | rule _ k ih | «at» _ k ih | point _ k ih | ask k ih | fresh k ih | alloc _ k ih => intro c p s h; exact ih _ h
  | load a _ k ih => intro c p s ⟨o, ho, h⟩; exact ⟨o, ho, ih _ h⟩
  | update a _ f k ih => intro c p s ⟨h1, h2, h⟩; exact ⟨h1, h2, ih _ h⟩
  | call _ _ _ _ k ih => intro c p s ⟨i, t, h1, h⟩; exact ⟨i, t, h1, ih _ h⟩
  | _ => intro c p s h; exact h.elim
theorem ex_keep {vs : List Value} {m : Sem α} {Q : α → Nat → Pos → Shared → Prop} : ∀ {c p s}, ex g n₀ m Q c p s → ex g n₀ (m.keep vs) Q c p s := by
  induction m with
  | pure a => intro c p s h; exact h
  | rule _ k ih | «at» _ k ih | point _ k ih | ask k ih | fresh k ih | alloc _ k ih => intro c p s h; exact ih _ h
  | load a _ k ih => intro c p s ⟨o, ho, h⟩; exact ⟨o, ho, ih _ h⟩
  | update a _ f k ih => intro c p s ⟨h1, h2, h⟩; exact ⟨h1, h2, ih _ h⟩
  | call _ _ _ _ k ih => intro c p s ⟨i, t, h1, h⟩; exact ⟨i, t, h1, ih _ h⟩
  | _ => intro c p s h; exact h.elim
theorem ex_holding {vs : List Value} {m : Sem α} {Q : α → Nat → Pos → Shared → Prop} {c p s} (h : ex g n₀ m Q c p s) : ex g n₀ (holding vs m) Q c p s := by
  unfold holding
  split
  · exact h
  · exact ex_keep h
theorem ex_onRaise {m : Sem α} {f : Value → Sem Unit} {Q : α → Nat → Pos → Shared → Prop} : ∀ {c p s}, ex g n₀ m Q c p s → ex g n₀ (m.onRaise f) Q c p s := by
  induction m with
  | pure a => intro c p s h; exact h
  | rule _ k ih | «at» _ k ih | point _ k ih | ask k ih | fresh k ih | alloc _ k ih => intro c p s h; exact ih _ h
  | load a _ k ih => intro c p s ⟨o, ho, h⟩; exact ⟨o, ho, ih _ h⟩
  | update a _ f k ih => intro c p s ⟨h1, h2, h⟩; exact ⟨h1, h2, ih _ h⟩
  | call _ _ _ _ k ih => intro c p s ⟨i, t, h1, h⟩; exact ⟨i, t, h1, ih _ h⟩
  | _ => intro c p s h; exact h.elim
theorem ex_tryCatch {m : Sem α} {f : Value → Sem α} {Q : α → Nat → Pos → Shared → Prop} : ∀ {c p s}, ex g n₀ m Q c p s → ex g n₀ (m.tryCatch f) Q c p s := by
  induction m with
  | pure a => intro c p s h; exact h
  | rule _ k ih | «at» _ k ih | point _ k ih | ask k ih | fresh k ih | alloc _ k ih => intro c p s h; exact ih _ h
  | load a _ k ih => intro c p s ⟨o, ho, h⟩; exact ⟨o, ho, ih _ h⟩
  | update a _ f k ih => intro c p s ⟨h1, h2, h⟩; exact ⟨h1, h2, ih _ h⟩
  | call _ _ _ _ k ih => intro c p s ⟨i, t, h1, h⟩; exact ⟨i, t, h1, ih _ h⟩
  | _ => intro c p s h; exact h.elim
theorem ex_pure {a : α} {Q : α → Nat → Pos → Shared → Prop} {c p s} (h : Q a c p s) : ex g n₀ (pure a : Sem α) Q c p s := h
theorem ex_rule {t : String} {Q : Unit → Nat → Pos → Shared → Prop} {c p s} (h : Q () (c + 1) p s) : ex g n₀ (rule t) Q c p s := h
theorem ex_standAt {q : Pos} {Q : Unit → Nat → Pos → Shared → Prop} {c p s} (h : Q () (c + 1) q s) : ex g n₀ (standAt q) Q c p s := h
theorem ex_mkInt {i : Int} {Q : Value → Nat → Pos → Shared → Prop} {c p s} (h : Q (.int i s.toks) (c + 1) p { s with toks := s.toks + 1 }) : ex g n₀ (mkInt i) Q c p s := h
theorem ex_mkText {x : Str} {Q : Value → Nat → Pos → Shared → Prop} {c p s} (h : Q (.str x s.toks) (c + 1) p { s with toks := s.toks + 1 }) : ex g n₀ (mkText x) Q c p s := h
theorem ex_load {a : Addr} {q : Option Value} {o : Obj} {Q : Obj → Nat → Pos → Shared → Prop} {c p s} (ho : s.heap.get? a = some o) (h : Q o (c + 1) p s) : ex g n₀ (loadPart a q) Q c p s := ⟨o, ho, h⟩
theorem ex_update {a : Addr} {q : Option Value} {f : Obj → Obj} {Q : Unit → Nat → Pos → Shared → Prop} {c p s} (ho : (s.heap.get? a).isSome = true) (hn : n₀ ≤ a) (h : Q () (c + 1) p { s with heap := s.heap.update a f }) : ex g n₀ (updatePart a q f) Q c p s := ⟨ho, hn, h⟩
theorem ex_ask {Q : Setting → Nat → Pos → Shared → Prop} {c p s} (h : Q g (c + 1) p s) : ex g n₀ ask Q c p s := h
theorem ex_call_hash {i : Int} {t : Tok} {Q : Value → Nat → Pos → Shared → Prop} {c p s} (h : Q (.int (rawHash i) s.toks) (c + 4) p { s with toks := s.toks + 1 }) : ex g n₀ (call (.builtin "int.__hash__") [.int i t]) Q c p s := ⟨i, t, rfl, h⟩
theorem ex_alloc {o : Obj} {Q : Addr → Nat → Pos → Shared → Prop} {c p s} (h : Q s.heap.objs.size (c + 1) p { s with heap := s.heap.push o }) : ex g n₀ (alloc o) Q c p s := h
end
section
variable {pr : Program} {w : World} {n₀ : Nat} {ann : Option Value} {b : Nat} {α : Type}
theorem segRun_step {s s' : Shared} {t t' : Thread} {N : Nat} {r} (he : endAt b t = none) (hk : stepOk n₀ ann t = true) (hs : step (denote treeTable) pr w s t = .go s' t') (h : segRun treeTable pr w n₀ ann b N s' t' = some r) :
    segRun treeTable pr w n₀ ann b (N + 1) s t = some r := by
  unfold segRun
  rw [he, hk, hs]
  exact h
theorem den_hash (i : Int) (t : Tok) : denote treeTable (.call (.builtin "int.__hash__") ⟨[.int i t], []⟩) = .pure (.again (.builtin "int.__hash__" ⟨[.int i t], []⟩)) := by kernel_rfl!
theorem den_hash2 (i : Int) (t : Tok) : denote treeTable (.builtin "int.__hash__" ⟨[.int i t], []⟩) = .fresh fun k => .pure (.done (.ret (.int (rawHash i) k))) := by kernel_rfl!
noncomputable def notDone : Sem Fin → Bool
  | .pure (.done _) => false
  | _ => true
theorem endN {b : Nat} {t : Thread} (h : notDone t.cur = true) : endAt b t = none := by
  unfold endAt
  cases t.stack.length == b with
  | false => rfl
  | true =>
    cases hc : t.cur with
    | pure f => induction f using PySem.Fin.casesOn with
      | done f => rw [hc] at h; exact absurd h Bool.false_ne_true
      | _ => rfl
    | _ => rfl
noncomputable def SegT (pr : Program) (w : World) (n₀ : Nat) (ann : Option Value) (b : Nat) {α : Type} (Q : α → Nat → Pos → Shared → Prop) (t : Sem α) (c : Nat) (p : Pos) (s : Shared) : Prop :=
  ∃ a c' p' s', Q a c' p' s' ∧ c ≤ c' ∧ ∀ (K : α → Sem Fin) (H : Value → Sem Fin) (gd : Bool → Bool) (lv : List Value → List Value) (code : Code) (B : List Frame) (_ : B.length = b) (N : Nat) (r),
      segRun treeTable pr w n₀ ann b N s' ⟨K a, code, p', B⟩ = some r → segRun treeTable pr w n₀ ann b (N + (c' - c)) s ⟨t.wrap K H gd lv, code, p, B⟩ = some r
theorem seg_up {t t1 : Sem α} {Q : α → Nat → Pos → Shared → Prop} {c k : Nat} {p p1 : Pos} {s s1 : Shared} (h : SegT pr w n₀ ann b Q t1 (c + k) p1 s1)
    (hs : ∀ (K : α → Sem Fin) (H : Value → Sem Fin) (gd : Bool → Bool) (lv : List Value → List Value) (code : Code) (B : List Frame) (_ : B.length = b) (N : Nat) (r), segRun treeTable pr w n₀ ann b N s1 ⟨t1.wrap K H gd lv, code, p1, B⟩ = some r → segRun treeTable pr w n₀ ann b (N + k) s ⟨t.wrap K H gd lv, code, p, B⟩ = some r) : SegT pr w n₀ ann b Q t c p s := by
  refine ex4_3 h fun a c' p' s' hQ hc hk => ⟨a, c', p', s', hQ, Nat.le_trans (Nat.le_add_right _ _) hc, fun K H gd lv code B hB N r e => ?_⟩
  rw [show N + (c' - c) = N + (c' - (c + k)) + k by omega]
  exact hs K H gd lv code B hB _ r (hk K H gd lv code B hB N r e)
theorem ex_seg {t : Sem α} {Q : α → Nat → Pos → Shared → Prop} : ∀ {c : Nat} {p : Pos} {s : Shared}, ex ⟨pr, w.params⟩ n₀ t Q c p s → SegT pr w n₀ ann b Q t c p s := by
  induction t with
  | pure a => intro c p s h; exact ⟨a, c, p, s, h, Nat.le_refl _, fun K H gd lv code B hB N r k => by rw [Nat.sub_self]; exact k⟩
  | rule tg k ih => intro c p s h; exact seg_up (ih _ h) fun K H gd lv code B hB N r e => segRun_step (endN rfl) rfl rfl e
  | «at» q k ih => intro c p s h; exact seg_up (ih _ h) fun K H gd lv code B hB N r e => segRun_step (endN rfl) rfl rfl e
  | point l k ih => intro c p s h; exact seg_up (ih _ h) fun K H gd lv code B hB N r e => segRun_step (endN rfl) rfl rfl e
  | ask k ih => intro c p s h; exact seg_up (ih _ h) fun K H gd lv code B hB N r e => segRun_step (endN rfl) rfl rfl e
  | fresh k ih => intro c p s h; exact seg_up (ih _ h) fun K H gd lv code B hB N r e => segRun_step (endN rfl) rfl rfl e
  | alloc o k ih => intro c p s h; exact seg_up (ih _ h) fun K H gd lv code B hB N r e => segRun_step (endN rfl) rfl rfl e
  | load a0 q k ih =>
    intro c p s ⟨o, ho, h⟩
    refine seg_up (ih _ h) fun K H gd lv code B hB N r e => segRun_step (endN rfl) rfl ?_ e
    obtain ⟨heap, gens, drawn, toks, os⟩ := s
    show (match heap.get? a0 with | some o => Step.go _ _ | none => Step.halt _ _) = _
    rw [show heap.get? a0 = some o from ho]
  | update a0 q f k ih =>
    intro c p s ⟨ho, hn, h⟩
    refine seg_up (ih _ h) fun K H gd lv code B hB N r e => segRun_step (endN rfl) ?_ ?_ e
    · have : Nat.ble n₀ a0 = true := Nat.ble_eq_true_of_le hn
      simp [Sem.wrap, stepOk, Thread.calm, Thread.yieldsInsideHandler, Thread.atCollectorCode, Thread.atExit, this]
    · obtain ⟨heap, gens, drawn, toks, os⟩ := s
      exact if_pos ho
  | call cd hd gd0 l k ih =>
    intro c p s ⟨i, tk, hcd, h⟩
    subst hcd
    refine seg_up (ih _ h) fun K H gd lv code B hB N r e => ?_
    obtain ⟨heap, gens, drawn, toks, os⟩ := s
    refine segRun_step (N := N + 3) (endN rfl) rfl rfl ?_
    rw [den_hash]
    refine segRun_step (N := N + 2) (endN rfl) (by kernel_rfl!) (step_again) ?_
    rw [den_hash2]
    refine segRun_step (N := N + 1) (endN rfl) rfl rfl ?_
    refine segRun_step (N := N) ?_ rfl rfl e
    subst hB; simp [endAt]
  | _ => intro c p s h; exact h.elim
end
end Mine
end

section
namespace Mine
noncomputable def hx (h : Heap) (l : List Obj) : Heap := ⟨h.objs ++ l.toArray, h.life⟩
theorem hx_nil (h : Heap) : hx h [] = h := by unfold hx; simp
theorem hx_push (h : Heap) (l : List Obj) (o : Obj) : (hx h l).push o = hx h (l ++ [o]) := by
  show Heap.mk ((h.objs ++ l.toArray).push o) h.life = Heap.mk (h.objs ++ (l ++ [o]).toArray) h.life
  congr 1
  apply Array.ext'
  rw [Array.toList_push, Array.toList_append, Array.toList_append, List.append_assoc]
theorem hx_size (h : Heap) (l : List Obj) : (hx h l).objs.size = h.objs.size + l.length := by unfold hx; simp
theorem hx_get {h : Heap} {l : List Obj} {i : Nat} {o : Obj} (e : l[i]? = some o) (hf : o.isFreed = false) : (hx h l).get? (h.objs.size + i) = some o := by
  have hi : (hx h l).objs[h.objs.size + i]? = some o := by
    unfold hx
    rw [Array.getElem?_append_right (Nat.le_add_right ..)]
    simpa using e
  unfold Heap.get?
  rw [hi]
  obtain ⟨c, d, dt, sl⟩ := o
  cases dt <;> first | rfl | (simp [Obj.isFreed] at hf)
theorem hx_update {h : Heap} {l : List Obj} {i : Nat} (f : Obj → Obj) : (hx h l).update (h.objs.size + i) f = hx h (l.modify i f) := by
  show Heap.mk ((h.objs ++ l.toArray).modify (h.objs.size + i) f) h.life = Heap.mk (h.objs ++ (l.modify i f).toArray) h.life
  congr 1
  apply Array.ext_getElem?
  intro j
  rw [Array.getElem?_modify, Array.getElem?_append, Array.getElem?_append]
  by_cases hj : j < h.objs.size
  · have : ¬ h.objs.size + i = j := ar240 hj
    simp [hj, this]
  · simp only [hj, if_false]
    have e : (h.objs.size + i = j) ↔ (i = j - h.objs.size) := ar241 hj
    simp only [List.getElem?_toArray, List.getElem?_modify, e]
    by_cases q : i = j - h.objs.size <;> simp [q]
noncomputable def dO (E : Array DictEntry) (n : Nat) : Obj := { cls := .type "dict", data := .dict E n }
section
variable {g : Setting} {n₀ : Nat} {c : Nat} {p : Pos} {s : Shared}
theorem ex_pyHash {i : Int} {t : Tok} {Q : Int → Nat → Pos → Shared → Prop} (h : ∀ c', c' ≤ c + 8 → Q (hashInt i) c' p { s with toks := s.toks + 1 }) : ex g n₀ (pyHash (.int i t)) Q c p s := by
  have hr := rawHash_range i
  unfold pyHash pyHashByItsType
  have hv : [Value.int i t].any Value.onHeap = false := rfl
  refine ex_bind ?_
  rw [cRoomFor, if_neg (by rw [hv]; exact Bool.false_ne_true)]
  refine ex_pure ?_
  have sp : specialOf (.int i t) "__hash__" = pure (some (.builtin "int.__hash__")) := slot_int_hash.lookup
  rw [sp]
  refine ex_bind (ex_pure ?_)
  show ex g n₀ (if (some (Value.builtin "int.__hash__") == some Value.none) = true then _ else _) Q c p s
  rw [if_neg (by rw [beq_builtin_none]; exact Bool.false_ne_true)]
  refine ex_bind (ex_pure ?_)
  show ex g n₀ (callSpecialIfBoundUnlessNone? (.int i t) "__hash__" _ >>= _) Q c p s
  refine ex_bind ?_
  simp only [callSpecialIfBoundUnlessNone?, bindSpecialIfBound?, sp]
  refine ex_holding (ex_bind (ex_bind (ex_pure ?_)))
  simp only [slot_int_hash.bind]
  refine ex_bind (ex_ask ?_)
  have tail : ∀ {R : Sem Value} {c' : Nat}, ex g n₀ (if (Value.builtin "int.__hash__" == Value.none) = true then (R >>= fun v => pure (some v)) else (call (.builtin "int.__hash__") [.int i t] >>= fun v => pure (some v)))
      (fun a c2 p' s' => a = some (.int (rawHash i) s.toks) ∧ p' = p ∧ s' = { s with toks := s.toks + 1 } ∧ c2 = c' + 4) c' p s := by
    intro R c'
    rw [if_neg (by simp [builtin_beq_none])]
    exact ex_bind (ex_call_hash (ex_pure ⟨rfl, rfl, rfl, rfl⟩))
  have last : ∀ c', c' ≤ c + 8 → ex g n₀ (pyHashByItsType.reduced (rawHash i)) Q c' p { s with toks := s.toks + 1 } := by
    intro c' hc'
    unfold pyHashByItsType.reduced
    have e : (decide (-(2 : Int) ^ 63 ≤ rawHash i) && decide (rawHash i < 2 ^ 63)) = true := by simp only [Bool.and_eq_true, decide_eq_true_eq]; exact hr
    rw [if_pos e]
    exact h c' hc'
  split
  · refine ex_bind (ex_pure (ex_pure ?_))
    refine ex_mono (fun a c' p' s' hh => ?_) tail
    refine ex0_4 hh ?_; (try clear hh); intro ob1 ob2 ob3 ob4; subst ob1; subst ob2; subst ob3; subst ob4
    exact last _ (ar242)
  · refine ex_tryCatch (ex_bind (ex_pure (ex_pure ?_)))
    refine ex_mono (fun a c' p' s' hh => ?_) tail
    refine ex0_4 hh ?_; (try clear hh); intro ob5 ob6 ob7 ob8; subst ob5; subst ob6; subst ob7; subst ob8
    exact last _ (ar242)
theorem ex_dictEntries {a : Addr} {q : Option Value} {E : Array DictEntry} {n : Nat} {Q : Array DictEntry → Nat → Pos → Shared → Prop} (ho : s.heap.get? a = some (dO E n)) (h : ∀ c', c' ≤ c + 1 → Q E c' p s) : ex g n₀ (dictEntries a q) Q c p s := by
  unfold dictEntries
  exact ex_bind (ex_load ho (ex_pure (h _ (ar243))))
theorem ex_dictEpoch {a : Addr} {q : Option Value} {E : Array DictEntry} {n : Nat} {Q : Nat → Nat → Pos → Shared → Prop} (ho : s.heap.get? a = some (dO E n)) (h : ∀ c', c' ≤ c + 1 → Q n c' p s) : ex g n₀ (dictEpoch a q) Q c p s := by
  unfold dictEpoch
  exact ex_bind (ex_load ho (ex_pure (h _ (ar243))))
theorem places_none {E : Array DictEntry} {h : Int} (hn : ∀ e ∈ E.toList, e.hash ≠ h) : placesWithHash E.size (fun i => E[i]?.map (·.hash)) h = [] := by
  unfold placesWithHash
  rw [List.filter_eq_nil_iff]
  intro i hi
  rw [List.mem_range] at hi
  intro q
  have q' : (E[i]?.map (·.hash)) = some h := beq_iff_eq.mp q
  rw [Array.getElem?_eq_getElem hi] at q'
  exact hn _ (Array.getElem_mem_toList hi) (Option.some.inj q')
theorem ex_dictFind_none {a : Addr} {i : Int} {t : Tok} {h : Int} {E : Array DictEntry} {n : Nat} {Q : Option Nat → Nat → Pos → Shared → Prop} (ho : s.heap.get? a = some (dO E n)) (hn : ∀ e ∈ E.toList, e.hash ≠ h)
    (k : ∀ c', c' ≤ c + 1 → Q none c' p s) : ex g n₀ (dictFind a (.int i t) h) Q c p s := by
  unfold dictFind
  refine ex_holding (ex_bind (ex_dictEntries ho fun c' hc => ?_))
  dsimp only
  rw [places_none hn]
  exact k _ (ar244 hc)
theorem ex_updateDictKeys {a : Addr} {q : Option Value} {f : Array DictEntry → Array DictEntry} {E : Array DictEntry} {n : Nat} {Q : Unit → Nat → Pos → Shared → Prop} (ho : s.heap.get? a = some (dO E n)) (hn : n₀ ≤ a) (hz : (f E).size ≤ 4096)
    (ha : (s.heap.update a (Obj.mapDictKeys f)).get? a = some (dO (f E) (n + 1))) (h : ∀ c', c' ≤ c + 3 → Q () c' p { s with heap := s.heap.update a (Obj.mapDictKeys f) }) : ex g n₀ (updateDictKeys a f q) Q c p s := by
  unfold updateDictKeys
  refine ex_bind (ex_load ho ?_)
  refine ex_bind (ex_update (by rw [ho]; rfl) hn ?_)
  unfold lookBehind
  refine ex_bind (ex_load ha ?_)
  have e : (dO (f E) (n + 1)).data.pastItsLine = none := by
    show (if (f E).size > sizeLine + 1 then some "dict:memory" else none) = none
    rw [if_neg]
    have : (4096 : Nat) ≤ sizeLine := by decide
    exact ar245 hz this
  rw [e]
  exact h _ (ar246)
noncomputable def ents (k : Nat) : Nat → List (Int × Str) → List DictEntry
  | _, [] => []
  | t, (i, x) :: r => ⟨hashInt i, .int i t, .str x (t + 1)⟩ :: ents k (t + k) r
theorem ents_length (k : Nat) : ∀ (t : Nat) (D : List (Int × Str)), (ents k t D).length = D.length
  | _, [] => rfl
  | t, (_, _) :: r => by simp only [ents, List.length_cons, ents_length k (t + k) r]
theorem ents_hash (k : Nat) : ∀ (t : Nat) (D : List (Int × Str)), (ents k t D).map (·.hash) = D.map (fun d => hashInt d.1)
  | _, [] => rfl
  | t, (_, _) :: r => by simp only [ents, List.map_cons, ents_hash k (t + k) r]
theorem ents_key (k : Nat) : ∀ (t : Nat) (D : List (Int × Str)), ∀ e ∈ ents k t D, ∃ i t, e.key = .int i t
  | _, [], _, h => nomatch h
  | t, (_, _) :: r, e, h => by
    rcases List.mem_cons.mp h with rfl | h
    · exact ⟨_, _, rfl⟩
    · exact ents_key k (t + k) r e h
noncomputable def prOf (q : Pos) (d : Int × Str) : Sem Value × Sem Value := (mkInt d.1, do let x ← mkText d.2; standAt q; pure x)
theorem ex_put {h : Heap} {l : List Obj} {E : Array DictEntry} {n : Nat} {i : Int} {tk tt : Nat} {v : Value} {hh : Int} {gs dr os} {part : Option Value} {Q : Unit → Nat → Pos → Shared → Prop} (hn : n₀ ≤ h.objs.size) {j : Nat} (hj : l[j]? = some (dO E n)) (hz : E.size ≤ 4000)
    (k : ∀ c', c' ≤ c + 3 → Q () c' p ⟨hx h (l.set j (dO (E.push ⟨hh, .int i tk, v⟩) (n + 1))), gs, dr, tt, os⟩) :
    ex g n₀ (updateDictKeys (h.objs.size + j) (·.push ⟨hh, .int i tk, v⟩) part) Q c p ⟨hx h l, gs, dr, tt, os⟩ := by
  have hl : j < l.length := (List.getElem?_eq_some_iff.mp hj).1
  have hm : l.modify j (Obj.mapDictKeys (·.push ⟨hh, .int i tk, v⟩)) = l.set j (dO (E.push ⟨hh, .int i tk, v⟩) (n + 1)) := by
    apply List.ext_getElem?
    intro m
    rw [List.getElem?_modify, List.getElem?_set]
    by_cases e : j = m
    · subst e
      rw [hj]
      simp only [if_true, hl]
      rfl
    · simp [e]
  refine ex_updateDictKeys (E := E) (n := n) (hx_get hj rfl) (ar247 hn) (by rw [Array.size_push]; exact ar248 hz) ?_ fun c' hc => ?_
  · show ((hx h l).update (h.objs.size + j) _).get? (h.objs.size + j) = _
    rw [hx_update, hm]
    exact hx_get (by rw [List.getElem?_set_self hl]) rfl
  · show Q () c' p ⟨(hx h l).update (h.objs.size + j) _, gs, dr, tt, os⟩
    rw [hx_update, hm]
    exact k c' hc
theorem ex_dictSet {h : Heap} {l : List Obj} {E : Array DictEntry} {n : Nat} {i : Int} {tk tt : Nat} {v : Value} {gs dr os} {Q : Unit → Nat → Pos → Shared → Prop} (hn : n₀ ≤ h.objs.size) {j : Nat} (hj : l[j]? = some (dO E n)) (hz : E.size ≤ 4000)
    (hd : ∀ e ∈ E.toList, e.hash ≠ hashInt i) (k : ∀ c', c' ≤ c + 15 → Q () c' p ⟨hx h (l.set j (dO (E.push ⟨hashInt i, .int i tk, v⟩) (n + 1))), gs, dr, tt + 1, os⟩) :
    ex g n₀ (dictSet (h.objs.size + j) (.int i tk) v) Q c p ⟨hx h l, gs, dr, tt, os⟩ := by
  unfold dictSet
  refine ex_holding (ex_bind (ex_pyHash fun c' hc => ?_))
  unfold dictSetHashed
  refine ex_holding (ex_bind (ex_dictFind_none (E := E) (n := n) (hx_get hj rfl) hd fun c2 hc2 => ?_))
  dsimp only
  refine ex_bind (ex_rule ?_)
  exact ex_put hn hj hz fun c3 hc3 => k c3 (ar249 hc hc2 hc3)
noncomputable def Fresh (hs : List Int) (D : List (Int × Str)) : Prop := (hs ++ D.map (fun d => hashInt d.1)).Nodup
theorem Fresh.head {hs : List Int} {i : Int} {x : Str} {D : List (Int × Str)} (H : Fresh hs ((i, x) :: D)) : ∀ a ∈ hs, a ≠ hashInt i := by
  unfold Fresh at H
  rw [List.map_cons, List.nodup_append] at H
  intro a ha
  exact H.2.2 a ha _ (.head _)
theorem Fresh.tail {hs : List Int} {i : Int} {x : Str} {D : List (Int × Str)} (H : Fresh hs ((i, x) :: D)) : Fresh (hs ++ [hashInt i]) D := by
  unfold Fresh at H ⊢
  rw [List.append_assoc]
  exact H
theorem ex_fill {h : Heap} {gs dr os} {q : Pos} {j : Nat} (hn : n₀ ≤ h.objs.size) {f : Sem Value × Sem Value → PUnit → Sem (ForInStep PUnit)}
    (hf : ∀ x r, f x r = (do let kv ← x.1; let vv ← holding [kv] x.2; holding [kv, vv] (dictSet (h.objs.size + j) kv vv); pure (ForInStep.yield PUnit.unit))) :
    ∀ (D : List (Int × Str)) {l : List Obj} {E : Array DictEntry} {n tt c : Nat} {p : Pos} {Q : PUnit → Nat → Pos → Shared → Prop}, l[j]? = some (dO E n) → E.size + D.length ≤ 4000 → Fresh (E.toList.map (·.hash)) D →
      (∀ c' p', c' ≤ c + 30 * D.length → Q PUnit.unit c' p' ⟨hx h (l.set j (dO (E ++ (ents 3 tt D).toArray) (n + D.length))), gs, dr, tt + 3 * D.length, os⟩) →
      ex g n₀ (forIn (D.map (prOf q)) PUnit.unit f) Q c p ⟨hx h l, gs, dr, tt, os⟩
  | [], l, E, n, tt, c, p, Q, hj, _, _, k => by
    have e : l.set j (dO (E ++ (ents 3 tt []).toArray) (n + 0)) = l := by
      have hl := List.getElem?_eq_some_iff.mp hj
      apply List.ext_getElem?
      intro m
      rw [List.getElem?_set]
      by_cases q : j = m
      · subst q; refine ex1_1 hl ?_; (try clear hl); intro h1 h2; simp [h1, h2, ents]
      · simp [q]
    have k' := k c p (by omega)
    simp only [List.length_nil, Nat.mul_zero, Nat.add_zero] at k' e
    rw [e] at k'
    exact k'
  | (i, x) :: D, l, E, n, tt, c, p, Q, hj, hz, hfr, k => by
    have hl : j < l.length := (List.getElem?_eq_some_iff.mp hj).1
    rw [List.map_cons, List.forIn_cons, hf]
    simp only [List.length_cons] at hz k
    refine ex_bind (ex_bind ?_)
    show ex g n₀ (mkInt i) _ c p _
    refine ex_mkInt (ex_bind (ex_holding ?_))
    show ex g n₀ (mkText x >>= fun y => standAt q >>= fun _ => pure y) _ _ p _
    refine ex_bind (ex_mkText (ex_bind (ex_standAt (ex_pure (ex_bind (ex_holding ?_))))))
    refine ex_dictSet hn hj (ar250 hz) (fun e he => hfr.head _ (List.mem_map_of_mem he)) fun c1 hc1 => ?_
    refine ex_pure ?_
    dsimp only
    refine ex_fill hn hf D (by rw [List.getElem?_set_self hl]) (by rw [Array.size_push]; exact ar251 hz) ?_ fun c' p' hc => ?_
    · have := hfr.tail
      simpa only [Array.toList_push, List.map_append, List.map_cons, List.map_nil] using this
    · have e1 : (l.set j (dO (E.push ⟨hashInt i, .int i tt, .str x (tt + 1)⟩) (n + 1))).set j (dO (E.push ⟨hashInt i, .int i tt, .str x (tt + 1)⟩ ++ (ents 3 (tt + 1 + 1 + 1) D).toArray) (n + 1 + D.length)) = l.set j (dO (E ++ (ents 3 tt ((i, x) :: D)).toArray) (n + (D.length + 1))) := by
        rw [List.set_set]
        congr 1
        have : E.push ⟨hashInt i, .int i tt, .str x (tt + 1)⟩ ++ (ents 3 (tt + 1 + 1 + 1) D).toArray = E ++ (ents 3 tt ((i, x) :: D)).toArray := by
          apply Array.ext'
          simp only [Array.toList_append, Array.toList_push, ents, List.append_assoc, List.singleton_append]
        rw [this, show n + 1 + D.length = n + (D.length + 1) by exact ar252]
      rw [e1, show tt + 1 + 1 + 1 + 3 * D.length = tt + 3 * (D.length + 1) by exact ar253]
      exact k c' p' (ar254 hc1 hc)
theorem isub_dict : isSubtype (.type "dict") (.type "dict") = pure true := by kernel_rfl!
theorem iter_dict : typeLookup (.type "dict") "__iter__" = pure (some (.builtin "dict.__iter__")) := by kernel_rfl!
theorem ex_dictPut {h : Heap} {l : List Obj} {E : Array DictEntry} {n : Nat} {i hh : Int} {tk tt : Nat} {v : Value} {gs dr os} {Q : Unit → Nat → Pos → Shared → Prop} (hn : n₀ ≤ h.objs.size) {j : Nat} (hj : l[j]? = some (dO E n)) (hz : E.size ≤ 4000)
    (hd : ∀ e ∈ E.toList, e.hash ≠ hh) (k : ∀ c', c' ≤ c + 4 → Q () c' p ⟨hx h (l.set j (dO (E.push ⟨hh, .int i tk, v⟩) (n + 1))), gs, dr, tt, os⟩) :
    ex g n₀ (dictPut (h.objs.size + j) hh (.int i tk) v) Q c p ⟨hx h l, gs, dr, tt, os⟩ := by
  unfold dictPut
  refine ex_bind (ex_dictFind_none (E := E) (n := n) (hx_get hj rfl) hd fun c' hc => ?_)
  dsimp only
  exact ex_put hn hj hz fun c3 hc3 => k c3 (ar255 hc hc3)
theorem ex_mergeLoop {h : Heap} {gs dr os} {j m : Nat} {F : Array DictEntry} {nf : Nat} (hn : n₀ ≤ h.objs.size) (hjm : j ≠ m) {f : Nat → PUnit → Sem (ForInStep PUnit)}
    (hf : ∀ i r, f i r = (do
      match (← dictEntries (h.objs.size + m))[i]? with
      | some e => do
        holding [e.key, e.val] (dictPut (h.objs.size + j) e.hash e.key e.val)
        if (← dictEpoch (h.objs.size + m)) != nf then do
            unsupported "dict.changed-during-merge"
            pure (ForInStep.yield PUnit.unit)
          else pure (ForInStep.yield PUnit.unit)
      | none => do
        unsupported "dict.changed-during-merge"
        pure (ForInStep.yield PUnit.unit))) (hk : ∀ e ∈ F.toList, ∃ i t, e.key = .int i t) :
    ∀ (k a : Nat) {l : List Obj} {E : Array DictEntry} {n tt c : Nat} {p : Pos} {Q : PUnit → Nat → Pos → Shared → Prop}, a + k = F.size → l[j]? = some (dO E n) → l[m]? = some (dO F nf) → E.size + k ≤ 4000 → (E.toList.map (·.hash) ++ (F.toList.drop a).map (·.hash)).Nodup →
      (∀ c' p', c' ≤ c + 10 * k → Q PUnit.unit c' p' ⟨hx h (l.set j (dO (E ++ (F.toList.drop a).toArray) (n + k))), gs, dr, tt, os⟩) →
      ex g n₀ (forIn (List.range' a k) PUnit.unit f) Q c p ⟨hx h l, gs, dr, tt, os⟩
  | 0, a, l, E, n, tt, c, p, Q, ha, hj, hm, hz, hfr, K => by
    have hl := List.getElem?_eq_some_iff.mp hj
    have hd : F.toList.drop a = [] := List.drop_eq_nil_of_le (by rw [Array.length_toList]; exact ar256 ha)
    have e : l.set j (dO (E ++ (F.toList.drop a).toArray) (n + 0)) = l := by
      rw [hd]
      apply List.ext_getElem?
      intro m
      rw [List.getElem?_set]
      by_cases q : j = m
      · subst q; refine ex1_1 hl ?_; (try clear hl); intro h1 h2; simp [h1, h2]
      · simp [q]
    have k' := K c p (ar257)
    rw [e] at k'
    exact k'
  | k + 1, a, l, E, n, tt, c, p, Q, ha, hj, hm, hz, hfr, K => by
    have hl : j < l.length := (List.getElem?_eq_some_iff.mp hj).1
    have hlt : a < F.size := ar258 ha
    have hd : F.toList.drop a = F[a] :: F.toList.drop (a + 1) := by
      rw [List.drop_eq_getElem_cons (by rw [Array.length_toList]; exact hlt)]
      simp
    rw [hd, List.map_cons] at hfr
    obtain ⟨i, tk, hkey⟩ := hk F[a] (Array.getElem_mem_toList hlt)
    rw [List.range'_succ, List.forIn_cons, hf]
    refine ex_bind (ex_bind (ex_dictEntries (E := F) (n := nf) (hx_get hm rfl) fun c1 hc1 => ?_))
    rw [Array.getElem?_eq_getElem hlt]
    dsimp only
    rw [hkey]
    refine ex_bind (ex_holding (ex_dictPut hn hj (ar259 ha hz hlt) (fun e he => ?_) fun c2 hc2 => ?_))
    · exact (List.nodup_append.mp hfr).2.2 _ (List.mem_map_of_mem he) _ (.head _)
    · refine ex_bind (ex_dictEpoch (E := F) (n := nf) (hx_get (by rw [List.getElem?_set_ne hjm]; exact hm) rfl) fun c3 hc3 => ?_)
      rw [if_neg (by simp)]
      refine ex_pure ?_
      dsimp only
      have ent : (⟨F[a].hash, .int i tk, F[a].val⟩ : DictEntry) = F[a] := by rw [← hkey]
      rw [ent]
      refine ex_mergeLoop hn hjm hf hk k (a + 1) (ar260 ha) (by rw [List.getElem?_set_self hl]) (by rw [List.getElem?_set_ne hjm]; exact hm) (by rw [Array.size_push]; exact ar251 hz) ?_ fun c' p' hc' => ?_
      · rw [Array.toList_push, List.map_append, List.append_assoc]
        exact hfr
      · have e1 : (l.set j (dO (E.push F[a]) (n + 1))).set j (dO (E.push F[a] ++ (F.toList.drop (a + 1)).toArray) (n + 1 + k)) = l.set j (dO (E ++ (F.toList.drop a).toArray) (n + (k + 1))) := by
          rw [List.set_set, hd]
          congr 1
          have : E.push F[a] ++ (F.toList.drop (a + 1)).toArray = E ++ (F[a] :: F.toList.drop (a + 1)).toArray := by
            apply Array.ext'
            simp only [Array.toList_append, Array.toList_push, List.append_assoc, List.singleton_append]
          rw [this, show n + 1 + k = n + (k + 1) by exact ar252]
        rw [e1]
        exact K c' p' (ar261 hc1 hc2 hc3 hc')
theorem ex_merge {h : Heap} {l : List Obj} {E F : Array DictEntry} {n nf tt : Nat} {gs dr os} {j m : Nat} {Q : Unit → Nat → Pos → Shared → Prop} (hn : n₀ ≤ h.objs.size) (hs : sysModules < h.objs.size) (hjm : j ≠ m) (hj : l[j]? = some (dO E n)) (hm : l[m]? = some (dO F nf))
    (hne : E.size ≠ 0) (hz : E.size + F.size ≤ 4000) (hk : ∀ e ∈ F.toList, ∃ i t, e.key = .int i t) (hfr : (E.toList.map (·.hash) ++ F.toList.map (·.hash)).Nodup)
    (K : ∀ c' p', c' ≤ c + 10 * F.size + 8 → Q () c' p' ⟨hx h (l.set j (dO (E ++ F) (n + F.size))), gs, dr, tt, os⟩) :
    ex g n₀ (mergeMapping (h.objs.size + j) (.ref (h.objs.size + m)) false) Q c p ⟨hx h l, gs, dr, tt, os⟩ := by
  have ty : ∀ {Q' : Value → Nat → Pos → Shared → Prop} {c p}, (∀ c', c' ≤ c + 1 → Q' (.type "dict") c' p ⟨hx h l, gs, dr, tt, os⟩) → ex g n₀ (typeOf (.ref (h.objs.size + m))) Q' c p ⟨hx h l, gs, dr, tt, os⟩ := by
    intro Q' c p k
    show ex g n₀ (do return (← loadPart (h.objs.size + m) (some headPart)).cls) Q' c p _
    exact ex_bind (ex_load (hx_get hm rfl) (ex_pure (k _ (ar243))))
  unfold mergeMapping
  refine ex_bind ?_
  unfold isInstance
  refine ex_bind (ty fun c1 hc1 => ?_)
  rw [isub_dict]
  refine ex_pure ?_
  rw [if_pos rfl]
  unfold specialOf
  refine ex_bind (ex_bind (ty fun c2 hc2 => ?_))
  rw [iter_dict]
  refine ex_pure ?_
  refine ex_bind (ex_pure ?_)
  have bq : (some (Value.builtin "dict.__iter__") == some (Value.builtin "dict.__iter__")) = true := beq_self_eq_true _
  rw [bq]
  dsimp only
  have ns : (h.objs.size + m == sysModules) = false := beq_eq_false_iff_ne.mpr (Nat.ne_of_gt (Nat.lt_of_lt_of_le hs (Nat.le_add_right _ _)))
  rw [if_neg (by rw [ns]; exact Bool.false_ne_true)]
  refine ex_bind (ex_dictEntries (E := E) (n := n) (hx_get hj rfl) fun c3 hc3 => ?_)
  rw [if_neg (by simpa [Array.isEmpty] using hne)]
  refine ex_bind (ex_dictEntries (E := F) (n := nf) (hx_get hm rfl) fun c4 hc4 => ?_)
  refine ex_bind (ex_dictEpoch (E := F) (n := nf) (hx_get hm rfl) fun c5 hc5 => ?_)
  refine ex_bind ?_
  rw [List.range_eq_range']
  refine ex_mergeLoop (E := E) (n := n) hn hjm ?hf hk F.size 0 (ar262) hj hm hz (by simpa using hfr) fun c' p' hc' => ?_
  case hf =>
    intro i r
    refine congrArg (dictEntries (h.objs.size + m) >>= ·) (funext fun es => ?_)
    cases es[i]? with
    | none => rfl
    | some e => simp only [Bool.false_eq_true, if_false]
  rw [List.drop_zero, show F.toList.toArray = F from rfl]
  exact ex_pure (K c' p' (ar263 hc1 hc2 hc3 hc4 hc5 hc'))
end
end Mine
end

section
namespace Mine
section
variable {g : Setting} {n₀ : Nat} {c : Nat} {p : Pos} {s : Shared}
theorem set_last (l : List Obj) (a b : Obj) : (l ++ [a]).set l.length b = l ++ [b] := by
  rw [List.set_append_right _ _ (Nat.le_refl _)]; simp
theorem get_last (l : List Obj) (a : Obj) : (l ++ [a])[l.length]? = some a := by simp
theorem ex_subDict_long {h : Heap} {l : List Obj} {gs dr os} {q : Pos} {tt : Nat} {D : List (Int × Str)} {Q : Addr → Nat → Pos → Shared → Prop} (hn : n₀ ≤ h.objs.size) (hl : 15 < D.length) (hz : D.length ≤ 4000) (hfr : Fresh [] D)
    (K : ∀ c' p', c' ≤ c + 30 * D.length + 5 → Q (h.objs.size + l.length) c' p' ⟨hx h (l ++ [dO (ents 3 tt D).toArray D.length]), gs, dr, tt + 3 * D.length, os⟩) : ex g n₀ (subDict (D.map (prOf q))) Q c p ⟨hx h l, gs, dr, tt, os⟩ := by
  unfold subDict
  refine ex_bind (ex_alloc ?_)
  rw [hx_size, hx_push]
  refine ex_bind (ex_holding ?_)
  rw [List.length_map, if_neg (ar464 hl hz)]
  refine ex_bind (ex_rule ?_)
  have e : ({ cls := .type "dict", data := .dict #[] } : Obj) = dO #[] 0 := rfl
  rw [e]
  refine ex_bind ?_
  refine ex_fill (E := #[]) (n := 0) (j := l.length) hn ?hf D (get_last _ _) (by simpa using hz) hfr fun c' p' hc => ?_
  case hf => intro x r; cases x; rfl
  rw [set_last]
  have e2 : (#[] : Array DictEntry) ++ (ents 3 tt D).toArray = (ents 3 tt D).toArray := by simp
  rw [e2, Nat.zero_add]
  exact ex_pure (ex_pure (K c' p' (ar465 hc)))
noncomputable def vals2 : Nat → List (Int × Str) → List (Value × Value)
  | _, [] => []
  | t, (i, x) :: r => (.int i t, .str x (t + 1)) :: vals2 (t + 2) r
theorem ex_evalPairs {h : Heap} {l : List Obj} {gs dr os} {q : Pos} : ∀ (D : List (Int × Str)) {tt c : Nat} {p : Pos} {Q : List (Value × Value) → Nat → Pos → Shared → Prop},
    (∀ c' p', c' ≤ c + 3 * D.length → Q (vals2 tt D) c' p' ⟨hx h l, gs, dr, tt + 2 * D.length, os⟩) → ex g n₀ (evalPairs (D.map (prOf q))) Q c p ⟨hx h l, gs, dr, tt, os⟩
  | [], tt, c, p, Q, K => K c p (ar466)
  | (i, x) :: D, tt, c, p, Q, K => by
    rw [List.map_cons]
    show ex g n₀ (do
      let kv ← mkInt i
      let vv ← holding [kv] (do let x ← mkText x; standAt q; pure x)
      return (kv, vv) :: (← holding [kv, vv] (evalPairs (D.map (prOf q))))) Q c p _
    refine ex_bind (ex_mkInt (ex_bind (ex_holding (ex_bind (ex_mkText (ex_bind (ex_standAt (ex_pure (ex_bind (ex_holding (ex_evalPairs D fun c' p' hc => ?_)))))))))))
    refine ex_pure ?_
    have := K c' p' (by rw [List.length_cons]; exact ar467 hc)
    rw [List.length_cons, show tt + 2 * (D.length + 1) = tt + 1 + 1 + 2 * D.length by exact ar468] at this
    exact this
theorem ex_fill2 {h : Heap} {gs dr os} {j : Nat} (hn : n₀ ≤ h.objs.size) {f : Value × Value → PUnit → Sem (ForInStep PUnit)}
    (hf : ∀ x r, f x r = (do dictSet (h.objs.size + j) x.1 x.2; pure (ForInStep.yield PUnit.unit))) :
    ∀ (D : List (Int × Str)) {l : List Obj} {E : Array DictEntry} {n tt t2 c : Nat} {p : Pos} {Q : PUnit → Nat → Pos → Shared → Prop}, l[j]? = some (dO E n) → E.size + D.length ≤ 4000 → Fresh (E.toList.map (·.hash)) D →
      (∀ c' p', c' ≤ c + 30 * D.length → Q PUnit.unit c' p' ⟨hx h (l.set j (dO (E ++ (ents 2 t2 D).toArray) (n + D.length))), gs, dr, tt + D.length, os⟩) →
      ex g n₀ (forIn (vals2 t2 D) PUnit.unit f) Q c p ⟨hx h l, gs, dr, tt, os⟩
  | [], l, E, n, tt, t2, c, p, Q, hj, _, _, k => by
    have e : l.set j (dO (E ++ (ents 2 t2 []).toArray) (n + 0)) = l := by
      have hl := List.getElem?_eq_some_iff.mp hj
      apply List.ext_getElem?
      intro m
      rw [List.getElem?_set]
      by_cases q : j = m
      · subst q; refine ex1_1 hl ?_; (try clear hl); intro h1 h2; simp [h1, h2, ents]
      · simp [q]
    have k' := k c p (by omega)
    simp only [List.length_nil, Nat.add_zero] at k' e
    rw [e] at k'
    exact k'
  | (i, x) :: D, l, E, n, tt, t2, c, p, Q, hj, hz, hfr, k => by
    have hl : j < l.length := (List.getElem?_eq_some_iff.mp hj).1
    show ex g n₀ (forIn ((Value.int i t2, Value.str x (t2 + 1)) :: vals2 (t2 + 2) D) PUnit.unit f) Q c p _
    rw [List.forIn_cons, hf]
    simp only [List.length_cons] at hz k
    refine ex_bind (ex_bind ?_)
    refine ex_dictSet hn hj (ar250 hz) (fun e he => hfr.head _ (List.mem_map_of_mem he)) fun c1 hc1 => ?_
    refine ex_pure ?_
    dsimp only
    refine ex_fill2 hn hf D (by rw [List.getElem?_set_self hl]) (by rw [Array.size_push]; exact ar251 hz) ?_ fun c' p' hc => ?_
    · have := hfr.tail
      simpa only [Array.toList_push, List.map_append, List.map_cons, List.map_nil] using this
    · have e1 : (l.set j (dO (E.push ⟨hashInt i, .int i t2, .str x (t2 + 1)⟩) (n + 1))).set j (dO (E.push ⟨hashInt i, .int i t2, .str x (t2 + 1)⟩ ++ (ents 2 (t2 + 2) D).toArray) (n + 1 + D.length)) = l.set j (dO (E ++ (ents 2 t2 ((i, x) :: D)).toArray) (n + (D.length + 1))) := by
        rw [List.set_set]
        congr 1
        have : E.push ⟨hashInt i, .int i t2, .str x (t2 + 1)⟩ ++ (ents 2 (t2 + 2) D).toArray = E ++ (ents 2 t2 ((i, x) :: D)).toArray := by
          apply Array.ext'
          simp only [Array.toList_append, Array.toList_push, ents, List.append_assoc, List.singleton_append]
        rw [this, show n + 1 + D.length = n + (D.length + 1) by exact ar252]
      rw [e1, show tt + 1 + D.length = tt + (D.length + 1) by exact ar252]
      exact k c' p' (ar469 hc1 hc)
theorem ex_subDict_short {h : Heap} {l : List Obj} {gs dr os} {q : Pos} {tt : Nat} {D : List (Int × Str)} {Q : Addr → Nat → Pos → Shared → Prop} (hn : n₀ ≤ h.objs.size) (hl : D.length ≤ 15) (hfr : Fresh [] D)
    (K : ∀ c' p', c' ≤ c + 40 * D.length + 5 → Q (h.objs.size + l.length) c' p' ⟨hx h (l ++ [dO (ents 2 tt D).toArray D.length]), gs, dr, tt + 3 * D.length, os⟩) : ex g n₀ (subDict (D.map (prOf q))) Q c p ⟨hx h l, gs, dr, tt, os⟩ := by
  unfold subDict
  refine ex_bind (ex_alloc ?_)
  rw [hx_size, hx_push]
  refine ex_bind (ex_holding ?_)
  rw [List.length_map, if_pos (ar470 hl)]
  refine ex_bind (ex_evalPairs D fun c1 p1 hc1 => ?_)
  refine ex_holding ?_
  have e : ({ cls := .type "dict", data := .dict #[] } : Obj) = dO #[] 0 := rfl
  rw [e]
  refine ex_bind ?_
  refine ex_fill2 (E := #[]) (n := 0) (j := l.length) hn ?hf D (get_last _ _) (by simp; exact ar471 hl) hfr fun c' p' hc => ?_
  case hf => intro x r; cases x; rfl
  rw [set_last]
  have e2 : (#[] : Array DictEntry) ++ (ents 2 tt D).toArray = (ents 2 tt D).toArray := by simp
  rw [e2, Nat.zero_add, show tt + 2 * D.length + D.length = tt + 3 * D.length by exact ar472]
  exact ex_pure (ex_pure (K c' p' (ar473 hl hc1 hc)))
noncomputable def FL (run : List (Sem Value × Sem Value)) (main : Option Addr) : Sem (Option Addr) :=
  if run.isEmpty = true then pure main else match main with
    | none => do
      let a ← subDict run
      pure (some a)
    | some d => do
      let sub ← holding [Value.ref d] (subDict run)
      (holding [Value.ref d, Value.ref sub] (mergeMapping d (Value.ref sub) false)).onRaise fun x => do
        let _ ← holding [Value.ref d, x] (runValue (Code.builtin "proto.let_go" {}))
      pure (some d)
noncomputable def mainA (h : Heap) : Option (Array DictEntry) → Option Addr
  | none => none
  | some _ => some (h.objs.size + 0)
noncomputable def mainL : Option (Array DictEntry) → List Obj → List Obj
  | none, _ => []
  | some E, S => dO E E.size :: S
noncomputable def addM : Option (Array DictEntry) → List DictEntry → Option (Array DictEntry)
  | none, F => some F.toArray
  | some E, F => some (E ++ F.toArray)
noncomputable def addS (M : Option (Array DictEntry)) (S : List Obj) (F : List DictEntry) : List Obj := match M with
  | none => []
  | some _ => S ++ [dO F.toArray F.length]
noncomputable def hsM : Option (Array DictEntry) → List Int
  | none => []
  | some E => E.toList.map (·.hash)
noncomputable def szM : Option (Array DictEntry) → Nat
  | none => 0
  | some E => E.size
theorem ex_FL {h : Heap} {M : Option (Array DictEntry)} {S : List Obj} {gs dr os} {q : Pos} {tt k : Nat} {R : List (Int × Str)} {Q : Option Addr → Nat → Pos → Shared → Prop} (hn : n₀ ≤ h.objs.size) (hs : sysModules < h.objs.size) (hR : R ≠ []) (hk : k = if R.length ≤ 15 then 2 else 3)
    (hz : szM M + R.length ≤ 4000) (hM : ∀ E, M = some E → E.size ≠ 0) (hfr : Fresh (hsM M) R)
    (K : ∀ c' p', c' ≤ c + 60 * R.length + 30 → Q (mainA h (addM M (ents k tt R))) c' p' ⟨hx h (mainL (addM M (ents k tt R)) (addS M S (ents k tt R))), gs, dr, tt + 3 * R.length, os⟩) :
    ex g n₀ (FL (R.map (prOf q)) (mainA h M)) Q c p ⟨hx h (mainL M S), gs, dr, tt, os⟩ := by
  have hlen : R.length ≠ 0 := fun e => hR (List.length_eq_zero_iff.mp e)
  have hfr0 : Fresh [] R := by
    unfold Fresh at hfr ⊢
    exact (List.nodup_append.mp hfr).2.1
  have sub : ∀ {l : List Obj} {Q' : Addr → Nat → Pos → Shared → Prop} {c p}, (∀ c' p', c' ≤ c + 40 * R.length + 5 → Q' (h.objs.size + l.length) c' p' ⟨hx h (l ++ [dO (ents k tt R).toArray R.length]), gs, dr, tt + 3 * R.length, os⟩) →
      ex g n₀ (subDict (R.map (prOf q))) Q' c p ⟨hx h l, gs, dr, tt, os⟩ := by
    intro l Q' c p K'
    subst hk
    by_cases h15 : R.length ≤ 15
    · rw [if_pos h15] at K'
      exact ex_subDict_short hn h15 hfr0 fun c' p' hc => K' c' p' (ar474 hc)
    · rw [if_neg h15] at K'
      exact ex_subDict_long hn (ar475 h15) (ar476 hz) hfr0 fun c' p' hc => K' c' p' (ar477 hz h15 hc)
  unfold FL
  rw [if_neg (by simpa using hR)]
  induction M using Option.casesOn with
  | none =>
    show ex g n₀ (do let a ← subDict (R.map (prOf q)); pure (some a)) Q c p _
    refine ex_bind (sub fun c' p' hc => ex_pure ?_)
    have := K c' p' (ar478 hz hc)
    simp only [addM, addS, mainA, mainL, List.size_toArray, ents_length] at this
    exact this
  | some E =>
    show ex g n₀ (do
      let sub ← holding [Value.ref (h.objs.size + 0)] (subDict (R.map (prOf q)))
      (holding [Value.ref (h.objs.size + 0), Value.ref sub] (mergeMapping (h.objs.size + 0) (Value.ref sub) false)).onRaise fun x => do
        let _ ← holding [Value.ref (h.objs.size + 0), x] (runValue (Code.builtin "proto.let_go" {}))
      pure (some (h.objs.size + 0))) Q c p _
    refine ex_bind (ex_holding (sub fun c' p' hc => ?_))
    refine ex_bind (ex_onRaise (ex_holding ?_))
    have hF : ((ents k tt R).toArray).size = R.length := by rw [List.size_toArray, ents_length]
    refine ex_merge (E := E) (n := E.size) (F := (ents k tt R).toArray) (nf := R.length) hn hs (j := 0) (m := (mainL (some E) S).length) (by simp [mainL]) (by simp [mainL]) (get_last _ _) (hM E rfl) (by rw [hF]; exact hz) ?_ ?_ fun c2 p2 hc2 => ?_
    · intro e he
      exact ents_key k tt R e (by simpa using he)
    · show (E.toList.map (·.hash) ++ (ents k tt R).map (·.hash)).Nodup
      rw [ents_hash]
      exact hfr
    · refine ex_pure ?_
      rw [hF] at hc2
      have := K c2 p2 (ar479 hz hc hF hc2)
      rw [hF]
      have e1 : (mainL (some E) S ++ [dO (ents k tt R).toArray R.length]).set 0 (dO (E ++ (ents k tt R).toArray) (E.size + R.length)) = mainL (addM (some E) (ents k tt R)) (addS (some E) S (ents k tt R)) := by
        simp [mainL, addM, addS, ents_length]
      rw [e1]
      exact this
noncomputable def dsp : Option (Array DictEntry) → List Obj → Nat → List (Int × Str) → List (Int × Str) → Option (Array DictEntry) × List Obj × Nat × List (Int × Str)
  | M, S, t, R, [] => (M, S, t, R)
  | M, S, t, R, d :: D => if (R ++ [d]).length = 17 then dsp (addM M (ents 3 t (R ++ [d]))) (addS M S (ents 3 t (R ++ [d]))) (t + 51) [] D else dsp M S t (R ++ [d]) D
theorem hs_add (M : Option (Array DictEntry)) (F : List DictEntry) : hsM (addM M F) = hsM M ++ F.map (·.hash) := by
  cases M <;> simp [hsM, addM]
theorem sz_add (M : Option (Array DictEntry)) (F : List DictEntry) : szM (addM M F) = szM M + F.length := by
  cases M <;> simp [szM, addM]
theorem ex_loop {h : Heap} {gs dr os} {q : Pos} (hn : n₀ ≤ h.objs.size) (hs : sysModules < h.objs.size) {f : Option (Sem Value) × Sem Value → Option Addr × List (Sem Value × Sem Value) → Sem (ForInStep (Option Addr × List (Sem Value × Sem Value)))}
    (hf : ∀ d st, f (some (prOf q d).1, (prOf q d).2) st = if ((st.2 ++ [prOf q d]).length == 17) = true then (do let main ← FL (st.2 ++ [prOf q d]) st.1; pure (.yield (main, []))) else pure (.yield (st.1, st.2 ++ [prOf q d]))) :
    ∀ (D R : List (Int × Str)) {M : Option (Array DictEntry)} {S : List Obj} {tt c : Nat} {p : Pos} {Q : Option Addr × List (Sem Value × Sem Value) → Nat → Pos → Shared → Prop},
      szM M + R.length + D.length ≤ 4000 → (∀ E, M = some E → E.size ≠ 0) → Fresh (hsM M) (R ++ D) →
      (∀ c' p', c' ≤ c + 200 * (R.length + D.length) → Q (mainA h (dsp M S tt R D).1, (dsp M S tt R D).2.2.2.map (prOf q)) c' p' ⟨hx h (mainL (dsp M S tt R D).1 (dsp M S tt R D).2.1), gs, dr, (dsp M S tt R D).2.2.1, os⟩) →
      ex g n₀ (forIn (D.map fun d => (some (prOf q d).1, (prOf q d).2)) (mainA h M, R.map (prOf q)) f) Q c p ⟨hx h (mainL M S), gs, dr, tt, os⟩
  | [], R, M, S, tt, c, p, Q, _, _, _, K => K c p (by omega)
  | d :: D, R, M, S, tt, c, p, Q, hz, hM, hfr, K => by
    rw [List.map_cons, List.forIn_cons, hf]
    have em : (R.map (prOf q)) ++ [prOf q d] = (R ++ [d]).map (prOf q) := by simp
    dsimp only
    rw [em, List.length_map]
    have hfr' : Fresh (hsM M) (R ++ [d]) := by
      unfold Fresh at hfr ⊢
      rw [show R ++ d :: D = (R ++ [d]) ++ D by simp, List.map_append, ← List.append_assoc] at hfr
      exact (List.nodup_append.mp hfr).1
    have hl : (R ++ [d]).length = R.length + 1 := by simp
    rw [List.length_cons] at hz
    by_cases h17 : (R ++ [d]).length = 17
    · rw [if_pos (by rw [h17]; rfl)]
      refine ex_bind (ex_bind (ex_FL (k := 3) hn hs (by simp) (by rw [if_neg (ar480 h17)]) (ar481 hz hl h17) hM hfr' fun c' p' hc => ex_pure ?_))
      dsimp only
      have e : dsp M S tt R (d :: D) = dsp (addM M (ents 3 tt (R ++ [d]))) (addS M S (ents 3 tt (R ++ [d]))) (tt + 51) [] D := by
        rw [dsp, if_pos h17]
      rw [e] at K
      rw [h17]
      refine ex_loop hn hs hf D [] (by rw [sz_add, ents_length]; simp only [List.length_nil]; exact ar482 hz hl h17) ?_ ?_ fun c2 p2 hc2 => K c2 p2 (by rw [h17] at hc; simp only [List.length_nil, List.length_cons] at hc2 ⊢; exact ar483 hl h17 hc hc2)
      · intro E hE
        have h1 : szM (addM M (ents 3 tt (R ++ [d]))) = E.size := by rw [hE]; rfl
        rw [sz_add, ents_length] at h1
        exact ar484 h17 h1
      · rw [hs_add, ents_hash]
        unfold Fresh at hfr ⊢
        rw [List.nil_append, List.append_assoc, ← List.map_append]
        simpa using hfr
    · rw [if_neg (by simpa using h17)]
      refine ex_bind (ex_pure ?_)
      dsimp only
      have e : dsp M S tt R (d :: D) = dsp M S tt (R ++ [d]) D := by
        rw [dsp, if_neg h17]
      rw [e] at K
      exact ex_loop hn hs hf D (R ++ [d]) (ar485 hz hl) hM (by simpa using hfr) fun c2 p2 hc2 => K c2 p2 (by rw [hl] at hc2; simp only [List.length_cons]; exact ar486 hl hc2)
theorem ex_display {h : Heap} {gs dr os} {q : Pos} {D : List (Int × Str)} {tt : Nat} {Q : Value → Nat → Pos → Shared → Prop} (hn : n₀ ≤ h.objs.size) (hs : sysModules < h.objs.size) (hz : D.length ≤ 4000) (hfr : Fresh [] D)
    {M : Option (Array DictEntry)} {S : List Obj} {t2 : Nat} {R : List (Int × Str)} (hd : dsp none [] tt [] D = (M, S, t2, R)) (hR : R ≠ []) (hR15 : R.length ≤ 15) (hM : ∀ E, M = some E → E.size ≠ 0) (hM2 : szM M + R.length ≤ 4000) (hfr2 : Fresh (hsM M) R)
    (K : ∀ c' p', c' ≤ c + 200 * D.length + 60 * R.length + 40 → Q (.ref h.objs.size) c' p' ⟨hx h (mainL (addM M (ents 2 t2 R)) (addS M S (ents 2 t2 R))), gs, dr, t2 + 3 * R.length, os⟩) :
    ex g n₀ (dictDisplay (D.map fun d => (some (prOf q d).1, (prOf q d).2))) Q c p ⟨h, gs, dr, tt, os⟩ := by
  unfold dictDisplay
  dsimp only
  refine ex_bind ?_
  have e0 : (⟨h, gs, dr, tt, os⟩ : Shared) = ⟨hx h (mainL none []), gs, dr, tt, os⟩ := by
    show _ = (⟨hx h [], gs, dr, tt, os⟩ : Shared)
    rw [hx_nil]
  rw [e0]
  refine ex_loop (M := none) (S := []) (q := q) hn hs ?hf D [] (by simpa [szM] using hz) (fun E hE => nomatch hE) (by simpa [hsM] using hfr) fun c' p' hc => ?_
  case hf => intro d st; rfl
  rw [hd]
  dsimp only
  refine ex_bind ?_
  have := @ex_FL g n₀ c' p' h M S gs dr os q t2 2 R
  refine this hn hs hR (by rw [if_pos hR15]) hM2 hM hfr2 fun c2 p2 hc2 => ?_
  have ea : mainA h (addM M (ents 2 t2 R)) = some (h.objs.size + 0) := by cases M <;> rfl
  rw [ea]
  exact ex_pure (K c2 p2 (by simp only [List.length_nil] at hc; exact ar487 hc hc2))
end
end Mine
end

namespace Mine
noncomputable abbrev pw : Program := PySem.Challenge.pw_sn0090_01
noncomputable def st (i : Nat) : Stmt := pw.main.body.getD i (.Pass default)
noncomputable def fdArgs : Stmt → Arguments | .FunctionDef _ a .. => a | _ => default
noncomputable def fdBody : Stmt → List Stmt | .FunctionDef _ _ b .. => b | _ => []
noncomputable def fdScope : Stmt → Scope | .FunctionDef _ _ _ _ _ _ s .. => s | _ => default
noncomputable def life0 : Life := {}
noncomputable def dKeys : Stmt → List (Option PySem.Expr) | .Assign _ (.Dict k _ _) _ => k | _ => []
noncomputable def dVals : Stmt → List PySem.Expr | .Assign _ (.Dict _ v _) _ => v | _ => []
noncomputable def kInt : Option PySem.Expr → Int | some (.Constant (.int i) _ _) => i | _ => 0
noncomputable def vStr : PySem.Expr → Str | .Constant (.str s) _ _ => s | _ => Str.empty
noncomputable def tab : List (Int × Str) := (List.map kInt (dKeys (st 20))).zip (List.map vStr (dVals (st 20)))
noncomputable def dRes : Option (Array DictEntry) × List Obj × Nat × List (Int × Str) := dsp none [] 491 [] tab
noncomputable def dObjs : List Obj := mainL (addM dRes.1 (ents 2 dRes.2.2.1 dRes.2.2.2)) (addS dRes.1 dRes.2.1 (ents 2 dRes.2.2.1 dRes.2.2.2))
noncomputable def dObj (i : Nat) : Obj := dObjs.getD i default
noncomputable def env0 : Env := { scope := pw.main.scope, locals := mainNs, globals := mainNs, cells := [], code := .ref 30, frame := some 31 }
noncomputable def cE : Code := .body (behindTheImports pw) env0
noncomputable def dr0 : Drawn := ⟨0, 0, 0, 0⟩
noncomputable def ks (P : Params) (s : String) (t : Tok) (v : Value) : DictEntry := ⟨PyData.keyHash P (Str.ofString s), .str (Str.ofString s) t, v⟩
noncomputable def sv (s : String) (t : Tok) : Value := .str (Str.ofString s) t
noncomputable def o0_0 (P : Params) : Obj := ⟨.type "dict", none, .dict #[ks P "__name__" 1 (sv "builtins" 160), ks P "__doc__" 2 (.builtin "builtins.__doc__:str#opaque"), ks P "__package__" 3 (.builtin "builtins.__package__:str#opaque"), ks P "__loader__" 4 (.builtin "builtins.__loader__:shared#opaque"), ks P "__spec__" 5 (.builtin "builtins.__spec__#opaque"), ks P "__build_class__" 6 (.builtin "__build_class__"), ks P "__import__" 7 (.builtin "__import__"), ks P "abs" 8 (.builtin "abs"), ks P "all" 9 (.builtin "all"), ks P "any" 10 (.builtin "any"), ks P "ascii" 11 (.builtin "ascii"), ks P "bin" 12 (.builtin "bin"), ks P "breakpoint" 13 (.builtin "breakpoint"), ks P "callable" 14 (.builtin "callable"), ks P "chr" 15 (.builtin "chr"), ks P "compile" 16 (.builtin "compile"), ks P "delattr" 17 (.builtin "delattr"), ks P "dir" 18 (.builtin "dir"), ks P "divmod" 19 (.builtin "divmod"), ks P "eval" 20 (.builtin "eval"), ks P "exec" 21 (.builtin "exec"), ks P "format" 22 (.builtin "format"), ks P "getattr" 23 (.builtin "getattr"), ks P "globals" 24 (.builtin "globals"), ks P "hasattr" 25 (.builtin "hasattr"), ks P "hash" 26 (.builtin "hash"), ks P "hex" 27 (.builtin "hex"), ks P "id" 28 (.builtin "id"), ks P "input" 29 (.builtin "input"), ks P "isinstance" 30 (.builtin "isinstance"), ks P "issubclass" 31 (.builtin "issubclass"), ks P "iter" 32 (.builtin "iter"), ks P "aiter" 33 (.builtin "aiter"), ks P "len" 34 (.builtin "len"), ks P "locals" 35 (.builtin "locals"), ks P "max" 36 (.builtin "max"), ks P "min" 37 (.builtin "min"), ks P "next" 38 (.builtin "next"), ks P "anext" 39 (.builtin "anext"), ks P "oct" 40 (.builtin "oct"), ks P "ord" 41 (.builtin "ord"), ks P "pow" 42 (.builtin "pow"), ks P "print" 43 (.builtin "print"), ks P "repr" 44 (.builtin "repr"), ks P "round" 45 (.builtin "round"), ks P "setattr" 46 (.builtin "setattr"), ks P "sorted" 47 (.builtin "sorted"), ks P "sum" 48 (.builtin "sum"), ks P "vars" 49 (.builtin "vars"), ks P "None" 50 .none, ks P "Ellipsis" 51 .ellipsis, ks P "NotImplemented" 52 .notImplemented, ks P "False" 53 (.bool false), ks P "True" 54 (.bool true), ks P "bool" 55 (.type "bool"), ks P "memoryview" 56 (.type "memoryview"), ks P "bytearray" 57 (.type "bytearray"), ks P "bytes" 58 (.type "bytes"), ks P "classmethod" 59 (.type "classmethod"), ks P "complex" 60 (.type "complex"), ks P "dict" 61 (.type "dict"), ks P "enumerate" 62 (.type "enumerate"), ks P "filter" 63 (.type "filter"), ks P "float" 64 (.type "float"), ks P "frozenset" 65 (.type "frozenset"), ks P "property" 66 (.type "property"), ks P "int" 67 (.type "int"), ks P "list" 68 (.type "list"), ks P "map" 69 (.type "map"), ks P "object" 70 (.type "object"), ks P "range" 71 (.type "range"), ks P "reversed" 72 (.type "reversed"), ks P "set" 73 (.type "set"), ks P "slice" 74 (.type "slice"), ks P "staticmethod" 75 (.type "staticmethod"), ks P "str" 76 (.type "str"), ks P "super" 77 (.type "super"), ks P "tuple" 78 (.type "tuple"), ks P "type" 79 (.type "type"), ks P "zip" 80 (.type "zip"), ks P "__debug__" 81 (.bool true), ks P "BaseException" 82 (.type "BaseException"), ks P "BaseExceptionGroup" 83 (.type "BaseExceptionGroup"), ks P "Exception" 84 (.type "Exception"), ks P "GeneratorExit" 85 (.type "GeneratorExit"), ks P "KeyboardInterrupt" 86 (.type "KeyboardInterrupt"), ks P "SystemExit" 87 (.type "SystemExit"), ks P "ArithmeticError" 88 (.type "ArithmeticError"), ks P "AssertionError" 89 (.type "AssertionError"), ks P "AttributeError" 90 (.type "AttributeError"), ks P "BufferError" 91 (.type "BufferError"), ks P "EOFError" 92 (.type "EOFError"), ks P "ImportError" 93 (.type "ImportError"), ks P "LookupError" 94 (.type "LookupError"), ks P "MemoryError" 95 (.type "MemoryError"), ks P "NameError" 96 (.type "NameError"), ks P "OSError" 97 (.type "OSError"), ks P "ReferenceError" 98 (.type "ReferenceError"), ks P "RuntimeError" 99 (.type "RuntimeError"), ks P "StopAsyncIteration" 100 (.type "StopAsyncIteration"), ks P "StopIteration" 101 (.type "StopIteration"), ks P "SyntaxError" 102 (.type "SyntaxError"), ks P "SystemError" 103 (.type "SystemError"), ks P "TypeError" 104 (.type "TypeError"), ks P "ValueError" 105 (.type "ValueError"), ks P "Warning" 106 (.type "Warning"), ks P "FloatingPointError" 107 (.type "FloatingPointError"), ks P "OverflowError" 108 (.type "OverflowError"), ks P "ZeroDivisionError" 109 (.type "ZeroDivisionError"), ks P "BytesWarning" 110 (.type "BytesWarning"), ks P "DeprecationWarning" 111 (.type "DeprecationWarning"), ks P "EncodingWarning" 112 (.type "EncodingWarning"), ks P "FutureWarning" 113 (.type "FutureWarning"), ks P "ImportWarning" 114 (.type "ImportWarning"), ks P "PendingDeprecationWarning" 115 (.type "PendingDeprecationWarning"), ks P "ResourceWarning" 116 (.type "ResourceWarning"), ks P "RuntimeWarning" 117 (.type "RuntimeWarning"), ks P "SyntaxWarning" 118 (.type "SyntaxWarning"), ks P "UnicodeWarning" 119 (.type "UnicodeWarning"), ks P "UserWarning" 120 (.type "UserWarning"), ks P "BlockingIOError" 121 (.type "BlockingIOError"), ks P "ChildProcessError" 122 (.type "ChildProcessError"), ks P "ConnectionError" 123 (.type "ConnectionError"), ks P "FileExistsError" 124 (.type "FileExistsError"), ks P "FileNotFoundError" 125 (.type "FileNotFoundError"), ks P "InterruptedError" 126 (.type "InterruptedError"), ks P "IsADirectoryError" 127 (.type "IsADirectoryError"), ks P "NotADirectoryError" 128 (.type "NotADirectoryError"), ks P "PermissionError" 129 (.type "PermissionError"), ks P "ProcessLookupError" 130 (.type "ProcessLookupError"), ks P "TimeoutError" 131 (.type "TimeoutError"), ks P "IndentationError" 132 (.type "IndentationError"), ks P "_IncompleteInputError" 133 (.type "_IncompleteInputError"), ks P "IndexError" 134 (.type "IndexError"), ks P "KeyError" 135 (.type "KeyError"), ks P "ModuleNotFoundError" 136 (.type "ModuleNotFoundError"), ks P "NotImplementedError" 137 (.type "NotImplementedError"), ks P "PythonFinalizationError" 138 (.type "PythonFinalizationError"), ks P "RecursionError" 139 (.type "RecursionError"), ks P "UnboundLocalError" 140 (.type "UnboundLocalError"), ks P "UnicodeError" 141 (.type "UnicodeError"), ks P "BrokenPipeError" 142 (.type "BrokenPipeError"), ks P "ConnectionAbortedError" 143 (.type "ConnectionAbortedError"), ks P "ConnectionRefusedError" 144 (.type "ConnectionRefusedError"), ks P "ConnectionResetError" 145 (.type "ConnectionResetError"), ks P "TabError" 146 (.type "TabError"), ks P "UnicodeDecodeError" 147 (.type "UnicodeDecodeError"), ks P "UnicodeEncodeError" 148 (.type "UnicodeEncodeError"), ks P "UnicodeTranslateError" 149 (.type "UnicodeTranslateError"), ks P "ExceptionGroup" 150 (.type "ExceptionGroup"), ks P "EnvironmentError" 151 (.type "OSError"), ks P "IOError" 152 (.type "OSError"), ks P "open" 153 (.builtin "open"), ks P "quit" 154 (.builtin "builtins.quit#opaque"), ks P "exit" 155 (.builtin "builtins.exit#opaque"), ks P "copyright" 156 (.builtin "builtins.copyright#opaque"), ks P "credits" 157 (.builtin "builtins.credits#opaque"), ks P "license" 158 (.builtin "builtins.license#opaque"), ks P "help" 159 (.builtin "builtins.help#opaque")] 159, #[]⟩
noncomputable def o1_0 (P : Params) : Obj := ⟨.type "dict", none, .dict #[ks P "builtins" 162 (.ref 4), ks P "__main__" 163 (.ref 5), ks P "_sre" 244 (.ref 12)] 3, #[]⟩
noncomputable def o2_0 (P : Params) : Obj := ⟨.none, none, .dict #[ks P "\x69mport.loaded._sre" 183 (.bool true), ks P "class._frozen_importlib.BuiltinImporter" 185 (.ref 14), ks P "watched.\x69mport" 206 (.ref 18), ks P "class._frozen_importlib.ModuleSpec" 216 (.ref 22), ks P "sys.modules.booked-epoch" 245 (.int 3 0), ks P "\x69mport.later-laid._sre" 270 (.bool true), ks P "watched.library" 272 (.ref 27), ks P "watched.library-objects" 0 (sv "\x0c" 0), ks P "watched.library-deep._sre" 273 (sv "\x04\x00\x00\x0b\x04\x00\x00\x0b\x04\x00\x00\x03\x04\x00\x00\x0b\x08\x04dict\x02" 0)] 9, #[]⟩
noncomputable def o3_0 (P : Params) : Obj := ⟨.type "dict", none, .dict #[ks P "__name__" 165 (sv "__main__" 164), ks P "__doc__" 166 .none, ks P "__package__" 167 .none, ks P "__loader__" 168 (.builtin "__main__.__loader__#opaque"), ks P "__spec__" 169 .none, ks P "__annotations__" 170 (.ref 6), ks P "__builtins__" 171 (.ref 4), ks P "__file__" 173 (sv "/claim/cut.py" 172), ks P "__cached__" 174 .none, ks P "_sre" 275 (.ref 12)] 10, #[]⟩
noncomputable def o4_0 (P : Params) : Obj := { cls := (.type "module"), dict := (some 0), data := .plain, slots := #[] }
noncomputable def o5_0 (P : Params) : Obj := { cls := (.type "module"), dict := (some 3), data := .plain, slots := #[] }
noncomputable def o6_0 (P : Params) : Obj := ⟨.type "dict", none, .dict #[] 0, #[]⟩
noncomputable def o7_0 (P : Params) : Obj := ⟨.type "tuple", none, .seq #[] 0, #[]⟩
noncomputable def o8_0 (P : Params) : Obj := ⟨.none, none, .fields #[], #[]⟩
noncomputable def o9_0 (P : Params) : Obj := ⟨.type "code", none, .fields #[(sv "<module>" 176), (sv "<module>" 177), (sv "/claim/cut.py" 178), (.int 1 0), (.int 0 0), (.int 0 0), (.int 0 0), (.int 0 0), (.ref 7), (.bool false), (.int 175 0), (.ref 8), .none, .none, .none, .none, (.int 179 0), (.int 1 0), (sv "/claim/cut.py" 180)], #[]⟩
noncomputable def o10_0 (P : Params) : Obj := { cls := (.type "frame"), dict := none, data := .plain, slots := #[(some (.ref 9)), (some (.ref 3)), (some (.ref 3)), none, (some (sv "__main__" 164)), none, (some (.ref 0))] }
noncomputable def o11_0 (P : Params) : Obj := ⟨.type "dict", none, .dict #[ks P "__name__" 247 (sv "_sre" 246), ks P "__doc__" 248 .none, ks P "__package__" 250 (sv "" 249), ks P "__loader__" 251 (.builtin "off-the-table:_sre.__loader__:shared#opaque"), ks P "__spec__" 252 (.builtin "off-the-table:_sre.__spec__:shared#opaque"), ks P "compile" 253 (.builtin "_sre.compile"), ks P "template" 254 (.builtin "off-the-table:_sre.template:shared#opaque"), ks P "getcodesize" 255 (.builtin "off-the-table:_sre.getcodesize:shared#opaque"), ks P "ascii_iscased" 256 (.builtin "off-the-table:_sre.ascii_iscased:shared#opaque"), ks P "unicode_iscased" 257 (.builtin "off-the-table:_sre.unicode_iscased:shared#opaque"), ks P "ascii_tolower" 258 (.builtin "off-the-table:_sre.ascii_tolower:shared#opaque"), ks P "unicode_tolower" 259 (.builtin "off-the-table:_sre.unicode_tolower:shared#opaque"), ks P "MAGIC" 261 (.int 20230612 260), ks P "CODESIZE" 263 (.int 4 262), ks P "MAXREPEAT" 265 (.int 4294967295 264), ks P "MAXGROUPS" 267 (.int 1073741823 266), ks P "copyright" 269 (sv " SRE 2.2.2 Copyright (c) 1997-2002 by Secret Labs AB " 268)] 17, #[]⟩
noncomputable def o12_0 (P : Params) : Obj := { cls := (.type "module"), dict := (some 11), data := .plain, slots := #[] }
noncomputable def o13_0 (P : Params) : Obj := ⟨.type "dict", none, .dict #[ks P "__module__" 189 (sv "_frozen_importlib" 186), ks P "__firstlineno__" 190 (.int 971 187), ks P "__doc__" 191 (.builtin "_frozen_importlib.BuiltinImporter.__doc__:str#opaque"), ks P "_ORIGIN" 192 (sv "built-in" 188), ks P "find_spec" 193 (.builtin "_frozen_importlib.BuiltinImporter.find_spec#opaque"), ks P "create_module" 194 (.builtin "_frozen_importlib.BuiltinImporter.create_module#opaque"), ks P "exec_module" 195 (.builtin "_frozen_importlib.BuiltinImporter.exec_module#opaque"), ks P "get_code" 196 (.builtin "_frozen_importlib.BuiltinImporter.get_code#opaque"), ks P "get_source" 197 (.builtin "_frozen_importlib.BuiltinImporter.get_source#opaque"), ks P "is_package" 198 (.builtin "_frozen_importlib.BuiltinImporter.is_package#opaque"), ks P "load_module" 199 (.builtin "_frozen_importlib.BuiltinImporter.load_module#opaque"), ks P "__static_attributes__" 200 (.ref 15), ks P "__dict__" 202 (.ref 16), ks P "__weakref__" 204 (.ref 17)] 14, #[]⟩
noncomputable def o14_0 (P : Params) : Obj := ⟨.type "type", none, .cls { name := "BuiltinImporter", bases := [(.type "object")], mro := [(.ref 14), (.type "object")], ns := 13, qualname := "BuiltinImporter", hasDict := true, slotNames := [], subclasses := [], abstract := false, collection := none, hasDel := false }, #[]⟩
noncomputable def o15_0 (P : Params) : Obj := ⟨.type "tuple", none, .seq #[] 0, #[]⟩
noncomputable def o16_0 (P : Params) : Obj := ⟨.type "getset_descriptor", none, .fields #[(sv "__dict__" 201), (.ref 14), (.builtin "function.__dict__"), (.builtin "function.__dict__#set")], #[]⟩
noncomputable def o17_0 (P : Params) : Obj := ⟨.type "getset_descriptor", none, .fields #[(sv "__weakref__" 203), (.ref 14), (.builtin "ExceptionGroup.__weakref__"), .none], #[]⟩
noncomputable def o18_0 (P : Params) : Obj := ⟨.none, none, .seq #[(.int 13 0), (sv "\x06\u00bd\x0a__module__\x06\u00ba\x11_frozen_importlib\x06\u00be\x0f__firstlineno__\x04\u00bb\x00\u03cb\x06\u00bf\x07__doc__\x094_frozen_importlib.BuiltinImporter.__doc__:str#opaque\x06\u00c0\x07_ORIGIN\x06\u00bc\x08built-in\x06\u00c1\x09find_spec\x092_frozen_importlib.BuiltinImporter.find_spec#opaque\x06\u00c2\x0dcreate_module\x096_frozen_importlib.BuiltinImporter.create_module#opaque\x06\u00c3\x0bexec_module\x094_frozen_importlib.BuiltinImporter.exec_module#opaque\x06\u00c4\x08get_code\x091_frozen_importlib.BuiltinImporter.get_code#opaque\x06\u00c5\x0aget_source\x093_frozen_importlib.BuiltinImporter.get_source#opaque\x06\u00c6\x0ais_package\x093_frozen_importlib.BuiltinImporter.is_package#opaque\x06\u00c7\x0bload_module\x094_frozen_importlib.BuiltinImporter.load_module#opaque\x06\u00c8\x15__static_attributes__\x04\x00\x00\x0f\x06\u00ca\x08__dict__\x04\x00\x00\x10\x06\u00cc\x0b__weakref__\x04\x00\x00\x11" 0), (.bool true), (.bool true), (sv "" 205), (.int 21 0), (sv "\x06\u00e3\x0a__module__\x06\u00d9\x11_frozen_importlib\x06\u00e4\x0f__firstlineno__\x04\u00da\x00\u0232\x06\u00e5\x07__doc__\x09/_frozen_importlib.ModuleSpec.__doc__:str#opaque\x06\u00e6\x08__init__\x09,_frozen_importlib.ModuleSpec.__init__#opaque\x06\u00e7\x08__repr__\x09,_frozen_importlib.ModuleSpec.__repr__#opaque\x06\u00e8\x06__eq__\x09*_frozen_importlib.ModuleSpec.__eq__#opaque\x06\u00e9\x06cached\x09*_frozen_importlib.ModuleSpec.cached#opaque\x06\u00ea\x06parent\x09*_frozen_importlib.ModuleSpec.parent#opaque\x06\u00eb\x0chas_location\x090_frozen_importlib.ModuleSpec.has_location#opaque\x06\u00ec\x15__static_attributes__\x04\x00\x00\x17\x06\u00ee\x08__dict__\x04\x00\x00\x18\x06\u00f0\x0b__weakref__\x04\x00\x00\x19\x06\u00f1\x08__hash__\x00" 0), (.bool true), (.bool true), (sv "" 242)] 1, #[]⟩
noncomputable def o19_0 (P : Params) : Obj := ⟨.type "list", none, .seq #[] 0, #[]⟩
noncomputable def o20_0 (P : Params) : Obj := ⟨.type "dict", none, .dict #[ks P "name" 208 (sv "_sre" 207), ks P "loader" 209 (.ref 14), ks P "origin" 210 (sv "built-in" 184), ks P "loader_state" 211 .none, ks P "submodule_search_locations" 212 .none, ks P "_uninitialized_submodules" 213 (.ref 19), ks P "_set_fileattr" 214 (.bool false), ks P "_cached" 215 .none, ks P "_initializing" 243 (.bool false)] 9, #[]⟩
noncomputable def o21_0 (P : Params) : Obj := ⟨.type "dict", none, .dict #[ks P "__module__" 227 (sv "_frozen_importlib" 217), ks P "__firstlineno__" 228 (.int 562 218), ks P "__doc__" 229 (.builtin "_frozen_importlib.ModuleSpec.__doc__:str#opaque"), ks P "__init__" 230 (.builtin "_frozen_importlib.ModuleSpec.__init__#opaque"), ks P "__repr__" 231 (.builtin "_frozen_importlib.ModuleSpec.__repr__#opaque"), ks P "__eq__" 232 (.builtin "_frozen_importlib.ModuleSpec.__eq__#opaque"), ks P "cached" 233 (.builtin "_frozen_importlib.ModuleSpec.cached#opaque"), ks P "parent" 234 (.builtin "_frozen_importlib.ModuleSpec.parent#opaque"), ks P "has_location" 235 (.builtin "_frozen_importlib.ModuleSpec.has_location#opaque"), ks P "__static_attributes__" 236 (.ref 23), ks P "__dict__" 238 (.ref 24), ks P "__weakref__" 240 (.ref 25), ks P "__hash__" 241 .none] 13, #[]⟩
noncomputable def o22_0 (P : Params) : Obj := ⟨.type "type", none, .cls { name := "ModuleSpec", bases := [(.type "object")], mro := [(.ref 22), (.type "object")], ns := 21, qualname := "ModuleSpec", hasDict := true, slotNames := [], subclasses := [], abstract := false, collection := none, hasDel := false }, #[]⟩
noncomputable def o23_0 (P : Params) : Obj := ⟨.type "tuple", none, .seq #[(sv "_cached" 219), (sv "_set_fileattr" 220), (sv "_uninitialized_submodules" 221), (sv "loader" 222), (sv "loader_state" 223), (sv "name" 224), (sv "origin" 225), (sv "submodule_search_locations" 226)] 0, #[]⟩
noncomputable def o24_0 (P : Params) : Obj := ⟨.type "getset_descriptor", none, .fields #[(sv "__dict__" 237), (.ref 22), (.builtin "function.__dict__"), (.builtin "function.__dict__#set")], #[]⟩
noncomputable def o25_0 (P : Params) : Obj := ⟨.type "getset_descriptor", none, .fields #[(sv "__weakref__" 239), (.ref 22), (.builtin "ExceptionGroup.__weakref__"), .none], #[]⟩
noncomputable def o26_0 (P : Params) : Obj := { cls := (.ref 22), dict := (some 20), data := .plain, slots := #[] }
noncomputable def o27_0 (P : Params) : Obj := ⟨.none, none, .seq #[(.int 11 0), (.str (Str.mk #[6, 247, 8, 95, 95, 110, 97, 109, 101, 95, 95, 6, 246, 4, 95, 115, 114, 101, 6, 248, 7, 95, 95, 100, 111, 99, 95, 95, 0, 6, 250, 11, 95, 95, 112, 97, 99, 107, 97, 103, 101, 95, 95, 6, 249, 0, 6, 251, 10, 95, 95, 108, 111, 97, 100, 101, 114, 95, 95, 4, 0, 0, 14, 6, 252, 8, 95, 95, 115, 112, 101, 99, 95, 95, 4, 0, 0, 26, 6, 253, 7, 99, 111, 109, 112, 105, 108, 101, 9, 12, 95, 115, 114, 101, 46, 99, 111, 109, 112, 105, 108, 101, 6, 254, 8, 116, 101, 109, 112, 108, 97, 116, 101, 9, 13, 95, 115, 114, 101, 46, 116, 101, 109, 112, 108, 97, 116, 101, 6, 255, 11, 103, 101, 116, 99, 111, 100, 101, 115, 105, 122, 101, 9, 16, 95, 115, 114, 101, 46, 103, 101, 116, 99, 111, 100, 101, 115, 105, 122, 101, 6, 256, 13, 97, 115, 99, 105, 105, 95, 105, 115, 99, 97, 115, 101, 100, 9, 18, 95, 115, 114, 101, 46, 97, 115, 99, 105, 105, 95, 105, 115, 99, 97, 115, 101, 100, 6, 257, 15, 117, 110, 105, 99, 111, 100, 101, 95, 105, 115, 99, 97, 115, 101, 100, 9, 20, 95, 115, 114, 101, 46, 117, 110, 105, 99, 111, 100, 101, 95, 105, 115, 99, 97, 115, 101, 100, 6, 258, 13, 97, 115, 99, 105, 105, 95, 116, 111, 108, 111, 119, 101, 114, 9, 18, 95, 115, 114, 101, 46, 97, 115, 99, 105, 105, 95, 116, 111, 108, 111, 119, 101, 114, 6, 259, 15, 117, 110, 105, 99, 111, 100, 101, 95, 116, 111, 108, 111, 119, 101, 114, 9, 20, 95, 115, 114, 101, 46, 117, 110, 105, 99, 111, 100, 101, 95, 116, 111, 108, 111, 119, 101, 114, 6, 261, 5, 77, 65, 71, 73, 67, 4, 260, 0, 20230612, 6, 263, 8, 67, 79, 68, 69, 83, 73, 90, 69, 4, 262, 0, 4, 6, 265, 9, 77, 65, 88, 82, 69, 80, 69, 65, 84, 4, 264, 0, 4294967295, 6, 267, 9, 77, 65, 88, 71, 82, 79, 85, 80, 83, 4, 266, 0, 1073741823, 6, 269, 9, 99, 111, 112, 121, 114, 105, 103, 104, 116, 6, 268, 53, 32, 83, 82, 69, 32, 50, 46, 50, 46, 50, 32, 67, 111, 112, 121, 114, 105, 103, 104, 116, 32, 40, 99, 41, 32, 49, 57, 57, 55, 45, 50, 48, 48, 50, 32, 98, 121, 32, 83, 101, 99, 114, 101, 116, 32, 76, 97, 98, 115, 32, 65, 66, 32]) 0), (.bool true), (.bool false), (sv "_sre" 271)] 0, #[]⟩
noncomputable def H0 (P : Params) : Heap := ⟨#[o0_0 P, o1_0 P, o2_0 P, o3_0 P, o4_0 P, o5_0 P, o6_0 P, o7_0 P, o8_0 P, o9_0 P, o10_0 P, o11_0 P, o12_0 P, o13_0 P, o14_0 P, o15_0 P, o16_0 P, o17_0 P, o18_0 P, o19_0 P, o20_0 P, o21_0 P, o22_0 P, o23_0 P, o24_0 P, o25_0 P, o26_0 P, o27_0 P], life0⟩
noncomputable def o28_0 (P : Params) : Obj := ⟨.type "tuple", none, .seq #[] 0, #[]⟩
noncomputable def o29_0 (P : Params) : Obj := ⟨.none, none, .fields #[], #[]⟩
noncomputable def o30_0 (P : Params) : Obj := ⟨.type "code", none, .fields #[(sv "<module>" 277), (sv "<module>" 278), (sv "/claim/cut.py" 279), (.int 1 0), (.int 0 0), (.int 0 0), (.int 0 0), (.int 0 0), (.ref 28), (.bool false), (.int 276 0), (.ref 29), .none, .none, .none, .none, (.int 280 0), (.int 1 0), (sv "/claim/cut.py" 281)], #[]⟩
noncomputable def o31_0 (P : Params) : Obj := { cls := (.type "frame"), dict := none, data := .plain, slots := #[(some (.ref 30)), (some (.ref 3)), (some (.ref 3)), none, (some (sv "__main__" 164)), none, (some (.ref 0))] }
noncomputable def Ha (P : Params) : Heap := ⟨#[o0_0 P, o1_0 P, o2_0 P, o3_0 P, o4_0 P, o5_0 P, o6_0 P, o7_0 P, o8_0 P, o9_0 P, o10_0 P, o11_0 P, o12_0 P, o13_0 P, o14_0 P, o15_0 P, o16_0 P, o17_0 P, o18_0 P, o19_0 P, o20_0 P, o21_0 P, o22_0 P, o23_0 P, o24_0 P, o25_0 P, o26_0 P, o27_0 P, o28_0 P, o29_0 P, o30_0 P, o31_0 P], life0⟩
noncomputable def Hb (P : Params) : Heap := ⟨#[o0_0 P, o1_0 P, o2_0 P, o3_0 P, o4_0 P, o5_0 P, o6_0 P, o7_0 P, o8_0 P, o9_0 P, o10_0 P, o11_0 P, o12_0 P, o13_0 P, o14_0 P, o15_0 P, o16_0 P, o17_0 P, o18_0 P, o19_0 P, o20_0 P, o21_0 P, o22_0 P, o23_0 P, o24_0 P, o25_0 P, o26_0 P, o27_0 P, o28_0 P, o29_0 P, o30_0 P, o31_0 P], life0⟩
noncomputable def o3_1 (P : Params) : Obj := ⟨.type "dict", none, .dict #[ks P "__name__" 165 (sv "cpy313._pylong" 282), ks P "__doc__" 166 .none, ks P "__package__" 167 .none, ks P "__loader__" 168 (.builtin "__main__.__loader__#opaque"), ks P "__spec__" 169 .none, ks P "__annotations__" 170 (.ref 6), ks P "__builtins__" 171 (.ref 4), ks P "__file__" 173 (sv "/claim/cut.py" 172), ks P "__cached__" 174 .none, ks P "_sre" 275 (.ref 12), ks P "_DIV_LIMIT" 285 (.int 4000 284), ks P "_div2n1n" 302 (.ref 38), ks P "_div3n2n" 316 (.ref 45), ks P "_int2digits" 327 (.ref 52), ks P "_digits2int" 338 (.ref 59)] 15, #[]⟩
noncomputable def o29_1 (P : Params) : Obj := ⟨.none, none, .fields #[(.int 4 0), (.int 0 0), (.ref 37), (.int 20 0), (.int 0 0), (.ref 44), (.int 30 0), (.int 0 0), (.ref 51), (.int 46 0), (.int 0 0), (.ref 58)], #[]⟩
noncomputable def o32_0 (P : Params) : Obj := ⟨.type "tuple", none, .seq #[] 0, #[]⟩
noncomputable def o33_0 (P : Params) : Obj := ⟨.none, none, .fields #[], #[]⟩
noncomputable def o34_0 (P : Params) : Obj := ⟨.type "tuple", none, .seq #[(sv "a" 289), (sv "b" 290), (sv "n" 291), (sv "pad" 292), (sv "half_n" 293), (sv "mask" 294), (sv "b1" 295), (sv "b2" 296), (sv "q1" 297), (sv "r" 298), (sv "q2" 299)] 0, #[]⟩
noncomputable def o35_0 (P : Params) : Obj := ⟨.type "tuple", none, .seq #[] 0, #[]⟩
noncomputable def o36_0 (P : Params) : Obj := ⟨.none, none, .func { name := "_div2n1n", qualname := "_div2n1n", params := fdArgs (st 3), body := .stmts (fdBody (st 3)), scope := fdScope (st 3), globals := 0, closure := [], defaults := .none, kwdefaults := .none, doc := .none, pyModule := .none, annotations := none, code := .none, closureTuple := .none, builtins := 0 }, #[]⟩
noncomputable def o37_0 (P : Params) : Obj := ⟨.type "code", none, .fields #[(sv "_div2n1n" 286), (sv "_div2n1n" 287), (sv "/claim/cut.py" 288), (.int 4 0), (.int 3 0), (.int 0 0), (.int 0 0), (.int 3 0), (.ref 32), (.bool true), (.int 276 0), (.ref 33), .none, (.ref 34), (.ref 35), (.ref 36), (.int 300 0), (.int 4 0), (sv "/claim/cut.py" 301)], #[]⟩
noncomputable def o38_0 (P : Params) : Obj := ⟨.type "function", none, .func { name := "_div2n1n", qualname := "_div2n1n", params := fdArgs (st 3), body := .stmts (fdBody (st 3)), scope := fdScope (st 3), globals := 3, closure := [], defaults := .none, kwdefaults := .none, doc := .none, pyModule := (sv "cpy313._pylong" 282), annotations := none, code := (.ref 37), closureTuple := .none, builtins := 0 }, #[]⟩
noncomputable def o39_0 (P : Params) : Obj := ⟨.type "tuple", none, .seq #[] 0, #[]⟩
noncomputable def o40_0 (P : Params) : Obj := ⟨.none, none, .fields #[], #[]⟩
noncomputable def o41_0 (P : Params) : Obj := ⟨.type "tuple", none, .seq #[(sv "a12" 306), (sv "a3" 307), (sv "b" 308), (sv "b1" 309), (sv "b2" 310), (sv "n" 311), (sv "q" 312), (sv "r" 313)] 0, #[]⟩
noncomputable def o42_0 (P : Params) : Obj := ⟨.type "tuple", none, .seq #[] 0, #[]⟩
noncomputable def o43_0 (P : Params) : Obj := ⟨.none, none, .func { name := "_div3n2n", qualname := "_div3n2n", params := fdArgs (st 4), body := .stmts (fdBody (st 4)), scope := fdScope (st 4), globals := 0, closure := [], defaults := .none, kwdefaults := .none, doc := .none, pyModule := .none, annotations := none, code := .none, closureTuple := .none, builtins := 0 }, #[]⟩
noncomputable def o44_0 (P : Params) : Obj := ⟨.type "code", none, .fields #[(sv "_div3n2n" 303), (sv "_div3n2n" 304), (sv "/claim/cut.py" 305), (.int 20 0), (.int 6 0), (.int 0 0), (.int 0 0), (.int 3 0), (.ref 39), (.bool true), (.int 276 0), (.ref 40), .none, (.ref 41), (.ref 42), (.ref 43), (.int 314 0), (.int 20 0), (sv "/claim/cut.py" 315)], #[]⟩
noncomputable def o45_0 (P : Params) : Obj := ⟨.type "function", none, .func { name := "_div3n2n", qualname := "_div3n2n", params := fdArgs (st 4), body := .stmts (fdBody (st 4)), scope := fdScope (st 4), globals := 3, closure := [], defaults := .none, kwdefaults := .none, doc := .none, pyModule := (sv "cpy313._pylong" 282), annotations := none, code := (.ref 44), closureTuple := .none, builtins := 0 }, #[]⟩
noncomputable def o46_0 (P : Params) : Obj := ⟨.type "tuple", none, .seq #[] 0, #[]⟩
noncomputable def o47_0 (P : Params) : Obj := ⟨.none, none, .fields #[], #[]⟩
noncomputable def o48_0 (P : Params) : Obj := ⟨.type "tuple", none, .seq #[(sv "a" 320), (sv "n" 321)] 0, #[]⟩
noncomputable def o49_0 (P : Params) : Obj := ⟨.type "tuple", none, .seq #[(sv "n" 322), (sv "a_digits" 323), (sv "inner" 324)] 0, #[]⟩
noncomputable def o50_0 (P : Params) : Obj := ⟨.none, none, .func { name := "_int2digits", qualname := "_int2digits", params := fdArgs (st 5), body := .stmts (fdBody (st 5)), scope := fdScope (st 5), globals := 0, closure := [], defaults := .none, kwdefaults := .none, doc := .none, pyModule := .none, annotations := none, code := .none, closureTuple := .none, builtins := 0 }, #[]⟩
noncomputable def o51_0 (P : Params) : Obj := ⟨.type "code", none, .fields #[(sv "_int2digits" 317), (sv "_int2digits" 318), (sv "/claim/cut.py" 319), (.int 30 0), (.int 2 0), (.int 0 0), (.int 0 0), (.int 3 0), (.ref 46), (.bool true), (.int 276 0), (.ref 47), .none, (.ref 48), (.ref 49), (.ref 50), (.int 325 0), (.int 30 0), (sv "/claim/cut.py" 326)], #[]⟩
noncomputable def o52_0 (P : Params) : Obj := ⟨.type "function", none, .func { name := "_int2digits", qualname := "_int2digits", params := fdArgs (st 5), body := .stmts (fdBody (st 5)), scope := fdScope (st 5), globals := 3, closure := [], defaults := .none, kwdefaults := .none, doc := .none, pyModule := (sv "cpy313._pylong" 282), annotations := none, code := (.ref 51), closureTuple := .none, builtins := 0 }, #[]⟩
noncomputable def o53_0 (P : Params) : Obj := ⟨.type "tuple", none, .seq #[] 0, #[]⟩
noncomputable def o54_0 (P : Params) : Obj := ⟨.none, none, .fields #[], #[]⟩
noncomputable def o55_0 (P : Params) : Obj := ⟨.type "tuple", none, .seq #[(sv "digits" 331), (sv "n" 332)] 0, #[]⟩
noncomputable def o56_0 (P : Params) : Obj := ⟨.type "tuple", none, .seq #[(sv "digits" 333), (sv "n" 334), (sv "inner" 335)] 0, #[]⟩
noncomputable def o57_0 (P : Params) : Obj := ⟨.none, none, .func { name := "_digits2int", qualname := "_digits2int", params := fdArgs (st 6), body := .stmts (fdBody (st 6)), scope := fdScope (st 6), globals := 0, closure := [], defaults := .none, kwdefaults := .none, doc := .none, pyModule := .none, annotations := none, code := .none, closureTuple := .none, builtins := 0 }, #[]⟩
noncomputable def o58_0 (P : Params) : Obj := ⟨.type "code", none, .fields #[(sv "_digits2int" 328), (sv "_digits2int" 329), (sv "/claim/cut.py" 330), (.int 46 0), (.int 2 0), (.int 0 0), (.int 0 0), (.int 3 0), (.ref 53), (.bool true), (.int 276 0), (.ref 54), .none, (.ref 55), (.ref 56), (.ref 57), (.int 336 0), (.int 46 0), (sv "/claim/cut.py" 337)], #[]⟩
noncomputable def o59_0 (P : Params) : Obj := ⟨.type "function", none, .func { name := "_digits2int", qualname := "_digits2int", params := fdArgs (st 6), body := .stmts (fdBody (st 6)), scope := fdScope (st 6), globals := 3, closure := [], defaults := .none, kwdefaults := .none, doc := .none, pyModule := (sv "cpy313._pylong" 282), annotations := none, code := (.ref 58), closureTuple := .none, builtins := 0 }, #[]⟩
noncomputable def H6 (P : Params) : Heap := ⟨#[o0_0 P, o1_0 P, o2_0 P, o3_1 P, o4_0 P, o5_0 P, o6_0 P, o7_0 P, o8_0 P, o9_0 P, o10_0 P, o11_0 P, o12_0 P, o13_0 P, o14_0 P, o15_0 P, o16_0 P, o17_0 P, o18_0 P, o19_0 P, o20_0 P, o21_0 P, o22_0 P, o23_0 P, o24_0 P, o25_0 P, o26_0 P, o27_0 P, o28_0 P, o29_1 P, o30_0 P, o31_0 P, o32_0 P, o33_0 P, o34_0 P, o35_0 P, o36_0 P, o37_0 P, o38_0 P, o39_0 P, o40_0 P, o41_0 P, o42_0 P, o43_0 P, o44_0 P, o45_0 P, o46_0 P, o47_0 P, o48_0 P, o49_0 P, o50_0 P, o51_0 P, o52_0 P, o53_0 P, o54_0 P, o55_0 P, o56_0 P, o57_0 P, o58_0 P, o59_0 P], life0⟩
noncomputable def o3_2 (P : Params) : Obj := ⟨.type "dict", none, .dict #[ks P "__name__" 165 (sv "cpy313.bisect" 364), ks P "__doc__" 166 .none, ks P "__package__" 167 .none, ks P "__loader__" 168 (.builtin "__main__.__loader__#opaque"), ks P "__spec__" 169 .none, ks P "__annotations__" 170 (.ref 6), ks P "__builtins__" 171 (.ref 4), ks P "__file__" 173 (sv "/claim/cut.py" 172), ks P "__cached__" 174 .none, ks P "_sre" 275 (.ref 12), ks P "_DIV_LIMIT" 285 (.int 4000 284), ks P "_div2n1n" 302 (.ref 38), ks P "_div3n2n" 316 (.ref 45), ks P "_int2digits" 327 (.ref 52), ks P "_digits2int" 338 (.ref 59), ks P "_divmod_pos" 353 (.ref 66), ks P "int_divmod" 363 (.ref 73), ks P "insort_right" 378 (.ref 82), ks P "bisect_right" 392 (.ref 91), ks P "insort_left" 405 (.ref 100)] 20, #[]⟩
noncomputable def o29_2 (P : Params) : Obj := ⟨.none, none, .fields #[(.int 4 0), (.int 0 0), (.ref 37), (.int 20 0), (.int 0 0), (.ref 44), (.int 30 0), (.int 0 0), (.ref 51), (.int 46 0), (.int 0 0), (.ref 58), (.int 55 0), (.int 0 0), (.ref 65), (.int 66 0), (.int 0 0), (.ref 72), (.int 78 0), (.int 0 0), (.ref 81), (.int 84 0), (.int 0 0), (.ref 90), (.int 104 0), (.int 0 0), (.ref 99)], #[]⟩
noncomputable def o60_0 (P : Params) : Obj := ⟨.type "tuple", none, .seq #[] 0, #[]⟩
noncomputable def o61_0 (P : Params) : Obj := ⟨.none, none, .fields #[], #[]⟩
noncomputable def o62_0 (P : Params) : Obj := ⟨.type "tuple", none, .seq #[(sv "a" 342), (sv "b" 343), (sv "n" 344), (sv "a_digits" 345), (sv "r" 346), (sv "q_digits" 347), (sv "a_digit" 348), (sv "q_digit" 349), (sv "q" 350)] 0, #[]⟩
noncomputable def o63_0 (P : Params) : Obj := ⟨.type "tuple", none, .seq #[] 0, #[]⟩
noncomputable def o64_0 (P : Params) : Obj := ⟨.none, none, .func { name := "_divmod_pos", qualname := "_divmod_pos", params := fdArgs (st 7), body := .stmts (fdBody (st 7)), scope := fdScope (st 7), globals := 0, closure := [], defaults := .none, kwdefaults := .none, doc := .none, pyModule := .none, annotations := none, code := .none, closureTuple := .none, builtins := 0 }, #[]⟩
noncomputable def o65_0 (P : Params) : Obj := ⟨.type "code", none, .fields #[(sv "_divmod_pos" 339), (sv "_divmod_pos" 340), (sv "/claim/cut.py" 341), (.int 55 0), (.int 2 0), (.int 0 0), (.int 0 0), (.int 3 0), (.ref 60), (.bool true), (.int 276 0), (.ref 61), .none, (.ref 62), (.ref 63), (.ref 64), (.int 351 0), (.int 55 0), (sv "/claim/cut.py" 352)], #[]⟩
noncomputable def o66_0 (P : Params) : Obj := ⟨.type "function", none, .func { name := "_divmod_pos", qualname := "_divmod_pos", params := fdArgs (st 7), body := .stmts (fdBody (st 7)), scope := fdScope (st 7), globals := 3, closure := [], defaults := .none, kwdefaults := .none, doc := .none, pyModule := (sv "cpy313._pylong" 282), annotations := none, code := (.ref 65), closureTuple := .none, builtins := 0 }, #[]⟩
noncomputable def o67_0 (P : Params) : Obj := ⟨.type "tuple", none, .seq #[] 0, #[]⟩
noncomputable def o68_0 (P : Params) : Obj := ⟨.none, none, .fields #[], #[]⟩
noncomputable def o69_0 (P : Params) : Obj := ⟨.type "tuple", none, .seq #[(sv "a" 357), (sv "b" 358), (sv "q" 359), (sv "r" 360)] 0, #[]⟩
noncomputable def o70_0 (P : Params) : Obj := ⟨.type "tuple", none, .seq #[] 0, #[]⟩
noncomputable def o71_0 (P : Params) : Obj := ⟨.none, none, .func { name := "int_divmod", qualname := "int_divmod", params := fdArgs (st 8), body := .stmts (fdBody (st 8)), scope := fdScope (st 8), globals := 0, closure := [], defaults := .none, kwdefaults := .none, doc := .none, pyModule := .none, annotations := none, code := .none, closureTuple := .none, builtins := 0 }, #[]⟩
noncomputable def o72_0 (P : Params) : Obj := ⟨.type "code", none, .fields #[(sv "int_divmod" 354), (sv "int_divmod" 355), (sv "/claim/cut.py" 356), (.int 66 0), (.int 2 0), (.int 0 0), (.int 0 0), (.int 3 0), (.ref 67), (.bool true), (.int 276 0), (.ref 68), .none, (.ref 69), (.ref 70), (.ref 71), (.int 361 0), (.int 66 0), (sv "/claim/cut.py" 362)], #[]⟩
noncomputable def o73_0 (P : Params) : Obj := ⟨.type "function", none, .func { name := "int_divmod", qualname := "int_divmod", params := fdArgs (st 8), body := .stmts (fdBody (st 8)), scope := fdScope (st 8), globals := 3, closure := [], defaults := .none, kwdefaults := .none, doc := .none, pyModule := (sv "cpy313._pylong" 282), annotations := none, code := (.ref 72), closureTuple := .none, builtins := 0 }, #[]⟩
noncomputable def o74_0 (P : Params) : Obj := ⟨.type "tuple", none, .seq #[(.int 0 366), .none] 0, #[]⟩
noncomputable def o75_0 (P : Params) : Obj := ⟨.type "dict", none, .dict #[ks P "key" 367 .none] 1, #[]⟩
noncomputable def o76_0 (P : Params) : Obj := ⟨.type "tuple", none, .seq #[] 0, #[]⟩
noncomputable def o77_0 (P : Params) : Obj := ⟨.none, none, .fields #[], #[]⟩
noncomputable def o78_0 (P : Params) : Obj := ⟨.type "tuple", none, .seq #[(sv "a" 371), (sv "x" 372), (sv "lo" 373), (sv "hi" 374), (sv "key" 375)] 0, #[]⟩
noncomputable def o79_0 (P : Params) : Obj := ⟨.type "tuple", none, .seq #[] 0, #[]⟩
noncomputable def o80_0 (P : Params) : Obj := ⟨.none, none, .func { name := "insort_right", qualname := "insort_right", params := fdArgs (st 10), body := .stmts (fdBody (st 10)), scope := fdScope (st 10), globals := 0, closure := [], defaults := .none, kwdefaults := .none, doc := .none, pyModule := .none, annotations := none, code := .none, closureTuple := .none, builtins := 0 }, #[]⟩
noncomputable def o81_0 (P : Params) : Obj := ⟨.type "code", none, .fields #[(sv "insort_right" 368), (sv "insort_right" 369), (sv "/claim/cut.py" 370), (.int 78 0), (.int 4 0), (.int 0 0), (.int 1 0), (.int 3 0), (.ref 76), (.bool true), (.int 276 0), (.ref 77), .none, (.ref 78), (.ref 79), (.ref 80), (.int 376 0), (.int 78 0), (sv "/claim/cut.py" 377)], #[]⟩
noncomputable def o82_0 (P : Params) : Obj := ⟨.type "function", none, .func { name := "insort_right", qualname := "insort_right", params := fdArgs (st 10), body := .stmts (fdBody (st 10)), scope := fdScope (st 10), globals := 3, closure := [], defaults := (.ref 74), kwdefaults := (.ref 75), doc := .none, pyModule := (sv "cpy313.bisect" 364), annotations := none, code := (.ref 81), closureTuple := .none, builtins := 0 }, #[]⟩
noncomputable def o83_0 (P : Params) : Obj := ⟨.type "tuple", none, .seq #[(.int 0 379), .none] 0, #[]⟩
noncomputable def o84_0 (P : Params) : Obj := ⟨.type "dict", none, .dict #[ks P "key" 380 .none] 1, #[]⟩
noncomputable def o85_0 (P : Params) : Obj := ⟨.type "tuple", none, .seq #[] 0, #[]⟩
noncomputable def o86_0 (P : Params) : Obj := ⟨.none, none, .fields #[], #[]⟩
noncomputable def o87_0 (P : Params) : Obj := ⟨.type "tuple", none, .seq #[(sv "a" 384), (sv "x" 385), (sv "lo" 386), (sv "hi" 387), (sv "key" 388), (sv "mid" 389)] 0, #[]⟩
noncomputable def o88_0 (P : Params) : Obj := ⟨.type "tuple", none, .seq #[] 0, #[]⟩
noncomputable def o89_0 (P : Params) : Obj := ⟨.none, none, .func { name := "bisect_right", qualname := "bisect_right", params := fdArgs (st 11), body := .stmts (fdBody (st 11)), scope := fdScope (st 11), globals := 0, closure := [], defaults := .none, kwdefaults := .none, doc := .none, pyModule := .none, annotations := none, code := .none, closureTuple := .none, builtins := 0 }, #[]⟩
noncomputable def o90_0 (P : Params) : Obj := ⟨.type "code", none, .fields #[(sv "bisect_right" 381), (sv "bisect_right" 382), (sv "/claim/cut.py" 383), (.int 84 0), (.int 4 0), (.int 0 0), (.int 1 0), (.int 3 0), (.ref 85), (.bool true), (.int 276 0), (.ref 86), .none, (.ref 87), (.ref 88), (.ref 89), (.int 390 0), (.int 84 0), (sv "/claim/cut.py" 391)], #[]⟩
noncomputable def o91_0 (P : Params) : Obj := ⟨.type "function", none, .func { name := "bisect_right", qualname := "bisect_right", params := fdArgs (st 11), body := .stmts (fdBody (st 11)), scope := fdScope (st 11), globals := 3, closure := [], defaults := (.ref 83), kwdefaults := (.ref 84), doc := .none, pyModule := (sv "cpy313.bisect" 364), annotations := none, code := (.ref 90), closureTuple := .none, builtins := 0 }, #[]⟩
noncomputable def o92_0 (P : Params) : Obj := ⟨.type "tuple", none, .seq #[(.int 0 393), .none] 0, #[]⟩
noncomputable def o93_0 (P : Params) : Obj := ⟨.type "dict", none, .dict #[ks P "key" 394 .none] 1, #[]⟩
noncomputable def o94_0 (P : Params) : Obj := ⟨.type "tuple", none, .seq #[] 0, #[]⟩
noncomputable def o95_0 (P : Params) : Obj := ⟨.none, none, .fields #[], #[]⟩
noncomputable def o96_0 (P : Params) : Obj := ⟨.type "tuple", none, .seq #[(sv "a" 398), (sv "x" 399), (sv "lo" 400), (sv "hi" 401), (sv "key" 402)] 0, #[]⟩
noncomputable def o97_0 (P : Params) : Obj := ⟨.type "tuple", none, .seq #[] 0, #[]⟩
noncomputable def o98_0 (P : Params) : Obj := ⟨.none, none, .func { name := "insort_left", qualname := "insort_left", params := fdArgs (st 12), body := .stmts (fdBody (st 12)), scope := fdScope (st 12), globals := 0, closure := [], defaults := .none, kwdefaults := .none, doc := .none, pyModule := .none, annotations := none, code := .none, closureTuple := .none, builtins := 0 }, #[]⟩
noncomputable def o99_0 (P : Params) : Obj := ⟨.type "code", none, .fields #[(sv "insort_left" 395), (sv "insort_left" 396), (sv "/claim/cut.py" 397), (.int 104 0), (.int 4 0), (.int 0 0), (.int 1 0), (.int 3 0), (.ref 94), (.bool true), (.int 276 0), (.ref 95), .none, (.ref 96), (.ref 97), (.ref 98), (.int 403 0), (.int 104 0), (sv "/claim/cut.py" 404)], #[]⟩
noncomputable def o100_0 (P : Params) : Obj := ⟨.type "function", none, .func { name := "insort_left", qualname := "insort_left", params := fdArgs (st 12), body := .stmts (fdBody (st 12)), scope := fdScope (st 12), globals := 3, closure := [], defaults := (.ref 92), kwdefaults := (.ref 93), doc := .none, pyModule := (sv "cpy313.bisect" 364), annotations := none, code := (.ref 99), closureTuple := .none, builtins := 0 }, #[]⟩
noncomputable def H12 (P : Params) : Heap := ⟨#[o0_0 P, o1_0 P, o2_0 P, o3_2 P, o4_0 P, o5_0 P, o6_0 P, o7_0 P, o8_0 P, o9_0 P, o10_0 P, o11_0 P, o12_0 P, o13_0 P, o14_0 P, o15_0 P, o16_0 P, o17_0 P, o18_0 P, o19_0 P, o20_0 P, o21_0 P, o22_0 P, o23_0 P, o24_0 P, o25_0 P, o26_0 P, o27_0 P, o28_0 P, o29_2 P, o30_0 P, o31_0 P, o32_0 P, o33_0 P, o34_0 P, o35_0 P, o36_0 P, o37_0 P, o38_0 P, o39_0 P, o40_0 P, o41_0 P, o42_0 P, o43_0 P, o44_0 P, o45_0 P, o46_0 P, o47_0 P, o48_0 P, o49_0 P, o50_0 P, o51_0 P, o52_0 P, o53_0 P, o54_0 P, o55_0 P, o56_0 P, o57_0 P, o58_0 P, o59_0 P, o60_0 P, o61_0 P, o62_0 P, o63_0 P, o64_0 P, o65_0 P, o66_0 P, o67_0 P, o68_0 P, o69_0 P, o70_0 P, o71_0 P, o72_0 P, o73_0 P, o74_0 P, o75_0 P, o76_0 P, o77_0 P, o78_0 P, o79_0 P, o80_0 P, o81_0 P, o82_0 P, o83_0 P, o84_0 P, o85_0 P, o86_0 P, o87_0 P, o88_0 P, o89_0 P, o90_0 P, o91_0 P, o92_0 P, o93_0 P, o94_0 P, o95_0 P, o96_0 P, o97_0 P, o98_0 P, o99_0 P, o100_0 P], life0⟩
noncomputable def o3_3 (P : Params) : Obj := ⟨.type "dict", none, .dict #[ks P "__name__" 165 (sv "cpy313.stringprep" 489), ks P "__doc__" 166 .none, ks P "__package__" 167 .none, ks P "__loader__" 168 (.builtin "__main__.__loader__#opaque"), ks P "__spec__" 169 .none, ks P "__annotations__" 170 (.ref 6), ks P "__builtins__" 171 (.ref 4), ks P "__file__" 173 (sv "/claim/cut.py" 172), ks P "__cached__" 174 .none, ks P "_sre" 275 (.ref 12), ks P "_DIV_LIMIT" 285 (.int 4000 284), ks P "_div2n1n" 302 (.ref 38), ks P "_div3n2n" 316 (.ref 45), ks P "_int2digits" 327 (.ref 52), ks P "_digits2int" 338 (.ref 59), ks P "_divmod_pos" 353 (.ref 66), ks P "int_divmod" 363 (.ref 73), ks P "insort_right" 378 (.ref 82), ks P "bisect_right" 392 (.ref 91), ks P "insort_left" 405 (.ref 100), ks P "bisect_left" 419 (.ref 109), ks P "_twin_re_1" 437 (.ref 114), ks P "_twin_re_2" 479 (.ref 119), ks P "CRLF" 481 (sv "\x0d\x0a" 480), ks P "quotedata" 488 (.ref 126)] 25, #[]⟩
noncomputable def o29_3 (P : Params) : Obj := ⟨.none, none, .fields #[(.int 4 0), (.int 0 0), (.ref 37), (.int 20 0), (.int 0 0), (.ref 44), (.int 30 0), (.int 0 0), (.ref 51), (.int 46 0), (.int 0 0), (.ref 58), (.int 55 0), (.int 0 0), (.ref 65), (.int 66 0), (.int 0 0), (.ref 72), (.int 78 0), (.int 0 0), (.ref 81), (.int 84 0), (.int 0 0), (.ref 90), (.int 104 0), (.int 0 0), (.ref 99), (.int 110 0), (.int 0 0), (.ref 108), (.int 134 0), (.int 0 0), (.ref 125)], #[]⟩
noncomputable def o101_0 (P : Params) : Obj := ⟨.type "tuple", none, .seq #[(.int 0 406), .none] 0, #[]⟩
noncomputable def o102_0 (P : Params) : Obj := ⟨.type "dict", none, .dict #[ks P "key" 407 .none] 1, #[]⟩
noncomputable def o103_0 (P : Params) : Obj := ⟨.type "tuple", none, .seq #[] 0, #[]⟩
noncomputable def o104_0 (P : Params) : Obj := ⟨.none, none, .fields #[], #[]⟩
noncomputable def o105_0 (P : Params) : Obj := ⟨.type "tuple", none, .seq #[(sv "a" 411), (sv "x" 412), (sv "lo" 413), (sv "hi" 414), (sv "key" 415), (sv "mid" 416)] 0, #[]⟩
noncomputable def o106_0 (P : Params) : Obj := ⟨.type "tuple", none, .seq #[] 0, #[]⟩
noncomputable def o107_0 (P : Params) : Obj := ⟨.none, none, .func { name := "bisect_left", qualname := "bisect_left", params := fdArgs (st 13), body := .stmts (fdBody (st 13)), scope := fdScope (st 13), globals := 0, closure := [], defaults := .none, kwdefaults := .none, doc := .none, pyModule := .none, annotations := none, code := .none, closureTuple := .none, builtins := 0 }, #[]⟩
noncomputable def o108_0 (P : Params) : Obj := ⟨.type "code", none, .fields #[(sv "bisect_left" 408), (sv "bisect_left" 409), (sv "/claim/cut.py" 410), (.int 110 0), (.int 4 0), (.int 0 0), (.int 1 0), (.int 3 0), (.ref 103), (.bool true), (.int 276 0), (.ref 104), .none, (.ref 105), (.ref 106), (.ref 107), (.int 417 0), (.int 110 0), (sv "/claim/cut.py" 418)], #[]⟩
noncomputable def o109_0 (P : Params) : Obj := ⟨.type "function", none, .func { name := "bisect_left", qualname := "bisect_left", params := fdArgs (st 13), body := .stmts (fdBody (st 13)), scope := fdScope (st 13), globals := 3, closure := [], defaults := (.ref 101), kwdefaults := (.ref 102), doc := .none, pyModule := (sv "cpy313.bisect" 364), annotations := none, code := (.ref 108), closureTuple := .none, builtins := 0 }, #[]⟩
noncomputable def o110_0 (P : Params) : Obj := ⟨.type "list", none, .seq #[(.int 14 425), (.int 4 426), (.int 0 427), (.int 1 428), (.int 1 429), (.int 6 430), (.int 1 431), (.int 16 432), (.int 46 433), (.int 1 434)] 0, #[]⟩
noncomputable def o111_0 (P : Params) : Obj := ⟨.type "dict", none, .dict #[] 0, #[]⟩
noncomputable def o112_0 (P : Params) : Obj := ⟨.type "tuple", none, .seq #[.none] 0, #[]⟩
noncomputable def o113_0 (P : Params) : Obj := ⟨.type "tuple", none, .seq #[(.int 14 0), (.int 4 0), (.int 0 0), (.int 1 0), (.int 1 0), (.int 6 0), (.int 1 0), (.int 16 0), (.int 46 0), (.int 1 0)] 0, #[]⟩
noncomputable def o114_0 (P : Params) : Obj := ⟨.type "re.Pattern", none, .fields #[(sv "(?m)^\\." 423), (.int 40 436), (.int 0 0), .none, .none, (.ref 113), (.int 0 0)], #[]⟩
noncomputable def o115_0 (P : Params) : Obj := ⟨.type "list", none, .seq #[(.int 14 441), (.int 9 442), (.int 4 443), (.int 1 444), (.int 2 445), (.int 16 446), (.int 10 447), (.int 16 448), (.int 13 449), (.int 0 450), (.int 7 451), (.int 7 452), (.int 16 453), (.int 13 454), (.int 16 455), (.int 10 456), (.int 15 457), (.int 18 458), (.int 5 459), (.int 16 460), (.int 10 461), (.int 15 462), (.int 13 463), (.int 11 464), (.int 16 465), (.int 13 466), (.int 5 467), (.int 5 468), (.int 0 469), (.int 16 470), (.int 10 471), (.int 1 472), (.int 15 473), (.int 2 474), (.int 0 475), (.int 1 476)] 0, #[]⟩
noncomputable def o116_0 (P : Params) : Obj := ⟨.type "dict", none, .dict #[] 0, #[]⟩
noncomputable def o117_0 (P : Params) : Obj := ⟨.type "tuple", none, .seq #[.none] 0, #[]⟩
noncomputable def o118_0 (P : Params) : Obj := ⟨.type "tuple", none, .seq #[(.int 14 0), (.int 9 0), (.int 4 0), (.int 1 0), (.int 2 0), (.int 16 0), (.int 10 0), (.int 16 0), (.int 13 0), (.int 0 0), (.int 7 0), (.int 7 0), (.int 16 0), (.int 13 0), (.int 16 0), (.int 10 0), (.int 15 0), (.int 18 0), (.int 5 0), (.int 16 0), (.int 10 0), (.int 15 0), (.int 13 0), (.int 11 0), (.int 16 0), (.int 13 0), (.int 5 0), (.int 5 0), (.int 0 0), (.int 16 0), (.int 10 0), (.int 1 0), (.int 15 0), (.int 2 0), (.int 0 0), (.int 1 0)] 0, #[]⟩
noncomputable def o119_0 (P : Params) : Obj := ⟨.type "re.Pattern", none, .fields #[(sv "(?:\\r\\n|\\n|\\r(?!\\n))" 439), (.int 32 478), (.int 0 0), .none, .none, (.ref 118), (.int 0 0)], #[]⟩
noncomputable def o120_0 (P : Params) : Obj := ⟨.type "tuple", none, .seq #[] 0, #[]⟩
noncomputable def o121_0 (P : Params) : Obj := ⟨.none, none, .fields #[], #[]⟩
noncomputable def o122_0 (P : Params) : Obj := ⟨.type "tuple", none, .seq #[(sv "data" 485)] 0, #[]⟩
noncomputable def o123_0 (P : Params) : Obj := ⟨.type "tuple", none, .seq #[] 0, #[]⟩
noncomputable def o124_0 (P : Params) : Obj := ⟨.none, none, .func { name := "quotedata", qualname := "quotedata", params := fdArgs (st 18), body := .stmts (fdBody (st 18)), scope := fdScope (st 18), globals := 0, closure := [], defaults := .none, kwdefaults := .none, doc := .none, pyModule := .none, annotations := none, code := .none, closureTuple := .none, builtins := 0 }, #[]⟩
noncomputable def o125_0 (P : Params) : Obj := ⟨.type "code", none, .fields #[(sv "quotedata" 482), (sv "quotedata" 483), (sv "/claim/cut.py" 484), (.int 134 0), (.int 1 0), (.int 0 0), (.int 0 0), (.int 3 0), (.ref 120), (.bool true), (.int 276 0), (.ref 121), .none, (.ref 122), (.ref 123), (.ref 124), (.int 486 0), (.int 134 0), (sv "/claim/cut.py" 487)], #[]⟩
noncomputable def o126_0 (P : Params) : Obj := ⟨.type "function", none, .func { name := "quotedata", qualname := "quotedata", params := fdArgs (st 18), body := .stmts (fdBody (st 18)), scope := fdScope (st 18), globals := 3, closure := [], defaults := .none, kwdefaults := .none, doc := .none, pyModule := (sv "cpy313.smtplib" 420), annotations := none, code := (.ref 125), closureTuple := .none, builtins := 0 }, #[]⟩
noncomputable def H19 (P : Params) : Heap := ⟨#[o0_0 P, o1_0 P, o2_0 P, o3_3 P, o4_0 P, o5_0 P, o6_0 P, o7_0 P, o8_0 P, o9_0 P, o10_0 P, o11_0 P, o12_0 P, o13_0 P, o14_0 P, o15_0 P, o16_0 P, o17_0 P, o18_0 P, o19_0 P, o20_0 P, o21_0 P, o22_0 P, o23_0 P, o24_0 P, o25_0 P, o26_0 P, o27_0 P, o28_0 P, o29_3 P, o30_0 P, o31_0 P, o32_0 P, o33_0 P, o34_0 P, o35_0 P, o36_0 P, o37_0 P, o38_0 P, o39_0 P, o40_0 P, o41_0 P, o42_0 P, o43_0 P, o44_0 P, o45_0 P, o46_0 P, o47_0 P, o48_0 P, o49_0 P, o50_0 P, o51_0 P, o52_0 P, o53_0 P, o54_0 P, o55_0 P, o56_0 P, o57_0 P, o58_0 P, o59_0 P, o60_0 P, o61_0 P, o62_0 P, o63_0 P, o64_0 P, o65_0 P, o66_0 P, o67_0 P, o68_0 P, o69_0 P, o70_0 P, o71_0 P, o72_0 P, o73_0 P, o74_0 P, o75_0 P, o76_0 P, o77_0 P, o78_0 P, o79_0 P, o80_0 P, o81_0 P, o82_0 P, o83_0 P, o84_0 P, o85_0 P, o86_0 P, o87_0 P, o88_0 P, o89_0 P, o90_0 P, o91_0 P, o92_0 P, o93_0 P, o94_0 P, o95_0 P, o96_0 P, o97_0 P, o98_0 P, o99_0 P, o100_0 P, o101_0 P, o102_0 P, o103_0 P, o104_0 P, o105_0 P, o106_0 P, o107_0 P, o108_0 P, o109_0 P, o110_0 P, o111_0 P, o112_0 P, o113_0 P, o114_0 P, o115_0 P, o116_0 P, o117_0 P, o118_0 P, o119_0 P, o120_0 P, o121_0 P, o122_0 P, o123_0 P, o124_0 P, o125_0 P, o126_0 P], life0⟩
noncomputable def o3_4 (P : Params) : Obj := ⟨.type "dict", none, .dict #[ks P "__name__" 165 (sv "cpy313.stringprep" 489), ks P "__doc__" 166 .none, ks P "__package__" 167 .none, ks P "__loader__" 168 (.builtin "__main__.__loader__#opaque"), ks P "__spec__" 169 .none, ks P "__annotations__" 170 (.ref 6), ks P "__builtins__" 171 (.ref 4), ks P "__file__" 173 (sv "/claim/cut.py" 172), ks P "__cached__" 174 .none, ks P "_sre" 275 (.ref 12), ks P "_DIV_LIMIT" 285 (.int 4000 284), ks P "_div2n1n" 302 (.ref 38), ks P "_div3n2n" 316 (.ref 45), ks P "_int2digits" 327 (.ref 52), ks P "_digits2int" 338 (.ref 59), ks P "_divmod_pos" 353 (.ref 66), ks P "int_divmod" 363 (.ref 73), ks P "insort_right" 378 (.ref 82), ks P "bisect_right" 392 (.ref 91), ks P "insort_left" 405 (.ref 100), ks P "bisect_left" 419 (.ref 109), ks P "_twin_re_1" 437 (.ref 114), ks P "_twin_re_2" 479 (.ref 119), ks P "CRLF" 481 (sv "\x0d\x0a" 480), ks P "quotedata" 488 (.ref 126), ks P "b3_exceptions" 2441 (.ref 127)] 26, #[]⟩
noncomputable def H20 (P : Params) : Heap := ⟨#[o0_0 P, o1_0 P, o2_0 P, o3_4 P, o4_0 P, o5_0 P, o6_0 P, o7_0 P, o8_0 P, o9_0 P, o10_0 P, o11_0 P, o12_0 P, o13_0 P, o14_0 P, o15_0 P, o16_0 P, o17_0 P, o18_0 P, o19_0 P, o20_0 P, o21_0 P, o22_0 P, o23_0 P, o24_0 P, o25_0 P, o26_0 P, o27_0 P, o28_0 P, o29_3 P, o30_0 P, o31_0 P, o32_0 P, o33_0 P, o34_0 P, o35_0 P, o36_0 P, o37_0 P, o38_0 P, o39_0 P, o40_0 P, o41_0 P, o42_0 P, o43_0 P, o44_0 P, o45_0 P, o46_0 P, o47_0 P, o48_0 P, o49_0 P, o50_0 P, o51_0 P, o52_0 P, o53_0 P, o54_0 P, o55_0 P, o56_0 P, o57_0 P, o58_0 P, o59_0 P, o60_0 P, o61_0 P, o62_0 P, o63_0 P, o64_0 P, o65_0 P, o66_0 P, o67_0 P, o68_0 P, o69_0 P, o70_0 P, o71_0 P, o72_0 P, o73_0 P, o74_0 P, o75_0 P, o76_0 P, o77_0 P, o78_0 P, o79_0 P, o80_0 P, o81_0 P, o82_0 P, o83_0 P, o84_0 P, o85_0 P, o86_0 P, o87_0 P, o88_0 P, o89_0 P, o90_0 P, o91_0 P, o92_0 P, o93_0 P, o94_0 P, o95_0 P, o96_0 P, o97_0 P, o98_0 P, o99_0 P, o100_0 P, o101_0 P, o102_0 P, o103_0 P, o104_0 P, o105_0 P, o106_0 P, o107_0 P, o108_0 P, o109_0 P, o110_0 P, o111_0 P, o112_0 P, o113_0 P, o114_0 P, o115_0 P, o116_0 P, o117_0 P, o118_0 P, o119_0 P, o120_0 P, o121_0 P, o122_0 P, o123_0 P, o124_0 P, o125_0 P, o126_0 P, dObj 0, dObj 1, dObj 2, dObj 3, dObj 4, dObj 5, dObj 6, dObj 7, dObj 8, dObj 9, dObj 10, dObj 11, dObj 12, dObj 13, dObj 14, dObj 15, dObj 16, dObj 17, dObj 18, dObj 19, dObj 20, dObj 21, dObj 22, dObj 23, dObj 24, dObj 25, dObj 26, dObj 27, dObj 28, dObj 29, dObj 30, dObj 31, dObj 32, dObj 33, dObj 34, dObj 35, dObj 36, dObj 37, dObj 38], life0⟩
noncomputable def o3_5 (P : Params) : Obj := ⟨.type "dict", none, .dict #[ks P "__name__" 165 (sv "cpy313.stringprep" 489), ks P "__doc__" 166 .none, ks P "__package__" 167 .none, ks P "__loader__" 168 (.builtin "__main__.__loader__#opaque"), ks P "__spec__" 169 .none, ks P "__annotations__" 170 (.ref 6), ks P "__builtins__" 171 (.ref 4), ks P "__file__" 173 (sv "/claim/cut.py" 172), ks P "__cached__" 174 .none, ks P "_sre" 275 (.ref 12), ks P "_DIV_LIMIT" 285 (.int 4000 284), ks P "_div2n1n" 302 (.ref 38), ks P "_div3n2n" 316 (.ref 45), ks P "_int2digits" 327 (.ref 52), ks P "_digits2int" 338 (.ref 59), ks P "_divmod_pos" 353 (.ref 66), ks P "int_divmod" 363 (.ref 73), ks P "insort_right" 378 (.ref 82), ks P "bisect_right" 392 (.ref 91), ks P "insort_left" 405 (.ref 100), ks P "bisect_left" 419 (.ref 109), ks P "_twin_re_1" 437 (.ref 114), ks P "_twin_re_2" 479 (.ref 119), ks P "CRLF" 481 (sv "\x0d\x0a" 480), ks P "quotedata" 488 (.ref 126), ks P "b3_exceptions" 2441 (.ref 127), ks P "map_table_b3" 2449 (.ref 172)] 27, #[]⟩
noncomputable def o29_4 (P : Params) : Obj := ⟨.none, none, .fields #[(.int 4 0), (.int 0 0), (.ref 37), (.int 20 0), (.int 0 0), (.ref 44), (.int 30 0), (.int 0 0), (.ref 51), (.int 46 0), (.int 0 0), (.ref 58), (.int 55 0), (.int 0 0), (.ref 65), (.int 66 0), (.int 0 0), (.ref 72), (.int 78 0), (.int 0 0), (.ref 81), (.int 84 0), (.int 0 0), (.ref 90), (.int 104 0), (.int 0 0), (.ref 99), (.int 110 0), (.int 0 0), (.ref 108), (.int 134 0), (.int 0 0), (.ref 125), (.int 138 0), (.int 0 0), (.ref 171)], #[]⟩
noncomputable def o166_0 (P : Params) : Obj := ⟨.type "tuple", none, .seq #[] 0, #[]⟩
noncomputable def o167_0 (P : Params) : Obj := ⟨.none, none, .fields #[], #[]⟩
noncomputable def o168_0 (P : Params) : Obj := ⟨.type "tuple", none, .seq #[(sv "code" 2445), (sv "r" 2446)] 0, #[]⟩
noncomputable def o169_0 (P : Params) : Obj := ⟨.type "tuple", none, .seq #[] 0, #[]⟩
noncomputable def o170_0 (P : Params) : Obj := ⟨.none, none, .func { name := "map_table_b3", qualname := "map_table_b3", params := fdArgs (st 21), body := .stmts (fdBody (st 21)), scope := fdScope (st 21), globals := 0, closure := [], defaults := .none, kwdefaults := .none, doc := .none, pyModule := .none, annotations := none, code := .none, closureTuple := .none, builtins := 0 }, #[]⟩
noncomputable def o171_0 (P : Params) : Obj := ⟨.type "code", none, .fields #[(sv "map_table_b3" 2442), (sv "map_table_b3" 2443), (sv "/claim/cut.py" 2444), (.int 138 0), (.int 1 0), (.int 0 0), (.int 0 0), (.int 3 0), (.ref 166), (.bool true), (.int 276 0), (.ref 167), .none, (.ref 168), (.ref 169), (.ref 170), (.int 2447 0), (.int 138 0), (sv "/claim/cut.py" 2448)], #[]⟩
noncomputable def o172_0 (P : Params) : Obj := ⟨.type "function", none, .func { name := "map_table_b3", qualname := "map_table_b3", params := fdArgs (st 21), body := .stmts (fdBody (st 21)), scope := fdScope (st 21), globals := 3, closure := [], defaults := .none, kwdefaults := .none, doc := .none, pyModule := (sv "cpy313.stringprep" 489), annotations := none, code := (.ref 171), closureTuple := .none, builtins := 0 }, #[]⟩
noncomputable def H21 (P : Params) : Heap := ⟨#[o0_0 P, o1_0 P, o2_0 P, o3_5 P, o4_0 P, o5_0 P, o6_0 P, o7_0 P, o8_0 P, o9_0 P, o10_0 P, o11_0 P, o12_0 P, o13_0 P, o14_0 P, o15_0 P, o16_0 P, o17_0 P, o18_0 P, o19_0 P, o20_0 P, o21_0 P, o22_0 P, o23_0 P, o24_0 P, o25_0 P, o26_0 P, o27_0 P, o28_0 P, o29_4 P, o30_0 P, o31_0 P, o32_0 P, o33_0 P, o34_0 P, o35_0 P, o36_0 P, o37_0 P, o38_0 P, o39_0 P, o40_0 P, o41_0 P, o42_0 P, o43_0 P, o44_0 P, o45_0 P, o46_0 P, o47_0 P, o48_0 P, o49_0 P, o50_0 P, o51_0 P, o52_0 P, o53_0 P, o54_0 P, o55_0 P, o56_0 P, o57_0 P, o58_0 P, o59_0 P, o60_0 P, o61_0 P, o62_0 P, o63_0 P, o64_0 P, o65_0 P, o66_0 P, o67_0 P, o68_0 P, o69_0 P, o70_0 P, o71_0 P, o72_0 P, o73_0 P, o74_0 P, o75_0 P, o76_0 P, o77_0 P, o78_0 P, o79_0 P, o80_0 P, o81_0 P, o82_0 P, o83_0 P, o84_0 P, o85_0 P, o86_0 P, o87_0 P, o88_0 P, o89_0 P, o90_0 P, o91_0 P, o92_0 P, o93_0 P, o94_0 P, o95_0 P, o96_0 P, o97_0 P, o98_0 P, o99_0 P, o100_0 P, o101_0 P, o102_0 P, o103_0 P, o104_0 P, o105_0 P, o106_0 P, o107_0 P, o108_0 P, o109_0 P, o110_0 P, o111_0 P, o112_0 P, o113_0 P, o114_0 P, o115_0 P, o116_0 P, o117_0 P, o118_0 P, o119_0 P, o120_0 P, o121_0 P, o122_0 P, o123_0 P, o124_0 P, o125_0 P, o126_0 P, dObj 0, dObj 1, dObj 2, dObj 3, dObj 4, dObj 5, dObj 6, dObj 7, dObj 8, dObj 9, dObj 10, dObj 11, dObj 12, dObj 13, dObj 14, dObj 15, dObj 16, dObj 17, dObj 18, dObj 19, dObj 20, dObj 21, dObj 22, dObj 23, dObj 24, dObj 25, dObj 26, dObj 27, dObj 28, dObj 29, dObj 30, dObj 31, dObj 32, dObj 33, dObj 34, dObj 35, dObj 36, dObj 37, dObj 38, o166_0 P, o167_0 P, o168_0 P, o169_0 P, o170_0 P, o171_0 P, o172_0 P], life0⟩
noncomputable def o3_6 (P : Params) : Obj := ⟨.type "dict", none, .dict #[ks P "__name__" 165 (sv "cpy313.stringprep" 489), ks P "__doc__" 166 .none, ks P "__package__" 167 .none, ks P "__loader__" 168 (.builtin "__main__.__loader__#opaque"), ks P "__spec__" 169 .none, ks P "__annotations__" 170 (.ref 6), ks P "__builtins__" 171 (.ref 4), ks P "__file__" 173 (sv "/claim/cut.py" 172), ks P "__cached__" 174 .none, ks P "_sre" 275 (.ref 12), ks P "_DIV_LIMIT" 285 (.int 4000 284), ks P "_div2n1n" 302 (.ref 38), ks P "_div3n2n" 316 (.ref 45), ks P "_int2digits" 327 (.ref 52), ks P "_digits2int" 338 (.ref 59), ks P "_divmod_pos" 353 (.ref 66), ks P "int_divmod" 363 (.ref 73), ks P "insort_right" 378 (.ref 82), ks P "bisect_right" 392 (.ref 91), ks P "insort_left" 405 (.ref 100), ks P "bisect_left" 419 (.ref 109), ks P "_twin_re_1" 437 (.ref 114), ks P "_twin_re_2" 479 (.ref 119), ks P "CRLF" 481 (sv "\x0d\x0a" 480), ks P "quotedata" 488 (.ref 126), ks P "b3_exceptions" 2441 (.ref 127), ks P "map_table_b3" 2449 (.ref 172), ks P "c6_set" 2463 (.ref 174)] 28, #[]⟩
noncomputable def o173_0 (P : Params) : Obj := ⟨.type "range", none, .fields #[(.int 65529 2450), (.int 65534 2451), (.int 1 2452)], #[]⟩
noncomputable def o174_0 (P : Params) : Obj := ⟨.type "set", none, .set #[(65529, (.int 65529 2453)), (65530, (.int 65530 2455)), (65531, (.int 65531 2457)), (65532, (.int 65532 2459)), (65533, (.int 65533 2461))] 6 { mask := 31, place := #[25, 26, 27, 28, 29], dummies := #[], finger := 0, led := !(P.followText "set-order"), moves := 1, plain := true }, #[]⟩
noncomputable def o175_0 (P : Params) : Obj := ⟨.type "range_iterator", none, .fields #[(.int 65534 0), (.int 0 0), (.int 1 0)], #[]⟩
noncomputable def o176_0 (P : Params) : Obj := ⟨.type "tuple", none, .seq #[] 0, #[]⟩
noncomputable def o177_0 (P : Params) : Obj := ⟨.type "StopIteration", none, .fields #[(.ref 176), .none, .none, .none, (.bool false), .none], #[]⟩
noncomputable def H22 (P : Params) : Heap := ⟨#[o0_0 P, o1_0 P, o2_0 P, o3_6 P, o4_0 P, o5_0 P, o6_0 P, o7_0 P, o8_0 P, o9_0 P, o10_0 P, o11_0 P, o12_0 P, o13_0 P, o14_0 P, o15_0 P, o16_0 P, o17_0 P, o18_0 P, o19_0 P, o20_0 P, o21_0 P, o22_0 P, o23_0 P, o24_0 P, o25_0 P, o26_0 P, o27_0 P, o28_0 P, o29_4 P, o30_0 P, o31_0 P, o32_0 P, o33_0 P, o34_0 P, o35_0 P, o36_0 P, o37_0 P, o38_0 P, o39_0 P, o40_0 P, o41_0 P, o42_0 P, o43_0 P, o44_0 P, o45_0 P, o46_0 P, o47_0 P, o48_0 P, o49_0 P, o50_0 P, o51_0 P, o52_0 P, o53_0 P, o54_0 P, o55_0 P, o56_0 P, o57_0 P, o58_0 P, o59_0 P, o60_0 P, o61_0 P, o62_0 P, o63_0 P, o64_0 P, o65_0 P, o66_0 P, o67_0 P, o68_0 P, o69_0 P, o70_0 P, o71_0 P, o72_0 P, o73_0 P, o74_0 P, o75_0 P, o76_0 P, o77_0 P, o78_0 P, o79_0 P, o80_0 P, o81_0 P, o82_0 P, o83_0 P, o84_0 P, o85_0 P, o86_0 P, o87_0 P, o88_0 P, o89_0 P, o90_0 P, o91_0 P, o92_0 P, o93_0 P, o94_0 P, o95_0 P, o96_0 P, o97_0 P, o98_0 P, o99_0 P, o100_0 P, o101_0 P, o102_0 P, o103_0 P, o104_0 P, o105_0 P, o106_0 P, o107_0 P, o108_0 P, o109_0 P, o110_0 P, o111_0 P, o112_0 P, o113_0 P, o114_0 P, o115_0 P, o116_0 P, o117_0 P, o118_0 P, o119_0 P, o120_0 P, o121_0 P, o122_0 P, o123_0 P, o124_0 P, o125_0 P, o126_0 P, dObj 0, dObj 1, dObj 2, dObj 3, dObj 4, dObj 5, dObj 6, dObj 7, dObj 8, dObj 9, dObj 10, dObj 11, dObj 12, dObj 13, dObj 14, dObj 15, dObj 16, dObj 17, dObj 18, dObj 19, dObj 20, dObj 21, dObj 22, dObj 23, dObj 24, dObj 25, dObj 26, dObj 27, dObj 28, dObj 29, dObj 30, dObj 31, dObj 32, dObj 33, dObj 34, dObj 35, dObj 36, dObj 37, dObj 38, o166_0 P, o167_0 P, o168_0 P, o169_0 P, o170_0 P, o171_0 P, o172_0 P, o173_0 P, o174_0 P, o175_0 P, o176_0 P, o177_0 P], life0⟩
noncomputable def o3_7 (P : Params) : Obj := ⟨.type "dict", none, .dict #[ks P "__name__" 165 (sv "law_sn0090_01" 2471), ks P "__doc__" 166 .none, ks P "__package__" 167 .none, ks P "__loader__" 168 (.builtin "__main__.__loader__#opaque"), ks P "__spec__" 169 .none, ks P "__annotations__" 170 (.ref 6), ks P "__builtins__" 171 (.ref 4), ks P "__file__" 173 (sv "/claim/cut.py" 172), ks P "__cached__" 174 .none, ks P "_sre" 275 (.ref 12), ks P "_DIV_LIMIT" 285 (.int 4000 284), ks P "_div2n1n" 302 (.ref 38), ks P "_div3n2n" 316 (.ref 45), ks P "_int2digits" 327 (.ref 52), ks P "_digits2int" 338 (.ref 59), ks P "_divmod_pos" 353 (.ref 66), ks P "int_divmod" 363 (.ref 73), ks P "insort_right" 378 (.ref 82), ks P "bisect_right" 392 (.ref 91), ks P "insort_left" 405 (.ref 100), ks P "bisect_left" 419 (.ref 109), ks P "_twin_re_1" 437 (.ref 114), ks P "_twin_re_2" 479 (.ref 119), ks P "CRLF" 481 (sv "\x0d\x0a" 480), ks P "quotedata" 488 (.ref 126), ks P "b3_exceptions" 2441 (.ref 127), ks P "map_table_b3" 2449 (.ref 172), ks P "c6_set" 2463 (.ref 174), ks P "in_table_c6" 2470 (.ref 184), ks P "_law_mail" 2491 (.ref 191)] 30, #[]⟩
noncomputable def o29_5 (P : Params) : Obj := ⟨.none, none, .fields #[(.int 4 0), (.int 0 0), (.ref 37), (.int 20 0), (.int 0 0), (.ref 44), (.int 30 0), (.int 0 0), (.ref 51), (.int 46 0), (.int 0 0), (.ref 58), (.int 55 0), (.int 0 0), (.ref 65), (.int 66 0), (.int 0 0), (.ref 72), (.int 78 0), (.int 0 0), (.ref 81), (.int 84 0), (.int 0 0), (.ref 90), (.int 104 0), (.int 0 0), (.ref 99), (.int 110 0), (.int 0 0), (.ref 108), (.int 134 0), (.int 0 0), (.ref 125), (.int 138 0), (.int 0 0), (.ref 171), (.int 144 0), (.int 0 0), (.ref 183), (.int 147 0), (.int 0 0), (.ref 190)], #[]⟩
noncomputable def o178_0 (P : Params) : Obj := ⟨.type "tuple", none, .seq #[] 0, #[]⟩
noncomputable def o179_0 (P : Params) : Obj := ⟨.none, none, .fields #[], #[]⟩
noncomputable def o180_0 (P : Params) : Obj := ⟨.type "tuple", none, .seq #[(sv "code" 2467)] 0, #[]⟩
noncomputable def o181_0 (P : Params) : Obj := ⟨.type "tuple", none, .seq #[] 0, #[]⟩
noncomputable def o182_0 (P : Params) : Obj := ⟨.none, none, .func { name := "in_table_c6", qualname := "in_table_c6", params := fdArgs (st 23), body := .stmts (fdBody (st 23)), scope := fdScope (st 23), globals := 0, closure := [], defaults := .none, kwdefaults := .none, doc := .none, pyModule := .none, annotations := none, code := .none, closureTuple := .none, builtins := 0 }, #[]⟩
noncomputable def o183_0 (P : Params) : Obj := ⟨.type "code", none, .fields #[(sv "in_table_c6" 2464), (sv "in_table_c6" 2465), (sv "/claim/cut.py" 2466), (.int 144 0), (.int 1 0), (.int 0 0), (.int 0 0), (.int 3 0), (.ref 178), (.bool true), (.int 276 0), (.ref 179), .none, (.ref 180), (.ref 181), (.ref 182), (.int 2468 0), (.int 144 0), (sv "/claim/cut.py" 2469)], #[]⟩
noncomputable def o184_0 (P : Params) : Obj := ⟨.type "function", none, .func { name := "in_table_c6", qualname := "in_table_c6", params := fdArgs (st 23), body := .stmts (fdBody (st 23)), scope := fdScope (st 23), globals := 3, closure := [], defaults := .none, kwdefaults := .none, doc := .none, pyModule := (sv "cpy313.stringprep" 489), annotations := none, code := (.ref 183), closureTuple := .none, builtins := 0 }, #[]⟩
noncomputable def o185_0 (P : Params) : Obj := ⟨.type "tuple", none, .seq #[] 0, #[]⟩
noncomputable def o186_0 (P : Params) : Obj := ⟨.none, none, .fields #[], #[]⟩
noncomputable def o187_0 (P : Params) : Obj := ⟨.type "tuple", none, .seq #[(sv "drawn" 2476), (sv "spelled" 2477), (sv "meant" 2478), (sv "ends" 2479), (sv "written" 2480), (sv "sent" 2481), (sv "heard" 2482), (sv "v" 2483), (sv "count" 2484), (sv "mark" 2485), (sv "letter" 2486), (sv "line" 2487), (sv "loud" 2488)] 0, #[]⟩
noncomputable def o188_0 (P : Params) : Obj := ⟨.type "tuple", none, .seq #[] 0, #[]⟩
noncomputable def o189_0 (P : Params) : Obj := ⟨.none, none, .func { name := "_law_mail", qualname := "_law_mail", params := fdArgs (st 25), body := .stmts (fdBody (st 25)), scope := fdScope (st 25), globals := 0, closure := [], defaults := .none, kwdefaults := .none, doc := .none, pyModule := .none, annotations := none, code := .none, closureTuple := .none, builtins := 0 }, #[]⟩
noncomputable def o190_0 (P : Params) : Obj := ⟨.type "code", none, .fields #[(sv "_law_mail" 2473), (sv "_law_mail" 2474), (sv "/claim/cut.py" 2475), (.int 147 0), (.int 1 0), (.int 0 0), (.int 0 0), (.int 3 0), (.ref 185), (.bool true), (.int 276 0), (.ref 186), .none, (.ref 187), (.ref 188), (.ref 189), (.int 2489 0), (.int 147 0), (sv "/claim/cut.py" 2490)], #[]⟩
noncomputable def o191_0 (P : Params) : Obj := ⟨.type "function", none, .func { name := "_law_mail", qualname := "_law_mail", params := fdArgs (st 25), body := .stmts (fdBody (st 25)), scope := fdScope (st 25), globals := 3, closure := [], defaults := .none, kwdefaults := .none, doc := .none, pyModule := (sv "law_sn0090_01" 2471), annotations := none, code := (.ref 190), closureTuple := .none, builtins := 0 }, #[]⟩
noncomputable def H25 (P : Params) : Heap := ⟨#[o0_0 P, o1_0 P, o2_0 P, o3_7 P, o4_0 P, o5_0 P, o6_0 P, o7_0 P, o8_0 P, o9_0 P, o10_0 P, o11_0 P, o12_0 P, o13_0 P, o14_0 P, o15_0 P, o16_0 P, o17_0 P, o18_0 P, o19_0 P, o20_0 P, o21_0 P, o22_0 P, o23_0 P, o24_0 P, o25_0 P, o26_0 P, o27_0 P, o28_0 P, o29_5 P, o30_0 P, o31_0 P, o32_0 P, o33_0 P, o34_0 P, o35_0 P, o36_0 P, o37_0 P, o38_0 P, o39_0 P, o40_0 P, o41_0 P, o42_0 P, o43_0 P, o44_0 P, o45_0 P, o46_0 P, o47_0 P, o48_0 P, o49_0 P, o50_0 P, o51_0 P, o52_0 P, o53_0 P, o54_0 P, o55_0 P, o56_0 P, o57_0 P, o58_0 P, o59_0 P, o60_0 P, o61_0 P, o62_0 P, o63_0 P, o64_0 P, o65_0 P, o66_0 P, o67_0 P, o68_0 P, o69_0 P, o70_0 P, o71_0 P, o72_0 P, o73_0 P, o74_0 P, o75_0 P, o76_0 P, o77_0 P, o78_0 P, o79_0 P, o80_0 P, o81_0 P, o82_0 P, o83_0 P, o84_0 P, o85_0 P, o86_0 P, o87_0 P, o88_0 P, o89_0 P, o90_0 P, o91_0 P, o92_0 P, o93_0 P, o94_0 P, o95_0 P, o96_0 P, o97_0 P, o98_0 P, o99_0 P, o100_0 P, o101_0 P, o102_0 P, o103_0 P, o104_0 P, o105_0 P, o106_0 P, o107_0 P, o108_0 P, o109_0 P, o110_0 P, o111_0 P, o112_0 P, o113_0 P, o114_0 P, o115_0 P, o116_0 P, o117_0 P, o118_0 P, o119_0 P, o120_0 P, o121_0 P, o122_0 P, o123_0 P, o124_0 P, o125_0 P, o126_0 P, dObj 0, dObj 1, dObj 2, dObj 3, dObj 4, dObj 5, dObj 6, dObj 7, dObj 8, dObj 9, dObj 10, dObj 11, dObj 12, dObj 13, dObj 14, dObj 15, dObj 16, dObj 17, dObj 18, dObj 19, dObj 20, dObj 21, dObj 22, dObj 23, dObj 24, dObj 25, dObj 26, dObj 27, dObj 28, dObj 29, dObj 30, dObj 31, dObj 32, dObj 33, dObj 34, dObj 35, dObj 36, dObj 37, dObj 38, o166_0 P, o167_0 P, o168_0 P, o169_0 P, o170_0 P, o171_0 P, o172_0 P, o173_0 P, o174_0 P, o175_0 P, o176_0 P, o177_0 P, o178_0 P, o179_0 P, o180_0 P, o181_0 P, o182_0 P, o183_0 P, o184_0 P, o185_0 P, o186_0 P, o187_0 P, o188_0 P, o189_0 P, o190_0 P, o191_0 P], life0⟩
noncomputable def o3_8 (P : Params) : Obj := ⟨.type "dict", none, .dict #[ks P "__name__" 165 (sv "law_sn0090_01" 2471), ks P "__doc__" 166 .none, ks P "__package__" 167 .none, ks P "__loader__" 168 (.builtin "__main__.__loader__#opaque"), ks P "__spec__" 169 .none, ks P "__annotations__" 170 (.ref 6), ks P "__builtins__" 171 (.ref 4), ks P "__file__" 173 (sv "/claim/cut.py" 172), ks P "__cached__" 174 .none, ks P "_sre" 275 (.ref 12), ks P "_DIV_LIMIT" 285 (.int 4000 284), ks P "_div2n1n" 302 (.ref 38), ks P "_div3n2n" 316 (.ref 45), ks P "_int2digits" 327 (.ref 52), ks P "_digits2int" 338 (.ref 59), ks P "_divmod_pos" 353 (.ref 66), ks P "int_divmod" 363 (.ref 73), ks P "insort_right" 378 (.ref 82), ks P "bisect_right" 392 (.ref 91), ks P "insort_left" 405 (.ref 100), ks P "bisect_left" 419 (.ref 109), ks P "_twin_re_1" 437 (.ref 114), ks P "_twin_re_2" 479 (.ref 119), ks P "CRLF" 481 (sv "\x0d\x0a" 480), ks P "quotedata" 488 (.ref 126), ks P "b3_exceptions" 2441 (.ref 127), ks P "map_table_b3" 2449 (.ref 172), ks P "c6_set" 2463 (.ref 174), ks P "in_table_c6" 2470 (.ref 184), ks P "_law_mail" 2491 (.ref 191), ks P "_law_forms" 2502 (.ref 198), ks P "_law_moved" 2517 (.ref 205), ks P "_law_led_back" 2530 (.ref 212), ks P "law" 2536 (.ref 217)] 34, #[]⟩
noncomputable def o29_6 (P : Params) : Obj := ⟨.none, none, .fields #[(.int 4 0), (.int 0 0), (.ref 37), (.int 20 0), (.int 0 0), (.ref 44), (.int 30 0), (.int 0 0), (.ref 51), (.int 46 0), (.int 0 0), (.ref 58), (.int 55 0), (.int 0 0), (.ref 65), (.int 66 0), (.int 0 0), (.ref 72), (.int 78 0), (.int 0 0), (.ref 81), (.int 84 0), (.int 0 0), (.ref 90), (.int 104 0), (.int 0 0), (.ref 99), (.int 110 0), (.int 0 0), (.ref 108), (.int 134 0), (.int 0 0), (.ref 125), (.int 138 0), (.int 0 0), (.ref 171), (.int 144 0), (.int 0 0), (.ref 183), (.int 147 0), (.int 0 0), (.ref 190), (.int 171 0), (.int 0 0), (.ref 197), (.int 185 0), (.int 0 0), (.ref 204), (.int 193 0), (.int 0 0), (.ref 211), (.int 204 0), (.int 0 0), (.ref 216)], #[]⟩
noncomputable def o192_0 (P : Params) : Obj := ⟨.type "tuple", none, .seq #[] 0, #[]⟩
noncomputable def o193_0 (P : Params) : Obj := ⟨.none, none, .fields #[], #[]⟩
noncomputable def o194_0 (P : Params) : Obj := ⟨.type "tuple", none, .seq #[(sv "p" 2495), (sv "found" 2496), (sv "b" 2497), (sv "product" 2498), (sv "a" 2499)] 0, #[]⟩
noncomputable def o195_0 (P : Params) : Obj := ⟨.type "tuple", none, .seq #[] 0, #[]⟩
noncomputable def o196_0 (P : Params) : Obj := ⟨.none, none, .func { name := "_law_forms", qualname := "_law_forms", params := fdArgs (st 26), body := .stmts (fdBody (st 26)), scope := fdScope (st 26), globals := 0, closure := [], defaults := .none, kwdefaults := .none, doc := .none, pyModule := .none, annotations := none, code := .none, closureTuple := .none, builtins := 0 }, #[]⟩
noncomputable def o197_0 (P : Params) : Obj := ⟨.type "code", none, .fields #[(sv "_law_forms" 2492), (sv "_law_forms" 2493), (sv "/claim/cut.py" 2494), (.int 171 0), (.int 1 0), (.int 0 0), (.int 0 0), (.int 3 0), (.ref 192), (.bool true), (.int 276 0), (.ref 193), .none, (.ref 194), (.ref 195), (.ref 196), (.int 2500 0), (.int 171 0), (sv "/claim/cut.py" 2501)], #[]⟩
noncomputable def o198_0 (P : Params) : Obj := ⟨.type "function", none, .func { name := "_law_forms", qualname := "_law_forms", params := fdArgs (st 26), body := .stmts (fdBody (st 26)), scope := fdScope (st 26), globals := 3, closure := [], defaults := .none, kwdefaults := .none, doc := .none, pyModule := (sv "law_sn0090_01" 2471), annotations := none, code := (.ref 197), closureTuple := .none, builtins := 0 }, #[]⟩
noncomputable def o199_0 (P : Params) : Obj := ⟨.type "tuple", none, .seq #[] 0, #[]⟩
noncomputable def o200_0 (P : Params) : Obj := ⟨.none, none, .fields #[], #[]⟩
noncomputable def o201_0 (P : Params) : Obj := ⟨.type "tuple", none, .seq #[(sv "form" 2506), (sv "lines" 2507), (sv "a" 2508), (sv "b" 2509), (sv "c" 2510), (sv "line" 2511), (sv "k" 2512), (sv "letter" 2513), (sv "step" 2514)] 0, #[]⟩
noncomputable def o202_0 (P : Params) : Obj := ⟨.type "tuple", none, .seq #[] 0, #[]⟩
noncomputable def o203_0 (P : Params) : Obj := ⟨.none, none, .func { name := "_law_moved", qualname := "_law_moved", params := fdArgs (st 27), body := .stmts (fdBody (st 27)), scope := fdScope (st 27), globals := 0, closure := [], defaults := .none, kwdefaults := .none, doc := .none, pyModule := .none, annotations := none, code := .none, closureTuple := .none, builtins := 0 }, #[]⟩
noncomputable def o204_0 (P : Params) : Obj := ⟨.type "code", none, .fields #[(sv "_law_moved" 2503), (sv "_law_moved" 2504), (sv "/claim/cut.py" 2505), (.int 185 0), (.int 2 0), (.int 0 0), (.int 0 0), (.int 3 0), (.ref 199), (.bool true), (.int 276 0), (.ref 200), .none, (.ref 201), (.ref 202), (.ref 203), (.int 2515 0), (.int 185 0), (sv "/claim/cut.py" 2516)], #[]⟩
noncomputable def o205_0 (P : Params) : Obj := ⟨.type "function", none, .func { name := "_law_moved", qualname := "_law_moved", params := fdArgs (st 27), body := .stmts (fdBody (st 27)), scope := fdScope (st 27), globals := 3, closure := [], defaults := .none, kwdefaults := .none, doc := .none, pyModule := (sv "law_sn0090_01" 2471), annotations := none, code := (.ref 204), closureTuple := .none, builtins := 0 }, #[]⟩
noncomputable def o206_0 (P : Params) : Obj := ⟨.type "tuple", none, .seq #[] 0, #[]⟩
noncomputable def o207_0 (P : Params) : Obj := ⟨.none, none, .fields #[], #[]⟩
noncomputable def o208_0 (P : Params) : Obj := ⟨.type "tuple", none, .seq #[(sv "form" 2521), (sv "a" 2522), (sv "b" 2523), (sv "c" 2524), (sv "turn" 2525), (sv "quotient" 2526), (sv "rest" 2527)] 0, #[]⟩
noncomputable def o209_0 (P : Params) : Obj := ⟨.type "tuple", none, .seq #[] 0, #[]⟩
noncomputable def o210_0 (P : Params) : Obj := ⟨.none, none, .func { name := "_law_led_back", qualname := "_law_led_back", params := fdArgs (st 28), body := .stmts (fdBody (st 28)), scope := fdScope (st 28), globals := 0, closure := [], defaults := .none, kwdefaults := .none, doc := .none, pyModule := .none, annotations := none, code := .none, closureTuple := .none, builtins := 0 }, #[]⟩
noncomputable def o211_0 (P : Params) : Obj := ⟨.type "code", none, .fields #[(sv "_law_led_back" 2518), (sv "_law_led_back" 2519), (sv "/claim/cut.py" 2520), (.int 193 0), (.int 1 0), (.int 0 0), (.int 0 0), (.int 3 0), (.ref 206), (.bool true), (.int 276 0), (.ref 207), .none, (.ref 208), (.ref 209), (.ref 210), (.int 2528 0), (.int 193 0), (sv "/claim/cut.py" 2529)], #[]⟩
noncomputable def o212_0 (P : Params) : Obj := ⟨.type "function", none, .func { name := "_law_led_back", qualname := "_law_led_back", params := fdArgs (st 28), body := .stmts (fdBody (st 28)), scope := fdScope (st 28), globals := 3, closure := [], defaults := .none, kwdefaults := .none, doc := .none, pyModule := (sv "law_sn0090_01" 2471), annotations := none, code := (.ref 211), closureTuple := .none, builtins := 0 }, #[]⟩
noncomputable def o213_0 (P : Params) : Obj := ⟨.type "tuple", none, .seq #[] 0, #[]⟩
noncomputable def o214_0 (P : Params) : Obj := ⟨.none, none, .fields #[], #[]⟩
noncomputable def o215_0 (P : Params) : Obj := ⟨.none, none, .func { name := "law", qualname := "law", params := fdArgs (st 29), body := .stmts (fdBody (st 29)), scope := fdScope (st 29), globals := 0, closure := [], defaults := .none, kwdefaults := .none, doc := .none, pyModule := .none, annotations := none, code := .none, closureTuple := .none, builtins := 0 }, #[]⟩
noncomputable def o216_0 (P : Params) : Obj := ⟨.type "code", none, .fields #[(sv "law" 2531), (sv "law" 2532), (sv "/claim/cut.py" 2533), (.int 204 0), (.int 1 0), (.int 0 0), (.int 0 0), (.int 3 0), (.ref 213), (.bool true), (.int 276 0), (.ref 214), .none, .none, .none, (.ref 215), (.int 2534 0), (.int 204 0), (sv "/claim/cut.py" 2535)], #[]⟩
noncomputable def o217_0 (P : Params) : Obj := ⟨.type "function", none, .func { name := "law", qualname := "law", params := fdArgs (st 29), body := .stmts (fdBody (st 29)), scope := fdScope (st 29), globals := 3, closure := [], defaults := .none, kwdefaults := .none, doc := .none, pyModule := (sv "law_sn0090_01" 2471), annotations := none, code := (.ref 216), closureTuple := .none, builtins := 0 }, #[]⟩
noncomputable def H29 (P : Params) : Heap := ⟨#[o0_0 P, o1_0 P, o2_0 P, o3_8 P, o4_0 P, o5_0 P, o6_0 P, o7_0 P, o8_0 P, o9_0 P, o10_0 P, o11_0 P, o12_0 P, o13_0 P, o14_0 P, o15_0 P, o16_0 P, o17_0 P, o18_0 P, o19_0 P, o20_0 P, o21_0 P, o22_0 P, o23_0 P, o24_0 P, o25_0 P, o26_0 P, o27_0 P, o28_0 P, o29_6 P, o30_0 P, o31_0 P, o32_0 P, o33_0 P, o34_0 P, o35_0 P, o36_0 P, o37_0 P, o38_0 P, o39_0 P, o40_0 P, o41_0 P, o42_0 P, o43_0 P, o44_0 P, o45_0 P, o46_0 P, o47_0 P, o48_0 P, o49_0 P, o50_0 P, o51_0 P, o52_0 P, o53_0 P, o54_0 P, o55_0 P, o56_0 P, o57_0 P, o58_0 P, o59_0 P, o60_0 P, o61_0 P, o62_0 P, o63_0 P, o64_0 P, o65_0 P, o66_0 P, o67_0 P, o68_0 P, o69_0 P, o70_0 P, o71_0 P, o72_0 P, o73_0 P, o74_0 P, o75_0 P, o76_0 P, o77_0 P, o78_0 P, o79_0 P, o80_0 P, o81_0 P, o82_0 P, o83_0 P, o84_0 P, o85_0 P, o86_0 P, o87_0 P, o88_0 P, o89_0 P, o90_0 P, o91_0 P, o92_0 P, o93_0 P, o94_0 P, o95_0 P, o96_0 P, o97_0 P, o98_0 P, o99_0 P, o100_0 P, o101_0 P, o102_0 P, o103_0 P, o104_0 P, o105_0 P, o106_0 P, o107_0 P, o108_0 P, o109_0 P, o110_0 P, o111_0 P, o112_0 P, o113_0 P, o114_0 P, o115_0 P, o116_0 P, o117_0 P, o118_0 P, o119_0 P, o120_0 P, o121_0 P, o122_0 P, o123_0 P, o124_0 P, o125_0 P, o126_0 P, dObj 0, dObj 1, dObj 2, dObj 3, dObj 4, dObj 5, dObj 6, dObj 7, dObj 8, dObj 9, dObj 10, dObj 11, dObj 12, dObj 13, dObj 14, dObj 15, dObj 16, dObj 17, dObj 18, dObj 19, dObj 20, dObj 21, dObj 22, dObj 23, dObj 24, dObj 25, dObj 26, dObj 27, dObj 28, dObj 29, dObj 30, dObj 31, dObj 32, dObj 33, dObj 34, dObj 35, dObj 36, dObj 37, dObj 38, o166_0 P, o167_0 P, o168_0 P, o169_0 P, o170_0 P, o171_0 P, o172_0 P, o173_0 P, o174_0 P, o175_0 P, o176_0 P, o177_0 P, o178_0 P, o179_0 P, o180_0 P, o181_0 P, o182_0 P, o183_0 P, o184_0 P, o185_0 P, o186_0 P, o187_0 P, o188_0 P, o189_0 P, o190_0 P, o191_0 P, o192_0 P, o193_0 P, o194_0 P, o195_0 P, o196_0 P, o197_0 P, o198_0 P, o199_0 P, o200_0 P, o201_0 P, o202_0 P, o203_0 P, o204_0 P, o205_0 P, o206_0 P, o207_0 P, o208_0 P, o209_0 P, o210_0 P, o211_0 P, o212_0 P, o213_0 P, o214_0 P, o215_0 P, o216_0 P, o217_0 P], life0⟩
theorem pc0 (w : World) (os : OsState) : segRun treeTable pw w 28 (some (.ref 6)) 1 160 ⟨Hb w.params, #[], dr0, 282, os⟩ (piecesOf [st 1, st 2, st 3, st 4, st 5, st 6] env0 cE ⟨0, 0, 0, 0⟩ [topFrame ⟨0, 0, 0, 0⟩]) = some (.next, ⟨H6 w.params, #[], dr0, 339, os⟩, cE, ⟨46, 0, 54, 49⟩) := by kernel_rfl!
theorem pc6 (w : World) (os : OsState) : segRun treeTable pw w 28 (some (.ref 6)) 1 200 ⟨H6 w.params, #[], dr0, 339, os⟩ (piecesOf [st 7, st 8, st 9, st 10, st 11, st 12] env0 cE ⟨46, 0, 54, 49⟩ [topFrame ⟨0, 0, 0, 0⟩]) = some (.next, ⟨H12 w.params, #[], dr0, 406, os⟩, cE, ⟨104, 0, 109, 19⟩) := by kernel_rfl!
theorem pc12 (w : World) (os : OsState) : segRun treeTable pw w 28 (some (.ref 6)) 1 242 ⟨H12 w.params, #[], dr0, 406, os⟩ (piecesOf [st 13, st 14, st 15, st 16, st 17, st 18, st 19] env0 cE ⟨104, 0, 109, 19⟩ [topFrame ⟨0, 0, 0, 0⟩]) = some (.next, ⟨H19 w.params, #[], dr0, 491, os⟩, cE, ⟨136, 0, 136, 8⟩) := by kernel_rfl!
theorem pc20 (w : World) (os : OsState) : segRun treeTable pw w 28 (some (.ref 6)) 1 31 ⟨H20 w.params, #[], dr0, 2442, os⟩ (piecesOf [st 21] env0 cE ⟨137, 0, 137, 13⟩ [topFrame ⟨0, 0, 0, 0⟩]) = some (.next, ⟨H21 w.params, #[], dr0, 2450, os⟩, cE, ⟨138, 0, 142, 23⟩) := by kernel_rfl!
theorem pc22 (w : World) (os : OsState) : segRun treeTable pw w 28 (some (.ref 6)) 1 80 ⟨H22 w.params, #[], dr0, 2464, os⟩ (piecesOf [st 23, st 24, st 25] env0 cE ⟨143, 0, 143, 6⟩ [topFrame ⟨0, 0, 0, 0⟩]) = some (.next, ⟨H25 w.params, #[], dr0, 2492, os⟩, cE, ⟨147, 0, 170, 33⟩) := by kernel_rfl!
theorem pc25 (w : World) (os : OsState) : segRun treeTable pw w 28 (some (.ref 6)) 1 132 ⟨H25 w.params, #[], dr0, 2492, os⟩ (piecesOf [st 26, st 27, st 28, st 29] env0 cE ⟨147, 0, 170, 33⟩ [topFrame ⟨0, 0, 0, 0⟩]) = some (.next, ⟨H29 w.params, #[], dr0, 2537, os⟩, cE, ⟨204, 0, 241, 15⟩) := by kernel_rfl!
end Mine

namespace Mine
noncomputable def P21 (w : World) : Prop := ∀ os : OsState, segRun treeTable pw w 28 (some (.ref 6)) 1 200 ⟨H21 w.params, #[], dr0, 2450, os⟩ (piecesOf [st 22] env0 cE ⟨138, 0, 142, 23⟩ [topFrame ⟨0, 0, 0, 0⟩]) = some (.next, ⟨H22 w.params, #[], dr0, 2464, os⟩, cE, ⟨143, 0, 143, 6⟩)
theorem pc21_0 (w : World) (os : OsState) : segRun treeTable pw ((w.withFollow "special-get-raises" false).withFollow "set-order" false) 28 (some (.ref 6)) 1 200 ⟨H21 ((w.withFollow "special-get-raises" false).withFollow "set-order" false).params, #[], dr0, 2450, os⟩ (piecesOf [st 22] env0 cE ⟨138, 0, 142, 23⟩ [topFrame ⟨0, 0, 0, 0⟩]) = some (.next, ⟨H22 ((w.withFollow "special-get-raises" false).withFollow "set-order" false).params, #[], dr0, 2464, os⟩, cE, ⟨143, 0, 143, 6⟩) := by kernel_rfl!
theorem pc21_1 (w : World) (os : OsState) : segRun treeTable pw ((w.withFollow "special-get-raises" true).withFollow "set-order" false) 28 (some (.ref 6)) 1 200 ⟨H21 ((w.withFollow "special-get-raises" true).withFollow "set-order" false).params, #[], dr0, 2450, os⟩ (piecesOf [st 22] env0 cE ⟨138, 0, 142, 23⟩ [topFrame ⟨0, 0, 0, 0⟩]) = some (.next, ⟨H22 ((w.withFollow "special-get-raises" true).withFollow "set-order" false).params, #[], dr0, 2464, os⟩, cE, ⟨143, 0, 143, 6⟩) := by kernel_rfl!
theorem pc21_2 (w : World) (os : OsState) : segRun treeTable pw ((w.withFollow "special-get-raises" false).withFollow "set-order" true) 28 (some (.ref 6)) 1 200 ⟨H21 ((w.withFollow "special-get-raises" false).withFollow "set-order" true).params, #[], dr0, 2450, os⟩ (piecesOf [st 22] env0 cE ⟨138, 0, 142, 23⟩ [topFrame ⟨0, 0, 0, 0⟩]) = some (.next, ⟨H22 ((w.withFollow "special-get-raises" false).withFollow "set-order" true).params, #[], dr0, 2464, os⟩, cE, ⟨143, 0, 143, 6⟩) := by kernel_rfl!
theorem pc21_3 (w : World) (os : OsState) : segRun treeTable pw ((w.withFollow "special-get-raises" true).withFollow "set-order" true) 28 (some (.ref 6)) 1 200 ⟨H21 ((w.withFollow "special-get-raises" true).withFollow "set-order" true).params, #[], dr0, 2450, os⟩ (piecesOf [st 22] env0 cE ⟨138, 0, 142, 23⟩ [topFrame ⟨0, 0, 0, 0⟩]) = some (.next, ⟨H22 ((w.withFollow "special-get-raises" true).withFollow "set-order" true).params, #[], dr0, 2464, os⟩, cE, ⟨143, 0, 143, 6⟩) := by kernel_rfl!
theorem pc21 (w : World) : P21 w := by
  refine byRow2 "set-order" (P := P21) (fun w => ?_) (fun w => ?_) w
  · exact byRow2 "special-get-raises" (P := fun w => P21 (w.withFollow "set-order" false)) (fun w => pc21_0 w) (fun w => pc21_1 w) w
  · exact byRow2 "special-get-raises" (P := fun w => P21 (w.withFollow "set-order" true)) (fun w => pc21_2 w) (fun w => pc21_3 w) w
end Mine

namespace Mine
noncomputable def isI : Option PySem.Expr → Bool | some (.Constant (.int _) _ _) => true | _ => false
noncomputable def isS : PySem.Expr → Bool | .Constant (.str _) _ _ => true | _ => false
theorem isI_inv {k : Option PySem.Expr} (h : isI k = true) : ∃ i a b, k = some (.Constant (.int i) a b) := by
  have no : ∀ {P : Prop}, false = true → P := fun h => absurd h Bool.false_ne_true
  induction k using Option.casesOn with
  | none => exact no h
  | some k => induction k using PySem.Expr.casesOn with
    | Constant c a b => induction c using PySem.Const.casesOn with
      | int i => exact ⟨_, _, _, rfl⟩
      | _ => exact no h
    | _ => exact no h
theorem isS_inv {k : PySem.Expr} (h : isS k = true) : ∃ i a b, k = .Constant (.str i) a b := by
  have no : ∀ {P : Prop}, false = true → P := fun h => absurd h Bool.false_ne_true
  induction k using PySem.Expr.casesOn with
  | Constant c a b => induction c using PySem.Const.casesOn with
    | str i => exact ⟨_, _, _, rfl⟩
    | _ => exact no h
  | _ => exact no h
theorem ks_vs (env : Env) (q : Pos) : ∀ (ks : List (Option PySem.Expr)) (vs : List PySem.Expr), ks.all isI = true → vs.all isS = true →
    (evalEachOpt ks env).zip ((evalEach vs env).map fun v => do let x ← v; standAt q; pure x) = ((ks.map kInt).zip (vs.map vStr)).map fun d => (some (prOf q d).1, (prOf q d).2)
  | [], _, _, _ => rfl
  | _ :: _, [], _, _ => rfl
  | k :: ks, v :: vs, hk, hv => by
    rw [List.all_cons, Bool.and_eq_true] at hk hv
    have ih := ks_vs env q ks vs hk.2 hv.2
    refine ex0_2 hk ?_; (try clear hk); intro hk _
    refine ex0_2 hv ?_; (try clear hv); intro hv _
    refine ex3_1 (isI_inv hk) fun i a b ob1 => ?_; subst ob1
    refine ex3_1 (isS_inv hv) fun x a' b' ob2 => ?_; subst ob2
    show (some (mkInt i), (do let x ← mkText x; standAt q; pure x)) :: (evalEachOpt ks env).zip ((evalEach vs env).map fun v => do let x ← v; standAt q; pure x) = (some (prOf q (i, x)).1, (prOf q (i, x)).2) :: ((ks.map kInt).zip (vs.map vStr)).map fun d => (some (prOf q d).1, (prOf q d).2)
    rw [ih]
    rfl
theorem dsp_hs : ∀ (D : List (Int × Str)) (M : Option (Array DictEntry)) (S : List Obj) (t : Nat) (R : List (Int × Str)),
    hsM (dsp M S t R D).1 ++ (dsp M S t R D).2.2.2.map (fun d => hashInt d.1) = hsM M ++ (R ++ D).map (fun d => hashInt d.1)
  | [], M, S, t, R => by simp [dsp]
  | d :: D, M, S, t, R => by
    rw [dsp]
    split
    · rw [dsp_hs D, hs_add, ents_hash]
      simp
    · rw [dsp_hs D]
      simp
theorem dsp_sz : ∀ (D : List (Int × Str)) (M : Option (Array DictEntry)) (S : List Obj) (t : Nat) (R : List (Int × Str)),
    szM (dsp M S t R D).1 + (dsp M S t R D).2.2.2.length = szM M + (R.length + D.length)
  | [], M, S, t, R => by simp [dsp]
  | d :: D, M, S, t, R => by
    rw [dsp]
    split
    · rw [dsp_sz D, sz_add, ents_length]
      simp only [List.length_append, List.length_cons, List.length_nil]
      exact ar272
    · rw [dsp_sz D]
      simp only [List.length_append, List.length_cons, List.length_nil]
      exact ar273
theorem dsp_ne : ∀ (D : List (Int × Str)) (M : Option (Array DictEntry)) (S : List Obj) (t : Nat) (R : List (Int × Str)), (∀ E, M = some E → E.size ≠ 0) →
    ∀ E, (dsp M S t R D).1 = some E → E.size ≠ 0
  | [], M, S, t, R, h => h
  | d :: D, M, S, t, R, h => by
    rw [dsp]
    split
    · refine dsp_ne D _ _ _ _ fun E hE => ?_
      have h1 : szM (addM M (ents 3 t (R ++ [d]))) = E.size := by rw [hE]; rfl
      rw [sz_add, ents_length] at h1
      simp only [List.length_append, List.length_cons, List.length_nil] at h1
      exact ar274 h1
    · exact dsp_ne D _ _ _ _ h
noncomputable def inc : Int → List Int → Bool
  | _, [] => true
  | a, b :: l => decide (a < b) && inc b l
theorem inc_lt : ∀ (l : List Int) (a : Int), inc a l = true → (∀ b ∈ l, a < b) ∧ l.Nodup
  | [], _, _ => ⟨fun _ h => (nomatch h), List.nodup_nil⟩
  | b :: l, a, h => by
    rw [inc, Bool.and_eq_true, decide_eq_true_eq] at h
    refine ex0_2 (inc_lt l b h.2) fun h1 h2 => ?_
    refine ⟨fun c hc => ?_, List.nodup_cons.mpr ⟨fun hb => Int.lt_irrefl _ (h1 b hb), h2⟩⟩
    rcases List.mem_cons.mp hc with rfl | hc
    · exact h.1
    · exact Int.lt_trans h.1 (h1 c hc)
noncomputable def tabHashes : List Int := tab.map (fun d => hashInt d.1)
theorem tab_inc : inc 0 tabHashes = true := by kernel_rfl!
theorem tab_len : tab.length = 650 := by kernel_rfl!
theorem dR_len : dRes.2.2.2.length = 4 := by kernel_rfl!
theorem dT : dRes.2.2.1 = 2429 := by kernel_rfl!
theorem dO_len : dObjs.length = 39 := by kernel_rfl!
theorem k_all : (dKeys (st 20)).all isI = true := by kernel_rfl!
theorem v_all : (dVals (st 20)).all isS = true := by kernel_rfl!
theorem size19 (P : Params) : (H19 P).objs.size = 127 := by kernel_rfl!
noncomputable def G20 (P : Params) : Heap := ⟨#[o0_0 P, o1_0 P, o2_0 P, o3_3 P, o4_0 P, o5_0 P, o6_0 P, o7_0 P, o8_0 P, o9_0 P, o10_0 P, o11_0 P, o12_0 P, o13_0 P, o14_0 P, o15_0 P, o16_0 P, o17_0 P, o18_0 P, o19_0 P, o20_0 P, o21_0 P, o22_0 P, o23_0 P, o24_0 P, o25_0 P, o26_0 P, o27_0 P, o28_0 P, o29_3 P, o30_0 P, o31_0 P, o32_0 P, o33_0 P, o34_0 P, o35_0 P, o36_0 P, o37_0 P, o38_0 P, o39_0 P, o40_0 P, o41_0 P, o42_0 P, o43_0 P, o44_0 P, o45_0 P, o46_0 P, o47_0 P, o48_0 P, o49_0 P, o50_0 P, o51_0 P, o52_0 P, o53_0 P, o54_0 P, o55_0 P, o56_0 P, o57_0 P, o58_0 P, o59_0 P, o60_0 P, o61_0 P, o62_0 P, o63_0 P, o64_0 P, o65_0 P, o66_0 P, o67_0 P, o68_0 P, o69_0 P, o70_0 P, o71_0 P, o72_0 P, o73_0 P, o74_0 P, o75_0 P, o76_0 P, o77_0 P, o78_0 P, o79_0 P, o80_0 P, o81_0 P, o82_0 P, o83_0 P, o84_0 P, o85_0 P, o86_0 P, o87_0 P, o88_0 P, o89_0 P, o90_0 P, o91_0 P, o92_0 P, o93_0 P, o94_0 P, o95_0 P, o96_0 P, o97_0 P, o98_0 P, o99_0 P, o100_0 P, o101_0 P, o102_0 P, o103_0 P, o104_0 P, o105_0 P, o106_0 P, o107_0 P, o108_0 P, o109_0 P, o110_0 P, o111_0 P, o112_0 P, o113_0 P, o114_0 P, o115_0 P, o116_0 P, o117_0 P, o118_0 P, o119_0 P, o120_0 P, o121_0 P, o122_0 P, o123_0 P, o124_0 P, o125_0 P, o126_0 P, dObj 0, dObj 1, dObj 2, dObj 3, dObj 4, dObj 5, dObj 6, dObj 7, dObj 8, dObj 9, dObj 10, dObj 11, dObj 12, dObj 13, dObj 14, dObj 15, dObj 16, dObj 17, dObj 18, dObj 19, dObj 20, dObj 21, dObj 22, dObj 23, dObj 24, dObj 25, dObj 26, dObj 27, dObj 28, dObj 29, dObj 30, dObj 31, dObj 32, dObj 33, dObj 34, dObj 35, dObj 36, dObj 37, dObj 38], life0⟩
theorem list_getD {α : Type} (d : α) : ∀ (l : List α), l = (List.range l.length).map fun i => l.getD i d
  | l => by
    apply List.ext_getElem
    · simp
    · intro i h1 h2
      simp [h1]
theorem objs39 : dObjs = (List.range 39).map dObj := by
  have h := list_getD (default : Obj) dObjs
  rw [dO_len] at h
  exact h
theorem hx19 (P : Params) : hx (H19 P) ((List.range 39).map dObj) = G20 P := by kernel_rfl!
noncomputable def p1 : Pos := ⟨137, 0, 137, 13⟩
noncomputable def p2 : Pos := ⟨137, 16, 137, 8704⟩
noncomputable def p3 : Pos := ⟨137, 0, 137, 8704⟩
theorem st20 : st 20 = .Assign [.Name (Str.ofString "b3_exceptions") p1] (.Dict (dKeys (st 20)) (dVals (st 20)) p2) p3 := by kernel_rfl!
noncomputable def tl20 (v : Value) : Sem Flow := do standAt p1; bindName env0 (Str.ofString "b3_exceptions") v; pure .next
noncomputable def dDisp : Sem Value := do standAt p3; standAt p2; dictDisplay (tab.map fun d => (some (prOf p2 d).1, (prOf p2 d).2))
theorem bind_assoc' {α β γ : Type} (m : Sem α) (f : α → Sem β) (k : β → Sem γ) : (m >>= f) >>= k = m >>= fun a => f a >>= k := by
  rw [Sem.bind_eq_wrap' m f, Sem.bind_eq_wrap', Sem.wrap_wrap, Sem.bind_eq_wrap']
  refine Sem.wrap_congr _ _ _ (fun a => ?_) fun _ => rfl
  rw [Sem.bind_eq_wrap']
theorem ex20 : execs [st 20] env0 = dDisp >>= tl20 := by
  rw [execs_cons]
  have e1 : exec (st 20) env0 = dDisp >>= tl20 := by
    rw [st20, exec_Assign_Name (hs := rfl)]
    unfold dDisp tl20
    rw [bind_assoc']
    refine congrArg (standAt p3 >>= ·) (funext fun _ => ?_)
    refine congrArg (· >>= fun v => standAt p1 >>= fun _ => bindName env0 (Str.ofString "b3_exceptions") v >>= fun _ => (pure .next : Sem Flow)) ?_
    show (do standAt p2; dictDisplay ((evalEachOpt (dKeys (st 20)) env0).zip ((evalEach (dVals (st 20)) env0).map fun v => do let x ← v; standAt p2; pure x))) = _
    rw [ks_vs env0 p2 _ _ k_all v_all]
    rfl
  rw [e1, bind_assoc']
  refine congrArg (dDisp >>= ·) (funext fun v => ?_)
  unfold tl20
  rw [bind_assoc']
  refine congrArg (standAt p1 >>= ·) (funext fun _ => ?_)
  rw [bind_assoc']
  rfl
theorem tail20 (w : World) (os : OsState) (q : Pos) : segRun treeTable pw w 28 (some (.ref 6)) 1 60 ⟨G20 w.params, #[], dr0, 2441, os⟩ ⟨(tl20 (.ref 127)).wrap doneF deadEnd id id, cE, q, [topFrame ⟨0, 0, 0, 0⟩]⟩ = some (.next, ⟨H20 w.params, #[], dr0, 2442, os⟩, cE, ⟨137, 0, 137, 13⟩) := by kernel_rfl!
theorem fresh_tab : Fresh [] tab := by
  unfold Fresh
  rw [List.nil_append]
  exact (inc_lt _ _ tab_inc).2
theorem dDisp_eq : dDisp = (do standAt p3; standAt p2; dictDisplay (tab.map fun d => (some (prOf p2 d).1, (prOf p2 d).2))) := rfl
theorem dRes_eq : dsp none [] 491 [] tab = dRes := rfl
theorem dRes_eta : dRes = (dRes.1, dRes.2.1, dRes.2.2.1, dRes.2.2.2) := rfl
theorem dObjs_eq : mainL (addM dRes.1 (ents 2 dRes.2.2.1 dRes.2.2.2)) (addS dRes.1 dRes.2.1 (ents 2 dRes.2.2.1 dRes.2.2.2)) = dObjs := rfl
theorem disp_gen {g : Setting} {h h' : Heap} {gs dr os} {D R : List (Int × Str)} {M : Option (Array DictEntry)} {S : List Obj} {t t2 : Nat} {dR : Option (Array DictEntry) × List Obj × Nat × List (Int × Str)} {dO : List Obj} {a : Addr} {q pa pb pc : Pos} {tree : Sem Value}
    (ht : tree = (do standAt pa; standAt pb; dictDisplay (D.map fun d => (some (prOf q d).1, (prOf q d).2)))) (hd : dsp none [] t [] D = dR) (hdR : dR = (M, S, t2, R)) (hO : mainL (addM M (ents 2 t2 R)) (addS M S (ents 2 t2 R)) = dO) (hx' : hx h dO = h')
    (hh : h.objs.size = a) (h28 : 28 ≤ a) (hsy : sysModules < a) (hD : D.length = 650) (hR : R.length = 4) (h2 : t2 = 2429) (hf : Fresh [] D) :
    ex g 28 tree (fun v c' _ s' => v = .ref a ∧ c' ≤ 140000 ∧ s' = ⟨h', gs, dr, 2441, os⟩) 0 pc ⟨h, gs, dr, t, os⟩ := by
  subst ht hh
  refine ex_bind (ex_standAt (ex_bind (ex_standAt ?_)))
  have hs := dsp_sz D none [] t []
  have hhs := dsp_hs D none [] t []
  have hne := dsp_ne D none [] t [] fun E hE => nomatch hE
  rw [hd, hdR] at hs hhs hne
  have hR0 : R ≠ [] := fun e => by rw [e] at hR; cases hR
  refine ex_display (q := q) (M := M) (S := S) (t2 := t2) (R := R) h28 hsy (by exact ar275 hD) hf (hd.trans hdR) hR0 (by exact ar276 hR) hne ?_ ?_ fun c' p' hc => ?_
  · have e : szM M + R.length = 0 + (0 + D.length) := hs
    exact ar277 hD hR e
  · unfold Fresh
    have e : hsM M ++ R.map (fun (d : Int × Str) => hashInt d.1) = [] ++ ([] ++ D).map (fun (d : Int × Str) => hashInt d.1) := hhs
    rw [e]
    exact hf
  · refine ⟨rfl, by exact ar278 hD hR hc, ?_⟩
    rw [hO, hx', h2, hR]
theorem seg_gen {w : World} {s s' : Shared} {l : List Stmt} {env : Env} {m : Sem Value} {f : Value → Sem Flow} {a : Value} {N n : Nat} {c : Code} {pos : Pos} {q : Pos} {r : Flow × Shared × Code × Pos} (he : execs l env = m >>= f)
    (hx : ex ⟨pw, w.params⟩ 28 m (fun v c' _ s₂ => v = a ∧ c' ≤ N ∧ s₂ = s') 0 pos s)
    (ht : ∀ q', segRun treeTable pw w 28 (some (.ref 6)) 1 n s' ⟨(f a).wrap doneF deadEnd id id, c, q', [topFrame q]⟩ = some r) :
    ∃ k, k ≤ n + N ∧ segRun treeTable pw w 28 (some (.ref 6)) 1 k s (piecesOf l env c pos [topFrame q]) = some r := by
  refine ex4_3 (ex_seg (ann := some (.ref 6)) (b := 1) hx) fun v c' p' s₂ ob3 _ hk => ?_; obtain ⟨rfl, hc', rfl⟩ := ob3
  refine ⟨n + (c' - 0), by omega, ?_⟩
  have e : (execs l env).wrap doneF deadEnd id id = m.wrap (fun v => (f v).wrap doneF deadEnd id id) deadEnd id id := by
    rw [he, Sem.bind_eq_wrap', Sem.wrap_wrap]
    rfl
  unfold piecesOf
  rw [e]
  exact hk _ _ _ _ _ _ rfl _ _ (ht p')
theorem disp20 (w : World) (os : OsState) : ex ⟨pw, w.params⟩ 28 dDisp (fun v c' _ s' => v = .ref 127 ∧ c' ≤ 140000 ∧ s' = ⟨G20 w.params, #[], dr0, 2441, os⟩) 0 ⟨136, 0, 136, 8⟩ ⟨H19 w.params, #[], dr0, 491, os⟩ :=
  disp_gen dDisp_eq dRes_eq dRes_eta dObjs_eq ((congrArg _ objs39).trans (hx19 _)) (size19 _) (by decide) (by decide) tab_len dR_len dT fresh_tab
theorem pc19 (w : World) (os : OsState) : ∃ n, n ≤ 60 + 140000 ∧ segRun treeTable pw w 28 (some (.ref 6)) 1 n ⟨H19 w.params, #[], dr0, 491, os⟩ (piecesOf [st 20] env0 cE ⟨136, 0, 136, 8⟩ [topFrame ⟨0, 0, 0, 0⟩]) = some (.next, ⟨H20 w.params, #[], dr0, 2442, os⟩, cE, ⟨137, 0, 137, 13⟩) :=
  seg_gen ex20 (disp20 w os) fun q => tail20 w os q
end Mine

namespace Mine
noncomputable abbrev ann0 : Option Value := some (.ref 6)
noncomputable abbrev B0 : List Frame := [topFrame ⟨0, 0, 0, 0⟩]
theorem pre_ (w : World) (os : OsState) : topGo treeTable pw w 28 ann0 12 ⟨H0 w.params, #[], dr0, 276, os⟩ (topStub pw) = some (⟨Ha w.params, #[], dr0, 282, os⟩, ⟨denote treeTable cE, cE, ⟨0, 0, 0, 0⟩, B0⟩) := by kernel_rfl!
theorem block_ (w : World) (os : OsState) : segRun treeTable pw w 28 ann0 1 1 ⟨Ha w.params, #[], dr0, 282, os⟩ (blockOf (behindTheImports pw) env0 cE ⟨0, 0, 0, 0⟩ B0) = some (.next, ⟨Hb w.params, #[], dr0, 282, os⟩, cE, ⟨0, 0, 0, 0⟩) := by kernel_rfl!
theorem fin_ (w : World) (os : OsState) : topRun treeTable pw w 28 ann0 2 ⟨H29 w.params, #[], dr0, 2537, os⟩ ⟨doneF .next, cE, ⟨204, 0, 241, 15⟩, B0⟩ = some ⟨H29 w.params, #[], dr0, 2537, os⟩ := by kernel_rfl!
theorem size_ (w : World) : ((H0 w.params).isNs mainGlobals && (#[] : Array GenState).size == 0, (H0 w.params).objs.size, (H0 w.params).nsMap mainGlobals "__annotations__") = (true, 28, ann0) := by kernel_rfl!
theorem behind_ : behindTheImports pw = [st 1, st 2, st 3, st 4, st 5, st 6] ++ ([st 7, st 8, st 9, st 10, st 11, st 12] ++ ([st 13, st 14, st 15, st 16, st 17, st 18, st 19] ++ ([st 20] ++ ([st 21] ++ ([st 22] ++ ([st 23, st 24, st 25] ++ ([st 26, st 27, st 28, st 29] ++ []))))))) := by kernel_rfl!
theorem chain8 {w : World} {s0 sa sb s1 s2 s3 s4 s5 s6 s7 s8 r : Shared} {l1 l2 l3 l4 l5 l6 l7 l8 : List Stmt} {body : List Stmt} {env : Env} {c : Code} {p p1 p2 p3 p4 p5 p6 p7 p8 pa q : Pos} {stub : Thread} {n0 nb n1 n2 n3 n4 n5 n6 n7 n8 nf M : Nat}
    (hb : body = l1 ++ (l2 ++ (l3 ++ (l4 ++ (l5 ++ (l6 ++ (l7 ++ (l8 ++ []))))))))
    (pre : topGo treeTable pw w 28 ann0 n0 s0 stub = some (sa, ⟨denote treeTable (.body body env), c, pa, [topFrame q]⟩))
    (bl : segRun treeTable pw w 28 ann0 1 nb sa (blockOf body env c pa [topFrame q]) = some (.next, sb, c, p))
    (h1 : segRun treeTable pw w 28 ann0 1 n1 sb (piecesOf l1 env c p [topFrame q]) = some (.next, s1, c, p1))
    (h2 : segRun treeTable pw w 28 ann0 1 n2 s1 (piecesOf l2 env c p1 [topFrame q]) = some (.next, s2, c, p2))
    (h3 : segRun treeTable pw w 28 ann0 1 n3 s2 (piecesOf l3 env c p2 [topFrame q]) = some (.next, s3, c, p3))
    (h4 : segRun treeTable pw w 28 ann0 1 n4 s3 (piecesOf l4 env c p3 [topFrame q]) = some (.next, s4, c, p4))
    (h5 : segRun treeTable pw w 28 ann0 1 n5 s4 (piecesOf l5 env c p4 [topFrame q]) = some (.next, s5, c, p5))
    (h6 : segRun treeTable pw w 28 ann0 1 n6 s5 (piecesOf l6 env c p5 [topFrame q]) = some (.next, s6, c, p6))
    (h7 : segRun treeTable pw w 28 ann0 1 n7 s6 (piecesOf l7 env c p6 [topFrame q]) = some (.next, s7, c, p7))
    (h8 : segRun treeTable pw w 28 ann0 1 n8 s7 (piecesOf l8 env c p7 [topFrame q]) = some (.next, s8, c, p8))
    (fn : topRun treeTable pw w 28 ann0 nf s8 ⟨doneF .next, c, p8, [topFrame q]⟩ = some r) (hM : n0 + (nb + (n1 + (n2 + (n3 + (n4 + (n5 + (n6 + (n7 + (n8 + nf))))))))) ≤ M) :
    topRun treeTable pw w 28 ann0 M s0 stub = some r := by
  have hr := go_top pre (piece_block bl (hb ▸ piece_app h1 (piece_app h2 (piece_app h3 (piece_app h4 (piece_app h5 (piece_app h6 (piece_app h7 (piece_app h8 (piece_nil fn))))))))))
  have := topRun_mono (M - (n0 + (nb + (n1 + (n2 + (n3 + (n4 + (n5 + (n6 + (n7 + (n8 + nf))))))))))) _ _ _ _ hr
  rwa [show n0 + (nb + (n1 + (n2 + (n3 + (n4 + (n5 + (n6 + (n7 + (n8 + nf))))))))) + (M - (n0 + (nb + (n1 + (n2 + (n3 + (n4 + (n5 + (n6 + (n7 + (n8 + nf))))))))))) = M by exact ar460 hM] at this
theorem run_ (w : World) (os : OsState) : topRun treeTable pw w 28 ann0 150000 ⟨H0 w.params, #[], dr0, 276, os⟩ (topStub pw) = some ⟨H29 w.params, #[], dr0, 2537, os⟩ := by
  refine ex1_2 (pc19 w os) fun n hn h19 => ?_
  exact chain8 behind_ (pre_ w os) (block_ w os) (pc0 w os) (pc6 w os) (pc12 w os) h19 (pc20 w os) (pc21 w os) (pc22 w os) (pc25 w os) (fin_ w os) (by exact ar461 hn)
theorem open0 (w : World) : (fencedOpening treeTable pw w 150000).map (fun s => (s.heap, s.gens, s.drawn, s.toks)) = some (H0 w.params, #[], dr0, 276) := by kernel_rfl!
end Mine

namespace Mine
abbrev rr : OpenRow := PySem.Challenge.rw_sn0090_01.row
noncomputable def qv : Program := { pw with main := { pw.main with body := [st 29] } }
noncomputable def loose0 : List Str := List.map Str.ofString ["__name__", "__doc__", "__package__", "__loader__", "__spec__", "__annotations__", "__builtins__", "__file__",
  "__cached__", "_sre", "_DIV_LIMIT", "_div2n1n", "_div3n2n", "_int2digits", "_digits2int", "_divmod_pos", "int_divmod",
  "insort_right", "bisect_right", "insort_left", "bisect_left", "_twin_re_1", "_twin_re_2", "CRLF", "quotedata",
  "b3_exceptions", "map_table_b3", "c6_set", "in_table_c6", "_law_mail", "_law_forms", "_law_moved", "_law_led_back"]
noncomputable abbrev Xt0 : Shared → Bool := fun s => recOk (RowW.records rr.toRowW) s
noncomputable abbrev S29 (w : World) (os : OsState) : Shared := ⟨H29 w.params, #[], dr0, 2537, os⟩
theorem look_a (w : World) (os : OsState) : (staticsOk (importedModules pw.main.body) (H0 w.params) (H29 w.params) && namesBound pw (H29 w.params) && gensDone (S29 w os) && laidKept (H0 w.params) (H29 w.params)) = true := by kernel_rfl!
theorem look_b (w : World) (os : OsState) : openSeen qv loose0 (importedModules pw.main.body) Xt0 true (S29 w os) = openGood qv loose0 := by kernel_rfl!
theorem left0 : LeftO pw qv loose0 Xt0 (fun s => s.heap) (fun w => H29 w.params) 150000 :=
  LeftO.of_pieces (N := 150000) (M := 150000) (g0 := true) (H₀ := H0) (H₁ := H29) (gs₀ := #[]) (gs₁ := #[]) (d₀ := dr0) (d₁ := dr0) (k₀ := 276) (k₁ := 2537) (m₀ := 28) (ann := ann0) open0 size_ run_ (by decide) fun w => funext fun os => by
    rw [look_a w os]
    exact congrArg (fun x => (true, x, H29 w.params)) (look_b w os)
noncomputable def Y0 (w : World) (h : Heap) : Prop := ∀ b o, (H29 w.params).get? b = some o → h.get? b = some o
noncomputable def dkl : Option (DefRec × List (Str × PySem.Expr)) := defOf qv rr.name
theorem head0 {d : DefRec} {kwd : List (Str × PySem.Expr)} (hdef : defOf qv rr.name = some (d, kwd)) (hp : rr.prog.theDef rr.name = some (d.params, d.body, d.scope)) (hk : kwWritten? d.params.kwonlyargs d.params.kw_defaults = some kwd)
    (said : rr.wellSaid = true) (hw : rr.toRowW.promised)
    (call : WalkO qv loose0 (fun _ _ => True) Y0 rr.toRowW d kwd fun f vs => PySem.call f vs) : rr.Holds :=
  holds_open (q := qv) (loose := loose0) (Xt := Xt0) (XP := fun _ _ => True) (α := Heap) (Yf := fun s => s.heap) (Ya := fun w => H29 w.params) (YP := Y0) (N := 150000) left0
    (fun _ _ e _ _ hb => e ▸ hb) (fun _ _ _ y k b o hb => k b o (y b o hb)) (fun _ _ => trivial) (fun _ _ _ _ _ => trivial) hdef hp hk (fun _ e => recFacts_of e) rfl said (by kernel_rfl!) ⟨rfl, rfl, rfl, rfl, rfl, by decide +kernel⟩ hw call
end Mine

section
namespace Mine
inductive V where
  | none
  | bool (b : Bool)
  | int (i : Int)
  | str (l : List Nat)
  | tup (l : List V)
  | list (i : Nat)
  | ref (a : Addr)
  | blt (id : String)
  | typ (n : String)
noncomputable abbrev Mem := List (List V)
noncomputable abbrev Loc := List (Str × V)
noncomputable abbrev mkS (l : List Nat) : Str := ⟨l.toArray⟩
mutual
inductive VR (h : Heap) (ad : List Addr) : V → Value → Prop where
  | none : VR h ad .none .none
  | bool (b) : VR h ad (.bool b) (.bool b)
  | int (i t) : VR h ad (.int i) (.int i t)
  | str (l t) : VR h ad (.str l) (.str (mkS l) t)
  | tup {a items l} (ht : h.IsTuple a items) (hl : VRs h ad l items.toList) : VR h ad (.tup l) (.ref a)
  | list {i a} (hi : ad[i]? = some a) : VR h ad (.list i) (.ref a)
  | ref (a) : VR h ad (.ref a) (.ref a)
  | blt (id) : VR h ad (.blt id) (.builtin id)
  | typ (n) : VR h ad (.typ n) (.type n)
inductive VRs (h : Heap) (ad : List Addr) : List V → List Value → Prop where
  | nil : VRs h ad [] []
  | cons {v x l xs} (hv : VR h ad v x) (hl : VRs h ad l xs) : VRs h ad (v :: l) (x :: xs)
end
structure HR (h : Heap) (ad : List Addr) (mu : Mem) : Prop where
  len : ad.length = mu.length
  nodup : ad.Nodup
  at_ : ∀ (i : Nat) (l : List V), mu[i]? = some l → ∃ a items, ad[i]? = some a ∧ h.IsList a items ∧ VRs h ad l items.toList ∧ (i ≠ 0 → h.PlainList a items)
noncomputable def Keep (h h' : Heap) (W : Addr → Prop) : Prop := ∀ b o, ¬ W b → h.get? b = some o → h'.get? b = some o
noncomputable def Pre (ad ad' : List Addr) : Prop := ∀ (i : Nat) (a : Addr), ad[i]? = some a → ad'[i]? = some a
theorem Pre.refl (ad) : Pre ad ad := fun _ _ e => e
theorem Pre.trans {a b c} (x : Pre a b) (y : Pre b c) : Pre a c := fun i q e => y i q (x i q e)
theorem Pre.snoc (ad : List Addr) (a : Addr) : Pre ad (ad ++ [a]) := fun i x e => by
  rw [List.getElem?_append_left (List.getElem?_eq_some_iff.mp e).1]; exact e
mutual
theorem VR.keep {h h' : Heap} {ad ad' : List Addr} {W : Addr → Prop} (hk : Keep h h' W) (hW : ∀ b, W b → ∀ items, ¬ h.IsTuple b items) (hp : Pre ad ad') : ∀ {v x}, VR h ad v x → VR h' ad' v x
  | _, _, .none => .none
  | _, _, .bool b => .bool b
  | _, _, .int i t => .int i t
  | _, _, .str s t => .str s t
  | _, _, .tup ht hl => .tup (let ⟨o, ho, r⟩ := ht; ⟨o, hk _ o (fun hm => hW _ hm _ ht) ho, r⟩) (VRs.keep hk hW hp hl)
  | _, _, .list hi => .list (hp _ _ hi)
  | _, _, .ref a => .ref a
  | _, _, .blt id => .blt id
  | _, _, .typ n => .typ n
theorem VRs.keep {h h' : Heap} {ad ad' : List Addr} {W : Addr → Prop} (hk : Keep h h' W) (hW : ∀ b, W b → ∀ items, ¬ h.IsTuple b items) (hp : Pre ad ad') : ∀ {v x}, VRs h ad v x → VRs h' ad' v x
  | _, _, .nil => .nil
  | _, _, .cons hv hl => .cons (VR.keep hk hW hp hv) (VRs.keep hk hW hp hl)
end
theorem VRs.ind {h : Heap} {ad : List Addr} {P : List V → List Value → Prop} (n : P [] []) (c : ∀ {v x l xs}, VR h ad v x → VRs h ad l xs → P l xs → P (v :: l) (x :: xs)) : ∀ {l xs}, VRs h ad l xs → P l xs
  | _, _, .nil => n
  | _, _, .cons hv hl => c hv hl (VRs.ind n c hl)
theorem VRs.length {h : Heap} {ad : List Addr} {l xs} (k : VRs h ad l xs) : l.length = xs.length := VRs.ind (P := fun l xs => l.length = xs.length) rfl (fun _ _ ih => congrArg Nat.succ ih) k
theorem VRs.get {h : Heap} {ad : List Addr} {l xs} (k : VRs h ad l xs) : ∀ (i : Nat) (v : V), l[i]? = some v → ∃ x, xs[i]? = some x ∧ VR h ad v x :=
  VRs.ind (P := fun l xs => ∀ (i : Nat) (v : V), l[i]? = some v → ∃ x, xs[i]? = some x ∧ VR h ad v x) (fun i v e => by simp at e) (fun hv hl ih i v e => by
    induction i using Nat.casesOn with
    | zero => simp at e; subst e; exact ⟨_, rfl, hv⟩
    | succ i => simpa using ih i v (by simpa using e)) k
theorem VRs.append {h : Heap} {ad : List Addr} {l xs l' xs'} (k : VRs h ad l xs) (k' : VRs h ad l' xs') : VRs h ad (l ++ l') (xs ++ xs') := VRs.ind (P := fun l xs => VRs h ad (l ++ l') (xs ++ xs')) k' (fun hv _ ih => .cons hv ih) k
theorem VRs.take {h : Heap} {ad : List Addr} {l xs} (k : VRs h ad l xs) : ∀ n, VRs h ad (l.take n) (xs.take n) :=
  VRs.ind (P := fun l xs => ∀ n, VRs h ad (l.take n) (xs.take n)) (fun n => by simpa using VRs.nil) (fun hv _ ih n => by
    induction n using Nat.casesOn with
    | zero => exact .nil
    | succ n => exact .cons hv (ih n)) k
theorem VRs.drop {h : Heap} {ad : List Addr} {l xs} (k : VRs h ad l xs) : ∀ n, VRs h ad (l.drop n) (xs.drop n) :=
  VRs.ind (P := fun l xs => ∀ n, VRs h ad (l.drop n) (xs.drop n)) (fun n => by simpa using VRs.nil) (fun hv hl ih n => by
    induction n using Nat.casesOn with
    | zero => exact .cons hv hl
    | succ n => exact ih n) k
theorem VRs.reverse {h : Heap} {ad : List Addr} {l xs} (k : VRs h ad l xs) : VRs h ad l.reverse xs.reverse :=
  VRs.ind (P := fun l xs => VRs h ad l.reverse xs.reverse) .nil (fun hv _ ih => by rw [List.reverse_cons, List.reverse_cons]; exact ih.append (.cons hv .nil)) k
theorem VRs.set {h : Heap} {ad : List Addr} {v x} (hv : VR h ad v x) {l xs} (k : VRs h ad l xs) : ∀ (i : Nat), VRs h ad (l.set i v) (xs.set i x) :=
  VRs.ind (P := fun l xs => ∀ i : Nat, VRs h ad (l.set i v) (xs.set i x)) (fun _ => .nil) (fun hv' hl ih i => by
    induction i using Nat.casesOn with
    | zero => exact .cons hv hl
    | succ i => exact .cons hv' (ih i)) k
theorem Keep.refl (h : Heap) (W) : Keep h h W := fun _ _ _ e => e
theorem Keep.mono {h h' : Heap} {W W' : Addr → Prop} (a : Keep h h' W) (hs : ∀ x, W x → W' x) : Keep h h' W' := fun x o hx e => a x o (fun hm => hx (hs x hm)) e
theorem VR.all {h h' : Heap} {ad : List Addr} {v x} (hk : ∀ a o, h.get? a = some o → h'.get? a = some o) (hv : VR h ad v x) : VR h' ad v x :=
  VR.keep (W := fun _ => False) (fun a o _ e => hk a o e) (fun _ h => h.elim) (Pre.refl _) hv
theorem VRs.all {h h' : Heap} {ad : List Addr} {v x} (hk : ∀ a o, h.get? a = some o → h'.get? a = some o) (hv : VRs h ad v x) : VRs h' ad v x :=
  VRs.keep (W := fun _ => False) (fun a o _ e => hk a o e) (fun _ h => h.elim) (Pre.refl _) hv
structure Base where
  H : Heap
  glob : Str → Option V
  orc : Addr → List V → Mem → Option (V × Mem)
structure BaseOk (b : Base) : Prop where
  glob : ∀ h : Heap, (∀ a o, b.H.get? a = some o → h.get? a = some o) → ∀ x v, b.glob x = some v → ∃ val, (∀ ad, VR h ad v val) ∧
    ((∃ mg, h.Ns mainGlobals mg ∧ mg x = some val) ∨ (∃ mg mb, h.Ns mainGlobals mg ∧ mg x = none ∧ h.Ns builtinsNs mb ∧ mb x = some val))
  nolim : b.H.NoLimit
theorem BaseOk.limit {b : Base} (B : BaseOk b) {h : Heap} (hk : ∀ a o, b.H.get? a = some o → h.get? a = some o) : h.NoLimit := B.nolim.keeps hk
noncomputable def tbPos (a : Addr) : Int × Int := if a = 47 then (33, 4) else (48, 4)
noncomputable def tbQ (a : Addr) : Str := if a = 47 then "_int2digits.<locals>.inner" else "_digits2int.<locals>.inner"
noncomputable def tb (b : Base) (a : Addr) : Prop := (a = 47 ∨ a = 54) ∧ b.H.get? a = none
noncomputable def TabAt (h : Heap) (a : Addr) : Prop := ∃ ps : Array Value, h.get? a = some { cls := .none, data := .fields ps } ∧ (ps = #[] ∨ ∃ c', ps = #[rawInt (tbPos a).1, rawInt (tbPos a).2, .ref c'] ∧ (∃ o vs t, h.get? c' = some o ∧ o.data = .fields vs ∧ vs[1]? = some (.str (tbQ a) t)))
structure RelM (b : Base) (h : Heap) (ad : List Addr) (mem : Mem) : Prop where
  base : ∀ a o, b.H.get? a = some o → h.get? a = some o
  lowA : ∀ a ∈ ad, b.H.get? a = none
  hr : HR h ad mem
  tabs : ∀ a, tb b a → TabAt h a
noncomputable def Wr (b : Base) (ad : List Addr) (a : Addr) : Prop := a ∈ ad ∨ tb b a
structure LR (b : Base) (env : Env) (h : Heap) (ad : List Addr) (l : Loc) : Prop where
  low : b.H.get? env.locals = none
  lowC : ∀ x c, (x, c) ∈ env.cells → b.H.get? c = none
  cell : ∀ x c, (x, c) ∈ env.cells → ∃ ov, h.IsCell c ov
  ns : ∃ m, h.Ns env.locals m ∧ ∀ x v, l.lookup x = some v → ∃ val, VR h ad v val ∧
    ((env.kindOf x = some .local ∧ m x = some val) ∨ ((env.kindOf x = some .cell ∨ env.kindOf x = some .free) ∧ ∃ c, env.cells.lookup x = some c ∧ h.IsCell c (some val)))
structure EnvOk (env : Env) (sc : Scope) : Prop where
  scope : env.scope = sc
  kind : sc.kind = .function
  globals : env.globals = mainGlobals
  builtins : env.builtins = builtinsNs
  nodup : (env.cells.map (·.2)).Nodup
  cells : ∀ x, sc.names.lookup x = some .cell → ∃ c, env.cells.lookup x = some c
theorem not_tuple_of_list {h : Heap} {a : Addr} {items} (hl : h.IsList a items) : ∀ its, ¬ h.IsTuple a its := by
  intro its ⟨o, ho, hc, _⟩
  refine ex1_3 hl ?_; (try clear hl); intro o' ho' hc' _
  rw [ho] at ho'; cases ho'
  rw [hc] at hc'
  injection hc' with e
  exact absurd e (by decide)
theorem not_tuple_of_ns {h : Heap} {a : Addr} {m} (hl : h.Ns a m) : ∀ its, ¬ h.IsTuple a its := by
  intro its ⟨o, ho, hc, n, hd⟩
  refine ex3_3 hl ?_; (try clear hl); intro o' es ep ho' hd' _
  rw [ho] at ho'; cases ho'
  rw [hd] at hd'; cases hd'
theorem not_tuple_of_cell {h : Heap} {a : Addr} {m} (hl : h.IsCell a m) : ∀ its, ¬ h.IsTuple a its := by
  intro its ⟨o, ho, hc, n, hd⟩
  refine ex1_2 hl ?_; (try clear hl); intro o' ho' hd'
  rw [ho] at ho'; cases ho'
  rw [hd] at hd'; cases hd'
theorem list_ne_ns {h : Heap} {a c : Addr} {m items} (hl : h.IsList a items) (hn : h.Ns c m) : a ≠ c := by
  rintro rfl
  obtain ⟨o, ho, hc, n, hd⟩ := hl
  refine ex3_3 hn ?_; (try clear hn); intro o' es ep ho' hd' _
  rw [ho] at ho'; cases ho'
  rw [hd] at hd'; cases hd'
theorem list_ne_cell {h : Heap} {a c : Addr} {m items} (hl : h.IsList a items) (hn : h.IsCell c m) : a ≠ c := by
  rintro rfl
  obtain ⟨o, ho, hc, n, hd⟩ := hl
  refine ex1_2 hn ?_; (try clear hn); intro o' ho' hd'
  rw [ho] at ho'; cases ho'
  rw [hd] at hd'; cases hd'
theorem ns_ne_cell {h : Heap} {a c : Addr} {m mm} (hl : h.Ns a mm) (hn : h.IsCell c m) : a ≠ c := by
  rintro rfl
  refine ex3_3 hl ?_; (try clear hl); intro o es ep ho hd _
  refine ex1_2 hn ?_; (try clear hn); intro o' ho' hd'
  rw [ho] at ho'; cases ho'
  rw [hd] at hd'; cases hd'
theorem ns_keep {h h' : Heap} {a : Addr} {m} (hn : h.Ns a m) (hk : ∀ o, h.get? a = some o → h'.get? a = some o) : h'.Ns a m :=
  let ⟨o, es, ep, ho, r⟩ := hn; ⟨o, es, ep, hk o ho, r⟩
theorem list_keep {h h' : Heap} {a : Addr} {m} (hn : h.IsList a m) (hk : ∀ o, h.get? a = some o → h'.get? a = some o) : h'.IsList a m :=
  let ⟨o, ho, r⟩ := hn; ⟨o, hk o ho, r⟩
theorem cell_keep {h h' : Heap} {a : Addr} {m} (hn : h.IsCell a m) (hk : ∀ o, h.get? a = some o → h'.get? a = some o) : h'.IsCell a m :=
  let ⟨o, ho, r⟩ := hn; ⟨o, hk o ho, r⟩
theorem TabAt.but {h h' : Heap} {W : Addr → Prop} {a : Addr} (x : TabAt h a) (hk : ∀ c o, ¬ W c → h.get? c = some o → h'.get? c = some o) (hW : ∀ c, W c → ∀ o vs, h.get? c = some o → o.data = .fields vs → o.cls ≠ .none ∧ ∀ q t, vs[1]? ≠ some (.str q t)) : TabAt h' a := by
  refine ex1_2 x ?_; (try clear x); intro ps h1 h2
  refine ⟨ps, hk _ _ (fun hw => (hW a hw _ _ h1 rfl).1 rfl) h1, ?_⟩
  rcases h2 with h2 | ⟨c', h2, o, vs, t, h3, h5, h6⟩
  · exact .inl h2
  · exact .inr ⟨c', h2, o, vs, t, hk _ _ (fun hw => (hW c' hw _ _ h3 h5).2 _ _ h6) h3, h5, h6⟩
theorem TabAt.all {h h' : Heap} {a : Addr} (x : TabAt h a) (hk : ∀ c o, h.get? c = some o → h'.get? c = some o) : TabAt h' a := x.but (W := fun _ => False) (fun c o _ e => hk c o e) (fun _ h => h.elim)
theorem TabAt.notList {h : Heap} {a : Addr} (x : TabAt h a) : ∀ its, ¬ h.IsList a its := by
  rintro its ⟨o, ho, hc, n, hd⟩
  refine ex1_2 x ?_; (try clear x); intro ps h1 _
  rw [h1] at ho; cases ho; cases hd
theorem TabAt.notTuple {h : Heap} {a : Addr} (x : TabAt h a) : ∀ its, ¬ h.IsTuple a its := by
  rintro its ⟨o, ho, hc, n, hd⟩
  refine ex1_2 x ?_; (try clear x); intro ps h1 _
  rw [h1] at ho; cases ho; cases hd
theorem TabAt.notNs {h : Heap} {a : Addr} (x : TabAt h a) : ∀ m, ¬ h.Ns a m := by
  rintro m ⟨o, es, ep, ho, hd, _⟩
  refine ex1_2 x ?_; (try clear x); intro ps h1 _
  rw [h1] at ho; cases ho; cases hd
theorem TabAt.notCell {h : Heap} {a : Addr} (x : TabAt h a) : ∀ m, ¬ h.IsCell a m := by
  rintro m ⟨o, ho, hd⟩
  refine ex1_2 x ?_; (try clear x); intro ps h1 _
  rw [h1] at ho; cases ho; cases hd
theorem TabAt.some {h : Heap} {a : Addr} (x : TabAt h a) : ∃ o, h.get? a = some o := let ⟨_, h1, _⟩ := x; ⟨_, h1⟩
noncomputable def NotF (h : Heap) (c : Addr) : Prop := ∀ o vs, h.get? c = some o → o.data = .fields vs → o.cls ≠ .none ∧ ∀ q t, vs[1]? ≠ some (.str q t)
theorem NotF.list {h : Heap} {a : Addr} {its} (x : h.IsList a its) : NotF h a := by
  intro o vs ho hd
  obtain ⟨o', ho', hc, n, hd'⟩ := x
  rw [ho] at ho'; cases ho'; rw [hd] at hd'; cases hd'
theorem NotF.ns {h : Heap} {a : Addr} {m} (x : h.Ns a m) : NotF h a := by
  intro o vs ho hd
  refine ex3_3 x ?_; (try clear x); intro o' es ep ho' hd' _
  rw [ho] at ho'; cases ho'; rw [hd] at hd'; cases hd'
theorem NotF.cell {h : Heap} {a : Addr} {m} (x : h.IsCell a m) : NotF h a := by
  intro o vs ho hd
  refine ex1_2 x ?_; (try clear x); intro o' ho' hd'
  rw [ho] at ho'; cases ho'; rw [hd] at hd'; cases hd'
theorem HR.isList {h ad mu} (H : HR h ad mu) : ∀ a ∈ ad, ∃ items, h.IsList a items := by
  intro a ha
  obtain ⟨i, hi, e⟩ := List.mem_iff_getElem.mp ha
  have hl := H.len
  obtain ⟨a', items, ha', hL, _⟩ := H.at_ i (mu[i]'(ar290 hi hl)) (List.getElem?_eq_getElem _)
  rw [List.getElem?_eq_getElem hi, e] at ha'
  cases ha'
  exact ⟨_, hL⟩
theorem HR.lt {h ad mu} (H : HR h ad mu) : ∀ a ∈ ad, a < h.objs.size := by
  intro a ha
  refine ex2_2 (H.isList a ha) fun items o ho _ => ?_
  exact Heap.lt_size ho
theorem RelM.noTuple {b h ad mem} (R : RelM b h ad mem) : ∀ x, Wr b ad x → ∀ items, ¬ h.IsTuple x items := by
  rintro x (hx | hx)
  · refine ex1_1 (R.hr.isList x hx) fun items hl => ?_
    exact not_tuple_of_list hl
  · exact (R.tabs x hx).notTuple
theorem RelM.noNs {b h ad mem} (R : RelM b h ad mem) : ∀ x, Wr b ad x → ∀ m, ¬ h.Ns x m := by
  rintro x (hx | hx) m hm
  · refine ex1_1 (R.hr.isList x hx) fun items hl => ?_
    exact list_ne_ns hl hm rfl
  · exact (R.tabs x hx).notNs m hm
theorem RelM.noCell {b h ad mem} (R : RelM b h ad mem) : ∀ x, Wr b ad x → ∀ m, ¬ h.IsCell x m := by
  rintro x (hx | hx) m hm
  · refine ex1_1 (R.hr.isList x hx) fun items hl => ?_
    exact list_ne_cell hl hm rfl
  · exact (R.tabs x hx).notCell m hm
structure OutE (b : Base) (s : Shared) (ad : List Addr) (s' : Shared) (ad' : List Addr) (mem' : Mem) : Prop where
  rel : RelM b s'.heap ad' mem'
  pre : Pre ad ad'
  keep : Keep s.heap s'.heap (Wr b ad)
  fresh : ∀ a ∈ ad', a ∈ ad ∨ s.heap.get? a = none
  os : s'.os = s.os
  gens : s'.gens = s.gens
  drawn : s'.drawn = s.drawn
variable {b : Base} {env : Env} {s s' s'' : Shared} {ad ad' ad'' : List Addr} {mem mem' mem'' : Mem}
theorem OutE.vr (R : RelM b s.heap ad mem) (o : OutE b s ad s' ad' mem') {v x} (hv : VR s.heap ad v x) : VR s'.heap ad' v x :=
  VR.keep o.keep R.noTuple o.pre hv
theorem OutE.vrs (R : RelM b s.heap ad mem) (o : OutE b s ad s' ad' mem') {v x} (hv : VRs s.heap ad v x) : VRs s'.heap ad' v x :=
  VRs.keep o.keep R.noTuple o.pre hv
theorem OutE.trans (x : OutE b s ad s' ad' mem') (y : OutE b s' ad' s'' ad'' mem'') : OutE b s ad s'' ad'' mem'' where
  rel := y.rel
  pre := x.pre.trans y.pre
  keep := fun a o hx e => by
    refine y.keep a o (fun hm => ?_) (x.keep a o hx e)
    rcases hm with hm | hm
    · rcases x.fresh a hm with q | q
      · exact hx (.inl q)
      · rw [q] at e; cases e
    · exact hx (.inr hm)
  fresh := fun a ha => by
    rcases y.fresh a ha with q | q
    · exact x.fresh a q
    · by_cases ha : Wr b ad a
      · rcases ha with ha | ha
        · exact .inl ha
        · refine ex1_1 ((x.rel.tabs a ha).some) fun o ho => ?_
          rw [ho] at q; cases q
      · cases e : s.heap.get? a with
        | none => exact .inr rfl
        | some o => rw [x.keep a o ha e] at q; cases q
  os := y.os.trans x.os
  gens := y.gens.trans x.gens
  drawn := y.drawn.trans x.drawn
theorem OutE.refl (R : RelM b s.heap ad mem) : OutE b s ad s ad mem := ⟨R, Pre.refl _, Keep.refl _ _, fun _ h => .inl h, rfl, rfl, rfl⟩
theorem OutE.toks (R : RelM b s.heap ad mem) (n : Nat) : OutE b s ad { s with toks := n } ad mem := ⟨R, Pre.refl _, Keep.refl _ _, fun _ h => .inl h, rfl, rfl, rfl⟩
theorem RelM.all {h h' : Heap} (R : RelM b h ad mem) (hk : ∀ a o, h.get? a = some o → h'.get? a = some o) : RelM b h' ad mem where
  base := fun a o e => hk a o (R.base a o e)
  lowA := R.lowA
  hr := ⟨R.hr.len, R.hr.nodup, fun i l e => by
    refine ex2_4 (R.hr.at_ i l e) fun a items ha hl hv hp => ?_
    exact ⟨a, items, ha, list_keep hl (hk a), hv.all hk, fun h0 => (hp h0).at (hk a)⟩⟩
  tabs := fun a ha => (R.tabs a ha).all hk
theorem OutE.all {h' : Heap} {n : Nat} (R : RelM b s.heap ad mem) (hk : ∀ a o, s.heap.get? a = some o → h'.get? a = some o) : OutE b s ad { s with heap := h', toks := n } ad mem :=
  ⟨R.all hk, Pre.refl _, fun a o _ e => hk a o e, fun _ h => .inl h, rfl, rfl, rfl⟩
theorem RelM.none {h : Heap} {a : Addr} (R : RelM b h ad mem) (ha : h.get? a = none) : b.H.get? a = none := by
  cases e : b.H.get? a with
  | none => rfl
  | some o => rw [R.base a o e] at ha; cases ha
theorem get_top (h : Heap) : h.get? h.objs.size = none := Heap.get?_none_of_le (Nat.le_refl _)
theorem LR.out {l : Loc} (R : RelM b s.heap ad mem) (L : LR b env s.heap ad l) (o : OutE b s ad s' ad' mem') : LR b env s'.heap ad' l where
  low := L.low
  lowC := L.lowC
  cell := fun x c hc => by
    refine ex1_1 (L.cell x c hc) fun ov hv => ?_
    exact ⟨ov, cell_keep hv fun ob e => o.keep c ob (fun hm => R.noCell c hm _ hv) e⟩
  ns := by
    refine ex1_2 L.ns fun m hn hl => ?_
    refine ⟨m, ns_keep hn fun ob e => o.keep _ ob (fun hm => R.noNs _ hm _ hn) e, fun x v e => ?_⟩
    obtain ⟨val, hv, h | ⟨hk, c, hc, hcv⟩⟩ := hl x v e
    · exact ⟨val, o.vr R hv, .inl h⟩
    · exact ⟨val, o.vr R hv, .inr ⟨hk, c, hc, cell_keep hcv fun ob e => o.keep c ob (fun hm => R.noCell c hm _ hcv) e⟩⟩
theorem OutE.newList {vs : List V} {xs : List Value} (R : RelM b s.heap ad mem) (hv : VRs s.heap ad vs xs) :
    OutE b s ad { s with heap := s.heap.push { cls := .type "list", data := .seq xs.toArray } } (ad ++ [s.heap.objs.size]) (mem ++ [vs]) := by
  have hk : ∀ a o, s.heap.get? a = some o → (s.heap.push { cls := .type "list", data := .seq xs.toArray }).get? a = some o := fun a o e => Heap.get?_push_of_some _ e
  have R' := R.all hk
  have up : ∀ {v x}, VRs (s.heap.push { cls := .type "list", data := .seq xs.toArray }) ad v x → VRs (s.heap.push { cls := .type "list", data := .seq xs.toArray }) (ad ++ [s.heap.objs.size]) v x := fun h =>
    VRs.keep (W := fun _ => False) (fun a o _ e => e) (fun _ h => h.elim) (Pre.snoc _ _) h
  refine ⟨⟨R'.base, fun a ha => ?_, ⟨?_, ?_, fun i l e => ?_⟩, R'.tabs⟩, Pre.snoc _ _, fun a o _ e => hk a o e, fun a ha => ?_, rfl, rfl, rfl⟩
  · rcases List.mem_append.mp ha with h | h
    · exact R.lowA a h
    · rw [List.mem_singleton.mp h]; exact R.none (get_top _)
  · show (ad ++ [_]).length = (mem ++ [vs]).length
    rw [List.length_append, List.length_append, R.hr.len]; rfl
  · rw [List.nodup_append]
    refine ⟨R.hr.nodup, by simp, fun a ha c hc => ?_⟩
    rw [List.mem_singleton.mp hc]
    exact Nat.ne_of_lt (R.hr.lt a ha)
  · have e' : (mem ++ [vs])[i]? = some l := e
    by_cases hi : i < mem.length
    · rw [List.getElem?_append_left hi] at e'
      refine ex2_4 (R'.hr.at_ i l e') fun a items h1 h2 h3 h4 => ?_
      exact ⟨a, items, Pre.snoc _ _ i a h1, h2, up h3, h4⟩
    · have hi' : i = mem.length := by
        have := (List.getElem?_eq_some_iff.mp e').1
        rw [List.length_append, List.length_singleton] at this
        exact ar291 hi this
      subst hi'
      rw [List.getElem?_append_right (Nat.le_refl _), Nat.sub_self] at e'
      cases e'
      refine ⟨s.heap.objs.size, xs.toArray, ?_, ⟨_, Heap.get?_push_size _ rfl, rfl, 0, rfl⟩, up (hv.all hk), fun _ => ⟨0, Heap.get?_push_size _ rfl⟩⟩
      rw [← R.hr.len, List.getElem?_append_right (Nat.le_refl _), Nat.sub_self]; rfl
  · rcases List.mem_append.mp ha with h | h
    · exact .inl h
    · exact .inr (by rw [List.mem_singleton.mp h]; exact get_top _)
theorem OutE.addList {vs : List V} {a : Addr} {items : Array Value} {h' : Heap} {n : Nat} (R : RelM b s.heap ad mem) (hk : ∀ a o, s.heap.get? a = some o → h'.get? a = some o)
    (ha : s.heap.get? a = none) (hl : h'.PlainList a items) (hv : VRs h' ad vs items.toList) :
    OutE b s ad { s with heap := h', toks := n } (ad ++ [a]) (mem ++ [vs]) := by
  have R' := R.all hk
  have up : ∀ {v x}, VRs h' ad v x → VRs h' (ad ++ [a]) v x := fun h =>
    VRs.keep (W := fun _ => False) (fun a o _ e => e) (fun _ h => h.elim) (Pre.snoc _ _) h
  refine ⟨⟨R'.base, fun c hc => ?_, ⟨?_, ?_, fun i l e => ?_⟩, R'.tabs⟩, Pre.snoc _ _, fun a o _ e => hk a o e, fun c hc => ?_, rfl, rfl, rfl⟩
  · rcases List.mem_append.mp hc with h | h
    · exact R.lowA c h
    · rw [List.mem_singleton.mp h]; exact R.none ha
  · rw [List.length_append, List.length_append, R.hr.len]; rfl
  · rw [List.nodup_append]
    refine ⟨R.hr.nodup, by simp, fun c hc d hd => ?_⟩
    rw [List.mem_singleton.mp hd]
    rintro rfl
    refine ex2_2 (R.hr.isList c hc) fun its o ho _ => ?_
    rw [ha] at ho; cases ho
  · have e' : (mem ++ [vs])[i]? = some l := e
    by_cases hi : i < mem.length
    · rw [List.getElem?_append_left hi] at e'
      refine ex2_4 (R'.hr.at_ i l e') fun c items h1 h2 h3 h4 => ?_
      exact ⟨c, items, Pre.snoc _ _ i c h1, h2, up h3, h4⟩
    · have hi' : i = mem.length := by
        have := (List.getElem?_eq_some_iff.mp e').1
        rw [List.length_append, List.length_singleton] at this
        exact ar291 hi this
      subst hi'
      rw [List.getElem?_append_right (Nat.le_refl _), Nat.sub_self] at e'
      cases e'
      refine ⟨a, items, ?_, hl.isList, up hv, fun _ => hl⟩
      rw [← R.hr.len, List.getElem?_append_right (Nat.le_refl _), Nat.sub_self]; rfl
  · rcases List.mem_append.mp hc with h | h
    · exact .inl h
    · exact .inr (by rw [List.mem_singleton.mp h]; exact ha)
theorem OutE.setList {i : Nat} {a : Addr} {vs : List V} {items items' : Array Value} {h' : Heap} {n : Nat} (R : RelM b s.heap ad mem) (ha : ad[i]? = some a) (hl : s.heap.IsList a items)
    (hl' : h'.PlainList a items') (hs : Heap.SameBut a s.heap h') (hv : VRs s.heap ad vs items'.toList) : OutE b s ad { s with heap := h', toks := n } ad (mem.set i vs) := by
  have ma : a ∈ ad := List.mem_of_getElem? ha
  have hk : ∀ c o, c ≠ a → s.heap.get? c = some o → h'.get? c = some o := fun c o hc e => (hs.2 c hc).trans e
  have hW : ∀ x, x = a → ∀ its, ¬ s.heap.IsTuple x its := by
    rintro x rfl; exact not_tuple_of_list hl
  have up : ∀ {v x}, VRs s.heap ad v x → VRs h' ad v x := fun h => VRs.keep (W := (· = a)) (fun c o hc e => hk c o hc e) hW (Pre.refl _) h
  obtain ⟨hi, ea⟩ := List.getElem?_eq_some_iff.mp ha
  have hlen := R.hr.len
  refine ⟨⟨fun c o e => hk c o ?_ (R.base c o e), R.lowA, ⟨?_, R.hr.nodup, fun j l e => ?_⟩, fun c hc => (R.tabs c hc).but (W := (· = a)) (fun c o hc e => hk c o hc e) (fun c hc => by rw [hc]; exact NotF.list hl)⟩, Pre.refl _, fun c o hc e => hk c o (fun q => hc (.inl (by rw [q]; exact ma))) e, fun c hc => .inl hc, rfl, rfl, rfl⟩
  · rintro rfl
    rw [R.lowA c ma] at e; cases e
  · rw [List.length_set]; exact hlen
  · have e' : (mem.set i vs)[j]? = some l := e
    by_cases hj : i = j
    · subst hj
      rw [List.getElem?_set_self (ar290 hi hlen)] at e'
      cases e'
      exact ⟨a, items', ha, hl'.isList, up hv, fun _ => hl'⟩
    · rw [List.getElem?_set_ne hj] at e'
      refine ex2_4 (R.hr.at_ j l e') fun c its h1 h2 h3 h4 => ?_
      have hca : c ≠ a := by
        rintro rfl
        obtain ⟨hj', ec⟩ := List.getElem?_eq_some_iff.mp h1
        exact hj ((List.getElem_inj R.hr.nodup).mp (ea.trans ec.symm))
      exact ⟨c, its, h1, list_keep h2 fun o e => hk c o hca e, up h3, fun h0 => (h4 h0).at fun o e => hk c o hca e⟩
end Mine
end

namespace Mine
noncomputable def sEq (x y : Str) : Bool := x.cps.toList == y.cps.toList
theorem sEq_iff {x y : Str} : sEq x y = true ↔ x = y := by
  unfold sEq
  rw [beq_iff_eq]
  constructor
  · intro h; cases x; cases y; simp only at h; congr; exact Array.toList_inj.mp h
  · rintro rfl; rfl
noncomputable def lkb {α : Type} (x : Str) : List (Str × α) → Option α
  | [] => none
  | (y, v) :: l => cond (sEq x y) (some v) (lkb x l)
theorem lkb_eq {α : Type} (x : Str) : ∀ l : List (Str × α), lkb x l = l.lookup x
  | [] => rfl
  | (y, v) :: l => by
    rw [lkb, List.lookup_cons, lkb_eq x l]
    cases h : sEq x y with
    | true => have e := sEq_iff.mp h; subst e; simp
    | false =>
      have : ¬ x = y := fun e => by rw [sEq_iff.mpr e] at h; cases h
      have h' : (x == y) = false := beq_eq_false_iff_ne.mpr this
      rw [h']; rfl
noncomputable def putL (x : Str) (v : V) : Loc → Loc
  | [] => [(x, v)]
  | (y, u) :: l => cond (sEq x y) ((x, v) :: l) ((y, u) :: putL x v l)
theorem putL_lookup (x : Str) (v : V) (y : Str) : ∀ l : Loc, (putL x v l).lookup y = if y = x then some v else l.lookup y
  | [] => by
    simp only [putL, List.lookup_cons, List.lookup_nil]
    by_cases h : y = x
    · subst h; simp
    · have h' : (y == x) = false := beq_eq_false_iff_ne.mpr h
      rw [h', if_neg h]
  | (z, u) :: l => by
    have ih := putL_lookup x v y l
    simp only [putL]
    cases h : sEq x z with
    | true =>
      have e := sEq_iff.mp h
      subst e
      rw [cond_true]
      by_cases hy : y = x
      · subst hy; simp
      · have h' : (y == x) = false := beq_eq_false_iff_ne.mpr hy
        rw [List.lookup_cons, h', if_neg hy, List.lookup_cons, h']
    | false =>
      rw [cond_false]
      by_cases hz : y = z
      · subst hz
        have : ¬ y = x := fun e => by rw [sEq_iff.mpr e.symm] at h; cases h
        simp [this]
      · have hz' : (y == z) = false := by simpa using hz
        rw [List.lookup_cons, hz', List.lookup_cons, hz', ih]
noncomputable def small (a : Int) : Bool := decide (a.natAbs < 2 ^ 64)
noncomputable def opI : Operator → Int → Int → Option Int
  | .Add, a, b => some (a + b)
  | .Sub, a, b => some (a - b)
  | .Mult, a, b => cond (small a) (some (a * b)) none
  | .FloorDiv, a, b => cond (small b && !(b == 0)) (some (a.fdiv b)) none
  | .Mod, a, b => cond (b == 0) none (some (a.fmod b))
  | .LShift, a, b => cond (small a && decide (0 ≤ b) && decide (b ≤ 1000)) (some (a * 2 ^ b.toNat)) none
  | _, _, _ => none
noncomputable def lit (n : Nat) : Bool := decide (n ≤ 1000)
noncomputable def repS (l : List Nat) : Nat → List Nat
  | 0 => []
  | n + 1 => l ++ repS l n
noncomputable def opV (op : Operator) (a b : V) (mem : Mem) : Option (V × Mem) :=
  match a, b with
  | .int x, .int y => (opI op x y).map fun c => (.int c, mem)
  | .str x, .str y => match op with
    | .Add => cond (lit x.length && lit y.length) (some (.str (x ++ y), mem)) none
    | _ => none
  | .str x, .int n => match op with
    | .Mult => cond (lit x.length && decide (0 ≤ n) && decide (n ≤ 1000)) (some (.str (repS x n.toNat), mem)) none
    | _ => none
  | .list i, .list j => match op with
    | .Add => match mem[i]?, mem[j]? with
      | some l, some m => cond (lit l.length && lit m.length) (some (.list mem.length, mem ++ [l ++ m])) none
      | _, _ => none
    | _ => none
  | _, _ => none
noncomputable def unV : UnaryOp → V → Option V
  | .USub, .int a => some (.int (-a))
  | .Invert, .int a => some (.int (-a - 1))
  | _, _ => none
noncomputable def intsOf : List V → Option (List Int)
  | [] => some []
  | .int i :: l => (intsOf l).map (i :: ·)
  | _ => none
noncomputable def strsOf : List V → Option (List (List Nat))
  | [] => some []
  | .str i :: l => (strsOf l).map (i :: ·)
  | _ => none
noncomputable def tupsOf : List V → Option (List (List Int))
  | [] => some []
  | .tup t :: l => (intsOf t).bind fun i => (tupsOf l).map (i :: ·)
  | _ => none
noncomputable def cmpI : CmpOp → Int → Int → Option Bool
  | .Eq, a, b => some (a == b)
  | .NotEq, a, b => some (!(a == b))
  | .Lt, a, b => some (decide (a < b))
  | .LtE, a, b => some (decide (a ≤ b))
  | .Gt, a, b => some (decide (b < a))
  | .GtE, a, b => some (decide (b ≤ a))
  | _, _, _ => none
noncomputable def ltI : List Int → List Int → Bool
  | [], [] => false
  | [], _ :: _ => true
  | _ :: _, [] => false
  | a :: l, b :: m => cond (a == b) (ltI l m) (decide (a < b))
noncomputable def eqNe (op : CmpOp) (c : Bool) : Option Bool :=
  match op with
  | .Eq => some c
  | .NotEq => some (!c)
  | _ => none
noncomputable def okS (l : List Nat) : Bool := l.all fun c => decide (c < 1114112)
noncomputable def eqL (l m : List V) : Option Bool :=
  match intsOf l, intsOf m with
  | some x, some y => some (x == y)
  | _, _ => match strsOf l, strsOf m with
    | some x, some y => cond (x.all okS && y.all okS) (some (x == y)) none
    | _, _ => match tupsOf l, tupsOf m with
      | some x, some y => some (x == y)
      | _, _ => none
noncomputable def isNone : V → Bool
  | .none => true
  | _ => false
noncomputable def cmpV (op : CmpOp) (a b : V) (mem : Mem) : Option Bool :=
  match b with
  | .none => match op with
    | .Is => some (isNone a)
    | _ => none
  | .int y => match a with
    | .int x => cmpI op x y
    | _ => none
  | .str y => match a with
    | .str x => eqNe op (x == y)
    | _ => none
  | .tup m => match a with
    | .tup l => match intsOf l, intsOf m with
      | some x, some y => match op with
        | .Lt => some (ltI x y)
        | _ => eqNe op (x == y)
      | _, _ => none
    | _ => none
  | .list j => match a with
    | .list i => match mem[i]?, mem[j]? with
      | some l, some m => cond (i == j) none ((eqL l m).bind (eqNe op))
      | _, _ => none
    | _ => none
  | _ => none
noncomputable def idxV (a i : V) (mem : Mem) : Option V :=
  match a, i with
  | .list j, .int k => cond (decide (0 ≤ k) && decide (k < 2 ^ 63)) ((mem[j]?).bind (·[k.toNat]?)) none
  | .tup l, .int k => cond (decide (0 ≤ k) && decide (k < 2 ^ 63)) (l[k.toNat]?) none
  | _, _ => none
noncomputable def cut {α : Type} (l : List α) (lo hi : Option Int) : Option (List α) :=
  match lo, hi with
  | some k, none => cond (decide (0 ≤ k) && decide (k < 2 ^ 60)) (some (l.drop k.toNat)) none
  | none, some k => cond (decide (0 ≤ k) && decide (k < 2 ^ 60)) (some (l.take k.toNat)) (cond (k == -1) (some (l.take (l.length - 1))) none)
  | _, _ => none
noncomputable def sliV (a : V) (lo hi : Option Int) (mem : Mem) : Option (V × Mem) :=
  match a with
  | .list j => (mem[j]?).bind fun l => cond (decide (l.length ≤ 2097152)) ((cut l lo hi).map fun m => (.list mem.length, mem ++ [m])) none
  | .str l => cond (lit l.length) ((cut l lo hi).map fun m => (.str m, mem)) none
  | _ => none
noncomputable def insI' (x : Int) : List Int → List Int
  | [] => [x]
  | y :: l => cond (decide (x ≤ y)) (x :: y :: l) (y :: insI' x l)
noncomputable def sortI' : List Int → List Int
  | [] => []
  | x :: l => insI' x (sortI' l)
noncomputable def kasRunO {α : Type} (n : Nat) (lt : Nat → Nat → Bool) : KasT α → Option α
  | .ret a => some a
  | .ask i j k => cond (decide (i < n) && decide (j < n)) (kasRunO n lt (k (lt i j))) none
noncomputable def permS (x : List (List Int)) : Option (List Nat) := (kasRunO x.length (fun i j => ltI (x.getD i []) (x.getD j [])) (kas_sort x.length)).bind fun p => cond (p.toList.all fun i => decide (i < x.length)) (some p.toList) none
noncomputable def sortP (x : List (List Int)) : Option (List (List Int)) := cond (x.length == 1) (some x) ((permS x).map fun p => p.map fun i => x.getD i [])
noncomputable def bitsOf (a : Int) : Nat := Builtin.Int.intBits a
noncomputable def sumI : List Int → Int
  | [] => 0
  | x :: l => x + sumI l
noncomputable def bltV (id : String) (vs : List V) (mem : Mem) : Option (V × Mem) :=
  cond (id == "len") (match vs with
    | [.list j] => (mem[j]?).bind fun l => cond (lit l.length) (some (.int l.length, mem)) none
    | _ => none) <|
  cond (id == "chr") (match vs with
    | [.int i] => cond (decide (0 ≤ i) && decide (i ≤ 1114111)) (some (.str [i.toNat], mem)) none
    | _ => none) <|
  cond (id == "sum") (match vs with
    | [.list j] => (mem[j]?).bind fun l => (intsOf l).bind fun x => cond (lit x.length && x.all fun i => decide (0 ≤ i) && decide (i ≤ 2 ^ 40)) (some (.int (sumI x), mem)) none
    | _ => none) <|
  cond (id == "sorted") (match vs with
    | [.list j] => (mem[j]?).bind fun l => cond (decide (l.length < 64)) (match intsOf l with
      | some x => some (.list mem.length, mem ++ [(sortI' x).map .int])
      | none => (tupsOf l).bind fun x => cond (decide (1 ≤ l.length) && decide (l.length < 10) && x.all fun t => t.length == 3) ((sortP x).map fun y => (.list mem.length, mem ++ [y.map fun t => .tup (t.map .int)])) none) none
    | _ => none) <|
  cond (id == "divmod") (match vs with
    | [.int a, .int c] => cond (small c && decide (0 < c)) (some (.tup [.int (a.fdiv c), .int (a.fmod c)], mem)) none
    | _ => none) none
noncomputable def insAt {α : Type} (l : List α) (k : Nat) (x : α) : List α := l.take k ++ x :: l.drop k
noncomputable def methV (name : Str) (o : V) (vs : List V) (mem : Mem) : Option (V × Mem) :=
  match o with
  | .list j => (mem[j]?).bind fun l => cond (lit l.length && !(j == 0)) (
      cond (sEq name "append") (match vs with
        | [v] => some (.none, mem.set j (l ++ [v]))
        | _ => none) <|
      cond (sEq name "insert") (match vs with
        | [.int k, v] => cond (decide (0 ≤ k) && decide (k ≤ l.length)) (some (.none, mem.set j (insAt l k.toNat v))) none
        | _ => none) <|
      cond (sEq name "reverse") (match vs with
        | [] => some (.none, mem.set j l.reverse)
        | _ => none) none) none
  | .int a => cond (sEq name "bit_length") (match vs with
        | [] => some (.int (bitsOf a), mem)
        | _ => none) none
  | .str l => cond (lit l.length) (
      cond (sEq name "count") (match vs with
        | [.str m] => some (.int (Txt.count (mkS l) (mkS m)), mem)
        | _ => none) <|
      cond (sEq name "split") (match vs with
        | [.str m] => cond (m.isEmpty) none (some (.list mem.length, mem ++ [(Txt.split (mkS l) (mkS m)).map fun x => .str x.cps.toList]))
        | _ => none) <|
      cond (sEq name "join") (match vs with
        | [.list j] => (mem[j]?).bind fun m => (strsOf m).bind fun x => cond (JoinOk (mkS l) (x.map mkS)) (some (.str (Txt.join (mkS l) (x.map mkS)).cps.toList, mem)) none
        | _ => none) none) none
  | _ => none
inductive Ctl where
  | next
  | ret (v : V)
inductive Wk where
  | lst (i k : Nat)
  | rev (i k : Nat)
  | rng (l : List Int)
  | chars (l : List Nat)
structure Rec where
  E : Scope → PySem.Expr → Loc → Mem → Option (V × Mem)
  Es : Scope → List PySem.Expr → Loc → Mem → Option (List V × Mem)
  T : Scope → PySem.Expr → Loc → Mem → Option (Bool × Mem)
  I : Scope → PySem.Expr → Loc → Mem → Option (Wk × Mem)
  S : Scope → Stmt → Loc → Mem → Option (Ctl × Loc × Mem)
  Ss : Scope → List Stmt → Loc → Mem → Option (Ctl × Loc × Mem)
  W : Scope → PySem.Expr → List Stmt → Loc → Mem → Option (Ctl × Loc × Mem)
  F : Scope → Str → Wk → List Stmt → Loc → Mem → Option (Ctl × Loc × Mem)
noncomputable def cV : Const → Option V
  | .int i => some (.int i)
  | .str s => some (.str s.cps.toList)
  | .bool c => some (.bool c)
  | .none => some .none
  | _ => none
noncomputable def nameV (b : Base) (sc : Scope) (x : Str) (loc : Loc) : Option V :=
  cond (sEq x "__debug__") none (match lkb x sc.names with
    | some .local => lkb x loc
    | some .cell => lkb x loc
    | some .globalImplicit => b.glob x
    | _ => none)
noncomputable def plainE (e : PySem.Expr) : Bool := !(Nat.beq e.ctorIdx (PySem.Expr.Starred default default).ctorIdx)
noncomputable def flat : V → Bool
  | .int _ => true
  | .str _ => true
  | _ => false
noncomputable def cutI : Option V → Option (Option Int)
  | none => some none
  | some (.int i) => some (some i)
  | _ => none
noncomputable def rangeL (lo : Int) : Nat → List Int
  | 0 => []
  | n + 1 => lo :: rangeL (lo + 1) n
noncomputable def relabelS (scope sc : Scope) : Scope :=
  { scope with names := scope.names.map fun (n, k) => if (k == .free && sc.kind == .function && sc.names.lookup n == some .cell) then (n, .cell) else (n, k) }
noncomputable def compOk (scope sc : Scope) (x : Str) : Bool :=
  scope.kind == .function && scope.names.all (fun y => y.2 != .cell && (y.2 != .local || scope.names.lookup y.1 == some .local) && (y.2 != .free || sc.names.lookup y.1 == some .cell)) && scope.names.lookup x == some .local && decide ((scope.names.filter fun y => y.2 == .free).length ≤ 1)
noncomputable def freeL (scope : Scope) (loc : Loc) : Loc := loc.filter fun y => lkb y.1 scope.names == some .free
noncomputable def itemsOf (mem : Mem) : Wk → Option (List V)
  | .lst i k => (mem[i]?).map fun l => l.drop k
  | .rng l => some (l.map .int)
  | .chars l => some (l.map fun c => .str [c])
  | _ => none
noncomputable def isCall (e : PySem.Expr) : Bool := Nat.beq e.ctorIdx (PySem.Expr.Call default [] [] default).ctorIdx
noncomputable def isSet (e : PySem.Expr) : Bool := Nat.beq e.ctorIdx (PySem.Expr.Set [] 0 default).ctorIdx
noncomputable def compGo (t : V → Option Bool) (f : V → Option V) : List V → Option (List V)
  | [] => some []
  | x :: l => cond (flat x) ((t x).bind fun c => cond c ((f x).bind fun y => cond (flat y) ((compGo t f l).map (y :: ·)) none) (compGo t f l)) none
noncomputable def noMem {α : Type} : Option (α × Mem) → Option α
  | some (a, []) => some a
  | _ => none
noncomputable def testsGo (r : Rec) (sc : Scope) (loc : Loc) : List PySem.Expr → Option Bool
  | [] => some true
  | [t] => noMem (r.T sc t loc [])
  | _ => none
noncomputable def signs : List Nat := [65529, 65530, 65531, 65532, 65533]
noncomputable def letters : List (Nat × List Nat) := [(46, [46]), (115, [115]), (83, [115]), (383, [115]), (119826, [115]), (116, [116]), (84, [116]), (119827, [116]), (119879, [116]), (64261, [115, 116]), (64262, [115, 116])]
noncomputable def lkL (c : Nat) : List (Nat × List Nat) → Option (List Nat)
  | [] => none
  | (d, r) :: l => cond (c == d) (some r) (lkL c l)
noncomputable def orcS (f : Addr) (vs : List V) (mem : Mem) : Option (V × Mem) :=
  cond (f == 172) (match vs with
    | [.str [c]] => (lkL c letters).map fun r => (.str r, mem)
    | _ => none) <|
  cond (f == 184) (match vs with
    | [.str [c]] => cond (signs.contains c) (some (.bool true, mem)) ((lkL c letters).map fun _ => (.bool false, mem))
    | _ => none) none
noncomputable def strong (b : Base) : Base := ⟨b.H, b.glob, orcS⟩
noncomputable def stepE (b : Base) (r rS : Rec) (sc : Scope) (e : PySem.Expr) (loc : Loc) (mem : Mem) : Option (V × Mem) :=
  match e with
  | .Constant c _ _ => (cV c).map fun v => (v, mem)
  | .Name x _ => (nameV b sc x loc).map fun v => (v, mem)
  | .BinOp l op x _ => (r.E sc l loc mem).bind fun p => (r.E sc x loc p.2).bind fun q => opV op p.1 q.1 q.2
  | .UnaryOp op x _ => (r.E sc x loc mem).bind fun p => (unV op p.1).map fun v => (v, p.2)
  | .IfExp t x y _ => (r.T sc t loc mem).bind fun p => cond p.1 (r.E sc x loc p.2) (r.E sc y loc p.2)
  | .Tuple es _ _ => (r.Es sc es loc mem).bind fun p => cond (lit p.1.length) (some (.tup p.1, p.2)) none
  | .List es _ => (r.Es sc es loc mem).bind fun p => cond (lit p.1.length) (some (.list p.2.length, p.2 ++ [p.1])) none
  | .Subscript v i _ => (r.E sc v loc mem).bind fun p => match i with
    | .Slice lo hi none _ => match lo, hi with
      | some l, none => (r.E sc l loc p.2).bind fun q => (cutI (some q.1)).bind fun k => sliV p.1 k none q.2
      | none, some u => (r.E sc u loc p.2).bind fun q => (cutI (some q.1)).bind fun k => sliV p.1 none k q.2
      | _, _ => none
    | .Slice .. => none
    | j => (r.E sc j loc p.2).bind fun q => (idxV p.1 q.1 q.2).map fun v => (v, q.2)
  | .Call f args [] pos => match f with
    | .Name x _ => match args with
      | a :: as => (nameV b sc x loc).bind fun g => (r.Es sc (a :: as) loc mem).bind fun p => cond ((a :: as).all plainE) (match g with
        | .ref ad => b.orc ad p.1 p.2
        | .blt id => bltV id p.1 p.2
        | _ => none) none
      | [] => none
    | .Attribute o name apos => cond (!isCall o && apos.endLine == pos.line && decide (args.length < 3) && args.all plainE) ((r.E sc o loc mem).bind fun p => (r.Es sc args loc p.2).bind fun q => methV name p.1 q.1 q.2) none
    | _ => none
  | .ListComp elt gs scope _ => match gs with
    | [⟨.Name x _, it, ifs, 0⟩] => cond (decide (ifs.length ≤ 1) && compOk scope sc x && !isSet it && (freeL scope loc).all fun y => flat y.2) ((r.I sc it loc mem).bind fun p => (itemsOf p.2 p.1).bind fun l => cond (lit l.length)
        ((compGo (fun u => testsGo rS (relabelS scope sc) ((x, u) :: freeL scope loc) ifs) (fun u => noMem (rS.E (relabelS scope sc) elt ((x, u) :: freeL scope loc) [])) l).map fun m => (.list p.2.length, p.2 ++ [m])) none) none
    | _ => none
  | _ => none
noncomputable def stepEs (r : Rec) (sc : Scope) (es : List PySem.Expr) (loc : Loc) (mem : Mem) : Option (List V × Mem) :=
  match es with
  | [] => some ([], mem)
  | e :: es => cond (plainE e) ((r.E sc e loc mem).bind fun p => (r.Es sc es loc p.2).map fun q => (p.1 :: q.1, q.2)) none
noncomputable def stepT (r : Rec) (sc : Scope) (e : PySem.Expr) (loc : Loc) (mem : Mem) : Option (Bool × Mem) :=
  match e with
  | .UnaryOp .Not x _ => (r.T sc x loc mem).map fun p => (!p.1, p.2)
  | .BoolOp .And [x, y] _ => (r.T sc x loc mem).bind fun p => cond p.1 (r.T sc y loc p.2) (some (false, p.2))
  | .BoolOp .Or [x, y] _ => (r.T sc x loc mem).bind fun p => cond p.1 (some (true, p.2)) (r.T sc y loc p.2)
  | .Compare l [op] [x] _ => cond (behindInMarks op x) none ((r.E sc l loc mem).bind fun p => (r.E sc x loc p.2).bind fun q => (cmpV op p.1 q.1 q.2).map fun c => (c, q.2))
  | .Compare l [o1, o2] [x, y] _ => cond (behindInMarks o2 y) none ((r.E sc l loc mem).bind fun p => (r.E sc x loc p.2).bind fun q => (cmpV o1 p.1 q.1 q.2).bind fun c => cond c ((r.E sc y loc q.2).bind fun u => (cmpV o2 q.1 u.1 u.2).map fun c => (c, u.2)) (some (false, q.2)))
  | .Call f a k p => (r.E sc (.Call f a k p) loc mem).bind fun p => match p.1 with
    | .bool c => some (c, p.2)
    | _ => none
  | _ => none
noncomputable def isRange (b : Base) (sc : Scope) (loc : Loc) : PySem.Expr → Option (String × List PySem.Expr)
  | .Call (.Name x _) (a :: as) [] _ => match nameV b sc x loc with
    | some (.typ T) => cond ((a :: as).all plainE) (some (T, a :: as)) none
    | _ => none
  | _ => none
noncomputable def stepI (b : Base) (r : Rec) (sc : Scope) (e : PySem.Expr) (loc : Loc) (mem : Mem) : Option (Wk × Mem) :=
  match isRange b sc loc e with
  | some (T, args) => (r.Es sc args loc mem).bind fun p =>
      cond (T == "range") (match p.1 with
        | [.int n] => cond (decide (0 ≤ n) && decide (n ≤ 1000)) (some (.rng (rangeL 0 n.toNat), p.2)) none
        | [.int m, .int n] => cond (decide (0 ≤ m) && decide (n ≤ 1000) && decide (m ≤ n)) (some (.rng (rangeL m (n - m).toNat), p.2)) none
        | _ => none) (cond (T == "reversed") (match p.1 with
        | [.list i] => (p.2[i]?).map fun l => (.rev i l.length, p.2)
        | _ => none) none)
  | none => cond (isSet e) none ((r.E sc e loc mem).bind fun p => match p.1 with
    | .list i => some (.lst i 0, p.2)
    | .str l => some (.chars l, p.2)
    | _ => none)
noncomputable def kindOk (sc : Scope) (x : Str) : Bool :=
  match lkb x sc.names with
  | some .local => true
  | some .cell => true
  | _ => false
noncomputable def isComp (e : PySem.Expr) : Bool := Nat.beq e.ctorIdx (PySem.Expr.ListComp default [] default default).ctorIdx || Nat.beq e.ctorIdx (PySem.Expr.SetComp default [] default default).ctorIdx || Nat.beq e.ctorIdx (PySem.Expr.DictComp default default [] default default).ctorIdx
noncomputable def namesOf : List PySem.Expr → Option (List Str)
  | [] => some []
  | .Name x _ :: l => (namesOf l).map (x :: ·)
  | _ => none
noncomputable def swapS (sc : Scope) (ts : List PySem.Expr) (v : PySem.Expr) : Option (Option (List Str)) :=
  match v with
  | .Tuple vs _ _ =>
    cond (!(ts.length == 2 || ts.length == 3) || vs.length != ts.length) (some none) <|
    cond (vs.any fun e => !plainE e) (some none) <|
    let names := ts.filterMap fun
      | .Name id pos => if sc.names.lookup id == some .local && pos.line == (ts.head?.map (·.pos.line)).getD 0 then some id else none
      | _ => none
    cond (names.length != ts.length || names.eraseDups.length != names.length) (some none) <|
    cond (vs.all (foldedForSure 8)) (some none) <|
    cond (vs.all (constantsAlone 8)) none (some (some names))
  | _ => some none
noncomputable def putAll (sc : Scope) : List Str → List V → Loc → Option Loc
  | [], [], loc => some loc
  | x :: xs, v :: vs, loc => cond (kindOk sc x) (putAll sc xs vs (putL x v loc)) none
  | _, _, _ => none
noncomputable def stepS (r rS : Rec) (sc : Scope) (s : Stmt) (loc : Loc) (mem : Mem) : Option (Ctl × Loc × Mem) :=
  match s with
  | .Assign ts v pos => match ts with
    | [.Name x xp] => cond (kindOk sc x) (cond (isComp v) (match v with
        | .ListComp elt gs scope p => (match gs with
          | [⟨.Name y _, it, ifs, 0⟩] => cond (xp.line == p.line && lkb x sc.names == some .local && !(scope.names.any fun (n, k) => n == x && (k == .local || k == .cell)) && decide (ifs.length ≤ 1) && compOk scope sc y && !isSet it && (freeL scope loc).all fun z => flat z.2) ((r.I sc it loc mem).bind fun q => (itemsOf q.2 q.1).bind fun l => cond (lit l.length)
              ((compGo (fun u => testsGo rS (relabelS scope sc) ((y, u) :: freeL scope loc) ifs) (fun u => noMem (rS.E (relabelS scope sc) elt ((y, u) :: freeL scope loc) [])) l).map fun m => (.next, putL x (.list q.2.length) loc, q.2 ++ [m])) none) none
          | _ => none)
        | _ => none) ((r.E sc v loc mem).map fun q => (.next, putL x q.1 loc, q.2))) none
    | [.Tuple es _ _] => cond (isComp v) none ((r.E sc v loc mem).bind fun p => match p.1 with
        | .tup l => (namesOf es).bind fun xs => (swapS sc es v).bind fun sw => match sw with
          | none => (putAll sc xs l loc).map fun loc' => (.next, loc', p.2)
          | some ns => cond (ns.length == l.length) ((putAll sc ns.reverse l.reverse loc).map fun loc' => (.next, loc', p.2)) none
        | _ => none)
    | _ => none
  | .If t x y _ => (r.T sc t loc mem).bind fun p => cond p.1 (r.Ss sc x loc p.2) (r.Ss sc y loc p.2)
  | .While t x [] _ => r.W sc t x loc mem
  | .For (.Name x _) it body [] _ => cond (isSet it) none ((r.I sc it loc mem).bind fun p => r.F sc x p.1 body loc p.2)
  | .Return (some e) _ => (r.E sc e loc mem).map fun p => (.ret p.1, loc, p.2)
  | .Expr e _ => (r.E sc e loc mem).bind fun p => cond (isNone p.1 && !isComp e) (some (.next, loc, p.2)) none
  | _ => none
noncomputable def stepSs (r : Rec) (sc : Scope) (ss : List Stmt) (loc : Loc) (mem : Mem) : Option (Ctl × Loc × Mem) :=
  match ss with
  | [] => some (.next, loc, mem)
  | s :: ss => (r.S sc s loc mem).bind fun p => match p.1 with
    | .next => r.Ss sc ss p.2.1 p.2.2
    | .ret v => some (.ret v, p.2.1, p.2.2)
noncomputable def stepW (r : Rec) (sc : Scope) (t : PySem.Expr) (body : List Stmt) (loc : Loc) (mem : Mem) : Option (Ctl × Loc × Mem) :=
  (r.T sc t loc mem).bind fun p => cond p.1 ((r.Ss sc body loc p.2).bind fun q => match q.1 with
    | .next => r.W sc t body q.2.1 q.2.2
    | .ret v => some (.ret v, q.2.1, q.2.2)) (some (.next, loc, p.2))
noncomputable def nextW (mem : Mem) : Wk → Option (Option (V × Wk))
  | .lst i k => (mem[i]?).map fun l => match l[k]? with
    | none => none
    | some v => some (v, .lst i (k + 1))
  | .rev _ 0 => some none
  | .rev i (k + 1) => (mem[i]?).bind fun l => (l[k]?).map fun v => some (v, .rev i k)
  | .rng [] => some none
  | .rng (x :: l) => some (some (.int x, .rng l))
  | .chars [] => some none
  | .chars (c :: l) => some (some (.str [c], .chars l))
noncomputable def stepF (r : Rec) (sc : Scope) (x : Str) (k : Wk) (body : List Stmt) (loc : Loc) (mem : Mem) : Option (Ctl × Loc × Mem) :=
  (nextW mem k).bind fun n => match n with
  | none => some (.next, loc, mem)
  | some (v, k') => cond (kindOk sc x) ((r.Ss sc body (putL x v loc) mem).bind fun q => match q.1 with
    | .next => r.F sc x k' body q.2.1 q.2.2
    | .ret v => some (.ret v, q.2.1, q.2.2)) none
noncomputable def step (b : Base) (r rS : Rec) : Rec := ⟨stepE b r rS, stepEs r, stepT r, stepI b r, stepS r rS, stepSs r, stepW r, stepF r⟩
noncomputable def bot : Rec := ⟨fun _ _ _ _ => none, fun _ _ _ _ => none, fun _ _ _ _ => none, fun _ _ _ _ => none, fun _ _ _ _ => none, fun _ _ _ _ => none, fun _ _ _ _ _ => none, fun _ _ _ _ _ _ => none⟩
noncomputable def run : Base → Nat → Rec
  | _, 0 => bot
  | b, n + 1 => step b (run b n) (run (strong b) n)
end Mine

section
namespace Mine
section
variable {α β γ δ : Type} {C : Prop}
theorem bE {x : Option α} {f : α → Option β} {r : β} (h : x.bind f = some r) (k : ∀ a, x = some a → f a = some r → C) : C := by
  induction x using Option.casesOn with
  | none => cases h
  | some a => exact k a rfl h
theorem bE2 {x : Option (α × γ)} {f : α × γ → Option β} {r : β} (h : x.bind f = some r) (k : ∀ a m, x = some (a, m) → f (a, m) = some r → C) : C := bE h fun a => k a.1 a.2
theorem bE3 {x : Option (α × γ × δ)} {f : α × γ × δ → Option β} {r : β} (h : x.bind f = some r) (k : ∀ a l m, x = some (a, l, m) → f (a, l, m) = some r → C) : C := bE h fun a => k a.1 a.2.1 a.2.2
theorem mE {x : Option α} {f : α → β} {r : β} (h : x.map f = some r) (k : ∀ a, x = some a → f a = r → C) : C := by
  induction x using Option.casesOn with
  | none => cases h
  | some a => exact k a rfl (Option.some.inj h)
theorem mE2 {C : α → γ → Prop} {x : Option β} {f : β → α × γ} {v : α} {m : γ} (h : x.map f = some (v, m)) (k : ∀ u, x = some u → C (f u).1 (f u).2) : C v m := mE h fun u h1 h2 => by have := k u h1; rw [h2] at this; exact this
theorem mE22 {C : α → γ → Prop} {x : Option (β × δ)} {f : β × δ → α × γ} {v : α} {m : γ} (h : x.map f = some (v, m)) (k : ∀ u q, x = some (u, q) → C (f (u, q)).1 (f (u, q)).2) : C v m := mE2 h fun u => k u.1 u.2
theorem mE3 {C : α → γ → δ → Prop} {x : Option β} {f : β → α × γ × δ} {v : α} {l : γ} {m : δ} (h : x.map f = some (v, l, m)) (k : ∀ u, x = some u → C (f u).1 (f u).2.1 (f u).2.2) : C v l m := mE h fun u h1 h2 => by have := k u h1; rw [h2] at this; exact this
theorem kE {c : Bool} {x : Option α} {r : α} (h : cond c x none = some r) (k : c = true → x = some r → C) : C := by
  induction c using Bool.casesOn with
  | true => exact k rfl h
  | false => cases h
theorem kE' {c : Bool} {x : Option α} {r : α} (h : cond c none x = some r) (k : c = false → x = some r → C) : C := by
  induction c using Bool.casesOn with
  | true => cases h
  | false => exact k rfl h
theorem nE {r : α} (h : none = some r) : C := nomatch h
theorem sE2 {C : α → γ → Prop} {a v : α} {b m : γ} (h : some (a, b) = some (v, m)) (k : C a b) : C v m := by cases h; exact k
theorem sE1 {C : α → Prop} {a v : α} (h : some a = some v) (k : C a) : C v := by cases h; exact k
theorem sE3 {C : α → γ → δ → Prop} {a v : α} {b m : γ} {c n : δ} (h : some (a, b, c) = some (v, m, n)) (k : C a b c) : C v m n := by cases h; exact k
theorem cutE {C : V → Option Int → Prop} {q : V} {k : Option Int} (h : cutI (some q) = some k) (kk : ∀ i, C (.int i) (some i)) : C q k := by
  induction q using Mine.V.casesOn with
  | int i => exact sE1 h (kk i)
  | _ => exact nE h
theorem a2 {a b : Bool} (h : (a && b) = true) (k : a = true → b = true → C) : C := by
  induction a using Bool.casesOn with
  | true => exact k rfl h
  | false => cases h
theorem nT {a : Bool} (h : (!a) = true) : a = false := by cases a; rfl; cases h
theorem tE {x y r : α} (h : cond true x y = r) : x = r := h
theorem fE {x y r : α} (h : cond false x y = r) : y = r := h
theorem intsOf_cons {v : V} {l : List V} {x : List Int} (h : intsOf (v :: l) = some x) : ∃ i y, v = .int i ∧ intsOf l = some y ∧ x = i :: y := by
  induction v using Mine.V.casesOn with
  | int i => exact mE h fun y hy e => ⟨i, y, rfl, hy, e.symm⟩
  | _ => exact nE h
theorem strsOf_cons {v : V} {l : List V} {x : List (List Nat)} (h : strsOf (v :: l) = some x) : ∃ i y, v = .str i ∧ strsOf l = some y ∧ x = i :: y := by
  induction v using Mine.V.casesOn with
  | str i => exact mE h fun y hy e => ⟨i, y, rfl, hy, e.symm⟩
  | _ => exact nE h
theorem tupsOf_cons {v : V} {l : List V} {x : List (List Int)} (h : tupsOf (v :: l) = some x) : ∃ t i y, v = .tup t ∧ intsOf t = some i ∧ tupsOf l = some y ∧ x = i :: y := by
  induction v using Mine.V.casesOn with
  | tup t => exact bE h fun i hi h => mE h fun y hy e => ⟨t, i, y, rfl, hi, hy, e.symm⟩
  | _ => exact nE h
theorem namesOf_cons {e : PySem.Expr} {es : List PySem.Expr} {xs : List Str} (h : namesOf (e :: es) = some xs) : ∃ n p ys, e = .Name n p ∧ namesOf es = some ys ∧ xs = n :: ys := by
  induction e using PySem.Expr.casesOn with
  | Name n p => exact mE h fun y hy e => ⟨n, p, y, rfl, hy, e.symm⟩
  | _ => exact nE h
end
end Mine
end

section
namespace Mine
noncomputable abbrev pz : Program := PySem.Challenge.pw_sn0090_01
structure AOk (A : Around) (D : Nat) : Prop where
  handled : A.handled = none
  depth : A.depth + D < recursionLimit
  units : A.units + 9 * D + 100 < cLine
theorem AOk.deeper {A : Around} {D : Nat} (h : AOk A (D + 1)) (env : Env) : AOk (A.deeper env) D :=
  ⟨h.handled, by have := h.depth; show A.depth + 1 + D < _; exact ar152 this, by have := h.units; show A.units + 3 + 9 * D + 100 < _; exact ar153 this⟩
theorem AOk.mono {A : Around} {D D' : Nat} (h : AOk A D) (hd : D' ≤ D) : AOk A D' := ⟨h.handled, by have := h.depth; exact ar154 hd this, by have := h.units; exact ar155 hd this⟩
theorem AOk.unit {A : Around} {D : Nat} (h : AOk A D) : A.units < cLine := by have := h.units; exact ar156 this
noncomputable def OpT (b : Base) (w : World) (A : Around) (s : Shared) (ad : List Addr) (m : Sem Value) (v : V) (mem' : Mem) : Prop :=
  ∀ {Q : Value → Shared → Prop} {E : Value → Shared → Prop}, (∀ s' ad' val, OutE b s ad s' ad' mem' → VR s'.heap ad' v val → Q val s') → wpAny (model pz w) A m Q E s
noncomputable def CallOk (b : Base) (w : World) (D : Nat) (f : Addr) (vs : List V) (mem : Mem) (v : V) (mem' : Mem) : Prop :=
  ∀ {A s ad vals}, AOk A D → RelM b s.heap ad mem → VRs s.heap ad vs vals → OpT b w A s ad (call (.ref f) vals) v mem'
noncomputable def OrcOk (b : Base) (w : World) (D : Nat) : Prop := ∀ f vs mem v mem', b.orc f vs mem = some (v, mem') → CallOk b w D f vs mem v mem'
noncomputable def SE (b : Base) (w : World) (D : Nat) (sc : Scope) (e : PySem.Expr) (loc : Loc) (mem : Mem) (v : V) (mem' : Mem) : Prop :=
  ∀ {A env s ad}, AOk A D → EnvOk env sc → RelM b s.heap ad mem → LR b env s.heap ad loc → OpT b w A s ad (eval e env) v mem'
noncomputable def SEs (b : Base) (w : World) (D : Nat) (sc : Scope) (es : List PySem.Expr) (loc : Loc) (mem : Mem) (vs : List V) (mem' : Mem) : Prop :=
  ∀ {A : Around} {env : Env} {s : Shared} {ad : List Addr} {pos : Pos} {Q : List Value → Shared → Prop} {E : Value → Shared → Prop}, AOk A D → EnvOk env sc → RelM b s.heap ad mem → LR b env s.heap ad loc →
    (∀ s' ad' vals, OutE b s ad s' ad' mem' → VRs s'.heap ad' vs vals → Q vals s') → wpAny (model pz w) A (spliced (backTo pos (starEach es env))) Q E s
noncomputable def ST (b : Base) (w : World) (D : Nat) (sc : Scope) (e : PySem.Expr) (loc : Loc) (mem : Mem) (c : Bool) (mem' : Mem) : Prop :=
  ∀ {A : Around} {env : Env} {s : Shared} {ad : List Addr} {Q : Bool → Shared → Prop} {E : Value → Shared → Prop}, AOk A D → EnvOk env sc → RelM b s.heap ad mem → LR b env s.heap ad loc →
    (∀ s' ad', OutE b s ad s' ad' mem' → Q c s') → wpAny (model pz w) A (isTrue e env (eval e env)) Q E s
variable {b : Base} {w : World} {A : Around} {s : Shared} {ad : List Addr} {mem mem' : Mem}
theorem VR.intInv {h ad i x} (hv : VR h ad (.int i) x) : ∃ t, x = .int i t := by cases hv; exact ⟨_, rfl⟩
theorem VR.strInv {h ad l x} (hv : VR h ad (.str l) x) : ∃ t, x = .str (mkS l) t := by cases hv; exact ⟨_, rfl⟩
theorem VR.listInv {h ad i x} (hv : VR h ad (.list i) x) : ∃ a, x = .ref a ∧ ad[i]? = some a := by cases hv; exact ⟨_, rfl, by assumption⟩
theorem VR.tupInv {h ad l x} (hv : VR h ad (.tup l) x) : ∃ a items, x = .ref a ∧ h.IsTuple a items ∧ VRs h ad l items.toList := by cases hv; exact ⟨_, _, rfl, by assumption, by assumption⟩
theorem RelM.list {h : Heap} (R : RelM b h ad mem) {i a l} (ha : ad[i]? = some a) (hl : mem[i]? = some l) : ∃ items, h.IsList a items ∧ VRs h ad l items.toList ∧ (i ≠ 0 → h.PlainList a items) := by
  refine ex2_4 (R.hr.at_ i l hl) fun a' items h1 h2 h3 h4 => ?_
  rw [ha] at h1; cases h1
  exact ⟨items, h2, h3, h4⟩
theorem small_bits {a : Int} (h : small a = true) : Builtin.Int.intBits a ≤ 64 := by
  unfold small at h
  have h' := of_decide_eq_true h
  unfold Builtin.Int.intBits
  split
  · omega
  · rename_i h0
    have h1 : a.natAbs ≠ 0 := by simpa using h0
    have := (Nat.log2_lt h1).mpr h'
    exact ar157 this
end Mine
end

section
namespace Mine
variable {b : Base} {w : World} {A : Around} {s : Shared} {ad : List Addr} {mem mem' : Mem} {Q : Value → Shared → Prop} {E : Value → Shared → Prop}
theorem small_not_pylong {a c : Int} (h : small c = true) : Builtin.divisionGoesByPylong a c = false := by
  unfold Builtin.divisionGoesByPylong
  have : (if c == 0 then 0 else c.natAbs.log2 / 30 + 1) ≤ 300 := by
    unfold small at h
    have h' := of_decide_eq_true h
    split
    · omega
    · rename_i h0
      have h1 : c.natAbs ≠ 0 := by simpa using h0
      have := (Nat.log2_lt h1).mpr h'
      exact ar56 this
  simp only [Bool.and_eq_false_iff, decide_eq_false_iff_not]
  left; exact ar57 this
theorem opI_wp {op : Operator} {x y c : Int} {t u : Tok} (h : opI op x y = some c) (K : ∀ n k, Q (.int c k) { s with toks := n }) : wpAny (model pz w) A (binaryOp op (.int x t) (.int y u)) Q E s := by
  induction op using PySem.Operator.casesOn with
  | Add => obtain rfl := Option.some.inj h; exact AutoIntOps.add_0 (K _ _)
  | Sub => obtain rfl := Option.some.inj h; exact AutoIntOps.sub_0 (K _ _)
  | Mult => exact kE h fun hb h => by obtain rfl := Option.some.inj h; exact AutoIntOps.mul_0 (K _ _) (IntMulOk.of_left (small_bits hb))
  | Mod => exact kE' h fun hb h => by obtain rfl := Option.some.inj h; exact AutoIntOps.mod_1 (by simpa using hb) (K _ _)
  | LShift =>
    refine kE h ?_; clear h; intro hb h; refine a2 hb ?_; clear hb; intro hb h3; refine a2 hb ?_; clear hb; intro h1 h2
    obtain rfl := Option.some.inj h
    replace h2 := of_decide_eq_true h2
    replace h3 := of_decide_eq_true h3
    exact lshift_int_small h2 (by omega) (of_decide_eq_true h1) (K _ _)
  | FloorDiv => exact kE h fun hb h => a2 hb fun h1 h2 => by obtain rfl := Option.some.inj h; exact AutoIntOps.floordiv_1 (by simp [nT h2]) (by rw [small_not_pylong h1]; exact Bool.false_ne_true) (K _ _)
  | _ => exact nE h
theorem lit_le {n : Nat} (h : lit n = true) : n ≤ 1000 := of_decide_eq_true h
theorem mkS_length (l : List Nat) : (mkS l).length = l.length := by simp [mkS, Str.length]
theorem mkS_append (l m : List Nat) : mkS l ++ mkS m = mkS (l ++ m) := by
  show (⟨l.toArray ++ m.toArray⟩ : Str) = ⟨(l ++ m).toArray⟩
  congr 1; simp
theorem repS_length (l : List Nat) : ∀ n, (repS l n).length = n * l.length
  | 0 => by simp [repS]
  | n + 1 => by rw [repS, List.length_append, repS_length l n, Nat.succ_mul]; exact ar58
theorem repS_foldl (l : List Nat) : ∀ (n : Nat) (acc : Array Nat), ((List.replicate n l.toArray).foldl (· ++ ·) acc) = acc ++ (repS l n).toArray
  | 0, acc => by simp [repS]
  | n + 1, acc => by rw [List.replicate_succ, List.foldl_cons, repS_foldl l n, repS]; simp
theorem mul_txt (l : List Nat) (n : Int) (h : 0 ≤ n) : Txt.mul (mkS l) n = mkS (repS l n.toNat) := by
  unfold Txt.mul
  split
  · have : n = 0 := by omega
    subst this; rfl
  · rename_i h1
    split
    · rename_i h2
      rw [Bool.or_eq_true] at h2
      rcases h2 with h2 | h2
      · have : n = 1 := by simpa using h2
        subst this
        show mkS l = mkS (repS l 1)
        simp [repS]
      · have h3 : l.length = 0 := by rw [← mkS_length]; simpa using h2
        have : l = [] := List.eq_nil_of_length_eq_zero h3
        subst this
        have : repS ([] : List Nat) n.toNat = [] := List.eq_nil_of_length_eq_zero (by rw [repS_length]; simp)
        rw [this]
    · show (⟨(List.replicate n.toNat l.toArray).foldl (· ++ ·) #[]⟩ : Str) = _
      rw [repS_foldl]
      simp
theorem add_isList {l c : Addr} {its its2 : Array Value} (hl : s.heap.IsList l its) (hb : s.heap.IsList c its2) (hsz : its.size + its2.size ≤ sizeLine)
    (h : Q (.ref s.heap.objs.size) { s with heap := s.heap.push { cls := .type "list", data := .seq (its ++ its2) } }) : wpAny (model pz w) A (binaryOp .Add (.ref l) (.ref c)) Q E s := by
  obtain ⟨⟨cls, dd, data, sl⟩, ho, hc, n, hd⟩ := id hl
  obtain ⟨⟨cls2, dd2, data2, sl2⟩, ho2, hc2, n2, hd2⟩ := id hb
  simp only at hc hd hc2 hd2
  subst hc hd hc2 hd2
  exact concat_meets ⟨_, ho, rfl⟩ ⟨_, ho2, rfl⟩ noFill_list_add seq_list_add PySem.F.slot_list_add PySem.F.entry_list_add (PySem.F.args_list_add_2 _ _) (list_addW l c its its2 n n2 dd dd2 sl sl2 hsz) ⟨ho, ho2, h⟩
theorem op_ss {op : Operator} {l m : List Nat} {x y : Value} {v : V} (h : opV op (.str l) (.str m) mem = some (v, mem')) (R : RelM b s.heap ad mem) (hx : VR s.heap ad (.str l) x) (hy : VR s.heap ad (.str m) y) (K : ∀ s' ad' val, OutE b s ad s' ad' mem' → VR s'.heap ad' v val → Q val s') : wpAny (model pz w) A (binaryOp op x y) Q E s := by
  refine ex1_1 hx.strInv fun t e => ?_; subst e
  refine ex1_1 hy.strInv fun u e => ?_; subst e
  induction op using PySem.Operator.casesOn with
  | Add =>
    refine kE h fun hb h => a2 hb fun h1 h2 => add_str (fun t' tk => ?_) ?_
    · exact sE2 (C := fun v m => (∀ s' ad' val, OutE b s ad s' ad' m → VR s'.heap ad' v val → Q val s') → _) h (fun K => K _ ad _ (OutE.toks R tk) (by rw [mkS_append]; exact .str _ _)) K
    · rw [mkS_length, mkS_length, sizeLine_eq]; have := lit_le h1; have := lit_le h2; omega
  | _ => exact nE h
theorem op_si {op : Operator} {l : List Nat} {n : Int} {x y : Value} {v : V} (h : opV op (.str l) (.int n) mem = some (v, mem')) (R : RelM b s.heap ad mem) (hx : VR s.heap ad (.str l) x) (hy : VR s.heap ad (.int n) y) (K : ∀ s' ad' val, OutE b s ad s' ad' mem' → VR s'.heap ad' v val → Q val s') : wpAny (model pz w) A (binaryOp op x y) Q E s := by
  refine ex1_1 hx.strInv fun t e => ?_; subst e
  refine ex1_1 hy.intInv fun u e => ?_; subst e
  induction op using PySem.Operator.casesOn with
  | Mult =>
    refine kE h ?_; clear h; intro hb h; refine a2 hb ?_; clear hb; intro hb h3; refine a2 hb ?_; clear hb; intro h1 h2
    have hl := lit_le h1
    replace h2 := of_decide_eq_true h2
    replace h3 := of_decide_eq_true h3
    refine SB.mul ?_ fun t' k => sE2 (C := fun v m => (∀ s' ad' val, OutE b s ad s' ad' m → VR s'.heap ad' v val → Q val s') → _) h (fun K => K _ ad _ (OutE.toks R k) (by rw [mul_txt _ _ h2]; exact .str _ _)) K
    refine ⟨?_, fun h1 h2 => ?_, fun h1 h2 => ?_⟩
    · rw [Bool.or_eq_false_iff, decide_eq_false_iff_not, decide_eq_false_iff_not]; constructor <;> omega
    · rw [mkS_length]
      have : ((l.length : Int)) ≤ (2 ^ 63 - 1) / n := by
        rw [Int.le_ediv_iff_mul_le (by omega)]
        have h5 : (l.length : Int) ≤ 1000 := by omega
        exact Int.le_trans (Int.mul_le_mul h5 h3 (by omega) (by omega)) (by decide)
      omega
    · rw [mkS_length]
      unfold Builtin.Str.tooLong
      rw [decide_eq_false_iff_not]
      have h5 : n.toNat ≤ 1000 := by omega
      have : l.length * n.toNat ≤ 1000 * 1000 := Nat.mul_le_mul hl h5
      have e : sizeLine = 16777216 := by decide
      omega
  | _ => exact nE h
theorem op_ll {op : Operator} {i j : Nat} {x y : Value} {v : V} (h : opV op (.list i) (.list j) mem = some (v, mem')) (R : RelM b s.heap ad mem) (hx : VR s.heap ad (.list i) x) (hy : VR s.heap ad (.list j) y) (K : ∀ s' ad' val, OutE b s ad s' ad' mem' → VR s'.heap ad' v val → Q val s') : wpAny (model pz w) A (binaryOp op x y) Q E s := by
  refine ex1_2 hx.listInv fun p e hp => ?_; subst e
  refine ex1_2 hy.listInv fun q e hq => ?_; subst e
  induction op using PySem.Operator.casesOn with
  | Add =>
    replace h : (match mem[i]?, mem[j]? with | some l, some m => cond (lit l.length && lit m.length) (some (V.list mem.length, mem ++ [l ++ m])) none | _, _ => none) = some (v, mem') := h
    cases hl : mem[i]? with
    | none => rw [hl] at h; exact nE h
    | some l => cases hm : mem[j]? with
      | none => rw [hl, hm] at h; exact nE h
      | some m =>
        rw [hl, hm] at h
        refine kE h fun hb h => a2 hb fun L1 L2 => ex1_3 (R.list hp hl) fun its h1 h2 _ => ex1_3 (R.list hq hm) fun its2 h3 h4 _ => ?_
        have e1 : l.length = its.toList.length := h2.length
        have e2 : m.length = its2.toList.length := h4.length
        replace L1 : l.length ≤ 1000 := lit_le L1
        replace L2 : m.length ≤ 1000 := lit_le L2
        have e3 : its.toList.length = its.size := Array.length_toList
        have e4 : its2.toList.length = its2.size := Array.length_toList
        refine add_isList h1 h3 (by rw [sizeLine_eq]; omega) ?_
        rw [show its ++ its2 = (its.toList ++ its2.toList).toArray by simp]
        exact sE2 (C := fun v m => (∀ s' ad' val, OutE b s ad s' ad' m → VR s'.heap ad' v val → Q val s') → _) h (fun K => K _ _ _ (OutE.newList (vs := l ++ m) R (h2.append h4)) (.list (by rw [← R.hr.len, List.getElem?_append_right (Nat.le_refl _), Nat.sub_self]; rfl))) K
  | _ => exact nE h
theorem opV_ok {op : Operator} {a c : V} {x y : Value} {v : V} (h : opV op a c mem = some (v, mem')) (R : RelM b s.heap ad mem) (hx : VR s.heap ad a x) (hy : VR s.heap ad c y) :
    OpT b w A s ad (binaryOp op x y) v mem' := by
  intro Q E K
  induction a using Mine.V.casesOn with
  | int i => induction c using Mine.V.casesOn with
    | int j =>
      refine ex1_1 hx.intInv fun t e => ?_; subst e
      refine ex1_1 hy.intInv fun u e => ?_; subst e
      exact mE h fun z hz e => opI_wp hz fun n k => sE2 (C := fun v m => (∀ s' ad' val, OutE b s ad s' ad' m → VR s'.heap ad' v val → Q val s') → _) (congrArg some e) (fun K => K _ ad _ (OutE.toks R n) (.int _ _)) K
    | _ => exact nE h
  | str l => induction c using Mine.V.casesOn with
    | str m => exact op_ss h R hx hy K
    | int n => exact op_si h R hx hy K
    | _ => exact nE h
  | list i => induction c using Mine.V.casesOn with
    | list j => exact op_ll h R hx hy K
    | _ => exact nE h
  | _ => exact nE h
end Mine
end

section
namespace Mine
variable {b : Base} {w : World} {A : Around} {s : Shared} {ad : List Addr} {mem mem' : Mem} {Q : Value → Shared → Prop} {E : Value → Shared → Prop}
theorem unV_ok {op : UnaryOp} {a : V} {x : Value} {v : V} (h : unV op a = some v) (R : RelM b s.heap ad mem) (hx : VR s.heap ad a x) :
    OpT b w A s ad (unaryOp op x) v mem := by
  intro Q E K
  induction op using PySem.UnaryOp.casesOn with
  | USub => induction a using Mine.V.casesOn with
    | int i =>
      refine ex1_1 hx.intInv fun t ob1 => ?_; subst ob1
      obtain rfl := Option.some.inj h
      exact neg_int (K _ ad _ (OutE.toks R _) (.int _ _))
    | _ => exact nE h
  | Invert => induction a using Mine.V.casesOn with
    | int i =>
      refine ex1_1 hx.intInv fun t ob2 => ?_; subst ob2
      obtain rfl := Option.some.inj h
      refine invert_int (K _ ad _ (OutE.toks R _) ?_)
      have : Builtin.bitNot i = -i - 1 := by rfl
      rw [this]
      exact .int _ _
    | _ => exact nE h
  | _ => exact nE h
theorem cmpI_ok {op : CmpOp} {x y : Int} {t u : Tok} {c : Bool} (h : cmpI op x y = some c) (K : Q (.bool c) s) : wpAny (model pz w) A (compareOp op (.int x t) (.int y u)) Q E s := by
  induction op using PySem.CmpOp.casesOn with
  | Eq => obtain rfl := Option.some.inj h; exact PyProof.Rows.eq_int K
  | NotEq => obtain rfl := Option.some.inj h; exact PyProof.Rows.ne_int K
  | Lt => obtain rfl := Option.some.inj h; exact PyProof.Rows.lt_int K
  | LtE => obtain rfl := Option.some.inj h; exact PyProof.Rows.le_int K
  | Gt => obtain rfl := Option.some.inj h; exact PyProof.Rows.gt_int K
  | GtE => obtain rfl := Option.some.inj h; exact PyProof.Rows.ge_int K
  | _ => exact nE h
theorem reads_ints {h : Heap} {ad : List Addr} : ∀ {l xs x}, intsOf l = some x → VRs h ad l xs → ∃ as, ReadsAll h xs (kqdPs (x.map Dat.int)) as
  | _, _, x, e, .nil => by cases e; exact ⟨_, .nil⟩
  | v :: l, _, x, e, .cons hv hl => by
    refine ex2_3 (intsOf_cons e) fun _ y ob3v hy ob3 => ?_; subst ob3v; subst ob3
    refine ex1_1 hv.intInv fun t ob4 => ?_; subst ob4
    refine ex1_1 (reads_ints hy hl) fun as r => ?_
    exact ⟨_, .cons (.int _ _) r⟩
theorem reads_strs {h : Heap} {ad : List Addr} : ∀ {l xs x}, strsOf l = some x → VRs h ad l xs → ∃ as, ReadsAll h xs (kqdPs (x.map fun l => Dat.str (mkS l))) as
  | _, _, x, e, .nil => by cases e; exact ⟨_, .nil⟩
  | v :: l, _, x, e, .cons hv hl => by
    refine ex2_3 (strsOf_cons e) fun _ y ob5v hy ob5 => ?_; subst ob5v; subst ob5
    refine ex1_1 hv.strInv fun t ob6 => ?_; subst ob6
    refine ex1_1 (reads_strs hy hl) fun as r => ?_
    exact ⟨_, .cons (.str _ _) r⟩
noncomputable def datT (x : List Int) : Dat := .tuple (x.map Dat.int)
theorem reads_tup {h : Heap} {ad : List Addr} {l x a} {items : Array Value} (e : intsOf l = some x) (ht : h.IsTuple a items) (hl : VRs h ad l items.toList) : ∃ as, Reads h (.ref a) (kqdP (datT x)) as := by
  refine ex1_1 (reads_ints e hl) fun as r => ?_
  obtain ⟨o, ho, hc, n, hd⟩ := ht
  exact ⟨_, by rw [datT, kqdP]; exact .tuple ho hc hd r⟩
theorem reads_tups {h : Heap} {ad : List Addr} : ∀ {l xs x}, tupsOf l = some x → VRs h ad l xs → ∃ as, ReadsAll h xs (kqdPs (x.map datT)) as
  | _, _, x, e, .nil => by cases e; exact ⟨_, .nil⟩
  | v :: l, _, x, e, .cons hv hl => by
    refine ex3_4 (tupsOf_cons e) fun _ i y ob7v hi hy ob7 => ?_; subst ob7v; subst ob7
    refine ex2_3 hv.tupInv fun a items ob8 ht hvl => ?_; subst ob8
    refine ex1_1 (reads_tups hy hl) fun as r => ?_
    refine ex1_1 (reads_tup hi ht hvl) fun bs r2 => ?_
    exact ⟨_, .cons r2 r⟩
theorem okT (x : List Int) (n : Nat) : kqdOk (n + 1) (datT x) = true := by
  rw [datT, kqdOk, List.all_eq_true]
  intro d hd
  refine ex1_2 (List.mem_map.mp hd) fun i _ ob9 => ?_; subst ob9
  simp [kqdOk]
theorem datT_inj {x y : List Int} : datT x = datT y ↔ x = y := by
  unfold datT
  rw [Dat.tuple.injEq]
  constructor
  · intro h
    have : ∀ (x y : List Int), x.map Dat.int = y.map Dat.int → x = y := by
      intro x
      induction x with
      | nil => intro y h; induction y using List.casesOn with
        | nil => rfl
        | cons _ _ => cases h
      | cons a x ih => intro y h; induction y using List.casesOn with
        | nil => cases h
        | cons b y =>
          rw [List.map_cons, List.map_cons, List.cons.injEq, Dat.int.injEq] at h
          rw [h.1, ih _ h.2]
    exact this x y h
  · rintro rfl; rfl
theorem map_inj {α β : Type} {f : α → β} (hf : ∀ a b, f a = f b → a = b) : ∀ {x y : List α}, x.map f = y.map f ↔ x = y := by
  intro x
  induction x with
  | nil => intro y; cases y <;> simp
  | cons a x ih => intro y; induction y using List.casesOn with
    | nil => simp
    | cons b y =>
      rw [List.map_cons, List.map_cons, List.cons.injEq, List.cons.injEq, ih]
      exact ⟨fun h => ⟨hf _ _ h.1, h.2⟩, fun h => ⟨by rw [h.1], h.2⟩⟩
open Classical in
theorem beq_dec {α β : Type} [BEq α] [LawfulBEq α] {f : α → β} (hf : ∀ a b, f a = f b → a = b) (x y : List α) : (x == y) = decide (x.map f = y.map f) := by
  by_cases h : x = y
  · subst h; simp
  · have h' : ¬ x.map f = y.map f := fun e => h ((map_inj hf).mp e)
    rw [decide_eq_false h']
    exact beq_eq_false_iff_ne.mpr h
open Classical in
theorem eqL_dat {h : Heap} {ad : List Addr} {l m : List V} {xs ys : List Value} {c : Bool} (e : eqL l m = some c) (hl : VRs h ad l xs) (hm : VRs h ad m ys) :
    ∃ ds es as bs, ReadsAll h xs (kqdPs ds) as ∧ ReadsAll h ys (kqdPs es) bs ∧ (∀ d ∈ ds, kqdOk 8 d = true) ∧ (∀ d ∈ es, kqdOk 8 d = true) ∧ c = decide (ds = es) := by
  unfold eqL at e
  split at e
  · rename_i x y hx hy
    cases e
    refine ex1_1 (reads_ints hx hl) fun as r1 => ?_
    refine ex1_1 (reads_ints hy hm) fun bs r2 => ?_
    refine ⟨_, _, as, bs, r1, r2, ?_, ?_, beq_dec (f := Dat.int) (fun a b h => by injection h) x y⟩ <;>
    · intro d hd
      refine ex1_2 (List.mem_map.mp hd) fun i _ ob10 => ?_; subst ob10
      simp [kqdOk]
  · split at e
    · rename_i x y hx hy
      cases hb : (x.all okS && y.all okS) <;> rw [hb] at e
      · cases e
      · cases e
        rw [Bool.and_eq_true, List.all_eq_true, List.all_eq_true] at hb
        refine ex1_1 (reads_strs hx hl) fun as r1 => ?_
        refine ex1_1 (reads_strs hy hm) fun bs r2 => ?_
        have ok : ∀ l : List Nat, okS l = true → kqdOk 8 (Dat.str (mkS l)) = true := by
          intro l hl
          rw [kqdOk, PyData.strOk]
          rw [okS, List.all_eq_true] at hl
          show (l.toArray).all (fun c => decide (c < 0x110000)) = true
          rw [List.all_toArray, List.all_eq_true]
          exact hl
        refine ⟨_, _, as, bs, r1, r2, ?_, ?_, beq_dec (f := fun l => Dat.str (mkS l)) (fun a b h => by injection h with h; injection h with h; exact List.toArray_inj h) x y⟩
        · intro d hd
          refine ex1_2 (List.mem_map.mp hd) fun i hi ob11 => ?_; subst ob11
          exact ok i (hb.1 i hi)
        · intro d hd
          refine ex1_2 (List.mem_map.mp hd) fun i hi ob12 => ?_; subst ob12
          exact ok i (hb.2 i hi)
    · split at e
      · rename_i x y hx hy
        cases e
        refine ex1_1 (reads_tups hx hl) fun as r1 => ?_
        refine ex1_1 (reads_tups hy hm) fun bs r2 => ?_
        refine ⟨_, _, as, bs, r1, r2, ?_, ?_, beq_dec (f := datT) (fun a b h => datT_inj.mp h) x y⟩ <;>
        · intro d hd
          refine ex1_2 (List.mem_map.mp hd) fun i _ ob13 => ?_; subst ob13
          exact okT i 7
      · cases e
open Classical in
theorem eqNe_ok {op : CmpOp} {x y : Value} {d e : Dat} {as bs : List Addr} {c r : Bool} {n k : Nat} (h : eqNe op c = some r) (hc : c = decide (d = e)) (r1 : Reads s.heap x (kqdP d) as) (r2 : Reads s.heap y (kqdP e) bs)
    (o1 : kqdOk n d = true) (o2 : kqdOk k e = true) (hn : n ≤ 64) (hk : k ≤ 64) (hu : A.units + 64 < cLine) (K : Q (.bool r) s) : wpAny (model pz w) A (compareOp op x y) Q E s := by
  have la := kqd_lay n d o1
  have lb := kqd_lay k e o2
  have s1 : SeqAt.shaped (kqdP d) = true := by unfold SeqAt.shaped; rw [la.1, Bool.true_and]; exact decide_eq_true (Nat.le_trans la.2 hn)
  have s2 : SeqAt.shaped (kqdP e) = true := by unfold SeqAt.shaped; rw [lb.1, Bool.true_and]; exact decide_eq_true (Nat.le_trans lb.2 hk)
  have q : PyData.eqv (kqdP d) (kqdP e) = c := by
    have := kqd_eqv n d e k o1 o2
    rw [hc]
    by_cases hq : d = e
    · rw [decide_eq_true hq]; exact this.mpr hq
    · rw [decide_eq_false hq]; exact Bool.eq_false_iff.mpr fun x => hq (this.mp x)
  induction op using PySem.CmpOp.casesOn with
  | Eq => obtain rfl := Option.some.inj h; exact eq_dataH r1 r2 s1 s2 hu (by rw [q]; exact K)
  | NotEq => obtain rfl := Option.some.inj h; exact ne_dataH r1 r2 s1 s2 hu (by rw [q]; exact K)
  | _ => exact nE h
end Mine
end

section
namespace Mine
variable {b : Base} {w : World} {A : Around} {s : Shared} {ad : List Addr} {mem mem' : Mem} {Q : Value → Shared → Prop} {E : Value → Shared → Prop}
inductive IntsV : List Value → List Int → Prop
  | nil : IntsV [] []
  | cons {i t xs l} (h : IntsV xs l) : IntsV (.int i t :: xs) (i :: l)
theorem IntsV.of {h : Heap} {ad : List Addr} {l xs x} (e : intsOf l = some x) (hv : VRs h ad l xs) : IntsV xs x :=
  VRs.ind (P := fun l xs => ∀ x, intsOf l = some x → IntsV xs x) (fun x e => by cases e; exact .nil) (fun hv hl ih x e => by
    refine ex2_3 (intsOf_cons e) fun _ y ob1v hy ob1 => ?_; subst ob1v; subst ob1
    refine ex1_1 hv.intInv fun t ob2 => ?_; subst ob2
    exact .cons (ih _ hy)) hv x e
theorem IntsV.length {xs l} (k : IntsV xs l) : xs.length = l.length := by
  induction k with
  | nil => rfl
  | cons _ ih => exact congrArg Nat.succ ih
set_option maxHeartbeats 1000000 in
theorem tuple_ltAt (l c : Addr) (items items2 : Array Value) (n n2 : Nat) (dd dd2 : Option Addr) (sl sl2 : Array (Option Value)) (x y : List Int) :
    Meets (Builtin.«tuple.__lt__» ⟨[.ref l, .ref c], []⟩)
      (fun A R s => s.heap.get? l = some { cls := .type "tuple", dict := dd, data := .seq items n, slots := sl } ∧ s.heap.get? c = some { cls := .type "tuple", dict := dd2, data := .seq items2 n2, slots := sl2 } ∧
        IntsV items.toList x ∧ IntsV items2.toList y ∧ R (.ok (.ret (.bool (ltI x y)))) s) :=
  .of_wp fun prog w A R s h => by
    obtain ⟨hp, g, d, tk, os⟩ := s; refine ex0_5 h ?_; (try clear h); intro hl hb hx hy h
    have f2 := AutoSeq1.sub_tuple_tuple
    wp_walk using wpAny_loadPart' hl, wpAny_loadPart' hb, wpAny_forIn_list _ (fun rest b s' => b.1 = none ∧ s' = ⟨hp, g, d, tk, os⟩ ∧ ∃ p q x' y', rest = p.zip q ∧ IntsV p x' ∧ IntsV q y' ∧ (items.size + y'.length = items2.size + x'.length) ∧
      R (.ok (.ret (.bool (ltI x' y')))) ⟨hp, g, d, tk, os⟩) _
    case turn =>
      rintro ⟨y, x⟩ rest b s' ⟨hb', rfl, p, q, x', y', hz, hp', hq', hsz, hR⟩
      cases hp' with
      | nil => cases hz
      | @cons i t p l1 hp' =>
        cases hq' with
        | nil => cases hz
        | @cons j u q l2 hq' =>
          injection hz with hyx hrest
          injection hyx with e1 e2
          subst e1 e2
          rw [ltI] at hR
          refine wpAny_bind (SeqAt.EqAt.int_int i t j u prog w _ _ ?_)
          cases hij : (i == j) with
          | true =>
            rw [hij, cond_true] at hR
            wp_walk
            refine ⟨rfl, rfl, p, q, l1, l2, hrest, hp', hq', ?_, hR⟩
            simp only [List.length_cons] at hsz
            exact ar132 hsz
          | false =>
            rw [hij, cond_false] at hR
            refine wpAny_bind (wpAny_rule ?_)
            refine wpAny_bind (m := richCompare CmpOp.Lt (Value.int i t) (Value.int j u)) ?_
            show wpAny (model prog w) A.in1 (compareOp .Lt (Value.int i t) (Value.int j u)) _ _ _
            refine PyProof.Rows.lt_int ?_
            exact wpAny_bind (wpAny_pure (wpAny_pure (wpAny_pure ⟨_, rfl, hR⟩)))
    case fin =>
      rintro ⟨b1, b2⟩ s' ⟨hb', rfl, p, q, x', y', hz, hp', hq', hsz, hR⟩
      simp only at hb'
      subst hb'
      have e : ltI x' y' = decide (items.size < items2.size) := by
        cases hp' with
        | nil =>
          cases hq' with
          | nil => simp only [List.length_nil] at hsz; rw [ltI]; symm; rw [decide_eq_false_iff_not]; exact ar133 hsz
          | cons _ => simp only [List.length_nil, List.length_cons] at hsz; rw [ltI]; symm; rw [decide_eq_true_iff]; exact ar134 hsz
        | cons _ =>
          cases hq' with
          | nil => simp only [List.length_nil, List.length_cons] at hsz; rw [ltI]; symm; rw [decide_eq_false_iff_not]; exact ar135 hsz
          | cons _ => cases hz
      rw [e] at hR
      wp_walk
      exact ⟨_, rfl, by simpa [Builtin.Tuple.tupleCompareSizes] using hR⟩
    case h =>
      have h1 := hx.length
      have h2 := hy.length
      simp only [Array.length_toList] at h1 h2
      exact ⟨rfl, rfl, _, _, x, y, rfl, hx, hy, ar136 h1 h2, by simpa using h⟩
theorem cond_nn {α : Type} {c : Bool} {x : Option α} {r : α} (h : cond c none x = some r) : x = some r := by cases c; exact h; cases h
theorem cond_sn {α : Type} {c : Bool} {x : Option α} {r : α} (h : cond c x none = some r) : c = true ∧ x = some r := by cases c; cases h; exact ⟨rfl, h⟩
theorem lt_tup_ok {x y : List Int} {l m : List V} {p q : Addr} {its its2 : Array Value} (hx : intsOf l = some x) (hy : intsOf m = some y) (ht : s.heap.IsTuple p its) (hl : VRs s.heap ad l its.toList)
    (ht2 : s.heap.IsTuple q its2) (hm : VRs s.heap ad m its2.toList) (hu : A.units < cLine) (K : Q (.bool (ltI x y)) s) : wpAny (model pz w) A (compareOp .Lt (.ref p) (.ref q)) Q E s := by
  obtain ⟨⟨cls, dd, data, sl⟩, ho, hc, n, hd⟩ := id ht
  obtain ⟨⟨cls2, dd2, data2, sl2⟩, ho2, hc2, n2, hd2⟩ := id ht2
  simp only at hc hd hc2 hd2
  subst hc hd hc2 hd2
  show wpAny _ _ (richCompare .Lt _ _) _ _ _
  exact richCompare_meets_room (op := .Lt) ⟨_, ho, rfl⟩ ⟨_, ho2, rfl⟩ F.slot_tuple_lt F.entry_tuple_lt (F.args_tuple_lt_2 _ _) (tuple_ltAt p q its its2 n n2 dd dd2 sl sl2 x y)
    ⟨ho, ho2, IntsV.of hx hl, IntsV.of hy hm, show Value.bool (ltI x y) ≠ Value.notImplemented ∧ Q (.bool (ltI x y)) s from ⟨(fun x => nomatch x), K⟩⟩ hu
theorem tupNe {D : Nat} {op : CmpOp} {l m : List V} {u v : List Int} {p q : Addr} {its its2 : Array Value} {r : Bool} (h : eqNe op (u == v) = some r) (hA : AOk A D) (hu1 : intsOf l = some u) (hv1 : intsOf m = some v) (ht : s.heap.IsTuple p its) (hl : VRs s.heap ad l its.toList)
    (ht2 : s.heap.IsTuple q its2) (hm : VRs s.heap ad m its2.toList) (K : Q (.bool r) s) : wpAny (model pz w) A (compareOp op (.ref p) (.ref q)) Q E s := by
  have hu : A.units + 64 < cLine := by have := hA.units; omega
  refine ex1_1 (reads_tup hu1 ht hl) fun as r1 => ?_
  refine ex1_1 (reads_tup hv1 ht2 hm) fun bs r2 => ?_
  classical
  refine eqNe_ok (n := 1) (k := 1) h ?_ r1 r2 (okT _ _) (okT _ _) (by decide) (by decide) hu K
  by_cases hq : u = v
  · subst hq; simp
  · rw [beq_eq_false_iff_ne.mpr hq]; symm; exact decide_eq_false fun e => hq (datT_inj.mp e)
theorem cmpV_ok {D : Nat} {op : CmpOp} {a c : V} {x y : Value} {r : Bool} (h : cmpV op a c mem = some r) (hA : AOk A D) (R : RelM b s.heap ad mem) (hx : VR s.heap ad a x) (hy : VR s.heap ad c y)
    (K : Q (.bool r) s) : wpAny (model pz w) A (compareOp op x y) Q E s := by
  have hu : A.units + 64 < cLine := by have := hA.units; omega
  induction c using Mine.V.casesOn with
  | none => induction op using PySem.CmpOp.casesOn with
    | Is =>
      obtain rfl := Option.some.inj h
      cases hy
      refine is_none_gen ?_
      have : (x == Value.none) = isNone a := by
        cases hx <;> first | rfl | (rw [isNone]; exact beq_eq_false_iff_ne.mpr (fun e => nomatch e))
      rw [this]; exact K
    | _ => exact nE h
  | int j => induction a using Mine.V.casesOn with
    | int i =>
      refine ex1_1 hx.intInv fun t ob3 => ?_; subst ob3
      refine ex1_1 hy.intInv fun u ob4 => ?_; subst ob4
      exact cmpI_ok h K
    | _ => exact nE h
  | str l => induction a using Mine.V.casesOn with
    | str m =>
      refine ex1_1 hx.strInv fun t ob5 => ?_; subst ob5
      refine ex1_1 hy.strInv fun u ob6 => ?_; subst ob6
      have e : (m == l) = (mkS m == mkS l) := by
        by_cases hq : m = l
        · subst hq; simp
        · rw [beq_eq_false_iff_ne.mpr hq]; symm
          exact beq_eq_false_iff_ne.mpr (fun e => hq (by injection e with e; exact List.toArray_inj e))
      induction op using PySem.CmpOp.casesOn with
      | Eq => obtain rfl := Option.some.inj h; exact PyProof.Rows.eq_str (by rw [← e]; exact K)
      | NotEq => obtain rfl := Option.some.inj h; exact PyProof.Rows.ne_str (by rw [bne, ← e]; exact K)
      | _ => exact nE h
    | _ => exact nE h
  | tup m => induction a using Mine.V.casesOn with
    | tup l =>
      have go : ∀ u v : Option (List Int), intsOf l = u → intsOf m = v → (match (generalizing := false) u, v with | some x, some y => (match (generalizing := false) op with | .Lt => some (ltI x y) | _ => eqNe op (x == y)) | _, _ => none) = some r → wpAny (model pz w) A (compareOp op x y) Q E s := by
        intro u v hu1 hv1 h
        induction u using Option.casesOn with
        | none => exact nE h
        | some u => induction v using Option.casesOn with
          | none => exact nE h
          | some v =>
            refine ex2_3 hx.tupInv fun p its ob7 ht hl => ?_; subst ob7
            refine ex2_3 hy.tupInv fun q its2 ob8 ht2 hm => ?_; subst ob8
            induction op using PySem.CmpOp.casesOn with
            | Lt => obtain rfl := Option.some.inj h; exact lt_tup_ok hu1 hv1 ht hl ht2 hm hA.unit K
            | Eq => exact tupNe h hA hu1 hv1 ht hl ht2 hm K
            | NotEq => exact tupNe h hA hu1 hv1 ht hl ht2 hm K
            | _ => exact nE h
      exact go _ _ rfl rfl h
    | _ => exact nE h
  | list j => induction a using Mine.V.casesOn with
    | list i =>
      have go : ∀ u v : Option (List V), mem[i]? = u → mem[j]? = v → (match (generalizing := false) u, v with | some l, some m => cond (i == j) none ((eqL l m).bind (eqNe op)) | _, _ => none) = some r → wpAny (model pz w) A (compareOp op x y) Q E s := by
        intro u v hl hm h
        induction u using Option.casesOn with
        | none => exact nE h
        | some l => induction v using Option.casesOn with
          | none => exact nE h
          | some m =>
            refine kE' h ?_; clear h; intro _ h; refine bE h ?_; clear h; intro c hc h
            refine ex1_2 hx.listInv fun p ob9 hp => ?_; subst ob9
            refine ex1_2 hy.listInv fun q ob10 hq => ?_; subst ob10
            refine ex1_3 (R.list hp hl) fun its ob11 hv1 _ => ?_; obtain ⟨o1, ho1, hc1, n1, hd1⟩ := ob11
            refine ex1_3 (R.list hq hm) fun its2 ob12 hv2 _ => ?_; obtain ⟨o2, ho2, hc2, n2, hd2⟩ := ob12
            classical
            refine ex4_5 (eqL_dat hc hv1 hv2) fun ds es as bs r1 r2 k1 k2 e => ?_
            refine eqNe_ok (d := .list ds) (e := .list es) (n := 9) (k := 9) h ?_ (by rw [kqdP]; exact .list ho1 hc1 hd1 r1) (by rw [kqdP]; exact .list ho2 hc2 hd2 r2) (by rw [kqdOk, List.all_eq_true]; exact k1) (by rw [kqdOk, List.all_eq_true]; exact k2) (by decide) (by decide) hu K
            rw [e]
            by_cases hq : ds = es
            · subst hq; simp
            · rw [decide_eq_false hq]; symm; exact decide_eq_false fun e => hq (by injection e)
      exact go _ _ rfl rfl h
    | _ => exact nE h
  | _ => exact nE h
end Mine
end

section
namespace Mine
variable {b : Base} {w : World} {D : Nat} {sc : Scope} {loc : Loc} {mem mem' mem1 mem2 : Mem} {v : V}
theorem SE_const {c k pos} (h : cV c = some v) : SE b w D sc (.Constant c k pos) loc mem v mem := by
  intro A env s ad hA hE R L Q E K
  induction c using PySem.Const.casesOn with
  | none => obtain rfl := Option.some.inj h; exact wpAny_Constant_none (K _ ad _ (OutE.refl R) .none)
  | bool => obtain rfl := Option.some.inj h; exact wpAny_Constant_bool (K _ ad _ (OutE.refl R) (.bool _))
  | int => obtain rfl := Option.some.inj h; exact wpAny_Constant_int (K _ ad _ (OutE.toks R _) (.int _ _))
  | str x =>
    obtain rfl := Option.some.inj h
    refine wpAny_Constant_str (K _ ad _ (OutE.toks R _) ?_)
    have := VR.str (h := ({ s with toks := s.toks + 1 } : Shared).heap) (ad := ad) x.cps.toList s.toks
    have e : mkS x.cps.toList = x := by cases x; simp [mkS]
    rw [e] at this
    exact this
  | _ => exact nE h
theorem EnvOk.kindOf {env : Env} (hE : EnvOk env sc) (x : Str) : env.kindOf x = sc.names.lookup x := by
  show env.scope.names.lookup x = _; rw [hE.scope]
theorem name_wp (B : BaseOk b) {x pos} (h : nameV b sc x loc = some v) {A env s ad} (hE : EnvOk env sc) (R : RelM b s.heap ad mem) (L : LR b env s.heap ad loc) {Q : Value → Shared → Prop} {E : Value → Shared → Prop}
    (K : ∀ val, VR s.heap ad v val → Q val s) : wpAny (model pz w) A (eval (.Name x pos) env) Q E s := by
  unfold nameV at h
  have hd : sEq x (Str.ofString "__debug__") = false := by
    cases hd : sEq x (Str.ofString "__debug__") with
    | false => rfl
    | true => rw [hd, cond_true] at h; cases h
  rw [hd, cond_false, lkb_eq] at h
  have hk : env.scope.kind = .function := by rw [hE.scope]; exact hE.kind
  have hd' : (x == ("__debug__" : Str)) = false := by
    rw [beq_eq_false_iff_ne]; intro e; rw [sEq_iff.mpr e] at hd; cases hd
  have hx := hE.kindOf x
  refine ex1_2 L.ns fun m hm hl => ?_
  split at h
  · rename_i e
    rw [lkb_eq] at h
    rw [e] at hx
    obtain ⟨val, hv, ⟨_, h2⟩ | ⟨h2, _⟩⟩ := hl x v h
    · exact wpAny_Name (wpAny_loadName_local hk hx hm h2 (K val hv)) hd'
    · rw [hx] at h2; rcases h2 with h2 | h2 <;> cases h2
  · rename_i e
    rw [lkb_eq] at h
    rw [e] at hx
    obtain ⟨val, hv, ⟨h2, _⟩ | ⟨_, c, hc, hcv⟩⟩ := hl x v h
    · rw [hx] at h2; cases h2
    · exact wpAny_Name (wpAny_loadName_cell hk hx hc hcv (K val hv)) hd'
  · rename_i e
    rw [e] at hx
    obtain ⟨val, hv, ⟨mg, h1, h2⟩ | ⟨mg, mb, h1, h2, h3, h4⟩⟩ := B.glob s.heap R.base x v h
    · exact Calls.Name_function_global hk hx (Calls.loadGlobal_global (by rw [hE.globals]; exact h1) h2 (K val (hv ad))) hd'
    · exact Calls.Name_function_global hk hx (Calls.loadGlobal_builtin (by rw [hE.globals]; exact h1) h2 (by rw [hE.builtins]; exact h3) h4 (K val (hv ad))) hd'
  · cases h
theorem SE_name (B : BaseOk b) {x pos} (h : nameV b sc x loc = some v) : SE b w D sc (.Name x pos) loc mem v mem := by
  intro A env s ad hA hE R L Q E K
  exact name_wp B h hE R L fun val hv => K _ ad _ (OutE.refl R) hv
theorem SE_bin {l op r pos x y} (hl : SE b w D sc l loc mem x mem1) (hr : SE b w D sc r loc mem1 y mem2) (ho : opV op x y mem2 = some (v, mem')) : SE b w D sc (.BinOp l op r pos) loc mem v mem' := by
  intro A env s ad hA hE R L Q E K
  refine wpAny_BinOp (hl hA hE R L fun s1 ad1 v1 o1 r1 => hr hA hE o1.rel (L.out R o1) fun s2 ad2 v2 o2 r2 => ?_)
  exact opV_ok ho o2.rel (o2.vr o1.rel r1) r2 fun s3 ad3 v3 o3 r3 => K _ _ _ ((o1.trans o2).trans o3) r3
theorem SE_un {op x pos y} (hx : SE b w D sc x loc mem y mem1) (ho : unV op y = some v) : SE b w D sc (.UnaryOp op x pos) loc mem v mem1 := by
  intro A env s ad hA hE R L Q E K
  refine wpAny_UnaryOp (hx hA hE R L fun s1 ad1 v1 o1 r1 => ?_)
  exact unV_ok ho o1.rel r1 fun s3 ad3 v3 o3 r3 => K _ _ _ (o1.trans o3) r3
theorem SE_if {t x y pos c} (ht : ST b w D sc t loc mem c mem1) (h1 : c = true → SE b w D sc x loc mem1 v mem2) (h2 : c = false → SE b w D sc y loc mem1 v mem2) : SE b w D sc (.IfExp t x y pos) loc mem v mem2 := by
  intro A env s ad hA hE R L Q E K
  refine wpAny_IfExp (ht hA hE R L fun s1 ad1 o1 => ?_)
  induction c using Bool.casesOn with
  | true => exact h1 rfl hA hE o1.rel (L.out R o1) fun s2 ad2 v2 o2 r2 => K _ _ _ (o1.trans o2) r2
  | false => exact h2 rfl hA hE o1.rel (L.out R o1) fun s2 ad2 v2 o2 r2 => K _ _ _ (o1.trans o2) r2
theorem starEach_plain {env : Env} {e : PySem.Expr} {rest : List PySem.Expr} (h : plainE e = true) : starEach (e :: rest) env = (false, eval e env) :: starEach rest env := by
  cases e <;> first | rfl | cases h
theorem SEs_nil : SEs b w D sc [] loc mem [] mem := by
  intro A env s ad pos Q E hA hE R L K
  exact spliced_none (K s ad [] (OutE.refl R) .nil)
theorem SEs_cons {e es vs} (hp : plainE e = true) (he : SE b w D sc e loc mem v mem1) (hr : SEs b w D sc es loc mem1 vs mem2) : SEs b w D sc (e :: es) loc mem (v :: vs) mem2 := by
  intro A env s ad pos Q E hA hE R L K
  refine spliced_more (he hA hE R L fun s1 ad1 x o1 r1 => hr hA hE o1.rel (L.out R o1) fun s2 ad2 xs o2 r2 => ?_) (starEach_plain hp)
  exact K _ _ _ (o1.trans o2) (.cons (o2.vr o1.rel r1) r2)
theorem lit_size {n : Nat} (h : lit n = true) : n ≤ sizeLine := Nat.le_trans (lit_le h) (by rw [sizeLine_eq]; decide)
theorem SE_tuple {es k pos vs} (h : SEs b w D sc es loc mem vs mem1) (hz : lit vs.length = true) : SE b w D sc (.Tuple es k pos) loc mem (.tup vs) mem1 := by
  intro A env s ad hA hE R L Q E K
  refine wpAny_Tuple (h hA hE R L fun s1 ad1 xs o1 r1 => ?_)
  have hl := r1.length
  have hz' := lit_size hz
  refine ⟨ar289 hl hz', K _ ad1 _ (o1.trans (OutE.all (n := s1.toks) o1.rel (fun a o e => Heap.get?_push_of_some _ e))) ?_⟩
  exact .tup (items := xs.toArray) ⟨_, Heap.get?_push_size _ rfl, rfl, 0, rfl⟩ (VRs.all (fun a o e => Heap.get?_push_of_some _ e) r1)
theorem list_last {h : Heap} {ad : List Addr} {a : Addr} (H : HR h ad mem) : (ad ++ [a])[mem.length]? = some a := by
  rw [← H.len, List.getElem?_append_right (Nat.le_refl _), Nat.sub_self]; rfl
theorem SE_list {es pos vs} (h : SEs b w D sc es loc mem vs mem1) (hz : lit vs.length = true) : SE b w D sc (.List es pos) loc mem (.list mem1.length) (mem1 ++ [vs]) := by
  intro A env s ad hA hE R L Q E K
  refine wpAny_List (h hA hE R L fun s1 ad1 xs o1 r1 => ?_)
  have hl := r1.length
  have hz' := lit_size hz
  exact ⟨ar289 hl hz', K _ _ _ (o1.trans (OutE.newList o1.rel r1)) (.list (list_last o1.rel.hr))⟩
theorem ST_not {x pos c} (h : ST b w D sc x loc mem c mem1) : ST b w D sc (.UnaryOp .Not x pos) loc mem (!c) mem1 := by
  intro A env s ad Q E hA hE R L K
  exact isTrue_not (h hA hE R L fun s1 ad1 o1 => K _ _ o1)
theorem ST_and {x y pos c d} (h1 : ST b w D sc x loc mem c mem1) (h2 : c = true → ST b w D sc y loc mem1 d mem2) (h3 : c = false → d = false ∧ mem2 = mem1) : ST b w D sc (.BoolOp .And [x, y] pos) loc mem d mem2 := by
  intro A env s ad Q E hA hE R L K
  refine isTrue_and (h1 hA hE R L fun s1 ad1 o1 => ?_)
  induction c using Bool.casesOn with
  | true =>
    refine isTrue_and (h2 rfl hA hE o1.rel (L.out R o1) fun s2 ad2 o2 => ?_)
    induction d using Bool.casesOn with
    | true => exact isTrue_and_nil (K _ _ (o1.trans o2))
    | false => exact K _ _ (o1.trans o2)
  | false => refine ex0_2 (h3 rfl) fun ob1 ob2 => ?_; subst ob1; subst ob2; exact K _ _ o1
theorem ST_or {x y pos c d} (h1 : ST b w D sc x loc mem c mem1) (h2 : c = false → ST b w D sc y loc mem1 d mem2) (h3 : c = true → d = true ∧ mem2 = mem1) : ST b w D sc (.BoolOp .Or [x, y] pos) loc mem d mem2 := by
  intro A env s ad Q E hA hE R L K
  refine isTrue_or (h1 hA hE R L fun s1 ad1 o1 => ?_)
  induction c using Bool.casesOn with
  | false =>
    refine isTrue_or (h2 rfl hA hE o1.rel (L.out R o1) fun s2 ad2 o2 => ?_)
    induction d using Bool.casesOn with
    | true => exact K _ _ (o1.trans o2)
    | false => exact isTrue_or_nil (K _ _ (o1.trans o2))
  | true => refine ex0_2 (h3 rfl) fun ob3 ob4 => ?_; subst ob3; subst ob4; exact K _ _ o1
theorem ST_call {f a k p c} (h : SE b w D sc (.Call f a k p) loc mem (.bool c) mem1) : ST b w D sc (.Call f a k p) loc mem c mem1 := by
  intro A env s ad Q E hA hE R L K
  refine isTrue_plain (h hA hE R L fun s1 ad1 v o1 r1 => ?_)
  cases r1
  exact wpAny_truthy_bool (K _ _ o1)
end Mine
end

section
namespace Mine
variable {b : Base} {w : World} {A : Around} {s : Shared} {ad : List Addr} {mem mem' : Mem} {Q : Value → Shared → Prop} {E : Value → Shared → Prop}
noncomputable def clipA (lo : Option Int) (n : Nat) : Int := match lo with | none => 0 | some i => max 0 (min (if i < 0 then i + n else i) n)
noncomputable def clipB (hi : Option Int) (n : Nat) : Int := match hi with | none => n | some i => max 0 (min (if i < 0 then i + n else i) n)
noncomputable abbrev bd60 (k : Int) : Bool := decide (0 ≤ k) && decide (k < 2 ^ 60)
theorem bd60_ge {k : Int} (h : bd60 k = true) : 0 ≤ k := of_decide_eq_true (a2 h fun h _ => h)
theorem cutC {α : Type} {C : Option Int → Option Int → List α → Prop} {l m : List α} {lo hi : Option Int} (h : cut l lo hi = some m) (k1 : ∀ k, bd60 k = true → C (some k) none (l.drop k.toNat)) (k2 : ∀ k, bd60 k = true → C none (some k) (l.take k.toNat)) (k3 : C none (some (-1)) (l.take (l.length - 1))) : C lo hi m := by
  induction lo using Option.casesOn with
  | some k => induction hi using Option.casesOn with
    | some _ => exact nE h
    | none => exact kE h fun h1 h => sE1 h (k1 k h1)
  | none => induction hi using Option.casesOn with
    | none => exact nE h
    | some k =>
      replace h : cond (bd60 k) (some (l.take k.toNat)) (cond (k == -1) (some (l.take (l.length - 1))) none) = some m := h
      cases hb : bd60 k with
      | true => rw [hb] at h; exact sE1 (tE h) (k2 k hb)
      | false =>
        rw [hb] at h
        refine kE (fE h) fun h1 h => ?_
        have e := eq_of_beq h1
        subst e
        exact sE1 h k3
theorem clA_lo {k : Int} {n : Nat} (h : 0 ≤ k) : clipA (some k) n = ((min k.toNat n : Nat) : Int) := by
  simp only [clipA]
  rw [if_neg (Int.not_lt.mpr h)]
  obtain ⟨m, rfl⟩ := Int.eq_ofNat_of_zero_le h
  rw [Int.toNat_natCast]
  rcases Nat.le_total m n with e | e
  · rw [Nat.min_eq_left e, Int.min_eq_left (Int.ofNat_le.mpr e)]; exact Int.max_eq_right (Int.natCast_nonneg _)
  · rw [Nat.min_eq_right e, Int.min_eq_right (Int.ofNat_le.mpr e)]; exact Int.max_eq_right (Int.natCast_nonneg _)
theorem clB_hi {k : Int} {n : Nat} (h : 0 ≤ k) : clipB (some k) n = ((min k.toNat n : Nat) : Int) := clA_lo h
theorem clB_neg {n : Nat} : clipB (some (-1)) n = ((n - 1 : Nat) : Int) := by simp only [clipB]; rw [if_pos (by decide)]; omega
theorem pick_go {α : Type} (l : List α) (a c : Nat) : (sliceRange a c 1).filterMap (l.toArray[·]?) = (l.drop a).take (c - a) := by rw [sliceRange_one, pick_run]
theorem cut_pick {α : Type} {l m : List α} {lo hi : Option Int} (h : cut l lo hi = some m) : (sliceRange (clipA lo l.length) (clipB hi l.length) 1).filterMap (l.toArray[·]?) = m := by
  refine cutC (C := fun lo hi m => (sliceRange (clipA lo l.length) (clipB hi l.length) 1).filterMap (l.toArray[·]?) = m) h (fun k h1 => ?_) (fun k h1 => ?_) ?_
  · rw [clA_lo (bd60_ge h1), show clipB none l.length = ((l.length : Nat) : Int) from rfl, pick_go]
    rw [List.take_of_length_le (by rw [List.length_drop]; exact Nat.le_refl _)]
    rcases Nat.le_total k.toNat l.length with hk | hk
    · rw [Nat.min_eq_left hk]
    · rw [Nat.min_eq_right hk, List.drop_of_length_le (Nat.le_refl _), List.drop_of_length_le hk]
  · rw [show clipA none l.length = ((0 : Nat) : Int) from rfl, clB_hi (bd60_ge h1), pick_go, List.drop_zero, Nat.sub_zero]
    rcases Nat.le_total k.toNat l.length with hk | hk
    · rw [Nat.min_eq_left hk]
    · rw [Nat.min_eq_right hk, List.take_of_length_le (Nat.le_refl _), List.take_of_length_le hk]
  · rw [show clipA none l.length = ((0 : Nat) : Int) from rfl, clB_neg, pick_go, List.drop_zero, Nat.sub_zero]
theorem cut_same {α : Type} {l m : List α} {lo hi : Option Int} (h : cut l lo hi = some m) (hl : (sliceRange (clipA lo l.length) (clipB hi l.length) 1).length = l.length) : m = l := by
  have e := cut_pick h
  have h0 := congrArg List.length e
  have len : ∀ a c : Nat, (sliceRange a c 1).length = c - a := fun a c => by rw [sliceRange_one, List.length_map, List.length_range]
  revert hl
  refine cutC (C := fun lo hi m => (sliceRange (clipA lo l.length) (clipB hi l.length) 1).length = l.length → m = l) h (fun k h1 hl => ?_) (fun k h1 hl => ?_) fun hl => ?_
  · rw [clA_lo (bd60_ge h1), show clipB none l.length = ((l.length : Nat) : Int) from rfl, len] at hl
    induction l using List.casesOn with
    | nil => exact List.drop_nil
    | cons a l =>
      cases hk : k.toNat with
      | zero => rfl
      | succ k' => rw [hk, List.length_cons, Nat.succ_min_succ, Nat.add_sub_add_right] at hl; exact absurd hl (Nat.ne_of_lt (Nat.lt_succ_of_le (Nat.sub_le _ _)))
  · rw [show clipA none l.length = ((0 : Nat) : Int) from rfl, clB_hi (bd60_ge h1), len, Nat.sub_zero] at hl
    exact List.take_of_length_le (hl ▸ Nat.min_le_left _ _)
  · rw [show clipA none l.length = ((0 : Nat) : Int) from rfl, clB_neg, len] at hl
    exact List.take_of_length_le (ar106 hl)
theorem slicePick_cut {xs : Array Value} {m : List Value} {lo hi : Option Int} (h : cut xs.toList lo hi = some m) : slicePick xs lo hi none = m.toArray := by
  have := cut_pick h
  rw [Array.toArray_toList, Array.length_toList] at this
  unfold slicePick sliceBounds
  rw [← this]
  cases lo <;> cases hi <;> rfl
theorem sliceStr_cut {l m : List Nat} {lo hi : Option (Int × Tok)} (h : cut l (lo.map (·.1)) (hi.map (·.1)) = some m) : (slicePicked (mkS l) lo hi none).filterMap ((mkS l).cps[·]?) = m := by
  have := cut_pick h
  rw [← this]
  unfold slicePicked Builtin.Str.strSliceIndices
  rw [mkS_length]
  cases lo <;> cases hi <;> rfl
theorem cut_vrs {h : Heap} {l m : List V} {xs : List Value} {lo hi : Option Int} (e : cut l lo hi = some m) (hv : VRs h ad l xs) : ∃ ys, cut xs lo hi = some ys ∧ VRs h ad m ys :=
  cutC (C := fun lo hi m => ∃ ys, cut xs lo hi = some ys ∧ VRs h ad m ys) e (fun k h1 => ⟨_, by show cond (bd60 k) _ _ = _; rw [h1]; rfl, hv.drop _⟩) (fun k h1 => ⟨_, by show cond (bd60 k) _ _ = _; rw [h1]; rfl, hv.take _⟩) ⟨_, rfl, by rw [← hv.length]; exact hv.take _⟩
theorem cut_length {α : Type} {l m : List α} {lo hi : Option Int} (e : cut l lo hi = some m) : m.length ≤ l.length :=
  cutC (C := fun _ _ m => m.length ≤ l.length) e (fun k _ => by rw [List.length_drop]; exact Nat.sub_le _ _) (fun k _ => List.length_take_le' ..) (List.length_take_le' ..)
noncomputable def isSlice (e : PySem.Expr) : Bool := Nat.beq e.ctorIdx (PySem.Expr.Slice none none none default).ctorIdx
theorem subscripted_plain {i : PySem.Expr} (h : isSlice i = false) (o v : Value) : subscripted i false o v = operate [o, v] (getItem o v) := by
  cases i <;> first | rfl | cases h
theorem idx_ok {a i v : V} {x y : Value} {value slice : PySem.Expr} (h : idxV a i mem = some v) (hsl : isSlice slice = false) (R : RelM b s.heap ad mem) (hx : VR s.heap ad a x) (hy : VR s.heap ad i y) :
    OpT b w A s ad (subscriptTail value slice x y) v mem := by
  intro Q E K
  induction a using Mine.V.casesOn with
  | list j => induction i using Mine.V.casesOn with
    | int k =>
      refine ex1_2 hx.listInv fun p ob1 hp => ?_; subst ob1
      refine ex1_1 hy.intInv fun t ob2 => ?_; subst ob2
      refine kE h ?_; clear h; intro h1 h2; refine bE h2 ?_; clear h2; intro l hl h2
      simp only [Bool.and_eq_true, decide_eq_true_eq] at h1
      refine ex1_3 (R.list hp hl) fun its hL hv _ => ?_
      refine ex1_2 (hv.get _ _ h2) fun val e1 e2 => ?_
      exact tail_any hL.typeIs slot_list_getitem.lookup (wpAny_getItem_list hL h1.1 h1.2 (by rw [← Array.getElem?_toList]; exact e1) (K _ ad _ (OutE.refl R) e2)) (subscripted_plain hsl _ _)
    | _ => exact nE h
  | tup l => induction i using Mine.V.casesOn with
    | int k =>
      refine ex2_3 hx.tupInv fun p its ob3 ht hv => ?_; subst ob3
      refine ex1_1 hy.intInv fun t ob4 => ?_; subst ob4
      refine kE h ?_; clear h; intro h1 h2
      simp only [Bool.and_eq_true, decide_eq_true_eq] at h1
      refine ex1_2 (hv.get _ _ h2) fun val e1 e2 => ?_
      have hk : k.toNat < its.size := by
        have := (List.getElem?_eq_some_iff.mp e1).1
        rwa [Array.length_toList] at this
      exact tail_any (IsTup.typeIs ht) slot_tuple_getitem.lookup (PyProof.Rows.getItem_tuple ht (ar109 h1) h1.2 (seqIndex_of h1.1 (ar110 h1 hk)) (by rw [← Array.getElem?_toList]; exact e1) (K _ ad _ (OutE.refl R) e2)) (subscripted_plain hsl _ _)
    | _ => exact nE h
  | _ => exact nE h
theorem isPart (lo : Option (Int × Tok)) : IsPart (partValue lo) (lo.map (·.1)) := by
  rcases lo with _ | ⟨i, t⟩
  · exact .none
  · exact .int i t
theorem sli_ok {a v : V} {x : Value} {lo hi : Option (Int × Tok)} {e1 e2 : Option PySem.Expr} {value : PySem.Expr} {p : Pos} (h : sliV a (lo.map (·.1)) (hi.map (·.1)) mem = some (v, mem')) (R : RelM b s.heap ad mem) (hx : VR s.heap ad a x)
    (K : ∀ s' ad' val, OutE b s ad s' ad' mem' → VR s'.heap ad' v val → Q val s') :
    wpAny (model pz w) A (subscriptTail value (.Slice e1 e2 none p) x (.ref s.heap.objs.size)) Q E { s with heap := s.heap.push { cls := .type "slice", data := .fields #[partValue lo, partValue hi, .none] } } := by
  have hk : ∀ a o, s.heap.get? a = some o → (s.heap.push { cls := .type "slice", data := .fields #[partValue lo, partValue hi, .none] }).get? a = some o := fun a o e => Heap.get?_push_of_some _ e
  have o1 : OutE b s ad { s with heap := s.heap.push { cls := .type "slice", data := .fields #[partValue lo, partValue hi, .none] } } ad mem := OutE.all (n := s.toks) R hk
  induction a using Mine.V.casesOn with
  | list j =>
    refine ex1_2 hx.listInv fun q ob5 hp => ?_; subst ob5
    refine bE h ?_; clear h; intro l hl h; refine kE h ?_; clear h; intro h1 h2; refine mE h2 ?_; clear h2; intro m hm e
    cases e
    refine ex1_3 (R.list hp hl) fun its hL hv _ => ?_
    refine ex1_2 (cut_vrs hm hv) fun ys hy hvy => ?_
    have hsz : its.size ≤ 2097152 := by have h5 := hv.length; have h6 : its.toList.length = its.size := Array.length_toList; have := of_decide_eq_true h1; rw [h6] at h5; exact ar111 h5 h6 this
    refine tail_any (hL.push _).typeIs slot_list_getitem.lookup (wpAny_getItem_list_slice (hL.push _) (Heap.IsSliceOf.new ..) (isPart lo) (isPart hi) .none (by simp) ?_ (by show its.size ≤ _; rw [sizeLine_eq]; exact ar112 hsz)) rfl
    rw [slicePick_cut hy]
    exact K _ _ _ (o1.trans (OutE.newList o1.rel (hvy.all hk))) (.list (list_last o1.rel.hr))
  | str l =>
    refine ex1_1 hx.strInv fun t ob6 => ?_; subst ob6
    refine kE h ?_; clear h; intro h1 h2; refine mE h2 ?_; clear h2; intro m hm e
    cases e
    refine tail_any (typeIs_str _ _ _) F.slot_str_getitem.lookup (wpAny_getItem_str_slice (l := lo) (u := hi) (st := none) ⟨_, Heap.get?_push_size _ rfl, rfl, rfl⟩ rfl ?_) rfl
    have e := sliceStr_cut hm
    unfold sliceMade
    rw [e]
    have e2 : (if ((((none : Option (Int × Tok)).map (·.1)).getD 1 == 1 && (slicePicked (mkS l) lo hi none).length == (mkS l).length) = true) then mkS l else mkS m) = mkS m := by
      split
      · rename_i hc
        rw [Bool.and_eq_true] at hc
        have h3 : (slicePicked (mkS l) lo hi none).length = (mkS l).length := eq_of_beq hc.2
        rw [mkS_length] at h3
        have h4 : (sliceRange (clipA (lo.map (·.1)) l.length) (clipB (hi.map (·.1)) l.length) 1).length = l.length := by
          refine Eq.trans ?_ h3
          unfold slicePicked Builtin.Str.strSliceIndices
          rw [mkS_length]
          cases lo <;> cases hi <;> rfl
        rw [cut_same hm h4]
      · rfl
    refine post_val_or_str ⟨?_, fun t' k => ?_⟩
    · rw [e2, mkS_length]; have := cut_length hm; have := lit_size h1; omega
    · rw [e2]
      exact K _ ad _ (o1.trans (OutE.toks o1.rel k)) (.str _ _)
  | _ => exact nE h
end Mine
end

section
namespace Mine
variable {b : Base} {w : World} {D : Nat} {sc : Scope} {loc : Loc} {mem mem' mem1 mem2 mem3 : Mem} {v : V}
theorem ST_cmp {l op r pos x y c} (hm : behindInMarks op r = false) (hl : SE b w D sc l loc mem x mem1) (hr : SE b w D sc r loc mem1 y mem2) (ho : cmpV op x y mem2 = some c) : ST b w D sc (.Compare l [op] [r] pos) loc mem c mem2 := by
  intro A env s ad Q E hA hE R L K
  refine wpAny_isTrue_Compare1 (hl hA hE R L fun s1 ad1 v1 o1 r1 => hr hA hE o1.rel (L.out R o1) fun s2 ad2 v2 o2 r2 => ?_) hm
  exact cmpV_ok ho hA o2.rel (o2.vr o1.rel r1) r2 (wpAny_truthy_bool (K _ _ (o1.trans o2)))
theorem ST_chain {l p q r t pos x y z c d} (hm : behindInMarks q t = false) (hl : SE b w D sc l loc mem x mem1) (hr : SE b w D sc r loc mem1 y mem2) (ho : cmpV p x y mem2 = some c)
    (h1 : c = true → SE b w D sc t loc mem2 z mem3 ∧ cmpV q y z mem3 = some d) (h2 : c = false → d = false ∧ mem3 = mem2) : ST b w D sc (.Compare l [p, q] [r, t] pos) loc mem d mem3 := by
  intro A env s ad Q E hA hE R L K
  refine isTrue_chain (hl hA hE R L fun s1 ad1 v1 o1 r1 => ?_) hm
  show wpAny (model pz w) A (testChain pos v1 [p, q] [eval r env, eval t env]) Q E s1
  unfold testChain
  refine wpAny_bind (wpAny_holding (hr hA hE o1.rel (L.out R o1) fun s2 ad2 v2 o2 r2 => ?_))
  have o12 := o1.trans o2
  refine wpAny_bind (wpAny_standAt ?_)
  refine wpAny_bind (wpAny_holding (cmpV_ok ho hA o2.rel (o2.vr o1.rel r1) r2 ?_))
  refine wpAny_bind (wpAny_release' ?_)
  refine wpAny_bind (wpAny_holding (wpAny_truthy_bool ?_))
  induction c using Bool.casesOn with
  | false =>
    refine ex0_2 (h2 rfl) fun ob1 ob2 => ?_; subst ob1; subst ob2
    exact wpAny_pure (K _ _ o12)
  | true =>
    refine ex0_2 (h1 rfl) fun h3 h4 => ?_
    show wpAny (model pz w) A (testChain pos v2 [q] [eval t env]) Q E s2
    unfold testChain
    refine wpAny_bind (wpAny_holding (h3 hA hE o2.rel ((L.out R o1).out o1.rel o2) fun s3 ad3 v3 o3 r3 => ?_))
    refine wpAny_bind (wpAny_standAt ?_)
    refine wpAny_bind (wpAny_operating (cmpV_ok h4 hA o3.rel (o3.vr o2.rel r2) r3 ?_))
    exact wpAny_holding (wpAny_truthy_bool (K _ _ (o12.trans o3)))
theorem SE_idx {e i pos x y} (hsl : isSlice i = false) (he : SE b w D sc e loc mem x mem1) (hi : SE b w D sc i loc mem1 y mem2) (ho : idxV x y mem2 = some v) : SE b w D sc (.Subscript e i pos) loc mem v mem2 := by
  intro A env s ad hA hE R L Q E K
  refine Subscript_ (he hA hE R L fun s1 ad1 v1 o1 r1 => hi hA hE o1.rel (L.out R o1) fun s2 ad2 v2 o2 r2 => ?_)
  exact idx_ok ho hsl o2.rel (o2.vr o1.rel r1) r2 fun s3 ad3 v3 o3 r3 => K _ _ _ ((o1.trans o2).trans o3) r3
theorem SE_sliL {e l p pos x k} (he : SE b w D sc e loc mem x mem1) (hi : SE b w D sc l loc mem1 (.int k) mem2) (ho : sliV x (some k) none mem2 = some (v, mem')) : SE b w D sc (.Subscript e (.Slice (some l) none none p) pos) loc mem v mem' := by
  intro A env s ad hA hE R L Q E K
  refine Subscript_ (he hA hE R L fun s1 ad1 v1 o1 r1 => wpAny_Slice ?_)
  rw [evalPart_some]
  refine hi hA hE o1.rel (L.out R o1) fun s2 ad2 v2 o2 r2 => ?_
  rw [evalPart_none]
  refine ex1_1 r2.intInv fun t ob3 => ?_; subst ob3
  exact wpAny_pure (wpAny_pure (sli_ok (lo := some (k, t)) (hi := none) ho o2.rel (o2.vr o1.rel r1) fun s3 ad3 v3 o3 r3 => K _ _ _ ((o1.trans o2).trans o3) r3))
theorem SE_sliU {e l p pos x k} (he : SE b w D sc e loc mem x mem1) (hi : SE b w D sc l loc mem1 (.int k) mem2) (ho : sliV x none (some k) mem2 = some (v, mem')) : SE b w D sc (.Subscript e (.Slice none (some l) none p) pos) loc mem v mem' := by
  intro A env s ad hA hE R L Q E K
  refine Subscript_ (he hA hE R L fun s1 ad1 v1 o1 r1 => wpAny_Slice ?_)
  rw [evalPart_none]
  refine wpAny_pure ?_
  rw [evalPart_some]
  refine hi hA hE o1.rel (L.out R o1) fun s2 ad2 v2 o2 r2 => ?_
  refine ex1_1 r2.intInv fun t ob4 => ?_; subst ob4
  exact wpAny_pure (sli_ok (lo := none) (hi := some (k, t)) ho o2.rel (o2.vr o1.rel r1) fun s3 ad3 v3 o3 r3 => K _ _ _ ((o1.trans o2).trans o3) r3)
theorem SE_callF (B : BaseOk b) {x p a as pos f vs} (hp : plainE a = true) (hx : nameV b sc x loc = some (.ref f)) (hs : SEs b w D sc (a :: as) loc mem vs mem1) (hc : CallOk b w D f vs mem1 v mem')
    (hf : ∃ o fd, b.H.get? f = some o ∧ o.data = .func fd) : SE b w D sc (.Call (.Name x p) (a :: as) [] pos) loc mem v mem' := by
  intro A env s ad hA hE R L Q E K
  refine ex2_2 hf ?_; (try clear hf); intro o fd ho hd
  refine wpAny_Call_NameR (name_wp B hx hE R L fun val hv => ?_)
  cases hv
  refine callWith_def hd (hs hA hE R L fun s1 ad1 xs o1 r1 => ⟨o1.rel.base _ _ ho, ?_⟩) (starEach_plain hp)
  exact hc hA o1.rel r1 fun s2 ad2 v2 o2 r2 => K _ _ _ (o1.trans o2) r2
noncomputable def BltOk (b : Base) (w : World) (D : Nat) (id : String) (vs : List V) (mem : Mem) (v : V) (mem' : Mem) : Prop :=
  ∀ {A s ad vals}, AOk A D → RelM b s.heap ad mem → VRs s.heap ad vs vals → OpT b w A s ad (call (.builtin id) vals) v mem'
theorem star_plain {env : Env} : ∀ {es : List PySem.Expr}, es.all plainE = true → starEach es env = es.map fun e => (false, eval e env)
  | [], _ => rfl
  | e :: es, h => by
    rw [List.all_cons, Bool.and_eq_true] at h
    rw [starEach_plain h.1, star_plain h.2]; rfl
theorem back_plain {env : Env} {pos : Pos} {es : List PySem.Expr} (h : es.all plainE = true) : backTo pos (starEach es env) = es.map fun e => (false, eval e env) := by
  rw [star_plain h]
  unfold backTo
  rw [List.map_map]
  exact List.map_congr_left fun e _ => rfl
theorem back_any {env : Env} {pos : Pos} {es : List PySem.Expr} (h : es.all plainE = true) : (backTo pos (starEach es env)).any (·.1) = false := by
  rw [back_plain h, List.any_map]
  exact List.any_eq_false.mpr fun x _ => Bool.false_ne_true
theorem back_all {env : Env} {pos : Pos} {es : List PySem.Expr} (h : es.all plainE = true) : (backTo pos (starEach es env)).all (fun x => !x.1) = true := by
  rw [back_plain h, List.all_map]
  exact List.all_eq_true.mpr fun x _ => rfl
theorem SE_callB (B : BaseOk b) {x p a as pos id vs} (hp : (a :: as).all plainE = true) (hx : nameV b sc x loc = some (.blt id)) (hs : SEs b w D sc (a :: as) loc mem vs mem1) (hc : BltOk b w D id vs mem1 v mem') :
    SE b w D sc (.Call (.Name x p) (a :: as) [] pos) loc mem v mem' := by
  intro A env s ad hA hE R L Q E K
  refine wpAny_Call_NameR (name_wp B hx hE R L fun val hv => ?_)
  cases hv
  refine PyProof.Rows.callWith_builtin1 (hs hA hE R L fun s1 ad1 xs o1 r1 => ?_) (starEach_plain (by rw [List.all_cons, Bool.and_eq_true] at hp; exact hp.1)) (back_any (by rw [List.all_cons, Bool.and_eq_true] at hp; exact hp.2))
  exact hc hA o1.rel r1 fun s2 ad2 v2 o2 r2 => K _ _ _ (o1.trans o2) r2
structure MethOk (b : Base) (w : World) (D : Nat) (name : Str) (o : V) (vs : List V) (mem : Mem) (v : V) (mem' : Mem) (T id : String) : Prop where
  pa : PlainAttrs T
  slot : Slot T name id
  ty : typeOf (.builtin id) = pure (.type "method_descriptor")
  typ : ∀ {h : Heap} {ad : List Addr} {x : Value} {s : Shared} {m : Mem}, s.heap = h → RelM b h ad m → VR h ad o x → s.TypeIs x T ∧ ∀ a, x = .ref a → ∃ ob, h.get? a = some ob ∧ ob.dict = none
  call : ∀ {A s ad x vals}, AOk A D → RelM b s.heap ad mem → VR s.heap ad o x → VRs s.heap ad vs vals → OpT b w A s ad (call (.builtin id) (x :: vals)) v mem'
theorem callWith_method {A : Around} {s : Shared} {env : Env} {pos : Pos} {id : String} {ov : Value} {args : List PySem.Expr} {Q : Value → Shared → Prop} {E : Value → Shared → Prop} (hp : args.all plainE = true)
    (h : wpAny (model pz w) A (spliced (backTo pos (starEach args env))) (fun vs s₁ => wpAny (model pz w) A (call (.builtin id) (ov :: vs)) Q E s₁) E s) :
    wpAny (model pz w) A (callWith pos (.builtin id) [ov] (backTo pos (starEach args env)) []) Q E s := by
  refine Calls.callWith_builtin (back_any hp) ?_
  rw [back_plain hp] at h ⊢
  induction args using List.casesOn with
  | nil => exact PySem.evalArgs_none fun Γ p hΓ => (h Γ p hΓ) Γ p hΓ
  | cons e es => exact Calls.evalArgs_plain h
theorem base_plain {o : PySem.Expr} {name : Str} {env : Env} (h : isCall o = false) : attributeBase o name env (eval o env) = eval o env := by
  cases o <;> first | rfl | cases h
theorem SE_meth {o name apos pos args ov vs T id} (hc : isCall o = false) (hp : args.all plainE = true) (hl : args.length < 3) (hline : (apos.endLine == pos.line) = true) (ho : SE b w D sc o loc mem ov mem1) (ha : SEs b w D sc args loc mem1 vs mem2)
    (M : MethOk b w D name ov vs mem2 v mem' T id) : SE b w D sc (.Call (.Attribute o name apos) args [] pos) loc mem v mem' := by
  intro A env s ad hA hE R L Q E K
  refine wpAny_Call_method (base_plain hc) ?_ hline M.pa M.slot M.ty (ho hA hE R L fun s1 ad1 x o1 r1 => ?_)
  · rw [back_all hp]
    show (true && (backToKw pos (keywordEach [] env)).all (fun x => x.1.isSome) && _) = true
    show decide (args.length + 0 + 0 < 30) = true
    exact decide_eq_true (ar529 hl)
  · refine ex0_2 (M.typ (s := s1) rfl o1.rel r1) fun t1 t2 => ?_
    refine ⟨t1, t2, callWith_method hp (ha hA hE o1.rel (L.out R o1) fun s2 ad2 xs o2 r2 => ?_)⟩
    exact M.call hA o2.rel (o2.vr o1.rel r1) r2 fun s3 ad3 v3 o3 r3 => K _ _ _ ((o1.trans o2).trans o3) r3
end Mine
end

section
namespace Mine
variable {b : Base} {w : World} {D : Nat} {sc : Scope} {loc : Loc} {mem mem' mem1 mem2 mem3 : Mem} {v : V}
inductive WkR (h : Heap) (ad : List Addr) (I : Addr) : Wk → Prop where
  | lst {i : Nat} {k : Nat} {a : Addr} (ha : ad[i]? = some a) (hi : h.IsListIter I a k) : WkR h ad I (.lst i k)
  | rev {i : Nat} {k : Nat} {a : Addr} (ha : ad[i]? = some a) (hi : h.IsRevIter I a ((k : Int) - 1)) : WkR h ad I (.rev i k)
  | rng {x : Int} {n : Nat} (hi : IsRangeIter h I x (n : Int) 1) : WkR h ad I (.rng (rangeL x n))
  | chars {ty : String} {x : List Nat} {t : Tok} {i : Nat} (hle : i ≤ x.length) (hty : ty = "str_ascii_iterator" ∨ ty = "str_iterator") (hi : h.IsStrIter I ty (mkS x) t i) : WkR h ad I (.chars (x.drop i))
noncomputable def Fld (h : Heap) (I : Addr) : Prop := ∃ o fs, h.get? I = some o ∧ o.data = .fields fs ∧ o.cls ≠ .none ∧ ∀ q t, fs[1]? ≠ some (.str q t)
theorem WkR.fld {h ad I wk} (W : WkR h ad I wk) : Fld h I := by
  cases W with
  | lst ha hi => refine ex1_3 hi ?_; (try clear hi); intro o ho hc hd; exact ⟨o, _, ho, hd, by rw [hc]; nofun, fun q t => nofun⟩
  | rev ha hi => refine ex1_3 hi ?_; (try clear hi); intro o ho hc hd; exact ⟨o, _, ho, hd, by rw [hc]; nofun, fun q t => nofun⟩
  | rng hi => exact ⟨_, _, hi, rfl, nofun, fun q t => nofun⟩
  | chars _ hty hi => refine ex1_3 hi ?_; (try clear hi); intro o ho hc hd; exact ⟨o, _, ho, hd, by rw [hc]; nofun, fun q t => nofun⟩
theorem WkR.keep {h h' ad ad' I wk} (W : WkR h ad I wk) (hp : Pre ad ad') (hk : ∀ o, h.get? I = some o → h'.get? I = some o) : WkR h' ad' I wk := by
  cases W with
  | lst ha hi => refine ex1_2 hi ?_; (try clear hi); intro o ho r; exact .lst (hp _ _ ha) ⟨o, hk o ho, r⟩
  | rev ha hi => refine ex1_2 hi ?_; (try clear hi); intro o ho r; exact .rev (hp _ _ ha) ⟨o, hk o ho, r⟩
  | rng hi => exact .rng (hk _ hi)
  | chars hle ht hi => refine ex1_2 hi ?_; (try clear hi); intro o ho r; exact .chars hle ht ⟨o, hk o ho, r⟩
theorem Fld.notTuple {h : Heap} {I : Addr} (f : Fld h I) : ∀ items, ¬ h.IsTuple I items := by
  rintro items ⟨o, ho, hc, n, hd⟩
  refine ex2_3 f ?_; (try clear f); intro o' fs ho' hd' _
  rw [ho] at ho'; cases ho'; rw [hd] at hd'; cases hd'
theorem Fld.notList {h : Heap} {I : Addr} (f : Fld h I) : ∀ items, ¬ h.IsList I items := by
  rintro items ⟨o, ho, hc, n, hd⟩
  refine ex2_3 f ?_; (try clear f); intro o' fs ho' hd' _
  rw [ho] at ho'; cases ho'; rw [hd] at hd'; cases hd'
theorem Fld.notNs {h : Heap} {I : Addr} (f : Fld h I) : ∀ m, ¬ h.Ns I m := by
  rintro m ⟨o, es, ep, ho, hd, _⟩
  refine ex2_3 f ?_; (try clear f); intro o' fs ho' hd' _
  rw [ho] at ho'; cases ho'; rw [hd] at hd'; cases hd'
theorem Fld.notCell {h : Heap} {I : Addr} (f : Fld h I) : ∀ m, ¬ h.IsCell I m := by
  rintro m ⟨o, ho, hd⟩
  refine ex2_3 f ?_; (try clear f); intro o' fs ho' hd' _
  rw [ho] at ho'; cases ho'; rw [hd] at hd'; cases hd'
theorem Fld.notF {h : Heap} {I : Addr} (f : Fld h I) : NotF h I := by
  intro o vs ho hd
  refine ex2_3 f ?_; (try clear f); intro o' fs ho' hd' hc
  rw [ho] at ho'; cases ho'; rw [hd] at hd'; cases hd'; exact hc
theorem Fld.notTab {h : Heap} {I : Addr} (f : Fld h I) (x : TabAt h I) : False := by
  refine ex1_2 x ?_; (try clear x); intro ps h1 _
  exact (f.notF _ _ h1 rfl).1 rfl
structure Touch (s s' : Shared) (I : Addr) : Prop where
  same : s'.os = s.os ∧ s'.gens = s.gens ∧ s'.drawn = s.drawn
  keep : ∀ c o, c ≠ I → s.heap.get? c = some o → s'.heap.get? c = some o
theorem Touch.rel {s s' : Shared} {I : Addr} {ad : List Addr} (T : Touch s s' I) (f : Fld s.heap I) (hI : b.H.get? I = none) (R : RelM b s.heap ad mem) : RelM b s'.heap ad mem where
  base := fun a o e => T.keep a o (fun h => by rw [h, hI] at e; cases e) (R.base a o e)
  lowA := R.lowA
  hr := ⟨R.hr.len, R.hr.nodup, fun i l e => by
    refine ex2_4 (R.hr.at_ i l e) fun a items ha hl hv hp => ?_
    have hne : a ≠ I := fun h => by rw [h] at hl; exact f.notList _ hl
    exact ⟨a, items, ha, list_keep hl fun o e => T.keep a o hne e, VRs.keep (W := (· = I)) (fun c o hc e => T.keep c o hc e) (fun c hc => by rw [hc]; exact f.notTuple) (Pre.refl _) hv, fun h0 => (hp h0).at fun o e => T.keep a o hne e⟩⟩
  tabs := fun a ha => (R.tabs a ha).but (W := (· = I)) (fun c o hc e => T.keep c o hc e) fun c hc => by rw [hc]; exact f.notF
theorem Touch.vr {s s' : Shared} {I : Addr} {ad : List Addr} (T : Touch s s' I) (f : Fld s.heap I) {v x} (hv : VR s.heap ad v x) : VR s'.heap ad v x :=
  VR.keep (W := (· = I)) (fun c o hc e => T.keep c o hc e) (fun c hc => by rw [hc]; exact f.notTuple) (Pre.refl _) hv
theorem Touch.lr {s s' : Shared} {I : Addr} {ad : List Addr} {env : Env} (T : Touch s s' I) (f : Fld s.heap I) (L : LR b env s.heap ad loc) : LR b env s'.heap ad loc where
  low := L.low
  lowC := L.lowC
  cell := fun x c hc => by
    refine ex1_1 (L.cell x c hc) fun ov hv => ?_
    exact ⟨ov, cell_keep hv fun o e => T.keep c o (fun h => by rw [h] at hv; exact f.notCell _ hv) e⟩
  ns := by
    refine ex1_2 L.ns fun m hn hl => ?_
    refine ⟨m, ns_keep hn fun o e => T.keep _ o (fun h => by rw [h] at hn; exact f.notNs _ hn) e, fun x v e => ?_⟩
    obtain ⟨val, hv, h | ⟨hk, c, hc, hcv⟩⟩ := hl x v e
    · exact ⟨val, T.vr f hv, .inl h⟩
    · exact ⟨val, T.vr f hv, .inr ⟨hk, c, hc, cell_keep hcv fun o e => T.keep c o (fun h => by rw [h] at hcv; exact f.notCell _ hcv) e⟩⟩
theorem Touch.same' {s : Shared} {h' : Heap} {n : Nat} {I : Addr} (hs : Heap.SameBut I s.heap h') : Touch s { s with heap := h', toks := n } I := ⟨⟨rfl, rfl, rfl⟩, fun c o hc e => (hs.2 c hc).trans e⟩
theorem Touch.ext {s : Shared} {h' : Heap} {n : Nat} {I : Addr} (hs : Heap.ExtBut I s.heap h') : Touch s { s with heap := h', toks := n } I := ⟨⟨rfl, rfl, rfl⟩, fun c o hc e => hs c o hc e⟩
noncomputable def NextR (s' : Shared) (ad : List Addr) (I : Addr) (r : Option (V × Wk)) (x : Option Value) : Prop :=
  match r with
  | none => x = none
  | some (v, k) => ∃ val, x = some val ∧ VR s'.heap ad v val ∧ WkR s'.heap ad I k
theorem next_ok {A : Around} {s : Shared} {ad : List Addr} {I : Addr} {k : Wk} {r : Option (V × Wk)} {Q : Option Value → Shared → Prop} {E : Value → Shared → Prop} (h : nextW mem k = some r) (hA : AOk A D) (R : RelM b s.heap ad mem) (W : WkR s.heap ad I k)
    (K : ∀ s' x, Touch s s' I → NextR s' ad I r x → Q x s') : wpAny (model pz w) A (pyNext (.ref I)) Q E s := by
  have f := W.fld
  cases W with
  | @lst i k a ha hi =>
    rw [nextW, Option.map_eq_some_iff] at h
    refine ex1_2 h ?_; (try clear h); intro l hl h
    refine ex1_3 (R.list ha hl) fun its hL hv _ => ?_
    cases e : l[k]? with
    | none =>
      rw [e] at h; cases h
      have : its[k]? = none := by
        rw [← Array.getElem?_toList, List.getElem?_eq_none_iff, ← hv.length]
        exact List.getElem?_eq_none_iff.mp e
      exact wpAny_pyNext_list_end hA.handled hi hL this fun h' he => K _ _ (Touch.ext (n := s.toks) he) rfl
    | some v =>
      rw [e] at h; cases h
      refine ex1_2 (hv.get k v e) fun x hx hvx => ?_
      refine wpAny_pyNext_list_item hi hL (by rw [← Array.getElem?_toList]; exact hx) fun h' hi' hs => ?_
      have T := Touch.same' (n := s.toks) hs
      exact K _ _ T ⟨x, rfl, T.vr f hvx, .lst ha hi'⟩
  | @rev i k a ha hi =>
    induction k using Nat.casesOn with
    | zero =>
      cases h
      exact wpAny_pyNext_rev_end hA.handled hi fun h' he => K _ _ (Touch.ext (n := s.toks) he) rfl
    | succ k =>
      rw [nextW, Option.bind_eq_some_iff] at h
      refine ex1_2 h ?_; (try clear h); intro l hl h
      rw [Option.map_eq_some_iff] at h
      refine ex1_2 h ?_; (try clear h); intro v e h
      cases h
      refine ex1_3 (R.list ha hl) fun its hL hv _ => ?_
      refine ex1_2 (hv.get k v e) fun x hx hvx => ?_
      have e1 : ((k + 1 : Nat) : Int) - 1 = (k : Int) := ar462
      rw [e1] at hi
      refine wpAny_pyNext_rev_item hi hL (by rw [← Array.getElem?_toList]; exact hx) fun h' hi' hs => ?_
      have T := Touch.same' (n := s.toks) hs
      exact K _ _ T ⟨x, rfl, T.vr f hvx, .rev ha hi'⟩
  | @rng x n hi =>
    induction n using Nat.casesOn with
    | zero =>
      cases h
      exact wpAny_pyNext_range_end hA.handled hi (by decide) fun h' he => K _ _ (Touch.ext (n := s.toks) he) rfl
    | succ n =>
      cases h
      refine wpAny_pyNext_range_item hi (ar463) fun h' hi' hs => ?_
      have T := Touch.same' (n := s.toks + 1) hs
      have e1 : ((n + 1 : Nat) : Int) - 1 = (n : Int) := ar462
      rw [e1] at hi'
      exact K _ _ T ⟨_, rfl, .int _ _, .rng hi'⟩
  | @chars ty x t i hle hty hi =>
    cases e : x[i]? with
    | none =>
      have e1 : x.drop i = [] := List.drop_eq_nil_of_le (List.getElem?_eq_none_iff.mp e)
      rw [e1] at h
      cases h
      have e2 : (mkS x).cps[i]? = none := by rw [List.getElem?_toArray]; exact e
      rcases hty with rfl | rfl
      · exact wpAny_pyNext_ascii_end hA.handled hi e2 fun h' he => K _ _ (Touch.ext (n := s.toks) he) rfl
      · exact wpAny_pyNext_wide_end hA.handled hi e2 fun h' he => K _ _ (Touch.ext (n := s.toks) he) rfl
    | some c =>
      have e1 : x.drop i = c :: x.drop (i + 1) := by
        obtain ⟨hlt, hc⟩ := List.getElem?_eq_some_iff.mp e
        rw [List.drop_eq_getElem_cons hlt, hc]
      rw [e1] at h
      cases h
      have e2 : (mkS x).cps[i]? = some c := by rw [List.getElem?_toArray]; exact e
      rcases hty with rfl | rfl
      · refine wpAny_pyNext_ascii_item hi e2 fun h' hi' hs => ?_
        have T := Touch.same' (n := s.toks + 1) hs
        exact K _ _ T ⟨_, rfl, .str [c] _, .chars (Nat.lt_of_le_of_ne hle (fun q => by rw [q, List.getElem?_eq_none (Nat.le_refl _)] at e; cases e)) (.inl rfl) hi'⟩
      · refine wpAny_pyNext_wide_item hi e2 fun h' hi' hs => ?_
        have T := Touch.same' (n := s.toks + 1) hs
        exact K _ _ T ⟨_, rfl, .str [c] _, .chars (Nat.lt_of_le_of_ne hle (fun q => by rw [q, List.getElem?_eq_none (Nat.le_refl _)] at e; cases e)) (.inr rfl) hi'⟩
theorem OutE.none {s s' : Shared} {ad ad' : List Addr} {a : Addr} (R : RelM b s.heap ad mem) (o : OutE b s ad s' ad' mem') (h : s'.heap.get? a = none) : s.heap.get? a = none := by
  cases e : s.heap.get? a with
  | none => rfl
  | some ob =>
    by_cases ha : Wr b ad a
    · rcases ha with ha | ha
      case inr => refine ex1_1 ((o.rel.tabs a ha).some) fun o' ho' => ?_; rw [h] at ho'; cases ho'
      obtain ⟨i, hi, e1⟩ := List.mem_iff_getElem.mp ha
      have h1 := o.pre i a (by rw [List.getElem?_eq_getElem hi, e1])
      obtain ⟨its, o', ho', _⟩ := o.rel.hr.isList a (List.mem_of_getElem? h1)
      rw [h] at ho'; cases ho'
    · rw [o.keep a ob ha e] at h; cases h
noncomputable def SI (b : Base) (w : World) (D : Nat) (sc : Scope) (e : PySem.Expr) (loc : Loc) (mem : Mem) (k : Wk) (mem' : Mem) : Prop :=
  ∀ {A : Around} {env : Env} {s : Shared} {ad : List Addr} {Q : Value → Shared → Prop} {E : Value → Shared → Prop}, AOk A D → EnvOk env sc → RelM b s.heap ad mem → LR b env s.heap ad loc →
    (∀ s' ad' I, OutE b s ad s' ad' mem' → s.heap.get? I = none → WkR s'.heap ad' I k → Q (.ref I) s') → wpAny (model pz w) A (eval e env) (fun x s₁ => wpAny (model pz w) A (pyIter x) Q E s₁) E s
theorem SI_val {e x k} (he : SE b w D sc e loc mem x mem1) (hk : (∃ i, x = .list i ∧ k = .lst i 0) ∨ (∃ l, x = .str l ∧ k = .chars l)) : SI b w D sc e loc mem k mem1 := by
  intro A env s ad Q E hA hE R L K
  refine he hA hE R L fun s1 ad1 v o1 r1 => ?_
  rcases hk with ⟨i, rfl, rfl⟩ | ⟨l, rfl, rfl⟩
  · refine ex1_2 r1.listInv fun p ob1 hp => ?_; subst ob1
    have hl := List.getElem?_eq_getElem (l := mem1) (by rw [← o1.rel.hr.len]; exact (List.getElem?_eq_some_iff.mp hp).1 : i < mem1.length)
    refine ex1_3 (o1.rel.list hp hl) fun its hL _ _ => ?_
    exact wpAny_pyIter_list hL (K _ ad1 _ (o1.trans (OutE.all (n := s1.toks) o1.rel (fun a o e => Heap.get?_push_of_some _ e))) (o1.none R (get_top _)) (.lst hp ⟨_, Heap.get?_push_size _ rfl, rfl, rfl⟩))
  · refine ex1_1 r1.strInv fun t ob2 => ?_; subst ob2
    cases ha : (mkS l).cps.all (· < 128)
    · exact wpAny_pyIter_wide ha (K _ ad1 _ (o1.trans (OutE.all (n := s1.toks) o1.rel (fun a o e => Heap.get?_push_of_some _ e))) (o1.none R (get_top _)) (.chars (x := l) (i := 0) (Nat.zero_le _) (.inr rfl) ⟨_, Heap.get?_push_size _ rfl, rfl, rfl⟩))
    · exact wpAny_pyIter_ascii ha (K _ ad1 _ (o1.trans (OutE.all (n := s1.toks) o1.rel (fun a o e => Heap.get?_push_of_some _ e))) (o1.none R (get_top _)) (.chars (x := l) (i := 0) (Nat.zero_le _) (.inl rfl) ⟨_, Heap.get?_push_size _ rfl, rfl, rfl⟩))
theorem SE_callT (B : BaseOk b) {x p a as pos T vs} {A : Around} {env : Env} {s : Shared} {ad : List Addr} {Q : Value → Shared → Prop} {E : Value → Shared → Prop} (hp : (a :: as).all plainE = true) (hx : nameV b sc x loc = some (.typ T)) (hs : SEs b w D sc (a :: as) loc mem vs mem1)
    (hA : AOk A D) (hE : EnvOk env sc) (R : RelM b s.heap ad mem) (L : LR b env s.heap ad loc) (K : ∀ s' ad' vals, OutE b s ad s' ad' mem1 → VRs s'.heap ad' vs vals → wpAny (model pz w) A (call (.type T) vals) Q E s') :
    wpAny (model pz w) A (eval (.Call (.Name x p) (a :: as) [] pos) env) Q E s := by
  refine wpAny_Call_NameR (name_wp B hx hE R L fun val hv => ?_)
  cases hv
  exact PyProof.Rows.callWith_type1 (hs hA hE R L fun s1 ad1 xs o1 r1 => K _ _ _ o1 r1) (starEach_plain (by rw [List.all_cons, Bool.and_eq_true] at hp; exact hp.1)) (back_any (by rw [List.all_cons, Bool.and_eq_true] at hp; exact hp.2))
end Mine
end

section
namespace Mine
variable {b : Base} {w : World} {D : Nat} {mem mem' : Mem} {v : V}
theorem vrs1 {h : Heap} {ad : List Addr} {x : V} {xs : List Value} (hv : VRs h ad [x] xs) : ∃ a, xs = [a] ∧ VR h ad x a := by
  cases hv with | cons hv hl => cases hl; exact ⟨_, rfl, hv⟩
theorem vrs2 {h : Heap} {ad : List Addr} {x y : V} {xs : List Value} (hv : VRs h ad [x, y] xs) : ∃ a c, xs = [a, c] ∧ VR h ad x a ∧ VR h ad y c := by
  cases hv with | cons hv hl => refine ex1_2 (vrs1 hl) fun c ob1 hc => ?_; subst ob1; exact ⟨_, _, rfl, hv, hc⟩
theorem len_ok {vs : List V} (h : (match vs with
    | [.list j] => (mem[j]?).bind fun l => cond (lit l.length) (some (V.int l.length, mem)) none
    | _ => none) = some (v, mem')) : BltOk b w D "len" vs mem v mem' := by
  obtain _ | ⟨y, _ | ⟨z, vs⟩⟩ := vs
  · exfalso; exact nE h
  · induction y using Mine.V.casesOn with
    | list j =>
      intro A s ad vals hA R hv Q E K
      refine ex1_2 (vrs1 hv) fun x ob2 hx => ?_; subst ob2
      refine ex1_2 hx.listInv fun p ob3 hp => ?_; subst ob3
      refine bE h ?_; clear h; intro l hl h
      refine kE h ?_; clear h; intro h1 h2
      cases h2
      refine ex1_3 (R.list hp hl) fun its hL hvl _ => ?_
      have e1 := hvl.length
      have e2 : its.toList.length = its.size := Array.length_toList
      have e3 : l.length ≤ 1000 := lit_le h1
      rw [e2] at e1
      refine Calls.call_len_list hL (ar12 e1 e2 e3) (K _ ad _ (OutE.toks R _) ?_)
      rw [e1]
      exact .int _ _
    | _ => exfalso; exact nE h
  · cases y <;> (exfalso; exact nE h)
theorem chr_ok {vs : List V} (h : (match vs with
    | [.int i] => cond (decide (0 ≤ i) && decide (i ≤ 1114111)) (some (V.str [i.toNat], mem)) none
    | _ => none) = some (v, mem')) : BltOk b w D "chr" vs mem v mem' := by
  obtain _ | ⟨y, _ | ⟨z, vs⟩⟩ := vs
  · exfalso; exact nE h
  · induction y using Mine.V.casesOn with
    | int i =>
      intro A s ad vals hA R hv Q E K
      refine ex1_2 (vrs1 hv) fun x ob4 hx => ?_; subst ob4
      refine ex1_1 hx.intInv fun t ob5 => ?_; subst ob5
      refine kE h ?_; clear h; intro h1 h2
      cases h2
      simp only [Bool.and_eq_true, decide_eq_true_eq] at h1
      exact chr_of_range h1.1 h1.2 (K _ ad _ (OutE.toks R _) (.str _ _))
    | _ => exfalso; exact nE h
  · cases y <;> (exfalso; exact nE h)
theorem divmod_ok {vs : List V} (h : (match vs with
    | [.int a, .int c] => cond (small c && decide (0 < c)) (some (V.tup [.int (a.fdiv c), .int (a.fmod c)], mem)) none
    | _ => none) = some (v, mem')) : BltOk b w D "divmod" vs mem v mem' := by
  obtain _ | ⟨y, _ | ⟨z, _ | ⟨z2, vs⟩⟩⟩ := vs
  · exfalso; exact nE h
  · cases y <;> (exfalso; exact nE h)
  · induction y using Mine.V.casesOn with
    | int a => induction z using Mine.V.casesOn with
      | int c =>
        intro A s ad vals hA R hv Q E K
        refine ex2_3 (vrs2 hv) fun x y ob6 hx hy => ?_; subst ob6
        refine ex1_1 hx.intInv fun t ob7 => ?_; subst ob7
        refine ex1_1 hy.intInv fun u ob8 => ?_; subst ob8
        refine kE h ?_; clear h; intro h1 h2
        cases h2
        simp only [Bool.and_eq_true, decide_eq_true_eq] at h1
        refine divmod_int (by omega) (K _ ad _ (OutE.all (n := s.toks + 1 + 1) R (fun a o e => Heap.get?_push_of_some _ e)) ?_) (.inl (small_not_pylong h1.1))
        refine .tup ⟨_, Heap.get?_push_size _ rfl, rfl, 0, rfl⟩ ?_
        exact .cons (.int _ _) (.cons (.int _ _) .nil)
      | _ => exfalso; exact nE h
    | _ => exfalso; exact nE h
  · cases y <;> first | (exfalso; exact nE h) | (cases z <;> (exfalso; exact nE h))
theorem IntsV.are {xs : List Value} {l : List Int} (h : IntsV xs l) : IntsAre xs l := by
  induction h with
  | nil => exact .nil
  | cons _ ih => exact .cons _ _ ih
theorem ints_vrs {h : Heap} {ad : List Addr} {xs : List Value} {l : List Int} (hi : IntsAre xs l) : VRs h ad (l.map .int) xs := by
  induction hi with
  | nil => exact .nil
  | cons _ _ _ ih => exact .cons (.int _ _) ih
theorem insI'_perm (x : Int) : ∀ l, (insI' x l).Perm (x :: l)
  | [] => .refl _
  | y :: l => by
    rw [insI']
    cases decide (x ≤ y) with
    | true => exact .refl _
    | false => exact ((insI'_perm x l).cons y).trans (.swap _ _ _)
theorem sortI'_perm : ∀ l, (sortI' l).Perm l
  | [] => .refl _
  | x :: l => (insI'_perm x _).trans ((sortI'_perm l).cons x)
theorem insI'_pw (x : Int) : ∀ l : List Int, l.Pairwise (· ≤ ·) → (insI' x l).Pairwise (· ≤ ·)
  | [], _ => by simp [insI']
  | y :: l, h => by
    rw [insI']
    rw [List.pairwise_cons] at h
    cases hd : decide (x ≤ y) with
    | true =>
      replace hd := of_decide_eq_true hd
      rw [cond_true, List.pairwise_cons, List.pairwise_cons]
      refine ⟨fun z hz => ?_, h⟩
      rcases List.mem_cons.mp hz with rfl | hz
      · exact hd
      · exact Int.le_trans hd (h.1 z hz)
    | false =>
      replace hd := of_decide_eq_false hd
      rw [cond_false, List.pairwise_cons]
      refine ⟨fun z hz => ?_, insI'_pw x l h.2⟩
      rcases List.mem_cons.mp ((insI'_perm x l).mem_iff.mp hz) with rfl | hz
      · exact ar13 hd
      · exact h.1 z hz
theorem sortI'_pw : ∀ l : List Int, (sortI' l).Pairwise (· ≤ ·)
  | [] => .nil
  | x :: l => insI'_pw x _ (sortI'_pw l)
theorem sort_unique {l m : List Int} (hp : l.Perm m) (h1 : l.Pairwise (· ≤ ·)) (h2 : m.Pairwise (· ≤ ·)) : l = m :=
  hp.eq_of_pairwise (fun a b _ _ h1 h2 => Int.le_antisymm h1 h2) h1 h2
theorem sortedInts_ok {A : Around} {s : Shared} {ad : List Addr} {a : Addr} {its : Array Value} {l : List V} {x : List Int} {Q : Value → Shared → Prop} {E : Value → Shared → Prop} (R : RelM b s.heap ad mem) (hL : s.heap.IsList a its) (hv : VRs s.heap ad l its.toList) (hi : intsOf l = some x) (hl : l.length < 64)
    (K : ∀ s' ad' val, OutE b s ad s' ad' (mem ++ [(sortI' x).map .int]) → VR s'.heap ad' (.list mem.length) val → Q val s') : wpAny (model pz w) A (call (.builtin "sorted") [.ref a]) Q E s := by
  have hI := IntsV.of hi hv
  refine sorted_ints (vs := its.toList) (ns := x) (by rw [Array.toArray_toList]; exact hL) hI.are (by rw [← hv.length]; exact hl) fun out ns' h1 h2 h3 => ?_
  refine ex1_1 (sortedAll_at s.heap its.toList out) fun e he => ?_
  have e2 : ns' = sortI' x := sort_unique (h2.trans (sortI'_perm x).symm) h3 (sortI'_pw x)
  subst e2
  exact K _ _ _ (OutE.addList (n := s.toks) (a := s.heap.objs.size + 1) (items := out) R (fun _ _ h => sortedAll_old h) (Heap.get?_none_of_le (Nat.le_succ _)) ⟨e, he⟩ (ints_vrs h1)) (.list (list_last R.hr))
theorem preSum_take (x : List Int) : ∀ j, j ≤ x.length → preSum (fun i => (x[i]?).getD 0) j = sumI (x.take j)
  | 0, _ => by simp [preSum, sumI]
  | j + 1, h => by
    have app : ∀ l m : List Int, sumI (l ++ m) = sumI l + sumI m := by
      intro l m
      induction l with
      | nil => simp [sumI]
      | cons a l ih => rw [List.cons_append, sumI, sumI, ih]; exact ar14
    rw [preSum, preSum_take x j (ar15 h), List.take_add_one, app]
    rw [List.getElem?_eq_getElem (ar16 h)]
    simp [sumI]
theorem preSum_bound {f : Nat → Int} (h : ∀ i, 0 ≤ f i ∧ f i ≤ 2 ^ 40) : ∀ j, 0 ≤ preSum f j ∧ preSum f j ≤ j * 2 ^ 40
  | 0 => by simp [preSum]
  | j + 1 => by
    have := preSum_bound h j
    have := h j
    rw [preSum]
    constructor
    · omega
    · rw [Int.natCast_succ, Int.add_mul]; omega
theorem IntsV.get : ∀ {xs l}, IntsV xs l → ∀ (i : Nat) (v : Value), xs[i]? = some v → ∃ t, v = .int ((l[i]?).getD 0) t
  | _, _, .nil, i, v, h => by simp at h
  | _, _, .cons h0, 0, v, h => by simp at h; subst h; exact ⟨_, rfl⟩
  | _, _, .cons h0, i + 1, v, h => by simpa using IntsV.get h0 i v (by simpa using h)
theorem sum_ok {vs : List V} (h : (match vs with
    | [.list j] => (mem[j]?).bind fun l => (intsOf l).bind fun x => cond (lit x.length && x.all fun i => decide (0 ≤ i) && decide (i ≤ 2 ^ 40)) (some (V.int (sumI x), mem)) none
    | _ => none) = some (v, mem')) : BltOk b w D "sum" vs mem v mem' := by
  obtain _ | ⟨y, _ | ⟨z, vs⟩⟩ := vs
  · exfalso; exact nE h
  · induction y using Mine.V.casesOn with
    | list j =>
      intro A s ad vals hA R hv Q E K
      refine ex1_2 (vrs1 hv) fun x ob9 hx => ?_; subst ob9
      refine ex1_2 hx.listInv fun p ob10 hp => ?_; subst ob10
      refine bE h ?_; clear h; intro l hl h
      refine bE h ?_; clear h; intro x hi h
      refine kE h ?_; clear h; intro h1 h2
      cases h2
      refine ex1_3 (R.list hp hl) fun its hL hvl _ => ?_
      have hpl : p < s.heap.objs.size := by refine ex1_2 hL ?_; (try clear hL); intro o ho _; exact Heap.lt_size ho
      have hI := IntsV.of hi hvl
      rw [Bool.and_eq_true, List.all_eq_true] at h1
      have hlen : x.length ≤ 1000 := lit_le h1.1
      have hb : ∀ i : Nat, 0 ≤ (x[i]?).getD 0 ∧ (x[i]?).getD 0 ≤ 2 ^ 40 := by
        intro i
        cases e : x[i]? with
        | none => simp
        | some y =>
          have := h1.2 y (List.mem_of_getElem? e)
          rw [Bool.and_eq_true, decide_eq_true_eq, decide_eq_true_eq] at this
          exact this
      have hsz : its.size = x.length := by rw [← Array.length_toList]; exact hI.length
      refine call_sum_walk (wpAny_pyIter_list hL ?_)
      have hne : p ≠ s.heap.objs.size := by refine ex1_2 hL ?_; (try clear hL); intro o ho _; exact Nat.ne_of_lt (Heap.lt_size ho)
      refine ⟨_, _, _, _, _, _, fun i => (x[i]?).getD 0, rfl, Walks.list (A := A.in1) hA.handled s.heap.objs.size p hne its, ⟨⟨_, Heap.get?_push_size _ rfl, rfl, rfl⟩, hL.push _⟩, ?_, fun i v hv => IntsV.get hI i v (by rw [Array.getElem?_toList]; exact hv), fun j hj => ?_, fun h' tk t' hk => ?_⟩
      · intro c hc
        rcases List.mem_cons.mp hc with rfl | hc
        · show s.heap.objs.size < (s.heap.push _).objs.size
          rw [Heap.size_push]; exact ar17
        · rw [List.mem_singleton.mp hc]
          show p < (s.heap.push _).objs.size
          rw [Heap.size_push]
          exact Nat.lt_succ_of_lt hpl
      · have h3 := hb j
        have h4 := preSum_bound hb (j + 1)
        rw [hsz] at hj
        have h5 : ((j + 1 : Nat) : Int) ≤ 1000 := ar18 hlen hsz hj
        have h6 : ((j + 1 : Nat) : Int) * 2 ^ 40 ≤ 1000 * 2 ^ 40 := Int.mul_le_mul_of_nonneg_right h5 (by decide)
        show (-(2 ^ 63) ≤ (x[j]?).getD 0 ∧ (x[j]?).getD 0 < 2 ^ 63) ∧ (-(2 ^ 63) ≤ preSum (fun i => (x[i]?).getD 0) (j + 1) ∧ preSum (fun i => (x[i]?).getD 0) (j + 1) < 2 ^ 63)
        exact ⟨⟨ar19 h3, ar20 h3⟩, ⟨ar21 h4, ar22 h4 h5⟩⟩
      · rw [hsz, preSum_take x x.length (Nat.le_refl _), List.take_length]
        refine K _ ad _ (OutE.all (n := tk) R (fun c o e => ?_)) (.int _ _)
        exact hk c o (fun hm => by rw [List.mem_singleton.mp hm] at e; rw [get_top] at e; cases e) (Heap.get?_push_of_some _ e)
    | _ => exfalso; exact nE h
  · cases y <;> (exfalso; exact nE h)
end Mine
end

section
namespace Mine
variable {b : Base} {w : World} {D : Nat} {mem mem' : Mem} {v : V}
open PySem.Builtin.Str
theorem mkS_toList (x : Str) : mkS x.cps.toList = x := by cases x; simp [mkS]
theorem list_typ {h : Heap} {ad : List Addr} {x : Value} {s : Shared} {m : Mem} {j : Nat} (hj : j ≠ 0) (e : s.heap = h) (R : RelM b h ad m) (hv : VR h ad (.list j) x) :
    s.TypeIs x "list" ∧ ∀ a, x = .ref a → ∃ ob, h.get? a = some ob ∧ ob.dict = none := by
  subst e
  refine ex1_2 hv.listInv fun p ob1 hp => ?_; subst ob1
  have hm : j < m.length := by rw [← R.hr.len]; exact (List.getElem?_eq_some_iff.mp hp).1
  obtain ⟨its, hL, hvl, hP⟩ := R.list hp (List.getElem?_eq_getElem hm)
  refine ⟨hL.typeIs, fun a e => ?_⟩
  cases e
  refine ex1_1 (hP hj) fun n hn => ?_
  exact ⟨_, hn, rfl⟩
theorem cond_nn' {α : Type} {c : Bool} {x : Option α} {r : α} (h : cond c none x = some r) : c = false ∧ x = some r := by cases c; exact ⟨rfl, h⟩; cases h
theorem vrs0 {h : Heap} {ad : List Addr} {xs : List Value} (hv : VRs h ad [] xs) : xs = [] := by cases hv; rfl
theorem append_ok {j : Nat} {l : List V} {y : V} (hj : j ≠ 0) (hl : mem[j]? = some l) (hz : lit l.length = true) :
    ∀ {A s ad x vals}, AOk A D → RelM b s.heap ad mem → VR s.heap ad (.list j) x → VRs s.heap ad [y] vals → OpT b w A s ad (call (.builtin "list.append") (x :: vals)) .none (mem.set j (l ++ [y])) := by
  intro A s ad x vals hA R hx hv Q E K
  refine ex1_2 hx.listInv fun p ob2 hp => ?_; subst ob2
  refine ex1_2 (vrs1 hv) fun z ob3 hz' => ?_; subst ob3
  refine ex1_3 (R.list hp hl) fun its hL hvl hP => ?_
  have e1 := hvl.length
  have e2 : its.toList.length = its.size := Array.length_toList
  have e3 := lit_size hz
  refine wpAny_list_append_plain (hP hj) (fun h' h1 h2 => K _ ad _ (OutE.setList R hp hL h1 h2 ?_) .none) (ar415 e1 e2 e3)
  rw [Array.toList_push]
  exact hvl.append (.cons hz' .nil)
theorem insert_ok {j : Nat} {l : List V} {y : V} {k : Int} (hj : j ≠ 0) (hl : mem[j]? = some l) (hz : lit l.length = true) (hk0 : 0 ≤ k) (hk : k ≤ l.length) :
    ∀ {A s ad x vals}, AOk A D → RelM b s.heap ad mem → VR s.heap ad (.list j) x → VRs s.heap ad [.int k, y] vals → OpT b w A s ad (call (.builtin "list.insert") (x :: vals)) .none (mem.set j (insAt l k.toNat y)) := by
  intro A s ad x vals hA R hx hv Q E K
  refine ex1_2 hx.listInv fun p ob4 hp => ?_; subst ob4
  refine ex2_3 (vrs2 hv) fun z1 z ob5 hz1 hz' => ?_; subst ob5
  refine ex1_1 hz1.intInv fun t ob6 => ?_; subst ob6
  refine ex1_3 (R.list hp hl) fun its hL hvl hP => ?_
  have e1 := hvl.length
  have e2 : its.toList.length = its.size := Array.length_toList
  have e3 : l.length ≤ 1000 := lit_le hz
  refine ex1_1 (hP hj) fun n hn => ?_
  have hfit : Builtin.List.listFitsIndex k = true := fitsIndex_of hk0 (ar416 hk e1 e2 e3)
  refine call_meets PySem.F.slot_list_insert ⟨_, hn, rfl⟩ PySem.F.entry_list_insert (PySem.F.args_list_insert_3 _ _ _) (PySem.AutoSeq1.list_insert_list_int_val_1 p its n k t z (by simp [hfit]) (by rw [sizeLine_eq]; exact ar417 e1 e2 e3)) ⟨hn, ?_⟩
  have q := PySem.IsL.update hn (fun xs => have k := if k < 0 then (k + (xs.size : Int)).toNat else min k.toNat xs.size; (xs.extract 0 k).push z ++ xs.extract k)
  have ee : (its.extract 0 (if k < 0 then (k + (its.size : Int)).toNat else min k.toNat its.size)).push z ++ its.extract (if k < 0 then (k + (its.size : Int)).toNat else min k.toNat its.size) = (insAt its.toList k.toNat z).toArray := by
    rw [if_neg (ar49 hk0), Nat.min_eq_left (ar418 hk e1 e2 e3)]
    obtain ⟨li, rfl⟩ : ∃ li : List Value, its = li.toArray := ⟨its.toList, by rw [Array.toArray_toList]⟩
    rw [kl_ins_eq]
    rfl
  refine K _ ad _ (OutE.setList (items' := (insAt its.toList k.toNat z).toArray) R hp hL ⟨_, by rw [← ee]; exact q⟩ (Heap.SameBut.update ..) ?_) .none
  exact (hvl.take _).append (.cons hz' (hvl.drop _))
theorem reverse_ok {j : Nat} {l : List V} (hj : j ≠ 0) (hl : mem[j]? = some l) (hz : lit l.length = true) :
    ∀ {A s ad x vals}, AOk A D → RelM b s.heap ad mem → VR s.heap ad (.list j) x → VRs s.heap ad [] vals → OpT b w A s ad (call (.builtin "list.reverse") (x :: vals)) .none (mem.set j l.reverse) := by
  intro A s ad x vals hA R hx hv Q E K
  refine ex1_2 hx.listInv fun p ob7 hp => ?_; subst ob7
  cases vrs0 hv
  refine ex1_3 (R.list hp hl) fun its hL hvl hP => ?_
  have e1 := hvl.length
  have e2 : its.toList.length = its.size := Array.length_toList
  have e3 : l.length ≤ 1000 := lit_le hz
  refine ex1_1 (hP hj) fun n hn => ?_
  refine call_meets PySem.F.slot_list_reverse ⟨_, hn, rfl⟩ PySem.F.entry_list_reverse (PySem.F.args_list_reverse_1 _) (PySem.AutoSeq1.list_reverse_list_0 p its n (by rw [sizeLine_eq]; exact ar417 e1 e2 e3)) ⟨hn, ?_⟩
  have q := PySem.IsL.update hn (fun x => x.reverse)
  refine K _ ad _ (OutE.setList (items' := its.reverse) R hp hL ⟨_, q⟩ (Heap.SameBut.update ..) ?_) .none
  rw [Array.toList_reverse]
  exact hvl.reverse
theorem bits_ok {a : Int} : ∀ {A s ad x vals}, AOk A D → RelM b s.heap ad mem → VR s.heap ad (.int a) x → VRs s.heap ad [] vals → OpT b w A s ad (call (.builtin "int.bit_length") (x :: vals)) (.int (bitsOf a)) mem := by
  intro A s ad x vals hA R hx hv Q E K
  refine ex1_1 hx.intInv fun t ob8 => ?_; subst ob8
  cases vrs0 hv
  exact call_gives PySem.F.slot_int_bit_length (typeIs_int _ _ _) PySem.F.entry_int_bit_length (PySem.F.args_int_bit_length_1 _) (PySem.AutoIntG2.int_bit_length_int_0 a t) (K _ ad _ (OutE.toks R _) (.int _ _))
theorem count_ok {l m : List Nat} : ∀ {A s ad x vals}, AOk A D → RelM b s.heap ad mem → VR s.heap ad (.str l) x → VRs s.heap ad [.str m] vals → OpT b w A s ad (call (.builtin "str.count") (x :: vals)) (.int (Txt.count (mkS l) (mkS m))) mem := by
  intro A s ad x vals hA R hx hv Q E K
  refine ex1_1 hx.strInv fun t ob9 => ?_; subst ob9
  refine ex1_2 (vrs1 hv) fun y ob10 hy => ?_; subst ob10
  refine ex1_1 hy.strInv fun u ob11 => ?_; subst ob11
  exact call_gives PySem.F.slot_str_count (typeIs_str _ _ _) PySem.F.entry_str_count (PySem.F.args_str_count_2 _ _) (gives_str_count _ _ t u) (K _ ad _ (OutE.toks R _) (.int _ _))
theorem strsFrom_vrs {h : Heap} {ad : List Addr} : ∀ (tk : Nat) (l : List Str), VRs h ad (l.map fun x => .str x.cps.toList) (strsFrom tk l)
  | _, [] => .nil
  | tk, x :: l => by
    have := VR.str (h := h) (ad := ad) x.cps.toList tk
    rw [mkS_toList] at this
    exact .cons this (strsFrom_vrs (tk + 1) l)
theorem split_ok {l m : List Nat} (hm : m.isEmpty = false) (hl : lit l.length = true) : ∀ {A s ad x vals}, AOk A D → RelM b s.heap ad mem → VR s.heap ad (.str l) x → VRs s.heap ad [.str m] vals →
    OpT b w A s ad (call (.builtin "str.split") (x :: vals)) (.list mem.length) (mem ++ [(Txt.split (mkS l) (mkS m)).map fun x => .str x.cps.toList]) := by
  intro A s ad x vals hA R hx hv Q E K
  refine ex1_1 hx.strInv fun t ob12 => ?_; subst ob12
  refine ex1_2 (vrs1 hv) fun y ob13 hy => ?_; subst ob13
  refine ex1_1 hy.strInv fun u ob14 => ?_; subst ob14
  have hl' : l.length ≤ 1000 := lit_le hl
  have own : VRs s.heap ad ([mkS l].map fun x => V.str x.cps.toList) [Value.str (mkS l) t] := .cons (by have := VR.str (h := s.heap) (ad := ad) l t; simpa using this) .nil
  by_cases h1 : (decide ((mkS l).length < (mkS m).length) || decide (strKind (mkS l) < strKind (mkS m))) = true
  · refine call_meets PySem.F.slot_str_split (typeIs_str _ _ _) PySem.F.entry_str_split (PySem.F.args_str_split_2 _ _) (meets_str_split_cannot_occur _ _ t u h1) ?_
    have e : Txt.split (mkS l) (mkS m) = [mkS l] := if_pos h1
    rw [e] at K
    exact K _ _ _ (OutE.newList R own) (.list (list_last R.hr))
  · have h1' := eq_false_of_ne_true h1
    have hy : ((mkS m).length == 0) = false := by
      rw [mkS_length]
      induction m using List.casesOn with
      | nil => cases hm
      | cons a m => rfl
    by_cases hf : (occurrences (mkS l) (mkS m) 0 (mkS l).length ((mkS l).length + 1)).isEmpty = true
    · refine call_meets PySem.F.slot_str_split (typeIs_str _ _ _) PySem.F.entry_str_split (PySem.F.args_str_split_2 _ _) (meets_str_split_not_found _ _ t u h1' hy hf) ?_
      have e : Txt.split (mkS l) (mkS m) = [mkS l] := (if_neg h1).trans (if_pos hf)
      rw [e] at K
      exact K _ _ _ (OutE.newList R own) (.list (list_last R.hr))
    · have hf' := eq_false_of_ne_true hf
      have hn : (partsBetween (mkS l) (occurrences (mkS l) (mkS m) 0 (mkS l).length ((mkS l).length + 1)) (mkS m).length).length ≤ sizeLine := by
        have := StrLaws.occ_length_le (mkS l) (mkS m) 0 (mkS l).length ((mkS l).length + 1)
        unfold partsBetween
        rw [List.length_map, List.length_zip, List.length_cons, List.length_map, mkS_length, sizeLine_eq]
        rw [mkS_length] at this
        omega
      refine call_meets PySem.F.slot_str_split (typeIs_str _ _ _) PySem.F.entry_str_split (PySem.F.args_str_split_2 _ _) (meets_str_split_sep _ _ t u h1' hy hf' (by rw [mkS_length, sizeLine_eq]; exact ar295 hl') hn) ?_
      have e : Txt.split (mkS l) (mkS m) = partsBetween (mkS l) (occurrences (mkS l) (mkS m) 0 (mkS l).length ((mkS l).length + 1)) (mkS m).length := (if_neg h1).trans (if_neg hf)
      rw [e] at K
      exact K _ _ _ ((OutE.newList R (strsFrom_vrs s.toks _)).trans (OutE.toks (s := { s with heap := s.heap.push _ }) (OutE.newList R (strsFrom_vrs s.toks _)).rel _)) (.list (list_last R.hr))
theorem strs_inv {h : Heap} {ad : List Addr} : ∀ {l xs x}, strsOf l = some x → VRs h ad l xs → ∃ ps : List (Str × Tok), xs = strValues ps ∧ ps.map (·.1) = x.map mkS
  | _, _, x, e, .nil => by cases e; exact ⟨[], rfl, rfl⟩
  | v :: l, _, x, e, .cons hv hl => by
    refine ex2_3 (strsOf_cons e) fun _ y ob15v hy ob15 => ?_; subst ob15v; subst ob15
    refine ex1_1 hv.strInv fun t ob16 => ?_; subst ob16
    refine ex1_2 (strs_inv hy hl) fun ps ob17 e2 => ?_; subst ob17
    exact ⟨(_, t) :: ps, rfl, by rw [List.map_cons, List.map_cons, e2]⟩
theorem join_ok {l : List Nat} {j : Nat} {m : List V} {x : List (List Nat)} (hj : mem[j]? = some m) (hx : strsOf m = some x) (ho : JoinOk (mkS l) (x.map mkS) = true) : ∀ {A s ad y vals}, AOk A D → RelM b s.heap ad mem → VR s.heap ad (.str l) y → VRs s.heap ad [.list j] vals →
    OpT b w A s ad (call (.builtin "str.join") (y :: vals)) (.str (Txt.join (mkS l) (x.map mkS)).cps.toList) mem := by
  intro A s ad y vals hA R hy hv Q E K
  refine ex1_1 hy.strInv fun t ob18 => ?_; subst ob18
  refine ex1_2 (vrs1 hv) fun z ob19 hz => ?_; subst ob19
  refine ex1_2 hz.listInv fun p ob20 hp => ?_; subst ob20
  refine ex1_3 (R.list hp hj) fun its hL hvl _ => ?_
  refine ex1_2 (strs_inv hx hvl) fun ps e1 e2 => ?_
  refine SC.join (l := ps) (by rw [← e1, Array.toArray_toList]; exact hL) e2 ho fun t' k => K _ ad _ (OutE.toks R k) ?_
  have := VR.str (h := s.heap) (ad := ad) (Txt.join (mkS l) (x.map mkS)).cps.toList t'
  rwa [mkS_toList] at this
theorem str_typ {h : Heap} {ad : List Addr} {x : Value} {s : Shared} {l : List Nat} (hv : VR h ad (.str l) x) : s.TypeIs x "str" ∧ ∀ a, x = .ref a → ∃ ob, h.get? a = some ob ∧ ob.dict = none := by
  refine ex1_1 hv.strInv fun t ob21 => ?_; subst ob21
  exact ⟨typeIs_str _ _ _, fun a e => nomatch e⟩
theorem int_typ {h : Heap} {ad : List Addr} {x : Value} {s : Shared} {l : Int} (hv : VR h ad (.int l) x) : s.TypeIs x "int" ∧ ∀ a, x = .ref a → ∃ ob, h.get? a = some ob ∧ ob.dict = none := by
  refine ex1_1 hv.intInv fun t ob22 => ?_; subst ob22
  exact ⟨typeIs_int _ _ _, fun a e => nomatch e⟩
theorem mM {name n0 : Str} {o u : V} {vs : List V} {m1 : Mem} (e : sEq name n0 = true) (h : some (u, m1) = some (v, mem')) (k : ∃ T id, MethOk b w D n0 o vs mem u m1 T id) : ∃ T id, MethOk b w D name o vs mem v mem' T id := by
  replace e := sEq_iff.mp e
  subst e
  exact sE2 (C := fun v m => ∃ T id, MethOk b w D name o vs mem v m T id) h k
theorem methV_ok {name : Str} {o : V} {vs : List V} (h : methV name o vs mem = some (v, mem')) : ∃ T id, MethOk b w D name o vs mem v mem' T id := by
  apply Classical.byContradiction
  intro hn
  induction o using Mine.V.casesOn with
  | list j =>
    refine bE h ?_; clear h; intro l hl g
    refine kE g ?_; clear g; intro g1 h
    refine a2 g1 ?_; clear g1; intro h1 h2
    have hj : j ≠ 0 := fun e => by rw [e] at h2; cases h2
    clear h2
    cases e1 : sEq name (Str.ofString "append") with
    | true =>
      rw [e1] at h
      replace h := tE h
      obtain _ | ⟨y, _ | ⟨z, vs⟩⟩ := vs
      · exact nE h
      · exact hn (mM e1 h ⟨"list", "list.append", PySem.F.plainAttrs_list, PySem.F.slot_list_append, PySem.F.type_list_append, fun e R hv => list_typ hj e R hv, fun hA R hx hv => append_ok hj hl h1 hA R hx hv⟩)
      · exact nE h
    | false =>
      rw [e1] at h
      replace h := fE h
      cases e2 : sEq name (Str.ofString "insert") with
      | true =>
        rw [e2] at h
        replace h := tE h
        obtain _ | ⟨y, _ | ⟨z, _ | ⟨z2, vs⟩⟩⟩ := vs
        · exact nE h
        · cases y <;> exact nE h
        · induction y using Mine.V.casesOn with
          | int k => exact kE h fun h3 h => a2 h3 fun h3 h4 => hn (mM e2 h ⟨"list", "list.insert", PySem.F.plainAttrs_list, PySem.F.slot_list_insert, PySem.F.type_list_insert, fun e R hv => list_typ hj e R hv, fun hA R hx hv => insert_ok hj hl h1 (of_decide_eq_true h3) (of_decide_eq_true h4) hA R hx hv⟩)
          | _ => exact nE h
        · cases y <;> exact nE h
      | false =>
        rw [e2] at h
        refine kE (fE h) fun e3 g => ?_
        clear h
        have h := g
        clear g
        induction vs using List.casesOn with
        | nil => exact hn (mM e3 h ⟨"list", "list.reverse", PySem.F.plainAttrs_list, PySem.F.slot_list_reverse, PySem.F.type_list_reverse, fun e R hv => list_typ hj e R hv, fun hA R hx hv => reverse_ok hj hl h1 hA R hx hv⟩)
        | cons _ _ => exact nE h
  | int a =>
    refine kE h ?_; clear h; intro e3 g
    have h := g
    clear g
    induction vs using List.casesOn with
    | nil => exact hn (mM e3 h ⟨"int", "int.bit_length", PySem.F.plainAttrs_int, PySem.F.slot_int_bit_length, PySem.F.type_int_bit_length, fun e R hv => int_typ hv, fun hA R hx hv => bits_ok hA R hx hv⟩)
    | cons _ _ => exact nE h
  | str l =>
    refine kE h ?_; clear h; intro h1 g
    have h := g
    clear g
    cases e1 : sEq name (Str.ofString "count") with
    | true =>
      rw [e1] at h
      replace h := tE h
      obtain _ | ⟨y, _ | ⟨z, vs⟩⟩ := vs
      · exact nE h
      · induction y using Mine.V.casesOn with
        | str m => exact hn (mM e1 h ⟨"str", "str.count", PySem.F.plainAttrs_str, PySem.F.slot_str_count, PySem.F.type_str_count, fun e R hv => str_typ hv, fun hA R hx hv => count_ok hA R hx hv⟩)
        | _ => exact nE h
      · cases y <;> exact nE h
    | false =>
      rw [e1] at h
      replace h := fE h
      cases e2 : sEq name (Str.ofString "split") with
      | true =>
        rw [e2] at h
        replace h := tE h
        obtain _ | ⟨y, _ | ⟨z, vs⟩⟩ := vs
        · exact nE h
        · induction y using Mine.V.casesOn with
          | str m => exact kE' h fun h2 h => hn (mM e2 h ⟨"str", "str.split", PySem.F.plainAttrs_str, PySem.F.slot_str_split, PySem.F.type_str_split, fun e R hv => str_typ hv, fun hA R hx hv => split_ok h2 h1 hA R hx hv⟩)
          | _ => exact nE h
        · cases y <;> exact nE h
      | false =>
        rw [e2] at h
        refine kE (fE h) fun e3 g => ?_
        clear h
        have h := g
        clear g
        obtain _ | ⟨y, _ | ⟨z, vs⟩⟩ := vs
        · exact nE h
        · induction y using Mine.V.casesOn with
          | list j => exact bE h fun m hm h => bE h fun x hx h => kE h fun h5 h => hn (mM e3 h ⟨"str", "str.join", PySem.F.plainAttrs_str, PySem.F.slot_str_join, PySem.F.type_str_join, fun e R hv => str_typ hv, fun hA R hy hv => join_ok hm hx h5 hA R hy hv⟩)
          | _ => exact nE h
        · cases y <;> exact nE h
  | _ => exact nE h
end Mine
end

section
namespace Mine
variable {w : World} {A : Around} {s : Shared} {E : Value → Shared → Prop}
theorem IntsV.get0 : ∀ {xs : List Value} {l : List Int}, IntsV xs l → l ≠ [] → ∃ i t, xs[0]? = some (.int i t)
  | _, _, .nil, h => absurd rfl h
  | _, _, .cons _, _ => ⟨_, _, rfl⟩
inductive TupsV (h : Heap) : List Value → List (List Int) → Prop
  | nil : TupsV h [] []
  | cons {a o xs n t vs x} (ho : h.get? a = some o) (hc : o.cls = .type "tuple") (hd : o.data = .seq xs n) (hi : IntsV xs.toList t) (r : TupsV h vs x) : TupsV h (.ref a :: vs) (t :: x)
theorem TupsV.of {h : Heap} {ad : List Addr} {l xs x} (e : tupsOf l = some x) (hv : VRs h ad l xs) : TupsV h xs x :=
  VRs.ind (P := fun l xs => ∀ x, tupsOf l = some x → TupsV h xs x) (fun x e => by cases e; exact .nil) (fun hv hl ih x e => by
    refine ex3_4 (tupsOf_cons e) fun _ i y ob1v hi hy ob1 => ?_; subst ob1v; subst ob1
    refine ex2_3 hv.tupInv fun a items ob2 ob3 hvl => ?_; subst ob2; obtain ⟨o, ho, hc, n, hd⟩ := ob3
    exact .cons ho hc hd (IntsV.of hi hvl) (ih _ hy)) hv x e
theorem TupsV.keeps {h h' : Heap} (k : ∀ b o, h.get? b = some o → h'.get? b = some o) {vs x} (T : TupsV h vs x) : TupsV h' vs x := by
  induction T with
  | nil => exact .nil
  | cons ho hc hd hi r ih => exact .cons (k _ _ ho) hc hd hi ih
theorem TupsV.length {h : Heap} {vs x} (T : TupsV h vs x) : vs.length = x.length := by
  induction T with
  | nil => rfl
  | cons _ _ _ _ _ ih => exact congrArg Nat.succ ih
theorem TupsV.at_ {h : Heap} {vs x} (T : TupsV h vs x) : ∀ i, i < x.length → ∃ a o xs n, vs.getD i .none = .ref a ∧ h.get? a = some o ∧ o.data = .seq xs n ∧ IntsV xs.toList (x.getD i []) ∧ o.cls = .type "tuple" := by
  induction T with
  | nil => exact fun i h => absurd h (Nat.not_lt_zero _)
  | cons ho hc hd hi r ih =>
    intro i h
    induction i using Nat.casesOn with
    | zero => exact ⟨_, _, _, _, rfl, ho, hd, hi, hc⟩
    | succ i => exact ih i (Nat.lt_of_succ_lt_succ h)
theorem TupsV.kat {h : Heap} {vs x} (T : TupsV h vs x) : (∀ t ∈ x, t ≠ []) → ∃ fs, KatTups h vs fs ∧ fs.length = vs.length ∧ ∀ f ∈ fs, ∃ i t, f = .int i t := by
  induction T with
  | nil => exact fun _ => ⟨[], trivial, rfl, fun f hf => by cases hf⟩
  | cons ho hc hd hi r ih =>
    intro hx
    refine ex1_3 (ih fun t ht => hx t (.tail _ ht)) fun fs h1 h2 h3 => ?_
    refine ex2_1 (hi.get0 (hx _ (.head _))) fun i t e => ?_
    refine ⟨.int i t :: fs, KatTups.cons ho hc hd (by rw [← Array.getElem?_toList]; exact e) h1, congrArg Nat.succ h2, fun f hf => ?_⟩
    rcases List.mem_cons.mp hf with rfl | hf
    · exact ⟨i, t, rfl⟩
    · exact h3 f hf
theorem lex_ints {Q : Bool → Shared → Prop} : ∀ {xs ys : List Value} {l m : List Int}, IntsV xs l → IntsV ys m → l.length = m.length → ∀ i, Q (ltI l m) s → KatLex pz w A true false Q (xs.zip ys) i s := by
  intro xs ys l m h1
  induction h1 generalizing ys m with
  | nil =>
    intro h2 hl i K
    cases h2 with
    | nil => exact kat_nil K
    | cons _ => cases hl
  | cons h1 ih =>
    intro h2 hl i K
    cases h2 with
    | nil => cases hl
    | cons h2 =>
      refine kat_cons (wpAny_eqBool_int ?_)
      refine kat_go (fun e => kat_yes (ih h2 (by simpa using hl) (i + 1) ?_)) fun e => kat_no ?_
      · rw [ltI, e, cond_true] at K; exact K
      · rw [ltI, e, cond_false] at K
        induction i using Nat.casesOn with
        | zero => exact oneLt_int K
        | succ i => exact kat_one _ _ (PyProof.Rows.lt_int K)
theorem ask_ok {vs : List Value} {x : List (List Int)} {C : Bool → Shared → Prop} (T : TupsV s.heap vs x) (h3 : ∀ t ∈ x, t.length = 3) {i j : Nat} (hi : i < x.length) (hj : j < x.length) (K : C (ltI (x.getD i []) (x.getD j [])) s) : kas_ask pz w A (tuples' true) vs i j C s := by
  refine ex4_5 (T.at_ i hi) fun a o xs n e1 e2 e3 e4 _ => ?_
  refine ex4_5 (T.at_ j hj) fun c p ys k f1 f2 f3 f4 _ => ?_
  unfold kas_ask
  rw [e1, f1]
  have l1 : (x.getD i []).length = 3 := by rw [List.getD_eq_getElem?_getD, List.getElem?_eq_getElem hi]; exact h3 _ (List.getElem_mem hi)
  have l2 : (x.getD j []).length = 3 := by rw [List.getD_eq_getElem?_getD, List.getElem?_eq_getElem hj]; exact h3 _ (List.getElem_mem hj)
  have hs : decide (xs.size < ys.size) = false := by
    have q1 := e4.length
    have q2 := f4.length
    rw [Array.length_toList] at q1 q2
    exact decide_eq_false (ar279 l1 l2 q1 q2)
  refine kat_lt e2 e3 f2 f3 ?_
  rw [hs]
  exact lex_ints e4 f4 (l1.trans l2.symm) 0 K
theorem run_ok {α : Type} {vs : List Value} {x : List (List Int)} {G : α → Shared → Prop} (T : TupsV s.heap vs x) (h3 : ∀ t ∈ x, t.length = 3) : ∀ {t : KasT α} {p : α}, kasRunO x.length (fun i j => ltI (x.getD i []) (x.getD j [])) t = some p → G p s → t.kasWp (kas_ask pz w A (tuples' true) vs) G s
  | .ret a, p, h, K => by cases h; exact K
  | .ask i j k, p, h, K => by
    unfold kasRunO at h
    refine ex0_2 (cond_sn h) fun h1 h2 => ?_
    rw [Bool.and_eq_true, decide_eq_true_eq, decide_eq_true_eq] at h1
    exact ask_ok T h3 h1.1 h1.2 (run_ok T h3 h2 K)
theorem TupsV.but {h h' : Heap} {a : Addr} {oa : Obj} (ha : h.get? a = some oa) (hc : oa.cls = .type "list") (k : ∀ b o, b ≠ a → h.get? b = some o → h'.get? b = some o) {vs x} (T : TupsV h vs x) : TupsV h' vs x := by
  induction T with
  | nil => exact .nil
  | cons ho hcl hd hi r ih => exact .cons (k _ _ (fun e => by subst e; rw [ha] at ho; cases ho; rw [hc] at hcl; injection hcl with e; exact absurd e (by decide)) ho) hcl hd hi ih
theorem TupsV.pick {h : Heap} {vs : List Value} {x : List (List Int)} (T : TupsV h vs x) : ∀ p : List Nat, (p.all fun i => decide (i < x.length)) = true → TupsV h (p.map fun i => vs.getD i .none) (p.map fun i => x.getD i [])
  | [], _ => .nil
  | i :: p, hp => by
    rw [List.all_cons, Bool.and_eq_true, decide_eq_true_eq] at hp
    refine ex4_5 (T.at_ i hp.1) fun a o xs n e1 e2 e3 e4 e5 => ?_
    rw [List.map_cons, List.map_cons, e1]
    exact .cons e2 e5 e3 e4 (T.pick p hp.2)
theorem sort_body {a : Addr} {vs : List Value} {x y : List (List Int)} {n : Nat} {P : PySem.Fin → Shared → Prop} (ho : s.heap.get? a = some (seqObj "list" vs.toArray n)) (T : TupsV s.heap vs x) (h3 : ∀ t ∈ x, t.length = 3) (h1 : 1 ≤ x.length) (h2 : x.length < 10) (hp : sortP x = some y)
    (h : ∀ out : List Value, TupsV s.heap out y → P (.done (.ret .none)) { s with heap := sortedHeap s.heap a vs out.toArray }) :
    wpAny (model pz w) A (Builtin.«list.sort» ⟨[.ref a], []⟩) P E s := by
  rw [list_sort_plain]
  have hlen := T.length
  have ha : a < s.heap.objs.size := Heap.lt_size ho
  refine wpAny_bind (listItems_at ho rfl ?_)
  refine wpAny_bind (listUpdate_at ho rfl ?_ (by rw [List.size_toArray, sizeLine_eq]; exact ar280 h1 h2 hlen) (Nat.zero_le _))
  obtain ⟨e1, ho1⟩ : ∃ e1, (s.heap.update a (Obj.mapSeq fun _ => (#[] : Array Value))).get? a = some (seqObj "list" #[] e1) := ⟨_, get?_update_seq ho fun _ => #[]⟩
  refine wpAny_bind (seqEpoch_at ho1 rfl ?_)
  refine wpAny_bind (wpAny_newTuple ?_ (by show vs.length ≤ _; rw [sizeLine_eq]; exact ar280 h1 h2 hlen))
  refine wpAny_bind (wpAny_newList ?_ (Nat.zero_le _))
  refine wpAny_holding ?_
  have ho6 : (((s.heap.update a (Obj.mapSeq fun _ => (#[] : Array Value))).push (seqObj "tuple" vs.toArray 0)).push (seqObj "list" #[] 0)).get? a = some (seqObj "list" #[] e1) := Heap.get?_push_of_some _ (Heap.get?_push_of_some _ ho1)
  have T6 : TupsV (((s.heap.update a (Obj.mapSeq fun _ => (#[] : Array Value))).push (seqObj "tuple" vs.toArray 0)).push (seqObj "list" #[] 0)) vs x :=
    T.but ho rfl fun c o hc e => Heap.get?_push_of_some _ (Heap.get?_push_of_some _ (((Heap.SameBut.update s.heap a _).2 c hc).trans e))
  show wpAny (model pz w) A _ P E { s with heap := ((s.heap.update a (Obj.mapSeq fun _ => (#[] : Array Value))).push (seqObj "tuple" vs.toArray 0)).push (seqObj "list" #[] 0) }
  dsimp only
  by_cases hl1 : x.length = 1
  · have e : sortP x = some x := by unfold sortP; rw [hl1]; rfl
    rw [e] at hp
    cases hp
    have hlt : vs.toArray.size < 2 := by rw [List.size_toArray]; exact ar281 hlen hl1
    rw [if_pos hlt, if_pos hlt]
    refine wpAny_bind (wpAny_pure ?_)
    rw [StateT.run_pure]
    refine wpAny_bind (wpAny_pure ?_)
    dsimp only
    refine wpAny_bind (seqEpoch_at ho6 rfl ?_)
    have ez : (arrOf (SortSt.mk' general' (vs.toArray.zip vs.toArray) #[] 7 none)).map (·.2) = vs.toArray := by
      show (vs.toArray.zip vs.toArray).map (·.2) = vs.toArray
      apply Array.toList_inj.mp
      simp
      exact List.map_snd_zip (Nat.le_refl _)
    rw [ez]
    refine wpAny_bind (listUpdate_at ho6 rfl ?_ (Nat.zero_le _) (by rw [List.size_toArray, sizeLine_eq]; exact ar282 hlen hl1))
    simp only [bne_self_eq_false, Bool.false_eq_true, if_false]
    exact wpAny_pure (h vs T)
  · have hn : (x.length == 1) = false := beq_eq_false_iff_ne.mpr hl1
    unfold sortP at hp
    rw [hn, cond_false] at hp
    refine ex1_2 (Option.map_eq_some_iff.mp hp) fun pl hpl ob4 => ?_; subst ob4
    unfold permS at hpl
    refine ex1_2 (Option.bind_eq_some_iff.mp hpl) ?_; (try clear hpl); intro p hrun hpl
    refine ex0_2 (cond_sn hpl) ?_; (try clear hpl); intro hall hpl
    cases hpl
    have hlt : ¬ vs.toArray.size < 2 := by rw [List.size_toArray]; exact ar283 h1 h2 hlen hl1
    rw [if_neg hlt, if_neg hlt]
    refine ex1_3 (T6.kat fun t ht e => by have := h3 t ht; rw [e] at this; cases this) fun fs k1 k2 k3 => ?_
    refine wpAny_bind (kat_kind (T := .type "int") k1 (ar284 h1 h2 hlen k2) (fun f hf => ?_) rfl ?_)
    · refine ex2_1 (k3 f hf) fun i t ob5 => ?_; subst ob5
      exact Looks.of_pure rfl
    · rw [show (Value.type "int" != Value.type "tuple") = true from rfl]
      rw [← hlen] at hrun
      refine wpAny_bind (wpAny_mono (kat_run (vs := vs) (ks := vs) (Q := fun st' s' => p.size = vs.length ∧ arrOf st' = p.map (kas_item (vs.toArray.zip vs.toArray)) ∧ failedOf st' = none ∧ s' = { s with heap := ((s.heap.update a (Obj.mapSeq fun _ => (#[] : Array Value))).push (seqObj "tuple" vs.toArray 0)).push (seqObj "list" #[] 0) })
        (G := fun p' s' => p' = p ∧ s' = { s with heap := ((s.heap.update a (Obj.mapSeq fun _ => (#[] : Array Value))).push (seqObj "tuple" vs.toArray 0)).push (seqObj "list" #[] 0) }) rfl (ar285 h1 h2 hlen hl1 k2) (ar286 h1 h2 hlen k2) (fun p' st' s' a1 a2 a3 a4 => ⟨by rw [← a4.1, a1], by rw [a2, a4.1], a3, a4.2⟩) ?_) ?_ fun _ _ e => e)
      · rw [hlen] at hrun ⊢
        exact run_ok T6 h3 hrun ⟨rfl, rfl⟩
      · rintro ⟨⟨⟩, st'⟩ s' ⟨hps, har, hf, rfl⟩
        dsimp only
        rw [kat_snds (vs := vs) (ks := vs) rfl har]
        refine wpAny_bind (seqEpoch_at ho6 rfl ?_)
        have hpz : p.toList.length ≤ 1000000 := by rw [Array.length_toList]; exact ar287 h1 h2 hlen k2 hps
        refine wpAny_bind (listUpdate_at ho6 rfl ?_ (Nat.zero_le _) (by rw [List.size_toArray, List.length_map, sizeLine_eq]; exact ar288 hpz))
        rw [hf]
        simp only [bne_self_eq_false, Bool.false_eq_true, if_false]
        exact wpAny_pure (h _ (T.pick p.toList hall))
theorem sorted_tups {l : Addr} {vs : List Value} {x y : List (List Int)} {Q : Value → Shared → Prop} (hl : s.heap.IsList l vs.toArray) (T : TupsV s.heap vs x) (h3 : ∀ t ∈ x, t.length = 3) (h1 : 1 ≤ x.length) (h2 : x.length < 10) (hp : sortP x = some y)
    (h : ∀ (out : List Value) (h' : Heap), TupsV h' out y → h' = sortedAll s.heap vs out.toArray → Q (.ref (s.heap.objs.size + 1)) { s with heap := h' }) :
    wpAny (model pz w) A (call (.builtin "sorted") [.ref l]) Q E s := by
  have hlen := T.length
  refine Calls.call_function_entry kind_sorted plain_sorted entry_sorted (args_sorted1 _) ?_
  unfold Builtin.«sorted»
  refine wpAny_bind (m := checkCount "sorted" 1 1 _) (wpAny_pure ?_)
  refine wpAny_bind (collect_list hl ?_ (by rw [sizeLine_eq]; exact ar280 h1 h2 hlen))
  refine wpAny_bind (wpAny_newList ?_ (by rw [sizeLine_eq]; exact ar280 h1 h2 hlen))
  have hsz : ((s.heap.push (seqObj "list" #[] 0)).update s.heap.objs.size (Obj.mapSeq (· ++ vs.toArray))).objs.size = s.heap.objs.size + 1 := by
    rw [Heap.size_update, size_push']
  have hoL : (((s.heap.push (seqObj "list" #[] 0)).update s.heap.objs.size (Obj.mapSeq (· ++ vs.toArray))).push (seqObj "list" vs.toArray 0)).get? (s.heap.objs.size + 1) = some (seqObj "list" vs.toArray 0) := by
    rw [← hsz]; exact Heap.get?_push_size _ rfl
  have keep : ∀ b o, s.heap.get? b = some o → (((s.heap.push (seqObj "list" #[] 0)).update s.heap.objs.size (Obj.mapSeq (· ++ vs.toArray))).push (seqObj "list" vs.toArray 0)).get? b = some o := fun b o q =>
    Heap.get?_push_of_some _ (((Heap.SameBut.update _ s.heap.objs.size _).2 b (Nat.ne_of_lt (Heap.lt_size q))).trans (Heap.get?_push_of_some _ q))
  show wpAny _ _ _ _ _ { s with heap := ((s.heap.push (seqObj "list" #[] 0)).update s.heap.objs.size (Obj.mapSeq (· ++ vs.toArray))).push (seqObj "list" vs.toArray 0) }
  rw [hsz]
  refine wpAny_bind (wpAny_holding (wpAny_call_entry slot_list_sort ⟨_, hoL, rfl⟩ entry_list_sort (sort_body (y := y) hoL (T.keeps keep) h3 h1 h2 hp fun out a1 => ⟨_, rfl, ?_⟩) (args_list_sort _)))
  exact wpAny_pure ⟨_, rfl, h out _ (a1.but hoL rfl fun b o hb e => by
    have hb' : b < (((s.heap.push (seqObj "list" #[] 0)).update s.heap.objs.size (Obj.mapSeq (· ++ vs.toArray))).push (seqObj "list" vs.toArray 0)).objs.size := Heap.lt_size e
    rw [sortedHeap_old hb hb']
    exact e) rfl⟩
end Mine
end

section
namespace Mine
variable {b : Base} {w : World} {D : Nat} {mem mem' : Mem} {v : V}
theorem TupsV.vrs {h : Heap} {ad : List Addr} : ∀ {vs x}, TupsV h vs x → VRs h ad (x.map fun t => .tup (t.map .int)) vs
  | _, _, .nil => .nil
  | _, _, .cons ho hc hd hi r => .cons (.tup ⟨_, ho, hc, _, hd⟩ (ints_vrs hi.are)) r.vrs
theorem sortedTups_ok {A : Around} {s : Shared} {ad : List Addr} {a : Addr} {its : Array Value} {l : List V} {x y : List (List Int)} {Q : Value → Shared → Prop} {E : Value → Shared → Prop} (hA : AOk A D) (R : RelM b s.heap ad mem) (hL : s.heap.IsList a its) (hv : VRs s.heap ad l its.toList) (hi : tupsOf l = some x)
    (h1 : 1 ≤ l.length) (h2 : l.length < 10) (h3 : x.all (fun t => t.length == 3) = true) (hp : sortP x = some y)
    (K : ∀ s' ad' val, OutE b s ad s' ad' (mem ++ [y.map fun t => .tup (t.map .int)]) → VR s'.heap ad' (.list mem.length) val → Q val s') : wpAny (model pz w) A (call (.builtin "sorted") [.ref a]) Q E s := by
  have T := TupsV.of hi hv
  have e1 := hv.length
  have e2 := T.length
  refine sorted_tups (vs := its.toList) (by rw [Array.toArray_toList]; exact hL) T (fun t ht => eq_of_beq (List.all_eq_true.mp h3 t ht)) (ar411 h1 h2 e1 e2) (ar412 h1 h2 e1 e2) hp fun out h' a1 e => ?_
  subst e
  obtain ⟨e, he⟩ := sortedAll_at s.heap its.toList out.toArray
  exact K _ _ _ (OutE.addList (n := s.toks) (a := s.heap.objs.size + 1) (items := out.toArray) R (fun _ _ h => sortedAll_old h) (Heap.get?_none_of_le (Nat.le_succ _)) ⟨e, he⟩ a1.vrs) (.list (list_last R.hr))
theorem bltV_ok {id : String} {vs : List V} (h : bltV id vs mem = some (v, mem')) : BltOk b w D id vs mem v mem' := by
  unfold bltV at h
  cases e1 : id == "len" with
  | true => rw [e1, cond_true] at h; have := eq_of_beq e1; subst this; exact @len_ok b w D _ _ _ _ h
  | false =>
    rw [e1, cond_false] at h
    cases e2 : id == "chr" with
    | true => rw [e2, cond_true] at h; have := eq_of_beq e2; subst this; exact @chr_ok b w D _ _ _ _ h
    | false =>
      rw [e2, cond_false] at h
      cases e3 : id == "sum" with
      | true => rw [e3, cond_true] at h; have := eq_of_beq e3; subst this; exact @sum_ok b w D _ _ _ _ h
      | false =>
        rw [e3, cond_false] at h
        cases e4 : id == "sorted" with
        | true =>
          rw [e4, cond_true] at h; have := eq_of_beq e4; subst this
          intro A s ad vals hA R hv Q E K
          split at h
          · obtain ⟨y, rfl, hy⟩ := vrs1 hv
            obtain ⟨p, rfl, hp⟩ := hy.listInv
            rw [Option.bind_eq_some_iff] at h
            obtain ⟨l, hl, hq⟩ := h
            obtain ⟨h1, h2⟩ := cond_sn hq
            obtain ⟨its, hL, hvl, _⟩ := R.list hp hl
            split at h2
            · rename_i x hx
              cases h2
              exact sortedInts_ok R hL hvl hx (of_decide_eq_true h1) K
            · rw [Option.bind_eq_some_iff] at h2
              obtain ⟨x, hx, h3⟩ := h2
              obtain ⟨h4, h5⟩ := cond_sn h3
              obtain ⟨y, hy, e5⟩ := Option.map_eq_some_iff.mp h5
              cases e5
              rw [Bool.and_eq_true, Bool.and_eq_true, decide_eq_true_eq, decide_eq_true_eq] at h4
              exact sortedTups_ok hA R hL hvl hx h4.1.1 h4.1.2 h4.2 hy K
          · cases h
        | false =>
          rw [e4, cond_false] at h
          obtain ⟨e5, h⟩ := cond_sn h
          have := eq_of_beq e5; subst this
          exact @divmod_ok b w D _ _ _ _ h
end Mine
end

section
namespace Mine
variable {b : Base} {w : World} {D : Nat} {sc : Scope} {loc loc' loc1 loc2 : Loc} {mem mem' mem1 mem2 mem3 : Mem} {v : V}
theorem SI_range (B : BaseOk b) {x p a as pos m n} (hp : (a :: as).all plainE = true) (hx : nameV b sc x loc = some (.typ "range")) (hs : SEs b w D sc (a :: as) loc mem [.int m, .int n] mem1) (h0 : 0 ≤ m) (h1 : n ≤ 1000) (h2 : m ≤ n) :
    SI b w D sc (.Call (.Name x p) (a :: as) [] pos) loc mem (.rng (rangeL m (n - m).toNat)) mem1 := by
  intro A env s ad Q E hA hE R L K
  refine SE_callT B hp hx hs hA hE R L fun s1 ad1 xs o1 r1 => ?_
  refine ex2_3 (vrs2 r1) fun y z ob1 hy hz => ?_; subst ob1
  refine ex1_1 hy.intInv fun t ob2 => ?_; subst ob2
  refine ex1_1 hz.intInv fun u ob3 => ?_; subst ob3
  refine call_range_2 (wpAny_pyIter_range (IsRange.new ..) (small_one (ar488 h0) (ar489 h1 h2) (ar490 h0 h2) (ar491 h1)) ?_)
  have oa := OutE.all (b := b) (n := s1.toks + 1) o1.rel (fun a o e => Heap.get?_push_of_some { cls := .type "range", data := .fields #[.int m t, .int n u, .int 1 s1.toks] } e)
  have ob := OutE.all (b := b) (s := { s1 with heap := s1.heap.push { cls := .type "range", data := .fields #[.int m t, .int n u, .int 1 s1.toks] }, toks := s1.toks + 1 }) (n := s1.toks + 1) oa.rel (fun a o e => Heap.get?_push_of_some { cls := .type "range_iterator", data := .fields #[rawInt m, rawInt (Builtin.Range.rangeSize m n 1), rawInt 1] } e)
  refine K _ ad1 _ (o1.trans (oa.trans ob)) ((o1.trans oa).none R (get_top _)) (.rng ?_)
  have e : ((n - m).toNat : Int) = Builtin.Range.rangeSize m n 1 := by rw [rangeSize_one]; split <;> omega
  rw [e]
  exact Heap.get?_push_size _ rfl
theorem SI_range1 (B : BaseOk b) {x p a as pos n} (hp : (a :: as).all plainE = true) (hx : nameV b sc x loc = some (.typ "range")) (hs : SEs b w D sc (a :: as) loc mem [.int n] mem1) (h0 : 0 ≤ n) (h1 : n ≤ 1000) :
    SI b w D sc (.Call (.Name x p) (a :: as) [] pos) loc mem (.rng (rangeL 0 n.toNat)) mem1 := by
  intro A env s ad Q E hA hE R L K
  refine SE_callT B hp hx hs hA hE R L fun s1 ad1 xs o1 r1 => ?_
  refine ex1_2 (vrs1 r1) fun z ob4 hz => ?_; subst ob4
  refine ex1_1 hz.intInv fun u ob5 => ?_; subst ob5
  refine call_range_1 (wpAny_pyIter_range (IsRange.new ..) (small_one (by omega) (by omega) (ar492 h0 h1) (ar493 h0 h1)) ?_)
  have oa := OutE.all (b := b) (n := s1.toks + 1 + 1) o1.rel (fun a o e => Heap.get?_push_of_some { cls := .type "range", data := .fields #[.int 0 s1.toks, .int n u, .int 1 (s1.toks + 1)] } e)
  have ob := OutE.all (b := b) (s := { s1 with heap := s1.heap.push { cls := .type "range", data := .fields #[.int 0 s1.toks, .int n u, .int 1 (s1.toks + 1)] }, toks := s1.toks + 1 + 1 }) (n := s1.toks + 1 + 1) oa.rel (fun a o e => Heap.get?_push_of_some { cls := .type "range_iterator", data := .fields #[rawInt 0, rawInt (Builtin.Range.rangeSize 0 n 1), rawInt 1] } e)
  refine K _ ad1 _ (o1.trans (oa.trans ob)) ((o1.trans oa).none R (get_top _)) (.rng ?_)
  have e : (n.toNat : Int) = Builtin.Range.rangeSize 0 n 1 := by rw [rangeSize_one]; split <;> omega
  rw [e]
  exact Heap.get?_push_size _ rfl
theorem SI_rev (B : BaseOk b) {x p a as pos i l} (hp : (a :: as).all plainE = true) (hx : nameV b sc x loc = some (.typ "reversed")) (hs : SEs b w D sc (a :: as) loc mem [.list i] mem1) (hl : mem1[i]? = some l) :
    SI b w D sc (.Call (.Name x p) (a :: as) [] pos) loc mem (.rev i l.length) mem1 := by
  intro A env s ad Q E hA hE R L K
  refine SE_callT B hp hx hs hA hE R L fun s1 ad1 xs o1 r1 => ?_
  refine ex1_2 (vrs1 r1) fun z ob6 hz => ?_; subst ob6
  refine ex1_2 hz.listInv fun p ob7 hp => ?_; subst ob7
  refine ex1_3 (o1.rel.list hp hl) fun its hL hv _ => ?_
  have e1 := hv.length
  have e2 : its.toList.length = its.size := Array.length_toList
  have hit : (s1.heap.push (revObj p ((its.size : Int) - 1))).IsRevIter s1.heap.objs.size p ((its.size : Int) - 1) := ⟨_, Heap.get?_push_size _ rfl, rfl, rfl⟩
  refine call_reversed_list hL (wpAny_pyIter_revIter hit (K _ ad1 _ (o1.trans (OutE.all (n := s1.toks) o1.rel (fun a o e => Heap.get?_push_of_some _ e))) (o1.none R (get_top _)) (.rev hp ?_)))
  rw [e1, e2]
  exact hit
noncomputable def own (env : Env) (a : Addr) : Prop := a = env.locals ∨ ∃ x, (x, a) ∈ env.cells ∧ env.kindOf x = some .cell
structure OutS (b : Base) (env : Env) (s : Shared) (ad : List Addr) (s' : Shared) (ad' : List Addr) (loc' : Loc) (mem' : Mem) : Prop where
  rel : RelM b s'.heap ad' mem'
  lr : LR b env s'.heap ad' loc'
  pre : Pre ad ad'
  keep : Keep s.heap s'.heap (fun a => own env a ∨ Wr b ad a)
  fresh : ∀ a ∈ ad', a ∈ ad ∨ s.heap.get? a = none
  os : s'.os = s.os
  gens : s'.gens = s.gens
  drawn : s'.drawn = s.drawn
variable {env : Env} {s s' s'' : Shared} {ad ad' ad'' : List Addr}
theorem LR.noTuple {h : Heap} (L : LR b env h ad loc) : ∀ a, own env a → ∀ items, ¬ h.IsTuple a items := by
  rintro a (rfl | ⟨x, hx, _⟩)
  · refine ex1_2 L.ns fun m hm _ => ?_; exact not_tuple_of_ns hm
  · refine ex1_1 (L.cell x a hx) fun ov hv => ?_; exact not_tuple_of_cell hv
theorem OutS.ofE (R : RelM b s.heap ad mem) (L : LR b env s.heap ad loc) (o : OutE b s ad s' ad' mem') : OutS b env s ad s' ad' loc mem' :=
  ⟨o.rel, L.out R o, o.pre, o.keep.mono fun _ h => .inr h, o.fresh, o.os, o.gens, o.drawn⟩
theorem OutS.refl (R : RelM b s.heap ad mem) (L : LR b env s.heap ad loc) : OutS b env s ad s ad loc mem := OutS.ofE R L (OutE.refl R)
theorem OutS.vr (R : RelM b s.heap ad mem) (L : LR b env s.heap ad loc) (o : OutS b env s ad s' ad' loc' mem') {v x} (hv : VR s.heap ad v x) : VR s'.heap ad' v x :=
  VR.keep o.keep (fun a h => h.elim (L.noTuple a) (R.noTuple a)) o.pre hv
theorem OutS.trans (x : OutS b env s ad s' ad' loc1 mem1) (y : OutS b env s' ad' s'' ad'' loc2 mem2) : OutS b env s ad s'' ad'' loc2 mem2 where
  rel := y.rel
  lr := y.lr
  pre := x.pre.trans y.pre
  keep := fun a o hx e => by
    refine y.keep a o (fun hm => ?_) (x.keep a o hx e)
    rcases hm with hm | hm
    · exact hx (.inl hm)
    · rcases hm with hm | hm
      · rcases x.fresh a hm with q | q
        · exact hx (.inr (.inl q))
        · rw [q] at e; cases e
      · exact hx (.inr (.inr hm))
  fresh := fun a ha => by
    rcases y.fresh a ha with q | q
    · exact x.fresh a q
    · by_cases ha : Wr b ad a
      · rcases ha with ha | ha
        · exact .inl ha
        · refine ex1_1 ((x.rel.tabs a ha).some) fun o' ho' => ?_
          rw [ho'] at q; cases q
      · by_cases ho : own env a
        · rcases ho with rfl | ⟨z, hz, _⟩
          · refine ex1_2 x.lr.ns fun m ob8 _ => ?_; obtain ⟨o, es, ep, hm, _⟩ := ob8
            rw [hm] at q; cases q
          · refine ex2_2 (x.lr.cell z a hz) fun ov o hv _ => ?_
            rw [hv] at q; cases q
        · cases e : s.heap.get? a with
          | none => exact .inr rfl
          | some o => rw [x.keep a o (fun h => h.elim ho ha) e] at q; cases q
  os := y.os.trans x.os
  gens := y.gens.trans x.gens
  drawn := y.drawn.trans x.drawn
theorem OutS.touch {I : Addr} {k : Wk} (x : OutS b env s ad s' ad' loc1 mem1) (T : Touch s' s'' I) (f : Fld s'.heap I) (hI : b.H.get? I = none) (hs : s.heap.get? I = none) : OutS b env s ad s'' ad' loc1 mem1 where
  rel := T.rel f hI x.rel
  lr := T.lr f x.lr
  pre := x.pre
  keep := fun a o hx e => T.keep a o (fun h => by rw [h, hs] at e; cases e) (x.keep a o hx e)
  fresh := x.fresh
  os := T.same.1.trans x.os
  gens := T.same.2.1.trans x.gens
  drawn := T.same.2.2.trans x.drawn
theorem own_not_mem (R : RelM b s.heap ad mem) (L : LR b env s.heap ad loc) {a : Addr} (h : own env a) : a ∉ ad := by
  intro hm
  refine ex1_1 (R.hr.isList a hm) fun its hl => ?_
  rcases h with rfl | ⟨x, hx, _⟩
  · refine ex1_2 L.ns fun m hn _ => ?_; exact list_ne_ns hl hn rfl
  · refine ex1_1 (L.cell x a hx) fun ov hv => ?_; exact list_ne_cell hl hv rfl
theorem own_base (L : LR b env s.heap ad loc) {a : Addr} (h : own env a) : b.H.get? a = none := by
  rcases h with rfl | ⟨x, hx, _⟩
  · exact L.low
  · exact L.lowC x a hx
theorem RelM.change {a : Addr} {h' : Heap} (R : RelM b s.heap ad mem) (L : LR b env s.heap ad loc) (h : own env a) (hs : Heap.SameBut a s.heap h') : RelM b h' ad mem where
  base := fun c o e => (hs.2 c (fun hc => by rw [hc, own_base L h] at e; cases e)).trans (R.base c o e)
  lowA := R.lowA
  hr := ⟨R.hr.len, R.hr.nodup, fun i l e => by
    refine ex2_4 (R.hr.at_ i l e) fun c items ha hl hv hp => ?_
    have hne : c ≠ a := fun hc => own_not_mem R L h (hc ▸ List.mem_of_getElem? ha)
    exact ⟨c, items, ha, list_keep hl fun o e => (hs.2 c hne).trans e, VRs.keep (W := (· = a)) (fun c o hc e => (hs.2 c hc).trans e) (fun c hc => by rw [hc]; exact L.noTuple a h) (Pre.refl _) hv, fun h0 => (hp h0).at fun o e => (hs.2 c hne).trans e⟩⟩
  tabs := fun c hc => (R.tabs c hc).but (W := (· = a)) (fun c o hc e => (hs.2 c hc).trans e) fun c hc => by
    rw [hc]
    rcases h with rfl | ⟨x, hx, _⟩
    · refine ex1_2 L.ns fun m hn _ => ?_; exact NotF.ns hn
    · refine ex1_1 (L.cell x a hx) fun ov hv => ?_; exact NotF.cell hv
theorem VR.change {a : Addr} {h' : Heap} (L : LR b env s.heap ad loc) (h : own env a) (hs : Heap.SameBut a s.heap h') {v x} (hv : VR s.heap ad v x) : VR h' ad v x :=
  VR.keep (W := (· = a)) (fun c o hc e => (hs.2 c hc).trans e) (fun c hc => by rw [hc]; exact L.noTuple a h) (Pre.refl _) hv
theorem store_ok {A : Around} {x : Str} {val : Value} {Q : Unit → Shared → Prop} {E : Value → Shared → Prop} (hE : EnvOk env sc) (R : RelM b s.heap ad mem) (L : LR b env s.heap ad loc) (hk : kindOk sc x = true) (hv : VR s.heap ad v val)
    (K : ∀ s', OutS b env s ad s' ad (putL x v loc) mem → Q () s') : wpAny (model pz w) A (storeName env x val) Q E s := by
  unfold kindOk at hk
  rw [lkb_eq] at hk
  have hkind : env.scope.kind = .function := by rw [hE.scope]; exact hE.kind
  have hx := hE.kindOf x
  refine ex1_2 L.ns fun m hn hl => ?_
  split at hk
  · rename_i e
    rw [e] at hx
    refine wpAny_storeName_local hx hn (fun h' hn' hs => K _ ?_) (by rw [hkind]; rfl)
    have ho : own env env.locals := .inl rfl
    refine ⟨R.change L ho hs, ⟨L.low, L.lowC, fun z c hc => ?_, _, hn', fun y u hy => ?_⟩, Pre.refl _, fun c o hc e => (hs.2 c fun q => hc (.inl (by rw [q]; exact ho))).trans e, fun c hc => .inl hc, rfl, rfl, rfl⟩
    · refine ex1_1 (L.cell z c hc) fun ov hv => ?_
      exact ⟨ov, cell_keep hv fun o e => (hs.2 c (fun q => ns_ne_cell hn (q ▸ hv) rfl)).trans e⟩
    · rw [putL_lookup] at hy
      by_cases hyx : y = x
      · rw [if_pos hyx] at hy
        cases hy
        exact ⟨val, hv.change L ho hs, .inl ⟨by rw [hyx]; exact hx, by show (if y = x then some val else m y) = some val; rw [if_pos hyx]⟩⟩
      · rw [if_neg hyx] at hy
        obtain ⟨v2, h1, ⟨h2, h3⟩ | ⟨h2, c, h3, h4⟩⟩ := hl y u hy
        · exact ⟨v2, h1.change L ho hs, .inl ⟨h2, by show (if y = x then some val else m y) = some v2; rw [if_neg hyx]; exact h3⟩⟩
        · exact ⟨v2, h1.change L ho hs, .inr ⟨h2, c, h3, cell_keep h4 fun o e => (hs.2 c (fun q => ns_ne_cell hn (q ▸ h4) rfl)).trans e⟩⟩
  · rename_i e
    rw [e] at hx
    refine ex1_1 (hE.cells x e) fun c hc => ?_
    have hm := PySem.mem_of_lookup_some hc
    have ho : own env c := .inr ⟨x, hm, hx⟩
    refine ex1_1 (L.cell x c hm) fun ov hcv => ?_
    refine wpAny_storeName_cell hkind hx hc hcv fun h' hn' hs => K _ ?_
    have hne : env.locals ≠ c := fun q => ns_ne_cell (q ▸ hn) hcv rfl
    refine ⟨R.change L ho hs, ⟨L.low, L.lowC, fun z c' hz => ?_, m, ns_keep hn fun o e => (hs.2 _ hne).trans e, fun y u hy => ?_⟩, Pre.refl _, fun d o hd e => (hs.2 d fun q => hd (.inl (by rw [q]; exact ho))).trans e, fun c hc => .inl hc, rfl, rfl, rfl⟩
    · by_cases hcc : c' = c
      · subst hcc; exact ⟨_, hn'⟩
      · refine ex1_1 (L.cell z c' hz) fun ov hv => ?_
        exact ⟨ov, cell_keep hv fun o e => (hs.2 c' hcc).trans e⟩
    · rw [putL_lookup] at hy
      by_cases hyx : y = x
      · rw [if_pos hyx] at hy
        cases hy
        exact ⟨val, hv.change L ho hs, .inr ⟨.inl (by rw [hyx]; exact hx), c, by rw [hyx]; exact hc, hn'⟩⟩
      · rw [if_neg hyx] at hy
        obtain ⟨v2, h1, ⟨h2, h3⟩ | ⟨h2, c', h3, h4⟩⟩ := hl y u hy
        · exact ⟨v2, h1.change L ho hs, .inl ⟨h2, h3⟩⟩
        · have hcc : c' ≠ c := by
            rintro rfl
            have h5 := PySem.mem_of_lookup_some h3
            have nd := hE.nodup
            obtain ⟨i, hi, ei⟩ := List.mem_iff_getElem.mp hm
            obtain ⟨j, hj, ej⟩ := List.mem_iff_getElem.mp h5
            have : i = j := by
              refine (List.getElem_inj (i := i) (j := j) (h₀ := by simpa using hi) (h₁ := by simpa using hj) nd).mp ?_
              rw [List.getElem_map, List.getElem_map, ei, ej]
            subst this
            rw [ei] at ej
            injection ej with e1 _
            exact hyx e1.symm
          exact ⟨v2, h1.change L ho hs, .inr ⟨h2, c', h3, cell_keep h4 fun o e => (hs.2 c' hcc).trans e⟩⟩
  · cases hk
end Mine
end

section
namespace Mine
variable {b : Base} {w : World} {D : Nat} {sc : Scope} {loc loc' loc1 loc2 : Loc} {mem mem' mem1 mem2 mem3 : Mem} {v : V} {c : Ctl}
noncomputable def FR (h : Heap) (ad : List Addr) : Ctl → Flow → Prop
  | .next, f => f = .next
  | .ret v, f => ∃ val, f = .ret val ∧ VR h ad v val
noncomputable def SS (b : Base) (w : World) (D : Nat) (sc : Scope) (st : Stmt) (loc : Loc) (mem : Mem) (c : Ctl) (loc' : Loc) (mem' : Mem) : Prop :=
  ∀ {A : Around} {env : Env} {s : Shared} {ad : List Addr} {Q : Flow → Shared → Prop} {E : Value → Shared → Prop}, AOk A D → EnvOk env sc → RelM b s.heap ad mem → LR b env s.heap ad loc →
    (∀ s' ad' f, OutS b env s ad s' ad' loc' mem' → FR s'.heap ad' c f → Q f s') → wpAny (model pz w) A (exec st env) Q E s
noncomputable def SSs (b : Base) (w : World) (D : Nat) (sc : Scope) (st : List Stmt) (loc : Loc) (mem : Mem) (c : Ctl) (loc' : Loc) (mem' : Mem) : Prop :=
  ∀ {A : Around} {env : Env} {s : Shared} {ad : List Addr} {Q : Flow → Shared → Prop} {E : Value → Shared → Prop}, AOk A D → EnvOk env sc → RelM b s.heap ad mem → LR b env s.heap ad loc →
    (∀ s' ad' f, OutS b env s ad s' ad' loc' mem' → FR s'.heap ad' c f → Q f s') → wpAny (model pz w) A (execs st env) Q E s
noncomputable def SW (b : Base) (w : World) (D : Nat) (sc : Scope) (t : PySem.Expr) (body : List Stmt) (loc : Loc) (mem : Mem) (c : Ctl) (loc' : Loc) (mem' : Mem) : Prop :=
  ∀ {A : Around} {env : Env} {s : Shared} {ad : List Addr} {R : Result → Shared → Prop}, AOk A D → EnvOk env sc → RelM b s.heap ad mem → LR b env s.heap ad loc →
    (∀ s' ad' f, OutS b env s ad s' ad' loc' mem' → FR s'.heap ad' c f → R (.ok f) s') → codeAny (model pz w) A (.whileLoop t body [] env) R s
noncomputable def SF (b : Base) (w : World) (D : Nat) (sc : Scope) (x : Str) (k : Wk) (body : List Stmt) (loc : Loc) (mem : Mem) (c : Ctl) (loc' : Loc) (mem' : Mem) : Prop :=
  ∀ {A : Around} {env : Env} {s : Shared} {ad : List Addr} {R : Result → Shared → Prop} {px : Pos} {I : Addr} {s0 : Shared} {ad0 : List Addr}, AOk A D → EnvOk env sc → OutS b env s0 ad0 s ad loc mem → s0.heap.get? I = none → b.H.get? I = none → WkR s.heap ad I k →
    (∀ s' ad' f, OutS b env s0 ad0 s' ad' loc' mem' → FR s'.heap ad' c f → R (.ok f) s') → codeAny (model pz w) A (.forLoop (.Name x px) (.ref I) body [] env) R s
theorem FR.next {h ad f} (x : FR h ad .next f) : f = .next := x
theorem swaps_plain {e : PySem.Expr} {t : Option PySem.Expr} {n : Nat} {env : Env} (h : isComp e = false) : swapsWith e t n env = pure false := by
  cases e <;> first | rfl | cases h
theorem SS_assign {x p e pos} (hk : kindOk sc x = true) (hc : isComp e = false) (he : SE b w D sc e loc mem v mem1) : SS b w D sc (.Assign [.Name x p] e pos) loc mem .next (putL x v loc) mem1 := by
  intro A env s ad Q E hA hE R L K
  refine wpAny_Assign_Name (he hA hE R L fun s1 ad1 val o1 r1 => ?_) (swaps_plain hc)
  exact store_ok hE o1.rel (L.out R o1) hk r1 fun s2 o2 => K _ _ _ ((OutS.ofE R L o1).trans o2) rfl
theorem SS_return {e pos} (he : SE b w D sc e loc mem v mem1) : SS b w D sc (.Return (some e) pos) loc mem (.ret v) loc mem1 := by
  intro A env s ad Q E hA hE R L K
  exact wpAny_Return_some (he hA hE R L fun s1 ad1 val o1 r1 => K _ _ _ (OutS.ofE R L o1) ⟨val, rfl, r1⟩)
theorem SS_expr {e pos} (hc : isComp e = false) (he : SE b w D sc e loc mem .none mem1) : SS b w D sc (.Expr e pos) loc mem .next loc mem1 := by
  intro A env s ad Q E hA hE R L K
  refine wpAny_Expr (he hA hE R L fun s1 ad1 val o1 r1 => ?_) (by unfold interactive; rw [hE.scope, hE.kind]; rfl) (swaps_plain hc)
  cases r1
  exact K _ _ _ (OutS.ofE R L o1) rfl
theorem SSs_nil : SSs b w D sc [] loc mem .next loc mem := by
  intro A env s ad Q E hA hE R L K
  exact wpAny_execs_nil (K _ _ _ (OutS.refl R L) rfl)
theorem SSs_next {st rest} (h1 : SS b w D sc st loc mem .next loc1 mem1) (h2 : SSs b w D sc rest loc1 mem1 c loc2 mem2) : SSs b w D sc (st :: rest) loc mem c loc2 mem2 := by
  intro A env s ad Q E hA hE R L K
  refine wpAny_execs_cons (h1 hA hE R L fun s1 ad1 f o1 r1 => ?_)
  cases r1
  exact h2 hA hE o1.rel o1.lr fun s2 ad2 f o2 r2 => K _ _ _ (o1.trans o2) r2
theorem SSs_ret {st rest} (h1 : SS b w D sc st loc mem (.ret v) loc1 mem1) : SSs b w D sc (st :: rest) loc mem (.ret v) loc1 mem1 := by
  intro A env s ad Q E hA hE R L K
  refine wpAny_execs_cons (h1 hA hE R L fun s1 ad1 f o1 r1 => ?_)
  have r1' := r1
  refine ex1_2 r1 ?_; (try clear r1); intro val ob1 hv; subst ob1
  exact K _ _ _ o1 r1'
theorem SS_if {t x y pos d} (ht : ST b w D sc t loc mem d mem1) (h1 : d = true → SSs b w D sc x loc mem1 c loc2 mem2) (h2 : d = false → SSs b w D sc y loc mem1 c loc2 mem2) : SS b w D sc (.If t x y pos) loc mem c loc2 mem2 := by
  intro A env s ad Q E hA hE R L K
  refine wpAny_If (ht hA hE R L fun s1 ad1 o1 => ?_)
  have oS := OutS.ofE R L o1
  induction d using Bool.casesOn with
  | true => exact h1 rfl hA hE oS.rel oS.lr fun s2 ad2 f o2 r2 => K _ _ _ (oS.trans o2) r2
  | false => exact h2 rfl hA hE oS.rel oS.lr fun s2 ad2 f o2 r2 => K _ _ _ (oS.trans o2) r2
theorem starless {env : Env} : ∀ {es : List PySem.Expr} {xs : List Str}, namesOf es = some xs → (assignEach es env).length = xs.length ∧ (assignEach es env).findIdx? (·.1) = none
  | [], _, h => by cases h; exact ⟨rfl, rfl⟩
  | e :: es, xs, h => by
    refine ex3_3 (namesOf_cons h) fun _ _ ys ob2v hy ob2 => ?_; subst ob2v; subst ob2
    refine ex0_2 (starless (env := env) hy) fun h1 h2 => ?_
    refine ⟨congrArg Nat.succ h1, ?_⟩
    show List.findIdx? _ ((false, _) :: assignEach es env) = none
    rw [List.findIdx?_cons]
    simp [h2]
theorem assign_names {A : Around} {env : Env} {E : Value → Shared → Prop} (hE : EnvOk env sc) : ∀ {es : List PySem.Expr} {xs : List Str} {vs : List V} {vals : List Value} {loc loc' : Loc} {s : Shared} {ad : List Addr} {Q : Unit → Shared → Prop}, namesOf es = some xs → putAll sc xs vs loc = some loc' →
    RelM b s.heap ad mem → LR b env s.heap ad loc → VRs s.heap ad vs vals → (∀ s', OutS b env s ad s' ad loc' mem → Q () s') → wpAny (model pz w) A (assignInOrder ((assignEach es env).map (·.2)) vals) Q E s
  | [], xs, vs, vals, loc, loc', s, ad, Q, h, hp, R, L, hv, K => by
    cases h
    induction vs using List.casesOn with
    | nil => cases hp; exact wpAny_pure (K _ (OutS.refl R L))
    | cons _ _ => cases hp
  | e :: es, xs, vs, vals, loc, loc', s, ad, Q, h, hp, R, L, hv, K => by
    refine ex3_3 (namesOf_cons h) fun _ _ ys ob3v hy ob3 => ?_; subst ob3v; subst ob3
    induction vs using List.casesOn with
    | nil => cases hp
    | cons u vs =>
      cases hv with
      | cons hv hl =>
        refine ex0_2 (cond_sn hp) fun h1 h2 => ?_
        refine assignInOrder_cons (wpAny_assign_Name (store_ok hE R L h1 hv fun s1 o1 => ?_))
        exact assign_names hE hy h2 o1.rel o1.lr (VRs.keep o1.keep (fun a h => h.elim (L.noTuple a) (R.noTuple a)) o1.pre hl) fun s2 o2 => K _ (o1.trans o2)
theorem swaps_sole {es k p e pos env} (h : isComp e = false) : swapsWithSole [.Tuple es k p] e pos env = pure false := by
  cases e <;> first | rfl | cases h
theorem putAll_len : ∀ {xs : List Str} {vs : List V} {loc loc' : Loc}, putAll sc xs vs loc = some loc' → xs.length = vs.length
  | [], [], _, _, _ => rfl
  | [], _ :: _, _, _, h => by cases h
  | _ :: _, [], _, _, h => by cases h
  | _ :: xs, _ :: vs, _, _, h => congrArg Nat.succ (putAll_len (cond_sn h).2)
theorem swapS_ok {ts : List PySem.Expr} {v : PySem.Expr} {k : Nat} {p : Pos} {env : Env} {r : Option (List Str)} (hE : EnvOk env sc) (h : swapS sc ts v = some r) : swappedStores [.Tuple ts k p] v env = pure r := by
  have hb : env.blockKind = .function := by
    unfold Env.blockKind
    rw [hE.scope, hE.kind]; rfl
  have hk : ∀ x, env.kindOf x = sc.names.lookup x := fun x => hE.kindOf x
  induction v using PySem.Expr.casesOn with
  | Tuple vs k2 p2 =>
    have hk : env.kindOf = fun x => sc.names.lookup x := funext hk
    delta swappedStores
    delta swapS at h
    dsimp only at h ⊢
    rw [hb, hk]
    have e0 : (vs.any fun | .Starred .. => true | _ => false) = vs.any fun e => !plainE e := by
      congr 1
      funext e
      cases e <;> rfl
    generalize hN : List.filterMap _ ts = N
    generalize hM : List.filterMap _ ts = M at h
    have eN : N = M := by
      rw [← hN, ← hM]
      congr 1
    subst eN
    rw [bne_self_eq_false, Bool.or_false]
    cases c1 : (!(ts.length == 2 || ts.length == 3) || vs.length != ts.length) with
    | true => rw [c1] at h; cases h; rfl
    | false =>
      rw [c1, cond_false] at h
      cases c2 : (vs.any fun e => !plainE e) with
      | true =>
        rw [c2] at h; cases h
        rw [← e0] at c2
        rw [if_neg Bool.false_ne_true]
        exact if_pos c2
      | false =>
        rw [c2, cond_false] at h
        rw [← e0] at c2
        rw [if_neg Bool.false_ne_true]
        refine (if_neg (ne_true_of_eq_false c2)).trans ?_
        cases c3 : (N.length != ts.length || N.eraseDups.length != N.length) with
        | true => rw [c3] at h; cases h; rfl
        | false =>
          rw [c3, cond_false] at h
          cases c4 : vs.all (foldedForSure 8) with
          | true => rw [c4] at h; cases h; rfl
          | false =>
            rw [c4, cond_false] at h
            cases c5 : vs.all (constantsAlone 8) with
            | true => rw [c5] at h; cases h
            | false => rw [c5] at h; cases h; rfl
  | _ => cases h; rfl
theorem SS_unpack {es k p e pos xs l} (hn : namesOf es = some xs) (hc : isComp e = false) (hw : swapS sc es e = some none) (he : SE b w D sc e loc mem (.tup l) mem1) (hp : putAll sc xs l loc = some loc') : SS b w D sc (.Assign [.Tuple es k p] e pos) loc mem .next loc' mem1 := by
  intro A env s ad Q E hA hE R L K
  refine Assign_Tuple (he hA hE R L fun s1 ad1 val o1 r1 => ?_) (swaps_sole hc) (swapS_ok hE hw)
  refine ex2_3 r1.tupInv fun a its ob4 ht hv => ?_; subst ob4
  refine ex0_2 (starless (env := env) hn) fun n1 n2 => ?_
  have e1 := hv.length
  have e2 : its.toList.length = its.size := Array.length_toList
  have e3 := putAll_len hp
  have oS := OutS.ofE R L o1
  refine wpAny_assign_Tuple hA.handled ht (ar494 n1 e1 e2 e3) n2 fun h' hx => ?_
  have oa : OutE b s1 ad1 { s1 with heap := h' } ad1 mem1 := OutE.all (n := s1.toks) o1.rel (fun a o e => hx a o (fun q => by rw [q, get_top] at e; cases e) e)
  have oS2 := OutS.ofE o1.rel oS.lr oa
  exact assign_names hE hn hp oa.rel oS2.lr (oa.vrs o1.rel hv) fun s2 o2 => K _ _ _ ((oS.trans oS2).trans o2) rfl
theorem bind_names {A : Around} {env : Env} {E : Value → Shared → Prop} (hE : EnvOk env sc) : ∀ {xs : List Str} {vs : List V} {vals : List Value} {loc loc' : Loc} {s : Shared} {ad : List Addr} {Q : Unit → Shared → Prop}, putAll sc xs vs loc = some loc' →
    RelM b s.heap ad mem → LR b env s.heap ad loc → VRs s.heap ad vs vals → (∀ s', OutS b env s ad s' ad loc' mem → Q () s') → wpAny (model pz w) A (assignInOrder (xs.map fun n => bindName env n) vals) Q E s
  | [], vs, vals, loc, loc', s, ad, Q, hp, R, L, hv, K => by
    induction vs using List.casesOn with
    | nil => cases hp; exact wpAny_pure (K _ (OutS.refl R L))
    | cons _ _ => cases hp
  | x :: xs, vs, vals, loc, loc', s, ad, Q, hp, R, L, hv, K => by
    induction vs using List.casesOn with
    | nil => cases hp
    | cons u vs =>
      cases hv with
      | cons hv hl =>
        refine ex0_2 (cond_sn hp) fun h1 h2 => ?_
        refine assignInOrder_cons (bindName_ (store_ok hE R L h1 hv fun s1 o1 => ?_))
        exact bind_names hE h2 o1.rel o1.lr (VRs.keep o1.keep (fun a h => h.elim (L.noTuple a) (R.noTuple a)) o1.pre hl) fun s2 o2 => K _ (o1.trans o2)
theorem SS_unpackS {es k p e pos ns l} (hc : isComp e = false) (hw : swapS sc es e = some (some ns)) (he : SE b w D sc e loc mem (.tup l) mem1) (hnl : ns.length = l.length) (hp : putAll sc ns.reverse l.reverse loc = some loc') : SS b w D sc (.Assign [.Tuple es k p] e pos) loc mem .next loc' mem1 := by
  intro A env s ad Q E hA hE R L K
  refine Assign_Tuple_swapped (names := ns) (he hA hE R L fun s1 ad1 val o1 r1 => ?_) (swaps_sole hc) (swapS_ok hE hw)
  refine ex2_3 r1.tupInv fun a its ob5 ht hv => ?_; subst ob5
  have e1 := hv.length
  have e2 : its.toList.length = its.size := Array.length_toList
  have oS := OutS.ofE R L o1
  rw [hnl, e1, e2]
  refine wpAny_unpackItems_tuple hA.handled ht fun h' hx => ?_
  have oa : OutE b s1 ad1 { s1 with heap := h' } ad1 mem1 := OutE.all (n := s1.toks) o1.rel (fun a o e => hx a o (fun q => by rw [q, get_top] at e; cases e) e)
  have oS2 := OutS.ofE o1.rel oS.lr oa
  exact bind_names hE hp oa.rel oS2.lr (oa.vrs o1.rel hv).reverse fun s2 o2 => K _ _ _ ((oS.trans oS2).trans o2) rfl
end Mine
end

section
namespace Mine
variable {b : Base} {w : World} {D : Nat} {sc : Scope} {loc loc' loc1 loc2 : Loc} {mem mem' mem1 mem2 mem3 : Mem} {v : V}
noncomputable def clos (cells : List (Str × Addr)) : List (Str × NameKind) → List (Str × Addr) → List (Str × Addr)
  | [], cs => cs
  | (n, k) :: l, cs => clos cells l (cond (k == .free) ((n, (cells.lookup n).getD 0) :: cs) cs)
theorem closureFor_clos {scope : Scope} {env : Env} (h : ∀ y ∈ scope.names, y.2 = .free → ∃ c, env.cells.lookup y.1 = some c) : closureFor scope env = pure (clos env.cells scope.names []) := by
  unfold closureFor
  have go : ∀ (l : List (Str × NameKind)) (cs : List (Str × Addr)), (∀ y ∈ l, y.2 = .free → ∃ c, env.cells.lookup y.1 = some c) →
      (forIn l cs fun x r => (match x with | (name, kind) => if (kind == .free) = true then do let c ← cellOf env name; pure (ForInStep.yield ((name, c) :: r)) else pure (ForInStep.yield r) : Sem (ForInStep (List (Str × Addr))))) = pure (clos env.cells l cs) := by
    intro l
    induction l with
    | nil => intro cs _; rfl
    | cons y l ih =>
      intro cs hy
      obtain ⟨n, k⟩ := y
      rw [List.forIn_cons]
      have ih' := fun cs => ih cs fun z hz => hy z (.tail _ hz)
      by_cases hk : (k == NameKind.free) = true
      · refine ex1_1 (hy (n, k) (.head _) (eq_of_beq hk)) fun c hc => ?_
        have e : cellOf env n = pure c := by unfold cellOf; rw [hc]
        simp only [hk, if_true, e, pure_bind]
        rw [ih', clos, hk, cond_true, hc]
        rfl
      · have hk' := eq_false_of_ne_true hk
        simp only [hk', Bool.false_eq_true, if_false, pure_bind]
        rw [ih', clos, hk', cond_false]
  have := go scope.names [] h
  rw [← bind_pure (m := Sem) (x := pure (clos env.cells scope.names []))]
  rw [← this]
theorem clos_mem {cells : List (Str × Addr)} : ∀ {l : List (Str × NameKind)} {cs : List (Str × Addr)} {p : Str × Addr}, p ∈ clos cells l cs → p ∈ cs ∨ ((p.1, NameKind.free) ∈ l ∧ p.2 = (cells.lookup p.1).getD 0)
  | [], cs, p, h => .inl h
  | (n, k) :: l, cs, p, h => by
    rcases clos_mem (l := l) h with h | h
    · by_cases hk : (k == NameKind.free) = true
      · rw [hk, cond_true] at h
        rcases List.mem_cons.mp h with rfl | h
        · have : k = .free := eq_of_beq hk
          subst this
          exact .inr ⟨.head _, rfl⟩
        · exact .inl h
      · rw [eq_false_of_ne_true hk, cond_false] at h; exact .inl h
    · exact .inr ⟨.tail _ h.1, h.2⟩
theorem clos_sub {cells : List (Str × Addr)} : ∀ {l : List (Str × NameKind)} {cs : List (Str × Addr)} {p : Str × Addr}, p ∈ cs → p ∈ clos cells l cs
  | [], cs, p, h => h
  | (n, k) :: l, cs, p, h => by
    refine clos_sub (l := l) ?_
    cases (k == NameKind.free) <;> first | exact h | exact .tail _ h
theorem clos_has {cells : List (Str × Addr)} : ∀ {l : List (Str × NameKind)} {cs : List (Str × Addr)} {n : Str}, (n, NameKind.free) ∈ l → ∃ c, (n, c) ∈ clos cells l cs
  | (n', k) :: l, cs, n, h => by
    rcases List.mem_cons.mp h with h | h
    · cases h
      exact ⟨_, clos_sub (l := l) (.head _)⟩
    · exact clos_has (l := l) h
theorem lookup_of_mem {α : Type} {l : List (Str × α)} {n : Str} {c : α} (h : (n, c) ∈ l) (hu : ∀ d, (n, d) ∈ l → d = c) : l.lookup n = some c := by
  induction l with
  | nil => cases h
  | cons p l ih =>
    obtain ⟨m, d⟩ := p
    rw [List.lookup_cons]
    by_cases hm : n = m
    · subst hm
      rw [beq_self_eq_true]
      show some d = some c
      rw [hu d (.head _)]
    · rw [beq_eq_false_iff_ne.mpr hm]
      rcases List.mem_cons.mp h with h | h
      · cases h; exact absurd rfl hm
      · exact ih h fun d hd => hu d (.tail _ hd)
theorem clos_len {cells : List (Str × Addr)} : ∀ (l : List (Str × NameKind)) (cs : List (Str × Addr)), (clos cells l cs).length = (l.filter fun y => y.2 == .free).length + cs.length
  | [], cs => by simp [clos]
  | (n, k) :: l, cs => by
    rw [clos, clos_len l, List.filter_cons]
    cases h : (k == NameKind.free) with
    | true => simp [h]; exact ar520
    | false => simp [h]
theorem Walks.listFrom {prog : Program} {A : Around} (hh : A.handled = none) (I ax : Addr) (hne : ax ≠ I) (items : Array Value) (k : Nat) : Walks prog w A I [I, ax] [I] (items.size - k) (fun i v => items[k + i]? = some v) (fun i h => h.IsListIter I ax (k + i) ∧ h.IsList ax items) where
  sub := fun b hb => by simp at hb; simp [hb]
  frame := fun i h h' x hk => ⟨let ⟨o, ho, r⟩ := x.1; ⟨o, hk I (by simp) o ho, r⟩, let ⟨o, ho, r⟩ := x.2; ⟨o, hk ax (by simp) o ho, r⟩⟩
  item := fun i s Q E hi x hQ => by
    have hx : items[k + i]? = some (items[k + i]'(ar521 hi)) := Array.getElem?_eq_getElem (ar521 hi)
    refine wpAny_pyNext_list_item x.1 x.2 hx fun h' hit' hs' => ?_
    exact hQ _ h' s.toks hx ⟨hit', list_keep x.2 fun o eo => (hs'.2 ax hne).trans eo⟩ fun b o hb eo => hs'.extBut b o (fun h => hb (by simp [h])) eo
  done := fun s Q E x hQ => by
    refine wpAny_pyNext_list_end hh x.1 x.2 (Array.getElem?_eq_none (ar522)) fun h' he' => hQ h' s.toks fun b o hb eo => he' b o (fun h => hb (by simp [h])) eo
  self := fun i s Q E x hQ => wpAny_pyIter_listiter x.1 hQ
theorem Walks.shift {prog : Program} {A : Around} {I : Addr} {fp wr : List Addr} {n : Nat} {P : Nat → Value → Prop} {St : Nat → Heap → Prop} (W : Walks prog w A I fp wr n P St) (j : Nat) (hj : j ≤ n) : Walks prog w A I fp wr (n - j) (fun i => P (j + i)) (fun i => St (j + i)) where
  sub := W.sub
  frame := fun i h h' x hk => W.frame _ h h' x hk
  item := fun i s Q E hi x hQ => W.item (j + i) s Q E (ar523 hj hi) x hQ
  done := fun s Q E x hQ => W.done s Q E (by have e : j + (n - j) = n := ar524 hj
                                             rw [e] at x; exact x) hQ
  self := fun i s Q E x hQ => W.self (j + i) s Q E x hQ
noncomputable def flatR : V → Value → Prop
  | .int i, x => ∃ t, x = .int i t
  | .str l, x => ∃ t, x = .str (mkS l) t
  | _, _ => False
theorem flatR.vr {h ad u x} (hf : flatR u x) : VR h ad u x := by
  induction u using Mine.V.casesOn with
  | int i => refine ex1_1 hf ?_; (try clear hf); intro t ob1; subst ob1; exact .int _ _
  | str l => refine ex1_1 hf ?_; (try clear hf); intro t ob2; subst ob2; exact .str _ _
  | _ => exact (show False from hf).elim
theorem VR.flat {h ad u x} (hf : flat u = true) (hv : VR h ad u x) : flatR u x := by
  cases hv <;> first | exact ⟨_, rfl⟩ | cases hf
noncomputable def decV : Value → Option V
  | .int i _ => some (.int i)
  | .str s _ => some (.str s.cps.toList)
  | _ => none
theorem decV_of {u x} (hf : flatR u x) : decV x = some u := by
  induction u using Mine.V.casesOn with
  | int i => refine ex1_1 hf ?_; (try clear hf); intro t ob3; subst ob3; rfl
  | str l => refine ex1_1 hf ?_; (try clear hf); intro t ob4; subst ob4; rfl
  | _ => exact (show False from hf).elim
theorem walks_of {A : Around} {s : Shared} {ad : List Addr} {I : Addr} {k : Wk} {l : List V} (hA : AOk A D) (R : RelM b s.heap ad mem) (W : WkR s.heap ad I k) (hi : itemsOf mem k = some l) (hf : ∀ u ∈ l, flat u = true) :
    ∃ fp P St, Walks pz w A I fp [I] l.length P St ∧ St 0 s.heap ∧ (∀ c ∈ fp, c < s.heap.objs.size) ∧ ∀ i x, P i x → ∃ u, l[i]? = some u ∧ flatR u x := by
  have hI : I < s.heap.objs.size := by refine ex2_2 W.fld fun o fs ho _ => ?_; exact Heap.lt_size ho
  have f := W.fld
  cases W with
  | @lst i k a ha hit =>
    refine mE hi ?_; clear hi; intro m hm ob5; subst ob5
    refine ex1_3 (R.list ha hm) fun its hL hv _ => ?_
    have hne : a ≠ I := fun h => by rw [h] at hL; exact f.notList _ hL
    have hsz : (m.drop k).length = its.size - k := by rw [List.length_drop, hv.length, Array.length_toList]
    rw [hsz]
    refine ⟨_, _, _, Walks.listFrom hA.handled I a hne its k, ⟨hit, hL⟩, fun c hc => ?_, fun i x hx => ?_⟩
    · rcases List.mem_cons.mp hc with rfl | hc
      · exact hI
      · rw [List.mem_singleton.mp hc]; refine ex1_2 hL ?_; (try clear hL); intro o ho _; exact Heap.lt_size ho
    · have hlt : k + i < m.length := by
        have := (Array.getElem?_eq_some_iff.mp hx).1
        rw [hv.length, Array.length_toList]; exact this
      obtain ⟨y, h1, h2⟩ := hv.get (k + i) m[k + i] (List.getElem?_eq_getElem hlt)
      rw [Array.getElem?_toList, hx] at h1
      cases h1
      refine ⟨m[k + i], by rw [List.getElem?_drop]; exact List.getElem?_eq_getElem hlt, h2.flat (hf _ ?_)⟩
      exact List.mem_of_getElem? (i := i) (by rw [List.getElem?_drop]; exact List.getElem?_eq_getElem hlt)
  | rev ha hit => cases hi
  | @rng x n hit =>
    cases hi
    have hlen : ∀ (n : Nat) (x : Int), (rangeL x n).length = n := by
      intro n
      induction n with
      | zero => intro x; rfl
      | succ n ih => intro x; rw [rangeL, List.length_cons, ih]
    have hget : ∀ (n : Nat) (x : Int) (i : Nat), i < n → (rangeL x n)[i]? = some (x + i) := by
      intro n
      induction n with
      | zero => intro x i h; omega
      | succ n ih =>
        intro x i h
        induction i using Nat.casesOn with
        | zero => simp [rangeL]
        | succ i => rw [rangeL, List.getElem?_cons_succ, ih _ _ (ar525 h)]; congr 1; exact ar526
    rw [List.length_map, hlen]
    have WR := Walks.range (prog := pz) (w := w) hA.handled I x 1 n
    refine ⟨_, fun i v => i < n ∧ ∃ t, v = .int (x + i * 1) t, _, ⟨WR.sub, WR.frame, fun i s Q E hi st hQ => WR.item i s Q E hi st fun v h' tk hp => hQ v h' tk ⟨hi, hp⟩, WR.done, WR.self⟩, ?_, fun c hc => ?_, fun i v hv => ?_⟩
    · show IsRangeIter s.heap I (x + ((0 : Nat) : Int) * 1) ((n : Int) - ((0 : Nat) : Int)) 1
      have e1 : x + ((0 : Nat) : Int) * 1 = x := ar527
      have e2 : (n : Int) - ((0 : Nat) : Int) = n := ar528
      rw [e1, e2]; exact hit
    · rw [List.mem_singleton.mp hc]; exact hI
    · obtain ⟨hi, t, rfl⟩ := hv
      refine ⟨.int (x + i), by rw [List.getElem?_map, hget n x i hi]; rfl, ?_⟩
      rw [Int.mul_one]; exact ⟨t, rfl⟩
  | @chars ty x t j hle hty hit =>
    cases hi
    have hlen : ((x.drop j).map fun c => V.str [c]).length = (mkS x).cps.size - j := by simp
    rw [hlen]
    have fin : ∀ i v, SignAt (mkS x) (j + i) v → ∃ u, ((x.drop j).map fun c => V.str [c])[i]? = some u ∧ flatR u v := by
      rintro i v ⟨c, u, hc, rfl⟩
      rw [List.getElem?_toArray] at hc
      exact ⟨.str [c], by rw [List.getElem?_map, List.getElem?_drop, hc]; rfl, u, rfl⟩
    rcases hty with rfl | rfl
    · exact ⟨_, _, _, Walks.shift (Walks.strAscii hA.handled I (mkS x) t) j (by simpa using hle), hit, fun c hc => by rw [List.mem_singleton.mp hc]; exact hI, fin⟩
    · exact ⟨_, _, _, Walks.shift (Walks.strWide hA.handled I (mkS x) t) j (by simpa using hle), hit, fun c hc => by rw [List.mem_singleton.mp hc]; exact hI, fin⟩
theorem touchE {s s' s'' : Shared} {ad ad' : List Addr} {I : Addr} (x : OutE b s ad s' ad' mem') (T : Touch s' s'' I) (f : Fld s'.heap I) (hI : b.H.get? I = none) (hs : s.heap.get? I = none) : OutE b s ad s'' ad' mem' where
  rel := T.rel f hI x.rel
  pre := x.pre
  keep := fun a o hx e => T.keep a o (fun h => by rw [h, hs] at e; cases e) (x.keep a o hx e)
  fresh := x.fresh
  os := T.same.1.trans x.os
  gens := T.same.2.1.trans x.gens
  drawn := T.same.2.2.trans x.drawn
theorem joinE {s s' : Shared} {ad ad' : List Addr} {a : Addr} {items : Array Value} {vs : List V} (R : RelM b s.heap ad mem) (x : OutE b s ad s' ad' mem') (hs : s.heap.get? a = none) (ha : a ∉ ad') (hl : s'.heap.PlainList a items) (hv : VRs s'.heap ad' vs items.toList) : OutE b s ad s' (ad' ++ [a]) (mem' ++ [vs]) := by
  have up : ∀ {v x}, VRs s'.heap ad' v x → VRs s'.heap (ad' ++ [a]) v x := fun h =>
    VRs.keep (W := fun _ => False) (fun a o _ e => e) (fun _ h => h.elim) (Pre.snoc _ _) h
  refine ⟨⟨x.rel.base, fun c hc => ?_, ⟨?_, ?_, fun i l e => ?_⟩, x.rel.tabs⟩, x.pre.trans (Pre.snoc _ _), x.keep, fun c hc => ?_, x.os, x.gens, x.drawn⟩
  · rcases List.mem_append.mp hc with h | h
    · exact x.rel.lowA c h
    · rw [List.mem_singleton.mp h]; exact R.none hs
  · rw [List.length_append, List.length_append, x.rel.hr.len]; rfl
  · rw [List.nodup_append]
    refine ⟨x.rel.hr.nodup, by simp, fun c hc d hd => ?_⟩
    rw [List.mem_singleton.mp hd]
    rintro rfl
    exact ha hc
  · have e' : (mem' ++ [vs])[i]? = some l := e
    by_cases hi : i < mem'.length
    · rw [List.getElem?_append_left hi] at e'
      refine ex2_4 (x.rel.hr.at_ i l e') fun c items h1 h2 h3 h4 => ?_
      exact ⟨c, items, Pre.snoc _ _ i c h1, h2, up h3, h4⟩
    · have hi' : i = mem'.length := by
        have := (List.getElem?_eq_some_iff.mp e').1
        rw [List.length_append, List.length_singleton] at this
        exact ar291 hi this
      subst hi'
      rw [List.getElem?_append_right (Nat.le_refl _), Nat.sub_self] at e'
      cases e'
      refine ⟨a, items, ?_, hl.isList, up hv, fun _ => hl⟩
      rw [← x.rel.hr.len, List.getElem?_append_right (Nat.le_refl _), Nat.sub_self]; rfl
  · rcases List.mem_append.mp hc with h | h
    · exact x.fresh c h
    · exact .inr (by rw [List.mem_singleton.mp h]; exact hs)
theorem relabel_eq {scope : Scope} {env : Env} (hE : EnvOk env sc) : relabel scope env = relabelS scope sc := by
  unfold relabel relabelS
  rw [hE.scope]
  have : ∀ n, env.kindOf n = sc.names.lookup n := fun n => hE.kindOf n
  simp only [this]
theorem relab_kind {scope sc : Scope} (y : Str) (hk : sc.kind = .function) : (relabelS scope sc).names.lookup y = (scope.names.lookup y).map fun k => if (k == .free && sc.names.lookup y == some .cell) then .cell else k := by
  unfold relabelS
  show List.lookup y (scope.names.map _) = _
  induction scope.names with
  | nil => rfl
  | cons p l ih =>
    obtain ⟨n, k⟩ := p
    rw [List.map_cons]
    by_cases hy : y = n
    · subst hy
      rw [hk]
      simp only [List.lookup_cons, beq_self_eq_true, Option.map_some, Bool.and_true]
      by_cases hc : (k == NameKind.free && List.lookup y sc.names == some NameKind.cell) = true
      · rw [if_pos hc, if_pos hc]; simp
      · rw [if_neg hc, if_neg hc]; simp
    · have hy' : (y == n) = false := beq_eq_false_iff_ne.mpr hy
      have e1 : List.lookup y ((n, k) :: l) = List.lookup y l := by rw [List.lookup_cons, hy']
      rw [e1, ← ih]
      show List.lookup y ((if (k == NameKind.free && sc.kind == ScopeKind.function && List.lookup n sc.names == some NameKind.cell) = true then (n, NameKind.cell) else (n, k)) :: List.map _ l) = _
      by_cases hc : (k == NameKind.free && sc.kind == ScopeKind.function && List.lookup n sc.names == some NameKind.cell) = true
      · rw [if_pos hc, List.lookup_cons, hy']
      · rw [if_neg hc, List.lookup_cons, hy']
structure CompOk (scope sc : Scope) (x : Str) : Prop where
  kind : scope.kind = .function
  nocell : ∀ y ∈ scope.names, y.2 ≠ .cell
  locals : ∀ y ∈ scope.names, y.2 = .local → scope.names.lookup y.1 = some .local
  free : ∀ y ∈ scope.names, y.2 = .free → sc.names.lookup y.1 = some .cell
  x : scope.names.lookup x = some .local
  one : (scope.names.filter fun y => y.2 == .free).length ≤ 1
theorem CompOk.of {scope sc : Scope} {x : Str} (h : compOk scope sc x = true) : CompOk scope sc x := by
  unfold compOk at h
  simp only [Bool.and_eq_true, List.all_eq_true, decide_eq_true_eq] at h
  refine ex0_2 h ?_; (try clear h); intro ob6 h4; obtain ⟨⟨h1, h2⟩, h3⟩ := ob6
  refine ⟨eq_of_beq h1, fun y hy => ?_, fun y hy e => ?_, fun y hy e => ?_, eq_of_beq h3, h4⟩
  · have := (h2 y hy).1.1
    simpa using this
  · have := (h2 y hy).1.2
    rw [e] at this; simpa using this
  · have := (h2 y hy).2
    rw [e] at this; simpa using this
theorem CompOk.env {scope : Scope} {x : Str} {env : Env} {C : Addr} (c : CompOk scope sc x) (hE : EnvOk env sc) : closureFor scope env = pure (clos env.cells scope.names []) ∧ EnvOk (compEnvC scope (clos env.cells scope.names []) C env) (relabelS scope sc) ∧
    ∀ y, scope.names.lookup y = some .free → ∃ a, env.cells.lookup y = some a ∧ (clos env.cells scope.names []).lookup y = some a := by
  have hfree : ∀ y ∈ scope.names, y.2 = .free → ∃ a, env.cells.lookup y.1 = some a := fun y hy e => hE.cells y.1 (c.free y hy e)
  have hlk : ∀ y, scope.names.lookup y = some .free → ∃ a, env.cells.lookup y = some a ∧ (clos env.cells scope.names []).lookup y = some a := by
    intro y hy
    have hm := PySem.mem_of_lookup_some hy
    refine ex1_1 (hfree _ hm rfl) fun a ha => ?_
    refine ⟨a, ha, ?_⟩
    refine ex1_1 (clos_has (cells := env.cells) (cs := []) hm) fun d hd => ?_
    have uni : ∀ d, (y, d) ∈ clos env.cells scope.names [] → d = a := by
      intro d hd
      rcases clos_mem hd with h | h
      · cases h
      · have := h.2; simp only at this; rw [this, ha]; rfl
    exact lookup_of_mem (by rw [← uni d hd]; exact hd) uni
  refine ⟨closureFor_clos hfree, ⟨relabel_eq hE, c.kind, hE.globals, hE.builtins, ?_, fun y hy => ?_⟩, hlk⟩
  · have hl := clos_len (cells := env.cells) scope.names []
    have := c.one
    simp only [List.length_nil, Nat.add_zero] at hl
    match h : clos env.cells scope.names [] with
    | [] => exact List.nodup_nil
    | [p] => simp [compEnvC]
    | p :: q :: r => rw [h] at hl; simp only [List.length_cons] at hl; omega
  · rw [relab_kind y hE.kind, Option.map_eq_some_iff] at hy
    refine ex1_2 hy ?_; (try clear hy); intro k h1 h2
    have hm := PySem.mem_of_lookup_some h1
    split at h2
    · rename_i hc
      rw [Bool.and_eq_true] at hc
      have : k = .free := eq_of_beq hc.1
      subst this
      refine ex1_2 (hlk y h1) fun a _ h3 => ?_
      exact ⟨a, h3⟩
    · exact absurd h2 (c.nocell _ hm)
theorem free_lookup {scope : Scope} {y : Str} {u : V} : ∀ {l : Loc}, (l.filter fun z => lkb z.1 scope.names == some .free).lookup y = some u → scope.names.lookup y = some .free ∧ l.lookup y = some u
  | [], h => by cases h
  | (z, t) :: l, h => by
    rw [List.filter_cons] at h
    by_cases hz : y = z
    · subst hz
      by_cases hf : (lkb y scope.names == some NameKind.free) = true
      · rw [if_pos hf] at h
        rw [List.lookup_cons, beq_self_eq_true] at h
        rw [lkb_eq] at hf
        exact ⟨eq_of_beq hf, by rw [List.lookup_cons, beq_self_eq_true]; exact h⟩
      · rw [if_neg hf] at h
        have := free_lookup h
        rw [lkb_eq] at hf
        rw [this.1] at hf
        exact absurd (by simp) hf
    · have hz' : (y == z) = false := beq_eq_false_iff_ne.mpr hz
      have h' : (l.filter fun z => lkb z.1 scope.names == some .free).lookup y = some u := by
        split at h
        · rw [List.lookup_cons, hz'] at h; exact h
        · exact h
      have := free_lookup h'
      exact ⟨this.1, by rw [List.lookup_cons, hz']; exact this.2⟩
theorem comp_lr {scope : Scope} {x : Str} {env : Env} {C : Addr} {s s3 : Shared} {ad : List Addr} {I : Addr} {m3 : Str → Option Value} {u : V} {val : Value} (c : CompOk scope sc x) (hE : EnvOk env sc) (R : RelM b s.heap ad mem) (L : LR b env s.heap ad loc) (f : Fld s.heap I)
    (hC : s.heap.objs.size ≤ C) (hn : s3.heap.Ns C m3) (hx : m3 x = some val) (hu : flatR u val) (hk : ∀ c o, c ≠ I → s.heap.get? c = some o → s3.heap.get? c = some o) (hfl : ∀ y w, (freeL scope loc).lookup y = some w → flat w = true) :
    LR b (compEnvC scope (clos env.cells scope.names []) C env) s3.heap [] ((x, u) :: freeL scope loc) := by
  refine ex0_3 (c.env (C := C) hE) fun h1 h2 h3 => ?_
  have hcell : ∀ a v, s.heap.IsCell a v → s3.heap.IsCell a v := fun a v hv => cell_keep hv fun o e => hk a o (fun h => by rw [h] at hv; exact f.notCell _ hv) e
  have hin : ∀ z c, (z, c) ∈ clos env.cells scope.names [] → (z, c) ∈ env.cells := by
    intro z a h
    rcases clos_mem h with h | ⟨h, e⟩
    · cases h
    · refine ex1_1 (hE.cells z (c.free _ h rfl)) fun d hd => ?_
      simp only at e
      rw [hd] at e
      replace e : a = d := e
      rw [e]
      exact PySem.mem_of_lookup_some hd
  refine ⟨R.none (Heap.get?_none_of_le hC), fun z a h => L.lowC z a (hin z a h), fun z a h => ?_, m3, hn, fun y w hw => ?_⟩
  · refine ex1_1 (L.cell z a (hin z a h)) fun ov hv => ?_
    exact ⟨ov, hcell a ov hv⟩
  · by_cases hy : y = x
    · subst hy
      rw [List.lookup_cons, beq_self_eq_true] at hw
      cases hw
      refine ⟨val, hu.vr, .inl ⟨?_, hx⟩⟩
      rw [h2.kindOf, relab_kind y hE.kind, c.x]; rfl
    · rw [List.lookup_cons, beq_eq_false_iff_ne.mpr hy] at hw
      refine ex0_2 (free_lookup hw) fun e1 e2 => ?_
      refine ex1_2 (h3 y e1) fun a ha ha' => ?_
      refine ex1_2 L.ns fun m hm hl => ?_
      have hcy : sc.names.lookup y = some .cell := c.free _ (PySem.mem_of_lookup_some e1) rfl
      obtain ⟨v2, hv, ⟨h4, _⟩ | ⟨_, a', h4, h5⟩⟩ := hl y w e2
      · rw [hE.kindOf, hcy] at h4; cases h4
      · rw [ha] at h4; cases h4
        refine ⟨v2, (hv.flat (hfl y w hw)).vr, .inr ⟨.inl ?_, a, ha', hcell a _ h5⟩⟩
        rw [h2.kindOf, relab_kind y hE.kind, e1]
        show some (if (NameKind.free == NameKind.free && sc.names.lookup y == some NameKind.cell) = true then NameKind.cell else NameKind.free) = some NameKind.cell
        rw [hcy]; rfl
end Mine
end

section
namespace Mine
variable {b : Base} {w : World} {D : Nat} {sc : Scope} {loc loc' loc1 loc2 : Loc} {mem mem' mem1 mem2 mem3 : Mem} {v : V}
noncomputable def tOf (t : V → Option Bool) (x : Value) : Bool := match decV x with | some u => (t u).getD false | none => false
noncomputable def fOf (f : V → Option V) (x y : Value) : Prop := ∃ u r, decV x = some u ∧ f u = some r ∧ flat r = true ∧ flatR r y
theorem comp_all {t : V → Option Bool} {f : V → Option V} : ∀ {l m : List V}, compGo t f l = some m → ∀ u ∈ l, flat u = true ∧ ∃ c, t u = some c ∧ (c = true → ∃ y, f u = some y ∧ flat y = true)
  | [], m, h, u, hu => by cases hu
  | x :: l, m, h, u, hu => by
    rw [compGo] at h
    obtain ⟨h1, h2⟩ := cond_sn h
    rw [Option.bind_eq_some_iff] at h2
    obtain ⟨c, hc, h2⟩ := h2
    cases c with
    | true =>
      rw [cond_true, Option.bind_eq_some_iff] at h2
      obtain ⟨y, hy, h2⟩ := h2
      obtain ⟨h3, h4⟩ := cond_sn h2
      rw [Option.map_eq_some_iff] at h4
      obtain ⟨m', hm, _⟩ := h4
      rcases List.mem_cons.mp hu with rfl | hu
      · exact ⟨h1, true, hc, fun _ => ⟨y, hy, h3⟩⟩
      · exact comp_all hm u hu
    | false =>
      rw [cond_false] at h2
      rcases List.mem_cons.mp hu with rfl | hu
      · exact ⟨h1, false, hc, fun h => by cases h⟩
      · exact comp_all h2 u hu
theorem comp_pair {h : Heap} {ad : List Addr} {t : V → Option Bool} {f : V → Option V} : ∀ {l m : List V} {vs ys : List Value}, vs.length = l.length → (∀ (j : Nat) (v : Value), vs[j]? = some v → ∃ u, l[j]? = some u ∧ flatR u v) → compGo t f l = some m →
    Paired (fOf f) (vs.filter (tOf t)) ys → VRs h ad m ys
  | [], m, vs, ys, hl, hp, hg, hpair => by
    have : vs = [] := List.eq_nil_of_length_eq_zero hl
    subst this
    cases hg
    cases hpair
    exact .nil
  | x :: l, m, [], ys, hl, hp, hg, hpair => by cases hl
  | x :: l, m, v :: vs, ys, hl, hp, hg, hpair => by
    obtain ⟨u, hu, hr⟩ := hp 0 v rfl
    replace hu : x = u := by simpa using hu
    subst hu
    have hp' : ∀ (j : Nat) (v : Value), vs[j]? = some v → ∃ u, l[j]? = some u ∧ flatR u v := fun j y hy => by
      obtain ⟨u, h1, h2⟩ := hp (j + 1) y (by simpa using hy)
      exact ⟨u, by simpa using h1, h2⟩
    have hl' : vs.length = l.length := by simpa using hl
    rw [compGo] at hg
    obtain ⟨h1, h2⟩ := cond_sn hg
    rw [Option.bind_eq_some_iff] at h2
    obtain ⟨c, hc, h2⟩ := h2
    have et : tOf t v = c := by unfold tOf; rw [decV_of hr]; simp [hc]
    rw [List.filter_cons, et] at hpair
    cases c with
    | true =>
      rw [if_pos rfl] at hpair
      rw [cond_true, Option.bind_eq_some_iff] at h2
      obtain ⟨y, hy, h2⟩ := h2
      obtain ⟨h3, h4⟩ := cond_sn h2
      rw [Option.map_eq_some_iff] at h4
      obtain ⟨m', hm, rfl⟩ := h4
      cases hpair with
      | cons h5 h6 =>
        obtain ⟨u', r, h7, h8, h9, h10⟩ := h5
        rw [decV_of hr] at h7
        cases h7
        rw [hy] at h8
        cases h8
        exact .cons h10.vr (comp_pair hl' hp' hm h6)
    | false =>
      rw [if_neg Bool.false_ne_true] at hpair
      rw [cond_false] at h2
      exact comp_pair hl' hp' h2 hpair
noncomputable def seen (b : Base) (h : Heap) : Heap := hideAll h ((List.range h.objs.size).filter fun a => (b.H.get? a).isNone && !(a == 47 || a == 54))
noncomputable def sup (b : Base) (h : Heap) : Base := ⟨seen b h, b.glob, orcS⟩
theorem seen_sub {h : Heap} {a : Addr} {o : Obj} (e : (seen b h).get? a = some o) : h.get? a = some o := of_hideAll _ e
theorem seen_base {h : Heap} {ad : List Addr} (R : RelM b h ad mem) {a : Addr} {o : Obj} (e : b.H.get? a = some o) : (seen b h).get? a = some o := by
  refine hideAll_get _ (R.base a o e) fun hm => ?_
  rw [List.mem_filter, e] at hm
  simp at hm
theorem seen_none {h : Heap} {a : Addr} (e : b.H.get? a = none) (ha : ¬ (a = 47 ∨ a = 54)) : (seen b h).get? a = none := by
  by_cases hs : a < h.objs.size
  · refine hideAll_none _ ?_
    rw [List.mem_filter]
    refine ⟨List.mem_range.mpr hs, ?_⟩
    rw [e]
    simpa using ha
  · have hz : (seen b h).objs.size = h.objs.size := hideAll_size _ _
    exact Heap.get?_none_of_le (hz ▸ Nat.le_of_not_lt hs)
theorem seen_tb {h : Heap} {ad : List Addr} (R : RelM b h ad mem) (a : Addr) : ¬ tb (sup b h) a := by
  rintro ⟨h1, h2⟩
  replace h2 : (seen b h).get? a = none := h2
  cases e : b.H.get? a with
  | some o => rw [seen_base R e] at h2; cases h2
  | none =>
    obtain ⟨o, ho⟩ := (R.tabs a ⟨h1, e⟩).some
    have : (seen b h).get? a = some o := by
      refine hideAll_get _ ho fun hm => ?_
      rw [List.mem_filter] at hm
      have := hm.2
      rcases h1 with rfl | rfl <;> simp at this
    rw [this] at h2; cases h2
theorem lr_sup {h h3 : Heap} {env : Env} {l : Loc} (T : ∀ a, tb b a → TabAt h3 a) (L : LR b env h3 [] l) : LR (sup b h) env h3 [] l := by
  refine ⟨?_, fun x c hc => ?_, L.cell, L.ns⟩
  · refine seen_none L.low fun ha => ?_
    obtain ⟨m, hm, _⟩ := L.ns
    exact (T _ ⟨ha, L.low⟩).notNs m hm
  · refine seen_none (L.lowC x c hc) fun ha => ?_
    obtain ⟨ov, hv⟩ := L.cell x c hc
    exact (T _ ⟨ha, L.lowC x c hc⟩).notCell _ hv
theorem keeps_of (hb : ∀ a, ¬ tb b a) {s s' : Shared} {ad' : List Addr} (o : OutE b s [] s' ad' mem') : Keeps s s' := by
  refine ⟨s'.heap, s'.toks, ?_, fun c ob e => o.keep c ob (fun h => h.elim (fun h => nomatch h) (hb c)) e⟩
  have h1 := o.os
  have h2 := o.gens
  have h3 := o.drawn
  cases s; cases s'
  simp only at h1 h2 h3
  subst h1 h2 h3
  rfl
theorem folded_plain {e : PySem.Expr} (h : isSet e = false) {env : Env} (x : Value) : foldedSetIterable e env x = pure x := by
  cases e <;> first | rfl | cases h
theorem quiet_ok {A : Around} {env : Env} {s2 : Shared} {ad2 : List Addr} {I : Addr} {P : Nat → Value → Prop} {elt : PySem.Expr} {x : Str} {ifs : List PySem.Expr} {scope : Scope} {k : Wk} {l : List V} (c : CompOk scope sc x) (hfl : ∀ y w, (freeL scope loc).lookup y = some w → flat w = true)
    (t : V → Option Bool) (f : V → Option V)
    (hT : (ifs = [] ∧ ∀ u, t u = some true) ∨ ∃ e, ifs = [e] ∧ ∀ H', (∀ a o, b.H.get? a = some o → H'.get? a = some o) → ∀ u cc, t u = some cc → ST ⟨H', b.glob, orcS⟩ w D (relabelS scope sc) e ((x, u) :: freeL scope loc) [] cc [])
    (hF : ∀ H', (∀ a o, b.H.get? a = some o → H'.get? a = some o) → ∀ u y, f u = some y → SE ⟨H', b.glob, orcS⟩ w D (relabelS scope sc) elt ((x, u) :: freeL scope loc) [] y [])
    (hall : ∀ u ∈ l, flat u = true ∧ ∃ c, t u = some c ∧ (c = true → ∃ y, f u = some y ∧ flat y = true))
    (hA : AOk A D) (hE : EnvOk env sc) (R2 : RelM b s2.heap ad2 mem) (L2 : LR b env s2.heap ad2 loc) (hW : WkR s2.heap ad2 I k) (hbI : b.H.get? I = none) (hP : ∀ i x, P i x → ∃ u, l[i]? = some u ∧ flatR u x) :
    QuietOnC pz w A env scope (clos env.cells scope.names []) x ifs elt [I] P (tOf t) (fOf f) s2 := by
  have hR3 : ∀ s3 : Shared, (∀ b o, b ∉ [I] → s2.heap.get? b = some o → s3.heap.get? b = some o) → RelM (sup b s2.heap) s3.heap [] [] := fun s3 hk =>
    ⟨fun a o e => hk a o (fun h => by
      have hI : (seen b s2.heap).get? I = none := seen_none hbI fun ha => hW.fld.notTab (R2.tabs I ⟨ha, hbI⟩)
      replace e : (seen b s2.heap).get? a = some o := e
      rw [List.mem_singleton.mp h, hI] at e; cases e) (seen_sub e), (fun a h => nomatch h), ⟨rfl, List.nodup_nil, fun i l e => by simp at e⟩, fun a ha => absurd ha (seen_tb R2 a)⟩
  have hT3 : ∀ s3 : Shared, (∀ b o, b ∉ [I] → s2.heap.get? b = some o → s3.heap.get? b = some o) → ∀ a, tb b a → TabAt s3.heap a := fun s3 hk a ha =>
    (R2.tabs a ha).but (W := (· = I)) (fun c o hc e => hk c o (fun h => hc (List.mem_singleton.mp h)) e) fun c hc => by rw [hc]; exact hW.fld.notF
  refine ⟨?_, ?_⟩
  · intro C i v s3 m3 E' hC hPi hn hx hk htok
    obtain ⟨u, hu, hr⟩ := hP i v hPi
    obtain ⟨_, cc, hcc, _⟩ := hall u (List.mem_of_getElem? hu)
    have et : tOf t v = cc := by unfold tOf; rw [decV_of hr]; simp [hcc]
    have L3 := comp_lr c hE R2 L2 hW.fld hC hn hx hr (fun c o hc e => hk c o (fun h => hc (List.mem_singleton.mp h)) e) hfl
    rw [et]
    rcases hT with ⟨rfl, ht⟩ | ⟨e, rfl, he⟩
    · rw [List.forIn_nil]
      rw [ht u] at hcc
      cases hcc
      exact wpAny_pure ⟨rfl, s3.heap, s3.toks, rfl, fun _ _ e => e⟩
    · rw [List.forIn_cons, if_pos rfl]
      refine wpAny_bind (wpAny_bind (he _ (fun a o e => seen_base R2 e) u cc hcc hA (c.env (C := C) hE).2.1 (hR3 s3 hk) (lr_sup (hT3 s3 hk) L3) fun s4 ad4 o4 => wpAny_pure ?_))
      show wpAny _ _ (forIn [] cc _) _ _ _
      rw [List.forIn_nil]
      exact wpAny_pure ⟨rfl, keeps_of (seen_tb R2) o4⟩
  · intro C i v s3 m3 E' hC hPi hpv hn hx hk htok
    obtain ⟨u, hu, hr⟩ := hP i v hPi
    obtain ⟨_, cc, hcc, hy⟩ := hall u (List.mem_of_getElem? hu)
    have et : tOf t v = cc := by unfold tOf; rw [decV_of hr]; simp [hcc]
    rw [et] at hpv
    obtain ⟨y, hy1, hy2⟩ := hy hpv
    have L3 := comp_lr c hE R2 L2 hW.fld hC hn hx hr (fun c o hc e => hk c o (fun h => hc (List.mem_singleton.mp h)) e) hfl
    exact hF _ (fun a o e => seen_base R2 e) u y hy1 hA (c.env (C := C) hE).2.1 (hR3 s3 hk) (lr_sup (hT3 s3 hk) L3) fun s4 ad4 y4 o4 r4 => ⟨⟨u, y, decV_of hr, hy1, hy2, r4.flat hy2⟩, keeps_of (seen_tb R2) o4⟩
theorem SE_comp {elt it : PySem.Expr} {x : Str} {px pos : Pos} {ifs : List PySem.Expr} {scope : Scope} {k : Wk} {l m : List V} (c : CompOk scope sc x) (hset : isSet it = false) (hfl : ∀ y w, (freeL scope loc).lookup y = some w → flat w = true)
    (hi : SI b w D sc it loc mem k mem1) (hit : itemsOf mem1 k = some l) (hl : lit l.length = true) (t : V → Option Bool) (f : V → Option V)
    (hT : (ifs = [] ∧ ∀ u, t u = some true) ∨ ∃ e, ifs = [e] ∧ ∀ H', (∀ a o, b.H.get? a = some o → H'.get? a = some o) → ∀ u cc, t u = some cc → ST ⟨H', b.glob, orcS⟩ w D (relabelS scope sc) e ((x, u) :: freeL scope loc) [] cc [])
    (hF : ∀ H', (∀ a o, b.H.get? a = some o → H'.get? a = some o) → ∀ u y, f u = some y → SE ⟨H', b.glob, orcS⟩ w D (relabelS scope sc) elt ((x, u) :: freeL scope loc) [] y []) (hg : compGo t f l = some m) :
    SE b w D sc (.ListComp elt [⟨.Name x px, it, ifs, 0⟩] scope pos) loc mem (.list mem1.length) (mem1 ++ [m]) := by
  intro A env s ad hA hE R L Q E K
  have hall := comp_all hg
  refine wpAny_ListComp_free (tOf t) (fOf f) (c.env (C := 0) hE).1 c.nocell c.kind c.locals c.x (hi hA hE R L fun s2 ad2 I o2 hfr hW => ?_) (folded_plain hset)
  obtain ⟨fp, P, St, W, hst, hfp, hP⟩ := walks_of hA o2.rel hW hit fun u hu => (hall u hu).1
  have hbI : b.H.get? I = none := R.none hfr
  have hL2 := L.out R o2
  refine ⟨I, fp, [I], l.length, P, St, rfl, W, lit_size hl, hst, hfp, quiet_ok c hfl t f hT hF hall hA hE o2.rel hL2 hW hbI hP, ?_⟩
  · intro Dd h' tk ys vs hD hl1 hp1 hlen hPv hpair hkeep
    have T : Touch s2 { s2 with heap := h', toks := tk } I := ⟨⟨rfl, rfl, rfl⟩, fun c o hc e => hkeep c o (fun h => hc (List.mem_singleton.mp h)) e⟩
    have oT := touchE o2 T hW.fld hbI hfr
    have hnot : Dd ∉ ad2 := fun hm => by
      obtain ⟨its, o, ho, _⟩ := o2.rel.hr.isList Dd hm
      rw [hD] at ho; cases ho
    refine K _ _ _ (joinE R oT (o2.none R hD) hnot hp1 (comp_pair hlen (fun j v hv => hP j v (hPv j v hv)) hg hpair)) (.list (list_last oT.rel.hr))
theorem relW {h h' : Heap} {ad : List Addr} {W : Addr → Prop} (R : RelM b h ad mem) (hk : ∀ c o, ¬ W c → h.get? c = some o → h'.get? c = some o) (h1 : ∀ c, W c → c ∉ ad) (h2 : ∀ c, W c → ∀ its, ¬ h.IsTuple c its) (h3 : ∀ c, W c → b.H.get? c = none) (h4 : ∀ c, W c → NotF h c) : RelM b h' ad mem where
  base := fun a o e => hk a o (fun h => by rw [h3 a h] at e; cases e) (R.base a o e)
  lowA := R.lowA
  hr := ⟨R.hr.len, R.hr.nodup, fun i l e => by
    obtain ⟨a, items, ha, hl, hv, hp⟩ := R.hr.at_ i l e
    have hne : ¬ W a := fun h => h1 a h (List.mem_of_getElem? ha)
    exact ⟨a, items, ha, list_keep hl fun o e => hk a o hne e, VRs.keep (W := W) hk h2 (Pre.refl _) hv, fun h0 => (hp h0).at fun o e => hk a o hne e⟩⟩
  tabs := fun a ha => (R.tabs a ha).but hk h4
theorem relJoin {h : Heap} {ad : List Addr} {a : Addr} {items : Array Value} {vs : List V} (R : RelM b h ad mem) (hb : b.H.get? a = none) (ha : a ∉ ad) (hl : h.PlainList a items) (hv : VRs h ad vs items.toList) : RelM b h (ad ++ [a]) (mem ++ [vs]) := by
  have up : ∀ {v x}, VRs h ad v x → VRs h (ad ++ [a]) v x := fun h =>
    VRs.keep (W := fun _ => False) (fun a o _ e => e) (fun _ h => h.elim) (Pre.snoc _ _) h
  refine ⟨R.base, fun c hc => ?_, ⟨?_, ?_, fun i l e => ?_⟩, R.tabs⟩
  · rcases List.mem_append.mp hc with h | h
    · exact R.lowA c h
    · rw [List.mem_singleton.mp h]; exact hb
  · rw [List.length_append, List.length_append, R.hr.len]; rfl
  · rw [List.nodup_append]
    refine ⟨R.hr.nodup, by simp, fun c hc d hd => ?_⟩
    rw [List.mem_singleton.mp hd]
    rintro rfl
    exact ha hc
  · have e' : (mem ++ [vs])[i]? = some l := e
    by_cases hi : i < mem.length
    · rw [List.getElem?_append_left hi] at e'
      obtain ⟨c, items, h1, h2, h3, h4⟩ := R.hr.at_ i l e'
      exact ⟨c, items, Pre.snoc _ _ i c h1, h2, up h3, h4⟩
    · have hi' : i = mem.length := by
        have := (List.getElem?_eq_some_iff.mp e').1
        rw [List.length_append, List.length_singleton] at this
        exact ar291 hi this
      subst hi'
      rw [List.getElem?_append_right (Nat.le_refl _), Nat.sub_self] at e'
      cases e'
      refine ⟨a, items, ?_, hl.isList, up hv, fun _ => hl⟩
      rw [← R.hr.len, List.getElem?_append_right (Nat.le_refl _), Nat.sub_self]; rfl
theorem SS_assignC {elt it : PySem.Expr} {x y : Str} {px py pos spos : Pos} {ifs : List PySem.Expr} {scope : Scope} {k : Wk} {l m : List V} (c : CompOk scope sc x) (hset : isSet it = false) (hfl : ∀ y w, (freeL scope loc).lookup y = some w → flat w = true)
    (hline : (py.line == pos.line) = true) (hy : sc.names.lookup y = some .local) (hny : (scope.names.any fun (n, k) => n == y && (k == .local || k == .cell)) = false)
    (hi : SI b w D sc it loc mem k mem1) (hit : itemsOf mem1 k = some l) (hl : lit l.length = true) (t : V → Option Bool) (f : V → Option V)
    (hT : (ifs = [] ∧ ∀ u, t u = some true) ∨ ∃ e, ifs = [e] ∧ ∀ H', (∀ a o, b.H.get? a = some o → H'.get? a = some o) → ∀ u cc, t u = some cc → ST ⟨H', b.glob, orcS⟩ w D (relabelS scope sc) e ((x, u) :: freeL scope loc) [] cc [])
    (hF : ∀ H', (∀ a o, b.H.get? a = some o → H'.get? a = some o) → ∀ u y, f u = some y → SE ⟨H', b.glob, orcS⟩ w D (relabelS scope sc) elt ((x, u) :: freeL scope loc) [] y []) (hg : compGo t f l = some m) :
    SS b w D sc (.Assign [.Name y py] (.ListComp elt [⟨.Name x px, it, ifs, 0⟩] scope pos) spos) loc mem .next (putL y (.list mem1.length) loc) (mem1 ++ [m]) := by
  intro A env s ad Q E hA hE R L K
  have hall := comp_all hg
  have hky : env.kindOf y = some .local := (hE.kindOf y).trans hy
  have hkind : env.scope.kind = .function := by rw [hE.scope]; exact hE.kind
  have hb : env.blockKind = .function := by unfold Env.blockKind; rw [hkind]; rfl
  have hsw : swapsWith (.ListComp elt [⟨.Name x px, it, ifs, 0⟩] scope pos) (some (.Name y py)) spos.line env = pure true := by
    show (pure (env.blockKind == .function && env.kindOf y == some .local && py.line == pos.line && !(scope.names.any fun (n, k) => n == y && (k == .local || k == .cell))) : Sem Bool) = pure true
    rw [hb, hky, hline, hny]; rfl
  refine wpAny_Assign_ListComp_free (tOf t) (fOf f) hsw (c.env (C := 0) hE).1 c.nocell c.kind c.locals c.x hky (by rw [hkind]; rfl) (hi hA hE R L fun s2 ad2 I o2 hfr hW => ?_) (folded_plain hset)
  obtain ⟨fp, P, St, W, hst, hfp, hP⟩ := walks_of hA o2.rel hW hit fun u hu => (hall u hu).1
  have hbI : b.H.get? I = none := R.none hfr
  have hL2 := L.out R o2
  obtain ⟨mm, hmm, hll⟩ := hL2.ns
  have hIl : env.locals ≠ I := fun h => hW.fld.notNs mm (h ▸ hmm)
  refine ⟨I, fp, [I], l.length, P, St, mm, rfl, W, lit_size hl, hst, hfp, (fun h => hIl (List.mem_singleton.mp h)), hmm, quiet_ok c hfl t f hT hF hall hA hE o2.rel hL2 hW hbI hP, ?_⟩
  intro Dd h' tk ys vs hD hl1 hp1 hlen hPv hpair hns hkeep
  have hk : ∀ c o, ¬ (c = I ∨ c = env.locals) → s2.heap.get? c = some o → h'.get? c = some o := fun c o hc e => hkeep c o (fun h => hc (.inr h)) (fun h => hc (.inl (List.mem_singleton.mp h))) e
  have hnot : Dd ∉ ad2 := fun hm => by
    obtain ⟨its, o, ho, _⟩ := o2.rel.hr.isList Dd hm
    rw [hD] at ho; cases ho
  have hWt : ∀ c, (c = I ∨ c = env.locals) → ∀ its, ¬ s2.heap.IsTuple c its := by
    rintro c (rfl | rfl)
    · exact hW.fld.notTuple
    · exact not_tuple_of_ns hmm
  have R1 : RelM b h' ad2 mem1 := relW o2.rel hk (by
    rintro c (rfl | rfl) hm
    · obtain ⟨its, hl⟩ := o2.rel.hr.isList c hm; exact hW.fld.notList _ hl
    · obtain ⟨its, hl⟩ := o2.rel.hr.isList _ hm; exact list_ne_ns hl hmm rfl) hWt (by
    rintro c (rfl | rfl)
    · exact hbI
    · exact L.low) (by
    rintro c (rfl | rfl)
    · exact hW.fld.notF
    · exact NotF.ns hmm)
  have hsD : s.heap.get? Dd = none := o2.none R hD
  have R2 := relJoin R1 (R.none hsD) hnot hp1 (comp_pair hlen (fun j v hv => hP j v (hPv j v hv)) hg hpair)
  have up : ∀ {v x}, VR s2.heap ad2 v x → VR h' (ad2 ++ [Dd]) v x := fun hv => VR.keep (W := fun c => c = I ∨ c = env.locals) hk hWt (Pre.snoc _ _) hv
  have hcell : ∀ a v, s2.heap.IsCell a v → h'.IsCell a v := fun a v hv => cell_keep hv fun o e => hk a o (by
    rintro (rfl | rfl)
    · exact hW.fld.notCell _ hv
    · exact ns_ne_cell hmm hv rfl) e
  refine K _ (ad2 ++ [Dd]) _ ⟨R2, ⟨L.low, L.lowC, fun z a h => ?_, _, hns, fun z u hz => ?_⟩, o2.pre.trans (Pre.snoc _ _), fun a o ha e => ?_, fun a ha => ?_, o2.os, o2.gens, o2.drawn⟩ rfl
  · obtain ⟨ov, hv⟩ := hL2.cell z a h
    exact ⟨ov, hcell a ov hv⟩
  · rw [putL_lookup] at hz
    by_cases hzy : z = y
    · subst hzy
      rw [if_pos rfl] at hz
      cases hz
      exact ⟨.ref Dd, .list (list_last o2.rel.hr), .inl ⟨hky, by show (if z = z then some (Value.ref Dd) else mm z) = _; rw [if_pos rfl]⟩⟩
    · rw [if_neg hzy] at hz
      obtain ⟨v2, h1, ⟨h2, h3⟩ | ⟨h2, a, h3, h4⟩⟩ := hll z u hz
      · exact ⟨v2, up h1, .inl ⟨h2, by show (if z = y then some (Value.ref Dd) else mm z) = _; rw [if_neg hzy]; exact h3⟩⟩
      · exact ⟨v2, up h1, .inr ⟨h2, a, h3, hcell a _ h4⟩⟩
  · refine hk a o ?_ (o2.keep a o (fun h => ha (.inr h)) e)
    rintro (rfl | rfl)
    · rw [hfr] at e; cases e
    · exact ha (.inl (.inl rfl))
  · rcases List.mem_append.mp ha with h | h
    · exact o2.fresh a h
    · exact .inr (by rw [List.mem_singleton.mp h]; exact hsD)
end Mine
end

section
namespace Mine
variable {b : Base} {w : World} {D : Nat} {sc : Scope} {loc loc' loc1 loc2 : Loc} {mem mem' mem1 mem2 mem3 : Mem} {v : V} {r : Rec}
structure Snd (b : Base) (w : World) (D : Nat) (r : Rec) : Prop where
  E : ∀ {sc e loc mem v mem'}, r.E sc e loc mem = some (v, mem') → SE b w D sc e loc mem v mem'
  Es : ∀ {sc es loc mem vs mem'}, r.Es sc es loc mem = some (vs, mem') → SEs b w D sc es loc mem vs mem'
  T : ∀ {sc e loc mem c mem'}, r.T sc e loc mem = some (c, mem') → ST b w D sc e loc mem c mem'
  I : ∀ {sc e loc mem k mem'}, r.I sc e loc mem = some (k, mem') → SI b w D sc e loc mem k mem'
  S : ∀ {sc st loc mem c loc' mem'}, r.S sc st loc mem = some (c, loc', mem') → SS b w D sc st loc mem c loc' mem'
  Ss : ∀ {sc st loc mem c loc' mem'}, r.Ss sc st loc mem = some (c, loc', mem') → SSs b w D sc st loc mem c loc' mem'
  W : ∀ {sc t body loc mem c loc' mem'}, r.W sc t body loc mem = some (c, loc', mem') → SW b w D sc t body loc mem c loc' mem'
  F : ∀ {sc x k body loc mem c loc' mem'}, r.F sc x k body loc mem = some (c, loc', mem') → SF b w D sc x k body loc mem c loc' mem'
noncomputable def OrcFn (b : Base) : Prop := ∀ f vs mem r, b.orc f vs mem = some r → ∃ o fd, b.H.get? f = some o ∧ o.data = .func fd
theorem bind2 {α β : Type} {x : Option α} {f : α → Option β} {r : β} (h : x.bind f = some r) : ∃ a, x = some a ∧ f a = some r := Option.bind_eq_some_iff.mp h
theorem map2 {α β : Type} {x : Option α} {f : α → β} {r : β} (h : x.map f = some r) : ∃ a, x = some a ∧ f a = r := Option.map_eq_some_iff.mp h
theorem noMem_some {α : Type} {x : Option (α × Mem)} {a : α} (h : noMem x = some a) : x = some (a, []) := by
  obtain _ | ⟨u, m⟩ := x
  · exact nE h
  · induction m using List.casesOn with
    | nil => exact sE1 (C := fun a => some (u, []) = some (a, [])) h rfl
    | cons _ _ => exact nE h
theorem isSlice_inv {i : PySem.Expr} (h : isSlice i = true) : ∃ a b c d, i = .Slice a b c d := by
  induction i using PySem.Expr.casesOn with
  | Slice a b c d => exact ⟨a, b, c, d, rfl⟩
  | _ => exact absurd h Bool.false_ne_true
theorem sub_ns {r rS : Rec} {e i p} (h : isSlice i = false) : stepE b r rS sc (.Subscript e i p) loc mem = (r.E sc e loc mem).bind fun p => (r.E sc i loc p.2).bind fun q => (idxV p.1 q.1 q.2).map fun v => (v, q.2) := by
  induction i using PySem.Expr.casesOn with
  | Slice a b c d => exact absurd h.symm Bool.false_ne_true
  | _ => rfl
noncomputable def SubB (b : Base) (H' : Heap) : Prop := ∀ a o, b.H.get? a = some o → H'.get? a = some o
noncomputable def Zs (b : Base) (w : World) (D : Nat) (rS : Rec) : Prop := ∀ H', (∀ a o, b.H.get? a = some o → H'.get? a = some o) → Snd ⟨H', b.glob, orcS⟩ w D rS
variable {rS : Rec}
theorem tests_ok (Z : Zs b w D rS) {scope : Scope} {x : Str} : ∀ {ifs : List PySem.Expr}, ifs.length ≤ 1 → (ifs = [] ∧ ∀ u, testsGo rS (relabelS scope sc) ((x, u) :: freeL scope loc) ifs = some true) ∨
    ∃ e, ifs = [e] ∧ ∀ H', (∀ a o, b.H.get? a = some o → H'.get? a = some o) → ∀ u cc, testsGo rS (relabelS scope sc) ((x, u) :: freeL scope loc) ifs = some cc → ST ⟨H', b.glob, orcS⟩ w D (relabelS scope sc) e ((x, u) :: freeL scope loc) [] cc []
  | [], _ => .inl ⟨rfl, fun u => rfl⟩
  | [t], _ => .inr ⟨t, rfl, fun H' hH u cc hu => (Z H' hH).T (noMem_some hu)⟩
  | _ :: _ :: l, h => by simp only [List.length_cons] at h; omega
theorem mSE {α : Type} {e} {x : Option α} {f : α → V × Mem} (h : x.map f = some (v, mem')) (k : ∀ u, x = some u → SE b w D sc e loc mem (f u).1 (f u).2) : SE b w D sc e loc mem v mem' := mE2 (C := fun v m => SE b w D sc e loc mem v m) h k
theorem sSE {e u} (h : some (u, mem1) = some (v, mem')) (k : SE b w D sc e loc mem u mem1) : SE b w D sc e loc mem v mem' := sE2 (C := fun v m => SE b w D sc e loc mem v m) h k
theorem sSEs {es us vs} (h : some (us, mem1) = some (vs, mem')) (k : SEs b w D sc es loc mem us mem1) : SEs b w D sc es loc mem vs mem' := sE2 (C := fun v m => SEs b w D sc es loc mem v m) h k
theorem mSEs {es vs} {x : Option (List V × Mem)} {f : List V × Mem → List V × Mem} (h : x.map f = some (vs, mem')) (k : ∀ us m, x = some (us, m) → SEs b w D sc es loc mem (f (us, m)).1 (f (us, m)).2) : SEs b w D sc es loc mem vs mem' := mE22 (C := fun v m => SEs b w D sc es loc mem v m) h k
theorem mST {α : Type} {e c} {x : Option α} {f : α → Bool × Mem} (h : x.map f = some (c, mem')) (k : ∀ u, x = some u → ST b w D sc e loc mem (f u).1 (f u).2) : ST b w D sc e loc mem c mem' := mE2 (C := fun v m => ST b w D sc e loc mem v m) h k
theorem sST {e c d} (h : some (d, mem1) = some (c, mem')) (k : ST b w D sc e loc mem d mem1) : ST b w D sc e loc mem c mem' := sE2 (C := fun v m => ST b w D sc e loc mem v m) h k
theorem mSS {α : Type} {st c} {x : Option α} {f : α → Ctl × Loc × Mem} (h : x.map f = some (c, loc', mem')) (k : ∀ u, x = some u → SS b w D sc st loc mem (f u).1 (f u).2.1 (f u).2.2) : SS b w D sc st loc mem c loc' mem' := mE3 (C := fun c l m => SS b w D sc st loc mem c l m) h k
theorem sSS {st c d} (h : some (d, loc1, mem1) = some (c, loc', mem')) (k : SS b w D sc st loc mem d loc1 mem1) : SS b w D sc st loc mem c loc' mem' := sE3 (C := fun c l m => SS b w D sc st loc mem c l m) h k
theorem sSSs {ss c d} (h : some (d, loc1, mem1) = some (c, loc', mem')) (k : SSs b w D sc ss loc mem d loc1 mem1) : SSs b w D sc ss loc mem c loc' mem' := sE3 (C := fun c l m => SSs b w D sc ss loc mem c l m) h k
theorem snd_call (B : BaseOk b) (O : OrcOk b w D) (Fn : OrcFn b) (S : Snd b w D r) {f args pos} (h : stepE b r rS sc (.Call f args [] pos) loc mem = some (v, mem')) : SE b w D sc (.Call f args [] pos) loc mem v mem' := by
  apply Classical.byContradiction
  intro hn
  induction f using PySem.Expr.casesOn with
  | Name x p => induction args using List.casesOn with
    | nil => exact nE h
    | cons a as =>
      refine bE h ?_; clear h; intro g h1 h3
      refine bE2 h3 ?_; clear h3; intro vs m1 h2 h4
      refine kE h4 ?_; clear h4; intro hp h
      induction g using Mine.V.casesOn with
      | ref ad => exact hn <| SE_callF B (a2 hp fun h _ => h) h1 (S.Es h2) (O _ _ _ _ _ h) (Fn _ _ _ _ h)
      | blt id => exact hn <| SE_callB B hp h1 (S.Es h2) (bltV_ok h)
      | _ => exact nE h
  | Attribute o name ap =>
    refine kE h ?_; clear h; intro hp h; refine bE2 h ?_; clear h; intro x m1 h1 h; refine bE2 h ?_; clear h; intro vs m2 h2 h; refine a2 hp ?_; clear hp; intro hp hp4; refine a2 hp ?_; clear hp; intro hp hp3; refine a2 hp ?_; clear hp; intro hp1 hp2
    refine ex2_1 (methV_ok (b := b) (w := w) (D := D) h) fun T id M => ?_
    exact hn <| SE_meth (nT hp1) hp4 (of_decide_eq_true hp3) hp2 (S.E h1) (S.Es h2) M
  | _ => exact nE h
theorem snd_comp (S : Snd b w D r) (Z : Zs b w D rS) {elt gs scope pos} (h : stepE b r rS sc (.ListComp elt gs scope pos) loc mem = some (v, mem')) : SE b w D sc (.ListComp elt gs scope pos) loc mem v mem' := by
  apply Classical.byContradiction
  intro hn
  obtain _ | ⟨⟨t, it, ifs, ia⟩, _ | ⟨_, _⟩⟩ := gs
  · exact nE h
  · induction t using PySem.Expr.casesOn with
    | Name x p =>
      obtain (_ | n) | _ := ia
      · refine kE h ?_; clear h; intro hp h; refine bE2 h ?_; clear h; intro k m1 h1 h; refine bE h ?_; clear h; intro l h2 h; refine kE h ?_; clear h; intro h3 h; refine mE h ?_; clear h; intro m h4 h5; refine a2 hp ?_; clear hp; intro hp hp4; refine a2 hp ?_; clear hp; intro hp hp3; refine a2 hp ?_; clear hp; intro hp1 hp2
        exact hn <| sSE (congrArg some h5) (SE_comp (CompOk.of hp2) (nT hp3) (fun y w hy => List.all_eq_true.mp hp4 _ (PySem.mem_of_lookup_some hy)) (S.I h1) h2 h3 _ _ (tests_ok Z (of_decide_eq_true hp1)) (fun H' hH u y hu => (Z H' hH).E (noMem_some hu)) h4)
      · exact nE h
      · exact nE h
    | _ => exact nE h
  · induction t using PySem.Expr.casesOn with
    | Name x p => obtain (_ | n) | _ := ia <;> exact nE h
    | _ => exact nE h
theorem snd_sub (S : Snd b w D r) {e i pos} (h : stepE b r rS sc (.Subscript e i pos) loc mem = some (v, mem')) : SE b w D sc (.Subscript e i pos) loc mem v mem' := by
  apply Classical.byContradiction
  intro hn
  cases hi : isSlice i with
  | false => exact bE2 ((sub_ns hi).symm.trans h) fun x m1 h1 h => bE2 h fun q m2 h2 h => hn <| mSE h fun u h3 => SE_idx hi (S.E h1) (S.E h2) h3
  | true =>
    refine ex4_1 (isSlice_inv hi) fun lo up st p ob1 => ?_; subst ob1
    refine bE2 h ?_; clear h; intro x m1 h1 h
    induction st using Option.casesOn with
    | some _ => exact nE h
    | none => induction lo using Option.casesOn with
      | some l => induction up using Option.casesOn with
        | some _ => exact nE h
        | none => exact bE2 h fun q m2 h2 h => bE h fun k h3 h => hn <| cutE (C := fun q k => r.E sc l loc m1 = some (q, m2) → sliV x k none m2 = some (v, mem') → SE b w D sc (.Subscript e (.Slice (some l) none none p) pos) loc mem v mem') h3 (fun i h2 h => SE_sliL (S.E h1) (S.E h2) h) h2 h
      | none => induction up using Option.casesOn with
        | none => exact nE h
        | some l => exact bE2 h fun q m2 h2 h => bE h fun k h3 h => hn <| cutE (C := fun q k => r.E sc l loc m1 = some (q, m2) → sliV x none k m2 = some (v, mem') → SE b w D sc (.Subscript e (.Slice none (some l) none p) pos) loc mem v mem') h3 (fun i h2 h => SE_sliU (S.E h1) (S.E h2) h) h2 h
theorem snd_E (B : BaseOk b) (O : OrcOk b w D) (Fn : OrcFn b) (S : Snd b w D r) (Z : Zs b w D rS) {e} (h : stepE b r rS sc e loc mem = some (v, mem')) : SE b w D sc e loc mem v mem' := by
  apply Classical.byContradiction
  intro hn
  induction e using PySem.Expr.casesOn with
  | Constant c k p => exact hn <| mSE h fun u h1 => SE_const h1
  | Name x p => exact hn <| mSE h fun u h1 => SE_name B h1
  | BinOp l op x p => exact bE2 h fun u m1 h1 h => bE2 h fun y m2 h2 h => hn <| SE_bin (S.E h1) (S.E h2) h
  | UnaryOp op x p => exact bE2 h fun u m1 h1 h => hn <| mSE h fun _ h2 => SE_un (S.E h1) h2
  | IfExp t x y p => exact bE2 h fun c m1 h1 h => hn <| SE_if (S.T h1) (fun hc => S.E (by subst hc; exact h)) (fun hc => S.E (by subst hc; exact h))
  | Tuple es k p => exact bE2 h fun vs m1 h1 h => kE h fun h2 h => hn <| sSE h (SE_tuple (S.Es h1) h2)
  | List es p => exact bE2 h fun vs m1 h1 h => kE h fun h2 h => hn <| sSE h (SE_list (S.Es h1) h2)
  | Subscript e i p => exact hn <| snd_sub S h
  | Call f args kws p => induction kws using List.casesOn with
    | nil => exact hn <| snd_call B O Fn S h
    | cons _ _ => exact nE h
  | ListComp elt gs scope p => exact hn <| snd_comp S Z h
  | _ => exact nE h
theorem snd_Es (S : Snd b w D r) {es vs} (h : stepEs r sc es loc mem = some (vs, mem')) : SEs b w D sc es loc mem vs mem' := by
  apply Classical.byContradiction
  intro hn
  induction es using List.casesOn with
  | nil => exact hn <| sSEs h SEs_nil
  | cons e es => exact kE h fun hp h => bE2 h fun x m1 h1 h => hn <| mSEs h fun ys m2 h2 => SEs_cons hp (S.E h1) (S.Es h2)
theorem snd_cmp (S : Snd b w D r) {l ops xs p c} (h : stepT r sc (.Compare l ops xs p) loc mem = some (c, mem')) : ST b w D sc (.Compare l ops xs p) loc mem c mem' := by
  apply Classical.byContradiction
  intro hn
  obtain _ | ⟨o1, _ | ⟨o2, _ | ⟨o3, ops⟩⟩⟩ := ops
  · exact nE h
  · obtain _ | ⟨x, _ | ⟨y, xs⟩⟩ := xs
    · exact nE h
    · exact kE' h fun hm h => bE2 h fun u m1 h1 h => bE2 h fun v m2 h2 h => hn <| mST h fun c h3 => ST_cmp hm (S.E h1) (S.E h2) h3
    · exact nE h
  · obtain _ | ⟨x, _ | ⟨y, _ | ⟨z, xs⟩⟩⟩ := xs
    · exact nE h
    · exact nE h
    · refine kE' h ?_; clear h; intro hm h; refine bE2 h ?_; clear h; intro u m1 h1 h; refine bE2 h ?_; clear h; intro v m2 h2 h; refine bE h ?_; clear h; intro c h3 h
      induction c using Bool.casesOn with
      | false => exact hn <| sST h (ST_chain (z := .none) hm (S.E h1) (S.E h2) h3 (fun h => nomatch h) fun _ => ⟨rfl, rfl⟩)
      | true => exact bE2 h fun z m3 h4 h => hn <| mST h fun d h5 => ST_chain hm (S.E h1) (S.E h2) h3 (fun _ => ⟨S.E h4, h5⟩) fun h => nomatch h
    · exact nE h
  · obtain _ | ⟨x, _ | ⟨y, _ | ⟨z, xs⟩⟩⟩ := xs <;> exact nE h
theorem snd_bool (S : Snd b w D r) {op xs p c} (h : stepT r sc (.BoolOp op xs p) loc mem = some (c, mem')) : ST b w D sc (.BoolOp op xs p) loc mem c mem' := by
  apply Classical.byContradiction
  intro hn
  obtain _ | ⟨x, _ | ⟨y, _ | ⟨z, xs⟩⟩⟩ := xs
  · cases op <;> exact nE h
  · cases op <;> exact nE h
  · induction op using PySem.BoolOp.casesOn with
    | And =>
      refine bE2 h ?_; clear h; intro u m1 h1 h
      induction u using Bool.casesOn with
      | true => exact hn <| ST_and (S.T h1) (fun _ => S.T h) fun h => nomatch h
      | false => exact hn <| sST h (ST_and (S.T h1) (fun h => nomatch h) fun _ => ⟨rfl, rfl⟩)
    | Or =>
      refine bE2 h ?_; clear h; intro u m1 h1 h
      induction u using Bool.casesOn with
      | true => exact hn <| sST h (ST_or (S.T h1) (fun h => nomatch h) fun _ => ⟨rfl, rfl⟩)
      | false => exact hn <| ST_or (S.T h1) (fun _ => S.T h) fun h => nomatch h
  · cases op <;> exact nE h
theorem snd_T (S : Snd b w D r) {e c} (h : stepT r sc e loc mem = some (c, mem')) : ST b w D sc e loc mem c mem' := by
  apply Classical.byContradiction
  intro hn
  induction e using PySem.Expr.casesOn with
  | UnaryOp op x p => induction op using PySem.UnaryOp.casesOn with
    | Not => exact hn <| mST h fun x h1 => ST_not (S.T h1)
    | _ => exact nE h
  | BoolOp op xs p => exact hn <| snd_bool S h
  | Compare l ops xs p => exact hn <| snd_cmp S h
  | Call f a k p =>
    refine bE2 h ?_; clear h; intro x m1 h1 h
    induction x using Mine.V.casesOn with
    | bool c => exact hn <| sST h (ST_call (S.E h1))
    | _ => exact nE h
  | _ => exact nE h
theorem isRange_ok {e T args} (h : isRange b sc loc e = some (T, args)) : ∃ x p a as pos, e = .Call (.Name x p) (a :: as) [] pos ∧ args = a :: as ∧ nameV b sc x loc = some (.typ T) ∧ (a :: as).all plainE = true := by
  induction e using PySem.Expr.casesOn with
  | Call f as ks pos => induction f using PySem.Expr.casesOn with
    | Name x p => induction as using List.casesOn with
      | nil => exact nE h
      | cons a as => induction ks using List.casesOn with
        | cons _ _ => exact nE h
        | nil =>
          replace h : (match nameV b sc x loc with | some (.typ T) => cond ((a :: as).all plainE) (some (T, a :: as)) none | _ => none) = some (T, args) := h
          cases hx : nameV b sc x loc with
          | none => rw [hx] at h; exact nE h
          | some u =>
            rw [hx] at h
            induction u using Mine.V.casesOn with
            | typ U => exact kE h fun h1 h => sE2 (C := fun T args => ∃ x' p' a' as' pos', PySem.Expr.Call (.Name x p) (a :: as) [] pos = .Call (.Name x' p') (a' :: as') [] pos' ∧ args = a' :: as' ∧ nameV b sc x' loc = some (.typ T) ∧ (a' :: as').all plainE = true) h ⟨_, _, _, _, _, rfl, rfl, hx, h1⟩
            | _ => exact nE h
    | _ => exact nE h
  | _ => exact nE h
theorem snd_rng (B : BaseOk b) (S : Snd b w D r) {x p a as pos T k} (hx : nameV b sc x loc = some (.typ T)) (hp : (a :: as).all plainE = true) (h : ((r.Es sc (a :: as) loc mem).bind fun p =>
      cond (T == "range") (match p.1 with
        | [.int n] => cond (decide (0 ≤ n) && decide (n ≤ 1000)) (some (.rng (rangeL 0 n.toNat), p.2)) none
        | [.int m, .int n] => cond (decide (0 ≤ m) && decide (n ≤ 1000) && decide (m ≤ n)) (some (.rng (rangeL m (n - m).toNat), p.2)) none
        | _ => none) (cond (T == "reversed") (match p.1 with
        | [.list i] => (p.2[i]?).map fun l => (.rev i l.length, p.2)
        | _ => none) none)) = some (k, mem')) : SI b w D sc (.Call (.Name x p) (a :: as) [] pos) loc mem k mem' := by
  apply Classical.byContradiction
  intro hn
  refine bE2 h ?_; clear h; intro vs m1 h1 h
  cases e1 : T == "range" with
  | true =>
    rw [e1] at h
    replace h := tE h
    replace hx : nameV b sc x loc = some (.typ "range") := eq_of_beq e1 ▸ hx
    obtain _ | ⟨u, _ | ⟨u2, _ | ⟨u3, us⟩⟩⟩ := vs
    · exact nE h
    · induction u using Mine.V.casesOn with
      | int i => exact kE h fun h2 h => hn <| sE2 (C := fun k m => SI b w D sc (.Call (.Name x p) (a :: as) [] pos) loc mem k m) h (a2 h2 fun h2 h3 => SI_range1 B hp hx (S.Es h1) (of_decide_eq_true h2) (of_decide_eq_true h3))
      | _ => exact nE h
    · induction u using Mine.V.casesOn with
      | int i => induction u2 using Mine.V.casesOn with
        | int j => exact kE h fun h2 h => hn <| sE2 (C := fun k m => SI b w D sc (.Call (.Name x p) (a :: as) [] pos) loc mem k m) h (a2 h2 fun h2 h4 => a2 h2 fun h2 h3 => SI_range B hp hx (S.Es h1) (of_decide_eq_true h2) (of_decide_eq_true h3) (of_decide_eq_true h4))
        | _ => exact nE h
      | _ => exact nE h
    · induction u using Mine.V.casesOn with
      | int i => cases u2 <;> exact nE h
      | _ => exact nE h
  | false =>
    rw [e1] at h
    refine kE (fE h) fun e2 h => ?_
    replace hx : nameV b sc x loc = some (.typ "reversed") := eq_of_beq e2 ▸ hx
    obtain _ | ⟨u, _ | ⟨u2, us⟩⟩ := vs
    · exact nE h
    · induction u using Mine.V.casesOn with
      | list i => exact hn <| mE2 (C := fun k m => SI b w D sc (.Call (.Name x p) (a :: as) [] pos) loc mem k m) h fun l h2 => SI_rev B hp hx (S.Es h1) h2
      | _ => exact nE h
    · cases u <;> exact nE h
theorem snd_I (B : BaseOk b) (S : Snd b w D r) {e k} (h : stepI b r sc e loc mem = some (k, mem')) : SI b w D sc e loc mem k mem' := by
  apply Classical.byContradiction
  intro hn
  have h : (match isRange b sc loc e with
    | some (T, args) => _
    | none => cond (isSet e) none ((r.E sc e loc mem).bind fun p => match p.1 with
      | .list i => some (.lst i 0, p.2)
      | .str l => some (.chars l, p.2)
      | _ => none)) = some (k, mem') := h
  cases hr : isRange b sc loc e with
  | some q =>
    rw [hr] at h
    refine ex5_4 (isRange_ok hr) fun x p a as pos ob2 e2 hx hp => ?_; subst ob2
    obtain ⟨T, args⟩ := q
    subst e2
    exact hn <| @snd_rng b w D sc loc mem mem' r B S x p a as pos T k hx hp h
  | none =>
    rw [hr] at h
    refine kE' h ?_; clear h; intro hs h; refine bE2 h ?_; clear h; intro x m1 h1 h
    induction x using Mine.V.casesOn with
    | list i => exact hn <| sE2 (C := fun k m => SI b w D sc e loc mem k m) h (SI_val (S.E h1) (.inl ⟨_, rfl, rfl⟩))
    | str l => exact hn <| sE2 (C := fun k m => SI b w D sc e loc mem k m) h (SI_val (S.E h1) (.inr ⟨_, rfl, rfl⟩))
    | _ => exact nE h
theorem snd_asgC (S : Snd b w D r) (Z : Zs b w D rS) {x xp v p c} (hc : isComp v = true) (h : stepS r rS sc (.Assign [.Name x xp] v p) loc mem = some (c, loc', mem')) : SS b w D sc (.Assign [.Name x xp] v p) loc mem c loc' mem' := by
  apply Classical.byContradiction
  intro hn
  induction v using PySem.Expr.casesOn with
  | ListComp elt gs scope cp =>
    refine kE h ?_; clear h; intro hk g
    clear hc
    have h := g
    clear g
    obtain _ | ⟨⟨t, it, ifs, ia⟩, _ | ⟨_, _⟩⟩ := gs
    · exact nE h
    · induction t using PySem.Expr.casesOn with
      | Name y yp =>
        obtain (_ | n) | _ := ia
        · refine kE h ?_; clear h; intro q h; refine bE2 h ?_; clear h; intro k m1 h3 h; refine bE h ?_; clear h; intro l h5 h; refine kE h ?_; clear h; intro h7 h; refine mE h ?_; clear h; intro m h9 h10; refine a2 q ?_; clear q; intro q q7; refine a2 q ?_; clear q; intro q q6; refine a2 q ?_; clear q; intro q q5; refine a2 q ?_; clear q; intro q q4; refine a2 q ?_; clear q; intro q q3; refine a2 q ?_; clear q; intro q1 q2
          exact hn <| sSS (congrArg some h10) (SS_assignC (CompOk.of q5) (nT q6) (fun y w hy => List.all_eq_true.mp q7 _ (PySem.mem_of_lookup_some hy)) q1 (by rw [lkb_eq] at q2; exact eq_of_beq q2) (nT q3) (S.I h3) h5 h7 _ _ (tests_ok Z (of_decide_eq_true q4)) (fun H' hH u y hu => (Z H' hH).E (noMem_some hu)) h9)
        · exact nE h
        · exact nE h
      | _ => exact nE h
    · induction t using PySem.Expr.casesOn with
      | Name x p => obtain (_ | n) | _ := ia <;> exact nE h
      | _ => exact nE h
  | SetComp => exact kE h fun _ h => nE h
  | DictComp => exact kE h fun _ h => nE h
  | _ => exact Bool.false_ne_true hc
theorem snd_asg (S : Snd b w D r) {x xp v p c} (hc : isComp v = false) (h : stepS r rS sc (.Assign [.Name x xp] v p) loc mem = some (c, loc', mem')) : SS b w D sc (.Assign [.Name x xp] v p) loc mem c loc' mem' := by
  apply Classical.byContradiction
  intro hn
  refine kE h ?_; clear h; intro hk h
  replace h : cond (isComp v) _ _ = some (c, loc', mem') := h
  rw [hc] at h
  refine mE h ?_; clear h; intro q h1 h2
  obtain ⟨u, m1⟩ := q
  exact hn <| sSS (congrArg some h2) (SS_assign hk hc (S.E h1))
theorem snd_unp (S : Snd b w D r) {es k p1 v p c} (h : stepS r rS sc (.Assign [.Tuple es k p1] v p) loc mem = some (c, loc', mem')) : SS b w D sc (.Assign [.Tuple es k p1] v p) loc mem c loc' mem' := by
  apply Classical.byContradiction
  intro hn
  refine kE' h ?_; clear h; intro hc h; refine bE2 h ?_; clear h; intro u m1 h1 h
  induction u using Mine.V.casesOn with
  | tup l =>
    refine bE h ?_; clear h; intro xs h3 h; refine bE h ?_; clear h; intro sw h5 h
    induction sw using Option.casesOn with
    | none => exact hn <| mSS h fun l' h7 => SS_unpack h3 hc h5 (S.E h1) h7
    | some ns => exact kE h fun h7 h => hn <| mSS h fun l' h9 => SS_unpackS hc h5 (S.E h1) (eq_of_beq h7) h9
  | _ => exact nE h
theorem snd_S (B : BaseOk b) (S : Snd b w D r) (Z : Zs b w D rS) {st c} (h : stepS r rS sc st loc mem = some (c, loc', mem')) : SS b w D sc st loc mem c loc' mem' := by
  apply Classical.byContradiction
  intro hn
  induction st using PySem.Stmt.casesOn with
  | Assign ts v p =>
    obtain _ | ⟨t, _ | ⟨_, _⟩⟩ := ts
    · exact nE h
    · induction t using PySem.Expr.casesOn with
      | Name x xp => cases hc : isComp v with
        | true => exact hn <| snd_asgC S Z hc h
        | false => exact hn <| snd_asg S hc h
      | Tuple es k p1 => exact hn <| snd_unp S h
      | _ => exact nE h
    · cases t <;> exact nE h
  | If t x y p => exact bE2 h fun d m1 h1 h2 => hn <| SS_if (S.T h1) (fun hc => S.Ss (by subst hc; exact h2)) (fun hc => S.Ss (by subst hc; exact h2))
  | While t x o p => induction o using List.casesOn with
    | nil =>
      refine hn ?_
      intro A env s ad Q E hA hE R L K
      exact wpAny_While (S.W h hA hE R L fun s' ad' f o r => K _ _ _ o r)
    | cons _ _ => exact nE h
  | For t it body o p => induction t using PySem.Expr.casesOn with
    | Name x xp => induction o using List.casesOn with
      | nil =>
        refine kE' h fun hs h => bE2 h fun k m1 h1 h2 => hn ?_
        intro A env s ad Q E hA hE R L K
        exact wpAny_For (S.I h1 hA hE R L fun s1 ad1 I o1 hf hW => S.F h2 hA hE (OutS.ofE R L o1) hf (R.none hf) hW fun s' ad' f o r => K _ _ _ o r) (folded_plain hs)
      | cons _ _ => exact nE h
    | _ => exact nE h
  | Return e p => induction e using Option.casesOn with
    | some e =>
      refine mE h ?_; clear h; intro q h1 h2
      exact hn <| sSS (congrArg some h2) (SS_return (S.E h1))
    | none => exact nE h
  | Expr e p =>
    refine bE2 h ?_; clear h; intro u m1 h1 h; refine kE h ?_; clear h; intro h3 h; refine a2 h3 ?_; clear h3; intro h4 h5
    induction u using Mine.V.casesOn with
    | none => exact hn <| sSS h (SS_expr (nT h5) (S.E h1))
    | _ => exact Bool.false_ne_true h4
  | _ => exact nE h
theorem snd_Ss (S : Snd b w D r) {ss c} (h : stepSs r sc ss loc mem = some (c, loc', mem')) : SSs b w D sc ss loc mem c loc' mem' := by
  apply Classical.byContradiction
  intro hn
  induction ss using List.casesOn with
  | nil => exact hn <| sSSs h SSs_nil
  | cons st ss =>
    refine bE3 h ?_; clear h; intro d l1 m1 h1 h
    induction d using Mine.Ctl.casesOn with
    | next => exact hn <| SSs_next (S.S h1) (S.Ss h)
    | ret u => exact hn <| sSSs h (SSs_ret (S.S h1))
theorem snd_W {n : Nat} (S : ∀ j, j < n → Snd b w D (run b j)) {t body c} (h : (run b n).W sc t body loc mem = some (c, loc', mem')) : SW b w D sc t body loc mem c loc' mem' := by
  intro A env s ad Rr hA hE R L K
  refine codeAny_whileLoop (fun k s1 => k ≤ n ∧ ∃ ad1 loc1 mem1, OutS b env s ad s1 ad1 loc1 mem1 ∧ (run b k).W sc t body loc1 mem1 = some (c, loc', mem')) ?_ n ⟨Nat.le_refl _, ad, loc, mem, OutS.refl R L, h⟩
  rintro k s1 ⟨hk, ad1, loc1, mem1, o1, hr⟩
  induction k using Nat.casesOn with
  | zero => cases hr
  | succ k =>
    have Sk := S k hk
    replace hr : stepW (run b k) sc t body loc1 mem1 = some (c, loc', mem') := hr
    refine bE2 hr ?_; clear hr; intro d m2 h1 h2
    refine Sk.T h1 hA hE o1.rel o1.lr fun s2 ad2 o2 => ?_
    have oS := o1.trans (OutS.ofE o1.rel o1.lr o2)
    induction d using Bool.casesOn with
    | true =>
      rw [if_pos rfl]
      refine bE3 h2 ?_; clear h2; intro d2 l3 m3 h3 h4
      refine Sk.Ss h3 hA hE oS.rel oS.lr fun s3 ad3 f o3 r3 => ?_
      induction d2 using Mine.Ctl.casesOn with
      | next =>
        cases r3
        exact ⟨k, Nat.lt_succ_self k, Nat.le_of_succ_le hk, ad3, l3, m3, oS.trans o3, h4⟩
      | ret v =>
        cases h4
        have r3' := r3
        refine ex1_2 r3 ?_; (try clear r3); intro val ob3 hv; subst ob3
        exact K _ _ _ (oS.trans o3) r3'
    | false =>
      rw [if_neg Bool.false_ne_true]
      cases h2
      exact wpAny_execs_nil (K _ _ _ oS rfl)
theorem snd_F {n : Nat} (S : ∀ j, j < n → Snd b w D (run b j)) {x k body c} (h : (run b n).F sc x k body loc mem = some (c, loc', mem')) : SF b w D sc x k body loc mem c loc' mem' := by
  intro A env s ad Rr px I s0 ad0 hA hE o0 hI hbI hW K
  refine codeAny_forLoop (fun j s1 => j ≤ n ∧ ∃ ad1 loc1 mem1 k1, OutS b env s0 ad0 s1 ad1 loc1 mem1 ∧ WkR s1.heap ad1 I k1 ∧ (run b j).F sc x k1 body loc1 mem1 = some (c, loc', mem')) ?_ n ⟨Nat.le_refl _, ad, loc, mem, k, o0, hW, h⟩
  rintro j s1 ⟨hj, ad1, loc1, mem1, k1, o1, hW1, hr⟩
  induction j using Nat.casesOn with
  | zero => cases hr
  | succ j =>
    have Sk := S j hj
    replace hr : stepF (run b j) sc x k1 body loc1 mem1 = some (c, loc', mem') := hr
    refine bE hr ?_; clear hr; intro nx h1 h2
    refine next_ok h1 hA o1.rel hW1 fun s2 val T N => ?_
    have o2 := o1.touch (k := k1) T hW1.fld hbI hI
    induction nx using Option.casesOn with
    | none =>
      replace N : val = none := N
      subst N
      cases h2
      exact wpAny_execs_nil (K _ _ _ o2 rfl)
    | some q =>
      obtain ⟨u, k2⟩ := q
      refine ex1_3 ((show ∃ vl, val = some vl ∧ VR s2.heap ad1 u vl ∧ WkR s2.heap ad1 I k2 from N)) ?_; (try clear vl); intro vl ob4 hu hW2; subst ob4
      refine kE h2 ?_; clear h2; intro hk h3; refine bE3 h3 ?_; clear h3; intro d2 l3 m3 h4 h5
      refine wpAny_assign_Name (store_ok hE o2.rel o2.lr hk hu fun s3 o3 => ?_)
      refine Sk.Ss h4 hA hE o3.rel o3.lr fun s4 ad4 f o4 r4 => ?_
      have o5 := o3.trans o4
      have hI1 : ¬ (own env I ∨ Wr b ad1 I) := by
        rintro (h | h)
        · rcases h with h | ⟨z, h, _⟩
          · refine ex1_2 o2.lr.ns fun m hm _ => ?_; exact hW2.fld.notNs m (h ▸ hm)
          · refine ex1_1 (o2.lr.cell z I h) fun ov hv => ?_; exact hW2.fld.notCell _ hv
        · rcases h with h | h
          · refine ex1_1 (o2.rel.hr.isList I h) fun its hl => ?_; exact hW2.fld.notList _ hl
          · exact hW2.fld.notTab (o2.rel.tabs I h)
      have hW4 : WkR s4.heap ad4 I k2 := hW2.keep o5.pre fun o e => o5.keep I o hI1 e
      induction d2 using Mine.Ctl.casesOn with
      | next =>
        cases r4
        exact ⟨j, Nat.lt_succ_self j, Nat.le_of_succ_le hj, ad4, l3, m3, k2, o2.trans o5, hW4, h5⟩
      | ret v =>
        cases h5
        have r4' := r4
        refine ex1_2 r4 ?_; (try clear r4); intro vv ob5 hv; subst ob5
        exact K _ _ _ (o2.trans o5) r4'
theorem run_H (H H' : Heap) (g : Str → Option V) : ∀ (n : Nat) (o : Addr → List V → Mem → Option (V × Mem)), run ⟨H, g, o⟩ n = run ⟨H', g, o⟩ n
  | 0, _ => rfl
  | n + 1, o => by
    show step _ (run ⟨H, g, o⟩ n) (run ⟨H, g, orcS⟩ n) = step _ (run ⟨H', g, o⟩ n) (run ⟨H', g, orcS⟩ n)
    rw [run_H H H' g n o, run_H H H' g n orcS]
    rfl
theorem BaseOk.sup {H' : Heap} {o} (B : BaseOk b) (hs : ∀ a o, b.H.get? a = some o → H'.get? a = some o) : BaseOk ⟨H', b.glob, o⟩ where
  glob := fun h hk x u e => B.glob h (fun a o e => hk a o (hs a o e)) x u e
  nolim := B.nolim.keeps hs
noncomputable def OrcSok (b : Base) (w : World) (D : Nat) : Prop := ∀ H', (∀ a o, b.H.get? a = some o → H'.get? a = some o) → OrcOk ⟨H', b.glob, orcS⟩ w D ∧ OrcFn ⟨H', b.glob, orcS⟩
theorem OrcSok.sup {H' : Heap} {o} (O : OrcSok b w D) (hs : ∀ a o, b.H.get? a = some o → H'.get? a = some o) : OrcSok ⟨H', b.glob, o⟩ w D := fun H2 h2 => O H2 fun a o e => h2 a o (hs a o e)
theorem snd : ∀ (n j : Nat), j < n → ∀ b : Base, BaseOk b → OrcOk b w D → OrcFn b → OrcSok b w D → Snd b w D (run b j)
  | 0, j, h, _, _, _, _, _ => absurd h (Nat.not_lt_zero _)
  | n + 1, j, h, b, B, O, Fn, OS => by
    have ih := snd n
    induction j using Nat.casesOn with
    | zero => exact ⟨fun h => (by cases h), fun h => (by cases h), fun h => (by cases h), fun h => (by cases h), fun h => (by cases h), fun h => (by cases h), fun h => (by cases h), fun h => (by cases h)⟩
    | succ j =>
      have Sj := ih j (Nat.lt_of_succ_lt_succ h) b B O Fn OS
      have Z : Zs b w D (run (strong b) j) := fun H' hH => by
        have S' := ih j (Nat.lt_of_succ_lt_succ h) ⟨H', b.glob, orcS⟩ (B.sup hH) (OS H' hH).1 (OS H' hH).2 (OS.sup hH)
        rw [run_H H' b.H] at S'
        exact S'
      have Sl : ∀ i, i < j + 1 → Snd b w D (run b i) := fun i hi => ih i (ar426 h hi) b B O Fn OS
      exact ⟨fun h => snd_E B O Fn Sj Z h, fun h => snd_Es Sj h, fun h => snd_T Sj h, fun h => snd_I B Sj h, fun h => snd_S B Sj Z h, fun h => snd_Ss Sj h, fun h => snd_W Sl h, fun h => snd_F Sl h⟩
theorem sound (B : BaseOk b) (O : OrcOk b w D) (Fn : OrcFn b) (OS : OrcSok b w D) (n : Nat) : Snd b w D (run b n) := snd (n + 1) n (Nat.lt_succ_self n) b B O Fn OS
end Mine
end

section
namespace Mine
variable {b : Base} {w : World} {D : Nat} {sc : Scope} {loc loc' loc1 loc2 : Loc} {mem mem' mem1 mem2 mem3 : Mem} {v : V}
theorem look_rev {h : Heap} {ad : List Addr} : ∀ {l : Loc} {bs : List (Str × Value)}, bs.map (·.1) = l.map (·.1) → VRs h ad (l.map (·.2)) (bs.map (·.2)) → (l.map (·.1)).Nodup → ∀ x u, l.lookup x = some u → ∃ val, bs.reverse.lookup x = some val ∧ VR h ad u val := by
  have mem : ∀ {l : Loc} {bs : List (Str × Value)}, bs.map (·.1) = l.map (·.1) → VRs h ad (l.map (·.2)) (bs.map (·.2)) → ∀ x u, l.lookup x = some u → ∃ val, (x, val) ∈ bs ∧ VR h ad u val := by
    intro l
    induction l with
    | nil => intro bs _ _ x u e; cases e
    | cons p l ih =>
      intro bs h1 h2 x u e
      obtain ⟨y, t⟩ := p
      induction bs using List.casesOn with
      | nil => cases h1
      | cons q bs =>
        obtain ⟨y', z⟩ := q
        rw [List.map_cons, List.map_cons, List.cons.injEq] at h1
        refine ex0_2 h1 ?_; (try clear h1); intro h3 h4
        simp only at h3
        subst h3
        cases h2 with
        | cons hv hl =>
          rw [List.lookup_cons] at e
          by_cases hx : x = y'
          · subst hx
            rw [beq_self_eq_true] at e
            cases e
            exact ⟨z, .head _, hv⟩
          · rw [beq_eq_false_iff_ne.mpr hx] at e
            refine ex1_2 (ih h4 hl x u e) fun val h5 h6 => ?_
            exact ⟨val, .tail _ h5, h6⟩
  intro l bs h1 h2 h3 x u e
  refine ex1_2 (mem h1 h2 x u e) fun val h5 h6 => ?_
  refine ⟨val, lookup_of_mem (List.mem_reverse.mpr h5) fun d hd => ?_, h6⟩
  replace hd := List.mem_reverse.mp hd
  rw [← h1] at h3
  obtain ⟨i, hi, ei⟩ := List.mem_iff_getElem.mp h5
  obtain ⟨j, hj, ej⟩ := List.mem_iff_getElem.mp hd
  have : i = j := by
    refine (List.getElem_inj (i := i) (j := j) (h₀ := by simpa using hi) (h₁ := by simpa using hj) h3).mp ?_
    rw [List.getElem_map, List.getElem_map, ei, ej]
  subst this
  rw [ei] at ej
  injection ej with _ e2
  exact e2.symm
theorem fn_ok (B : BaseOk b) (O : OrcOk b w D) (Fn : OrcFn b) (OS : OrcSok b w D) {f : Addr} {o : Obj} {fd : FuncData} {body : List Stmt} {vs : List V} {n : Nat} {c : Ctl}
    (ho : b.H.get? f = some o) (hd : o.data = .func fd) (hcd : b.H.CodeRec fd.code fd.qualname) (hbody : fd.body = .stmts body) (hcell : ∀ x ∈ fd.scope.names, x.2 ≠ .cell) (hcl : fd.closure = []) (hg : fd.globals = mainGlobals) (hbl : fd.builtins = builtinsNs)
    (hco : fd.scope.isCoroutine = false) (hgen : fd.scope.isGenerator = false) (hk : fd.scope.kind = .function)
    (hbind : ∀ {s : Shared} {ad : List Addr} {vals : List Value}, RelM b s.heap ad mem → VRs s.heap ad vs vals → ∃ bs : List (Str × Value), BindsTo s fd ⟨vals, []⟩ bs ∧ bs.map (·.1) = loc.map (·.1) ∧ VRs s.heap ad (loc.map (·.2)) (bs.map (·.2)))
    (hnd : (loc.map (·.1)).Nodup) (hloc : ∀ x ∈ loc.map (·.1), fd.scope.names.lookup x = some .local)
    (hrun : (run b n).Ss fd.scope body loc mem = some (c, loc', mem')) (hv : v = match c with | .ret v => v | .next => .none) : CallOk b w (D + 1) f vs mem v mem' := by
  intro A s ad vals hA R hvs Q E K
  refine ex1_3 (hbind R hvs) fun bs hb1 hb2 hb3 => ?_
  have hlim := B.limit R.base
  refine wpAny_call (codeAny_call_def (by have := hA.depth; exact ar23 this) (R.base _ _ ho) hd hlim (hcd.keeps R.base) hbody hb1 hcell (fun x hx => hloc x.1 (by rw [← hb2]; exact List.mem_map_of_mem hx)) (fun h0 hns hkeep => ?_) hco hgen hk)
  have hLn : s.heap.get? s.heap.objs.size = none := get_top _
  have R0 := R.all hkeep
  have hE : EnvOk (callEnv fd s.heap.objs.size f) fd.scope := by
    refine ⟨rfl, hk, hg, hbl, ?_, fun x hx => absurd rfl (hcell _ (PySem.mem_of_lookup_some hx))⟩
    show (List.map _ fd.closure).Nodup
    rw [hcl]; exact List.nodup_nil
  have hcells : (callEnv fd s.heap.objs.size f).cells = [] := hcl
  have L0 : LR b (callEnv fd s.heap.objs.size f) h0 ad loc := by
    refine ⟨R.none hLn, fun x c h => (by rw [hcells] at h; cases h), fun x c h => (by rw [hcells] at h; cases h), _, hns, fun x u hx => ?_⟩
    refine ex1_2 (look_rev hb2 hb3 hnd x u hx) fun val h1 h2 => ?_
    refine ⟨val, h2.all hkeep, .inl ⟨?_, h1⟩⟩
    rw [hE.kindOf]
    exact hloc x (List.mem_map.mpr ⟨(x, u), PySem.mem_of_lookup_some hx, rfl⟩)
  have fin : ∀ s' ad' fl, OutS b (callEnv fd s.heap.objs.size f) { s with heap := h0, toks := s.toks + bs.length } ad s' ad' loc' mem' → FR s'.heap ad' c fl → Q (match fl with | .ret v => v | _ => .none) s' := by
    intro s' ad' fl o1 r1
    refine K s' ad' _ ⟨o1.rel, o1.pre, fun a ob ha e => o1.keep a ob ?_ (hkeep a ob e), fun a ha => ?_, o1.os, o1.gens, o1.drawn⟩ ?_
    · rintro (h | h)
      · rcases h with h | ⟨z, h, _⟩
        · replace h : a = s.heap.objs.size := h
          rw [h, hLn] at e; cases e
        · rw [hcells] at h; cases h
      · exact ha h
    · rcases o1.fresh a ha with h | h
      · exact .inl h
      · cases e : s.heap.get? a with
        | none => exact .inr rfl
        | some ob =>
          replace h : h0.get? a = none := h
          rw [hkeep a ob e] at h; cases h
    · subst hv
      induction c using Mine.Ctl.casesOn with
      | next => cases r1; exact .none
      | ret u => refine ex1_2 r1 ?_; (try clear r1); intro val ob1 h; subst ob1; exact h
  have S := sound (w := w) B O Fn OS n
  refine S.Ss hrun (hA.deeper _) hE R0 L0 fun s' ad' fl o1 r1 => ?_
  exact fin s' ad' fl o1 r1
noncomputable def zipN : List Str → List V → Option Loc
  | [], [] => some []
  | x :: xs, v :: vs => (zipN xs vs).map ((x, v) :: ·)
  | _, _ => none
theorem zipN_fst : ∀ {xs vs l}, zipN xs vs = some l → l.map (·.1) = xs ∧ l.map (·.2) = vs
  | [], [], l, h => by cases h; exact ⟨rfl, rfl⟩
  | x :: xs, v :: vs, l, h => by
    refine ex1_2 (map2 h) fun m hm ob2 => ?_; subst ob2
    refine ex0_2 (zipN_fst hm) fun h1 h2 => ?_
    exact ⟨by rw [List.map_cons, h1], by rw [List.map_cons, h2]⟩
  | [], _ :: _, l, h => by cases h
  | _ :: _, [], l, h => by cases h
end Mine
end

namespace Mine
noncomputable def HB (P : Params) : Heap := hideAll (H29 P) [47, 54]
noncomputable def gl : List (Str × V) := [("_DIV_LIMIT", .int 4000), ("_div2n1n", .ref 38), ("_int2digits", .ref 52), ("_digits2int", .ref 59), ("_divmod_pos", .ref 66), ("int_divmod", .ref 73), ("insort_right", .ref 82), ("bisect_right", .ref 91), ("insort_left", .ref 100), ("bisect_left", .ref 109),
  ("quotedata", .ref 126), ("map_table_b3", .ref 172), ("in_table_c6", .ref 184), ("_law_mail", .ref 191), ("_law_forms", .ref 198), ("_law_moved", .ref 205), ("_law_led_back", .ref 212),
  ("len", .blt "len"), ("chr", .blt "chr"), ("sum", .blt "sum"), ("sorted", .blt "sorted"), ("divmod", .blt "divmod"), ("range", .typ "range"), ("reversed", .typ "reversed"), ("ord", .blt "ord"), ("b3_exceptions", .ref 127), ("c6_set", .ref 174), ("_twin_re_1", .ref 114), ("_twin_re_2", .ref 119), ("CRLF", .str [13, 10])]
noncomputable def globT (x : Str) : Option V := lkb x gl
noncomputable def vOk (u : V) (o : Option Value) : Bool :=
  match o with
  | none => false
  | some x => match u with
    | .ref a => (match x with | .ref c => a == c | _ => false)
    | .blt i => (match x with | .builtin j => i == j | _ => false)
    | .typ i => (match x with | .type j => i == j | _ => false)
    | .int i => (match x with | .int j _ => i == j | _ => false)
    | .str l => (match x with | .str y _ => mkS l == y | _ => false)
    | _ => false
theorem vOk_vr {u : V} {o : Option Value} (h : vOk u o = true) : ∃ val, o = some val ∧ ∀ (h : Heap) (ad : List Addr), VR h ad u val := by
  have no : ∀ {P : Prop}, false = true → P := fun h => absurd h Bool.false_ne_true
  induction o using Option.casesOn with
  | none => exact no h
  | some x =>
    refine ⟨x, rfl, ?_⟩
    induction u using Mine.V.casesOn with
    | ref a => induction x using PySem.Value.casesOn with
      | ref c => have e := eq_of_beq h; subst e; exact fun _ _ => .ref _
      | _ => exact no h
    | blt i => induction x using PySem.Value.casesOn with
      | builtin j => have e := eq_of_beq h; subst e; exact fun _ _ => .blt _
      | _ => exact no h
    | typ i => induction x using PySem.Value.casesOn with
      | type j => have e := eq_of_beq h; subst e; exact fun _ _ => .typ _
      | _ => exact no h
    | int i => induction x using PySem.Value.casesOn with
      | int j t => have e := eq_of_beq h; subst e; exact fun _ _ => .int _ _
      | _ => exact no h
    | str l => induction x using PySem.Value.casesOn with
      | str y t => have e := eq_of_beq h; subst e; exact fun _ _ => .str _ _
      | _ => exact no h
    | _ => exact no h
theorem gl_ok (P : Params) : gl.all (fun e => vOk e.2 ((HB P).nsMap 3 e.1) || (((HB P).nsMap 3 e.1).isNone && vOk e.2 ((HB P).nsMap 0 e.1))) = true := by kernel_rfl!
theorem ns3 (P : Params) : (HB P).isNs 3 = true := by kernel_rfl!
theorem ns0 (P : Params) : (HB P).isNs 0 = true := by kernel_rfl!
theorem nolim29 (P : Params) : (HB P).noLimitOk = true := by kernel_rfl!
theorem baseOk (P : Params) (orc) : BaseOk ⟨HB P, globT, orc⟩ where
  glob := fun h hk x u e => by
    replace e : lkb x gl = some u := e
    rw [lkb_eq] at e
    have hm := PySem.mem_of_lookup_some e
    have := List.all_eq_true.mp (gl_ok P) _ hm
    simp only [Bool.or_eq_true, Bool.and_eq_true] at this
    have n3 := Heap.Ns.of_isNs (ns3 P)
    have n0 := Heap.Ns.of_isNs (ns0 P)
    rcases this with h1 | ⟨h1, h2⟩
    · obtain ⟨val, h3, h4⟩ := vOk_vr h1
      exact ⟨val, fun ad => h4 h ad, .inl ⟨_, ns_keep n3 fun o e => hk _ o e, h3⟩⟩
    · obtain ⟨val, h3, h4⟩ := vOk_vr h2
      exact ⟨val, fun ad => h4 h ad, .inr ⟨_, _, ns_keep n3 fun o e => hk _ o e, Option.isNone_iff_eq_none.mp h1, ns_keep n0 fun o e => hk _ o e, h3⟩⟩
  nolim := Heap.NoLimit.of_ok (nolim29 P)
noncomputable def fnL : List (Nat × Nat) := [(38, 3), (66, 7), (73, 8), (82, 10), (91, 11), (100, 12), (109, 13), (191, 25), (198, 26), (205, 27), (212, 28)]
noncomputable def lkN (f : Nat) : List (Nat × Nat) → Option Nat
  | [] => none
  | (g, i) :: l => cond (f == g) (some i) (lkN f l)
noncomputable def fnAt (f : Nat) : Option Nat := lkN f fnL
noncomputable def parN (i : Nat) : List Str := ((fdArgs (st i)).posonlyargs ++ (fdArgs (st i)).args ++ (fdArgs (st i)).kwonlyargs).map (·.arg)
noncomputable def isBis (f : Nat) : Bool := f == 82 || f == 91 || f == 100 || f == 109
noncomputable def argsOf (f : Nat) (vs : List V) : List V :=
  cond (isBis f) (match vs with
    | [a, x] => [a, x, .int 0, .none, .none]
    | [a, x, lo, hi] => [a, x, lo, hi, .none]
    | _ => []) vs
noncomputable abbrev Raw := Addr → List V → Mem → Option (V × Mem)
noncomputable def retV : Ctl → V
  | .next => .none
  | .ret v => v
noncomputable def orcN (raw : Raw) : Nat → Raw
  | 0, _, _, _ => none
  | k + 1, f, vs, mem => match raw f vs mem with
    | some r => some r
    | none => (fnAt f).bind fun i => (zipN (parN i) (argsOf f vs)).bind fun loc => ((run ⟨(default : Heap), globT, orcN raw k⟩ 300).Ss (fdScope (st i)) (fdBody (st i)) loc mem).map fun r => (retV r.1, r.2.2)
noncomputable abbrev bk (raw : Raw) (P : Params) (k : Nat) : Base := ⟨HB P, globT, orcN raw k⟩
theorem rel_orc {H g o o'} {h : Heap} {ad : List Addr} {mem : Mem} (R : RelM ⟨H, g, o⟩ h ad mem) : RelM ⟨H, g, o'⟩ h ad mem := ⟨R.base, R.lowA, R.hr, R.tabs⟩
theorem call_orc {H g o o'} {w D f vs mem v mem'} (C : CallOk ⟨H, g, o⟩ w D f vs mem v mem') : CallOk ⟨H, g, o'⟩ w D f vs mem v mem' := by
  intro A s ad vals hA R hv Q E K
  exact C hA (rel_orc R) hv fun s' ad' val o1 r1 => K s' ad' val ⟨rel_orc o1.rel, o1.pre, o1.keep, o1.fresh, o1.os, o1.gens, o1.drawn⟩ r1
theorem call_mono {b w D D' f vs mem v mem'} (h : D ≤ D') (C : CallOk b w D f vs mem v mem') : CallOk b w D' f vs mem v mem' := by
  intro A s ad vals hA
  exact C (hA.mono h)
structure FnFacts (P : Params) (f i : Nat) : Prop where
  ex : ∃ o fd, (HB P).get? f = some o ∧ o.data = .func fd ∧ (HB P).codeRecOk fd.code fd.qualname = true ∧ fd.body = .stmts (fdBody (st i)) ∧ fd.scope = fdScope (st i) ∧ fd.closure = [] ∧ fd.globals = mainGlobals ∧ fd.builtins = builtinsNs ∧
    ∀ (h : Heap) (ad : List Addr) (vs : List V) (loc : Loc) (s : Shared) (vals : List Value), s.heap = h → (∀ a o, (HB P).get? a = some o → h.get? a = some o) → zipN (parN i) (argsOf f vs) = some loc → VRs h ad vs vals →
      ∃ bs : List (Str × Value), BindsTo s fd ⟨vals, []⟩ bs ∧ bs.map (·.1) = loc.map (·.1) ∧ VRs h ad (loc.map (·.2)) (bs.map (·.2))
  sc : (!(fdScope (st i)).isCoroutine && !(fdScope (st i)).isGenerator && (fdScope (st i)).kind == .function && ((fdScope (st i)).names.all fun x => x.2 != .cell) && ((parN i).all fun x => (fdScope (st i)).names.lookup x == some .local)) = true
  nd : (parN i).Nodup
noncomputable def RawOk (raw : Raw) (P : Params) (w : World) (D : Nat) : Prop := ∀ f vs mem v mem', raw f vs mem = some (v, mem') → CallOk ⟨HB P, globT, fun _ _ _ => none⟩ w D f vs mem v mem'
noncomputable def RawFn (raw : Raw) (P : Params) : Prop := ∀ f vs mem r, raw f vs mem = some r → ∃ o fd, (HB P).get? f = some o ∧ o.data = .func fd
theorem OrcSok.mono {b : Base} {w : World} {D D' : Nat} (h : D ≤ D') (O : OrcSok b w D) : OrcSok b w D' := fun H' hH => ⟨fun f vs mem v mem' e => call_mono h ((O H' hH).1 f vs mem v mem' e), (O H' hH).2⟩
theorem orc_ok {raw : Raw} {P : Params} {w : World} {D : Nat} (hraw : RawOk raw P w D) (hfn : RawFn raw P) (OS : OrcSok ⟨HB P, globT, fun _ _ _ => none⟩ w D) (F : ∀ f i, fnAt f = some i → FnFacts P f i) : ∀ k, OrcOk (bk raw P k) w (D + k) ∧ OrcFn (bk raw P k)
  | 0 => ⟨fun f vs mem v mem' h => (by cases h), fun f vs mem r h => (by cases h)⟩
  | k + 1 => by
    obtain ⟨O, Fn⟩ := orc_ok hraw hfn OS F k
    constructor
    · intro f vs mem v mem' h
      replace h : orcN raw (k + 1) f vs mem = some (v, mem') := h
      rw [orcN] at h
      split at h
      · rename_i r hr
        cases h
        exact @call_mono (bk raw P (k + 1)) w D (D + (k + 1)) f vs mem v mem' (ar459) (@call_orc (HB P) globT (fun _ _ _ => none) (orcN raw (k + 1)) w D f vs mem v mem' (hraw _ _ _ _ _ hr))
      · obtain ⟨i, h1, h⟩ := bind2 h
        obtain ⟨loc, h2, h⟩ := bind2 h
        obtain ⟨⟨c, l', m'⟩, h3, h⟩ := map2 h
        cases h
        have X := F f i h1
        obtain ⟨o, fd, e1, e2, e3, e4, e5, e6, e7, e8, e9⟩ := X.ex
        have sc := X.sc
        simp only [Bool.and_eq_true, List.all_eq_true] at sc
        obtain ⟨⟨⟨⟨s1, s2⟩, s3⟩, s4⟩, s5⟩ := sc
        obtain ⟨z1, z2⟩ := zipN_fst h2
        rw [run_H _ (HB P)] at h3
        have C : CallOk (bk raw P k) w (D + k + 1) f vs mem (retV c) m' := fn_ok (b := bk raw P k) (w := w) (D := D + k) (loc := loc) (baseOk P _) O Fn (OrcSok.mono (b := bk raw P k) (Nat.le_add_right D k) OS) e1 e2 (Heap.CodeRec.of_ok e3) e4 (by rw [e5]; intro x hx; simpa using s4 x hx) e6 e7 e8 (by rw [e5]; simpa using s1) (by rw [e5]; simpa using s2) (by rw [e5]; exact eq_of_beq s3)
          (fun R hv => e9 _ _ _ _ _ _ rfl R.base h2 hv) (by rw [z1]; exact X.nd) (by rw [z1, e5]; intro x hx; exact eq_of_beq (s5 x hx)) (by rw [e5]; exact h3) (by cases c <;> rfl)
        exact @call_orc (HB P) globT (orcN raw k) (orcN raw (k + 1)) w (D + k + 1) f vs mem _ m' C
    · intro f vs mem r h
      replace h : orcN raw (k + 1) f vs mem = some r := h
      rw [orcN] at h
      split at h
      · rename_i r hr
        cases h
        exact hfn _ _ _ _ hr
      · obtain ⟨i, h1, h⟩ := bind2 h
        obtain ⟨o, fd, e1, e2, _⟩ := (F f i h1).ex
        exact ⟨o, fd, e1, e2⟩
end Mine

namespace Mine
noncomputable def fdOf (o : Obj) : FuncData := match o.data with | .func fd => fd | _ => default
noncomputable def BindP (P : Params) (f i : Nat) (fd : FuncData) : Prop := ∀ (h : Heap) (ad : List Addr) (vs : List V) (loc : Loc) (s : Shared) (vals : List Value), s.heap = h → (∀ a o, (HB P).get? a = some o → h.get? a = some o) → zipN (parN i) (argsOf f vs) = some loc → VRs h ad vs vals →
      ∃ bs : List (Str × Value), BindsTo s fd ⟨vals, []⟩ bs ∧ bs.map (·.1) = loc.map (·.1) ∧ VRs h ad (loc.map (·.2)) (bs.map (·.2))
theorem inNil (h : Heap) : Frag.In [] h := fun a o e => by cases e
theorem inK {P : Params} {h : Heap} {K : Frag} (hK : (K.all fun p => decide (True)) = true) (hin : ∀ p ∈ K, (HB P).get? p.1 = some p.2) (hk : ∀ a o, (HB P).get? a = some o → h.get? a = some o) : Frag.In K h := by
  intro a o e
  refine hk a o ?_
  induction K with
  | nil => cases e
  | cons p K ih =>
    obtain ⟨c, q⟩ := p
    rw [List.lookup_cons] at e
    by_cases hc : a = c
    · subst hc
      rw [beq_self_eq_true] at e
      cases e
      exact hin _ (.head _)
    · rw [beq_eq_false_iff_ne.mpr hc] at e
      exact ih (by simp) (fun p hp => hin p (.tail _ hp)) e
theorem plain1 {P f i fd n1} (ha : isBis f = false) (hp : parN i = [n1]) (hb : ∀ S x1, peek [] S (bindArgs fd ⟨[x1], []⟩) = some [(n1, x1)]) : BindP P f i fd := by
  intro h ad vs loc s vals e hk hz hv
  replace hz : zipN (parN i) vs = some loc := by have hz : zipN (parN i) (cond (isBis f) _ vs) = some loc := hz; rw [ha] at hz; exact hz
  rw [hp] at hz
  match vs, hz with
  | [v1], hz =>
    cases hz
    refine ex1_2 (vrs1 hv) fun x1 ob1 h1 => ?_; subst ob1
    exact ⟨_, kp_binds (inNil _) fun S => hb S x1, rfl, .cons h1 .nil⟩
theorem plain2 {P f i fd n1 n2} (ha : isBis f = false) (hp : parN i = [n1, n2]) (hb : ∀ S x1 x2, peek [] S (bindArgs fd ⟨[x1, x2], []⟩) = some [(n1, x1), (n2, x2)]) : BindP P f i fd := by
  intro h ad vs loc s vals e hk hz hv
  replace hz : zipN (parN i) vs = some loc := by have hz : zipN (parN i) (cond (isBis f) _ vs) = some loc := hz; rw [ha] at hz; exact hz
  rw [hp] at hz
  match vs, hz with
  | [v1, v2], hz =>
    cases hz
    refine ex2_3 (vrs2 hv) fun x1 x2 ob2 h1 h2 => ?_; subst ob2
    exact ⟨_, kp_binds (inNil _) fun S => hb S x1 x2, rfl, .cons h1 (.cons h2 .nil)⟩
theorem plain3 {P f i fd n1 n2 n3} (ha : isBis f = false) (hp : parN i = [n1, n2, n3]) (hb : ∀ S x1 x2 x3, peek [] S (bindArgs fd ⟨[x1, x2, x3], []⟩) = some [(n1, x1), (n2, x2), (n3, x3)]) : BindP P f i fd := by
  intro h ad vs loc s vals e hk hz hv
  replace hz : zipN (parN i) vs = some loc := by have hz : zipN (parN i) (cond (isBis f) _ vs) = some loc := hz; rw [ha] at hz; exact hz
  rw [hp] at hz
  match vs, hz with
  | [v1, v2, v3], hz =>
    cases hz
    cases hv with
    | cons h1 hv =>
      refine ex2_3 (vrs2 hv) fun x2 x3 ob3 h2 h3 => ?_; subst ob3
      exact ⟨_, kp_binds (inNil _) fun S => hb S _ x2 x3, rfl, .cons h1 (.cons h2 (.cons h3 .nil))⟩
theorem bis5 {P f i fd n1 n2 n3 n4 n5 t} {K : Frag} (ha : isBis f = true) (hp : parN i = [n1, n2, n3, n4, n5]) (hin : ∀ p ∈ K, (HB P).get? p.1 = some p.2)
    (hb2 : ∀ S x1 x2, peek K S (bindArgs fd ⟨[x1, x2], []⟩) = some [(n1, x1), (n2, x2), (n3, .int 0 t), (n4, .none), (n5, .none)])
    (hb4 : ∀ S x1 x2 x3 x4, peek K S (bindArgs fd ⟨[x1, x2, x3, x4], []⟩) = some [(n1, x1), (n2, x2), (n3, x3), (n4, x4), (n5, .none)]) : BindP P f i fd := by
  intro h ad vs loc s vals e hk hz hv
  subst e
  replace hz : zipN (parN i) (cond (isBis f) _ vs) = some loc := hz
  rw [ha, cond_true, hp] at hz
  have X : Frag.In K s.heap := inK (P := P) (by simp) hin hk
  obtain _ | ⟨v1, _ | ⟨v2, _ | ⟨v3, _ | ⟨v4, _ | ⟨v5, vs⟩⟩⟩⟩⟩ := vs
  · cases hz
  · cases hz
  · cases hz
    refine ex2_3 (vrs2 hv) fun x1 x2 ob4 h1 h2 => ?_; subst ob4
    exact ⟨_, kp_binds X fun S => hb2 S x1 x2, rfl, .cons h1 (.cons h2 (.cons (.int _ _) (.cons .none (.cons .none .nil))))⟩
  · cases hz
  · cases hz
    cases hv with
    | cons h1 hv =>
      cases hv with
      | cons h2 hv =>
        refine ex2_3 (vrs2 hv) fun x3 x4 ob5 h3 h4 => ?_; subst ob5
        exact ⟨_, kp_binds X fun S => hb4 S _ _ x3 x4, rfl, .cons h1 (.cons h2 (.cons h3 (.cons h4 (.cons .none .nil))))⟩
  · cases hz
noncomputable def scOk (i : Nat) : Bool := (!(fdScope (st i)).isCoroutine && !(fdScope (st i)).isGenerator && (fdScope (st i)).kind == .function && ((fdScope (st i)).names.all fun x => x.2 != .cell) && ((parN i).all fun x => (fdScope (st i)).names.lookup x == some .local))
theorem ff (P : Params) (f i : Nat) (o : Obj) (h1 : (HB P).get? f = some o) (h2 : o.data = .func (fdOf o)) (h3 : (HB P).codeRecOk (fdOf o).code (fdOf o).qualname = true) (h4 : (fdOf o).body = .stmts (fdBody (st i))) (h5 : (fdOf o).scope = fdScope (st i))
    (h6 : (fdOf o).closure = []) (h7 : (fdOf o).globals = mainGlobals) (h8 : (fdOf o).builtins = builtinsNs) (hb : BindP P f i (fdOf o)) (hs : scOk i = true) (hn : (parN i).Nodup) : FnFacts P f i :=
  ⟨⟨o, fdOf o, h1, h2, h3, h4, h5, h6, h7, h8, hb⟩, hs, hn⟩
theorem ff38 (P : Params) : FnFacts P 38 3 :=
  ff P 38 3 (o38_0 P) (by kernel_rfl!) (by kernel_rfl!) (by kernel_rfl!) (by kernel_rfl!) (by kernel_rfl!) (by kernel_rfl!) (by kernel_rfl!) (by kernel_rfl!)
    (plain3 (n1 := "a") (n2 := "b") (n3 := "n") (by kernel_rfl!) (by kernel_rfl!) (by intros; kernel_rfl!)) (by kernel_rfl!) (by rw [show parN 3 = [("a" : Str), ("b" : Str), ("n" : Str)] by kernel_rfl!]; decide +kernel)
theorem ff66 (P : Params) : FnFacts P 66 7 :=
  ff P 66 7 (o66_0 P) (by kernel_rfl!) (by kernel_rfl!) (by kernel_rfl!) (by kernel_rfl!) (by kernel_rfl!) (by kernel_rfl!) (by kernel_rfl!) (by kernel_rfl!)
    (plain2 (n1 := "a") (n2 := "b") (by kernel_rfl!) (by kernel_rfl!) (by intros; kernel_rfl!)) (by kernel_rfl!) (by rw [show parN 7 = [("a" : Str), ("b" : Str)] by kernel_rfl!]; decide +kernel)
theorem ff73 (P : Params) : FnFacts P 73 8 :=
  ff P 73 8 (o73_0 P) (by kernel_rfl!) (by kernel_rfl!) (by kernel_rfl!) (by kernel_rfl!) (by kernel_rfl!) (by kernel_rfl!) (by kernel_rfl!) (by kernel_rfl!)
    (plain2 (n1 := "a") (n2 := "b") (by kernel_rfl!) (by kernel_rfl!) (by intros; kernel_rfl!)) (by kernel_rfl!) (by rw [show parN 8 = [("a" : Str), ("b" : Str)] by kernel_rfl!]; decide +kernel)
theorem ff191 (P : Params) : FnFacts P 191 25 :=
  ff P 191 25 (o191_0 P) (by kernel_rfl!) (by kernel_rfl!) (by kernel_rfl!) (by kernel_rfl!) (by kernel_rfl!) (by kernel_rfl!) (by kernel_rfl!) (by kernel_rfl!)
    (plain1 (n1 := "drawn") (by kernel_rfl!) (by kernel_rfl!) (by intros; kernel_rfl!)) (by kernel_rfl!) (by rw [show parN 25 = [("drawn" : Str)] by kernel_rfl!]; decide +kernel)
theorem ff198 (P : Params) : FnFacts P 198 26 :=
  ff P 198 26 (o198_0 P) (by kernel_rfl!) (by kernel_rfl!) (by kernel_rfl!) (by kernel_rfl!) (by kernel_rfl!) (by kernel_rfl!) (by kernel_rfl!) (by kernel_rfl!)
    (plain1 (n1 := "p") (by kernel_rfl!) (by kernel_rfl!) (by intros; kernel_rfl!)) (by kernel_rfl!) (by rw [show parN 26 = [("p" : Str)] by kernel_rfl!]; decide +kernel)
theorem ff205 (P : Params) : FnFacts P 205 27 :=
  ff P 205 27 (o205_0 P) (by kernel_rfl!) (by kernel_rfl!) (by kernel_rfl!) (by kernel_rfl!) (by kernel_rfl!) (by kernel_rfl!) (by kernel_rfl!) (by kernel_rfl!)
    (plain2 (n1 := "form") (n2 := "lines") (by kernel_rfl!) (by kernel_rfl!) (by intros; kernel_rfl!)) (by kernel_rfl!) (by rw [show parN 27 = [("form" : Str), ("lines" : Str)] by kernel_rfl!]; decide +kernel)
theorem ff212 (P : Params) : FnFacts P 212 28 :=
  ff P 212 28 (o212_0 P) (by kernel_rfl!) (by kernel_rfl!) (by kernel_rfl!) (by kernel_rfl!) (by kernel_rfl!) (by kernel_rfl!) (by kernel_rfl!) (by kernel_rfl!)
    (plain1 (n1 := "form") (by kernel_rfl!) (by kernel_rfl!) (by intros; kernel_rfl!)) (by kernel_rfl!) (by rw [show parN 28 = [("form" : Str)] by kernel_rfl!]; decide +kernel)
theorem ff82 (P : Params) : FnFacts P 82 10 :=
  ff P 82 10 (o82_0 P) (by kernel_rfl!) (by kernel_rfl!) (by kernel_rfl!) (by kernel_rfl!) (by kernel_rfl!) (by kernel_rfl!) (by kernel_rfl!) (by kernel_rfl!)
    (bis5 (K := [(74, o74_0 P), (75, o75_0 P)]) (t := 366) (n1 := "a") (n2 := "x") (n3 := "lo") (n4 := "hi") (n5 := "key") (by kernel_rfl!) (by kernel_rfl!) (fun p hp => (List.mem_cons.mp hp).elim (fun h => by rw [h]; kernel_rfl!) (fun h => by rw [List.mem_singleton.mp h]; kernel_rfl!)) (by intros; kernel_rfl!) (by intros; kernel_rfl!)) (by kernel_rfl!) (by rw [show parN 10 = [("a" : Str), ("x" : Str), ("lo" : Str), ("hi" : Str), ("key" : Str)] by kernel_rfl!]; decide +kernel)
theorem ff91 (P : Params) : FnFacts P 91 11 :=
  ff P 91 11 (o91_0 P) (by kernel_rfl!) (by kernel_rfl!) (by kernel_rfl!) (by kernel_rfl!) (by kernel_rfl!) (by kernel_rfl!) (by kernel_rfl!) (by kernel_rfl!)
    (bis5 (K := [(83, o83_0 P), (84, o84_0 P)]) (t := 379) (n1 := "a") (n2 := "x") (n3 := "lo") (n4 := "hi") (n5 := "key") (by kernel_rfl!) (by kernel_rfl!) (fun p hp => (List.mem_cons.mp hp).elim (fun h => by rw [h]; kernel_rfl!) (fun h => by rw [List.mem_singleton.mp h]; kernel_rfl!)) (by intros; kernel_rfl!) (by intros; kernel_rfl!)) (by kernel_rfl!) (by rw [show parN 11 = [("a" : Str), ("x" : Str), ("lo" : Str), ("hi" : Str), ("key" : Str)] by kernel_rfl!]; decide +kernel)
theorem ff100 (P : Params) : FnFacts P 100 12 :=
  ff P 100 12 (o100_0 P) (by kernel_rfl!) (by kernel_rfl!) (by kernel_rfl!) (by kernel_rfl!) (by kernel_rfl!) (by kernel_rfl!) (by kernel_rfl!) (by kernel_rfl!)
    (bis5 (K := [(92, o92_0 P), (93, o93_0 P)]) (t := 393) (n1 := "a") (n2 := "x") (n3 := "lo") (n4 := "hi") (n5 := "key") (by kernel_rfl!) (by kernel_rfl!) (fun p hp => (List.mem_cons.mp hp).elim (fun h => by rw [h]; kernel_rfl!) (fun h => by rw [List.mem_singleton.mp h]; kernel_rfl!)) (by intros; kernel_rfl!) (by intros; kernel_rfl!)) (by kernel_rfl!) (by rw [show parN 12 = [("a" : Str), ("x" : Str), ("lo" : Str), ("hi" : Str), ("key" : Str)] by kernel_rfl!]; decide +kernel)
theorem ff109 (P : Params) : FnFacts P 109 13 :=
  ff P 109 13 (o109_0 P) (by kernel_rfl!) (by kernel_rfl!) (by kernel_rfl!) (by kernel_rfl!) (by kernel_rfl!) (by kernel_rfl!) (by kernel_rfl!) (by kernel_rfl!)
    (bis5 (K := [(101, o101_0 P), (102, o102_0 P)]) (t := 406) (n1 := "a") (n2 := "x") (n3 := "lo") (n4 := "hi") (n5 := "key") (by kernel_rfl!) (by kernel_rfl!) (fun p hp => (List.mem_cons.mp hp).elim (fun h => by rw [h]; kernel_rfl!) (fun h => by rw [List.mem_singleton.mp h]; kernel_rfl!)) (by intros; kernel_rfl!) (by intros; kernel_rfl!)) (by kernel_rfl!) (by rw [show parN 13 = [("a" : Str), ("x" : Str), ("lo" : Str), ("hi" : Str), ("key" : Str)] by kernel_rfl!]; decide +kernel)
theorem lkN_mem {f i : Nat} : ∀ {l : List (Nat × Nat)}, lkN f l = some i → (f, i) ∈ l
  | (g, j) :: l, h => by
    cases e : f == g with
    | true =>
      replace h : cond (f == g) (some j) _ = some i := h
      rw [e] at h
      cases h
      rw [eq_of_beq e]
      exact .head _
    | false =>
      replace h : cond (f == g) _ (lkN f l) = some i := h
      rw [e] at h
      exact .tail _ (lkN_mem h)
theorem ffAll (P : Params) : ∀ f i, fnAt f = some i → FnFacts P f i := by
  intro f i h
  have all : ∀ p ∈ fnL, FnFacts P p.1 p.2 := List.forall_mem_cons.mpr ⟨ff38 P, List.forall_mem_cons.mpr ⟨ff66 P, List.forall_mem_cons.mpr ⟨ff73 P, List.forall_mem_cons.mpr ⟨ff82 P, List.forall_mem_cons.mpr ⟨ff91 P, List.forall_mem_cons.mpr ⟨ff100 P, List.forall_mem_cons.mpr ⟨ff109 P, List.forall_mem_cons.mpr ⟨ff191 P, List.forall_mem_cons.mpr ⟨ff198 P, List.forall_mem_cons.mpr ⟨ff205 P, List.forall_mem_cons.mpr ⟨ff212 P, fun _ h => nomatch h⟩⟩⟩⟩⟩⟩⟩⟩⟩⟩⟩
  exact all _ (lkN_mem h)
end Mine

namespace Mine
noncomputable def digsN (n : Nat) : Nat → Nat → List V
  | 0, _ => []
  | k + 1, a => .int ((a % 2 ^ n : Nat) : Int) :: digsN n k (a / 2 ^ n)
noncomputable def undigN (n : Nat) : List Int → Int
  | [] => 0
  | a :: l => a + 2 ^ n * undigN n l
noncomputable def qdA : Bool → List Nat → List Nat
  | _, [] => []
  | sk, c :: l => cond (c == 10) (cond sk (qdA false l) (13 :: 10 :: qdA false l)) (cond (c == 13) (13 :: 10 :: qdA true l) (c :: qdA false l))
noncomputable def qd1 (l : List Nat) : List Nat := qdA false l
noncomputable def qd2 : Bool → List Nat → List Nat
  | _, [] => []
  | h, c :: l => cond (h && c == 46) (46 :: 46 :: qd2 false l) (c :: qd2 (c == 10) l)
noncomputable def raw0 (f : Addr) (vs : List V) (mem : Mem) : Option (V × Mem) :=
  cond (f == 52) (match vs with
    | [.int x, .int n] => cond (decide (0 < mem.length) && decide (0 ≤ x) && decide (0 < n) && small x && decide (n ≤ 64)) (some (.list mem.length, mem ++ [digsN n.toNat ((bitsOf x + n.toNat - 1) / n.toNat) x.toNat])) none
    | _ => none) <|
  cond (f == 59) (match vs with
    | [.list j, .int n] => (mem[j]?).bind fun l => (intsOf l).bind fun x => cond (decide (x.length ≤ 64) && lit (x.length * n.toNat) && x.all small && decide (0 < n)) (some (.int (undigN n.toNat x), mem)) none
    | _ => none) <|
  cond (f == 126) (match vs with
    | [.str l] => cond (lit l.length) (some (.str (qd2 true (qd1 l)), mem)) none
    | _ => none) <|
  cond (f == 172) (match vs with
    | [.str [c]] => (lkL c letters).map fun r => (.str r, mem)
    | _ => none) <|
  cond (f == 184) (match vs with
    | [.str [c]] => cond (signs.contains c) (some (.bool true, mem)) ((lkL c letters).map fun _ => (.bool false, mem))
    | _ => none) none
noncomputable abbrev orc0 := orcN raw0
noncomputable def lawRun (k : Nat) (script : List Int) : Option V := ((run ⟨(default : Heap), globT, orc0 k⟩ 300).Ss (fdScope (st 29)) (fdBody (st 29)) [("script", .list 0)] [script.map .int]).map fun r => retV r.1
noncomputable def isT : Option V → Bool | some (.bool true) => true | _ => false
end Mine

section
namespace Mine
theorem bS {α β : Type} {x : Option α} {f : α → Option β} {a : α} {r : Option β} (h : x = some a) (k : f a = r) : x.bind f = r := by subst h; exact k
theorem mS {α β : Type} {x : Option α} {f : α → β} {a : α} (h : x = some a) : x.map f = some (f a) := by subst h; rfl
theorem cS {α : Type} {c : Bool} {x r : Option α} (h : c = true) (k : x = r) : cond c x none = r := by subst h; exact k
theorem cN {α : Type} {c : Bool} {x r : Option α} (h : c = false) (k : x = r) : cond c none x = r := by subst h; exact k
theorem cT {α : Type} {x y r : α} (k : x = r) : cond true x y = r := k
theorem cF {α : Type} {x y r : α} (k : y = r) : cond false x y = r := k
noncomputable def callG (b : Base) (g : V) (vs : List V) (mem : Mem) : Option (V × Mem) := match g with
  | .ref ad => b.orc ad vs mem
  | .blt id => bltV id vs mem
  | _ => none
theorem mSr {x : Option (Ctl × Loc × Mem)} {v : V} {l : Loc} {m : Mem} (h : x = some (.ret v, l, m)) : x.map (fun r => (retV r.1, r.2.2)) = some (v, m) := mS h
section
variable {b : Base} {n : Nat} {sc : Scope} {loc l1 : Loc} {mem m1 m2 m3 : Mem} {e e1 e2 e3 : PySem.Expr} {es : List PySem.Expr} {ss s1 s2 : List Stmt} {pos p p1 p2 : PySem.Pos} {k : Nat} {x y : Str} {u v w : V} {vs us : List V} {c c1 c2 : Bool} {i j : Int} {s t : List Nat} {id : String} {op o2 : CmpOp} {T : String}
theorem E_int : (run b (n + 1)).E sc (.Constant (.int i) k p) loc mem = some (.int i, mem) := rfl
theorem E_str {z : Str} (h : z.cps.toList = s) : (run b (n + 1)).E sc (.Constant (.str z) k p) loc mem = some (.str s, mem) := by subst h; rfl
theorem E_bool : (run b (n + 1)).E sc (.Constant (.bool c) k p) loc mem = some (.bool c, mem) := rfl
theorem E_none : (run b (n + 1)).E sc (.Constant .none k p) loc mem = some (.none, mem) := rfl
theorem E_nam (h : nameV b sc x loc = some v) : (run b (n + 1)).E sc (.Name x p) loc mem = some (v, mem) := mS h
theorem E_bi {op : Operator} {q : V × Mem} (h1 : (run b n).E sc e1 loc mem = some (u, m1)) (h2 : (run b n).E sc e2 loc m1 = some (v, m2)) (h3 : opV op u v m2 = some q) : (run b (n + 1)).E sc (.BinOp e1 op e2 p) loc mem = some q := bS h1 (bS h2 h3)
theorem E_un {op : UnaryOp} (h1 : (run b n).E sc e loc mem = some (u, m1)) (h2 : unV op u = some v) : (run b (n + 1)).E sc (.UnaryOp op e p) loc mem = some (v, m1) := bS h1 (mS h2)
theorem E_if {q : V × Mem} (h1 : (run b n).T sc e loc mem = some (c, m1)) (h2 : cond c ((run b n).E sc e1 loc m1) ((run b n).E sc e2 loc m1) = some q) : (run b (n + 1)).E sc (.IfExp e e1 e2 p) loc mem = some q := bS h1 h2
theorem E_tup (h1 : (run b n).Es sc es loc mem = some (vs, m1)) (h2 : lit vs.length = true) : (run b (n + 1)).E sc (.Tuple es k p) loc mem = some (.tup vs, m1) := bS h1 (cS h2 rfl)
theorem E_lst (h1 : (run b n).Es sc es loc mem = some (vs, m1)) (h2 : lit vs.length = true) : (run b (n + 1)).E sc (.List es p) loc mem = some (.list m1.length, m1 ++ [vs]) := bS h1 (cS h2 rfl)
theorem E_call {a : PySem.Expr} {q : V × Mem} (h1 : nameV b sc x loc = some u) (h2 : (run b n).Es sc (a :: es) loc mem = some (vs, m1)) (h4 : (a :: es).all plainE = true) (h3 : callG b u vs m1 = some q) : (run b (n + 1)).E sc (.Call (.Name x p) (a :: es) [] pos) loc mem = some q := bS h1 (bS h2 (cS h4 h3))
theorem k_ref {ad : Addr} {q : V × Mem} (h : b.orc ad vs mem = some q) : callG b (.ref ad) vs mem = some q := h
theorem k_blt {q : V × Mem} (h : bltV id vs mem = some q) : callG b (.blt id) vs mem = some q := h
theorem E_met {q : V × Mem} (h1 : (!isCall e && p.endLine == pos.line && decide (es.length < 3) && es.all plainE) = true) (h2 : (run b n).E sc e loc mem = some (u, m1)) (h3 : (run b n).Es sc es loc m1 = some (vs, m2)) (h4 : methV x u vs m2 = some q) : (run b (n + 1)).E sc (.Call (.Attribute e x p) es [] pos) loc mem = some q := cS h1 (bS h2 (bS h3 h4))
theorem E_subN (h1 : (run b n).E sc e loc mem = some (u, m1)) (h2 : (run b n).E sc (.Name x p1) loc m1 = some (v, m2)) (h3 : idxV u v m2 = some w) : (run b (n + 1)).E sc (.Subscript e (.Name x p1) p) loc mem = some (w, m2) := bS h1 (bS h2 (mS h3))
theorem E_subB {op : Operator} (h1 : (run b n).E sc e loc mem = some (u, m1)) (h2 : (run b n).E sc (.BinOp e1 op e2 p1) loc m1 = some (v, m2)) (h3 : idxV u v m2 = some w) : (run b (n + 1)).E sc (.Subscript e (.BinOp e1 op e2 p1) p) loc mem = some (w, m2) := bS h1 (bS h2 (mS h3))
theorem E_subC {c : Const} (h1 : (run b n).E sc e loc mem = some (u, m1)) (h2 : (run b n).E sc (.Constant c k p1) loc m1 = some (v, m2)) (h3 : idxV u v m2 = some w) : (run b (n + 1)).E sc (.Subscript e (.Constant c k p1) p) loc mem = some (w, m2) := bS h1 (bS h2 (mS h3))
theorem E_sliL {q : V × Mem} (h1 : (run b n).E sc e loc mem = some (u, m1)) (h2 : (run b n).E sc e1 loc m1 = some (.int i, m2)) (h3 : sliV u (some i) none m2 = some q) : (run b (n + 1)).E sc (.Subscript e (.Slice (some e1) none none p1) p) loc mem = some q := bS h1 (bS h2 h3)
theorem E_sliU {q : V × Mem} (h1 : (run b n).E sc e loc mem = some (u, m1)) (h2 : (run b n).E sc e1 loc m1 = some (.int i, m2)) (h3 : sliV u none (some i) m2 = some q) : (run b (n + 1)).E sc (.Subscript e (.Slice none (some e1) none p1) p) loc mem = some q := bS h1 (bS h2 h3)
theorem Es_nil : (run b (n + 1)).Es sc [] loc mem = some ([], mem) := rfl
theorem Es_cons (h : plainE e = true) (h1 : (run b n).E sc e loc mem = some (u, m1)) (h2 : (run b n).Es sc es loc m1 = some (vs, m2)) : (run b (n + 1)).Es sc (e :: es) loc mem = some (u :: vs, m2) := cS h (bS h1 (mS h2))
theorem nt : (!true) = false := rfl
theorem nf : (!false) = true := rfl
theorem T_not (h1 : (run b n).T sc e loc mem = some (c, m1)) (h : (!c) = c1) : (run b (n + 1)).T sc (.UnaryOp .Not e p) loc mem = some (c1, m1) := by subst h; exact mS h1
theorem T_and {q : Bool × Mem} (h1 : (run b n).T sc e1 loc mem = some (c, m1)) (h2 : cond c ((run b n).T sc e2 loc m1) (some (false, m1)) = some q) : (run b (n + 1)).T sc (.BoolOp .And [e1, e2] p) loc mem = some q := bS h1 h2
theorem T_o {q : Bool × Mem} (h1 : (run b n).T sc e1 loc mem = some (c, m1)) (h2 : cond c (some (true, m1)) ((run b n).T sc e2 loc m1) = some q) : (run b (n + 1)).T sc (.BoolOp .Or [e1, e2] p) loc mem = some q := bS h1 h2
theorem T_cmp (h : behindInMarks op e2 = false) (h1 : (run b n).E sc e1 loc mem = some (u, m1)) (h2 : (run b n).E sc e2 loc m1 = some (v, m2)) (h3 : cmpV op u v m2 = some c) : (run b (n + 1)).T sc (.Compare e1 [op] [e2] p) loc mem = some (c, m2) := cN h (bS h1 (bS h2 (mS h3)))
theorem T_ch {q : Bool × Mem} (h : behindInMarks o2 e3 = false) (h1 : (run b n).E sc e1 loc mem = some (u, m1)) (h2 : (run b n).E sc e2 loc m1 = some (v, m2)) (h3 : cmpV op u v m2 = some c) (h4 : cond c (((run b n).E sc e3 loc m2).bind fun u => (cmpV o2 v u.1 u.2).map fun c => (c, u.2)) (some (false, m2)) = some q) : (run b (n + 1)).T sc (.Compare e1 [op, o2] [e2, e3] p) loc mem = some q := cN h (bS h1 (bS h2 (bS h3 h4)))
theorem ch2 (h1 : (run b n).E sc e loc m1 = some (u, m2)) (h2 : cmpV op v u m2 = some c) : ((run b n).E sc e loc m1).bind (fun u => (cmpV op v u.1 u.2).map fun c => (c, u.2)) = some (c, m2) := bS h1 (mS h2)
theorem T_call {a : List Keyword} (h1 : (run b n).E sc (.Call e es a p) loc mem = some (.bool c, m1)) : (run b (n + 1)).T sc (.Call e es a p) loc mem = some (c, m1) := bS h1 rfl
theorem S_asg (hk : kindOk sc x = true) (hc : isComp e = false) (h : (run b n).E sc e loc mem = some (u, m1)) : (run b (n + 1)).S sc (.Assign [.Name x p1] e p) loc mem = some (.next, putL x u loc, m1) := cS hk (by show cond (isComp e) _ _ = _; rw [hc]; exact mS h)
theorem S_unp {xs : List Str} (hE : (run b n).E sc e loc mem = some (.tup vs, m1)) (hc : isComp e = false) (hn : namesOf es = some xs) (hw : swapS sc es e = some none) (hp : putAll sc xs vs loc = some l1) : (run b (n + 1)).S sc (.Assign [.Tuple es k p1] e p) loc mem = some (.next, l1, m1) := cN hc (bS hE (bS hn (bS hw (mS hp))))
theorem S_unC {f : PySem.Expr} {as : List PySem.Expr} {ks : List Keyword} {xs : List Str} (hE : (run b n).E sc (.Call f as ks p2) loc mem = some (.tup vs, m1)) (hn : namesOf es = some xs) (hp : putAll sc xs vs loc = some l1) : (run b (n + 1)).S sc (.Assign [.Tuple es k p1] (.Call f as ks p2) p) loc mem = some (.next, l1, m1) := S_unp hE rfl hn rfl hp
theorem S_unN {xs : List Str} (hE : (run b n).E sc (.Name x p2) loc mem = some (.tup vs, m1)) (hn : namesOf es = some xs) (hp : putAll sc xs vs loc = some l1) : (run b (n + 1)).S sc (.Assign [.Tuple es k p1] (.Name x p2) p) loc mem = some (.next, l1, m1) := S_unp hE rfl hn rfl hp
theorem nmo0 : namesOf [] = some [] := rfl
theorem nmo1 {xs : List Str} (h : namesOf es = some xs) : namesOf (.Name x p :: es) = some (x :: xs) := mS h
theorem pA0 : putAll sc [] [] loc = some loc := rfl
theorem pA1 {xs : List Str} (hk : kindOk sc x = true) (h : putAll sc xs vs (putL x v loc) = some l1) : putAll sc (x :: xs) (v :: vs) loc = some l1 := cS hk h
theorem S_ite {q : Ctl × Loc × Mem} (h1 : (run b n).T sc e loc mem = some (c, m1)) (h2 : cond c ((run b n).Ss sc s1 loc m1) ((run b n).Ss sc s2 loc m1) = some q) : (run b (n + 1)).S sc (.If e s1 s2 p) loc mem = some q := bS h1 h2
theorem S_ret (h : (run b n).E sc e loc mem = some (u, m1)) : (run b (n + 1)).S sc (.Return (some e) p) loc mem = some (.ret u, loc, m1) := mS h
theorem S_exp (hc : isComp e = false) (h : (run b n).E sc e loc mem = some (.none, m1)) : (run b (n + 1)).S sc (.Expr e p) loc mem = some (.next, loc, m1) := bS h (by show cond (!isComp e) _ _ = _; rw [hc]; rfl)
theorem S_fo {w : Wk} {q : Ctl × Loc × Mem} (hs : isSet e = false) (h : (run b n).I sc e loc mem = some (w, m1)) (h2 : (run b n).F sc x w ss loc m1 = some q) : (run b (n + 1)).S sc (.For (.Name x p1) e ss [] p) loc mem = some q := cN hs (bS h h2)
theorem S_foE {w : Wk} (hs : isSet e = false) (h : (run b n).I sc e loc mem = some (w, m1)) : (run b (n + 1)).S sc (.For (.Name x p1) e ss [] p) loc mem = (run b n).F sc x w ss loc m1 := cN hs (bS h rfl)
theorem Ss_nil : (run b (n + 1)).Ss sc [] loc mem = some (.next, loc, mem) := rfl
theorem Ss_nx {s : Stmt} {q : Ctl × Loc × Mem} (h : (run b n).S sc s loc mem = some (.next, l1, m1)) (h2 : (run b n).Ss sc ss l1 m1 = some q) : (run b (n + 1)).Ss sc (s :: ss) loc mem = some q := bS h h2
theorem Ss_rt {s : Stmt} (h : (run b n).S sc s loc mem = some (.ret v, l1, m1)) : (run b (n + 1)).Ss sc (s :: ss) loc mem = some (.ret v, l1, m1) := bS h rfl
theorem Ss_rR {o : Option PySem.Expr} (h : (run b n).S sc (.Return o p) loc mem = some (.ret v, l1, m1)) : (run b (n + 1)).Ss sc (.Return o p :: ss) loc mem = some (.ret v, l1, m1) := Ss_rt h
theorem Ss_one {s : Stmt} {q : Ctl × Loc × Mem} (h : (run b (n + 1)).S sc s loc mem = some q) : (run b (n + 2)).Ss sc [s] loc mem = some q := bS h (by obtain ⟨c, l, m⟩ := q; cases c <;> rfl)
theorem Ss_1I {q : Ctl × Loc × Mem} (h : (run b (n + 1)).S sc (.If e s1 s2 p) loc mem = some q) : (run b (n + 2)).Ss sc [.If e s1 s2 p] loc mem = some q := Ss_one h
theorem I_va {i : Nat} (hr : isRange b sc loc e = none) (hs : isSet e = false) (h : (run b n).E sc e loc mem = some (.list i, m1)) : (run b (n + 1)).I sc e loc mem = some (.lst i 0, m1) := by
  show (match isRange b sc loc e with | some (T, args) => _ | none => _) = _
  rw [hr]; exact cN hs (bS h rfl)
theorem I_chr {i : List Nat} (hr : isRange b sc loc e = none) (hs : isSet e = false) (h : (run b n).E sc e loc mem = some (.str i, m1)) : (run b (n + 1)).I sc e loc mem = some (.chars i, m1) := by
  show (match isRange b sc loc e with | some (T, args) => _ | none => _) = _
  rw [hr]; exact cN hs (bS h rfl)
theorem I_vaN {i : Nat} (h : (run b n).E sc (.Name x p) loc mem = some (.list i, m1)) : (run b (n + 1)).I sc (.Name x p) loc mem = some (.lst i 0, m1) := I_va rfl rfl h
theorem I_chS (h : (run b n).E sc (.Subscript e e1 p) loc mem = some (.str s, m1)) : (run b (n + 1)).I sc (.Subscript e e1 p) loc mem = some (.chars s, m1) := I_chr rfl rfl h
theorem isR {a : PySem.Expr} (hr : nameV b sc x loc = some (.typ T)) (hp : (a :: es).all plainE = true) : isRange b sc loc (.Call (.Name x p1) (a :: es) [] p) = some (T, a :: es) := by
  show (match nameV b sc x loc with | some (.typ T) => _ | _ => _) = _
  rw [hr]; exact cS hp rfl
theorem I_rng {a : PySem.Expr} (hr : nameV b sc x loc = some (.typ "range")) (hp : (a :: es).all plainE = true) (h : (run b n).Es sc (a :: es) loc mem = some ([.int i], m1)) (h0 : (decide (0 ≤ i) && decide (i ≤ 1000)) = true) : (run b (n + 1)).I sc (.Call (.Name x p1) (a :: es) [] p) loc mem = some (.rng (rangeL 0 i.toNat), m1) := by
  show (match isRange b sc loc _ with | some (T, args) => _ | none => _) = _
  rw [isR hr hp]; exact bS h (cT (cS h0 rfl))
theorem I_rev {a : PySem.Expr} {i : Nat} (hr : nameV b sc x loc = some (.typ "reversed")) (hp : (a :: es).all plainE = true) (h : (run b n).Es sc (a :: es) loc mem = some ([.list i], m1)) (h0 : m1[i]? = some vs) : (run b (n + 1)).I sc (.Call (.Name x p1) (a :: es) [] p) loc mem = some (.rev i vs.length, m1) := by
  show (match isRange b sc loc _ with | some (T, args) => _ | none => _) = _
  rw [isR hr hp]; exact bS h (mS h0)
theorem n_loc (hd : sEq x "__debug__" = false) (hk : lkb x sc.names = some .local) (h : lkb x loc = some v) : nameV b sc x loc = some v := by
  unfold nameV
  rw [hd, cond_false, hk]
  exact h
theorem n_glo (hd : sEq x "__debug__" = false) (hk : lkb x sc.names = some .globalImplicit) (h : b.glob x = some v) : nameV b sc x loc = some v := by
  unfold nameV
  rw [hd, cond_false, hk]
  exact h
theorem lkS {α : Type} {v : α} {l : List (Str × α)} (h : sEq x y = true) : lkb x ((y, v) :: l) = some v := by rw [lkb, h]; rfl
theorem lkR {α : Type} {u v : α} {l : List (Str × α)} (h : sEq x y = false) (h1 : lkb x l = some v) : lkb x ((y, u) :: l) = some v := by rw [lkb, h]; exact h1
theorem lkb_put (x y : Str) (v : V) (l : Loc) : lkb y (putL x v l) = cond (sEq y x) (some v) (lkb y l) := by
  rw [lkb_eq, putL_lookup, lkb_eq]
  by_cases h : y = x
  · rw [if_pos h, h, sEq_iff.mpr rfl]; rfl
  · rw [if_neg h]
    cases e : sEq y x with
    | true => exact absurd (sEq_iff.mp e) h
    | false => rfl
theorem pkS (h : sEq x y = true) : lkb x (putL y v loc) = some v := by rw [lkb_put, h]; rfl
theorem pkR (h : sEq x y = false) (h1 : lkb x loc = some v) : lkb x (putL y u loc) = some v := by rw [lkb_put, h]; exact h1
theorem o_add : opV .Add (.int i) (.int j) mem = some (.int (i + j), mem) := rfl
theorem o_sub : opV .Sub (.int i) (.int j) mem = some (.int (i - j), mem) := rfl
theorem o_mul (h : small i = true) : opV .Mult (.int i) (.int j) mem = some (.int (i * j), mem) := mS (cS h rfl)
theorem o_div (h : small j = true) (h0 : (j == 0) = false) : opV .FloorDiv (.int i) (.int j) mem = some (.int (i.fdiv j), mem) := mS (cS (by rw [h, h0]; rfl) rfl)
theorem o_mod (h0 : (j == 0) = false) : opV .Mod (.int i) (.int j) mem = some (.int (i.fmod j), mem) := mS (cN h0 rfl)
theorem o_shl (h : small i = true) (h0 : decide (0 ≤ j) = true) (h1 : decide (j ≤ 1000) = true) : opV .LShift (.int i) (.int j) mem = some (.int (i * 2 ^ j.toNat), mem) := mS (cS (by rw [h, h0, h1]; rfl) rfl)
theorem o_shlN {N : Nat} (h : small i = true) (h0 : decide (0 ≤ (N : Int)) = true) (h1 : decide ((N : Int) ≤ 1000) = true) : opV .LShift (.int i) (.int N) mem = some (.int (i * 2 ^ N), mem) := o_shl h h0 h1
theorem o_addE {z : Int} (h : i + j = z) : opV .Add (.int i) (.int j) mem = some (.int z, mem) := h ▸ rfl
theorem o_subE {z : Int} (h : i - j = z) : opV .Sub (.int i) (.int j) mem = some (.int z, mem) := h ▸ rfl
theorem o_mulE {z : Int} (e : i * j = z) (h : small i = true) : opV .Mult (.int i) (.int j) mem = some (.int z, mem) := e ▸ o_mul h
theorem o_divE {z : Int} (e : i.fdiv j = z) (h : small j = true) (h0 : (j == 0) = false) : opV .FloorDiv (.int i) (.int j) mem = some (.int z, mem) := e ▸ o_div h h0
theorem o_modE {z : Int} (e : i.fmod j = z) (h0 : (j == 0) = false) : opV .Mod (.int i) (.int j) mem = some (.int z, mem) := e ▸ o_mod h0
theorem o_cat (h : lit s.length = true) (h1 : lit t.length = true) : opV .Add (.str s) (.str t) mem = some (.str (s ++ t), mem) := cS (by rw [h, h1]; rfl) rfl
theorem o_rep (h : lit s.length = true) (h0 : decide (0 ≤ i) = true) (h1 : decide (i ≤ 1000) = true) : opV .Mult (.str s) (.int i) mem = some (.str (repS s i.toNat), mem) := cS (by rw [h, h0, h1]; rfl) rfl
theorem u_neg : unV .USub (.int i) = some (.int (-i)) := rfl
theorem u_inv : unV .Invert (.int i) = some (.int (-i - 1)) := rfl
theorem c_eq (h : (i == j) = c) : cmpV .Eq (.int i) (.int j) mem = some c := by subst h; rfl
theorem c_ne (h : (i == j) = c) (h2 : (!c) = c1) : cmpV .NotEq (.int i) (.int j) mem = some c1 := by subst h h2; rfl
theorem c_lt (h : decide (i < j) = c) : cmpV .Lt (.int i) (.int j) mem = some c := by subst h; rfl
theorem c_le (h : decide (i ≤ j) = c) : cmpV .LtE (.int i) (.int j) mem = some c := by subst h; rfl
theorem c_gt (h : decide (j < i) = c) : cmpV .Gt (.int i) (.int j) mem = some c := by subst h; rfl
theorem c_ge (h : decide (j ≤ i) = c) : cmpV .GtE (.int i) (.int j) mem = some c := by subst h; rfl
theorem c_seq (h : (s == t) = c) : cmpV .Eq (.str s) (.str t) mem = some c := by subst h; rfl
theorem c_sne (h : (s == t) = c) (h2 : (!c) = c1) : cmpV .NotEq (.str s) (.str t) mem = some c1 := by subst h h2; rfl
theorem x_lst {i : Nat} (h : mem[i]? = some vs) (h0 : (decide (0 ≤ j) && decide (j < 2 ^ 63)) = true) (h1 : vs[j.toNat]? = some v) : idxV (.list i) (.int j) mem = some v := cS h0 (bS h h1)
theorem x_tup (h0 : (decide (0 ≤ j) && decide (j < 2 ^ 63)) = true) (h1 : vs[j.toNat]? = some v) : idxV (.tup vs) (.int j) mem = some v := cS h0 h1
theorem b_len {i : Nat} (h : mem[i]? = some vs) (h0 : lit vs.length = true) : bltV "len" [.list i] mem = some (.int vs.length, mem) := by
  show ((mem[i]?).bind _) = _
  exact bS h (cS h0 rfl)
theorem b_chr (h : (decide (0 ≤ i) && decide (i ≤ 1114111)) = true) : bltV "chr" [.int i] mem = some (.str [i.toNat], mem) := cS h rfl
theorem b_chrN {N : Nat} (h : (decide (0 ≤ (N : Int)) && decide ((N : Int) ≤ 1114111)) = true) : bltV "chr" [.int N] mem = some (.str [N], mem) := cS h rfl
theorem b_dm (h : small j = true) (h0 : decide (0 < j) = true) : bltV "divmod" [.int i, .int j] mem = some (.tup [.int (i.fdiv j), .int (i.fmod j)], mem) := cS (by rw [h, h0]; rfl) rfl
theorem m_app {i : Nat} (h : mem[i]? = some vs) (h0 : lit vs.length = true) (h1 : (i == 0) = false) : methV "append" (.list i) [v] mem = some (.none, mem.set i (vs ++ [v])) := bS h (cS (by rw [h0, h1]; rfl) rfl)
theorem m_rev {i : Nat} (h : mem[i]? = some vs) (h0 : lit vs.length = true) (h1 : (i == 0) = false) : methV "reverse" (.list i) [] mem = some (.none, mem.set i vs.reverse) := bS h (cS (by rw [h0, h1]; rfl) rfl)
theorem m_bits : methV "bit_length" (.int i) [] mem = some (.int (bitsOf i), mem) := rfl
theorem m_bitsE {N : Nat} (h : bitsOf i = N) : methV "bit_length" (.int i) [] mem = some (.int N, mem) := h ▸ rfl
theorem m_cnt (h : lit s.length = true) : methV "count" (.str s) [.str t] mem = some (.int (Txt.count (mkS s) (mkS t)), mem) := cS h rfl
theorem o_repN {N : Nat} (h : lit s.length = true) (h0 : decide (0 ≤ (N : Int)) = true) (h1 : decide ((N : Int) ≤ 1000) = true) : opV .Mult (.str s) (.int N) mem = some (.str (repS s N), mem) := o_rep h h0 h1
theorem s_low (h : lit s.length = true) (h0 : (decide (0 ≤ i) && decide (i < 2 ^ 60)) = true) : sliV (.str s) (some i) none mem = some (.str (s.drop i.toNat), mem) := cS h (mS (cS h0 rfl))
theorem s_lowN {N : Nat} (h : lit s.length = true) (h0 : (decide (0 ≤ (N : Int)) && decide ((N : Int) < 2 ^ 60)) = true) : sliV (.str s) (some (N : Int)) none mem = some (.str (s.drop N), mem) := s_low h h0
end
theorem g_DIV_LIMIT : globT "_DIV_LIMIT" = some (.int 4000) := by kernel_rfl!
theorem g_div2n1n : globT "_div2n1n" = some (.ref 38) := by kernel_rfl!
theorem g_int2digits : globT "_int2digits" = some (.ref 52) := by kernel_rfl!
theorem g_digits2int : globT "_digits2int" = some (.ref 59) := by kernel_rfl!
theorem g_divmod_pos : globT "_divmod_pos" = some (.ref 66) := by kernel_rfl!
theorem g_int_divmod : globT "int_divmod" = some (.ref 73) := by kernel_rfl!
theorem g_insort_right : globT "insort_right" = some (.ref 82) := by kernel_rfl!
theorem g_bisect_right : globT "bisect_right" = some (.ref 91) := by kernel_rfl!
theorem g_insort_left : globT "insort_left" = some (.ref 100) := by kernel_rfl!
theorem g_bisect_left : globT "bisect_left" = some (.ref 109) := by kernel_rfl!
theorem g_quotedata : globT "quotedata" = some (.ref 126) := by kernel_rfl!
theorem g_map_table_b3 : globT "map_table_b3" = some (.ref 172) := by kernel_rfl!
theorem g_in_table_c6 : globT "in_table_c6" = some (.ref 184) := by kernel_rfl!
theorem g_law_mail : globT "_law_mail" = some (.ref 191) := by kernel_rfl!
theorem g_law_forms : globT "_law_forms" = some (.ref 198) := by kernel_rfl!
theorem g_law_moved : globT "_law_moved" = some (.ref 205) := by kernel_rfl!
theorem g_law_led_back : globT "_law_led_back" = some (.ref 212) := by kernel_rfl!
theorem g_len : globT "len" = some (.blt "len") := by kernel_rfl!
theorem g_chr : globT "chr" = some (.blt "chr") := by kernel_rfl!
theorem g_sum : globT "sum" = some (.blt "sum") := by kernel_rfl!
theorem g_sorted : globT "sorted" = some (.blt "sorted") := by kernel_rfl!
theorem g_divmod : globT "divmod" = some (.blt "divmod") := by kernel_rfl!
theorem g_range : globT "range" = some (.typ "range") := by kernel_rfl!
theorem g_reversed : globT "reversed" = some (.typ "reversed") := by kernel_rfl!
end Mine
end

namespace Mine
theorem ofString_inj {s t : String} (h : Str.ofString s = Str.ofString t) : s = t := by
  rw [Str.ofString_eq_toList, Str.ofString_eq_toList] at h
  injection h with h
  replace h := List.toArray_inj h
  have h : s.toList = t.toList := by
    have inj : ∀ (l m : List Char), l.map Char.toNat = m.map Char.toNat → l = m := by
      intro l
      induction l with
      | nil => intro m h; induction m using List.casesOn with
        | nil => rfl
        | cons _ _ => cases h
      | cons a l ih => intro m h; induction m using List.casesOn with
        | nil => cases h
        | cons b m =>
          rw [List.map_cons, List.map_cons, List.cons.injEq] at h
          have : a = b := by
            have h1 := h.1
            exact Char.ext (UInt32.toNat_inj.mp h1)
          rw [this, ih m h.2]
    exact inj _ _ h
  exact String.toList_inj.mp h
theorem sEq_lit (s t : String) : sEq (Str.ofString s) (Str.ofString t) = decide (s = t) := by
  by_cases h : s = t
  · subst h
    rw [decide_eq_true rfl]
    exact sEq_iff.mpr rfl
  · rw [decide_eq_false h]
    cases e : sEq (Str.ofString s) (Str.ofString t) with
    | false => rfl
    | true => exact absurd (ofString_inj (sEq_iff.mp e)) h
theorem orcN_fn {raw : Raw} {k f i : Nat} {vs : List V} {mem : Mem} {loc : Loc} (h1 : raw f vs mem = none) (h2 : fnAt f = some i) (h3 : zipN (parN i) (argsOf f vs) = some loc) :
    orcN raw (k + 1) f vs mem = ((run ⟨(default : Heap), globT, orcN raw k⟩ 300).Ss (fdScope (st i)) (fdBody (st i)) loc mem).map fun r => (retV r.1, r.2.2) := by
  rw [orcN, h1]
  show (fnAt f).bind _ = _
  rw [h2, Option.bind_some, h3, Option.bind_some]
theorem orcN_raw {raw : Raw} {k f : Nat} {vs : List V} {mem : Mem} {r : V × Mem} (h1 : raw f vs mem = some r) : orcN raw (k + 1) f vs mem = some r := by
  rw [orcN, h1]
theorem mget_last (m : Mem) (x : List V) : (m ++ [x])[m.length]? = some x := by simp
theorem mget_prev (m : Mem) (x y : List V) : (m ++ [x] ++ [y])[m.length]? = some x := by simp
theorem mset_last (m : Mem) (x y : List V) : (m ++ [x]).set m.length y = m ++ [y] := by simp
theorem orcN_r {raw : Raw} {k f i : Nat} {vs : List V} {mem m : Mem} {loc l : Loc} {v : V} {ss : List Stmt} (h1 : raw f vs mem = none) (h2 : fnAt f = some i) (h3 : zipN (parN i) (argsOf f vs) = some loc) (hB : fdBody (st i) = ss) (h : (run ⟨(default : Heap), globT, orcN raw k⟩ 300).Ss (fdScope (st i)) ss loc mem = some (.ret v, l, m)) : orcN raw (k + 1) f vs mem = some (v, m) := by
  subst hB
  exact (orcN_fn h1 h2 h3).trans (mS h)
theorem div2n1n_ok (k : Nat) (a c n : Int) (mem : Mem) (h1 : (bitsOf a : Int) - n ≤ 4000) (h2 : small c = true) (h3 : 0 < c) :
    orc0 (k + 1) 38 [.int a, .int c, .int n] mem = some (.tup [.int (a.fdiv c), .int (a.fmod c)], mem) := by
  have e1 : decide ((bitsOf a : Int) - n ≤ 4000) = true := decide_eq_true h1
  have e2 : decide (0 < c) = true := decide_eq_true h3
  apply orcN_r (raw := raw0) (i := 3) (loc := [("a", .int a), ("b", .int c), ("n", .int n)]) rfl (by kernel_rfl!) (by kernel_rfl!) (rfl : _ = _ :: List.tail (fdBody (st 3)))
  apply Ss_rt
  repeat' (first | (with_reducible (show _ = _; assumption)) | (with_reducible (show some _ = some _; rfl)) | (with_reducible first | apply E_nam | apply E_bi | apply E_met | apply E_call | apply k_blt | apply Es_nil | apply Es_cons | apply T_cmp | apply S_ite | apply S_ret | apply Ss_rR | apply cT | apply o_sub | apply c_le | apply b_dm | apply m_bits) | (with_reducible first | exact g_DIV_LIMIT | exact g_divmod) | (apply n_loc; kernel_rfl!; kernel_rfl!) | (apply n_glo; kernel_rfl!; kernel_rfl!) | (apply lkS; kernel_rfl!) | (apply lkR; kernel_rfl!) | kernel_rfl!)
end Mine

namespace Mine
theorem lit0 : lit 0 = true := rfl
noncomputable def sx (i j : Nat) : Stmt := (fdBody (st i)).getD j (.Pass default)
noncomputable def forBody : Stmt → List Stmt | .For _ _ b _ _ => b | .While _ b _ _ => b | _ => []
theorem bits_lt (x : Int) (n : Nat) (h : x.natAbs < 2 ^ n) : bitsOf x ≤ n := by
  unfold bitsOf Builtin.Int.intBits
  split
  · exact ar371
  · rename_i h0
    have h1 : x.natAbs ≠ 0 := by simpa using h0
    have := (Nat.log2_lt h1).mpr h
    exact ar372 this
theorem lt_bits (x : Int) : x.natAbs < 2 ^ bitsOf x := by
  unfold bitsOf Builtin.Int.intBits
  split
  · rename_i h0
    have : x = 0 := by simpa using h0
    subst this; decide
  · rename_i h0
    have h1 : x.natAbs ≠ 0 := by simpa using h0
    exact (Nat.log2_lt h1).mp (Nat.lt_succ_self _)
theorem turn66 (k n : Nat) (loc : Loc) (mem : Mem) (c r d : Int) (N : Nat) (qi : Nat) (qs : List V)
    (h1 : lkb "b" loc = some (.int c)) (h2 : lkb "n" loc = some (.int N)) (h3 : lkb "r" loc = some (.int r)) (h4 : lkb "q_digits" loc = some (.list qi)) (h5 : lkb "a_digit" loc = some (.int d))
    (hq : mem[qi]? = some qs) (hl : lit qs.length = true) (hq0 : (qi == 0) = false) (hc : small c = true) (hc0 : 0 < c) (hr : small r = true) (hN : N ≤ 1000) (hb : (bitsOf (r * 2 ^ N + d) : Int) - N ≤ 4000) :
    (run ⟨(default : Heap), globT, orc0 (k + 1)⟩ (n + 12)).Ss (fdScope (st 7)) (forBody (sx 7 4)) loc mem = some (.next, putL "r" (.int ((r * 2 ^ N + d).fmod c)) (putL "q_digit" (.int ((r * 2 ^ N + d).fdiv c)) loc), mem.set qi (qs ++ [.int ((r * 2 ^ N + d).fdiv c)])) := by
  have hB : forBody (sx 7 4) = [_, _] := rfl
  rw [hB]
  clear hB
  have e1 : decide (0 ≤ (N : Int)) = true := decide_eq_true (ar373 hN)
  have e2 : decide ((N : Int) ≤ 1000) = true := decide_eq_true (ar59 hN)
  have e3 : orcN raw0 _ 38 _ _ = _ := div2n1n_ok k (r * 2 ^ N + d) c N mem hb hc hc0
  repeat' (first | (with_reducible (show _ = _; assumption)) | (with_reducible (show some _ = some _; rfl)) | (with_reducible first | apply E_nam | apply E_bi | apply E_met | apply E_call | apply k_ref | apply Es_nil | apply Es_cons | apply S_unC | apply nmo0 | apply nmo1 | apply pA0 | apply pA1 | apply S_exp | apply Ss_nx | apply Ss_nil | apply o_add | apply o_shlN | apply m_app) | (with_reducible first | exact g_div2n1n) | (apply n_loc; kernel_rfl!; kernel_rfl!) | (apply n_glo; kernel_rfl!; kernel_rfl!) | (apply pkS; kernel_rfl!) | (apply pkR; kernel_rfl!) | kernel_rfl!)
theorem undigN_append (N : Nat) : ∀ (l m : List Int), undigN N (l ++ m) = undigN N l + 2 ^ (N * l.length) * undigN N m
  | [], m => by simp [undigN]
  | a :: l, m => by
    rw [List.cons_append, undigN, undigN, undigN_append N l m, List.length_cons, Nat.mul_succ, Int.pow_add, Int.mul_add, Int.add_assoc]
    congr 2
    simp only [Int.mul_assoc, Int.mul_comm, Int.mul_left_comm]
theorem intsOf_map : ∀ l : List Int, intsOf (l.map .int) = some l
  | [] => rfl
  | a :: l => by rw [List.map_cons, intsOf, intsOf_map l]; rfl
theorem set_id {m : Mem} {i : Nat} {x : List V} (h : m[i]? = some x) : m.set i x = m := by
  obtain ⟨hi, e⟩ := List.getElem?_eq_some_iff.mp h
  rw [← e]; exact List.set_getElem_self hi
theorem set_same (m : Mem) (i : Nat) (x y : List V) : (m.set i x).set i y = m.set i y := List.set_set ..
theorem loop66 (k : Nat) (c : Int) (N : Nat) (di qi : Nat) (ds : List Int) (hc : small c = true) (hc0 : 0 < c) (hN : N ≤ 64) (hcN : c < 2 ^ N) (hds : ∀ d ∈ ds, 0 ≤ d ∧ d < 2 ^ N) (hdl : ds.length ≤ 100) (hq0 : (qi == 0) = false) (hdq : di ≠ qi) : ∀ (j n : Nat) (loc : Loc) (mem : Mem) (r : Int) (qs : List Int),
    j + 20 ≤ n → j ≤ ds.length → qs.length + j ≤ 100 → 0 ≤ r → r < c → lkb "b" loc = some (.int c) → lkb "n" loc = some (.int N) → lkb "r" loc = some (.int r) → lkb "q_digits" loc = some (.list qi) → mem[di]? = some (ds.map .int) → mem[qi]? = some (qs.map .int) →
    ∃ (loc' : Loc) (nq : List Int) (r' : Int), (run ⟨(default : Heap), globT, orc0 (k + 1)⟩ n).F (fdScope (st 7)) "a_digit" (.rev di j) (forBody (sx 7 4)) loc mem = some (.next, loc', mem.set qi ((qs ++ nq).map .int)) ∧
      lkb "b" loc' = some (.int c) ∧ lkb "n" loc' = some (.int N) ∧ lkb "r" loc' = some (.int r') ∧ lkb "q_digits" loc' = some (.list qi) ∧ nq.length = j ∧ 0 ≤ r' ∧ r' < c ∧ undigN N nq.reverse * c + r' = r * 2 ^ (N * j) + undigN N (ds.take j) ∧ ∀ q ∈ nq, small q = true := by
  intro j
  induction j with
  | zero =>
    intro n loc mem r qs hn hj hql hr0 hrc h1 h2 h3 h4 hd hq
    obtain ⟨n, rfl⟩ : ∃ m, n = m + 1 := ⟨n - 1, ar374 hn⟩
    refine ⟨loc, [], r, ?_, h1, h2, h3, h4, rfl, hr0, hrc, by simp [undigN], fun q hq => by cases hq⟩
    have e : mem.set qi ((qs ++ []).map .int) = mem := by
      rw [List.append_nil]
      exact set_id hq
    rw [e]
    rfl
  | succ j ih =>
    intro n loc mem r qs hn hj hql hr0 hrc h1 h2 h3 h4 hd hq
    obtain ⟨n, rfl⟩ : ∃ m, n = m + 13 := ⟨n - 13, ar375 hdl hn hj⟩
    have hjlt : j < ds.length := ar16 hj
    obtain ⟨d, hdj⟩ : ∃ d, ds[j]? = some d := ⟨ds[j], List.getElem?_eq_getElem hjlt⟩
    have hdb := hds d (List.mem_of_getElem? hdj)
    have hx0 : 0 ≤ r * 2 ^ N + d := Int.add_nonneg (Int.mul_nonneg hr0 (Int.pow_nonneg (by decide))) hdb.1
    have hx1 : r * 2 ^ N + d < c * 2 ^ N := by
      have : (r + 1) * 2 ^ N ≤ c * 2 ^ N := Int.mul_le_mul_of_nonneg_right (ar376 hrc) (Int.pow_nonneg (by decide))
      rw [Int.add_mul, Int.one_mul] at this
      exact ar377 hdb this
    have hsr : small r = true := by
      unfold small at hc ⊢
      have := of_decide_eq_true hc
      exact decide_eq_true (ar378 hc0 hr0 hrc this)
    have hbits : (bitsOf (r * 2 ^ N + d) : Int) - N ≤ 4000 := by
      have h5 : r * 2 ^ N + d < 2 ^ (N + N) := by
        rw [Int.pow_add]
        exact Int.lt_of_lt_of_le hx1 (Int.mul_le_mul_of_nonneg_right (ar379 hcN) (Int.pow_nonneg (by decide)))
      have h6 : (r * 2 ^ N + d).natAbs < 2 ^ (N + N) := by
        have : ((r * 2 ^ N + d).natAbs : Int) < ((2 ^ (N + N) : Nat) : Int) := by
          rw [Int.natAbs_of_nonneg hx0, Int.natCast_pow]; exact h5
        exact Int.ofNat_lt.mp this
      have := bits_lt _ _ h6
      exact ar380 hN this
    have hnx : nextW mem (.rev di (j + 1)) = some (some (.int d, .rev di j)) := by
      rw [nextW, hd, Option.bind_some, List.getElem?_map, hdj]; rfl
    have ht := turn66 k n (putL "a_digit" (.int d) loc) mem c r d N qi (qs.map .int) (by repeat' first | with_reducible assumption | (apply pkS; kernel_rfl!) | (apply pkR; kernel_rfl!)) (by repeat' first | with_reducible assumption | (apply pkS; kernel_rfl!) | (apply pkR; kernel_rfl!)) (by repeat' first | with_reducible assumption | (apply pkS; kernel_rfl!) | (apply pkR; kernel_rfl!)) (by repeat' first | with_reducible assumption | (apply pkS; kernel_rfl!) | (apply pkR; kernel_rfl!)) (by repeat' first | with_reducible assumption | (apply pkS; kernel_rfl!) | (apply pkR; kernel_rfl!)) hq (by unfold lit; rw [List.length_map]; exact decide_eq_true (ar381 hdl hj hql)) hq0 hc hc0 hsr (ar114 hN) hbits
    generalize hq1 : (r * 2 ^ N + d).fdiv c = q1 at ht
    generalize hr1 : (r * 2 ^ N + d).fmod c = r1 at ht
    have hdm : q1 * c + r1 = r * 2 ^ N + d := by rw [← hq1, ← hr1, Int.mul_comm]; exact Int.mul_fdiv_add_fmod ..
    have hr1b : 0 ≤ r1 ∧ r1 < c := by rw [← hr1]; exact ⟨Int.fmod_nonneg_of_pos _ hc0, Int.fmod_lt_of_pos _ hc0⟩
    have hqi : qi < mem.length := (List.getElem?_eq_some_iff.mp hq).1
    obtain ⟨loc', nq, r', e1, e2, e3, e4, e5, e6, e7, e8, e9, e0⟩ := ih (n + 12) (putL "r" (.int r1) (putL "q_digit" (.int q1) (putL "a_digit" (.int d) loc))) (mem.set qi (qs.map .int ++ [.int q1])) r1 (qs ++ [q1]) (ar382 hn) (ar15 hj) (by rw [List.length_append, List.length_singleton]; exact ar300 hql) hr1b.1 hr1b.2
      (by repeat' first | with_reducible assumption | (apply pkS; kernel_rfl!) | (apply pkR; kernel_rfl!)) (by repeat' first | with_reducible assumption | (apply pkS; kernel_rfl!) | (apply pkR; kernel_rfl!)) (by repeat' first | with_reducible assumption | (apply pkS; kernel_rfl!) | (apply pkR; kernel_rfl!)) (by repeat' first | with_reducible assumption | (apply pkS; kernel_rfl!) | (apply pkR; kernel_rfl!))
      (by rw [List.getElem?_set_ne (Ne.symm hdq)]; exact hd) (by rw [List.getElem?_set_self hqi, List.map_append]; rfl)
    refine ⟨loc', q1 :: nq, r', ?_, e2, e3, e4, e5, by rw [List.length_cons, e6], e7, e8, ?_, ?_⟩
    · show stepF (run _ (n + 12)) _ _ _ _ _ _ = _
      unfold stepF
      rw [hnx, Option.bind_some]
      show cond (kindOk (fdScope (st 7)) "a_digit") _ none = _
      rw [show kindOk (fdScope (st 7)) "a_digit" = true by kernel_rfl!, cond_true, ht, Option.bind_some]
      show (run _ (n + 12)).F _ _ _ _ _ _ = _
      rw [e1, set_same, List.append_assoc]
      rfl
    · rw [List.reverse_cons, undigN_append, List.length_reverse, e6, List.take_add_one, hdj, undigN_append, List.length_take, Nat.min_eq_left (ar383 hj e6)]
      have s1 : ∀ z : Int, undigN N [z] = z := fun z => by simp [undigN]
      show (undigN N nq.reverse + 2 ^ (N * j) * undigN N [q1]) * c + r' = r * 2 ^ (N * (j + 1)) + (undigN N (ds.take j) + 2 ^ (N * j) * undigN N [d])
      rw [s1, s1, Nat.mul_succ, Int.pow_add]
      have e10 : undigN N nq.reverse * c + r' = r1 * 2 ^ (N * j) + undigN N (ds.take j) := e9
      generalize (2 : Int) ^ (N * j) = P at *
      generalize (2 : Int) ^ N = T at *
      generalize undigN N nq.reverse = U at *
      generalize undigN N (ds.take j) = W at *
      have : P * (q1 * c + r1) = P * (r * T + d) := by rw [hdm]
      rw [Int.mul_add, Int.mul_add] at this
      rw [Int.add_mul]
      have a1 : P * q1 * c = P * (q1 * c) := Int.mul_assoc ..
      have a2 : r * (P * T) = P * (r * T) := by rw [← Int.mul_assoc, Int.mul_comm r P, Int.mul_assoc]
      have a3 : r1 * P = P * r1 := Int.mul_comm ..
      rw [a1, a2]
      exact ar384 e9 this a1 a2 a3
    · intro q hq
      rcases List.mem_cons.mp hq with rfl | hq
      · have hT : (0 : Int) < 2 ^ N := Int.pow_pos (by decide)
        have hT2 : (2 : Int) ^ N ≤ 2 ^ 64 := by
          have := Nat.pow_le_pow_right (n := 2) (by decide) hN
          have := Int.ofNat_le.mpr this
          rw [Int.natCast_pow, Int.natCast_pow] at this
          exact this
        have h1 : 0 ≤ q := by
          rcases Int.lt_or_le q 0 with h | h
          · have : q * c ≤ -1 * c := Int.mul_le_mul_of_nonneg_right (ar385 h) (ar189 hc0)
            exact ar386 hx0 hr1b hdm this
          · exact h
        have h2 : q < 2 ^ N := by
          rcases Int.lt_or_le q (2 ^ N) with h | h
          · exact h
          · have : 2 ^ N * c ≤ q * c := Int.mul_le_mul_of_nonneg_right h (ar189 hc0)
            rw [Int.mul_comm (2 ^ N) c] at this
            exact ar387 hx1 hr1b hdm this
        exact decide_eq_true (ar388 hc0 hcN hT hT2 h1 h2)
      · exact e0 q hq
end Mine

namespace Mine
noncomputable def digI (n : Nat) : Nat → Nat → List Int
  | 0, _ => []
  | k + 1, a => ((a % 2 ^ n : Nat) : Int) :: digI n k (a / 2 ^ n)
theorem digsN_eq (n : Nat) : ∀ (k a : Nat), digsN n k a = (digI n k a).map .int
  | 0, _ => rfl
  | k + 1, a => by rw [digsN, digI, List.map_cons, digsN_eq n k]
theorem digI_len (n : Nat) : ∀ (k a : Nat), (digI n k a).length = k
  | 0, _ => rfl
  | k + 1, a => by rw [digI, List.length_cons, digI_len n k]
theorem digI_bound (n : Nat) : ∀ (k a : Nat), ∀ d ∈ digI n k a, 0 ≤ d ∧ d < 2 ^ n
  | 0, _, d, h => by cases h
  | k + 1, a, d, h => by
    rw [digI] at h
    rcases List.mem_cons.mp h with rfl | h
    · refine ⟨Int.natCast_nonneg _, ?_⟩
      have := Nat.mod_lt a (Nat.pow_pos (n := n) (by decide : 0 < 2))
      have h2 : (((2 ^ n : Nat)) : Int) = 2 ^ n := by rw [Int.natCast_pow]; rfl
      rw [← h2]
      exact Int.ofNat_lt.mpr this
    · exact digI_bound n k _ d h
theorem digI_val (n : Nat) : ∀ (k a : Nat), a < 2 ^ (n * k) → undigN n (digI n k a) = a
  | 0, a, h => by
    have : a = 0 := by simpa using h
    subst this; rfl
  | k + 1, a, h => by
    rw [digI, undigN, digI_val n k]
    · have h2 : (((2 ^ n : Nat)) : Int) = 2 ^ n := by rw [Int.natCast_pow]; rfl
      rw [← h2, ← Int.natCast_mul, ← Int.natCast_add, Nat.mod_add_div]
    · rw [Nat.div_lt_iff_lt_mul (Nat.pow_pos (by decide)), ← Nat.pow_add, ← Nat.mul_succ]
      exact h
theorem divmod_uniq {a c q r : Int} (h : q * c + r = a) (h0 : 0 ≤ r) (h1 : r < c) : q = a.fdiv c ∧ r = a.fmod c := by
  have hc : 0 < c := ar186 h0 h1
  have e1 := Int.mul_fdiv_add_fmod a c
  have e2 := Int.fmod_nonneg_of_pos a hc
  have e3 := Int.fmod_lt_of_pos a hc
  generalize a.fdiv c = Q at *
  generalize a.fmod c = R at *
  have : c * (q - Q) = R - r := by rw [Int.mul_sub, Int.mul_comm c q]; exact ar187 h e1
  have hq : q - Q = 0 := by
    rcases Int.lt_trichotomy (q - Q) 0 with h5 | h5 | h5
    · have : c * (q - Q) ≤ c * (-1) := Int.mul_le_mul_of_nonneg_left (ar188 h5) (ar189 hc)
      omega
    · exact h5
    · have : c * 1 ≤ c * (q - Q) := Int.mul_le_mul_of_nonneg_left (ar190 h5) (ar189 hc)
      omega
  have : q = Q := ar191 hq
  subst this
  exact ⟨rfl, by rw [hq, Int.mul_zero] at this; exact ar192 this⟩
theorem divpos_ok (k : Nat) (a c : Int) (mem : Mem) (hm0 : 0 < mem.length) (ha0 : 0 ≤ a) (ha : small a = true) (hc0 : 0 < c) (hc : small c = true) : ∃ junk, orc0 (k + 2) 66 [.int a, .int c] mem = some (.tup [.int (a.fdiv c), .int (a.fmod c)], mem ++ junk) := by
  have hN0 : 0 < bitsOf c := by
    have := lt_bits c
    rcases Nat.eq_zero_or_pos (bitsOf c) with h | h
    · rw [h] at this; exact ar193 hc0 this
    · exact h
  have hN64 : bitsOf c ≤ 64 := bits_lt c 64 (of_decide_eq_true hc)
  have haN : bitsOf a ≤ 64 := bits_lt a 64 (of_decide_eq_true ha)
  have hcN : c < 2 ^ bitsOf c := by
    have := lt_bits c
    have h2 : (((2 ^ bitsOf c : Nat)) : Int) = 2 ^ bitsOf c := by rw [Int.natCast_pow]; rfl
    rw [← h2]
    have := Int.ofNat_lt.mpr this
    omega
  generalize hN : bitsOf c = N at *
  obtain ⟨m, hm⟩ : ∃ m, m = (bitsOf a + N - 1) / N := ⟨_, rfl⟩
  have hm1 : m ≤ 64 := by
    rw [hm]
    have : (bitsOf a + N - 1) / N ≤ bitsOf a := by
      rw [Nat.div_le_iff_le_mul hN0]
      have : bitsOf a ≤ bitsOf a * N := Nat.le_mul_of_pos_right _ hN0
      exact ar194 hN0 hN64 this
    exact ar195 haN this
  have hmN : m * N ≤ 1000 := by
    have := Nat.div_mul_le_self (bitsOf a + N - 1) N
    rw [← hm] at this
    exact ar196 haN hN0 hN64 this
  have hm2 : bitsOf a ≤ N * m := by
    have := Nat.lt_mul_div_succ (bitsOf a + N - 1) hN0
    rw [← hm, Nat.mul_succ] at this
    exact ar197 this
  have e52 : orc0 (k + 1) 52 [.int a, .int N] mem = some (.list mem.length, mem ++ [(digI N m a.toNat).map .int]) := by
    refine orcN_raw ?_
    show cond (decide (0 < mem.length) && decide (0 ≤ a) && decide (0 < (N : Int)) && small a && decide ((N : Int) ≤ 64)) _ none = _
    have h1 : decide (0 ≤ a) = true := decide_eq_true ha0
    have h2 : decide (0 < (N : Int)) = true := decide_eq_true (ar198 hN0 hN64)
    have h3 : decide ((N : Int) ≤ 64) = true := decide_eq_true (ar199 hN0 hN64)
    rw [h1, h2, ha, h3, decide_eq_true hm0]
    show some (V.list mem.length, mem ++ [digsN (N : Int).toNat ((bitsOf a + (N : Int).toNat - 1) / (N : Int).toNat) a.toNat]) = _
    rw [Int.toNat_natCast, digsN_eq, ← hm]
  have hqi : ((mem ++ [(digI N m a.toNat).map V.int]).length == 0) = false := by simp
  refine ex3_10 (loop66 k c N mem.length (mem ++ [(digI N m a.toNat).map V.int]).length (digI N m a.toNat) hc hc0 (ar200 hN0 hN64) hcN (digI_bound N m _) (by rw [digI_len]; exact ar201 hm hm1) hqi (by simp) m 294
    (putL "q_digits" (.list (mem ++ [(digI N m a.toNat).map V.int]).length) (putL "r" (.int 0) (putL "a_digits" (.list mem.length) (putL "n" (.int N) [("a", .int a), ("b", .int c)])))) (mem ++ [(digI N m a.toNat).map V.int] ++ [[]]) 0 [] (ar202 hm hm1) (by rw [digI_len]; exact ar203) (by show 0 + m ≤ 100; exact ar204 hm hm1) (by omega) hc0
    (by repeat' first | with_reducible assumption | (apply pkS; kernel_rfl!) | (apply pkR; kernel_rfl!) | (apply lkS; kernel_rfl!) | (apply lkR; kernel_rfl!)) (by repeat' first | with_reducible assumption | (apply pkS; kernel_rfl!) | (apply pkR; kernel_rfl!) | (apply lkS; kernel_rfl!) | (apply lkR; kernel_rfl!)) (by repeat' first | with_reducible assumption | (apply pkS; kernel_rfl!) | (apply pkR; kernel_rfl!) | (apply lkS; kernel_rfl!) | (apply lkR; kernel_rfl!)) (by repeat' first | with_reducible assumption | (apply pkS; kernel_rfl!) | (apply pkR; kernel_rfl!) | (apply lkS; kernel_rfl!) | (apply lkR; kernel_rfl!))
    (by rw [mget_prev]) (by rw [mget_last]; rfl)) fun loc' nq r' e1 e2 e3 e4 e5 e6 e7 e8 e9 e0 => ?_
  rw [mset_last, List.nil_append] at e1
  have hlen : m = ((digI N m a.toNat).map V.int).length := by rw [List.length_map, digI_len]
  have e1' := e1
  rw [show Wk.rev mem.length m = .rev mem.length ((digI N m a.toNat).map V.int).length by rw [← hlen]] at e1'
  have hval : undigN N nq.reverse * c + r' = a := by
    rw [e9, Int.zero_mul, Int.zero_add]
    have : (digI N m a.toNat).take m = digI N m a.toNat := List.take_of_length_le (by rw [digI_len]; exact Nat.le_refl _)
    rw [this, digI_val]
    · exact Int.toNat_of_nonneg ha0
    · have := lt_bits a
      have h4 : a.natAbs = a.toNat := ar205 ha0
      rw [h4] at this
      exact Nat.lt_of_lt_of_le this (Nat.pow_le_pow_right (by decide) hm2)
  refine ex0_2 (divmod_uniq hval e7 e8) fun q1 q2 => ?_
  have e59 : orc0 (k + 1) 59 [.list (mem ++ [(digI N m a.toNat).map V.int]).length, .int N] (mem ++ [(digI N m a.toNat).map V.int] ++ [nq.reverse.map V.int]) = some (.int (undigN N nq.reverse), mem ++ [(digI N m a.toNat).map V.int] ++ [nq.reverse.map V.int]) := by
    refine orcN_raw ?_
    show ((mem ++ [(digI N m a.toNat).map V.int] ++ [nq.reverse.map V.int])[(mem ++ [(digI N m a.toNat).map V.int]).length]?).bind _ = _
    rw [mget_last, Option.bind_some, intsOf_map, Option.bind_some]
    have h2 : decide (0 < (N : Int)) = true := decide_eq_true (ar198 hN0 hN64)
    have h3 : lit (nq.reverse.length * (N : Int).toNat) = true := by unfold lit; exact decide_eq_true (by rw [List.length_reverse, e6, Int.toNat_natCast]; exact ar206 hmN)
    have h4 : nq.reverse.all small = true := List.all_eq_true.mpr fun q hq => e0 q (List.mem_reverse.mp hq)
    have h5 : decide (nq.reverse.length ≤ 64) = true := decide_eq_true (by rw [List.length_reverse, e6]; exact ar207 hm hm1 e6 hlen)
    rw [h2, h3, h4, h5, Int.toNat_natCast]
    rfl
  have hlq : lit (nq.map V.int).length = true := by unfold lit; exact decide_eq_true (by rw [List.length_map, e6]; exact ar208 hm hm1 e6 hlen)
  have eM : mem ++ [(digI N m a.toNat).map V.int, (nq.map V.int).reverse] = (mem ++ [(digI N m a.toNat).map V.int] ++ [nq.map V.int]).set (mem ++ [(digI N m a.toNat).map V.int]).length (nq.map V.int).reverse := by rw [mset_last, List.append_assoc]; rfl
  refine ⟨[(digI N m a.toNat).map V.int, (nq.map V.int).reverse], ?_⟩
  rw [eM, ← q1, ← q2]
  rw [List.map_reverse, ← mset_last (mem ++ [(digI N m a.toNat).map V.int]) (nq.map V.int) (nq.map V.int).reverse] at e59
  have M1 := mget_last (mem ++ [(digI N m a.toNat).map V.int]) (nq.map V.int)
  have M0 := mget_prev mem ((digI N m a.toNat).map V.int) []
  change orcN raw0 (k + 1) 59 _ _ = _ at e59
  change orcN raw0 (k + 1) 52 _ _ = _ at e52
  change (run ⟨(default : Heap), globT, orcN raw0 (k + 1)⟩ 294).F _ _ _ _ _ _ = _ at e1'
  clear e1
  have hB : fdBody (st 7) = [_, _, _, _, .For (.Name (Str.ofString "a_digit") _) _ (forBody (sx 7 4)) [] _, _, _, _] := rfl
  apply orcN_r (raw := raw0) (i := 7) (loc := [("a", .int a), ("b", .int c)]) rfl (by kernel_rfl!) (by kernel_rfl!) hB
  repeat' (first | (with_reducible (show _ = _; assumption)) | (with_reducible (show some _ = some _; rfl)) | (with_reducible first | apply E_int | apply E_nam | apply E_tup | apply E_lst | apply E_met | apply E_call | apply k_ref | apply Es_nil | apply Es_cons | apply S_asg | apply S_fo | apply S_ret | apply S_exp | apply Ss_rR | apply Ss_nx | apply m_rev | (apply m_bitsE; assumption)) | (with_reducible first | exact g_int2digits | exact g_digits2int | exact g_reversed) | (apply I_rev; apply n_glo; kernel_rfl!; kernel_rfl!; with_reducible exact g_reversed) | (apply n_loc; kernel_rfl!; kernel_rfl!) | (apply n_glo; kernel_rfl!; kernel_rfl!) | (apply pkS; kernel_rfl!) | (apply pkR; kernel_rfl!) | (apply lkS; kernel_rfl!) | (apply lkR; kernel_rfl!) | kernel_rfl!)
end Mine

namespace Mine
theorem intdivmod_pos (k : Nat) (a c : Int) (mem : Mem) (hm0 : 0 < mem.length) (ha0 : 0 ≤ a) (ha : small a = true) (hc0 : 0 < c) (hc : small c = true) : ∃ junk, orc0 (k + 3) 73 [.int a, .int c] mem = some (.tup [.int (a.fdiv c), .int (a.fmod c)], mem ++ junk) := by
  refine ex1_1 (divpos_ok k a c mem hm0 ha0 ha hc0 hc) fun junk e => ?_
  refine ⟨junk, ?_⟩
  have e1 : (c == 0) = false := by simpa using Int.ne_of_gt hc0
  have e2 : decide (c < 0) = false := decide_eq_false (ar48 hc0)
  have e3 : decide (a < 0) = false := decide_eq_false (ar49 ha0)
  apply orcN_r (raw := raw0) (i := 8) (loc := [("a", .int a), ("b", .int c)]) rfl (by kernel_rfl!) (by kernel_rfl!) (rfl : _ = [_])
  repeat' (first | (with_reducible (show _ = _; assumption)) | (with_reducible (show some _ = some _; rfl)) | (with_reducible first | apply E_int | apply E_nam | apply E_call | apply k_ref | apply Es_nil | apply Es_cons | apply T_cmp | apply S_ite | apply S_ret | apply Ss_rR | apply Ss_1I | apply cF | apply c_eq | apply c_lt) | (with_reducible first | exact g_divmod_pos) | (apply n_loc; kernel_rfl!; kernel_rfl!) | (apply n_glo; kernel_rfl!; kernel_rfl!) | (apply lkS; kernel_rfl!) | (apply lkR; kernel_rfl!) | kernel_rfl!)
theorem intdivmod_ok (k : Nat) (a c : Int) (mem : Mem) (hm0 : 0 < mem.length) (ha : small a = true) (hc0 : 0 < c) (hc : small c = true) : ∃ junk, orc0 (k + 4) 73 [.int a, .int c] mem = some (.tup [.int (a.fdiv c), .int (a.fmod c)], mem ++ junk) := by
  by_cases h0 : 0 ≤ a
  · exact intdivmod_pos (k + 1) a c mem hm0 h0 ha hc0 hc
  · have ha' : small (-a - 1) = true := by
      unfold small at ha ⊢
      have := of_decide_eq_true ha
      exact decide_eq_true (ar50 h0 this)
    refine ex1_1 (intdivmod_pos k (-a - 1) c mem hm0 (ar51 h0) ha' hc0 hc) fun junk e => ?_
    refine ⟨junk, ?_⟩
    have e1 : (c == 0) = false := by simpa using Int.ne_of_gt hc0
    have e2 : decide (c < 0) = false := decide_eq_false (ar48 hc0)
    have e3 : decide (a < 0) = true := decide_eq_true (ar52 h0)
    obtain ⟨h1, h2⟩ : -(-a - 1).fdiv c - 1 = a.fdiv c ∧ c + (-(-a - 1).fmod c - 1) = a.fmod c := by
      have q1 := Int.mul_fdiv_add_fmod (-a - 1) c
      have q2 := Int.fmod_nonneg_of_pos (-a - 1) hc0
      have q3 := Int.fmod_lt_of_pos (-a - 1) hc0
      generalize (-a - 1).fdiv c = Q at *
      generalize (-a - 1).fmod c = R at *
      exact divmod_uniq (a := a) (c := c) (q := -Q - 1) (r := c + (-R - 1)) (by rw [Int.sub_mul, Int.neg_mul, Int.mul_comm Q c]; exact ar53 q1) (ar54 q3) (ar55 q2)
    rw [← h1, ← h2]
    apply orcN_r (raw := raw0) (i := 8) (loc := [("a", .int a), ("b", .int c)]) rfl (by kernel_rfl!) (by kernel_rfl!) (rfl : _ = [_])
    repeat' (first | (with_reducible (show _ = _; assumption)) | (with_reducible (show some _ = some _; rfl)) | (with_reducible first | apply E_int | apply E_nam | apply E_bi | apply E_un | apply E_tup | apply E_call | apply k_ref | apply Es_nil | apply Es_cons | apply T_cmp | apply S_unC | apply nmo0 | apply nmo1 | apply pA0 | apply pA1 | apply S_ite | apply S_ret | apply Ss_rR | apply Ss_1I | apply Ss_nx | apply cT | apply cF | apply o_add | apply u_inv | apply c_eq | apply c_lt) | (with_reducible first | exact g_int_divmod) | (apply n_loc; kernel_rfl!; kernel_rfl!) | (apply n_glo; kernel_rfl!; kernel_rfl!) | (apply pkS; kernel_rfl!) | (apply pkR; kernel_rfl!) | (apply lkS; kernel_rfl!) | (apply lkR; kernel_rfl!) | kernel_rfl!)
end Mine

section
namespace Mine
variable {b : Base} {w : World} {D : Nat} {sc : Scope} {loc loc' loc1 loc2 : Loc} {mem mem' mem1 mem2 mem3 : Mem} {v : V}
theorem SE_free {x pos} (hx : sc.names.lookup x = some .free) (h : loc.lookup x = some v) (hd : (x == ("__debug__" : Str)) = false) (hc : (x == ("__classdict__" : Str)) = false) : SE b w D sc (.Name x pos) loc mem v mem := by
  intro A env s ad hA hE R L Q E K
  refine ex1_2 L.ns fun m hm hl => ?_
  have hk := hE.kindOf x
  rw [hx] at hk
  obtain ⟨val, hv, ⟨h2, _⟩ | ⟨_, c, hc', hcv⟩⟩ := hl x v h
  · rw [hk] at h2; cases h2
  · exact wpAny_Name (wpAny_loadName_free (by show env.scope.kind = _; rw [hE.scope]; exact hE.kind) hk hc' hcv (K _ ad _ (OutE.refl R) hv) hc) hd
theorem SE_loc {x pos} (hx : sc.names.lookup x = some .local) (h : loc.lookup x = some v) (hd : (x == ("__debug__" : Str)) = false) : SE b w D sc (.Name x pos) loc mem v mem := by
  intro A env s ad hA hE R L Q E K
  refine ex1_2 L.ns fun m hm hl => ?_
  have hk := hE.kindOf x
  rw [hx] at hk
  obtain ⟨val, hv, ⟨h2, h3⟩ | ⟨h2, _⟩⟩ := hl x v h
  · exact wpAny_Name (wpAny_loadName_local (by show env.scope.kind = _; rw [hE.scope]; exact hE.kind) hk hm h3 (K _ ad _ (OutE.refl R) hv)) hd
  · rw [hk] at h2; rcases h2 with h2 | h2 <;> cases h2
theorem r_bits_lt {a n : Nat} (h : ((Builtin.Int.intBits (a : Int) : Nat) : Int) ≤ (n : Int)) : a < 2 ^ n := by
  unfold Builtin.Int.intBits at h
  split at h
  · rename_i h0
    have : a = 0 := by simpa using h0
    subst this
    exact Nat.two_pow_pos n
  · rename_i h0
    have h1 : a ≠ 0 := by simpa using h0
    have h2 : a.log2 + 1 ≤ n := by
      have : (a : Int).natAbs = a := Int.natAbs_natCast a
      rw [this] at h
      exact_mod_cast h
    exact (Nat.log2_lt h1).mp (ar16 h2)
theorem SE_shr {l r pos} {a n : Nat} (hl : SE b w D sc l loc mem (.int a) mem1) (hr : SE b w D sc r loc mem1 (.int n) mem2) : SE b w D sc (.BinOp l .RShift r pos) loc mem (.int ((a / 2 ^ n : Nat) : Int)) mem2 := by
  intro A env s ad hA hE R L Q E K
  refine wpAny_BinOp (hl hA hE R L fun s1 ad1 v1 o1 r1 => hr hA hE o1.rel (L.out R o1) fun s2 ad2 v2 o2 r2 => ?_)
  refine ex1_1 r1.intInv fun t ob1 => ?_; subst ob1
  refine ex1_1 r2.intInv fun u ob2 => ?_; subst ob2
  refine AutoIntOpsIf.rshift ?_
  rw [if_neg (ar389)]
  split
  · rename_i h
    replace h := r_bits_lt h
    rw [if_neg (ar389)]
    refine K _ ad2 _ (o1.trans (o2.trans (OutE.toks o2.rel _))) ?_
    rw [Nat.div_eq_of_lt h]
    exact .int _ _
  · refine K _ ad2 _ (o1.trans (o2.trans (OutE.toks o2.rel _))) ?_
    have e : Int.fdiv (a : Int) (2 ^ (n : Int).toNat) = ((a / 2 ^ n : Nat) : Int) := by
      rw [Int.toNat_natCast]
      have : ((2 : Int) ^ n) = ((2 ^ n : Nat) : Int) := by push_cast; rfl
      rw [this, Int.fdiv_eq_ediv_of_nonneg _ (Int.natCast_nonneg _)]
      rfl
    rw [e]
    exact .int _ _
theorem hi_bit (x s i : Nat) : (x / 2 ^ s * 2 ^ s).testBit i = (decide (s ≤ i) && x.testBit i) := by
  rw [Nat.testBit_mul_two_pow]
  by_cases h : s ≤ i
  · rw [decide_eq_true h, Bool.true_and, Bool.true_and, Nat.testBit_div_two_pow]
    congr 1; exact ar390 h
  · rw [decide_eq_false h]; rfl
theorem hi_and (x s : Nat) : x &&& (x / 2 ^ s * 2 ^ s) = x / 2 ^ s * 2 ^ s := by
  refine Nat.eq_of_testBit_eq fun i => ?_
  rw [Nat.testBit_and, hi_bit]
  cases x.testBit i <;> simp
theorem hi_or (x s : Nat) : x ||| (x / 2 ^ s * 2 ^ s) = x := by
  refine Nat.eq_of_testBit_eq fun i => ?_
  rw [Nat.testBit_or, hi_bit]
  cases x.testBit i <;> simp
theorem xor_hi (x s : Nat) : Builtin.bitXor (x : Int) ((x / 2 ^ s * 2 ^ s : Nat) : Int) = ((x % 2 ^ s : Nat) : Int) := by
  have h1 : Builtin.bitAnd (x : Int) ((x / 2 ^ s * 2 ^ s : Nat) : Int) = ((x / 2 ^ s * 2 ^ s : Nat) : Int) := by
    unfold Builtin.bitAnd
    rw [decide_eq_true (Int.natCast_nonneg x), decide_eq_true (Int.natCast_nonneg _)]
    show ((x &&& (x / 2 ^ s * 2 ^ s) : Nat) : Int) = _
    rw [hi_and]
  have h2 : Builtin.bitOr (x : Int) ((x / 2 ^ s * 2 ^ s : Nat) : Int) = (x : Int) := by
    unfold Builtin.bitOr
    have e1 : decide (0 ≤ Builtin.bitNot (x : Int)) = false := decide_eq_false (by show ¬ (0 ≤ -(x : Int) - 1); exact ar391)
    have e2 : decide (0 ≤ Builtin.bitNot ((x / 2 ^ s * 2 ^ s : Nat) : Int)) = false := decide_eq_false (by show ¬ (0 ≤ -((x / 2 ^ s * 2 ^ s : Nat) : Int) - 1); exact ar391)
    have nn : ∀ x : Int, Builtin.bitNot (Builtin.bitNot x) = x := fun x => by show -(-x - 1) - 1 = x; exact ar392
    unfold Builtin.bitAnd
    rw [e1, e2]
    show Builtin.bitNot (Builtin.bitNot ((Builtin.bitNot (Builtin.bitNot (x : Int))).toNat ||| (Builtin.bitNot (Builtin.bitNot ((x / 2 ^ s * 2 ^ s : Nat) : Int))).toNat : Nat)) = _
    rw [nn, nn, nn]
    show ((x ||| (x / 2 ^ s * 2 ^ s) : Nat) : Int) = _
    rw [hi_or]
  unfold Builtin.bitXor
  rw [h1, h2]
  have := Nat.div_add_mod x (2 ^ s)
  rw [Nat.mul_comm] at this
  exact ar393 this
theorem SE_xor {l r pos} {x n : Nat} (hl : SE b w D sc l loc mem (.int x) mem1) (hr : SE b w D sc r loc mem1 (.int ((x / 2 ^ n * 2 ^ n : Nat) : Int)) mem2) : SE b w D sc (.BinOp l .BitXor r pos) loc mem (.int ((x % 2 ^ n : Nat) : Int)) mem2 := by
  intro A env s ad hA hE R L Q E K
  refine wpAny_BinOp (hl hA hE R L fun s1 ad1 v1 o1 r1 => hr hA hE o1.rel (L.out R o1) fun s2 ad2 v2 o2 r2 => ?_)
  refine ex1_1 r1.intInv fun t ob3 => ?_; subst ob3
  refine ex1_1 r2.intInv fun u ob4 => ?_; subst ob4
  refine xor_int ?_
  refine K _ ad2 _ (o1.trans (o2.trans (OutE.toks o2.rel _))) ?_
  rw [xor_hi]
  exact .int _ _
theorem SS_setitem {e o i p pos} {j : Nat} {k : Int} {l : List V} (he : SE b w D sc e loc mem v mem1) (ho : SE b w D sc o loc mem1 (.list j) mem2) (hi : SE b w D sc i loc mem2 (.int k) mem3) (hj : j ≠ 0) (hl : mem3[j]? = some l) (h0 : 0 ≤ k) (hk : k < l.length) (hz : l.length ≤ 1000)
    (hc : ∀ (n : Nat) (env : Env), swapsWith e (some (.Subscript o i p)) n env = pure false) : SS b w D sc (.Assign [.Subscript o i p] e pos) loc mem .next loc (mem3.set j (l.set k.toNat v)) := by
  intro A env s ad Q E hA hE R L K
  refine wpAny_Assign_Subscript (he hA hE R L fun s1 ad1 v1 o1 r1 => ho hA hE o1.rel (L.out R o1) fun s2 ad2 v2 o2 r2 => hi hA hE o2.rel ((L.out R o1).out o1.rel o2) fun s3 ad3 v3 o3 r3 => ?_) (hc _ _)
  have r1' := o3.vr o2.rel (o2.vr o1.rel r1)
  have r2' := o3.vr o2.rel r2
  refine ex1_2 r2'.listInv fun q ob5 hq => ?_; subst ob5
  refine ex1_1 r3.intInv fun t ob6 => ?_; subst ob6
  refine ex1_3 (o3.rel.list hq hl) fun its hL hvl hP => ?_
  refine ex1_1 (hP hj) fun n hn => ?_
  have e1 := hvl.length
  have e2 : its.toList.length = its.size := Array.length_toList
  refine ki_setAt hn h0 (ar394 hk hz e1 e2) (ar395 hk e1 e2) ?_
  have u := PySem.IsL.update hn (fun x => x.setIfInBounds k.toNat v1)
  have o4 := OutE.setList (n := s3.toks) (items' := its.setIfInBounds k.toNat v1) o3.rel hq hL ⟨_, u⟩ (Heap.SameBut.update ..) (vs := l.set k.toNat v) (by rw [Array.toList_setIfInBounds]; exact hvl.set r1' _)
  exact K _ _ _ (OutS.ofE R L (o1.trans (o2.trans (o3.trans o4)))) rfl
end Mine
end

section
namespace Mine
variable {b : Base} {w : World} {D : Nat} {sc : Scope} {loc loc' loc1 loc2 : Loc} {mem mem' mem1 mem2 mem3 : Mem} {v : V} {c : Ctl}
noncomputable def KindA (h : Heap) (a : Addr) : Prop := (∃ its, h.IsList a its) ∨ (∃ m, h.Ns a m) ∨ TabAt h a
theorem RelM.kind {h : Heap} {ad : List Addr} (R : RelM b h ad mem) {a : Addr} (x : Wr b ad a) : KindA h a := by
  rcases x with x | x
  · exact .inl (R.hr.isList a x)
  · exact .inr (.inr (R.tabs a x))
theorem KindA.noTuple {h : Heap} {a : Addr} (x : KindA h a) : ∀ its, ¬ h.IsTuple a its := by
  rcases x with ⟨_, x⟩ | ⟨_, x⟩ | x
  · exact not_tuple_of_list x
  · exact not_tuple_of_ns x
  · exact x.notTuple
theorem KindA.noCell {h : Heap} {a : Addr} (x : KindA h a) : ∀ m, ¬ h.IsCell a m := by
  intro m hm
  rcases x with ⟨_, x⟩ | ⟨_, x⟩ | x
  · exact list_ne_cell x hm rfl
  · exact ns_ne_cell x hm rfl
  · exact x.notCell m hm
theorem KindA.noFunc {h : Heap} {a : Addr} (x : KindA h a) {o : Obj} {fd : FuncData} (ho : h.get? a = some o) (hd : o.data = .func fd) : False := by
  rcases x with ⟨_, o', ho', _, _, hd'⟩ | ⟨_, o', _, _, ho', hd', _⟩ | ⟨_, ho', _⟩
  · rw [ho] at ho'; cases ho'; rw [hd] at hd'; cases hd'
  · rw [ho] at ho'; cases ho'; rw [hd] at hd'; cases hd'
  · rw [ho] at ho'; cases ho'; cases hd
theorem KindA.noCode {h : Heap} {a : Addr} (x : KindA h a) {o : Obj} {vs : Array Value} {q : Str} {t : Tok} (ho : h.get? a = some o) (hd : o.data = .fields vs) (hq : vs[1]? = some (.str q t)) : False := by
  rcases x with ⟨_, x⟩ | ⟨_, x⟩ | ⟨ps, ho', h2⟩
  · exact (NotF.list x o vs ho hd).2 q t hq
  · exact (NotF.ns x o vs ho hd).2 q t hq
  · rw [ho] at ho'; cases ho'; cases hd
    rcases h2 with rfl | ⟨c', rfl, _⟩
    · cases hq
    · cases hq
structure Inn (b : Base) (fa : Addr) (fd : FuncData) (fl : Loc) (h : Heap) (ad : List Addr) : Prop where
  obj : ∃ o, h.get? fa = some o ∧ o.data = .func fd
  code : h.CodeRec fd.code fd.qualname
  low : ∀ x c, (x, c) ∈ fd.closure → b.H.get? c = none
  cell : ∀ x c, (x, c) ∈ fd.closure → ∃ ov, h.IsCell c ov
  holds : ∀ x v, fl.lookup x = some v → ∃ val, VR h ad v val ∧ ∃ c, fd.closure.lookup x = some c ∧ h.IsCell c (some val)
variable {fa : Addr} {fd : FuncData} {fl : Loc}
theorem Inn.keep {h h' : Heap} {ad ad' : List Addr} {W : Addr → Prop} (hk : Keep h h' W) (hW : ∀ a, W a → KindA h a) (hp : Pre ad ad') (I : Inn b fa fd fl h ad) : Inn b fa fd fl h' ad' where
  obj := by
    refine ex1_2 I.obj fun o ho hd => ?_
    exact ⟨o, hk _ _ (fun x => (hW _ x).noFunc ho hd) ho, hd⟩
  code := by
    refine ex4_4 I.code fun c o vs t e ho hd hq => ?_
    exact ⟨c, o, vs, t, e, hk _ _ (fun x => (hW _ x).noCode ho hd hq) ho, hd, hq⟩
  low := I.low
  cell := fun x c hc => by
    refine ex1_1 (I.cell x c hc) fun ov hv => ?_
    exact ⟨ov, cell_keep hv fun o e => hk _ _ (fun x => (hW _ x).noCell _ hv) e⟩
  holds := fun x v hx => by
    obtain ⟨val, hv, c, hc, hcv⟩ := I.holds x v hx
    exact ⟨val, hv.keep hk (fun a x => (hW a x).noTuple) hp, c, hc, cell_keep hcv fun o e => hk _ _ (fun x => (hW _ x).noCell _ hcv) e⟩
theorem Inn.outE {s s' : Shared} {ad ad' : List Addr} (R : RelM b s.heap ad mem) (o : OutE b s ad s' ad' mem') (I : Inn b fa fd fl s.heap ad) : Inn b fa fd fl s'.heap ad' := I.keep o.keep (fun a x => R.kind x) o.pre
noncomputable def OwnL (env : Env) : Prop := ∀ a, own env a → a = env.locals
theorem Inn.outS {env : Env} {s s' : Shared} {ad ad' : List Addr} (ho : OwnL env) (R : RelM b s.heap ad mem) (L : LR b env s.heap ad loc) (o : OutS b env s ad s' ad' loc' mem') (I : Inn b fa fd fl s.heap ad) : Inn b fa fd fl s'.heap ad' := by
  refine I.keep o.keep (fun a x => ?_) o.pre
  rcases x with x | x
  · rw [ho a x]
    refine ex1_2 L.ns fun m hm _ => ?_
    exact .inr (.inl ⟨m, hm⟩)
  · exact R.kind x
noncomputable def CallC (b : Base) (w : World) (D : Nat) (fa : Addr) (fd : FuncData) (fl : Loc) (vs : List V) (mem : Mem) (v : V) (mem' : Mem) : Prop :=
  ∀ (A : Around) (s : Shared) (ad : List Addr) (vals : List Value), AOk A D → RelM b s.heap ad mem → Inn b fa fd fl s.heap ad → VRs s.heap ad vs vals → OpT b w A s ad (call (.ref fa) vals) v mem'
theorem CallC.mono {D D' : Nat} {vs : List V} (h : D ≤ D') (C : CallC b w D fa fd fl vs mem v mem') : CallC b w D' fa fd fl vs mem v mem' :=
  fun A s ad vals hA => C A s ad vals (hA.mono h)
noncomputable def SEI (b : Base) (w : World) (D : Nat) (sc : Scope) (fa : Addr) (fd : FuncData) (fl : Loc) (e : PySem.Expr) (loc : Loc) (mem : Mem) (v : V) (mem' : Mem) : Prop :=
  ∀ (A : Around) (env : Env) (s : Shared) (ad : List Addr), AOk A D → EnvOk env sc → RelM b s.heap ad mem → LR b env s.heap ad loc → Inn b fa fd fl s.heap ad → OpT b w A s ad (eval e env) v mem'
theorem SEI_of {e} (h : SE b w D sc e loc mem v mem') : SEI b w D sc fa fd fl e loc mem v mem' := fun A env s ad hA hE R L I => h hA hE R L
theorem SEI_call {x p a as pos vs} (hp : plainE a = true) (hx : SE b w D sc (.Name x p) loc mem (.ref fa) mem) (hs : SEs b w D sc (a :: as) loc mem vs mem1) (hc : CallC b w D fa fd fl vs mem1 v mem') : SEI b w D sc fa fd fl (.Call (.Name x p) (a :: as) [] pos) loc mem v mem' := by
  intro A env s ad hA hE R L I Q E K
  refine wpAny_Call_NameR (hx hA hE R L fun s0 ad0 val o0 r0 => ?_)
  cases r0
  have I0 := I.outE R o0
  have L0 := L.out R o0
  refine ex1_2 I0.obj fun o ho hd => ?_
  refine callWith_def hd (hs hA hE o0.rel L0 fun s1 ad1 xs o1 r1 => ⟨o1.keep _ _ (fun x => (o0.rel.kind x).noFunc ho hd) ho, ?_⟩) (starEach_plain hp)
  exact hc A s1 ad1 xs hA o1.rel (I0.outE o0.rel o1) r1 fun s2 ad2 v2 o2 r2 => K _ _ _ (o0.trans (o1.trans o2)) r2
theorem SEI_bin {l op r pos x y} (hl : SEI b w D sc fa fd fl l loc mem x mem1) (hr : SEI b w D sc fa fd fl r loc mem1 y mem2) (ho : opV op x y mem2 = some (v, mem')) : SEI b w D sc fa fd fl (.BinOp l op r pos) loc mem v mem' := by
  intro A env s ad hA hE R L I Q E K
  refine wpAny_BinOp (hl A env s ad hA hE R L I fun s1 ad1 v1 o1 r1 => hr A env s1 ad1 hA hE o1.rel (L.out R o1) (I.outE R o1) fun s2 ad2 v2 o2 r2 => ?_)
  exact opV_ok ho o2.rel (o2.vr o1.rel r1) r2 fun s3 ad3 v3 o3 r3 => K _ _ _ ((o1.trans o2).trans o3) r3
noncomputable def SSI (b : Base) (w : World) (D : Nat) (sc : Scope) (fa : Addr) (fd : FuncData) (fl : Loc) (ss : List Stmt) (loc : Loc) (mem : Mem) (c : Ctl) (loc' : Loc) (mem' : Mem) : Prop :=
  ∀ (A : Around) (env : Env) (s : Shared) (ad : List Addr) (Q : Flow → Shared → Prop) (E : Value → Shared → Prop), AOk A D → EnvOk env sc → OwnL env → RelM b s.heap ad mem → LR b env s.heap ad loc → Inn b fa fd fl s.heap ad →
    (∀ s' ad' f, OutS b env s ad s' ad' loc' mem' → FR s'.heap ad' c f → Q f s') → wpAny (model pz w) A (execs ss env) Q E s
theorem SSI_of {ss} (h : SSs b w D sc ss loc mem c loc' mem') : SSI b w D sc fa fd fl ss loc mem c loc' mem' := fun A env s ad Q E hA hE _ R L I K => h hA hE R L K
theorem SSI_cons {st rest} (h1 : SS b w D sc st loc mem .next loc1 mem1) (h2 : SSI b w D sc fa fd fl rest loc1 mem1 c loc2 mem2) : SSI b w D sc fa fd fl (st :: rest) loc mem c loc2 mem2 := by
  intro A env s ad Q E hA hE hO R L I K
  refine wpAny_execs_cons (h1 hA hE R L fun s1 ad1 f o1 r1 => ?_)
  cases r1
  exact h2 A env s1 ad1 Q E hA hE hO o1.rel o1.lr (I.outS hO R L o1) fun s2 ad2 f o2 r2 => K _ _ _ (o1.trans o2) r2
theorem SSI_expr {e pos rest} (hc : isComp e = false) (h1 : SEI b w D sc fa fd fl e loc mem .none mem1) (h2 : SSI b w D sc fa fd fl rest loc mem1 c loc2 mem2) : SSI b w D sc fa fd fl (.Expr e pos :: rest) loc mem c loc2 mem2 := by
  intro A env s ad Q E hA hE hO R L I K
  refine wpAny_execs_cons (wpAny_Expr (h1 A env s ad hA hE R L I fun s1 ad1 val o1 r1 => ?_) (by unfold interactive; rw [hE.scope, hE.kind]; rfl) (swaps_plain hc))
  cases r1
  exact h2 A env s1 ad1 Q E hA hE hO o1.rel (L.out R o1) (I.outE R o1) fun s2 ad2 f o2 r2 => K _ _ _ ((OutS.ofE R L o1).trans o2) r2
theorem SSI_ret {e pos rest} (h1 : SEI b w D sc fa fd fl e loc mem v mem1) : SSI b w D sc fa fd fl (.Return (some e) pos :: rest) loc mem (.ret v) loc mem1 := by
  intro A env s ad Q E hA hE hO R L I K
  refine wpAny_execs_cons (wpAny_Return_some (h1 A env s ad hA hE R L I fun s1 ad1 val o1 r1 => ?_))
  exact K _ _ _ (OutS.ofE R L o1) ⟨val, rfl, r1⟩
theorem SS_return0 {pos} : SS b w D sc (.Return none pos) loc mem (.ret .none) loc mem := by
  intro A env s ad Q E hA hE R L K
  exact wpAny_Return_none (K _ _ _ (OutS.refl R L) ⟨_, rfl, .none⟩)
noncomputable def cOf : Ctl → V
  | .next => .none
  | .ret v => v
theorem lookup_app {l m : Loc} {x : Str} {u : V} (h : (l ++ m).lookup x = some u) : l.lookup x = some u ∨ m.lookup x = some u := by
  induction l with
  | nil => exact .inr h
  | cons p l ih =>
    obtain ⟨y, t⟩ := p
    rw [List.cons_append, List.lookup_cons] at h
    rw [List.lookup_cons]
    cases e : x == y <;> rw [e] at h
    · exact ih h
    · exact .inl h
theorem clo_call (B : BaseOk b) {body : List Stmt} {vs : List V} (hbody : fd.body = .stmts body) (hcell : ∀ x ∈ fd.scope.names, x.2 ≠ .cell) (hg : fd.globals = mainGlobals) (hbl : fd.builtins = builtinsNs) (hcn : (fd.closure.map (·.2)).Nodup)
    (hco : fd.scope.isCoroutine = false) (hgen : fd.scope.isGenerator = false) (hk : fd.scope.kind = .function)
    (hbind : ∀ (s : Shared) (ad : List Addr) (vals : List Value), VRs s.heap ad vs vals → ∃ bs : List (Str × Value), BindsTo s fd ⟨vals, []⟩ bs ∧ bs.map (·.1) = loc.map (·.1) ∧ VRs s.heap ad (loc.map (·.2)) (bs.map (·.2)))
    (hnd : (loc.map (·.1)).Nodup) (hloc : ∀ x ∈ loc.map (·.1), fd.scope.names.lookup x = some .local) (hfree : ∀ x v, fl.lookup x = some v → fd.scope.names.lookup x = some .free)
    (hrun : SSI b w D fd.scope fa fd fl body (loc ++ fl) mem c loc' mem') : CallC b w (D + 1) fa fd fl vs mem (cOf c) mem' := by
  intro A s ad vals hA R I hvs Q E K
  refine ex1_3 (hbind s ad vals hvs) fun bs hb1 hb2 hb3 => ?_
  have hlim := B.limit R.base
  refine ex1_2 I.obj fun o ho hd => ?_
  refine wpAny_call (codeAny_call_def (by have := hA.depth; exact ar23 this) ho hd hlim I.code hbody hb1 hcell (fun x hx => hloc x.1 (by rw [← hb2]; exact List.mem_map_of_mem hx)) (fun h0 hns hkeep => ?_) hco hgen hk)
  have hLn : s.heap.get? s.heap.objs.size = none := get_top _
  have R0 := R.all hkeep
  have I0 : Inn b fa fd fl h0 ad := I.keep (W := fun _ => False) (fun a o _ e => hkeep a o e) (fun _ h => h.elim) (Pre.refl _)
  have hE : EnvOk (callEnv fd s.heap.objs.size fa) fd.scope := ⟨rfl, hk, hg, hbl, hcn, fun x hx => absurd rfl (hcell _ (PySem.mem_of_lookup_some hx))⟩
  have hO : OwnL (callEnv fd s.heap.objs.size fa) := by
    rintro a (h | ⟨x, _, hx⟩)
    · exact h
    · rw [hE.kindOf] at hx
      exact absurd rfl (hcell _ (PySem.mem_of_lookup_some hx))
  have L0 : LR b (callEnv fd s.heap.objs.size fa) h0 ad (loc ++ fl) := by
    refine ⟨R.none hLn, fun x c h => I.low x c h, fun x c h => I0.cell x c h, _, hns, fun x u hx => ?_⟩
    rcases lookup_app hx with hx | hx
    · refine ex1_2 (look_rev hb2 hb3 hnd x u hx) fun val h1 h2 => ?_
      refine ⟨val, h2.all hkeep, .inl ⟨?_, h1⟩⟩
      rw [hE.kindOf]
      exact hloc x (List.mem_map.mpr ⟨(x, u), PySem.mem_of_lookup_some hx, rfl⟩)
    · obtain ⟨val, h1, c, h2, h3⟩ := I0.holds x u hx
      exact ⟨val, h1, .inr ⟨.inr (by rw [hE.kindOf]; exact hfree x u hx), c, h2, h3⟩⟩
  refine hrun _ _ { s with heap := h0, toks := s.toks + bs.length } ad _ _ (hA.deeper _) hE hO R0 L0 I0 fun s' ad' fl' o1 r1 => ?_
  show Q (match (generalizing := false) fl' with | .ret v => v | _ => .none) s'
  refine K s' ad' _ ⟨o1.rel, o1.pre, fun a ob ha e => o1.keep a ob ?_ (hkeep a ob e), fun a ha => ?_, o1.os, o1.gens, o1.drawn⟩ ?_
  · rintro (h | h)
    · replace h := hO a h
      replace h : a = s.heap.objs.size := h
      rw [h, hLn] at e; cases e
    · exact ha h
  · rcases o1.fresh a ha with h | h
    · exact .inl h
    · cases e : s.heap.get? a with
      | none => exact .inr rfl
      | some ob =>
        replace h : h0.get? a = none := h
        rw [hkeep a ob e] at h; cases h
  · induction c using Mine.Ctl.casesOn with
    | next => cases r1; exact .none
    | ret u => refine ex1_2 r1 ?_; (try clear r1); intro val ob1 h; subst ob1; exact h
end Mine
end

section
namespace Mine
variable {b : Base} {w : World} {D : Nat} {sc : Scope} {loc loc' loc1 loc2 : Loc} {mem mem' mem1 mem2 mem3 : Mem} {v : V} {c : Ctl}
theorem digsN_split (n : Nat) : ∀ (k1 k2 x : Nat), digsN n (k1 + k2) x = digsN n k1 (x % 2 ^ (k1 * n)) ++ digsN n k2 (x / 2 ^ (k1 * n))
  | 0, k2, x => by simp [digsN]
  | k1 + 1, k2, x => by
    have e : 2 ^ ((k1 + 1) * n) = 2 ^ n * 2 ^ (k1 * n) := by rw [← Nat.pow_add, Nat.succ_mul, Nat.add_comm]
    have e2 : k1 + 1 + k2 = (k1 + k2) + 1 := ar495
    rw [e2, digsN, digsN_split n k1 k2, digsN, e, Nat.mod_mul_right_mod, Nat.mod_mul_right_div_self, ← Nat.div_div_eq_div_mul]
    rfl
theorem digsN_len (n : Nat) : ∀ (k x : Nat), (digsN n k x).length = k
  | 0, _ => rfl
  | k + 1, x => by rw [digsN, List.length_cons, digsN_len n k]
theorem vrs3i {h : Heap} {ad : List Addr} {x y z : V} {xs : List Value} (hv : VRs h ad [x, y, z] xs) : ∃ a c d, xs = [a, c, d] ∧ VR h ad x a ∧ VR h ad y c ∧ VR h ad z d := by
  cases hv with
  | cons h1 hv =>
    refine ex2_3 (vrs2 hv) fun c d ob1 h2 h3 => ?_; subst ob1
    exact ⟨_, c, d, rfl, h1, h2, h3⟩
noncomputable def in5 : Stmt := (fdBody (st 5)).getD 1 (.Pass default)
noncomputable abbrev q5 : Str := "_int2digits.<locals>.inner"
noncomputable abbrev fd5 (cn ci ca : Addr) (doc pm cd ct : Value) : FuncData := fnX "inner" q5 (fdArgs in5) (fdBody in5) (fdScope in5) [("n", cn), ("inner", ci), ("a_digits", ca)] .none .none doc pm none cd ct
noncomputable abbrev fl5 (j : Nat) (fa : Addr) (n : Nat) : Loc := [("n", .int n), ("inner", .ref fa), ("a_digits", .list j)]
theorem bind5 (cn ci ca : Addr) (doc pm cd ct : Value) (S : Setting) (x y z : Value) : peek [] S (bindArgs (fd5 cn ci ca doc pm cd ct) ⟨[x, y, z], []⟩) = some [(("x" : Str), x), ("L", y), ("R", z)] := by kernel_rfl!
theorem free5 {j fa n} : ∀ x v, (fl5 j fa n).lookup x = some v → (fdScope in5).names.lookup x = some .free := by
  intro x v h
  have := PySem.mem_of_lookup_some h
  simp only [List.mem_cons, List.not_mem_nil, or_false, Prod.mk.injEq] at this
  rcases this with ⟨rfl, _⟩ | ⟨rfl, _⟩ | ⟨rfl, _⟩ <;> decide +kernel
theorem nocell5 : ∀ x ∈ (fdScope in5).names, x.2 ≠ .cell := by decide +kernel
theorem loc5 : ∀ x ∈ ([("x" : Str), "L", "R"] : List Str), (fdScope in5).names.lookup x = some .local := by decide +kernel
theorem op_add {x y : Int} : opV .Add (.int x) (.int y) mem = some (.int (x + y), mem) := rfl
theorem op_sub {x y : Int} : opV .Sub (.int x) (.int y) mem = some (.int (x - y), mem) := rfl
theorem small_nat {a : Nat} (h : a < 2 ^ 64) : small (a : Int) = true := decide_eq_true (by rw [Int.natAbs_natCast]; exact h)
theorem op_mul {x y : Nat} (h : x < 2 ^ 64) : opV .Mult (.int x) (.int y) mem = some (.int ((x * y : Nat) : Int), mem) := by
  show ((cond (small (x : Int)) (some ((x : Int) * y)) none).map fun c => (V.int c, mem)) = _
  rw [small_nat h]
  show some (V.int ((x : Int) * y), mem) = _
  rw [Int.natCast_mul]
theorem op_lsh {x y : Nat} (h : x < 2 ^ 64) (hy : y ≤ 1000) : opV .LShift (.int x) (.int y) mem = some (.int ((x * 2 ^ y : Nat) : Int), mem) := by
  show ((cond (small (x : Int) && decide (0 ≤ (y : Int)) && decide ((y : Int) ≤ 1000)) (some ((x : Int) * 2 ^ (y : Int).toNat)) none).map fun c => (V.int c, mem)) = _
  rw [small_nat h, decide_eq_true (Int.natCast_nonneg y), decide_eq_true (ar59 hy)]
  show some (V.int ((x : Int) * 2 ^ (y : Int).toNat), mem) = _
  rw [Int.toNat_natCast]
  push_cast
  rfl
noncomputable abbrev lo5 (j : Nat) (fa : Addr) (n x L R : Nat) : Loc := ([("x", .int x), ("L", .int L), ("R", .int R)] : Loc) ++ fl5 j fa n
theorem clo5 (B : BaseOk b) {fa cn ci ca : Addr} {doc pm cd ct : Value} {j n x L R : Nat} (hcn : [cn, ci, ca].Nodup) (h : SSI b w D (fdScope in5) fa (fd5 cn ci ca doc pm cd ct) (fl5 j fa n) (fdBody in5) (lo5 j fa n x L R) mem c loc' mem') :
    CallC b w (D + 1) fa (fd5 cn ci ca doc pm cd ct) (fl5 j fa n) [.int x, .int L, .int R] mem (cOf c) mem' := by
  refine clo_call (b := b) (w := w) (D := D) (fa := fa) (fd := fd5 cn ci ca doc pm cd ct) (fl := fl5 j fa n) (loc := [("x", .int x), ("L", .int L), ("R", .int R)]) (vs := [.int x, .int L, .int R]) B rfl nocell5 rfl rfl hcn rfl rfl rfl ?_ (by show ([("x" : Str), "L", "R"] : List Str).Nodup; decide +kernel) loc5 free5 h
  intro s ad vals hv
  refine ex3_4 (vrs3i hv) fun a1 a2 a3 ob2 h1 h2 h3 => ?_; subst ob2
  exact ⟨_, kp_binds (fun a o e => by cases e) fun S => bind5 cn ci ca doc pm cd ct S a1 a2 a3, rfl, .cons h1 (.cons h2 (.cons h3 .nil))⟩
theorem body5_one (B : BaseOk b) {fa : Addr} {fd : FuncData} {j n x L : Nat} {l : List V} (hj : j ≠ 0) (hl : mem[j]? = some l) (hk : L + 1 ≤ l.length) (hz : l.length ≤ 1000) :
    SSI b w D (fdScope in5) fa fd (fl5 j fa n) (fdBody in5) (lo5 j fa n x L (L + 1)) mem (.ret .none) (lo5 j fa n x L (L + 1)) (mem.set j (l.set L (.int x))) := by
  have hB : fdBody in5 = [_, _, _, _, _, _, _] := rfl
  rw [hB]
  refine SSI_of (SSs_ret (SS_if (d := true) (mem1 := mem) (ST_cmp rfl (SE_bin (SE_loc (v := .int L) rfl rfl (by decide +kernel)) (SE_const rfl) op_add) (SE_loc (v := .int (L + 1 : Nat)) rfl rfl (by decide +kernel)) ?_) (fun _ => ?_) fun h => by cases h))
  · show cmpI .Eq ((L : Int) + 1) ((L + 1 : Nat) : Int) = some true
    show some _ = _
    rw [beq_iff_eq.mpr (by push_cast; rfl)]
  · refine SSs_next (SS_setitem (mem2 := mem) (mem3 := mem) (k := (L : Int)) (l := l) (SE_loc (v := .int x) rfl rfl (by decide +kernel)) (SE_free (v := .list j) rfl rfl (by decide +kernel) (by decide +kernel)) (SE_loc (v := .int L) rfl rfl (by decide +kernel)) hj hl (ar35) (ar496 hk) hz fun n env => rfl) (SSs_ret SS_return0)
theorem body5_more (B : BaseOk b) {fa cn ci ca : Addr} {doc pm cd ct : Value} {j n x L k1 k2 : Nat} {l : List V} (h1 : 0 < k1) (h2 : 0 < k2) (hm : (L + (L + (k1 + k2))) / 2 = L + k1) (hj : j ≠ 0) (hl : mem[j]? = some l) (hk : L + (k1 + k2) ≤ l.length) (hz : l.length ≤ 1000) (hn : (k1 + k2) * n ≤ 1000) (hx : x < 2 ^ 64)
    (c1 : CallC b w D fa (fd5 cn ci ca doc pm cd ct) (fl5 j fa n) [.int (x % 2 ^ (k1 * n) : Nat), .int L, .int (L + k1 : Nat)] mem .none mem1)
    (c2 : CallC b w D fa (fd5 cn ci ca doc pm cd ct) (fl5 j fa n) [.int (x / 2 ^ (k1 * n) : Nat), .int (L + k1 : Nat), .int (L + (k1 + k2) : Nat)] mem1 .none mem2) :
    ∃ loc', SSI b w D (fdScope in5) fa (fd5 cn ci ca doc pm cd ct) (fl5 j fa n) (fdBody in5) (lo5 j fa n x L (L + (k1 + k2))) mem .next loc' mem2 := by
  have hB : fdBody in5 = [_, _, _, _, _, _, _] := rfl
  have hs : k1 * n ≤ 1000 := Nat.le_trans (Nat.mul_le_mul_right n (ar497 h2)) hn
  rw [hB]
  refine ⟨putL "lower" (.int (x % 2 ^ (k1 * n) : Nat)) (putL "upper" (.int (x / 2 ^ (k1 * n) : Nat)) (putL "shift" (.int (k1 * n : Nat)) (putL "mid" (.int (L + k1 : Nat)) (lo5 j fa n x L (L + (k1 + k2)))))), ?_⟩
  refine SSI_cons (loc1 := lo5 j fa n x L (L + (k1 + k2))) (mem1 := mem) (SS_if (d := false) (mem1 := mem) (ST_cmp rfl (SE_bin (SE_loc (v := .int L) rfl rfl (by decide +kernel)) (SE_const rfl) op_add) (SE_loc (v := .int (L + (k1 + k2) : Nat)) rfl rfl (by decide +kernel)) ?_) (fun h => by cases h) fun _ => SSs_nil) ?_
  · show some _ = _
    rw [beq_eq_false_iff_ne.mpr (ar498 h1 hm)]
  refine SSI_cons (mem1 := mem) (SS_assign (v := .int (L + k1 : Nat)) rfl rfl ?_) ?_
  · rw [← hm]
    exact SE_shr (n := 1) (SE_bin (v := .int (L + (L + (k1 + k2)) : Nat)) (SE_loc (v := .int L) rfl rfl (by decide +kernel)) (SE_loc (v := .int (L + (k1 + k2) : Nat)) rfl rfl (by decide +kernel)) (by rw [op_add]; push_cast; rfl)) (SE_const rfl)
  refine SSI_cons (mem1 := mem) (SS_assign (v := .int (k1 * n : Nat)) rfl rfl ?_) ?_
  · exact SE_bin (SE_bin (v := .int (k1 : Nat)) (SE_loc (v := .int (L + k1 : Nat)) rfl rfl (by decide +kernel)) (SE_loc (v := .int L) rfl rfl (by decide +kernel)) (by rw [op_sub, show ((L + k1 : Nat) : Int) - (L : Int) = (k1 : Int) by exact ar315])) (SE_free (v := .int n) rfl rfl (by decide +kernel) (by decide +kernel)) (op_mul (x := k1) (y := n) (by exact ar499 hm hk hz))
  refine SSI_cons (mem1 := mem) (SS_assign (v := .int (x / 2 ^ (k1 * n) : Nat)) rfl rfl ?_) ?_
  · exact SE_shr (SE_loc rfl rfl (by decide +kernel)) (SE_loc rfl rfl (by decide +kernel))
  refine SSI_cons (mem1 := mem) (SS_assign (v := .int (x % 2 ^ (k1 * n) : Nat)) rfl rfl ?_) ?_
  · exact SE_xor (SE_loc rfl rfl (by decide +kernel)) (SE_bin (SE_loc (v := .int (x / 2 ^ (k1 * n) : Nat)) rfl rfl (by decide +kernel)) (SE_loc (v := .int (k1 * n : Nat)) rfl rfl (by decide +kernel)) (op_lsh (Nat.lt_of_le_of_lt (Nat.div_le_self _ _) hx) hs))
  refine SSI_expr rfl (SEI_call rfl (SE_free (v := .ref fa) rfl rfl (by decide +kernel) (by decide +kernel)) (SEs_cons rfl (SE_loc rfl rfl (by decide +kernel)) (SEs_cons rfl (SE_loc rfl rfl (by decide +kernel)) (SEs_cons rfl (SE_loc rfl rfl (by decide +kernel)) SEs_nil))) c1) ?_
  refine SSI_expr rfl (SEI_call rfl (SE_free (v := .ref fa) rfl rfl (by decide +kernel) (by decide +kernel)) (SEs_cons rfl (SE_loc rfl rfl (by decide +kernel)) (SEs_cons rfl (SE_loc rfl rfl (by decide +kernel)) (SEs_cons rfl (SE_loc rfl rfl (by decide +kernel)) SEs_nil))) c2) (SSI_of SSs_nil)
theorem take_mid {α : Type} (a d r : List α) {n : Nat} (h : a.length + d.length = n) : (a ++ d ++ r).take n = a ++ d := by
  rw [← h, ← List.length_append]; exact List.take_left
theorem drop_mid {α : Type} (a d r : List α) {n k : Nat} (h : a.length + d.length + k = n) : (a ++ d ++ r).drop n = r.drop k := by
  rw [← h, ← List.length_append, ← List.drop_drop]; rw [List.drop_left]
theorem inner5_ok (B : BaseOk b) {fa cn ci ca : Addr} {doc pm cd ct : Value} {j n : Nat} (hj : j ≠ 0) (hcn : [cn, ci, ca].Nodup) : ∀ (N k L x : Nat) (l : List V) (mem : Mem), k ≤ N → 0 < k → mem[j]? = some l → L + k ≤ l.length → l.length ≤ 1000 → k * n ≤ 1000 → x < 2 ^ 64 → x < 2 ^ (k * n) →
    CallC b w k fa (fd5 cn ci ca doc pm cd ct) (fl5 j fa n) [.int x, .int L, .int (L + k : Nat)] mem .none (mem.set j (l.take L ++ digsN n k x ++ l.drop (L + k)))
  | 0, k, L, x, l, mem, hN, h0, hl, hk, hz, hn, hx, hxn => absurd h0 (ar320 hN h0)
  | N + 1, k, L, x, l, mem, hN, h0, hl, hk, hz, hn, hx, hxn => by
    obtain ⟨D, rfl⟩ : ∃ D, k = D + 1 := ⟨k - 1, ar321 h0⟩
    rcases Nat.eq_zero_or_pos D with hD | hD
    · subst hD
      have h := clo5 (D := 0) (c := .ret .none) B hcn (body5_one (w := w) (D := 0) (fd := fd5 cn ci ca doc pm cd ct) (fa := fa) (n := n) (x := x) B hj hl hk hz)
      have e : l.take L ++ digsN n (0 + 1) x ++ l.drop (L + (0 + 1)) = l.set L (.int x) := by
        rw [Nat.zero_add, Nat.one_mul] at hxn
        rw [List.set_eq_take_append_cons_drop, if_pos (ar322 hk), Nat.zero_add]
        show l.take L ++ [V.int ((x % 2 ^ n : Nat) : Int)] ++ l.drop (L + 1) = _
        rw [Nat.mod_eq_of_lt hxn, List.append_assoc]
        rfl
      rw [e]
      exact h
    · obtain ⟨k1, k2, hk12, h1, h2, hm⟩ : ∃ k1 k2, D + 1 = k1 + k2 ∧ 0 < k1 ∧ 0 < k2 ∧ (L + (L + (k1 + k2))) / 2 = L + k1 := ⟨(D + 1) / 2, D + 1 - (D + 1) / 2, ar324 hD, ar325 hD, ar326 hD, ar327 hD⟩
      have hD1 : k1 ≤ D := ar328 hk12 h2
      have hD2 : k2 ≤ D := ar500 hz hk hD hk12 h2 hm
      have hn1 : k1 * n ≤ 1000 := Nat.le_trans (Nat.mul_le_mul_right n (ar501 hk12 h2)) hn
      have hn2 : k2 * n ≤ 1000 := Nat.le_trans (Nat.mul_le_mul_right n (ar502 hk12 hD2)) hn
      have hx1 : x % 2 ^ (k1 * n) < 2 ^ (k1 * n) := Nat.mod_lt _ (Nat.two_pow_pos _)
      have hx2 : x / 2 ^ (k1 * n) < 2 ^ (k2 * n) := by
        rw [Nat.div_lt_iff_lt_mul (Nat.two_pow_pos _), ← Nat.pow_add, ← Nat.add_mul, Nat.add_comm k2 k1, ← hk12]
        exact hxn
      have C1 := CallC.mono hD1 (inner5_ok (fa := fa) (cn := cn) (ci := ci) (ca := ca) (doc := doc) (pm := pm) (cd := cd) (ct := ct) (n := n) B hj hcn N k1 L (x % 2 ^ (k1 * n)) l mem (ar330 hN hk12 h2) h1 hl (ar503 hk hk12 hm hD2) hz hn1 (Nat.lt_of_le_of_lt (Nat.mod_le _ _) hx) hx1)
      have hjl : j < mem.length := (List.getElem?_eq_some_iff.mp hl).1
      have hl2 : (mem.set j (l.take L ++ digsN n k1 (x % 2 ^ (k1 * n)) ++ l.drop (L + k1)))[j]? = some (l.take L ++ digsN n k1 (x % 2 ^ (k1 * n)) ++ l.drop (L + k1)) := List.getElem?_set_self hjl
      have hlen : (l.take L ++ digsN n k1 (x % 2 ^ (k1 * n)) ++ l.drop (L + k1)).length = l.length := by
        rw [List.length_append, List.length_append, digsN_len, List.length_take_of_le (show L ≤ l.length by omega), List.length_drop]; omega
      have C2 := CallC.mono hD2 (inner5_ok (fa := fa) (cn := cn) (ci := ci) (ca := ca) (doc := doc) (pm := pm) (cd := cd) (ct := ct) (n := n) B hj hcn N k2 (L + k1) (x / 2 ^ (k1 * n)) _ _ (ar332 hN hk12 hD2) h2 hl2 (ar505 hk hk12 hm hlen) (ar506 hz hlen) hn2 (Nat.lt_of_le_of_lt (Nat.div_le_self _ _) hx) hx2)
      rw [Nat.add_assoc] at C2
      refine ex1_1 (body5_more (w := w) B h1 h2 hm hj hl (ar507 hk hk12 hm hlen) hz (by rw [← hk12]; exact hn) hx C1 C2) fun lo' h => ?_
      replace h := clo5 (c := .next) B hcn h
      have e : (l.take L ++ digsN n k1 (x % 2 ^ (k1 * n)) ++ l.drop (L + k1)).take (L + k1) ++ digsN n k2 (x / 2 ^ (k1 * n)) ++ (l.take L ++ digsN n k1 (x % 2 ^ (k1 * n)) ++ l.drop (L + k1)).drop (L + (k1 + k2)) = l.take L ++ digsN n (k1 + k2) x ++ l.drop (L + (k1 + k2)) := by
        have e1 : (l.take L).length + (digsN n k1 (x % 2 ^ (k1 * n))).length = L + k1 := by rw [digsN_len, List.length_take_of_le (show L ≤ l.length by omega)]
        rw [take_mid _ _ _ e1, drop_mid _ _ _ (k := k2) (ar509 hm e1), List.drop_drop, digsN_split n k1 k2 x, List.append_assoc (l.take L)]
        rw [Nat.add_assoc L k1 k2]
      rw [hk12]
      rw [List.set_set, e, ← hk12] at h
      rw [← hk12]
      exact h
end Mine
end

section
namespace Mine
variable {b : Base} {w : World} {D : Nat} {sc : Scope} {loc loc' loc1 loc2 : Loc} {mem mem' mem1 mem2 mem3 : Mem} {v : V} {c : Ctl}
noncomputable def SSC (b : Base) (w : World) (D : Nat) (fd : FuncData) (f : Addr) (body : List Stmt) (loc : Loc) (mem : Mem) (c : Ctl) (loc' : Loc) (mem' : Mem) : Prop :=
  ∀ (A : Around) (L : Addr) (s : Shared) (ad : List Addr) (Q : Flow → Shared → Prop) (E : Value → Shared → Prop), AOk A D → EnvOk (callEnvC fd L f) fd.scope → RelM b s.heap ad mem → LR b (callEnvC fd L f) s.heap ad loc →
    (∀ s' ad' fl, OutS b (callEnvC fd L f) s ad s' ad' loc' mem' → FR s'.heap ad' c fl → Q fl s') → wpAny (model pz w) A (execs body (callEnvC fd L f)) Q E s
noncomputable def CallE (b : Base) (w : World) (D : Nat) (f : Addr) (vs : List V) (mem : Mem) (v : V) (mem' : Mem) : Prop :=
  ∀ (A : Around) (s : Shared) (ad : List Addr) (vals : List Value), AOk A D → RelM b s.heap ad mem → VRs s.heap ad vs vals → OpT b w A s ad (call (.ref f) vals) v mem'
theorem CallE.ok {f : Addr} {vs : List V} (h : CallE b w D f vs mem v mem') : CallOk b w D f vs mem v mem' := fun {A s ad vals} => h A s ad vals
theorem bind2L {K : Str → Option NameKind} {p1 p2 : Str} {x1 x2 : Value} (hne : p1 ≠ p2) :
    (K p1 = some .local → bindL K [(p1, x1), (p2, x2)] (fun _ => none) p1 = some x1) ∧ (K p2 = some .local → bindL K [(p1, x1), (p2, x2)] (fun _ => none) p2 = some x2) ∧
    (K p1 = some .cell → bindC K [(p1, x1), (p2, x2)] (fun _ => none) p1 = some x1) ∧ (K p2 = some .cell → bindC K [(p1, x1), (p2, x2)] (fun _ => none) p2 = some x2) := by
  refine ⟨fun h => ?_, fun h => ?_, fun h => ?_, fun h => ?_⟩ <;> by_cases g1 : K p1 = some .local <;> by_cases g2 : K p2 = some .local <;> simp_all [bindL, bindC]
theorem cell_call (B : BaseOk b) {f : Addr} {o : Obj} {fd : FuncData} {body : List Stmt} {p1 p2 : Str} {v1 v2 : V} (ho : b.H.get? f = some o) (hd : o.data = .func fd) (hcd : b.H.CodeRec fd.code fd.qualname) (hbody : fd.body = .stmts body) (hcl : fd.closure = []) (hg : fd.globals = mainGlobals) (hbl : fd.builtins = builtinsNs)
    (hco : fd.scope.isCoroutine = false) (hgen : fd.scope.isGenerator = false) (hk : fd.scope.kind = .function)
    (hbind : ∀ x1 x2, bindArgs fd ⟨[x1, x2], []⟩ = pure [(p1, x1), (p2, x2)]) (hne : p1 ≠ p2)
    (hk1 : fd.scope.names.lookup p1 = some .local ∨ fd.scope.names.lookup p1 = some .cell) (hk2 : fd.scope.names.lookup p2 = some .local ∨ fd.scope.names.lookup p2 = some .cell)
    (hcs : ∀ n p, fd.scope.names.lookup p = some .cell → ∃ c, (cellsFrom n fd.scope.names []).lookup p = some c) (hcu : ∀ n p c, (p, c) ∈ cellsFrom n fd.scope.names [] → (cellsFrom n fd.scope.names []).lookup p = some c)
    (hrun : SSC b w D fd f body [(p1, v1), (p2, v2)] mem c loc' mem') : CallE b w (D + 1) f [v1, v2] mem (cOf c) mem' := by
  intro A s ad vals hA R hvs Q E K
  refine ex2_3 (vrs2 hvs) fun x1 x2 ob1 h1 h2 => ?_; subst ob1
  have hlim := B.limit R.base
  have kk : ∀ n p, (fd.scope.names.lookup p = some .local ∨ fd.scope.names.lookup p = some .cell) → fd.scope.names.lookup p = some .local ∨ (fd.scope.names.lookup p = some .cell ∧ ((cellsFrom n fd.scope.names []).lookup p).isSome = true) := by
    intro n p h
    rcases h with h | h
    · exact .inl h
    · refine ex1_1 (hcs n p h) fun c hc => ?_
      exact .inr ⟨h, by rw [hc]; rfl⟩
  refine wpAny_call (codeAny_call_cells (by have := hA.depth; exact ar23 this) (R.base _ _ ho) hd hlim (hcd.keeps R.base) hbody (hbind x1 x2) hcl ?_ (fun s1 X => ?_) hco hgen hk)
  · intro x hx
    rcases List.mem_cons.mp hx with rfl | hx
    · exact kk _ _ hk1
    · rw [List.mem_singleton.mp hx]; exact kk _ _ hk2
  refine ex2_2 X.done fun h0 tk ob2 hkeep => ?_; subst ob2
  have hLn : s.heap.get? s.heap.objs.size = none := get_top _
  have R0 := R.all hkeep
  have hE : EnvOk (callEnvC fd s.heap.objs.size f) fd.scope := by
    refine ⟨rfl, hk, hg, hbl, ?_, fun x hx => hcs _ x hx⟩
    exact List.pairwise_map.mpr X.apart
  have hfresh : ∀ p c, (p, c) ∈ (callEnvC fd s.heap.objs.size f).cells → s.heap.get? c = none := fun p c hc => Heap.get?_none_of_le (Nat.le_of_lt (X.above p c hc))
  refine ex0_4 (bind2L (K := (callEnvC fd s.heap.objs.size f).kindOf) (x1 := x1) (x2 := x2) hne) fun q1 q2 q3 q4 => ?_
  have L0 : LR b (callEnvC fd s.heap.objs.size f) h0 ad [(p1, v1), (p2, v2)] := by
    refine ⟨R.none hLn, fun x c hc => R.none (hfresh x c hc), fun x c hc => ⟨_, X.cell x c (hcu _ x c hc)⟩, _, X.toInCall.ns, fun x u hx => ?_⟩
    have one : ∀ p val, VR h0 ad u val → (fd.scope.names.lookup p = some .local ∨ fd.scope.names.lookup p = some .cell) → ((callEnvC fd s.heap.objs.size f).kindOf p = some .local → bindL (callEnvC fd s.heap.objs.size f).kindOf [(p1, x1), (p2, x2)] (fun _ => none) p = some val) → ((callEnvC fd s.heap.objs.size f).kindOf p = some .cell → bindC (callEnvC fd s.heap.objs.size f).kindOf [(p1, x1), (p2, x2)] (fun _ => none) p = some val) →
        ∃ val, VR h0 ad u val ∧ (((callEnvC fd s.heap.objs.size f).kindOf p = some .local ∧ bindL (callEnvC fd s.heap.objs.size f).kindOf [(p1, x1), (p2, x2)] (fun _ => none) p = some val) ∨ (((callEnvC fd s.heap.objs.size f).kindOf p = some .cell ∨ (callEnvC fd s.heap.objs.size f).kindOf p = some .free) ∧ ∃ c, (callEnvC fd s.heap.objs.size f).cells.lookup p = some c ∧ h0.IsCell c (some val))) := by
      intro p val hv hkp g1 g2
      refine ⟨val, hv, ?_⟩
      have hkk := hE.kindOf p
      rcases hkp with h | h
      · rw [h] at hkk
        exact .inl ⟨hkk, g1 hkk⟩
      · rw [h] at hkk
        refine ex1_1 (hcs (s.heap.objs.size + 1) p h) fun c hc => ?_
        refine .inr ⟨.inl hkk, c, hc, ?_⟩
        have := X.cell p c hc
        rw [g2 hkk] at this
        exact this
    rw [List.lookup_cons] at hx
    by_cases hxp : x = p1
    · subst hxp
      rw [beq_self_eq_true] at hx
      cases hx
      exact one x x1 (h1.all hkeep) hk1 q1 q3
    · rw [beq_eq_false_iff_ne.mpr hxp] at hx
      rw [List.lookup_cons] at hx
      by_cases hxq : x = p2
      · subst hxq
        rw [beq_self_eq_true] at hx
        cases hx
        exact one x x2 (h2.all hkeep) hk2 q2 q4
      · rw [beq_eq_false_iff_ne.mpr hxq] at hx
        cases hx
  refine hrun _ _ { s with heap := h0, toks := tk } ad _ _ (hA.deeper _) hE R0 L0 fun s' ad' fl o1 r1 => ?_
  show Q (match (generalizing := false) fl with | .ret v => v | _ => .none) s'
  refine K s' ad' _ ⟨o1.rel, o1.pre, fun a ob ha e => o1.keep a ob ?_ (hkeep a ob e), fun a ha => ?_, o1.os, o1.gens, o1.drawn⟩ ?_
  · rintro (h | h)
    · rcases h with h | ⟨x, hx, _⟩
      · replace h : a = s.heap.objs.size := h
        rw [h, hLn] at e; cases e
      · rw [hfresh x a hx] at e; cases e
    · exact ha h
  · rcases o1.fresh a ha with h | h
    · exact .inl h
    · cases e : s.heap.get? a with
      | none => exact .inr rfl
      | some ob =>
        replace h : h0.get? a = none := h
        rw [hkeep a ob e] at h; cases h
  · induction c using Mine.Ctl.casesOn with
    | next => cases r1; exact .none
    | ret u => refine ex1_2 r1 ?_; (try clear r1); intro val ob3 h; subst ob3; exact h
end Mine
end

section
namespace Mine
variable {b : Base} {w : World} {D : Nat} {sc : Scope} {loc loc' loc1 loc2 : Loc} {mem mem' mem1 mem2 mem3 : Mem} {v : V} {c : Ctl}
theorem lookup_map {g : Str → Addr} : ∀ {xs : List Str} {x : Str}, x ∈ xs → (xs.map fun x => (x, g x)).lookup x = some (g x)
  | y :: xs, x, h => by
    rw [List.map_cons, List.lookup_cons]
    by_cases e : x = y
    · subst e; rw [beq_self_eq_true]
    · rw [beq_eq_false_iff_ne.mpr e]
      rcases List.mem_cons.mp h with h | h
      · exact absurd h e
      · exact lookup_map h
theorem Inn.of_lr {env : Env} {h : Heap} {ad : List Addr} {fa : Addr} {fd : FuncData} {fl : Loc} {xs : List Str} (L : LR b env h ad loc) (hE : EnvOk env sc) (ho : ∃ o, h.get? fa = some o ∧ o.data = .func fd) (hc : h.CodeRec fd.code fd.qualname)
    (hcl : fd.closure = xs.map fun x => (x, (env.cells.lookup x).getD 0)) (hx : ∀ x ∈ xs, sc.names.lookup x = some .cell) (hfl : ∀ x v, fl.lookup x = some v → x ∈ xs ∧ loc.lookup x = some v) : Inn b fa fd fl h ad := by
  have one : ∀ x c, (x, c) ∈ fd.closure → (x, c) ∈ env.cells := by
    intro x c hm
    rw [hcl] at hm
    refine ex1_2 (List.mem_map.mp hm) fun y hy e => ?_
    cases e
    refine ex1_1 (hE.cells x (hx x hy)) fun c hc => ?_
    rw [hc]
    exact PySem.mem_of_lookup_some hc
  refine ⟨ho, hc, fun x c hm => L.lowC x c (one x c hm), fun x c hm => L.cell x c (one x c hm), fun x v hv => ?_⟩
  refine ex0_2 (hfl x v hv) fun h1 h2 => ?_
  refine ex1_2 L.ns fun m hn hl => ?_
  have hk := hE.kindOf x
  rw [hx x h1] at hk
  obtain ⟨val, hv, ⟨h3, _⟩ | ⟨_, c, hc, hcv⟩⟩ := hl x v h2
  · rw [hk] at h3; cases h3
  · refine ⟨val, hv, c, ?_, hcv⟩
    rw [hcl, lookup_map h1, hc]
    rfl
structure DefB (b : Base) (cd P : Addr) : Prop where
  hd : CodeHd b.H cd P
  ns : ∃ mg, b.H.Ns mainGlobals mg ∧ b.H.BuiltinsAt mg P
  tb : tb b P
  ne : mainGlobals ≠ P
theorem own_or {env : Env} {h : Heap} {ad : List Addr} (R : RelM b h ad mem) (L : LR b env h ad loc) {a : Addr} (x : own env a ∨ Wr b ad a) : KindA h a ∨ ∃ ov, h.IsCell a ov := by
  rcases x with x | x
  · rcases x with x | ⟨y, hy, _⟩
    · subst x
      refine ex1_2 L.ns fun m hm _ => ?_
      exact .inl (.inr (.inl ⟨m, hm⟩))
    · exact .inr (L.cell y a hy)
  · exact .inl (R.kind x)
theorem OutS.func {env : Env} {s s' : Shared} {ad ad' : List Addr} (R : RelM b s.heap ad mem) (L : LR b env s.heap ad loc) (o : OutS b env s ad s' ad' loc' mem') {fa : Addr} {ob : Obj} {fd : FuncData} (h1 : s.heap.get? fa = some ob) (h2 : ob.data = .func fd) : s'.heap.get? fa = some ob := by
  refine o.keep _ _ (fun x => ?_) h1
  rcases own_or R L x with x | ⟨ov, o', ho', hd'⟩
  · exact x.noFunc h1 h2
  · rw [h1] at ho'; cases ho'; rw [h2] at hd'; cases hd'
theorem OutS.code {env : Env} {s s' : Shared} {ad ad' : List Addr} (R : RelM b s.heap ad mem) (L : LR b env s.heap ad loc) (o : OutS b env s ad s' ad' loc' mem') {cv : Value} {q : Str} (h1 : s.heap.CodeRec cv q) : s'.heap.CodeRec cv q := by
  refine ex4_4 h1 ?_; (try clear h1); intro cc ob vs t e ho hd hq
  refine ⟨cc, ob, vs, t, e, o.keep _ _ (fun x => ?_) ho, hd, hq⟩
  rcases own_or R L x with x | ⟨ov, o', ho', hd'⟩
  · exact x.noCode ho hd hq
  · rw [ho] at ho'; cases ho'; rw [hd] at hd'; cases hd'
theorem def_in {cd P : Addr} (DB : DefB b cd P) {name : Str} {params : Arguments} {body : List Stmt} {scope : Scope} {pos : Pos} {cl : List (Str × Addr)} {A : Around} {env : Env} {s : Shared} {ad : List Addr} {Q : Flow → Shared → Prop} {E : Value → Shared → Prop}
    (hE : EnvOk env sc) (hcode : env.code = .ref cd) (hpos : tbPos P = ((pos.line : Int), (pos.col : Int))) (hq : qualnameIn env name name = tbQ P) (hd0 : params.defaults = []) (hk0 : params.kw_defaults = []) (ha : annTrees params none env = [])
    (hcl : closureFor scope env = pure cl) (hk : kindOk sc name = true) (R : RelM b s.heap ad mem) (L : LR b env s.heap ad loc)
    (K : ∀ (s' : Shared) (fa : Addr) (o : Obj) (doc pm cv ct : Value), OutS b env s ad s' ad (putL name (.ref fa) loc) mem → s'.heap.get? fa = some o → o.data = .func (fnX name (tbQ P) params body scope cl .none .none doc pm none cv ct) → s'.heap.CodeRec cv (tbQ P) → Q .next s') :
    wpAny (model pz w) A (exec (.FunctionDef name params body [] none [] scope none name pos) env) Q E s := by
  refine ex1_2 DB.ns fun mg hg0 hb0 => ?_
  have hg : s.heap.Ns mainGlobals mg := ns_keep hg0 fun o e => R.base _ o e
  have hb := hb0.keeps R.base
  have C := DB.hd.keeps R.base
  have T := R.tabs P DB.tb
  have hbP : b.H.get? P = none := DB.tb.2
  refine ex1_2 T ?_; (try clear T); intro ps hP hps
  have fin : ∀ (s2 : Shared) (fa : Addr) (o : Obj) (doc pm cv ct : Value), OutS b env s ad s2 ad loc mem → s2.heap.get? fa = some o → o.data = .func (fnX name (tbQ P) params body scope cl .none .none doc pm none cv ct) → s2.heap.CodeRec cv (tbQ P) →
      wpAny (model pz w) A (storeName env name (.ref fa)) (fun _ s'' => Q .next s'') E s2 := by
    intro s2 fa o doc pm cv ct o2 g1 g2 g3
    exact store_ok hE o2.rel o2.lr hk (.ref fa) fun s3 o3 => K s3 fa o doc pm cv ct (o2.trans o3) (o3.func o2.rel o2.lr g1 g2) g2 (o3.code o2.rel o2.lr g3)
  refine nestDef_K hd0 hk0 ha ?_
  rw [hq]
  rcases hps with rfl | ⟨c', rfl, oc, vs, t, hoc, hdc, hqc⟩
  · refine makeFunction_K hcl hE.globals hg hcode C hP trivial rfl DB.ne hb fun c' ctv doc h' tk hext hle hlt hcr hP' => ?_
    have kk : ∀ a o, a ≠ P → s.heap.get? a = some o → (h'.push (fnMade name (tbQ P) params body scope cl doc ((mg "__name__").getD .none) c' ctv)).get? a = some o := fun a o hne e => Heap.get?_push_of_some _ (hext a o hne e)
    have vk : ∀ {u x}, VR s.heap ad u x → VR (h'.push (fnMade name (tbQ P) params body scope cl doc ((mg "__name__").getD .none) c' ctv)) ad u x := fun hv => VR.keep (W := (· = P)) (fun a o hn e => kk a o hn e) (fun a x => by rw [x]; exact (R.tabs P DB.tb).notTuple) (Pre.refl _) hv
    have vks : ∀ {u x}, VRs s.heap ad u x → VRs (h'.push (fnMade name (tbQ P) params body scope cl doc ((mg "__name__").getD .none) c' ctv)) ad u x := fun hv => VRs.keep (W := (· = P)) (fun a o hn e => kk a o hn e) (fun a x => by rw [x]; exact (R.tabs P DB.tb).notTuple) (Pre.refl _) hv
    have R2 : RelM b (h'.push (fnMade name (tbQ P) params body scope cl doc ((mg "__name__").getD .none) c' ctv)) ad mem := by
      refine ⟨fun a o e => kk a o (fun x => by rw [x, hbP] at e; cases e) (R.base a o e), R.lowA, ⟨R.hr.len, R.hr.nodup, fun i l e => ?_⟩, fun a hta => ?_⟩
      · refine ex2_4 (R.hr.at_ i l e) fun a items h1 h2 h3 h4 => ?_
        have hne : a ≠ P := fun x => (R.tabs P DB.tb).notList _ (x ▸ h2)
        exact ⟨a, items, h1, list_keep h2 fun o e => kk a o hne e, vks h3, fun h0 => (h4 h0).at fun o e => kk a o hne e⟩
      · by_cases hne : a = P
        · subst hne
          refine ex4_4 hcr ?_; (try clear hcr); intro cc oc vs t e ho hd hq'
          cases e
          refine ⟨_, Heap.get?_push_of_some _ hP', .inr ⟨c', ?_, oc, vs, t, Heap.get?_push_of_some _ ho, hd, hq'⟩⟩
          rw [hpos]; rfl
        · refine ex1_2 (R.tabs a hta) fun ps h1 h2 => ?_
          refine ⟨ps, kk _ _ hne h1, ?_⟩
          rcases h2 with h2 | ⟨c2, h2, oc, vs, t, h3, h4, h5⟩
          · exact .inl h2
          · refine .inr ⟨c2, h2, oc, vs, t, kk _ _ (fun x => ?_) h3, h4, h5⟩
            rw [x, hP] at h3; cases h3; cases h4; cases h5
    have L2 : LR b env (h'.push (fnMade name (tbQ P) params body scope cl doc ((mg "__name__").getD .none) c' ctv)) ad loc := by
      have nc : ∀ {a ov}, s.heap.IsCell a ov → (h'.push (fnMade name (tbQ P) params body scope cl doc ((mg "__name__").getD .none) c' ctv)).IsCell a ov := fun hv => cell_keep hv fun o e => kk _ o (fun x => (R.tabs P DB.tb).notCell _ (x ▸ hv)) e
      refine ⟨L.low, L.lowC, fun x c hc => let ⟨ov, hv⟩ := L.cell x c hc; ⟨ov, nc hv⟩, ?_⟩
      refine ex1_2 L.ns fun m hn hl => ?_
      refine ⟨m, ns_keep hn fun o e => kk _ o (fun x => (R.tabs P DB.tb).notNs _ (x ▸ hn)) e, fun x u hx => ?_⟩
      obtain ⟨val, hv, h | ⟨hk, c, hc, hcv⟩⟩ := hl x u hx
      · exact ⟨val, vk hv, .inl h⟩
      · exact ⟨val, vk hv, .inr ⟨hk, c, hc, nc hcv⟩⟩
    refine fin { s with heap := h'.push _, toks := tk } h'.objs.size _ doc _ (.ref c') ctv ⟨R2, L2, Pre.refl _, fun a o hx e => kk a o (fun x => hx (.inr (.inr (by rw [x]; exact DB.tb)))) e, fun a h => .inl h, rfl, rfl, rfl⟩ (Heap.get?_push_size _ rfl) rfl ?_
    refine ex4_4 hcr ?_; (try clear hcr); intro cc oc vs t e ho hd hq'
    exact ⟨cc, oc, vs, t, e, Heap.get?_push_of_some _ ho, hd, hq'⟩
  · refine makeFunction_hit (cv := .ref c') hcl hE.globals hg hcode C hP trivial ?_ hb fun ctv doc h' tk hkeep hle => ?_
    · rw [hpos]
      show codeAmong pos [.int (pos.line : Int) 0, .int (pos.col : Int) 0, .ref c'] = _
      simp [codeAmong]
    · have kk : ∀ a o, s.heap.get? a = some o → (h'.push { cls := .type "function", data := .func (fnX name (tbQ P) params body scope cl .none .none doc ((mg "__name__").getD .none) none (.ref c') ctv) }).get? a = some o := fun a o e => Heap.get?_push_of_some _ (hkeep a o e)
      have o2 := OutS.ofE R L (OutE.all (n := tk) R kk)
      exact fin _ h'.objs.size _ doc _ (.ref c') ctv o2 (Heap.get?_push_size _ rfl) rfl ⟨c', oc, vs, t, rfl, kk _ _ hoc, hdc, hqc⟩
end Mine
end

section
namespace Mine
variable {b : Base} {w : World} {D : Nat} {sc : Scope} {loc loc' loc1 loc2 : Loc} {mem mem' mem1 mem2 mem3 : Mem} {v : V} {c : Ctl}
variable {fa : Addr} {fd : FuncData} {fl : Loc}
theorem ST_int {x p} {i : Int} (h : SE b w D sc (.Name x p) loc mem (.int i) mem1) : ST b w D sc (.Name x p) loc mem (i != 0) mem1 := by
  intro A env s ad Q E hA hE R L K
  refine isTrue_plain (h hA hE R L fun s1 ad1 v o1 r1 => ?_)
  refine ex1_1 r1.intInv fun t ob1 => ?_; subst ob1
  exact PyProof.Rows.truthy_int (K _ _ o1)
theorem ST_list {x p} {i : Nat} {l : List V} (h : SE b w D sc (.Name x p) loc mem (.list i) mem1) (hl : mem1[i]? = some l) (hz : l.length ≤ 1000) : ST b w D sc (.Name x p) loc mem (!l.isEmpty) mem1 := by
  intro A env s ad Q E hA hE R L K
  refine isTrue_plain (h hA hE R L fun s1 ad1 v o1 r1 => ?_)
  refine ex1_2 r1.listInv fun q ob2 hq => ?_; subst ob2
  refine ex1_3 (o1.rel.list hq hl) fun its hL hv _ => ?_
  have e1 := hv.length
  have e2 : its.toList.length = its.size := Array.length_toList
  refine wpAny_truthy_list hL (ar264 hz e1 e2) ?_
  have e3 : its.isEmpty = l.isEmpty := by
    show decide (its.size = 0) = _
    induction l using List.casesOn with
    | nil => exact decide_eq_true (by rw [← e2, ← e1]; rfl)
    | cons y l => exact decide_eq_false (by rw [← e2, ← e1]; exact Nat.succ_ne_zero _)
  rw [e3]
  exact K _ _ (o1.trans (OutE.toks o1.rel _))
theorem SS_ifI {t e pos pos'} {cb : Bool} (hc : isComp e = false) (ht : ST b w D sc t loc mem cb mem) (h1 : cb = true → SEI b w D sc fa fd fl e loc mem .none mem1) (h2 : cb = false → mem1 = mem) {A : Around} {env : Env} {s : Shared} {ad : List Addr} {Q : Flow → Shared → Prop} {E : Value → Shared → Prop}
    (hA : AOk A D) (hE : EnvOk env sc) (R : RelM b s.heap ad mem) (L : LR b env s.heap ad loc) (I : Inn b fa fd fl s.heap ad) (K : ∀ s' ad' f, OutS b env s ad s' ad' loc mem1 → FR s'.heap ad' .next f → Q f s') : wpAny (model pz w) A (exec (.If t [.Expr e pos] [] pos') env) Q E s := by
  refine wpAny_If (ht hA hE R L fun s1 ad1 o1 => ?_)
  induction cb using Bool.casesOn with
  | true =>
    rw [if_pos rfl]
    refine wpAny_execs_cons (wpAny_Expr (h1 rfl A env s1 ad1 hA hE o1.rel (L.out R o1) (I.outE R o1) fun s2 ad2 val o2 r2 => ?_) (by unfold interactive; rw [hE.scope, hE.kind]; rfl) (swaps_plain hc))
    cases r2
    exact wpAny_execs_nil (K _ _ _ (OutS.ofE R L (o1.trans o2)) rfl)
  | false =>
    rw [if_neg Bool.false_ne_true]
    have e := h2 rfl
    subst e
    exact wpAny_execs_nil (K _ _ _ (OutS.ofE R L o1) rfl)
theorem fresh_wr {s : Shared} {ad : List Addr} (R : RelM b s.heap ad mem) : ¬ Wr b ad s.heap.objs.size := by
  rintro (h | h)
  · exact absurd (R.hr.lt _ h) (Nat.lt_irrefl _)
  · refine ex1_1 ((R.tabs _ h).some) fun o ho => ?_
    exact absurd (Heap.lt_size ho) (Nat.lt_irrefl _)
theorem rep_foldl (v : Value) : ∀ (n : Nat) (acc : Array Value), (List.foldl (fun x1 x2 => x1 ++ x2) acc (List.replicate n #[v])) = acc ++ (List.replicate n v).toArray
  | 0, acc => by simp
  | n + 1, acc => by
    rw [List.replicate_succ, List.foldl_cons, rep_foldl v n, List.replicate_succ]
    apply Array.toList_inj.mp
    simp
theorem rep_vrs {h : Heap} {ad : List Addr} (t : Tok) : ∀ n : Nat, VRs h ad (List.replicate n (.int 0)) (List.replicate n (Value.int 0 t))
  | 0 => .nil
  | n + 1 => .cons (.int _ _) (rep_vrs t n)
theorem rep_wp {A : Around} {E : Value → Shared → Prop} {s : Shared} {l : Addr} {items : Array Value} {k : Nat} {x : Int} {u : Tok} {Q : Value → Shared → Prop} (hl : s.heap.get? l = some { cls := .type "list", dict := none, data := .seq items k, slots := #[] })
    (hlo : -(2 ^ 63 : Int) ≤ x) (hhi : x < 2 ^ 63) (hsz : items.size * x.toNat ≤ 2 ^ 24)
    (h : Q (.ref s.heap.objs.size) { s with heap := s.heap.push { cls := .type "list", data := .seq (List.foldl (fun x1 x2 => x1 ++ x2) #[] (List.replicate (if items.isEmpty = true then 0 else x.toNat) items)) } }) :
    wpAny (model pz w) A (binaryOp .Mult (.ref l) (.int x u)) Q E s := by
  have c0 : ¬(!Builtin.List.listFitsIndex x) = true := by simp [Builtin.List.listFitsIndex]; exact ar265 hlo hhi
  have c1 : ¬ items.size * x.toNat > (2 ^ 63 - 1) / 8 := ar266 hsz
  have c2 : ¬Builtin.List.listTooLong (items.size * x.toNat) = true := by simp [Builtin.List.listTooLong, sizeLine]; exact ar267 hsz
  exact wpAny_binaryOp_repeat_ref (T := "list") (U := "int") (by decide) ⟨_, hl, rfl⟩ (fun s' => typeIs_int s' x u) noFill_list_mul F.fills_int_mul F.slot_int_rmul repeat_list F.slot_int_index.lookup
    (call_meets F.slot_int_rmul (typeIs_int s x u) F.entry_int_rmul (F.args_int_rmul_2 _ _) (int___rmul___int_list x u l items k) ⟨hl, rfl, ⟨_, hl, rfl⟩, call_meets F.slot_list_mul ⟨_, hl, rfl⟩ F.entry_list_mul (F.args_list_mul_2 _ _) (AutoListH.list___mul___list_int_3 l items k x u c0 c1 c2) ⟨hl, h⟩⟩)
theorem SE_rep0 {r k p p1 pos} {n : Nat} (hr : SE b w D sc r loc mem (.int n) mem) (hn : n ≤ 1000) : SE b w D sc (.BinOp (.List [.Constant (.int 0) k p] p1) .Mult r pos) loc mem (.list mem.length) (mem ++ [List.replicate n (.int 0)]) := by
  intro A env s ad hA hE R L Q E K
  refine wpAny_BinOp (wpAny_List (SEs_cons rfl (SE_const (k := k) (pos := p) rfl) SEs_nil hA hE R L fun s1 ad1 xs o1 r1 => ⟨by have := r1.length; simp at this; rw [← this, sizeLine_eq]; decide, ?_⟩))
  refine ex1_2 (vrs1 r1) fun x ob3 hx => ?_; subst ob3
  refine ex1_1 hx.intInv fun t ob4 => ?_; subst ob4
  have o2 := OutE.all (n := s1.toks) (h' := s1.heap.push { cls := .type "list", data := .seq #[.int 0 t] }) o1.rel fun a o e => Heap.get?_push_of_some _ e
  have o12 := o1.trans o2
  refine hr hA hE o12.rel (L.out R o12) fun s3 ad3 v3 o3 r3 => ?_
  refine ex1_1 r3.intInv fun u ob5 => ?_; subst ob5
  have hl : s3.heap.get? s1.heap.objs.size = some { cls := .type "list", data := .seq #[.int 0 t] } := by
    refine o3.keep _ _ (fun hw => ?_) (Heap.get?_push_size _ rfl)
    have : Wr b ad1 s1.heap.objs.size := hw
    exact fresh_wr o1.rel this
  refine rep_wp hl (ar268 hn) (ar269 hn) (by show 1 * (n : Int).toNat ≤ _; rw [Int.toNat_natCast]; exact ar270 hn) ?_
  have e : (List.foldl (fun x1 x2 => x1 ++ x2) #[] (List.replicate (if (#[Value.int 0 t] : Array Value).isEmpty = true then 0 else (n : Int).toNat) #[Value.int 0 t])) = (List.replicate n (Value.int 0 t)).toArray := by
    rw [if_neg (by simp), Int.toNat_natCast, rep_foldl]; simp
  rw [e]
  have o123 := o12.trans o3
  refine K _ _ _ (o123.trans (OutE.newList (vs := List.replicate n (.int 0)) (xs := List.replicate n (Value.int 0 t)) o3.rel ?_)) (.list (list_last o3.rel.hr))
  exact rep_vrs _ n
end Mine
end

section
namespace Mine
theorem hd51 (P : Params) : CodeHd (HB P) 51 47 := ⟨o51_0 P, _, _, _, _, _, _, _, _, by kernel_rfl!, rfl, rfl, rfl, rfl, rfl, rfl, rfl, rfl, by decide⟩
theorem hd58 (P : Params) : CodeHd (HB P) 58 54 := ⟨o58_0 P, _, _, _, _, _, _, _, _, by kernel_rfl!, rfl, rfl, rfl, rfl, rfl, rfl, rfl, rfl, by decide⟩
theorem bltAt (P : Params) (a : Addr) (ha : a ≠ 4) : (HB P).BuiltinsAt ((HB P).nsMap 3) a := ⟨4, _, by kernel_rfl!, by decide, by decide, Ne.symm ha, rfl, rfl, rfl, rfl⟩
theorem mkDB (P : Params) (orc) {cd tb' : Addr} (h1 : CodeHd (HB P) cd tb') (h2 : tb' = 47 ∨ tb' = 54) : DefB ⟨HB P, globT, orc⟩ cd tb' := by
  refine ⟨h1, ⟨_, Heap.Ns.of_isNs (ns3 P), bltAt P _ (by rcases h2 with rfl | rfl <;> decide)⟩, ⟨h2, ?_⟩, by rcases h2 with rfl | rfl <;> decide⟩
  rcases h2 with rfl | rfl
  · show (HB P).get? 47 = none; kernel_rfl!
  · show (HB P).get? 54 = none; kernel_rfl!
theorem cells5 (n : Nat) : cellsFrom n (fdScope (st 5)).names [] = ([("inner", n + 1 + 1), ("a_digits", n + 1), ("n", n)] : List (Str × Addr)) := rfl
theorem cells6 (n : Nat) : cellsFrom n (fdScope (st 6)).names [] = ([("inner", n + 1 + 1), ("n", n + 1), ("digits", n)] : List (Str × Addr)) := rfl
theorem has_cell {l : List (Str × NameKind)} {cs : List (Str × Addr)} (h : (l.all fun x => x.2 != .cell || (cs.lookup x.1).isSome) = true) : ∀ p, l.lookup p = some .cell → ∃ c, cs.lookup p = some c := by
  intro p hp
  have := List.all_eq_true.mp h _ (PySem.mem_of_lookup_some hp)
  simp only [bne_self_eq_false, Bool.false_or] at this
  exact Option.isSome_iff_exists.mp this
theorem uni_cell {n1 n2 n3 : Str} {a1 a2 a3 : Addr} (h : ([n1, n2, n3] : List Str).Nodup) : ∀ p c, (p, c) ∈ [(n1, a1), (n2, a2), (n3, a3)] → ([(n1, a1), (n2, a2), (n3, a3)] : List (Str × Addr)).lookup p = some c := by
  intro p c hm
  simp only [List.nodup_cons, List.mem_cons, List.not_mem_nil, or_false, not_or] at h
  simp only [List.mem_cons, Prod.mk.injEq, List.not_mem_nil, or_false] at hm
  rcases hm with ⟨rfl, rfl⟩ | ⟨rfl, rfl⟩ | ⟨rfl, rfl⟩
  · simp
  · rw [List.lookup_cons, beq_eq_false_iff_ne.mpr (Ne.symm h.1.1), List.lookup_cons, beq_self_eq_true]
  · rw [List.lookup_cons, beq_eq_false_iff_ne.mpr (Ne.symm h.1.2), List.lookup_cons, beq_eq_false_iff_ne.mpr (Ne.symm h.2.1), List.lookup_cons, beq_self_eq_true]
noncomputable def fd52 (P : Params) : FuncData := fdOf (o52_0 P)
noncomputable abbrev b0 (P : Params) : Base := ⟨HB P, globT, fun _ _ _ => none⟩
section
variable {w : World} {D : Nat} {mem mem' : Mem}
theorem digits_num (x n : Nat) (hn : 0 < n) : (((Builtin.Int.intBits (x : Int) : Nat) : Int) + n - 1).fdiv n = (((bitsOf (x : Int) + n - 1) / n : Nat) : Int) := by
  rw [Int.fdiv_eq_ediv_of_nonneg _ (Int.natCast_nonneg _)]
  have : (((Builtin.Int.intBits (x : Int) : Nat) : Int) + n - 1) = ((bitsOf (x : Int) + n - 1 : Nat) : Int) := by
    unfold bitsOf; exact ar420 hn
  rw [this]
  rfl
theorem op_fdiv {x : Int} {y : Nat} (h : y ≤ 64) (h0 : 0 < y) : opV .FloorDiv (.int x) (.int y) mem = some (.int (x.fdiv y), mem) := by
  show ((cond (small (y : Int) && !((y : Int) == 0)) (some (x.fdiv y)) none).map fun c => (V.int c, mem)) = _
  rw [small_nat (ar421 h h0), show ((y : Int) == 0) = false from beq_eq_false_iff_ne.mpr (ar422 h h0)]
  rfl
theorem LR.none {b : Base} {env : Env} {h : Heap} {ad : List Addr} {l : Loc} (L : LR b env h ad l) : LR b env h ad [] := ⟨L.low, L.lowC, L.cell, let ⟨m, hm, _⟩ := L.ns; ⟨m, hm, fun x v e => by cases e⟩⟩
theorem OutS.none {b : Base} {env : Env} {s s' : Shared} {ad ad' : List Addr} {l : Loc} (o : OutS b env s ad s' ad' l mem') : OutS b env s ad s' ad' [] mem' := ⟨o.rel, o.lr.none, o.pre, o.keep, o.fresh, o.os, o.gens, o.drawn⟩
theorem cl5 (cells : List (Str × Addr)) : clos cells (fdScope in5).names [] = ([("n" : Str), "inner", "a_digits"] : List Str).map fun x => (x, (cells.lookup x).getD 0) := rfl
theorem free_names5 : ∀ y ∈ (fdScope in5).names, y.2 = .free → (fdScope (st 5)).names.lookup y.1 = some .cell := by decide +kernel
theorem nodup5 (L : Nat) : [(([("inner", L + 1 + 1), ("a_digits", L + 1), ("n", L)] : List (Str × Addr)).lookup ("n" : Str)).getD 0, (([("inner", L + 1 + 1), ("a_digits", L + 1), ("n", L)] : List (Str × Addr)).lookup ("inner" : Str)).getD 0, (([("inner", L + 1 + 1), ("a_digits", L + 1), ("n", L)] : List (Str × Addr)).lookup ("a_digits" : Str)).getD 0].Nodup := by
  show [L, L + 1 + 1, L + 1].Nodup
  simp
  exact ar423
theorem ck5 : ∀ x ∈ ([("n" : Str), "inner", "a_digits"] : List Str), (fdScope (st 5)).names.lookup x = some .cell := by decide +kernel
theorem body5_ok (P : Params) {x n k : Nat} (hm : 0 < mem.length) (hx : x < 2 ^ 64) (hn : 0 < n) (hn64 : n ≤ 64) (hk : k = (bitsOf (x : Int) + n - 1) / n) (hk1 : k ≤ 64) (hkn : k * n ≤ 1000) (hxk : x < 2 ^ (k * n)) (hx0 : x = 0 → k = 0) (hxp : x ≠ 0 → 0 < k) :
    SSC (b0 P) w 64 (fd52 P) 52 (fdBody (st 5)) [("a", .int x), ("n", .int n)] mem (.ret (.list mem.length)) [] (mem ++ [digsN n k x]) := by
  have hB : fdBody (st 5) = [_, .FunctionDef "inner" (fdArgs in5) (fdBody in5) [] none [] (fdScope in5) none "inner" _, .If _ [.Expr _ _] [] _, _] := rfl
  rw [hB]
  intro A L s ad Q E hA hE R LL K
  have B := baseOk P (fun _ _ _ => none)
  refine wpAny_execs_cons (SS_assign (v := .list mem.length) (mem1 := mem ++ [List.replicate k (.int 0)]) rfl rfl (SE_rep0 (n := k) ?eb (ar424 hk hk1)) hA hE R LL fun s1 ad1 f1 o1 r1 => ?_)
  case eb => exact SE_bin (SE_bin (SE_bin (SE_meth rfl rfl (by decide) rfl (SE_name B (v := .int x) rfl) SEs_nil (methV_ok (name := "bit_length") (o := .int x) (vs := []) rfl).choose_spec.choose_spec) (SE_name B (v := .int n) rfl) op_add) (SE_const rfl) op_sub) (SE_name B (v := .int n) rfl) (by rw [hk, ← digits_num x n hn]; exact op_fdiv hn64 hn)
  cases r1
  have hcl : closureFor (fdScope in5) (callEnvC (fd52 P) L 52) = pure (clos (callEnvC (fd52 P) L 52).cells (fdScope in5).names []) := closureFor_clos fun y hy hf => hE.cells _ (free_names5 y hy hf)
  refine wpAny_execs_cons (def_in (mkDB P _ (hd51 P) (.inl rfl)) hE rfl rfl rfl rfl rfl rfl hcl rfl o1.rel o1.lr fun s2 fa ob doc pm cv ct o2 g1 g2 g3 => ?_)
  rw [cl5] at g2
  have I : Inn (b0 P) fa (fd5 _ _ _ doc pm cv ct) (fl5 mem.length fa n) s2.heap ad1 := Inn.of_lr (xs := ["n", "inner", "a_digits"]) o2.lr hE ⟨ob, g1, g2⟩ g3 rfl ck5 fun y v hy => by
    have := PySem.mem_of_lookup_some hy
    simp only [List.mem_cons, List.not_mem_nil, or_false, Prod.mk.injEq] at this
    rcases this with ⟨rfl, rfl⟩ | ⟨rfl, rfl⟩ | ⟨rfl, rfl⟩
    · exact ⟨by simp, rfl⟩
    · exact ⟨by simp, rfl⟩
    · exact ⟨by simp, rfl⟩
  have hl : (mem ++ [List.replicate k (V.int 0)])[mem.length]? = some (List.replicate k (V.int 0)) := by rw [List.getElem?_append_right (Nat.le_refl _), Nat.sub_self]; rfl
  have hset : (mem ++ [List.replicate k (V.int 0)]).set mem.length (digsN n k x) = mem ++ [digsN n k x] := by rw [List.set_append_right _ _ (Nat.le_refl _), Nat.sub_self]; rfl
  have e3 : (x = 0 → mem ++ [digsN n k x] = mem ++ [List.replicate k (V.int 0)]) := fun h => by rw [hx0 h]; rfl
  refine wpAny_execs_cons (SS_ifI (cb := ((x : Int) != 0)) (mem1 := mem ++ [digsN n k x]) rfl (ST_int (SE_name B rfl)) (fun hc => ?_) (fun hc => e3 (by simpa using hc)) hA hE o2.rel o2.lr I fun s3 ad3 f3 o3 r3 => ?_)
  · have h0 : x ≠ 0 := by simpa using hc
    have C := inner5_ok (w := w) (fa := fa) (doc := doc) (pm := pm) (cd := cv) (ct := ct) B (j := mem.length) (n := n) (ar425 hm) (nodup5 (L + 1)) k k 0 x _ _ (Nat.le_refl _) (hxp h0) hl (by simp) (by simp; exact ar424 hk hk1) hkn hx hxk
    have e4 : (List.replicate k (V.int 0)).take 0 ++ digsN n k x ++ (List.replicate k (V.int 0)).drop (0 + k) = digsN n k x := by simp
    rw [e4, hset] at C
    have hlen : bltV "len" [.list mem.length] (mem ++ [List.replicate k (V.int 0)]) = some (.int k, mem ++ [List.replicate k (V.int 0)]) := by
      show ((mem ++ [List.replicate k (V.int 0)])[mem.length]?).bind (fun l => cond (lit l.length) (some (V.int l.length, mem ++ [List.replicate k (V.int 0)])) none) = _
      rw [hl, Option.bind_some, List.length_replicate, show lit k = true from decide_eq_true (ar424 hk hk1)]
      rfl
    rw [Nat.zero_add] at C
    exact SEI_call (mem1 := mem ++ [List.replicate k (V.int 0)]) rfl (SE_name B rfl) (SEs_cons rfl (SE_name B rfl) (SEs_cons rfl (SE_const rfl) (SEs_cons rfl (SE_callB B (vs := [.list mem.length]) (v := .int k) rfl rfl (SEs_cons rfl (SE_name B rfl) SEs_nil) (bltV_ok hlen)) SEs_nil))) (CallC.mono hk1 C)
  · cases r3
    refine wpAny_execs_cons (SS_return (v := .list mem.length) (SE_name B rfl) hA hE o3.rel o3.lr fun s4 ad4 f4 o4 r4 => ?_)
    have r4' := r4
    refine ex1_2 r4 ?_; (try clear r4); intro val ob1 hv; subst ob1
    exact K _ _ _ (((o1.trans o2).trans (o3.trans o4)).none) r4'
end
end Mine
end

section
namespace Mine
section
variable {w : World} {D : Nat} {mem mem' : Mem}
theorem g52 (P : Params) : (HB P).get? 52 = some (o52_0 P) := by kernel_rfl!
theorem g59 (P : Params) : (HB P).get? 59 = some (o59_0 P) := by kernel_rfl!
theorem bd52 (P : Params) (x1 x2 : Value) : bindArgs (fd52 P) ⟨[x1, x2], []⟩ = pure [(("a" : Str), x1), ("n", x2)] := rfl
theorem cr52 (P : Params) : (HB P).codeRecOk (fd52 P).code (fd52 P).qualname = true := by kernel_rfl!
theorem ok52 (P : Params) {x n : Nat} (hm : 0 < mem.length) (hx : x < 2 ^ 64) (hn : 0 < n) (hn64 : n ≤ 64) : CallE (b0 P) w 65 52 [.int x, .int n] mem (.list mem.length) (mem ++ [digsN n ((bitsOf (x : Int) + n - 1) / n) x]) := by
  have hb : bitsOf (x : Int) ≤ 64 := bits_lt _ _ (by rw [Int.natAbs_natCast]; exact hx)
  obtain ⟨k, hk⟩ : ∃ k, k = (bitsOf (x : Int) + n - 1) / n := ⟨_, rfl⟩
  have hk1 : k ≤ 64 := by
    rw [hk]
    have : (bitsOf (x : Int) + n - 1) / n ≤ bitsOf (x : Int) := by
      rw [Nat.div_le_iff_le_mul hn]
      have : bitsOf (x : Int) ≤ bitsOf (x : Int) * n := Nat.le_mul_of_pos_right _ hn
      exact ar194 hn hn64 this
    exact ar195 hb this
  have hkn : k * n ≤ 1000 := by
    have := Nat.div_mul_le_self (bitsOf (x : Int) + n - 1) n
    rw [← hk] at this
    exact ar310 hn hn64 hb this
  have hkb : bitsOf (x : Int) ≤ k * n := by
    have := Nat.lt_mul_div_succ (bitsOf (x : Int) + n - 1) hn
    rw [← hk, Nat.mul_succ, Nat.mul_comm] at this
    exact ar311 hn hn64 hb this
  have hxk : x < 2 ^ (k * n) := by
    have := lt_bits (x : Int)
    rw [Int.natAbs_natCast] at this
    exact Nat.lt_of_lt_of_le this (Nat.pow_le_pow_right (by decide) hkb)
  have hx0 : x = 0 → k = 0 := by
    rintro rfl
    rw [hk, show bitsOf ((0 : Nat) : Int) = 0 from rfl]
    exact Nat.div_eq_of_lt (ar312 hn hn64)
  have hxp : x ≠ 0 → 0 < k := by
    intro h0
    rcases Nat.eq_zero_or_pos k with h | h
    · rw [h, Nat.zero_mul] at hxk; exact ar313 hx hxk h0
    · exact h
  rw [← hk]
  exact cell_call (D := 64) (c := .ret (.list mem.length)) (p1 := "a") (p2 := "n") (baseOk P _) (g52 P) rfl (Heap.CodeRec.of_ok (cr52 P)) rfl rfl rfl rfl rfl rfl rfl (bd52 P) (by decide +kernel) (.inl rfl) (.inr rfl)
    (fun n => has_cell (by show ((fdScope (st 5)).names.all fun x => x.2 != .cell || ((cellsFrom n (fdScope (st 5)).names []).lookup x.1).isSome) = true; rw [cells5]; rfl)) (fun n p c hm => by
      replace hm : (p, c) ∈ cellsFrom n (fdScope (st 5)).names [] := hm
      show (cellsFrom n (fdScope (st 5)).names []).lookup p = some c
      rw [cells5] at hm ⊢
      exact uni_cell (by decide +kernel) p c hm) (body5_ok P hm hx hn hn64 hk hk1 hkn hxk hx0 hxp)
end
noncomputable def in6 : Stmt := (fdBody (st 6)).getD 0 (.Pass default)
noncomputable abbrev q6 : Str := "_digits2int.<locals>.inner"
noncomputable abbrev fd6 (cn ci cg : Addr) (doc pm cd ct : Value) : FuncData := fnX "inner" q6 (fdArgs in6) (fdBody in6) (fdScope in6) [("n", cn), ("inner", ci), ("digits", cg)] .none .none doc pm none cd ct
noncomputable abbrev fl6 (j : Nat) (fa : Addr) (n : Nat) : Loc := [("n", .int n), ("inner", .ref fa), ("digits", .list j)]
theorem bind6 (cn ci ca : Addr) (doc pm cd ct : Value) (S : Setting) (x y : Value) : peek [] S (bindArgs (fd6 cn ci ca doc pm cd ct) ⟨[x, y], []⟩) = some [(("L" : Str), x), ("R", y)] := by kernel_rfl!
theorem free6 {j fa n} : ∀ x v, (fl6 j fa n).lookup x = some v → (fdScope in6).names.lookup x = some .free := by
  intro x v h
  have := PySem.mem_of_lookup_some h
  simp only [List.mem_cons, List.not_mem_nil, or_false, Prod.mk.injEq] at this
  rcases this with ⟨rfl, _⟩ | ⟨rfl, _⟩ | ⟨rfl, _⟩ <;> decide +kernel
theorem nocell6 : ∀ x ∈ (fdScope in6).names, x.2 ≠ .cell := by decide +kernel
theorem loc6 : ∀ x ∈ ([("L" : Str), "R"] : List Str), (fdScope in6).names.lookup x = some .local := by decide +kernel
section
variable {b : Base} {w : World} {D : Nat} {sc : Scope} {loc loc' : Loc} {mem mem' mem1 mem2 : Mem} {v : V} {c : Ctl} {fa : Addr} {fd : FuncData} {fl : Loc}
noncomputable abbrev lo6 (j : Nat) (fa : Addr) (n L R : Nat) : Loc := ([("L", .int L), ("R", .int R)] : Loc) ++ fl6 j fa n
theorem clo6 (B : BaseOk b) {fa cn ci ca : Addr} {doc pm cd ct : Value} {j n L R : Nat} (hcn : [cn, ci, ca].Nodup) (h : SSI b w D (fdScope in6) fa (fd6 cn ci ca doc pm cd ct) (fl6 j fa n) (fdBody in6) (lo6 j fa n L R) mem c loc' mem') :
    CallC b w (D + 1) fa (fd6 cn ci ca doc pm cd ct) (fl6 j fa n) [.int L, .int R] mem (cOf c) mem' := by
  refine clo_call (b := b) (w := w) (D := D) (fa := fa) (fd := fd6 cn ci ca doc pm cd ct) (fl := fl6 j fa n) (loc := [("L", .int L), ("R", .int R)]) (vs := [.int L, .int R]) B rfl nocell6 rfl rfl hcn rfl rfl rfl ?_ (by show ([("L" : Str), "R"] : List Str).Nodup; decide +kernel) loc6 free6 h
  intro s ad vals hv
  refine ex2_3 (vrs2 hv) fun a2 a3 ob1 h2 h3 => ?_; subst ob1
  exact ⟨_, kp_binds (fun a o e => by cases e) fun S => bind6 cn ci ca doc pm cd ct S a2 a3, rfl, .cons h2 (.cons h3 .nil)⟩
theorem body6_one (B : BaseOk b) {fa : Addr} {fd : FuncData} {j n L : Nat} {l : List V} {d : V} (hl : mem[j]? = some l) (hd : l[L]? = some d) (hk : L < 1000) :
    SSI b w D (fdScope in6) fa fd (fl6 j fa n) (fdBody in6) (lo6 j fa n L (L + 1)) mem (.ret d) (lo6 j fa n L (L + 1)) mem := by
  have hB : fdBody in6 = [_, _, _, _] := rfl
  rw [hB]
  refine SSI_of (SSs_ret (SS_if (d := true) (mem1 := mem) (ST_cmp rfl (SE_bin (SE_loc (v := .int L) rfl rfl (by decide +kernel)) (SE_const rfl) op_add) (SE_loc (v := .int (L + 1 : Nat)) rfl rfl (by decide +kernel)) ?_) (fun _ => ?_) fun h => by cases h))
  · show some _ = _
    rw [beq_iff_eq.mpr (by push_cast; rfl)]
  · refine SSs_ret (SS_return (SE_idx rfl (SE_free (v := .list j) rfl rfl (by decide +kernel) (by decide +kernel)) (SE_loc (v := .int L) rfl rfl (by decide +kernel)) ?_))
    have e1 : decide (0 ≤ (L : Int)) = true := decide_eq_true (Int.natCast_nonneg L)
    have e2 : decide ((L : Int) < 2 ^ 63) = true := decide_eq_true (ar65 hk)
    exact x_lst hl (by rw [e1, e2]; rfl) hd
theorem SEI_shl {l r pos} {a : Int} {sh : Nat} (hl : SEI b w D sc fa fd fl l loc mem (.int a) mem1) (hr : SEI b w D sc fa fd fl r loc mem1 (.int sh) mem2) (hb : bitsOf a + sh ≤ 2 ^ 27) : SEI b w D sc fa fd fl (.BinOp l .LShift r pos) loc mem (.int (a * 2 ^ sh)) mem2 := by
  intro A env s ad hA hE R L I Q E K
  refine wpAny_BinOp (hl A env s ad hA hE R L I fun s1 ad1 v1 o1 r1 => hr A env s1 ad1 hA hE o1.rel (L.out R o1) (I.outE R o1) fun s2 ad2 v2 o2 r2 => ?_)
  refine ex1_1 r1.intInv fun t ob2 => ?_; subst ob2
  refine ex1_1 r2.intInv fun u ob3 => ?_; subst ob3
  refine lshift_int (ar35) (by have : Builtin.Int.intBits a + sh ≤ 2 ^ 27 := hb; exact_mod_cast this) ?_
  rw [Int.toNat_natCast]
  exact K _ _ _ (o1.trans (o2.trans (OutE.toks o2.rel _))) (.int _ _)
theorem SEI_if {t x y pos cb} (ht : ST b w D sc t loc mem cb mem1) (h1 : cb = true → SEI b w D sc fa fd fl x loc mem1 v mem2) (h2 : cb = false → SEI b w D sc fa fd fl y loc mem1 v mem2) : SEI b w D sc fa fd fl (.IfExp t x y pos) loc mem v mem2 := by
  intro A env s ad hA hE R L I Q E K
  refine wpAny_IfExp (ht hA hE R L fun s1 ad1 o1 => ?_)
  induction cb using Bool.casesOn with
  | true => exact h1 rfl A env s1 ad1 hA hE o1.rel (L.out R o1) (I.outE R o1) fun s2 ad2 v2 o2 r2 => K _ _ _ (o1.trans o2) r2
  | false => exact h2 rfl A env s1 ad1 hA hE o1.rel (L.out R o1) (I.outE R o1) fun s2 ad2 v2 o2 r2 => K _ _ _ (o1.trans o2) r2
theorem body6_more (B : BaseOk b) {fa cn ci ca : Addr} {doc pm cd ct : Value} {j n L k1 k2 : Nat} {U1 U2 : Int} (h1 : 0 < k1) (h2 : 0 < k2) (hm : (L + (L + (k1 + k2))) / 2 = L + k1) (hk : k1 < 1000) (hb : bitsOf U2 + k1 * n ≤ 2 ^ 27)
    (c1 : CallC b w D fa (fd6 cn ci ca doc pm cd ct) (fl6 j fa n) [.int L, .int (L + k1 : Nat)] mem (.int U1) mem)
    (c2 : CallC b w D fa (fd6 cn ci ca doc pm cd ct) (fl6 j fa n) [.int (L + k1 : Nat), .int (L + (k1 + k2) : Nat)] mem (.int U2) mem) :
    ∃ loc', SSI b w D (fdScope in6) fa (fd6 cn ci ca doc pm cd ct) (fl6 j fa n) (fdBody in6) (lo6 j fa n L (L + (k1 + k2))) mem (.ret (.int (U2 * 2 ^ (k1 * n) + U1))) loc' mem := by
  have hB : fdBody in6 = [_, _, _, _] := rfl
  rw [hB]
  refine ⟨putL "shift" (.int (k1 * n : Nat)) (putL "mid" (.int (L + k1 : Nat)) (lo6 j fa n L (L + (k1 + k2)))), ?_⟩
  refine SSI_cons (loc1 := lo6 j fa n L (L + (k1 + k2))) (mem1 := mem) (SS_if (d := false) (mem1 := mem) (ST_cmp rfl (SE_bin (SE_loc (v := .int L) rfl rfl (by decide +kernel)) (SE_const rfl) op_add) (SE_loc (v := .int (L + (k1 + k2) : Nat)) rfl rfl (by decide +kernel)) ?_) (fun h => by cases h) fun _ => SSs_nil) ?_
  · show some _ = _
    rw [beq_eq_false_iff_ne.mpr (ar314 h1 hm hk)]
  refine SSI_cons (mem1 := mem) (SS_assign (v := .int (L + k1 : Nat)) rfl rfl ?_) ?_
  · rw [← hm]
    exact SE_shr (n := 1) (SE_bin (v := .int (L + (L + (k1 + k2)) : Nat)) (SE_loc (v := .int L) rfl rfl (by decide +kernel)) (SE_loc (v := .int (L + (k1 + k2) : Nat)) rfl rfl (by decide +kernel)) (by rw [op_add]; push_cast; rfl)) (SE_const rfl)
  refine SSI_cons (mem1 := mem) (SS_assign (v := .int (k1 * n : Nat)) rfl rfl ?_) ?_
  · exact SE_bin (SE_bin (v := .int (k1 : Nat)) (SE_loc (v := .int (L + k1 : Nat)) rfl rfl (by decide +kernel)) (SE_loc (v := .int L) rfl rfl (by decide +kernel)) (by rw [op_sub, show ((L + k1 : Nat) : Int) - (L : Int) = (k1 : Int) by exact ar315])) (SE_free (v := .int n) rfl rfl (by decide +kernel) (by decide +kernel)) (op_mul (x := k1) (y := n) (by exact ar316 h1 hm hk))
  refine SSI_ret (SEI_bin (x := .int (U2 * 2 ^ (k1 * n))) (y := .int U1) (SEI_shl (SEI_call rfl (SE_free (v := .ref fa) rfl rfl (by decide +kernel) (by decide +kernel)) (SEs_cons rfl (SE_loc rfl rfl (by decide +kernel)) (SEs_cons rfl (SE_loc rfl rfl (by decide +kernel)) SEs_nil)) c2) (SEI_of (SE_loc rfl rfl (by decide +kernel))) hb) (SEI_call rfl (SE_free (v := .ref fa) rfl rfl (by decide +kernel) (by decide +kernel)) (SEs_cons rfl (SE_loc rfl rfl (by decide +kernel)) (SEs_cons rfl (SE_loc rfl rfl (by decide +kernel)) SEs_nil)) c1) op_add)
theorem undig_bound (n : Nat) : ∀ l : List Int, (∀ d ∈ l, d.natAbs < 2 ^ 64) → (undigN n l).natAbs < 2 ^ (64 + (n + 1) * l.length)
  | [], _ => by simp [undigN]
  | d :: l, h => by
    have ih := undig_bound n l fun d hd => h d (.tail _ hd)
    have h1 := h d (.head _)
    rw [undigN, List.length_cons, Nat.mul_succ, ← Nat.add_assoc, Nat.pow_add]
    have h2 : (d + 2 ^ n * undigN n l).natAbs ≤ d.natAbs + 2 ^ n * (undigN n l).natAbs := by
      refine Nat.le_trans (Int.natAbs_add_le _ _) ?_
      rw [Int.natAbs_mul, Int.natAbs_pow]
      exact Nat.le_refl _
    generalize (undigN n l).natAbs = u at *
    have h3 : (2 : Nat) ^ 64 ≤ 2 ^ (64 + (n + 1) * l.length) := Nat.pow_le_pow_right (by decide) (ar317)
    generalize 2 ^ (64 + (n + 1) * l.length) = X at *
    have h4 : 2 ^ n * u ≤ 2 ^ n * X := Nat.mul_le_mul_left _ (ar318 ih)
    have h5 : X ≤ 2 ^ n * X := Nat.le_mul_of_pos_left _ (Nat.two_pow_pos n)
    have h6 : X * 2 ^ (n + 1) = 2 ^ n * X + 2 ^ n * X := by rw [Nat.pow_succ, Nat.mul_comm, Nat.mul_assoc, Nat.two_mul, Nat.mul_add]
    exact ar319 h1 h2 h3 h4 h5 h6
theorem inner6_ok (B : BaseOk b) {fa cn ci ca : Addr} {doc pm cd ct : Value} {j n : Nat} {ds : List Int} (hcn : [cn, ci, ca].Nodup) (hl : mem[j]? = some (ds.map .int)) (hds : ∀ d ∈ ds, d.natAbs < 2 ^ 64) (hz : ds.length ≤ 64) (hn : ds.length * n ≤ 1000) : ∀ (N k L : Nat), k ≤ N → 0 < k → L + k ≤ ds.length →
    CallC b w k fa (fd6 cn ci ca doc pm cd ct) (fl6 j fa n) [.int L, .int (L + k : Nat)] mem (.int (undigN n ((ds.drop L).take k))) mem
  | 0, k, L, hN, h0, hk => absurd h0 (ar320 hN h0)
  | N + 1, k, L, hN, h0, hk => by
    obtain ⟨D, rfl⟩ : ∃ D, k = D + 1 := ⟨k - 1, ar321 h0⟩
    rcases Nat.eq_zero_or_pos D with hD | hD
    · subst hD
      obtain ⟨d, hd⟩ : ∃ d, ds[L]? = some d := ⟨ds[L], List.getElem?_eq_getElem (ar322 hk)⟩
      have h := clo6 (D := 0) (c := .ret (.int d)) B hcn (body6_one (w := w) (D := 0) (fd := fd6 cn ci ca doc pm cd ct) (fa := fa) (n := n) (L := L) (d := .int d) B hl (by rw [List.getElem?_map, hd]; rfl) (ar323 hz hk))
      have e : undigN n ((ds.drop L).take (0 + 1)) = d := by
        obtain ⟨hi, hd⟩ := List.getElem?_eq_some_iff.mp hd
        rw [List.drop_eq_getElem_cons hi, hd]
        simp [undigN]
      rw [e]
      exact h
    · obtain ⟨k1, k2, hk12, h1, h2, hm⟩ : ∃ k1 k2, D + 1 = k1 + k2 ∧ 0 < k1 ∧ 0 < k2 ∧ (L + (L + (k1 + k2))) / 2 = L + k1 := ⟨(D + 1) / 2, D + 1 - (D + 1) / 2, ar324 hD, ar325 hD, ar326 hD, ar327 hD⟩
      have hD1 : k1 ≤ D := ar328 hk12 h2
      have hD2 : k2 ≤ D := ar329 hk12 h1
      have C1 := CallC.mono hD1 (inner6_ok (fa := fa) (cn := cn) (ci := ci) (ca := ca) (doc := doc) (pm := pm) (cd := cd) (ct := ct) (n := n) B hcn hl hds hz hn N k1 L (ar330 hN hk12 h2) h1 (ar331 hk hk12 h1 hm))
      have C2 := CallC.mono hD2 (inner6_ok (fa := fa) (cn := cn) (ci := ci) (ca := ca) (doc := doc) (pm := pm) (cd := cd) (ct := ct) (n := n) B hcn hl hds hz hn N k2 (L + k1) (ar332 hN hk12 hD2) h2 (ar333 hk hk12 hm))
      rw [Nat.add_assoc] at C2
      have hb : bitsOf (undigN n ((ds.drop (L + k1)).take k2)) + k1 * n ≤ 2 ^ 27 := by
        have hq := undig_bound n ((ds.drop (L + k1)).take k2) fun d hd => hds d (List.mem_of_mem_drop (List.mem_of_mem_take hd))
        have hq2 := bits_lt _ _ hq
        have h3 : ((ds.drop (L + k1)).take k2).length ≤ ds.length := Nat.le_trans (List.length_take_le' _ _) (by rw [List.length_drop]; exact Nat.sub_le _ _)
        have h4 : (n + 1) * ((ds.drop (L + k1)).take k2).length ≤ (n + 1) * ds.length := Nat.mul_le_mul_left _ h3
        have h5 : (n + 1) * ds.length = ds.length * n + ds.length := by rw [Nat.mul_comm, Nat.mul_succ]
        have h6 : k1 * n ≤ ds.length * n := Nat.mul_le_mul_right _ (ar335 hk hk12 h2 hm h5)
        exact ar336 hz hn hq2 h4 h5 h6
      refine ex1_1 (body6_more (w := w) B h1 h2 hm (ar337 hz hk hD hk12 h2 hm) hb C1 C2) fun lo' h => ?_
      replace h := clo6 B hcn h
      have e : undigN n ((ds.drop (L + k1)).take k2) * 2 ^ (k1 * n) + undigN n ((ds.drop L).take k1) = undigN n ((ds.drop L).take (k1 + k2)) := by
        rw [List.take_add, undigN_append, List.drop_drop, List.length_take, List.length_drop, Nat.min_eq_left (ar338 hz hk hk12 h2 hm), Int.mul_comm, Nat.mul_comm k1 n, Int.add_comm]
      rw [hk12]
      rw [e] at h
      rw [← hk12] at h ⊢
      exact h
end
end Mine
end

section
namespace Mine
variable {w : World} {D : Nat} {mem mem' : Mem}
noncomputable def fd59 (P : Params) : FuncData := fdOf (o59_0 P)
theorem bd59 (P : Params) (x1 x2 : Value) : bindArgs (fd59 P) ⟨[x1, x2], []⟩ = pure [(("digits" : Str), x1), ("n", x2)] := rfl
theorem cr59 (P : Params) : (HB P).codeRecOk (fd59 P).code (fd59 P).qualname = true := by kernel_rfl!
theorem cl6 (cells : List (Str × Addr)) : clos cells (fdScope in6).names [] = ([("n" : Str), "inner", "digits"] : List Str).map fun x => (x, (cells.lookup x).getD 0) := rfl
theorem free_names6 : ∀ y ∈ (fdScope in6).names, y.2 = .free → (fdScope (st 6)).names.lookup y.1 = some .cell := by decide +kernel
theorem nodup6 (L : Nat) : [(([("inner", L + 1 + 1), ("n", L + 1), ("digits", L)] : List (Str × Addr)).lookup ("n" : Str)).getD 0, (([("inner", L + 1 + 1), ("n", L + 1), ("digits", L)] : List (Str × Addr)).lookup ("inner" : Str)).getD 0, (([("inner", L + 1 + 1), ("n", L + 1), ("digits", L)] : List (Str × Addr)).lookup ("digits" : Str)).getD 0].Nodup := by
  show [L + 1, L + 1 + 1, L].Nodup
  simp
  exact ar113
theorem ck6 : ∀ x ∈ ([("n" : Str), "inner", "digits"] : List Str), (fdScope (st 6)).names.lookup x = some .cell := by decide +kernel
theorem body6_ok (P : Params) {j n : Nat} {ds : List Int} (hl : mem[j]? = some (ds.map .int)) (hds : ∀ d ∈ ds, d.natAbs < 2 ^ 64) (hz : ds.length ≤ 64) (hn : ds.length * n ≤ 1000) :
    SSC (b0 P) w 64 (fd59 P) 59 (fdBody (st 6)) [("digits", .list j), ("n", .int n)] mem (.ret (.int (undigN n ds))) [] mem := by
  have hB : fdBody (st 6) = [.FunctionDef "inner" (fdArgs in6) (fdBody in6) [] none [] (fdScope in6) none "inner" _, .Return (some (.IfExp (.Name _ _) (.Call (.Name _ _) [_, _] [] _) _ _)) _] := rfl
  rw [hB]
  intro A L s ad Q E hA hE R LL K
  have B := baseOk P (fun _ _ _ => none)
  have hcl : closureFor (fdScope in6) (callEnvC (fd59 P) L 59) = pure (clos (callEnvC (fd59 P) L 59).cells (fdScope in6).names []) := closureFor_clos fun y hy hf => hE.cells _ (free_names6 y hy hf)
  refine wpAny_execs_cons (def_in (mkDB P _ (hd58 P) (.inr rfl)) hE rfl rfl rfl rfl rfl rfl hcl rfl R LL fun s2 fa ob doc pm cv ct o2 g1 g2 g3 => ?_)
  rw [cl6] at g2
  have I : Inn (b0 P) fa (fd6 _ _ _ doc pm cv ct) (fl6 j fa n) s2.heap ad := Inn.of_lr (xs := ["n", "inner", "digits"]) o2.lr hE ⟨ob, g1, g2⟩ g3 rfl ck6 fun y v hy => by
    have := PySem.mem_of_lookup_some hy
    simp only [List.mem_cons, List.not_mem_nil, or_false, Prod.mk.injEq] at this
    rcases this with ⟨rfl, rfl⟩ | ⟨rfl, rfl⟩ | ⟨rfl, rfl⟩
    · exact ⟨by simp, rfl⟩
    · exact ⟨by simp, rfl⟩
    · exact ⟨by simp, rfl⟩
  have hlen : bltV "len" [.list j] mem = some (.int ds.length, mem) := by
    show (mem[j]?).bind (fun l => cond (lit l.length) (some (V.int l.length, mem)) none) = _
    rw [hl, Option.bind_some, List.length_map, show lit ds.length = true from decide_eq_true (ar114 hz)]
    rfl
  refine wpAny_execs_cons (wpAny_Return_some ?_)
  refine SEI_if (b := b0 P) (w := w) (D := 64) (sc := (fd59 P).scope) (fa := fa) (fd := fd6 _ _ _ doc pm cv ct) (fl := fl6 j fa n) (loc := putL "inner" (.ref fa) [("digits", .list j), ("n", .int n)]) (mem := mem) (mem1 := mem) (mem2 := mem) (v := .int (undigN n ds)) (cb := !(ds.map V.int).isEmpty)
    (ST_list (i := j) (SE_name B rfl) hl (by rw [List.length_map]; exact ar114 hz)) (fun hc => ?_) (fun hc => ?_) _ _ s2 ad hA hE o2.rel o2.lr I fun s3 ad3 v3 o3 r3 => K _ _ _ (o2.trans (OutS.ofE o2.rel o2.lr o3)).none ⟨v3, rfl, r3⟩
  · have h0 : 0 < ds.length := by
      induction ds using List.casesOn with
      | nil => cases hc
      | cons => simp
    have C := inner6_ok (w := w) (fa := fa) (doc := doc) (pm := pm) (cd := cv) (ct := ct) B (j := j) (n := n) (nodup6 (L + 1)) hl hds hz hn ds.length ds.length 0 (Nat.le_refl _) h0 (ar115)
    rw [List.drop_zero, List.take_length, Nat.zero_add] at C
    exact SEI_call rfl (SE_name B rfl) (SEs_cons rfl (SE_const rfl) (SEs_cons rfl (SE_callB B (vs := [.list j]) (v := .int ds.length) rfl rfl (SEs_cons rfl (SE_name B rfl) SEs_nil) (bltV_ok hlen)) SEs_nil)) (CallC.mono hz C)
  · have h0 : ds = [] := by
      induction ds using List.casesOn with
      | nil => rfl
      | cons => cases hc
    subst h0
    exact SEI_of (SE_const rfl)
theorem ok59 (P : Params) {j n : Nat} {ds : List Int} (hl : mem[j]? = some (ds.map .int)) (hds : ∀ d ∈ ds, d.natAbs < 2 ^ 64) (hz : ds.length ≤ 64) (hn : ds.length * n ≤ 1000) : CallE (b0 P) w 65 59 [.list j, .int n] mem (.int (undigN n ds)) mem :=
  cell_call (D := 64) (c := .ret (.int (undigN n ds))) (p1 := "digits") (p2 := "n") (baseOk P _) (g59 P) rfl (Heap.CodeRec.of_ok (cr59 P)) rfl rfl rfl rfl rfl rfl rfl (bd59 P) (by decide +kernel) (.inr rfl) (.inr rfl)
    (fun n => has_cell (by show ((fdScope (st 6)).names.all fun x => x.2 != .cell || ((cellsFrom n (fdScope (st 6)).names []).lookup x.1).isSome) = true; rw [cells6]; rfl)) (fun n p c hm => by
      replace hm : (p, c) ∈ cellsFrom n (fdScope (st 6)).names [] := hm
      show (cellsFrom n (fdScope (st 6)).names []).lookup p = some c
      rw [cells6] at hm ⊢
      exact uni_cell (by decide +kernel) p c hm) (body6_ok P hl hds hz hn)
end Mine
end

section
namespace Mine
variable {b : Base} {w : World} {D : Nat} {sc : Scope} {loc loc' loc1 loc2 : Loc} {mem mem' mem1 mem2 mem3 : Mem} {v : V} {c : Ctl}
theorem ord_ok {c : Nat} : BltOk b w D "ord" [.str [c]] mem (.int c) mem := by
  intro A s ad vals hA R hv Q E K
  refine ex1_2 (vrs1 hv) fun x ob1 hx => ?_; subst ob1
  refine ex1_1 hx.strInv fun t ob2 => ?_; subst ob2
  exact PySem.P.ord_of_char (K _ ad _ (OutE.toks R _) (.int _ _))
theorem SE_inset {l r pos} {i : Int} {a : Addr} {S : Int → Bool} {n : Nat} (hl : SE b w D sc l loc mem (.int i) mem1) (hr : SE b w D sc r loc mem1 (.ref a) mem2) (hm : behindInMarks .In r = false) (hS : b.H.SetOf (intKind pz w) a S n) : SE b w D sc (.Compare l [.In] [r] pos) loc mem (.bool (S i)) mem2 := by
  intro A env s ad hA hE R L Q E K
  refine wpAny_Compare1 (hl hA hE R L fun s1 ad1 v1 o1 r1 => hr hA hE o1.rel (L.out R o1) fun s2 ad2 v2 o2 r2 => ?_) hm
  refine ex1_1 r1.intInv fun t ob3 => ?_; subst ob3
  cases r2
  have hS2 : s2.heap.SetOf (intKind pz w) a S n := by
    refine ex4_2 hS ?_; (try clear hS); intro o es ep t ho r
    exact ⟨o, es, ep, t, o2.rel.base _ _ ho, r⟩
  exact wpAny_inSet_of (knd := intKind pz w) (by simp [intKind, Value.isInt]) rfl hS2 (K _ _ _ (o1.trans (o2.trans (OutE.toks o2.rel _))) (.bool _))
structure TabS (b : Base) (w : World) (a : Addr) (f : Int → Option Value) : Prop where
  map : b.H.MapOf (intKind pz w) a f
  ne : (a == sysModules) = false
  ex : ∃ o, b.H.get? a = some o ∧ o.cls = .type "dict" ∧ o.dict = none
theorem get_meth {a : Addr} {f : Int → Option Value} {i : Int} (T : TabS b w a f) (hv : ∀ h ad, VR h ad v ((f i).getD .none)) : MethOk b w D "get" (.ref a) [.int i] mem v mem "dict" "dict.get" where
  pa := F.plainAttrs_dict
  slot := F.slot_dict_get
  ty := F.type_dict_get
  typ := fun {h ad x s m} e R hx => by
    cases hx
    refine ex1_3 T.ex fun o ho hc hd => ?_
    subst e
    exact ⟨⟨o, R.base _ _ ho, hc⟩, fun c e => by injection e with e; subst e; exact ⟨o, R.base _ _ ho, hd⟩⟩
  call := fun {A s ad x vals} hA R hx hvs => by
    intro Q E K
    cases hx
    refine ex1_2 (vrs1 hvs) fun y ob4 hy => ?_; subst ob4
    refine ex1_1 hy.intInv fun t ob5 => ?_; subst ob5
    refine ex1_3 T.ex fun o ho hc hd => ?_
    have hm : s.heap.MapOf (intKind pz w) a f := by
      refine ex3_2 T.map fun o es ep ho r => ?_
      exact ⟨o, es, ep, R.base _ _ ho, r⟩
    exact call_meetsIn F.slot_dict_get ⟨o, R.base _ _ ho, hc⟩ F.entry_dict_get (F.args_dict_get_2 _ _) (meets_dict_get (intKind pz w) (k := i) a (by simp [intKind, Value.isInt]) T.ne) ⟨f, hm, K _ ad _ (OutE.toks R _) (hv _ _)⟩
theorem ST_isnot {l k p pos} {x : V} {d : Bool} (hl : SE b w D sc l loc mem x mem1) (hd : d = !isNone x) : ST b w D sc (.Compare l [.IsNot] [.Constant .none k p] pos) loc mem d mem1 := by
  intro A env s ad Q E hA hE R L K
  refine wpAny_isTrue_Compare1 (hl hA hE R L fun s1 ad1 v1 o1 r1 => wpAny_Constant_none ?_) rfl
  refine PyProof.Rows.isnot_none_gen (wpAny_truthy_bool ?_)
  have e : (!(v1 == Value.none)) = d := by
    subst hd
    cases r1 <;> rfl
  rw [e]
  exact K _ _ o1
theorem lower_meth {x y : List Nat} (e : Txt.lower (mkS x) = mkS y) (hf : Builtin.Str.tooLong (Txt.lower (mkS x)).length = false) : MethOk b w D "lower" (.str x) [] mem (.str y) mem "str" "str.lower" where
  pa := F.plainAttrs_str
  slot := F.slot_str_lower
  ty := F.type_str_lower
  typ := fun {h ad z s m} e R hx => str_typ hx
  call := fun {A s ad z vals} hA R hx hvs => by
    intro Q E K
    refine ex1_1 hx.strInv fun t ob6 => ?_; subst ob6
    cases vrs0 hvs
    exact KXw.lower e hf fun t' k => K _ ad _ (OutE.toks R _) (.str _ _)
end Mine
end

section
namespace Mine
variable {b : Base} {w : World} {D : Nat} {mem mem' : Mem} {v : V}
noncomputable def OverHB (b : Base) (w : World) : Prop := ∀ a o, (HB w.params).get? a = some o → b.H.get? a = some o
theorem fn_call (B : BaseOk b) {f : Addr} {o : Obj} {fd : FuncData} {body : List Stmt} {vs : List V} {loc loc' : Loc} {c : Ctl} (ho : b.H.get? f = some o) (hd : o.data = .func fd) (hcd : b.H.CodeRec fd.code fd.qualname) (hbody : fd.body = .stmts body) (hcell : ∀ x ∈ fd.scope.names, x.2 ≠ .cell) (hcl : fd.closure = []) (hg : fd.globals = mainGlobals) (hbl : fd.builtins = builtinsNs)
    (hco : fd.scope.isCoroutine = false) (hgen : fd.scope.isGenerator = false) (hk : fd.scope.kind = .function)
    (hbind : ∀ (s : Shared) (ad : List Addr) (vals : List Value), VRs s.heap ad vs vals → ∃ bs : List (Str × Value), BindsTo s fd ⟨vals, []⟩ bs ∧ bs.map (·.1) = loc.map (·.1) ∧ VRs s.heap ad (loc.map (·.2)) (bs.map (·.2)))
    (hnd : (loc.map (·.1)).Nodup) (hloc : ∀ x ∈ loc.map (·.1), fd.scope.names.lookup x = some .local)
    (hrun : SSs b w D fd.scope body loc mem c loc' mem') : CallE b w (D + 1) f vs mem (cOf c) mem' := by
  have C : CallC b w (D + 1) f fd [] vs mem (cOf c) mem' := clo_call B hbody hcell hg hbl (by rw [hcl]; exact List.nodup_nil) hco hgen hk hbind hnd hloc (fun x v h => by cases h) (SSI_of (by rw [List.append_nil]; exact hrun))
  intro A s ad vals hA R hv
  refine C A s ad vals hA R ⟨⟨o, R.base _ _ ho, hd⟩, hcd.keeps R.base, fun x c h => ?_, fun x c h => ?_, fun x v h => by cases h⟩ hv
  · rw [hcl] at h; cases h
  · rw [hcl] at h; cases h
theorem bind1 {fd : FuncData} {n : Str} {v1 : V} (h : ∀ S x1, peek [] S (bindArgs fd ⟨[x1], []⟩) = some [(n, x1)]) : ∀ (s : Shared) (ad : List Addr) (vals : List Value), VRs s.heap ad [v1] vals → ∃ bs : List (Str × Value), BindsTo s fd ⟨vals, []⟩ bs ∧ bs.map (·.1) = [(n, v1)].map (·.1) ∧ VRs s.heap ad ([(n, v1)].map (·.2)) (bs.map (·.2)) := by
  intro s ad vals hv
  refine ex1_2 (vrs1 hv) fun x1 ob1 h1 => ?_; subst ob1
  exact ⟨_, kp_binds (fun a o e => by cases e) fun S => h S x1, rfl, .cons h1 .nil⟩
noncomputable def fd184 (P : Params) : FuncData := fdOf (o184_0 P)
noncomputable def fd172 (P : Params) : FuncData := fdOf (o172_0 P)
theorem cr184 (P : Params) : (HB P).codeRecOk (fd184 P).code (fd184 P).qualname = true := by kernel_rfl!
theorem cr172 (P : Params) : (HB P).codeRecOk (fd172 P).code (fd172 P).qualname = true := by kernel_rfl!
theorem g184 (P : Params) : (HB P).get? 184 = some (o184_0 P) := by kernel_rfl!
theorem g172 (P : Params) : (HB P).get? 172 = some (o172_0 P) := by kernel_rfl!
theorem g174 (P : Params) : (HB P).get? 174 = some (o174_0 P) := by kernel_rfl!
theorem g127 (P : Params) : (HB P).get? 127 = some (dObj 0) := by kernel_rfl!
theorem bp184 (P : Params) : ∀ (S : Setting) (x1 : Value), peek [] S (bindArgs (fd184 P) ⟨[x1], []⟩) = some [(("code" : Str), x1)] := by intros; kernel_rfl!
theorem bp172 (P : Params) : ∀ (S : Setting) (x1 : Value), peek [] S (bindArgs (fd172 P) ⟨[x1], []⟩) = some [(("code" : Str), x1)] := by intros; kernel_rfl!
noncomputable def sgn (i : Int) : Bool := i == 65529 || i == 65530 || i == 65531 || i == 65532 || i == 65533
theorem set174 (P : Params) : (HB P).SetOf (intKind pz w) 174 sgn 5 := by
  refine ⟨o174_0 P, _, _, _, g174 P, ⟨rfl, rfl, rfl⟩, rfl, ?_, ?_, by decide, rfl, rfl⟩
  · intro e he
    simp only [List.mem_cons, List.not_mem_nil, or_false] at he
    rcases he with rfl | rfl | rfl | rfl | rfl
    · exact ⟨⟨65529, rfl, by kernel_rfl!⟩, rfl⟩
    · exact ⟨⟨65530, rfl, by kernel_rfl!⟩, rfl⟩
    · exact ⟨⟨65531, rfl, by kernel_rfl!⟩, rfl⟩
    · exact ⟨⟨65532, rfl, by kernel_rfl!⟩, rfl⟩
    · exact ⟨⟨65533, rfl, by kernel_rfl!⟩, rfl⟩
  · intro k
    constructor
    · intro h
      simp only [sgn, Bool.or_eq_true, beq_iff_eq] at h
      rcases h with (((rfl | rfl) | rfl) | rfl) | rfl
      · exact ⟨_, .head _, rfl⟩
      · exact ⟨_, .tail _ (.head _), rfl⟩
      · exact ⟨_, .tail _ (.tail _ (.head _)), rfl⟩
      · exact ⟨_, .tail _ (.tail _ (.tail _ (.head _))), rfl⟩
      · exact ⟨_, .tail _ (.tail _ (.tail _ (.tail _ (.head _)))), rfl⟩
    · rintro ⟨e, he, hk⟩
      simp only [List.mem_cons, List.not_mem_nil, or_false] at he
      rcases he with rfl | rfl | rfl | rfl | rfl <;>
      · simp only [intKind, Value.isInt] at hk
        have := eq_of_beq hk
        subst this
        rfl
end Mine
end

section
namespace Mine
variable {b : Base} {w : World} {D : Nat} {mem mem' : Mem} {v : V}
noncomputable def es127 : Array DictEntry := match (dObj 0).data with | .dict es _ => es | _ => #[]
noncomputable def n127 : Nat := match (dObj 0).data with | .dict _ n => n | _ => 0
theorem d127 : (dObj 0).data = .dict es127 n127 := by kernel_rfl!
theorem cls127 : (dObj 0).cls = .type "dict" ∧ (dObj 0).dict = none ∧ (dObj 0).slots = #[] := ⟨by kernel_rfl!, by kernel_rfl!, by kernel_rfl!⟩
noncomputable def keyOk (e : DictEntry) : Bool := match e.key with | .int k _ => e.hash == hashInt k | _ => false
theorem keys127 : es127.toList.all keyOk = true := by kernel_rfl!
theorem keysOf127 : KeysOf (intKind pz w) es127 := by
  intro e he
  have := List.all_eq_true.mp keys127 e (by simpa using he)
  unfold keyOk at this
  split at this
  · rename_i k t hk
    exact ⟨k, by rw [hk]; simp [intKind, Value.isInt], eq_of_beq this⟩
  · cases this
noncomputable def f127 (i : Int) : Option Value := findBy Value.isInt es127 i
theorem tab127 (hs : OverHB b w) : TabS b w 127 f127 where
  map := ⟨dObj 0, es127, n127, hs _ _ (g127 _), cls127, d127, keysOf127, fun k => rfl⟩
  ne := by decide
  ex := ⟨dObj 0, hs _ _ (g127 _), cls127.1, cls127.2.1⟩
noncomputable def okL (c : Nat) (r : List Nat) : Bool := match f127 c with
  | some (.str x _) => x == mkS r
  | none => Txt.lower (mkS [c]) == mkS r && !Builtin.Str.tooLong (Txt.lower (mkS [c])).length
  | _ => false
theorem letters_ok : letters.all (fun p => okL p.1 p.2) = true := by kernel_rfl!
theorem lkL_mem {c : Nat} {r : List Nat} : ∀ {l : List (Nat × List Nat)}, lkL c l = some r → (c, r) ∈ l
  | (d, q) :: l, h => by
    unfold lkL at h
    cases e : c == d with
    | true =>
      rw [e, cond_true] at h
      cases h
      rw [eq_of_beq e]
      exact .head _
    | false =>
      rw [e, cond_false] at h
      exact .tail _ (lkL_mem h)
theorem nc23 : ∀ x ∈ (fdScope (st 23)).names, x.2 ≠ .cell := by decide +kernel
theorem nc21 : ∀ x ∈ (fdScope (st 21)).names, x.2 ≠ .cell := by decide +kernel
theorem nd1 : ([("code" : Str)] : List Str).Nodup := by decide +kernel
theorem lc23 : ∀ x ∈ ([("code" : Str)] : List Str), (fdScope (st 23)).names.lookup x = some .local := by decide +kernel
theorem lc21 : ∀ x ∈ ([("code" : Str)] : List Str), (fdScope (st 21)).names.lookup x = some .local := by decide +kernel
theorem call184 (B : BaseOk b) (hs : OverHB b w) (hg : b.glob = globT) {c : Nat} : CallE b w 1 184 [.str [c]] mem (.bool (sgn c)) mem := by
  have hB : fdBody (st 23) = [_] := rfl
  have S : SSs b w 0 (fdScope (st 23)) (fdBody (st 23)) [("code", .str [c])] mem (.ret (.bool (sgn c))) [("code", .str [c])] mem := by
    rw [hB]
    refine SSs_ret (SS_return (SE_inset (a := 174) (n := 5) (SE_callB B (v := .int c) (vs := [.str [c]]) rfl (by show b.glob "ord" = _; rw [hg]; rfl) (SEs_cons rfl (SE_name B rfl) SEs_nil) ord_ok) (SE_name B (by show b.glob "c6_set" = _; rw [hg]; rfl)) rfl ?_))
    refine ex4_2 (set174 (w := w) w.params) fun o es ep t ho r => ?_
    exact ⟨o, es, ep, t, hs _ _ ho, r⟩
  exact fn_call (D := 0) (c := .ret (.bool (sgn c))) B (hs _ _ (g184 _)) (fd := fd184 w.params) rfl ((Heap.CodeRec.of_ok (cr184 w.params)).keeps hs) rfl nc23 rfl rfl rfl rfl rfl rfl (bind1 (bp184 _)) nd1 lc23 S
theorem call172 (B : BaseOk b) (hs : OverHB b w) (hg : b.glob = globT) {c : Nat} {r : List Nat} (h : okL c r = true) : CallE b w 1 172 [.str [c]] mem (.str r) mem := by
  have hB : fdBody (st 21) = [_, _, _] := rfl
  have S : ∃ loc', SSs b w 0 (fdScope (st 21)) (fdBody (st 21)) [("code", .str [c])] mem (.ret (.str r)) loc' mem := by
    rw [hB]
    have T := tab127 hs
    unfold okL at h
    split at h
    · rename_i x t hf
      have hx := eq_of_beq h
      subst hx
      refine ⟨putL "r" (.str r) [("code", .str [c])], ?_⟩
      refine SSs_next (mem1 := mem) (loc1 := putL "r" (.str r) [("code", .str [c])]) (SS_assign (v := .str r) rfl rfl (SE_meth rfl rfl (by decide) rfl (SE_name B (v := .ref 127) (by show b.glob "b3_exceptions" = _; rw [hg]; rfl)) (SEs_cons rfl (SE_callB B (v := .int c) (vs := [.str [c]]) rfl (by show b.glob "ord" = _; rw [hg]; rfl) (SEs_cons rfl (SE_name B rfl) SEs_nil) ord_ok) SEs_nil) (get_meth (v := .str r) T fun h ad => by rw [hf]; exact .str _ _))) ?_
      exact SSs_ret (SS_if (d := true) (mem1 := mem) (ST_isnot (SE_name B (v := .str r) rfl) rfl) (fun _ => SSs_ret (SS_return (SE_name B rfl))) (fun h => by cases h))
    · rename_i hf
      rw [Bool.and_eq_true] at h
      have hx := eq_of_beq h.1
      refine ⟨putL "r" .none [("code", .str [c])], ?_⟩
      refine SSs_next (mem1 := mem) (loc1 := putL "r" .none [("code", .str [c])]) (SS_assign (v := .none) rfl rfl (SE_meth rfl rfl (by decide) rfl (SE_name B (v := .ref 127) (by show b.glob "b3_exceptions" = _; rw [hg]; rfl)) (SEs_cons rfl (SE_callB B (v := .int c) (vs := [.str [c]]) rfl (by show b.glob "ord" = _; rw [hg]; rfl) (SEs_cons rfl (SE_name B rfl) SEs_nil) ord_ok) SEs_nil) (get_meth (v := .none) T fun h ad => by rw [hf]; exact .none))) ?_
      refine SSs_next (loc1 := putL "r" .none [("code", .str [c])]) (SS_if (d := false) (mem1 := mem) (ST_isnot (SE_name B (v := .none) rfl) rfl) (fun h => by cases h) (fun _ => SSs_nil)) ?_
      exact SSs_ret (SS_return (SE_meth rfl rfl (by decide) rfl (SE_name B (v := .str [c]) rfl) SEs_nil (lower_meth hx (by simpa using h.2))))
    · cases h
  refine ex1_1 S ?_; (try clear S); intro loc' S
  exact fn_call (D := 0) (c := .ret (.str r)) B (hs _ _ (g172 _)) (fd := fd172 w.params) rfl ((Heap.CodeRec.of_ok (cr172 w.params)).keeps hs) rfl nc21 rfl rfl rfl rfl rfl rfl (bind1 (bp172 _)) nd1 lc21 S
theorem sgn_signs (c : Nat) : sgn c = signs.contains c := by
  rw [Bool.eq_iff_iff]
  simp only [sgn, signs, Bool.or_eq_true, beq_iff_eq, List.contains_cons, List.contains_nil, Bool.or_false]
  exact ar541
theorem orcS_call (B : BaseOk b) (hs : OverHB b w) (hg : b.glob = globT) {f : Addr} {vs : List V} (h : orcS f vs mem = some (v, mem')) : CallE b w 1 f vs mem v mem' ∧ (f = 172 ∨ f = 184) := by
  unfold orcS at h
  cases e1 : (f == 172) with
  | true =>
    have := eq_of_beq e1
    subst this
    rw [e1, cond_true] at h
    split at h
    · refine ex1_2 (map2 h) fun r h1 h2 => ?_
      cases h2
      have := List.all_eq_true.mp letters_ok _ (lkL_mem h1)
      exact ⟨call172 B hs hg this, .inl rfl⟩
    · cases h
  | false =>
    rw [e1, cond_false] at h
    cases e2 : (f == 184) with
    | true =>
      have := eq_of_beq e2
      subst this
      rw [e2, cond_true] at h
      split at h
      · rename_i c
        have hc := call184 (mem := mem) B hs hg (c := c)
        cases e3 : signs.contains c with
        | true =>
          rw [e3, cond_true] at h
          cases h
          rw [sgn_signs, e3] at hc
          exact ⟨hc, .inr rfl⟩
        | false =>
          rw [e3, cond_false] at h
          refine ex1_2 (map2 h) fun r h1 h2 => ?_
          cases h2
          rw [sgn_signs, e3] at hc
          exact ⟨hc, .inr rfl⟩
      · cases h
    | false => rw [e2, cond_false] at h; cases h
theorem orcS_sok (w : World) : OrcSok ⟨HB w.params, globT, fun _ _ _ => none⟩ w 1 := by
  intro H' hH
  have B : BaseOk ⟨H', globT, orcS⟩ := (baseOk w.params (fun _ _ _ => none)).sup (o := orcS) hH
  refine ⟨fun f vs mem v mem' h => (orcS_call B (fun a o e => hH a o e) rfl h).1.ok, fun f vs mem r h => ?_⟩
  obtain ⟨v, mem'⟩ := r
  rcases (orcS_call B (fun a o e => hH a o e) rfl h).2 with rfl | rfl
  · exact ⟨_, fd172 w.params, hH _ _ (g172 _), rfl⟩
  · exact ⟨_, fd184 w.params, hH _ _ (g184 _), rfl⟩
end Mine
end

namespace Mine
theorem slot_sub : Slot "re.Pattern" "sub" "re.Pattern.sub" :=
  .of (owner := "re.Pattern") (n := "sub") (by rw [typeLookup_type, builtinLookup_eq_fast]; kernel_rfl) (by decide +kernel) (by decide +kernel) (by decide +kernel)
    (by first | exact .inl (by decide +kernel) | exact .inr (by decide +kernel)) (by rw [isSubtype_type]; kernel_rfl)
theorem type_sub : typeOf (.builtin "re.Pattern.sub") = pure (.type "method_descriptor") := by show builtinType _ = _; rw [builtinType_eq_fast]; kernel_rfl
theorem entry_sub : entryFor table "re.Pattern.sub" = some Builtin.«re.Pattern.sub» := entryFor_of_tree (by kernel_rfl)
theorem entry_loop : entryFor table "re.Pattern.sub.loop" = some Builtin.«re.Pattern.sub.loop» := entryFor_of_tree (by kernel_rfl)
theorem plain_loop : plainId "re.Pattern.sub.loop" = true := by decide +kernel
theorem nocall_str : typeLookup (.type "str") "__call__" = pure none := by rw [typeLookup_type, builtinLookup_eq_fast]; kernel_rfl
theorem args_sub (a b c : Value) : argsOk "re.Pattern.sub" ⟨[a, b, c], []⟩ := by unfold argsOk; kernel_rfl
end Mine

section
namespace Mine
open Sre
noncomputable def SM (code text : Array Nat) (lim last start pc pos handed : Nat) (o : Bool) (fs : List Sre.Frame) (ans : Option Bool) (seen : Sre.Seen) : M :=
  { code, text, lim, start, lastStart := last, pc, pos, handed, outermost := o, marks := #[], frames := fs, weight := fs.length, answer := ans, seen }
noncomputable def fr (w : Wait) (pc pos : Nat) (o : Bool) : Sre.Frame := { wait := w, pc, pos, outermost := o }
theorem op16 : ops[(16 : Nat)]? = some .LITERAL := rfl
theorem op6 : ops[(6 : Nat)]? = some .AT := rfl
theorem op1 : ops[(1 : Nat)]? = some .SUCCESS := rfl
theorem op15 : ops[(15 : Nat)]? = some .JUMP := rfl
theorem op7 : ops[(7 : Nat)]? = some .BRANCH := rfl
theorem op5 : ops[(5 : Nat)]? = some .ASSERT_NOT := rfl
variable {code text : Array Nat} {lim last start pc pos handed : Nat} {o : Bool} {fs : List Sre.Frame} {seen : Sre.Seen} {c k : Nat}
theorem s_lit (hp : pc < code.size) (h0 : code.getD pc 0 = 16) (h1 : code.getD (pc + 1) 0 = c) :
    ∃ seen', (SM code text lim last start pc pos handed o fs none seen).step = if pos < lim ∧ text.getD pos 0 = c then SM code text lim last start (pc + 2) (pos + 1) handed o fs none seen' else SM code text lim last start pc pos handed o fs (some false) seen' := by
  refine ⟨seen.add 16, ?_⟩
  by_cases hl : pos < lim
  · by_cases hc : text.getD pos 0 = c
    · rw [if_pos ⟨hl, hc⟩]
      simp [-Array.getD_eq_getD_getElem?, SM, M.step, M.exec, M.word, h0, h1, hp, op16, accepts, itemWidth, M.say, Nat.not_le.mpr hl, hc]
    · rw [if_neg (fun h => hc h.2)]
      simp [-Array.getD_eq_getD_getElem?, SM, M.step, M.exec, M.word, h0, h1, hp, op16, accepts, itemWidth, M.say, Nat.not_le.mpr hl, hc]
      split <;> simp_all
  · rw [if_neg (fun h => hl h.1)]
    simp [-Array.getD_eq_getD_getElem?, SM, M.step, M.exec, M.word, h0, h1, hp, op16, accepts, itemWidth, M.say, Nat.le_of_not_lt hl]
theorem isAt1 (m : M) : m.isAt 1 = .ok (m.pos == 0 || m.text.getD (m.pos - 1) 0 == 10) := rfl
theorem s_at1 (hp : pc < code.size) (h0 : code.getD pc 0 = 6) (h1 : code.getD (pc + 1) 0 = 1) :
    ∃ seen', (SM code text lim last start pc pos handed o fs none seen).step = if pos = 0 ∨ text.getD (pos - 1) 0 = 10 then SM code text lim last start (pc + 2) pos handed o fs none seen' else SM code text lim last start pc pos handed o fs (some false) seen' := by
  refine ⟨(seen.add 6).add 44, ?_⟩
  by_cases h : pos = 0 ∨ text.getD (pos - 1) 0 = 10
  · rw [if_pos h]
    have e : (pos == 0 || text.getD (pos - 1) 0 == 10) = true := by simpa [-Array.getD_eq_getD_getElem?] using h
    simp only [SM, M.step, M.exec, M.word, h0, h1, hp, op6, isAt1, M.say, Nat.add_zero, e, Option.isSome_none, Bool.false_eq_true, if_false, if_true]
  · rw [if_neg h]
    have e : (pos == 0 || text.getD (pos - 1) 0 == 10) = false := by rw [not_or] at h; simp [-Array.getD_eq_getD_getElem?, h.1, h.2]
    simp only [SM, M.step, M.exec, M.word, h0, h1, hp, op6, isAt1, M.say, Nat.add_zero, e, Option.isSome_none, Bool.false_eq_true, if_false, if_true]
theorem s_succ (hp : pc < code.size) (h0 : code.getD pc 0 = 1) : ∃ seen', (SM code text lim last start pc pos handed o fs none seen).step = SM code text lim last start pc pos pos o fs (some true) seen' := by
  refine ⟨seen.add 1, ?_⟩
  simp [-Array.getD_eq_getD_getElem?, SM, M.step, M.exec, M.word, h0, hp, op1, M.say]
theorem s_jump (hp : pc < code.size) (h0 : code.getD pc 0 = 15) (h1 : code.getD (pc + 1) 0 = k) : ∃ seen', (SM code text lim last start pc pos handed o fs none seen).step = SM code text lim last start (pc + 1 + k) pos handed o fs none seen' := by
  refine ⟨seen.add 15, ?_⟩
  simp [-Array.getD_eq_getD_getElem?, SM, M.step, M.exec, M.word, h0, h1, hp, op15, M.say]
theorem s_branch (hp : pc < code.size) (h0 : code.getD pc 0 = 7) (h1 : code.getD (pc + 1) 0 ≠ 0) (hf : fs.length < 1000) :
    ∃ seen', (SM code text lim last start pc pos handed o fs none seen).step = SM code text lim last start (pc + 2) pos pos o (fr .nextBranch (pc + 1) pos o :: fs) none seen' := by
  refine ⟨seen.add 7, ?_⟩
  have h2 : ¬ (16777216 < fs.length + 1) := ar535 hf
  simp [-Array.getD_eq_getD_getElem?, SM, fr, M.step, M.exec, M.word, h0, h1, hp, op7, M.say, M.alternative, M.attempt, M.frame, M.keep, h2]
theorem s_asn (hp : pc < code.size) (h0 : code.getD pc 0 = 5) (h2 : code.getD (pc + 2) 0 = 0) (hf : fs.length < 1000) :
    ∃ seen', (SM code text lim last start pc pos handed o fs none seen).step = SM code text lim last start (pc + 3) pos pos false (fr .lookNot pc pos o :: fs) none seen' := by
  refine ⟨seen.add 5, ?_⟩
  have h3 : ¬ (16777216 < fs.length + 1) := ar535 hf
  simp [-Array.getD_eq_getD_getElem?, SM, fr, M.step, M.exec, M.word, h0, h2, hp, op5, M.say, M.attempt, M.frame, M.keep, h3]
theorem r_branch_yes {fpc fpos : Nat} {fo : Bool} : (SM code text lim last start pc pos handed o (fr .nextBranch fpc fpos fo :: fs) (some true) seen).step = SM code text lim last start fpc fpos handed fo fs (some true) seen := by
  simp [-Array.getD_eq_getD_getElem?, SM, fr, M.step, M.resume, M.say]
theorem r_branch_no {fpc fpos : Nat} {fo : Bool} (h1 : code.getD fpc 0 = k) (h2 : code.getD (fpc + k) 0 ≠ 0) (hf : fs.length < 1000) : (SM code text lim last start pc pos handed o (fr .nextBranch fpc fpos fo :: fs) (some false) seen).step = SM code text lim last start (fpc + k + 1) fpos fpos fo (fr .nextBranch (fpc + k) fpos fo :: fs) none seen := by
  have h3 : ¬ (16777216 < fs.length + 1) := ar535 hf
  simp [-Array.getD_eq_getD_getElem?, SM, fr, M.step, M.resume, M.say, M.putBack, M.alternative, M.attempt, M.frame, h1, h2, h3]
theorem r_look_no {fpc fpos : Nat} {fo : Bool} (h1 : code.getD (fpc + 1) 0 = k) : (SM code text lim last start pc pos handed o (fr .lookNot fpc fpos fo :: fs) (some false) seen).step = SM code text lim last start (fpc + 1 + k) fpos handed fo fs none seen := by
  simp [-Array.getD_eq_getD_getElem?, SM, fr, M.step, M.resume, M.say, M.putBack, M.word, h1]
theorem r_start_yes {fpc fpos : Nat} {fo : Bool} : (SM code text lim last start pc pos handed o (fr .nextStart fpc fpos fo :: fs) (some true) seen).step = SM code text lim last start fpc fpos handed fo fs (some true) seen := by
  simp [-Array.getD_eq_getD_getElem?, SM, fr, M.step, M.resume, M.say]
theorem r_start_no {fpc fpos : Nat} {fo : Bool} (h : fpos < last) : (SM code text lim last start pc pos handed o (fr .nextStart fpc fpos fo :: fs) (some false) seen).step = M.attemptFrom (SM code text lim last start fpc fpos handed fo fs none seen) (fpos + 1) false := by
  simp [-Array.getD_eq_getD_getElem?, SM, fr, M.step, M.resume, M.say, M.putBack, h]
theorem r_start_end {fpc fpos : Nat} {fo : Bool} (h : ¬ fpos < last) : (SM code text lim last start pc pos handed o (fr .nextStart fpc fpos fo :: fs) (some false) seen).step = SM code text lim last start fpc fpos handed fo fs (some false) seen := by
  simp [-Array.getD_eq_getD_getElem?, SM, fr, M.step, M.resume, M.say, M.putBack, h]
noncomputable def isEnd (m : M) (yes : Bool) (start handed : Nat) : Prop := m.outcome = some (if yes then .matched else .failed) ∧ m.start = start ∧ m.handed = handed ∧ m.lastmark = -1
theorem s_end {yes : Bool} : isEnd (SM code text lim last start pc pos handed o [] (some yes) seen).step yes start handed := by
  simp [SM, M.step, isEnd]
theorem sm_live {ans} : (SM code text lim last start pc pos handed o fs ans seen).outcome = none := rfl
noncomputable def Goes (n : Nat) (m m' : M) : Prop := ∃ j, j ≤ n ∧ M.runFor j m = m' ∧ m'.outcome.isSome = true
theorem Goes.step {n : Nat} {m m' : M} (h : m.outcome = none) (g : Goes n m.step m') : Goes (n + 1) m m' := by
  refine ex1_3 g ?_; (try clear g); intro j h1 h2 h3
  refine ⟨j + 1, ar536 h1, ?_, h3⟩
  rw [M.runFor, h]
  simp [h2]
theorem Goes.mono {n k : Nat} {m m' : M} (g : Goes n m m') (h : n ≤ k) : Goes k m m' := by
  refine ex1_3 g ?_; (try clear g); intro j h1 h2 h3
  exact ⟨j, ar537 h h1, h2, h3⟩
theorem runFor_done {m : M} (h : m.outcome.isSome = true) : ∀ n, M.runFor n m = m
  | 0 => rfl
  | n + 1 => by rw [M.runFor, if_pos h]
theorem runFor_add (a : Nat) : ∀ (d : Nat) (m : M), M.runFor (a + d) m = M.runFor d (M.runFor a m) := by
  induction a with
  | zero => intro d m; rw [Nat.zero_add]; rfl
  | succ a ih =>
    intro d m
    rw [Nat.succ_add, M.runFor, M.runFor]
    split
    · rename_i h; rw [runFor_done h]
    · exact ih d _
end Mine
end

section
namespace Mine
open Sre
noncomputable def code1 : Array Nat := #[14, 4, 0, 1, 1, 6, 1, 16, 46, 1]
noncomputable def code2 : Array Nat := #[14, 9, 4, 1, 2, 16, 10, 16, 13, 0, 7, 7, 16, 13, 16, 10, 15, 18, 5, 16, 10, 15, 13, 11, 16, 13, 5, 5, 0, 16, 10, 1, 15, 2, 0, 1]
variable {text : Array Nat} {lim last start pc pos handed : Nat} {o : Bool} {fs : List Sre.Frame} {seen : Sre.Seen}
theorem af1 {s : Nat} {first : Bool} : M.attemptFrom (SM code1 text lim last start pc pos handed o [] none seen) s first = SM code1 text lim last s pc s s first [fr .nextStart pc s first] none seen := by
  have h : M.hasFirstSet (SM code1 text lim last start pc pos handed o [] none seen) = false := rfl
  unfold M.attemptFrom
  rw [h]
  rfl
noncomputable def ok1 (text : Array Nat) (lim j : Nat) : Prop := j < lim ∧ text.getD j 0 = 46 ∧ (j = 0 ∨ text.getD (j - 1) 0 = 10)
noncomputable def Nx1 (text : Array Nat) (lim p : Nat) : Option (Nat × Nat) → Prop
  | some (s, e) => p ≤ s ∧ ok1 text lim s ∧ e = s + 1 ∧ ∀ j, p ≤ j → j < s → ¬ ok1 text lim j
  | none => ∀ j, p ≤ j → ¬ ok1 text lim j
noncomputable def EndOf (m : M) : Option (Nat × Nat) → Prop
  | some (s, e) => isEnd m true s e
  | none => m.outcome = some .failed
theorem go_end {code : Array Nat} {yes : Bool} : Goes 1 (SM code text lim last start pc pos handed o [] (some yes) seen) (SM code text lim last start pc pos handed o [] (some yes) seen).step :=
  Goes.step (n := 0) sm_live ⟨0, Nat.le_refl _, rfl, by rw [s_end.1]; rfl⟩
theorem srch1 : ∀ (d s : Nat) (first : Bool) (seen : Sre.Seen), lim - s = d → s ≤ lim → ∃ r m', Nx1 text lim s r ∧ Goes ((d + 1) * 6) (SM code1 text lim lim s 5 s s first [fr .nextStart 5 s first] none seen) m' ∧ EndOf m' r
  | d, s, first, seen, hd, hs => by
    have fail : ∀ (pc' pos' handed' : Nat) (o' : Bool) (sn : Sre.Seen), ¬ ok1 text lim s → ∃ r m', Nx1 text lim s r ∧ Goes (d * 6 + 3) (SM code1 text lim lim s pc' pos' handed' o' [fr .nextStart 5 s first] (some false) sn) m' ∧ EndOf m' r := by
      intro pc' pos' handed' o' sn hno
      by_cases hlt : s < lim
      · obtain ⟨d, rfl⟩ : ∃ e, d = e + 1 := ⟨d - 1, ar510 hd hlt⟩
        refine ex2_3 (srch1 d (s + 1) false sn (ar511 hlt hd) (ar372 hlt)) fun r m' h1 h2 h3 => ?_
        refine ⟨r, m', ?_, ?_, h3⟩
        · induction r using Option.casesOn with
          | none => intro j hj; rcases Nat.eq_or_lt_of_le hj with rfl | hj; exact hno; exact h1 j hj
          | some q =>
            obtain ⟨q1, q2⟩ := q
            refine ex0_4 h1 ?_; (try clear h1); intro h4 h5 h6 h7
            exact ⟨ar512 h4 h6, h5, h6, fun j hj hjs => by rcases Nat.eq_or_lt_of_le hj with rfl | hj; exact hno; exact h7 j hj hjs⟩
        · refine Goes.mono (Goes.step sm_live ?_) (show (d + 1) * 6 + 1 ≤ _ from ar513)
          rw [r_start_no hlt, af1]
          exact h2
      · refine ⟨none, (SM code1 text lim lim s 5 s handed' first [] (some false) sn).step, fun j hj h => ?_, Goes.mono (Goes.step sm_live (by rw [r_start_end hlt]; exact go_end)) (show 1 + 1 ≤ _ from ar514 hd), (s_end (yes := false)).1⟩
        exact absurd h.1 (ar437 hs hlt hj)
    refine ex1_1 (s_at1 (code := code1) (text := text) (lim := lim) (last := lim) (start := s) (pc := 5) (pos := s) (handed := s) (o := first) (fs := [fr .nextStart 5 s first]) (seen := seen) (by decide) rfl rfl) fun s1 e1 => ?_
    by_cases hh : s = 0 ∨ text.getD (s - 1) 0 = 10
    · rw [if_pos hh] at e1
      refine ex1_1 (s_lit (code := code1) (text := text) (lim := lim) (last := lim) (start := s) (pc := 7) (pos := s) (handed := s) (o := first) (fs := [fr .nextStart 5 s first]) (seen := s1) (c := 46) (by decide) rfl rfl) fun s2 e2 => ?_
      by_cases hl : s < lim ∧ text.getD s 0 = 46
      · rw [if_pos hl] at e2
        refine ex1_1 (s_succ (code := code1) (text := text) (lim := lim) (last := lim) (start := s) (pc := 9) (pos := s + 1) (handed := s) (o := first) (fs := [fr .nextStart 5 s first]) (seen := s2) (by decide) rfl) fun s3 e3 => ?_
        refine ⟨some (s, s + 1), _, ⟨Nat.le_refl _, ⟨hl.1, hl.2, hh⟩, rfl, fun j h1 h2 => absurd h1 (ar429 h1 h2)⟩, ?_, s_end (yes := true) (code := code1) (text := text) (lim := lim) (last := lim) (start := s) (pc := 5) (pos := s) (handed := s + 1) (o := first) (seen := s3)⟩
        refine Goes.mono (Goes.step sm_live ?_) (show 1 + 1 + 1 + 1 + 1 ≤ _ from ar515 hd)
        rw [e1]
        refine Goes.step sm_live ?_
        rw [e2]
        refine Goes.step sm_live ?_
        rw [e3]
        refine Goes.step sm_live ?_
        rw [r_start_yes]
        exact go_end
      · rw [if_neg hl] at e2
        refine ex2_3 (fail 7 s s first s2 (fun h => hl ⟨h.1, h.2.1⟩)) fun r m' h1 h2 h3 => ?_
        refine ⟨r, m', h1, ?_, h3⟩
        refine Goes.mono (Goes.step sm_live ?_) (show (d * 6 + 3 + 1) + 1 ≤ _ from ar516)
        rw [e1]
        refine Goes.step sm_live ?_
        rw [e2]
        exact h2
    · rw [if_neg hh] at e1
      refine ex2_3 (fail 5 s s first s1 (fun h => hh h.2.2)) fun r m' h1 h2 h3 => ?_
      refine ⟨r, m', h1, ?_, h3⟩
      refine Goes.mono (Goes.step sm_live ?_) (show (d * 6 + 3) + 1 ≤ _ from ar517)
      rw [e1]
      exact h2
termination_by d => d
theorem search1 {p : Nat} (hp : p ≤ lim) : ∃ r m', Nx1 text lim p r ∧ Goes ((lim + 1) * 6) (forSearch code1 text 0 p lim false) m' ∧ EndOf m' r := by
  by_cases hlt : p < lim
  · have e : forSearch code1 text 0 p lim false = M.attemptFrom (SM code1 text lim lim p 5 p p true [] none (({} : Sre.Seen).add 14)) p true := by
      have h1 : (decide (p > lim) || decide (lim - p < 1)) = false := by
        rw [decide_eq_false (ar431 hlt), decide_eq_false (ar432 hlt)]; rfl
      show (if (decide (p > lim) || decide (lim - p < 1)) = true then _ else _) = _
      rw [h1]
      rfl
    rw [e, af1]
    refine ex2_3 (srch1 (text := text) (lim := lim) (lim - p) p true (({} : Sre.Seen).add 14) rfl hp) fun r m' h1 h2 h3 => ?_
    exact ⟨r, m', h1, h2.mono (ar518 hlt), h3⟩
  · have e : forSearch code1 text 0 p lim false = SM code1 text lim 0 p 5 p p true [] (some false) (({} : Sre.Seen).add 14) := by
      have h1 : (decide (p > lim) || decide (lim - p < 1)) = true := by
        rw [decide_eq_true (p := lim - p < 1) (ar436 hp hlt), Bool.or_true]
      show (if (decide (p > lim) || decide (lim - p < 1)) = true then _ else _) = _
      rw [h1]
      rfl
    rw [e]
    refine ⟨none, _, fun j hj h => absurd h.1 (ar437 hp hlt hj), Goes.mono go_end (ar519 hp hlt), s_end.1⟩
end Mine
end

section
namespace Mine
open Sre
variable {code text : Array Nat} {lim last start pc pos handed : Nat} {o : Bool} {fs : List Sre.Frame} {seen : Sre.Seen} {c k n : Nat} {P : M → Prop}
noncomputable def Fin' (n : Nat) (m : M) (P : M → Prop) : Prop := ∃ m', Goes n m m' ∧ P m'
theorem Fin'.step {m m1 : M} (h : m.outcome = none) (e : m.step = m1) (g : Fin' n m1 P) : Fin' (n + 1) m P := by
  refine ex1_2 g ?_; (try clear g); intro m' g1 g2
  exact ⟨m', Goes.step h (by rw [e]; exact g1), g2⟩
theorem Fin'.ex {m : M} {f : Sre.Seen → M} (h : m.outcome = none) (e : ∃ sn, m.step = f sn) (g : ∀ sn, Fin' n (f sn) P) : Fin' (n + 1) m P := by
  refine ex1_1 e ?_; (try clear e); intro sn e
  exact Fin'.step h e (g sn)
theorem lit_yes (hp : pc < code.size) (h0 : code.getD pc 0 = 16) (h1 : code.getD (pc + 1) 0 = c) (hl : pos < lim) (hc : text.getD pos 0 = c) :
    ∃ seen', (SM code text lim last start pc pos handed o fs none seen).step = SM code text lim last start (pc + 2) (pos + 1) handed o fs none seen' := by
  refine ex1_1 (s_lit (code := code) (text := text) (lim := lim) (last := last) (start := start) (pc := pc) (pos := pos) (handed := handed) (o := o) (fs := fs) (seen := seen) hp h0 h1) fun sn e => ?_
  rw [if_pos ⟨hl, hc⟩] at e
  exact ⟨sn, e⟩
theorem lit_no (hp : pc < code.size) (h0 : code.getD pc 0 = 16) (h1 : code.getD (pc + 1) 0 = c) (hl : ¬ (pos < lim ∧ text.getD pos 0 = c)) :
    ∃ seen', (SM code text lim last start pc pos handed o fs none seen).step = SM code text lim last start pc pos handed o fs (some false) seen' := by
  refine ex1_1 (s_lit (code := code) (text := text) (lim := lim) (last := last) (start := start) (pc := pc) (pos := pos) (handed := handed) (o := o) (fs := fs) (seen := seen) hp h0 h1) fun sn e => ?_
  rw [if_neg hl] at e
  exact ⟨sn, e⟩
theorem fin_end {yes : Bool} : Fin' 1 (SM code text lim last start pc pos handed o [] (some yes) seen) (fun m => isEnd m yes start handed) := ⟨_, go_end, s_end⟩
noncomputable def nl (text : Array Nat) (j : Nat) : Prop := text.getD j 0 = 10 ∨ text.getD j 0 = 13
noncomputable def fin2 (text : Array Nat) (lim s : Nat) : Nat := if text.getD s 0 = 13 ∧ s + 1 < lim ∧ text.getD (s + 1) 0 = 10 then s + 2 else s + 1
theorem tail2 {s : Nat} {first : Bool} {pc pos handed : Nat} {fpc : Nat} {fo : Bool} {sn : Sre.Seen} (hp : code2.getD pc 0 = 1) (hpc : pc < 36) : Fin' 4 (SM code2 text lim lim s pc pos handed o [fr .nextBranch fpc s fo, fr .nextStart 10 s first] none sn) (fun m => isEnd m true s pos) := by
  refine Fin'.ex sm_live (s_succ hpc hp) fun sn => ?_
  refine Fin'.step sm_live r_branch_yes ?_
  refine Fin'.step sm_live r_start_yes ?_
  exact fin_end
theorem run2 {s : Nat} {first : Bool} {sn : Sre.Seen} (hs : s < lim) (h : nl text s) : Fin' 20 (SM code2 text lim lim s 10 s s first [fr .nextStart 10 s first] none sn) (fun m => isEnd m true s (fin2 text lim s)) := by
  refine Fin'.ex sm_live (s_branch (by decide) rfl (by decide) (by simp)) fun sn => ?_
  by_cases h13 : text.getD s 0 = 13
  · refine Fin'.ex sm_live (lit_yes (c := 13) (by decide) rfl rfl hs h13) fun sn => ?_
    by_cases h10 : s + 1 < lim ∧ text.getD (s + 1) 0 = 10
    · have hf : fin2 text lim s = s + 2 := if_pos ⟨h13, h10⟩
      rw [hf]
      refine Fin'.ex sm_live (lit_yes (c := 10) (by decide) rfl rfl h10.1 h10.2) fun sn => ?_
      refine Fin'.ex sm_live (s_jump (k := 18) (by decide) rfl rfl) fun sn => ?_
      refine ex1_2 (tail2 (text := text) (lim := lim) (s := s) (first := first) (pc := 35) (pos := s + 2) (handed := s) (fpc := 11) (o := first) (fo := first) (sn := sn) rfl (by decide)) fun m' g1 g2 => ?_
      exact ⟨m', g1.mono (by decide), g2⟩
    · have hf : fin2 text lim s = s + 1 := if_neg fun h => h10 h.2
      rw [hf]
      refine Fin'.ex sm_live (lit_no (c := 10) (by decide) rfl rfl h10) fun sn => ?_
      refine Fin'.step sm_live (r_branch_no (k := 7) rfl (by decide) (by simp)) ?_
      refine Fin'.ex sm_live (lit_no (c := 10) (by decide) rfl rfl (fun h => by rw [h13] at h; exact absurd h.2 (by decide))) fun sn => ?_
      refine Fin'.step sm_live (r_branch_no (k := 5) rfl (by decide) (by simp)) ?_
      refine Fin'.ex sm_live (lit_yes (c := 13) (by decide) rfl rfl hs h13) fun sn => ?_
      refine Fin'.ex sm_live (s_asn (by decide) rfl rfl (by simp)) fun sn => ?_
      refine Fin'.ex sm_live (lit_no (c := 10) (by decide) rfl rfl h10) fun sn => ?_
      refine Fin'.step sm_live (r_look_no (k := 5) rfl) ?_
      refine Fin'.ex sm_live (s_jump (k := 2) (by decide) rfl rfl) fun sn => ?_
      refine ex1_2 (tail2 (text := text) (lim := lim) (s := s) (first := first) (pc := 35) (pos := s + 1) (handed := s + 1) (fpc := 23) (o := first) (fo := first) (sn := sn) rfl (by decide)) fun m' g1 g2 => ?_
      exact ⟨m', g1.mono (by decide), g2⟩
  · have hf : fin2 text lim s = s + 1 := if_neg fun h => h13 h.1
    have h10 : text.getD s 0 = 10 := h.resolve_right h13
    rw [hf]
    refine Fin'.ex sm_live (lit_no (c := 13) (by decide) rfl rfl (fun h => h13 h.2)) fun sn => ?_
    refine Fin'.step sm_live (r_branch_no (k := 7) rfl (by decide) (by simp)) ?_
    refine Fin'.ex sm_live (lit_yes (c := 10) (by decide) rfl rfl hs h10) fun sn => ?_
    refine Fin'.ex sm_live (s_jump (k := 13) (by decide) rfl rfl) fun sn => ?_
    refine ex1_2 (tail2 (text := text) (lim := lim) (s := s) (first := first) (pc := 35) (pos := s + 1) (handed := s) (fpc := 18) (o := first) (fo := first) (sn := sn) rfl (by decide)) fun m' g1 g2 => ?_
    exact ⟨m', g1.mono (by decide), g2⟩
theorem inset2 (c : Nat) (seen : Sre.Seen) : ∃ sn, inSet code2 c code2.size 5 true seen = .ok (decide (c = 10 ∨ c = 13), sn) := by
  by_cases h1 : c = 10
  · subst h1; exact ⟨_, rfl⟩
  · by_cases h2 : c = 13
    · subst h2; exact ⟨_, rfl⟩
    · have e1 : (c == 10) = false := beq_eq_false_iff_ne.mpr h1
      have e2 : (c == 13) = false := beq_eq_false_iff_ne.mpr h2
      rw [decide_eq_false (by rw [not_or]; exact ⟨h1, h2⟩)]
      refine ⟨((seen.add 16).add 16).add 0, ?_⟩
      show (if (c == 10) = true then _ else (if (c == 13) = true then _ else _)) = _
      rw [e1, e2]
      rfl
noncomputable def ok2 (text : Array Nat) (lim j : Nat) : Prop := j < lim ∧ nl text j
noncomputable def Nx2 (text : Array Nat) (lim p : Nat) : Option (Nat × Nat) → Prop
  | some (s, e) => p ≤ s ∧ ok2 text lim s ∧ e = fin2 text lim s ∧ ∀ j, p ≤ j → j < s → ¬ ok2 text lim j
  | none => ∀ j, p ≤ j → ¬ ok2 text lim j
theorem admit2 {m : M} (hc : m.code = code2) (ht : m.text = text) (hl : m.lim = lim) : ∀ (fuel s : Nat) (seen : Sre.Seen), lim - s < fuel →
    (∃ e sn, M.admitted m fuel s seen = .ok (some e, sn) ∧ s ≤ e ∧ ok2 text lim e ∧ ∀ j, s ≤ j → j < e → ¬ ok2 text lim j) ∨ (∃ sn, M.admitted m fuel s seen = .ok (none, sn) ∧ ∀ j, s ≤ j → ¬ ok2 text lim j)
  | 0, s, seen, h => absurd h (ar80 h)
  | fuel + 1, s, seen, h => by
    rw [M.admitted, hl, hc, ht]
    by_cases hs : s ≥ lim
    · rw [if_pos hs]
      exact .inr ⟨_, rfl, fun j hj h => absurd h.1 (ar427 hs hj)⟩
    · rw [if_neg hs]
      refine ex1_1 (inset2 (text.getD s 0) seen) fun sn e => ?_
      rw [e]
      by_cases hn : text.getD s 0 = 10 ∨ text.getD s 0 = 13
      · rw [decide_eq_true hn]
        exact .inl ⟨s, sn, rfl, Nat.le_refl _, ⟨ar428 hs, hn⟩, fun j h1 h2 => absurd h1 (ar429 h1 h2)⟩
      · rw [decide_eq_false hn]
        have no : ¬ ok2 text lim s := fun h => hn h.2
        rcases admit2 hc ht hl fuel (s + 1) sn (ar430 h hs hn) with ⟨e2, sn2, h1, h2, h3, h4⟩ | ⟨sn2, h1, h2⟩
        · refine .inl ⟨e2, sn2, h1, ar15 h2, h3, fun j hj hj2 => ?_⟩
          rcases Nat.eq_or_lt_of_le hj with rfl | hj
          · exact no
          · exact h4 j hj hj2
        · refine .inr ⟨sn2, h1, fun j hj => ?_⟩
          rcases Nat.eq_or_lt_of_le hj with rfl | hj
          · exact no
          · exact h2 j hj
theorem search2 {p : Nat} (hp : p ≤ lim) : ∃ r m', Nx2 text lim p r ∧ Goes ((lim + 1) * 6 + 30) (forSearch code2 text 0 p lim false) m' ∧ EndOf m' r := by
  by_cases hlt : p < lim
  · have e : forSearch code2 text 0 p lim false = M.attemptFrom (SM code2 text lim lim p 10 p p true [] none (({} : Sre.Seen).add 14)) p true := by
      have h1 : (decide (p > lim) || decide (lim - p < 1)) = false := by
        rw [decide_eq_false (ar431 hlt), decide_eq_false (ar432 hlt)]; rfl
      show (if (decide (p > lim) || decide (lim - p < 1)) = true then _ else _) = _
      rw [h1]
      rfl
    rw [e]
    have hf : M.hasFirstSet (SM code2 text lim lim p 10 p p true [] none (({} : Sre.Seen).add 14)) = true := rfl
    unfold M.attemptFrom
    rw [hf]
    show ∃ r m', Nx2 text lim p r ∧ Goes ((lim + 1) * 6 + 30) (match M.admitted (SM code2 text lim lim p 10 p p true [] none (({} : Sre.Seen).add 14)) (lim + 1 - p) p (({} : Sre.Seen).add 14) with | .ok (some s, seen) => _ | .ok (none, seen) => _ | .error why => _) m' ∧ EndOf m' r
    rcases admit2 (m := SM code2 text lim lim p 10 p p true [] none (({} : Sre.Seen).add 14)) (text := text) (lim := lim) rfl rfl rfl (lim + 1 - p) p (({} : Sre.Seen).add 14) (ar433 hlt) with ⟨s, sn, h1, h2, h3, h4⟩ | ⟨sn, h1, h2⟩
    · rw [h1]
      refine ex1_2 (run2 (text := text) (lim := lim) (s := s) (first := true) (sn := sn) h3.1 h3.2) fun m' g1 g2 => ?_
      exact ⟨some (s, fin2 text lim s), m', ⟨h2, h3, rfl, h4⟩, g1.mono (ar434), g2⟩
    · rw [h1]
      exact ⟨none, (SM code2 text lim lim p 10 p p true [] (some false) sn).step, h2, Goes.mono (go_end (code := code2) (text := text)) (ar435), (s_end (yes := false)).1⟩
  · have e : forSearch code2 text 0 p lim false = SM code2 text lim 0 p 10 p p true [] (some false) (({} : Sre.Seen).add 14) := by
      have h1 : (decide (p > lim) || decide (lim - p < 1)) = true := by
        rw [decide_eq_true (p := lim - p < 1) (ar436 hp hlt), Bool.or_true]
      show (if (decide (p > lim) || decide (lim - p < 1)) = true then _ else _) = _
      rw [h1]
      rfl
    rw [e]
    exact ⟨none, _, fun j hj h => absurd h.1 (ar437 hp hlt hj), Goes.mono go_end (ar438 hp hlt), s_end.1⟩
end Mine
end

section
namespace Mine
open PySem.Builtin PySem.Builtin.Re
variable {w : World} {A : Around} {s : Shared} {E : Value → Shared → Prop} {n : Nat}
theorem drive_wp {Q : Sre.M → Shared → Prop} {m' : Sre.M} (K : Q m' s) : ∀ (T n : Nat) (m : Sre.M), Goes n m m' → n < 4 * T → wpAny (model pz w) A (reDrive T m) Q E s
  | 0, n, m, g, h => absurd h (ar69 h)
  | T + 1, n, m, ⟨j, hj, e, hd⟩, h => by
    show wpAny _ _ (if (m.runFor 4).outcome.isSome = true then pure (m.runFor 4) else do rule "sre.turn"; reDrive T (m.runFor 4)) _ _ _
    by_cases h4 : j ≤ 4
    · have e4 : m.runFor 4 = m' := by
        have := runFor_add j (4 - j) m
        rw [show j + (4 - j) = 4 by exact ar70 h4, e, runFor_done hd] at this
        exact this
      rw [e4, if_pos hd]
      exact wpAny_pure K
    · have e4 : Sre.M.runFor (j - 4) (m.runFor 4) = m' := by
        have := runFor_add 4 (j - 4) m
        rw [show 4 + (j - 4) = j by exact ar71 h4, e] at this
        exact this.symm
      by_cases hm : (m.runFor 4).outcome.isSome = true
      · rw [if_pos hm]
        rw [runFor_done hm] at e4
        rw [e4]
        exact wpAny_pure K
      · rw [if_neg hm]
        exact wpAny_bind (wpAny_rule (drive_wp K T (n - 4) _ ⟨j - 4, ar72 hj h4, e4, hd⟩ (ar73 hj h h4)))
theorem rules_wp {α : Type} {Q : PUnit → Shared → Prop} {c : α → Bool} {x : α → String} {f : α → PUnit → Sem (ForInStep PUnit)} (hf : ∀ i u, f i u = (if c i = true then (do rule (x i); pure (ForInStep.yield ⟨⟩)) else pure (ForInStep.yield ⟨⟩))) (K : Q ⟨⟩ s) : ∀ l : List α, wpAny (model pz w) A (forIn l ⟨⟩ f) Q E s
  | [] => by rw [List.forIn_nil]; exact wpAny_pure K
  | i :: l => by
    rw [List.forIn_cons, hf]
    by_cases h : c i = true
    · rw [if_pos h]
      exact wpAny_bind (wpAny_bind (wpAny_rule (wpAny_pure (rules_wp hf K l))))
    · rw [if_neg h]
      exact wpAny_bind (wpAny_pure (rules_wp hf K l))
theorem toEnd_wp {Q : Option Sre.M → Shared → Prop} {m m' : Sre.M} {r : Option (Nat × Nat)} (g : Goes n m m') (hn : n < 2 ^ 60) (h : EndOf m' r) (K1 : ∀ se, r = some se → isEnd m' true se.1 se.2 → Q (some m') s) (K0 : r = none → Q none s) : wpAny (model pz w) A (reRunToEnd m) Q E s := by
  unfold reRunToEnd
  refine wpAny_bind (drive_wp ?_ (2 ^ 64) n m g (ar74 hn))
  refine wpAny_bind (rules_wp (c := fun i => m'.seen.has i) (x := fun i => Sre.names.getD i "") (fun i u => ?_) ?_ _)
  · split <;> rfl
  · induction r using Option.casesOn with
    | none =>
      replace h : m'.outcome = some .failed := h
      rw [h]
      exact wpAny_pure (K0 rfl)
    | some q =>
      obtain ⟨q1, q2⟩ := q
      have h2 : isEnd m' true q1 q2 := h
      have h1 : m'.outcome = some .matched := h2.1
      rw [h1]
      exact wpAny_pure (K1 _ rfl h2)
theorem whole_wp {h : Heap} {g d tk os} {pat ca : Addr} {src fl : Value} {items : Array Value} {k : Nat} {x : Str} {t : Tok} {Q : ReTarget → Shared → Prop} (hpat : h.get? pat = some { cls := .type "re.Pattern", dict := none, data := .fields #[src, fl, .int 0 0, .none, .none, .ref ca, .int 0 0], slots := #[] })
    (hcode : h.get? ca = some { cls := .type "tuple", dict := none, data := .seq items k, slots := #[] }) (K : Q ⟨.ref pat, .str x t, (items.map reRawOf).map (·.toNat), x.cps, 0, 0, 0, x.cps.size⟩ ⟨h, g, d, tk, os⟩) : wpAny (model pz w) A (reWholeTarget (.ref pat) (.str x t)) Q E ⟨h, g, d, tk, os⟩ := by
  unfold reWholeTarget
  wp_walk
  exact K
theorem slice_wp {tx : List Nat} {a e : Nat} {Q : Value → Shared → Prop} (hz : tx.length ≤ 2000) (K : Q (.str (mkS ((tx.drop a).take (e - a))) s.toks) { s with toks := s.toks + 1 }) : wpAny (model pz w) A (reSlice (mkS tx).cps 0 a e) Q E s := by
  have e1 : (⟨(mkS tx).cps.extract a e⟩ : Str) = mkS ((tx.drop a).take (e - a)) := by
    show (⟨tx.toArray.extract a e⟩ : Str) = ⟨_⟩
    rw [List.extract_toArray]
  show wpAny _ _ (mkStr ⟨(mkS tx).cps.extract a e⟩) _ _ _
  rw [e1]
  exact wpAny_mkStr K (by rw [mkS_length, sizeLine_eq]; exact Nat.le_trans (List.length_take_le' _ _) (by rw [List.length_drop]; exact Nat.le_trans (Nat.sub_le _ _) (Nat.le_trans hz (by decide))))
theorem push_wp {h : Heap} {g d tk os} {l : Addr} {ps : List (Str × Tok)} {k : Nat} {y : Str} {t : Tok} {Q : Unit → Shared → Prop} (hl : h.get? l = some { cls := .type "list", data := .seq (strValues ps).toArray k }) (hz : ps.length ≤ 10000)
    (K : ∀ h' k', h'.get? l = some { cls := .type "list", data := .seq (strValues (ps ++ [(y, t)])).toArray k' } → Heap.SameBut l h h' → Q () ⟨h', g, d, tk, os⟩) : wpAny (model pz w) A (updateSeq l (fun x => x.push (.str y t))) Q E ⟨h, g, d, tk, os⟩ := by
  have e1 : (strValues ps).toArray.size = ps.length := by simp [strValues]
  refine wpAny_updateSeq (s := ⟨h, g, d, tk, os⟩) hl rfl ?_ (by rw [e1, sizeLine_eq]; exact ar76 hz e1) (by rw [Array.size_push, e1, sizeLine_eq]; exact ar77 hz e1)
  have u := PySem.IsL.update hl (fun x => x.push (.str y t))
  have e2 : (strValues ps).toArray.push (.str y t) = (strValues (ps ++ [(y, t)])).toArray := by simp [strValues]
  rw [e2] at u
  exact K _ _ u (Heap.SameBut.update ..)
theorem join_nil0 : ∀ ts : List Str, Str.join (mkS []) ts = mkS (ts.map (·.cps.toList)).flatten
  | [] => rfl
  | [x] => by
    show x = _
    rw [List.map_singleton, List.flatten_singleton, mkS_toList]
  | x :: y :: rest => by
    show x ++ mkS [] ++ Str.join (mkS []) (y :: rest) = _
    rw [join_nil0 (y :: rest)]
    show x ++ mkS [] ++ mkS (List.map (fun x => x.cps.toList) (y :: rest)).flatten = mkS (x.cps.toList ++ (List.map (fun x => x.cps.toList) (y :: rest)).flatten)
    generalize (List.map (fun (x : Str) => x.cps.toList) (y :: rest)).flatten = F
    obtain ⟨xl, rfl⟩ : ∃ xl, x = mkS xl := ⟨x.cps.toList, (mkS_toList x).symm⟩
    rw [mkS_append, mkS_append, List.append_nil]
theorem join_nil (ts : List Str) : Txt.join (mkS []) ts = mkS (ts.map (·.cps.toList)).flatten := (StrLaws.glued_eq_join _ _).trans (join_nil0 ts)
theorem foldl_len : ∀ (ts : List Str) (n : Nat), List.foldl (fun a (x : Str) => a + x.length + (mkS []).length) n ts = n + ((ts.map (·.cps.toList)).flatten).length
  | [], n => by simp
  | x :: ts, n => by
    rw [List.foldl_cons, foldl_len ts, List.map_cons, List.flatten_cons, List.length_append]
    have e1 : (mkS []).length = 0 := rfl
    have e2 : x.length = x.cps.toList.length := by simp [Str.length]
    exact ar78 e1 e2
theorem join_fits {ts : List Str} (h : ((ts.map (·.cps.toList)).flatten).length ≤ 100000) : JoinOk (mkS []) ts = true := by
  unfold JoinOk
  rw [List.foldl_toArray, foldl_len, Nat.zero_add]
  show (!decide (_ > sizeLine)) = true
  rw [decide_eq_false (by rw [sizeLine_eq]; exact ar79 h)]
  rfl
theorem rest_wp {tx : List Nat} {cnt : Nat} {R : Result → Shared → Prop} {h : Heap} {g d tk os} {l : Addr} {ps : List (Str × Tok)} {k : Nat} (hl : h.get? l = some { cls := .type "list", data := .seq (strValues ps).toArray k }) (hz : tx.length ≤ 2000) (hp : ps.length ≤ 10000) (hj : ((ps.map (·.1.cps.toList)).flatten).length ≤ 100000)
    (K : ∀ tk' t', R (.ok (.ret (.str (mkS ((ps.map (·.1.cps.toList)).flatten)) t'))) ⟨h, g, d, tk', os⟩) :
    wpAny (model pz w) A.in1 (do
      let joiner ← reSlice tx.toArray 0 0 0
      let q ← seqItems? (.ref l)
      if (q.getD #[]).isEmpty = true then do
        let text ← pure joiner
        if false = true then do
          let z ← holding [text] (do let z ← mkInt (cnt : Int); newTuple [text, z])
          ret z
        else ret text
      else do
        let text ← call (.builtin (if ((0 : Nat) == 0) = true then "str.join" else "bytes.join")) [joiner, .ref l]
        if false = true then do
          let z ← holding [text] (do let z ← mkInt (cnt : Int); newTuple [text, z])
          ret z
        else ret text) (fun fin s' => match fin with | .done f => R (.ok f) s' | .again c' => c'.quiet = true ∧ codeAny (model pz w) A c' R s') (fun e s' => R (.error e) s') ⟨h, g, d, tk, os⟩ := by
  refine wpAny_bind (slice_wp hz ?_)
  refine wpAny_bind (wpAny_seqItems hl rfl ?_)
  dsimp only [Option.getD_some]
  have e0 : mkS ((tx.drop 0).take (0 - 0)) = mkS [] := by simp
  rw [e0]
  induction ps using List.casesOn with
  | nil =>
    rw [if_pos (show (strValues ([] : List (Str × Tok))).toArray.isEmpty = true from rfl)]
    refine wpAny_bind (wpAny_pure ?_)
    rw [if_neg Bool.false_ne_true]
    exact wpAny_pure (K _ _)
  | cons q ps =>
    rw [if_neg (by simp [strValues])]
    refine wpAny_bind ?_
    rw [if_pos (show ((0 : Nat) == 0) = true from rfl)]
    refine SC.join (l := q :: ps) ⟨_, hl, rfl, _, rfl⟩ rfl (join_fits (by rw [List.map_map]; exact hj)) fun t' k => ?_
    rw [if_neg Bool.false_ne_true, join_nil, List.map_map]
    exact wpAny_pure (K _ _)
theorem item_wp {rp : List Nat} {u : Tok} {C : Code} {T : Sem Fin} {R : Result → Shared → Prop} {h : Heap} {g d tk os} {l : Addr} {ps : List (Str × Tok)} {k : Nat} (hq : C.quiet = true) (hl : h.get? l = some { cls := .type "list", data := .seq (strValues ps).toArray k }) (hp : ps.length ≤ 10000)
    (K : ∀ h' k', h'.get? l = some { cls := .type "list", data := .seq (strValues (ps ++ [(mkS rp, u)])).toArray k' } → Heap.SameBut l h h' → codeAny (model pz w) A C R ⟨h', g, d, tk, os⟩) :
    wpAny (model pz w) A.in1 (if ((0 : Int) == 0) = true then do
        let item ← pure (Value.str (mkS rp) u)
        if (item != Value.none) = true then do
          let z ← updateSeq l (fun x => x.push item)
          again C
        else again C
      else T) (fun fin s' => match fin with | .done f => R (.ok f) s' | .again c' => c'.quiet = true ∧ codeAny (model pz w) A c' R s') (fun e s' => R (.error e) s') ⟨h, g, d, tk, os⟩ := by
  rw [if_pos (show ((0 : Int) == 0) = true from rfl)]
  refine wpAny_bind (wpAny_pure ?_)
  rw [if_pos (show (Value.str (mkS rp) u != Value.none) = true from rfl)]
  refine wpAny_bind (push_wp hl hp fun h' k' hl' hs' => ?_)
  exact wpAny_pure ⟨hq, K h' k' hl' hs'⟩
theorem flat_snoc (ps : List (Str × Tok)) (y : List Nat) (t : Tok) : ((ps ++ [(mkS y, t)]).map (·.1.cps.toList)).flatten = (ps.map (·.1.cps.toList)).flatten ++ y := by
  simp
theorem same_trans {l : Addr} {h h1 h2 : Heap} (a : Heap.SameBut l h h1) (b : Heap.SameBut l h1 h2) : Heap.SameBut l h h2 := ⟨b.1.trans a.1, fun c hc => (b.2 c hc).trans (a.2 c hc)⟩
inductive OutSub (nx : Nat → Option (Nat × Nat) → Prop) (repl text : List Nat) : Nat → List Nat → Prop
  | done {p} (h : nx p none) : OutSub nx repl text p (text.drop p)
  | turn {p s e out} (h : nx p (some (s, e))) (r : OutSub nx repl text e out) : OutSub nx repl text p ((text.drop p).take (s - p) ++ repl ++ out)
structure Srch (code text : Array Nat) (nx : Nat → Option (Nat × Nat) → Prop) (N : Nat) : Prop where
  go : ∀ p, p ≤ text.size → ∃ r m', nx p r ∧ Goes N (Sre.forSearch code text 0 p text.size false) m' ∧ EndOf m' r
  on : ∀ p s e, nx p (some (s, e)) → p ≤ s ∧ s < e ∧ e ≤ text.size
  small : N < 2 ^ 60
theorem loop_wp {code : Array Nat} {nx : Nat → Option (Nat × Nat) → Prop} {N : Nat} {pat ca l : Addr} {src fl : Value} {items : Array Value} {kc : Nat} {tx rp : List Nat} {t u : Tok} {g d os} {R : Result → Shared → Prop} (hc : (items.map reRawOf).map (·.toNat) = code) (X : Srch code (mkS tx).cps nx N) (hpl : pat ≠ l) (hcl : ca ≠ l) (hz : tx.length ≤ 2000) (hr : rp.length ≤ 2) :
    ∀ (fuel p cnt : Nat) (h : Heap) (tk : Tok) (ps : List (Str × Tok)) (k : Nat), tx.length - p < fuel → p ≤ tx.length → h.get? pat = some { cls := .type "re.Pattern", dict := none, data := .fields #[src, fl, .int 0 0, .none, .none, .ref ca, .int 0 0], slots := #[] } →
      h.get? ca = some { cls := .type "tuple", dict := none, data := .seq items kc, slots := #[] } → h.get? l = some { cls := .type "list", data := .seq (strValues ps).toArray k } → ps.length ≤ 2 * p → ((ps.map (·.1.cps.toList)).flatten).length ≤ 3 * p →
      (∀ h' tk' t' out, OutSub nx rp tx p out → Heap.SameBut l h h' → R (.ok (.ret (.str (mkS ((ps.map (·.1.cps.toList)).flatten ++ out)) t'))) ⟨h', g, d, tk', os⟩) →
      codeAny (model pz w) A (.builtin "re.Pattern.sub.loop" ⟨[.ref pat, .str (mkS tx) t, .str (mkS rp) u, rawInt 0, rawInt 0, rawInt cnt, rawInt p, rawInt p, .bool false, .ref l, .bool false], []⟩) R ⟨h, g, d, tk, os⟩
  | 0, p, cnt, h, tk, ps, k, hf, _, _, _, _, _, _, _ => absurd hf (ar80 hf)
  | fuel + 1, p, cnt, h, tk, ps, k, hf, hp, hpat, hcode, hl, hps, hpj, K => by
    refine codeAny_builtin entry_loop ?_
    rw [Around.under_plainId plain_loop _]
    unfold «re.Pattern.sub.loop»
    show wpAny _ A.in1 (reWholeTarget (.ref pat) (.str (mkS tx) t) >>= _) _ _ _
    refine wpAny_bind (whole_wp hpat hcode ?_)
    rw [hc]
    generalize hF : reNextFound = F
    wp_walk
    subst hF
    refine ex2_3 (X.go p (by simpa using hp)) fun r m' hnx hg he => ?_
    rw [← hc] at hg
    have hg' : Goes N (Sre.forSearch code (mkS tx).cps 0 (p : Int).toNat (mkS tx).cps.size false) m' := by rw [Int.toNat_natCast, ← hc]; exact hg
    refine toEnd_wp hg' X.small he (fun se hse hend => ?_) (fun hr0 => ?_)
    · obtain ⟨s, e⟩ := se
      subst hse
      refine ex0_4 hend ?_; (try clear hend); intro _ hst hha _
      replace hst : m'.start = s := hst
      replace hha : m'.handed = e := hha
      refine ex0_3 (X.on p s e hnx) fun o1 o2 o3 => ?_
      replace o3 : e ≤ tx.length := by simpa using o3
      dsimp only
      rw [hst, hha, Int.toNat_natCast]
      have ees : (e == s) = false := beq_eq_false_iff_ne.mpr (ar81 o2)
      rw [ees]
      have next : ∀ (h1 : Heap) (ps1 : List (Str × Tok)) (k1 : Nat) (tk1 : Tok), Heap.SameBut l h h1 → h1.get? l = some { cls := .type "list", data := .seq (strValues ps1).toArray k1 } → ps1.length ≤ 2 * p + 1 → ((ps1.map (·.1.cps.toList)).flatten) = ((ps.map (·.1.cps.toList)).flatten) ++ (tx.drop p).take (s - p) →
          ∀ h' k', h'.get? l = some { cls := .type "list", data := .seq (strValues (ps1 ++ [(mkS rp, u)])).toArray k' } → Heap.SameBut l h1 h' →
          codeAny (model pz w) A (.builtin "re.Pattern.sub.loop" ⟨[.ref pat, .str (mkS tx) t, .str (mkS rp) u, rawInt 0, rawInt 0, rawInt ((cnt : Int) + 1), rawInt e, rawInt e, .bool false, .ref l, .bool false], []⟩) R ⟨h', g, d, tk1, os⟩ := by
        intro h1 ps1 k1 tk1 hs1 hl1 hn1 hf1 h' k' hl' hs'
        have hs2 := same_trans hs1 hs'
        have hlen : ((tx.drop p).take (s - p)).length ≤ s - p := List.length_take_le _ _
        refine loop_wp hc X hpl hcl hz hr fuel e (cnt + 1) h' tk1 (ps1 ++ [(mkS rp, u)]) k' (by omega) o3 ((hs2.2 _ hpl).trans hpat) ((hs2.2 _ hcl).trans hcode) hl' (by rw [List.length_append, List.length_singleton]; exact ar83 o1 o2 hn1) ?_ fun h2 tk2 t2 out ho hs3 => ?_
        · rw [flat_snoc, hf1, List.length_append, List.length_append]; exact ar84 hr hpj o1 o2 hlen
        · have := K h2 tk2 t2 _ (.turn hnx ho) (same_trans hs2 hs3)
          rw [flat_snoc, hf1, List.append_assoc, List.append_assoc]
          rw [List.append_assoc] at this
          exact this
      by_cases hlt : p < s
      · rw [if_pos hlt]
        refine wpAny_bind (slice_wp (tx := tx) hz ?_)
        refine wpAny_bind (push_wp hl (ar85 hz hp hps) fun h1 k1 hl1 hs1 => ?_)
        exact item_wp (plainId_quiet plain_loop _) hl1 (by rw [List.length_append, List.length_singleton]; exact ar86 hz hp hps) (next h1 _ k1 _ hs1 hl1 (by rw [List.length_append, List.length_singleton]; exact ar87 hps) (by rw [flat_snoc]))
      · rw [if_neg hlt]
        exact item_wp (plainId_quiet plain_loop _) hl (by exact ar88 hz hps o1 o2 o3 hlt) (next h ps k _ ⟨rfl, fun _ _ => rfl⟩ hl (by exact ar89 hps o1 hlt) (by rw [show s - p = 0 by exact ar90 o1 hlt, List.take_zero, List.append_nil]))
    · subst hr0
      dsimp only
      rw [Int.toNat_natCast]
      have e1 : tx.toArray.size = tx.length := by simp
      by_cases hlt : p < tx.length
      · rw [if_pos (by rw [e1]; exact hlt)]
        refine wpAny_bind (slice_wp (tx := tx) hz ?_)
        refine wpAny_bind (push_wp hl (ar91 hz hps e1 hlt) fun h1 k1 hl1 hs1 => ?_)
        have e2 : (tx.drop p).take (tx.toArray.size - p) = tx.drop p := List.take_of_length_le (by rw [List.length_drop, e1]; exact Nat.le_refl _)
        refine rest_wp (tx := tx) hl1 hz (by rw [List.length_append, List.length_singleton]; exact ar92 hz hps e1 hlt) ?_ fun tk' t' => ?_
        · rw [flat_snoc, List.length_append, e2, List.length_drop]; omega
        · have := K h1 tk' t' (tx.drop p) (.done hnx) hs1
          rw [flat_snoc, e2]
          exact this
      · rw [if_neg (by rw [e1]; exact hlt)]
        refine rest_wp (tx := tx) hl hz (ar94 hz hp hps e1 hlt) (ar95 hz hp hpj e1 hlt) fun tk' t' => ?_
        have := K h tk' t' (tx.drop p) (.done hnx) ⟨rfl, fun _ _ => rfl⟩
        rw [List.drop_eq_nil_of_le (ar96 hp e1 hlt), List.append_nil] at this
        exact this
end Mine
end

section
namespace Mine
open PySem.Builtin PySem.Builtin.Re
variable {w : World} {A : Around} {E : Value → Shared → Prop}
theorem sub_wp {code : Array Nat} {nx : Nat → Option (Nat × Nat) → Prop} {N : Nat} {pat ca : Addr} {src fl : Value} {items : Array Value} {kc : Nat} {tx rp : List Nat} {t u : Tok} {h : Heap} {g d tk os} {Q : Value → Shared → Prop} (hc : (items.map reRawOf).map (·.toNat) = code) (X : Srch code (mkS tx).cps nx N) (hz : tx.length ≤ 2000) (hr : rp.length ≤ 2) (h92 : (mkS rp).cps.contains 92 = false)
    (hpat : h.get? pat = some { cls := .type "re.Pattern", dict := none, data := .fields #[src, fl, .int 0 0, .none, .none, .ref ca, .int 0 0], slots := #[] })
    (hcode : h.get? ca = some { cls := .type "tuple", dict := none, data := .seq items kc, slots := #[] })
    (K : ∀ h' tk' t' out, OutSub nx rp tx 0 out → (∀ a o, h.get? a = some o → h'.get? a = some o) → Q (.str (mkS out) t') ⟨h', g, d, tk', os⟩) :
    wpAny (model pz w) A (call (.builtin "re.Pattern.sub") [.ref pat, .str (mkS rp) u, .str (mkS tx) t]) Q E ⟨h, g, d, tk, os⟩ := by
  refine wpAny_call (codeAny_call_builtin slot_sub.plain entry_sub (slot_sub.check _ _ _ _ _ _ _ _ ⟨_, hpat, rfl⟩ (args_sub _ _ _) ?_))
  unfold «re.Pattern.sub» reSubstitute
  generalize hF : specialOf = F
  wp_walk
  subst hF
  refine wpAny_specialOf (typeIs_str _ _ _) nocall_str ?_
  generalize hF : reWholeTarget = F
  wp_walk
  rw [if_pos (by rw [h92]; rfl)]
  wp_walk
  subst hF
  refine whole_wp hpat hcode ?_
  generalize hF : @again = F
  wp_walk
  subst hF
  have hlt : ∀ {a o}, h.get? a = some o → a ≠ h.objs.size := fun e => Nat.ne_of_lt (Heap.lt_size e)
  refine wpAny_pure ⟨plainId_quiet plain_loop _, ?_⟩
  refine loop_wp hc X (hlt hpat) (hlt hcode) hz hr (tx.length + 1) 0 0 _ _ [] 0 (ar439 hz) (Nat.zero_le _) (Heap.get?_push_of_some _ hpat) (Heap.get?_push_of_some _ hcode) (Heap.get?_push_size _ rfl) (Nat.zero_le _) (Nat.zero_le _) fun h' tk' t' out ho hs => ?_
  exact K h' tk' t' out ho fun a o e => (hs.2 a (hlt e)).trans (Heap.get?_push_of_some _ e)
section
variable {tx : List Nat}
theorem getD_arr (j : Nat) : (mkS tx).cps.getD j 0 = tx.getD j 0 := by
  show tx.toArray.getD j 0 = _
  rw [Array.getD_eq_getD_getElem?, List.getElem?_toArray, List.getD_eq_getElem?_getD]
theorem size_arr : (mkS tx).cps.size = tx.length := by simp
theorem drop_cons {j : Nat} (h : j < tx.length) : tx.drop j = tx.getD j 0 :: tx.drop (j + 1) := by
  rw [List.drop_eq_getElem_cons h, List.getD_eq_getElem?_getD, List.getElem?_eq_getElem h]
  rfl
theorem srch1' (hz : tx.length ≤ 2000) : Srch code1 (mkS tx).cps (Nx1 (mkS tx).cps (mkS tx).cps.size) (((mkS tx).cps.size + 1) * 6) where
  go := fun p hp => search1 hp
  on := fun p s e h => by
    refine ex0_4 h ?_; (try clear h); intro h1 h2 h3 _
    have := h2.1
    exact ⟨h1, ar440 h3, ar441 h3 this⟩
  small := by rw [size_arr]; exact ar442 hz
theorem fin2_bd {text : Array Nat} {lim s : Nat} (h : s < lim) : s < fin2 text lim s ∧ fin2 text lim s ≤ lim := by
  unfold fin2
  by_cases q : text.getD s 0 = 13 ∧ s + 1 < lim ∧ text.getD (s + 1) 0 = 10
  · rw [if_pos q]; exact ar443 q
  · rw [if_neg q]; exact ar444 h
theorem srch2' (hz : tx.length ≤ 2000) : Srch code2 (mkS tx).cps (Nx2 (mkS tx).cps (mkS tx).cps.size) (((mkS tx).cps.size + 1) * 6 + 30) where
  go := fun p hp => search2 hp
  on := fun p s e h => by
    refine ex0_4 h ?_; (try clear h); intro h1 h2 h3 _
    have := fin2_bd (text := (mkS tx).cps) h2.1
    exact ⟨h1, ar445 h3 this, ar446 h3 this⟩
  small := by rw [size_arr]; exact ar447 hz
noncomputable def hd (tx : List Nat) (p : Nat) : Bool := decide (p = 0 ∨ tx.getD (p - 1) 0 = 10)
theorem qd2_skip : ∀ (d p s : Nat), s - p = d → p ≤ s → s ≤ tx.length → (∀ j, p ≤ j → j < s → ¬ ok1 (mkS tx).cps (mkS tx).cps.size j) → qd2 (hd tx p) (tx.drop p) = (tx.drop p).take (s - p) ++ qd2 (hd tx s) (tx.drop s)
  | 0, p, s, hd0, hps, hs, hno => by
    have : p = s := ar448 hd0 hps
    subst this
    simp
  | d + 1, p, s, hd0, hps, hs, hno => by
    have hp : p < tx.length := ar449 hd0 hps hs
    have ih := qd2_skip d (p + 1) s (ar450 hd0 hps) (ar451 hd0 hps) hs fun j h1 h2 => hno j (ar15 h1) h2
    have n := hno p (Nat.le_refl _) (ar452 hd0 hps)
    rw [drop_cons hp, qd2, show s - p = (s - (p + 1)) + 1 by exact ar453 hd0 hps, List.take_succ_cons, List.cons_append]
    have e : (hd tx p && tx.getD p 0 == 46) = false := by
      cases h1 : hd tx p with
      | false => rfl
      | true =>
        rw [Bool.true_and, beq_eq_false_iff_ne]
        intro h2
        refine n ⟨by rw [size_arr]; exact hp, by rw [getD_arr]; exact h2, ?_⟩
        rw [getD_arr]
        exact of_decide_eq_true h1
    rw [e, cond_false]
    have e2 : (tx.getD p 0 == 10) = hd tx (p + 1) := by
      unfold hd
      rw [Nat.add_sub_cancel, Bool.eq_iff_iff, beq_iff_eq, decide_eq_true_iff]
      constructor
      · exact .inr
      · rintro (h | h)
        · exact ar454 h
        · exact h
    rw [e2, ih]
theorem out1 : ∀ {p out}, OutSub (Nx1 (mkS tx).cps (mkS tx).cps.size) [46, 46] tx p out → p ≤ tx.length → out = qd2 (hd tx p) (tx.drop p)
  | p, _, .done h, hp => by
    have := qd2_skip (tx := tx) (tx.length - p) p tx.length rfl hp (Nat.le_refl _) fun j h1 h2 => h j h1
    rw [this, List.drop_length]
    have e : (tx.drop p).take (tx.length - p) = tx.drop p := List.take_of_length_le (by rw [List.length_drop]; exact Nat.le_refl _)
    rw [e]
    show _ = _ ++ []
    rw [List.append_nil]
  | p, _, .turn (s := s) (e := e) (out := out) h r, hp => by
    refine ex0_4 h ?_; (try clear h); intro h1 h2 h3 h4
    have hs : s < tx.length := by have := h2.1; rw [size_arr] at this; exact this
    have ih := out1 r (ar441 h3 hs)
    rw [ih, qd2_skip (tx := tx) (s - p) p s rfl h1 (ar455 h3 hs) h4, drop_cons hs]
    have e1 : hd tx s = true := decide_eq_true (by have := h2.2.2; rw [getD_arr] at this; exact this)
    have e2 : tx.getD s 0 = 46 := by have := h2.2.1; rw [getD_arr] at this; exact this
    have e3 : hd tx e = false := by
      rw [h3]
      refine decide_eq_false ?_
      rw [Nat.add_sub_cancel, e2]
      omega
    rw [e1, e2, e3, h3, qd2]
    simp
theorem qdA_skip : ∀ (d p s : Nat), s - p = d → p ≤ s → s ≤ tx.length → (∀ j, p ≤ j → j < s → ¬ ok2 (mkS tx).cps (mkS tx).cps.size j) → qdA false (tx.drop p) = (tx.drop p).take (s - p) ++ qdA false (tx.drop s)
  | 0, p, s, hd0, hps, hs, hno => by
    have : p = s := ar448 hd0 hps
    subst this
    simp
  | d + 1, p, s, hd0, hps, hs, hno => by
    have hp : p < tx.length := ar449 hd0 hps hs
    have ih := qdA_skip d (p + 1) s (ar450 hd0 hps) (ar451 hd0 hps) hs fun j h1 h2 => hno j (ar15 h1) h2
    have n := hno p (Nat.le_refl _) (ar452 hd0 hps)
    have n2 : ¬ (tx.getD p 0 = 10 ∨ tx.getD p 0 = 13) := fun h => n ⟨by rw [size_arr]; exact hp, by unfold nl; rw [getD_arr]; exact h⟩
    rw [not_or] at n2
    rw [drop_cons hp, qdA, show s - p = (s - (p + 1)) + 1 by exact ar456 hd0 hps n2, List.take_succ_cons, List.cons_append]
    rw [beq_eq_false_iff_ne.mpr n2.1, beq_eq_false_iff_ne.mpr n2.2, cond_false, cond_false, ih]
theorem qdA_sk : ∀ {l : List Nat}, l.head? ≠ some 10 → qdA true l = qdA false l
  | [], _ => rfl
  | c :: l, h => by
    have : ¬ c = 10 := fun e => h (by rw [e]; rfl)
    rw [qdA, qdA, beq_eq_false_iff_ne.mpr this, cond_false, cond_false]
theorem out2 : ∀ {p out}, OutSub (Nx2 (mkS tx).cps (mkS tx).cps.size) [13, 10] tx p out → p ≤ tx.length → out = qdA false (tx.drop p)
  | p, _, .done h, hp => by
    have := qdA_skip (tx := tx) (tx.length - p) p tx.length rfl hp (Nat.le_refl _) fun j h1 h2 => h j h1
    rw [this, List.drop_length]
    have e : (tx.drop p).take (tx.length - p) = tx.drop p := List.take_of_length_le (by rw [List.length_drop]; exact Nat.le_refl _)
    rw [e]
    show _ = _ ++ []
    rw [List.append_nil]
  | p, _, .turn (s := s) (e := e) (out := out) h r, hp => by
    refine ex0_4 h ?_; (try clear h); intro h1 h2 h3 h4
    have hs : s < tx.length := by have := h2.1; rw [size_arr] at this; exact this
    have hn : tx.getD s 0 = 10 ∨ tx.getD s 0 = 13 := by have := h2.2; unfold nl at this; rw [getD_arr] at this; exact this
    unfold fin2 at h3
    rw [getD_arr, getD_arr, size_arr] at h3
    rw [qdA_skip (tx := tx) (s - p) p s rfl h1 (ar318 hs) h4, drop_cons hs]
    rcases hn with hn | hn
    · rw [if_neg (fun q => by rw [hn] at q; exact absurd q.1 (by decide))] at h3
      rw [out2 r (ar441 h3 hs), hn, h3, qdA]
      simp
    · by_cases h10 : s + 1 < tx.length ∧ tx.getD (s + 1) 0 = 10
      · rw [if_pos ⟨hn, h10⟩] at h3
        rw [out2 r (ar457 h3 h10), hn, h3, qdA, drop_cons h10.1, h10.2, qdA]
        simp
        rfl
      · rw [if_neg (fun q => h10 q.2)] at h3
        rw [out2 r (ar441 h3 hs), hn, h3, qdA, qdA_sk]
        · simp
        · intro q
          by_cases hl : s + 1 < tx.length
          · rw [drop_cons hl] at q
            exact h10 ⟨hl, by simpa using q⟩
          · rw [List.drop_eq_nil_of_le (ar458 h3 hs hl)] at q; cases q
end
end Mine
end

section
namespace Mine
open PySem.Builtin.Re
variable {b : Base} {w : World} {D : Nat} {mem mem' : Mem} {v : V}
theorem pa_pattern : PlainAttrs "re.Pattern" :=
  ⟨⟨"object.__getattribute__", by rw [typeLookup_type, builtinLookup_eq_fast]; kernel_rfl, by decide +kernel⟩, by rw [typeLookup_type, builtinLookup_eq_fast]; kernel_rfl⟩
theorem sub_meth {code : Array Nat} {nx : Nat → Option (Nat × Nat) → Prop} {N : Nat} {pat ca : Addr} {src fl : Value} {items : Array Value} {kc : Nat} {tx rp o : List Nat} (hc : (items.map reRawOf).map (·.toNat) = code) (X : Srch code (mkS tx).cps nx N) (hz : tx.length ≤ 2000) (hr : rp.length ≤ 2) (h92 : (mkS rp).cps.contains 92 = false)
    (hpat : b.H.get? pat = some { cls := .type "re.Pattern", dict := none, data := .fields #[src, fl, .int 0 0, .none, .none, .ref ca, .int 0 0], slots := #[] })
    (hcode : b.H.get? ca = some { cls := .type "tuple", dict := none, data := .seq items kc, slots := #[] }) (hout : ∀ out, OutSub nx rp tx 0 out → out = o) : MethOk b w D "sub" (.ref pat) [.str rp, .str tx] mem (.str o) mem "re.Pattern" "re.Pattern.sub" where
  pa := pa_pattern
  slot := slot_sub
  ty := type_sub
  typ := fun {h ad x s m} e R hx => by
    cases hx
    subst e
    exact ⟨⟨_, R.base _ _ hpat, rfl⟩, fun c e => by injection e with e; subst e; exact ⟨_, R.base _ _ hpat, rfl⟩⟩
  call := fun {A s ad x vals} hA R hx hvs => by
    intro Q E K
    cases hx
    refine ex2_3 (vrs2 hvs) fun y z ob1 hy hz' => ?_; subst ob1
    refine ex1_1 hy.strInv fun t ob2 => ?_; subst ob2
    refine ex1_1 hz'.strInv fun u ob3 => ?_; subst ob3
    obtain ⟨h, g, d, tk, os⟩ := s
    refine sub_wp hc X hz hr h92 (R.base _ _ hpat) (R.base _ _ hcode) fun h' tk' t' out ho hk => ?_
    rw [hout out ho]
    exact K _ ad _ (OutE.all (n := tk') R hk) (.str _ _)
theorem qdA_len : ∀ (sk : Bool) (l : List Nat), (qdA sk l).length ≤ 2 * l.length
  | _, [] => Nat.zero_le _
  | sk, c :: l => by
    have h1 := qdA_len false l
    have h2 := qdA_len true l
    rw [qdA, List.length_cons]
    cases c == 10 <;> cases c == 13 <;> cases sk <;> simp only [cond_true, cond_false, List.length_cons] <;> omega
noncomputable def fd126 (P : Params) : FuncData := fdOf (o126_0 P)
theorem cr126 (P : Params) : (HB P).codeRecOk (fd126 P).code (fd126 P).qualname = true := by kernel_rfl!
theorem g126 (P : Params) : (HB P).get? 126 = some (o126_0 P) := by kernel_rfl!
theorem g114 (P : Params) : (HB P).get? 114 = some (o114_0 P) := by kernel_rfl!
theorem g113 (P : Params) : (HB P).get? 113 = some (o113_0 P) := by kernel_rfl!
theorem g119 (P : Params) : (HB P).get? 119 = some (o119_0 P) := by kernel_rfl!
theorem g118 (P : Params) : (HB P).get? 118 = some (o118_0 P) := by kernel_rfl!
theorem bp126 (P : Params) : ∀ (S : Setting) (x1 : Value), peek [] S (bindArgs (fd126 P) ⟨[x1], []⟩) = some [(("data" : Str), x1)] := by intros; kernel_rfl!
theorem nc18 : ∀ x ∈ (fdScope (st 18)).names, x.2 ≠ .cell := by decide +kernel
theorem nd18 : ([("data" : Str)] : List Str).Nodup := by decide +kernel
theorem lc18 : ∀ x ∈ ([("data" : Str)] : List Str), (fdScope (st 18)).names.lookup x = some .local := by decide +kernel
theorem call126 (B : BaseOk b) (hs : OverHB b w) (hg : b.glob = globT) {l : List Nat} (hl : l.length ≤ 1000) : CallE b w 1 126 [.str l] mem (.str (qd2 true (qd1 l))) mem := by
  have hB : fdBody (st 18) = [_] := rfl
  have hz : (qd1 l).length ≤ 2000 := by have := qdA_len false l; unfold qd1; exact ar542 hl this
  have S : SSs b w 0 (fdScope (st 18)) (fdBody (st 18)) [("data", .str l)] mem (.ret (.str (qd2 true (qd1 l)))) [("data", .str l)] mem := by
    rw [hB]
    have M2 : MethOk b w 0 "sub" (.ref 119) [.str [13, 10], .str l] mem (.str (qd1 l)) mem "re.Pattern" "re.Pattern.sub" :=
      sub_meth (code := code2) (by kernel_rfl!) (srch2' (ar543 hl)) (ar543 hl) (by decide) (by decide +kernel) (hs _ _ (g119 _)) (hs _ _ (g118 _)) fun out ho => out2 ho (Nat.zero_le _)
    have M1 : MethOk b w 0 "sub" (.ref 114) [.str [46, 46], .str (qd1 l)] mem (.str (qd2 true (qd1 l))) mem "re.Pattern" "re.Pattern.sub" :=
      sub_meth (code := code1) (by kernel_rfl!) (srch1' hz) hz (by decide) (by decide +kernel) (hs _ _ (g114 _)) (hs _ _ (g113 _)) fun out ho => out1 ho (Nat.zero_le _)
    apply SSs_ret
    apply SS_return
    refine @SE_meth b w 0 (fdScope (st 18)) [("data", .str l)] mem mem mem mem (.str (qd2 true (qd1 l))) _ _ _ _ _ (.ref 114) [.str [46, 46], .str (qd1 l)] _ _ rfl rfl (by decide) rfl ?_ ?_ M1
    · exact SE_name B (v := .ref 114) (by show b.glob "_twin_re_1" = _; rw [hg]; rfl)
    · refine @SEs_cons b w 0 (fdScope (st 18)) [("data", .str l)] mem mem mem (.str [46, 46]) _ _ [.str (qd1 l)] rfl (SE_const (v := .str [46, 46]) rfl) ?_
      refine @SEs_cons b w 0 (fdScope (st 18)) [("data", .str l)] mem mem mem (.str (qd1 l)) _ _ [] rfl ?_ SEs_nil
      refine @SE_meth b w 0 (fdScope (st 18)) [("data", .str l)] mem mem mem mem (.str (qd1 l)) _ _ _ _ _ (.ref 119) [.str [13, 10], .str l] _ _ rfl rfl (by decide) rfl ?_ ?_ M2
      · exact SE_name B (v := .ref 119) (by show b.glob "_twin_re_2" = _; rw [hg]; rfl)
      · exact SEs_cons rfl (SE_name B (v := .str [13, 10]) (by show b.glob "CRLF" = _; rw [hg]; rfl)) (SEs_cons rfl (SE_name B (v := .str l) rfl) SEs_nil)
  exact fn_call (D := 0) (c := .ret (.str (qd2 true (qd1 l)))) B (hs _ _ (g126 _)) (fd := fd126 w.params) rfl ((Heap.CodeRec.of_ok (cr126 w.params)).keeps hs) rfl nc18 rfl rfl rfl rfl rfl rfl (bind1 (bp126 _)) nd18 lc18 S
end Mine
end

section
namespace Mine
variable {w : World} {mem mem' : Mem} {v : V}
theorem intsOf_inv : ∀ {l : List V} {x : List Int}, intsOf l = some x → l = x.map .int
  | [], x, h => by cases h; rfl
  | .int i :: l, x, h => by
    refine ex1_2 (map2 h) fun y h1 ob1 => ?_; subst ob1
    rw [List.map_cons, ← intsOf_inv h1]
theorem CallE.mono {b : Base} {D D' : Nat} {f : Addr} {vs : List V} (h : D ≤ D') (C : CallE b w D f vs mem v mem') : CallE b w D' f vs mem v mem' := fun A s ad vals hA => C A s ad vals (hA.mono h)
theorem raw0_all {f : Addr} {vs : List V} (h : raw0 f vs mem = some (v, mem')) : CallE (b0 w.params) w 65 f vs mem v mem' ∧ (f = 52 ∨ f = 59 ∨ f = 126 ∨ f = 172 ∨ f = 184) := by
  have B := baseOk w.params (fun _ _ _ => none)
  have hs : OverHB (b0 w.params) w := fun a o e => e
  unfold raw0 at h
  cases e1 : (f == 52) with
  | true =>
    have := eq_of_beq e1
    subst this
    rw [e1, cond_true] at h
    refine ⟨?_, .inl rfl⟩
    obtain _ | ⟨y, _ | ⟨z, _ | ⟨z2, vs⟩⟩⟩ := vs
    · exact nE h
    · cases y <;> exact nE h
    · induction y using Mine.V.casesOn with
      | int x => induction z using Mine.V.casesOn with
        | int n =>
          refine kE h ?_; clear h; intro h1 h2
          cases h2
          simp only [Bool.and_eq_true, decide_eq_true_eq] at h1
          refine ex0_2 h1 ?_; (try clear h1); intro ob2 h7; obtain ⟨⟨⟨h3, h4⟩, h5⟩, h6⟩ := ob2
          obtain ⟨X, rfl⟩ : ∃ X : Nat, x = X := ⟨x.toNat, (Int.toNat_of_nonneg h4).symm⟩
          obtain ⟨N, rfl⟩ : ∃ N : Nat, n = N := ⟨n.toNat, (Int.toNat_of_nonneg (ar538 h7 h5)).symm⟩
          have hx : X < 2 ^ 64 := by
            have := of_decide_eq_true h6
            rwa [Int.natAbs_natCast] at this
          rw [Int.toNat_natCast, Int.toNat_natCast]
          exact ok52 w.params h3 hx (ar539 h7 h5) (ar540 h7 h5)
        | _ => exact nE h
      | _ => exact nE h
    · cases y <;> first | exact nE h | (cases z <;> exact nE h)
  | false =>
  rw [e1, cond_false] at h
  cases e2 : (f == 59) with
  | true =>
    have := eq_of_beq e2
    subst this
    rw [e2, cond_true] at h
    refine ⟨?_, .inr (.inl rfl)⟩
    obtain _ | ⟨y, _ | ⟨z, _ | ⟨z2, vs⟩⟩⟩ := vs
    · exact nE h
    · cases y <;> exact nE h
    · induction y using Mine.V.casesOn with
      | list j => induction z using Mine.V.casesOn with
        | int n =>
          refine bE h ?_; clear h; intro l hl h
          refine bE h ?_; clear h; intro x hx h
          refine kE h ?_; clear h; intro h1 h2
          cases h2
          simp only [Bool.and_eq_true, decide_eq_true_eq] at h1
          refine ex0_2 h1 ?_; (try clear h1); intro ob3 h6; obtain ⟨⟨h3, h4⟩, h5⟩ := ob3
          obtain ⟨N, rfl⟩ : ∃ N : Nat, n = N := ⟨n.toNat, (Int.toNat_of_nonneg (by omega)).symm⟩
          rw [Int.toNat_natCast] at h4 ⊢
          rw [intsOf_inv hx] at hl
          exact ok59 w.params hl (fun d hd => of_decide_eq_true (List.all_eq_true.mp h5 d hd)) h3 (lit_le h4)
        | _ => exact nE h
      | _ => exact nE h
    · cases y <;> first | exact nE h | (cases z <;> exact nE h)
  | false =>
  rw [e2, cond_false] at h
  cases e3 : (f == 126) with
  | true =>
    have := eq_of_beq e3
    subst this
    rw [e3, cond_true] at h
    refine ⟨?_, .inr (.inr (.inl rfl))⟩
    obtain _ | ⟨y, _ | ⟨z, vs⟩⟩ := vs
    · exact nE h
    · induction y using Mine.V.casesOn with
      | str l =>
        refine kE h ?_; clear h; intro h1 h2
        cases h2
        exact (call126 B hs rfl (lit_le h1)).mono (by decide)
      | _ => exact nE h
    · cases y <;> exact nE h
  | false =>
  rw [e3, cond_false] at h
  refine ex0_2 (orcS_call (w := w) (b := b0 w.params) (mem := mem) (mem' := mem') (v := v) (f := f) (vs := vs) B hs rfl h) fun C q => ?_
  exact ⟨C.mono (by decide), .inr (.inr (.inr q))⟩
theorem raw0_ok (w : World) : RawOk raw0 w.params w 65 := fun f vs mem v mem' h => (raw0_all h).1.ok
theorem raw0_fn (w : World) : RawFn raw0 w.params := by
  rintro f vs mem ⟨v, mem'⟩ h
  rcases (raw0_all (w := w) h).2 with rfl | rfl | rfl | rfl | rfl
  · exact ⟨_, fd52 w.params, g52 _, rfl⟩
  · exact ⟨_, fd59 w.params, g59 _, rfl⟩
  · exact ⟨_, fd126 w.params, g126 _, rfl⟩
  · exact ⟨_, fd172 w.params, g172 _, rfl⟩
  · exact ⟨_, fd184 w.params, g184 _, rfl⟩
theorem orc0_ok (w : World) (k : Nat) : OrcOk (bk raw0 w.params k) w (65 + k) ∧ OrcFn (bk raw0 w.params k) :=
  orc_ok (raw0_ok w) (raw0_fn w) (OrcSok.mono (by decide) (orcS_sok w)) (ffAll w.params) k
end Mine
end

namespace Mine
noncomputable def dots (n : Nat) : List Nat := repS [46] n
structure Row where
  cnt : Nat
  mark : Nat
  sp : List Nat
  mn : List Nat
  first : Bool
  en : List Nat
noncomputable def Row.line (r : Row) : List Nat := cond r.first (r.mark :: (dots r.cnt ++ r.sp)) (dots r.cnt ++ r.mark :: r.sp)
noncomputable def Row.more (r : Row) : Bool := !r.first && decide (0 < r.cnt)
noncomputable def Row.loud (r : Row) : List Nat := cond r.more (46 :: r.line) r.line
noncomputable def Row.cnt' (r : Row) : Nat := cond r.more (r.cnt + 1) r.cnt
noncomputable def Row.heard (r : Row) : List Nat := dots r.cnt' ++ r.mn
noncomputable def mailBody : List Stmt := forBody (sx 25 6)
theorem turn191 (k n : Nat) (loc : Loc) (mem : Mem) (v : Int) (r : Row) (si mi ei hi : Nat) (spl mnl enl hd : List V) (W S : List Nat)
    (h1 : lkb "v" loc = some (.int v)) (h2 : lkb "spelled" loc = some (.list si)) (h3 : lkb "meant" loc = some (.list mi)) (h4 : lkb "ends" loc = some (.list ei)) (h5 : lkb "heard" loc = some (.list hi)) (h6 : lkb "written" loc = some (.str W)) (h7 : lkb "sent" loc = some (.str S))
    (m1 : mem[si]? = some spl) (m2 : mem[mi]? = some mnl) (m3 : mem[ei]? = some enl) (m4 : mem[hi]? = some hd) (hi0 : (hi == 0) = false) (hhd : lit hd.length = true)
    (a1 : v.fmod 3 = r.cnt) (a2 : 65529 + ((v.fdiv 180).fmod 5) = r.mark) (a3 : ((v.fdiv 3).fmod 2 == 1) = r.first) (a4 : spl[((v.fdiv 6).fmod 10).toNat]? = some (.str r.sp)) (a5 : mnl[((v.fdiv 6).fmod 10).toNat]? = some (.str r.mn)) (a6 : enl[((v.fdiv 60).fmod 3).toNat]? = some (.str r.en))
    (b1 : r.cnt ≤ 2) (b2 : r.mark ≤ 65533) (b3 : r.sp.length ≤ 2) (b4 : r.mn.length ≤ 2) (b5 : r.en.length ≤ 2) (bW : W.length ≤ 500) (bS : S.length ≤ 500) (bv : 0 ≤ v) :
    ∃ loc', (run ⟨(default : Heap), globT, orc0 k⟩ (n + 16)).Ss (fdScope (st 25)) mailBody loc mem = some (.next, loc', mem.set hi (hd ++ [.str r.heard])) ∧
      lkb "spelled" loc' = some (.list si) ∧ lkb "meant" loc' = some (.list mi) ∧ lkb "ends" loc' = some (.list ei) ∧ lkb "heard" loc' = some (.list hi) ∧ lkb "written" loc' = some (.str (W ++ r.line ++ r.en)) ∧ lkb "sent" loc' = some (.str (S ++ r.loud ++ [13, 10])) := by
  have hB : mailBody = [_, _, _, _, _, _, _] := rfl
  rw [hB]
  clear hB
  have i1 : (decide (0 ≤ (v.fdiv 6).fmod 10) && decide ((v.fdiv 6).fmod 10 < 2 ^ 63)) = true := by
    have h8 := Int.fmod_nonneg_of_pos (v.fdiv 6) (b := 10) (by decide)
    have h9 := Int.fmod_lt_of_pos (v.fdiv 6) (b := 10) (by decide)
    rw [decide_eq_true h8, decide_eq_true (show (v.fdiv 6).fmod 10 < 2 ^ 63 from ar158 h8 h9)]; rfl
  have i2 : (decide (0 ≤ (v.fdiv 60).fmod 3) && decide ((v.fdiv 60).fmod 3 < 2 ^ 63)) = true := by
    have h8 := Int.fmod_nonneg_of_pos (v.fdiv 60) (b := 3) (by decide)
    have h9 := Int.fmod_lt_of_pos (v.fdiv 60) (b := 3) (by decide)
    rw [decide_eq_true h8, decide_eq_true (show (v.fdiv 60).fmod 3 < 2 ^ 63 from ar159 h8 h9)]; rfl
  have i3 : (decide (0 ≤ (r.mark : Int)) && decide ((r.mark : Int) ≤ 1114111)) = true := by
    rw [decide_eq_true (show 0 ≤ (r.mark : Int) from ar160 b2), decide_eq_true (show (r.mark : Int) ≤ 1114111 from ar161 b2)]; rfl
  have i4 : decide (0 ≤ (r.cnt : Int)) = true := decide_eq_true (ar162 b1)
  have i5 : decide ((r.cnt : Int) ≤ 1000) = true := decide_eq_true (ar163 b1)
  have i6 : decide (0 ≤ ((r.cnt + 1 : Nat) : Int)) = true := decide_eq_true (ar164 b1)
  have i7 : decide (((r.cnt + 1 : Nat) : Int) ≤ 1000) = true := decide_eq_true (ar165 b1)
  have i8 : (r.cnt : Int) + 1 = ((r.cnt + 1 : Nat) : Int) := rfl
  have z3 : ((3 : Int) == 0) = false := rfl
  have ld : ∀ n : Nat, (dots n).length = n := fun n => by unfold dots; rw [repS_length]; simp
  have hlit : ∀ x : Nat, x ≤ 1000 → lit x = true := fun x hx => by unfold lit; exact decide_eq_true hx
  have small3 : small 3 = true := rfl
  have small6 : small 6 = true := rfl
  have small60 : small 60 = true := rfl
  have small180 : small 180 = true := rfl
  have small2 : small 2 = true := rfl
  have dotS : (Str.ofString ".").cps.toList = [46] := by kernel_rfl!
  have crlfS : (Str.ofString "\r\n").cps.toList = [13, 10] := by kernel_rfl!
  have L : ∀ l : List Nat, l.length ≤ 1000 → lit l.length = true := fun l h => by unfold lit; exact decide_eq_true h
  have Ld : (repS [46] r.cnt).length = r.cnt := ld r.cnt
  have Ld1 : (repS [46] (r.cnt + 1)).length = r.cnt + 1 := ld (r.cnt + 1)
  cases hf : r.first with
  | true =>
    rw [hf] at a3
    have l0 : lit [r.mark].length = true := rfl
    have l1 : lit (repS [46] r.cnt).length = true := L _ (ar166 b1 Ld Ld1)
    have l2 : lit ([r.mark] ++ repS [46] r.cnt).length = true := L _ (by simp only [List.length_append, List.length_cons, List.length_nil]; exact ar167 b1 Ld Ld1)
    have l3 : lit r.sp.length = true := L _ (ar168 b3)
    have l4 : lit W.length = true := L _ (ar169 bW)
    have l5 : lit ([r.mark] ++ repS [46] r.cnt ++ r.sp).length = true := L _ (by simp only [List.length_append, List.length_cons, List.length_nil]; exact ar170 b1 b3 Ld Ld1)
    have l6 : lit (W ++ ([r.mark] ++ repS [46] r.cnt ++ r.sp)).length = true := L _ (by simp only [List.length_append, List.length_cons, List.length_nil]; exact ar171 b1 b3 bW Ld Ld1)
    have l7 : lit r.en.length = true := L _ (ar168 b5)
    have l8 : lit S.length = true := L _ (ar169 bS)
    have l9 : lit (S ++ ([r.mark] ++ repS [46] r.cnt ++ r.sp)).length = true := L _ (by simp only [List.length_append, List.length_cons, List.length_nil]; exact ar171 b1 b3 bS Ld Ld1)
    have l10 : lit r.mn.length = true := L _ (ar168 b4)
    have l11 : lit [13, 10].length = true := rfl
    have l12 : lit [46].length = true := rfl
    have hl : r.line = [r.mark] ++ repS [46] r.cnt ++ r.sp := by simp [Row.line, hf, dots]
    have ho : r.loud = [r.mark] ++ repS [46] r.cnt ++ r.sp := by simp [Row.loud, Row.line, Row.more, hf, dots]
    have hh : r.heard = repS [46] r.cnt ++ r.mn := by simp [Row.heard, Row.cnt', Row.more, hf, dots]
    rw [hl, ho, hh]
    refine ⟨putL "sent" (.str (S ++ ([r.mark] ++ repS [46] r.cnt ++ r.sp) ++ [13, 10])) (putL "written" (.str (W ++ ([r.mark] ++ repS [46] r.cnt ++ r.sp) ++ r.en)) (putL "loud" (.str ([r.mark] ++ repS [46] r.cnt ++ r.sp)) (putL "line" (.str ([r.mark] ++ repS [46] r.cnt ++ r.sp)) (putL "letter" (.str r.sp) (putL "mark" (.str [r.mark]) (putL "count" (.int r.cnt) loc)))))), ?_, ?_, ?_, ?_, ?_, ?_, ?_⟩
    repeat' (first | (with_reducible (show _ = _; assumption)) | (with_reducible (show some _ = some _; rfl)) | (with_reducible first | apply E_int | apply E_nam | apply E_bi | apply E_met | apply E_call | apply k_blt | apply E_subB | apply Es_nil | apply Es_cons | apply T_cmp | apply S_asg | apply S_ite | apply S_exp | apply Ss_1I | apply Ss_nx | apply Ss_nil | apply cT | apply cF | (apply o_addE; assumption) | (apply o_modE; assumption) | apply o_div | apply o_mod | apply o_cat | apply o_repN | apply c_eq | apply c_gt | apply x_lst | apply b_chrN | apply m_app) | (apply E_str; assumption) | (with_reducible first | exact g_chr) | (apply n_loc; kernel_rfl!; kernel_rfl!) | (apply n_glo; kernel_rfl!; kernel_rfl!) | (apply pkS; kernel_rfl!) | (apply pkR; kernel_rfl!) | kernel_rfl!)
  | false =>
    rw [hf] at a3
    cases hc : decide (0 < (r.cnt : Int)) with
    | true =>
      have hc' : 0 < r.cnt := by have := of_decide_eq_true hc; exact ar172 b1 Ld Ld1 this
      have l0 : lit [r.mark].length = true := rfl
      have l1 : lit (repS [46] r.cnt).length = true := L _ (ar173 b1 Ld Ld1 hc')
      have l1b : lit (repS [46] (r.cnt + 1)).length = true := L _ (ar174 b1 Ld Ld1 hc')
      have l2 : lit (repS [46] r.cnt ++ [r.mark]).length = true := L _ (by simp only [List.length_append, List.length_cons, List.length_nil]; exact ar175 b1 Ld Ld1 hc')
      have l3 : lit r.sp.length = true := L _ (ar168 b3)
      have l4 : lit W.length = true := L _ (ar169 bW)
      have l5 : lit (repS [46] r.cnt ++ [r.mark] ++ r.sp).length = true := L _ (by simp only [List.length_append, List.length_cons, List.length_nil]; exact ar176 b1 b3 Ld Ld1 hc')
      have l6 : lit (W ++ (repS [46] r.cnt ++ [r.mark] ++ r.sp)).length = true := L _ (by simp only [List.length_append, List.length_cons, List.length_nil]; exact ar177 b1 b3 bW Ld Ld1 hc')
      have l7 : lit r.en.length = true := L _ (ar168 b5)
      have l8 : lit S.length = true := L _ (ar169 bS)
      have l9 : lit (S ++ ([46] ++ (repS [46] r.cnt ++ [r.mark] ++ r.sp))).length = true := L _ (by simp only [List.length_append, List.length_cons, List.length_nil]; exact ar178 b1 b3 bS Ld Ld1 hc')
      have l9b : lit ([46] ++ (repS [46] r.cnt ++ [r.mark] ++ r.sp)).length = true := L _ (by simp only [List.length_append, List.length_cons, List.length_nil]; exact ar179 b1 b3 Ld Ld1 hc')
      have l10 : lit r.mn.length = true := L _ (ar168 b4)
      have hl : r.line = repS [46] r.cnt ++ [r.mark] ++ r.sp := by simp [Row.line, hf, hc', dots]
      have ho : r.loud = [46] ++ (repS [46] r.cnt ++ [r.mark] ++ r.sp) := by simp [Row.loud, Row.line, Row.more, hf, hc', dots]
      have hh : r.heard = repS [46] (r.cnt + 1) ++ r.mn := by simp [Row.heard, Row.cnt', Row.more, hf, hc', dots]
      rw [hl, ho, hh]
      refine ⟨putL "sent" (.str (S ++ ([46] ++ (repS [46] r.cnt ++ [r.mark] ++ r.sp)) ++ [13, 10])) (putL "written" (.str (W ++ (repS [46] r.cnt ++ [r.mark] ++ r.sp) ++ r.en)) (putL "count" (.int ((r.cnt + 1 : Nat) : Int)) (putL "loud" (.str ([46] ++ (repS [46] r.cnt ++ [r.mark] ++ r.sp))) (putL "loud" (.str (repS [46] r.cnt ++ [r.mark] ++ r.sp)) (putL "line" (.str (repS [46] r.cnt ++ [r.mark] ++ r.sp)) (putL "letter" (.str r.sp) (putL "mark" (.str [r.mark]) (putL "count" (.int r.cnt) loc)))))))), ?_, ?_, ?_, ?_, ?_, ?_, ?_⟩
      repeat' (first | (with_reducible (show _ = _; assumption)) | (with_reducible (show some _ = some _; rfl)) | (with_reducible first | apply E_int | apply E_nam | apply E_bi | apply E_met | apply E_call | apply k_blt | apply E_subB | apply Es_nil | apply Es_cons | apply T_cmp | apply S_asg | apply S_ite | apply S_exp | apply Ss_1I | apply Ss_nx | apply Ss_nil | apply cT | apply cF | (apply o_addE; assumption) | (apply o_modE; assumption) | apply o_div | apply o_mod | apply o_cat | apply o_repN | apply c_eq | apply c_gt | apply x_lst | apply b_chrN | apply m_app) | (apply E_str; assumption) | (with_reducible first | exact g_chr) | (apply n_loc; kernel_rfl!; kernel_rfl!) | (apply n_glo; kernel_rfl!; kernel_rfl!) | (apply pkS; kernel_rfl!) | (apply pkR; kernel_rfl!) | kernel_rfl!)
    | false =>
      have hc' : ¬ 0 < r.cnt := by have := of_decide_eq_false hc; exact ar180 b1 Ld Ld1 this
      have l0 : lit [r.mark].length = true := rfl
      have l1 : lit (repS [46] r.cnt).length = true := L _ (ar181 b1 Ld Ld1 hc')
      have l1b : lit (repS [46] (r.cnt + 1)).length = true := L _ (ar182 b1 Ld Ld1 hc')
      have l2 : lit (repS [46] r.cnt ++ [r.mark]).length = true := L _ (by simp only [List.length_append, List.length_cons, List.length_nil]; exact ar183 b1 Ld Ld1 hc')
      have l3 : lit r.sp.length = true := L _ (ar168 b3)
      have l4 : lit W.length = true := L _ (ar169 bW)
      have l5 : lit (repS [46] r.cnt ++ [r.mark] ++ r.sp).length = true := L _ (by simp only [List.length_append, List.length_cons, List.length_nil]; exact ar184 b1 b3 Ld Ld1 hc')
      have l6 : lit (W ++ (repS [46] r.cnt ++ [r.mark] ++ r.sp)).length = true := L _ (by simp only [List.length_append, List.length_cons, List.length_nil]; exact ar185 b1 b3 bW Ld Ld1 hc')
      have l7 : lit r.en.length = true := L _ (ar168 b5)
      have l8 : lit S.length = true := L _ (ar169 bS)
      have l9 : lit (S ++ (repS [46] r.cnt ++ [r.mark] ++ r.sp)).length = true := L _ (by simp only [List.length_append, List.length_cons, List.length_nil]; exact ar185 b1 b3 bS Ld Ld1 hc')
      have l9b : lit (repS [46] r.cnt ++ [r.mark] ++ r.sp).length = true := L _ (by simp only [List.length_append, List.length_cons, List.length_nil]; exact ar184 b1 b3 Ld Ld1 hc')
      have l10 : lit r.mn.length = true := L _ (ar168 b4)
      have hl : r.line = repS [46] r.cnt ++ [r.mark] ++ r.sp := by simp [Row.line, hf, hc', dots]
      have ho : r.loud = repS [46] r.cnt ++ [r.mark] ++ r.sp := by simp [Row.loud, Row.line, Row.more, hf, hc', dots]
      have hh : r.heard = repS [46] r.cnt ++ r.mn := by simp [Row.heard, Row.cnt', Row.more, hf, hc', dots]
      rw [hl, ho, hh]
      refine ⟨putL "sent" (.str (S ++ (repS [46] r.cnt ++ [r.mark] ++ r.sp) ++ [13, 10])) (putL "written" (.str (W ++ (repS [46] r.cnt ++ [r.mark] ++ r.sp) ++ r.en)) (putL "loud" (.str (repS [46] r.cnt ++ [r.mark] ++ r.sp)) (putL "line" (.str (repS [46] r.cnt ++ [r.mark] ++ r.sp)) (putL "letter" (.str r.sp) (putL "mark" (.str [r.mark]) (putL "count" (.int r.cnt) loc)))))), ?_, ?_, ?_, ?_, ?_, ?_, ?_⟩
      repeat' (first | (with_reducible (show _ = _; assumption)) | (with_reducible (show some _ = some _; rfl)) | (with_reducible first | apply E_int | apply E_nam | apply E_bi | apply E_met | apply E_call | apply k_blt | apply E_subB | apply Es_nil | apply Es_cons | apply T_cmp | apply S_asg | apply S_ite | apply S_exp | apply Ss_1I | apply Ss_nx | apply Ss_nil | apply cT | apply cF | (apply o_addE; assumption) | (apply o_modE; assumption) | apply o_div | apply o_mod | apply o_cat | apply o_repN | apply c_eq | apply c_gt | apply x_lst | apply b_chrN | apply m_app) | (apply E_str; assumption) | (with_reducible first | exact g_chr) | (apply n_loc; kernel_rfl!; kernel_rfl!) | (apply n_glo; kernel_rfl!; kernel_rfl!) | (apply pkS; kernel_rfl!) | (apply pkR; kernel_rfl!) | kernel_rfl!)
end Mine

namespace Mine
noncomputable def spellL : List (List Nat) := [[115], [83], [383], [119826], [116], [84], [119827], [119879], [64261], [64262]]
noncomputable def meantL : List (List Nat) := [[115], [115], [115], [115], [116], [116], [116], [116], [115, 116], [115, 116]]
noncomputable def endsL : List (List Nat) := [[10], [13], [13, 10]]
structure RowOf (v : Int) (r : Row) : Prop where
  a1 : v.fmod 3 = r.cnt
  a2 : 65529 + ((v.fdiv 180).fmod 5) = r.mark
  a3 : ((v.fdiv 3).fmod 2 == 1) = r.first
  a4 : spellL[((v.fdiv 6).fmod 10).toNat]? = some r.sp
  a5 : meantL[((v.fdiv 6).fmod 10).toNat]? = some r.mn
  a6 : endsL[((v.fdiv 60).fmod 3).toNat]? = some r.en
  b1 : r.cnt ≤ 2
  b2 : r.mark ≤ 65533
  b3 : r.sp.length ≤ 2
  b4 : r.mn.length ≤ 2
  b5 : r.en.length ≤ 2
  bv : 0 ≤ v
noncomputable def rowOf (v : Int) : Row := ⟨(v.fmod 3).toNat, (65529 + ((v.fdiv 180).fmod 5)).toNat, (spellL[((v.fdiv 6).fmod 10).toNat]?).getD [], (meantL[((v.fdiv 6).fmod 10).toNat]?).getD [], (v.fdiv 3).fmod 2 == 1, (endsL[((v.fdiv 60).fmod 3).toNat]?).getD []⟩
theorem getD_ex {l : List (List Nat)} {n : Nat} (h : n < l.length) (hl : ∀ x ∈ l, x.length ≤ 2) : l[n]? = some ((l[n]?).getD []) ∧ ((l[n]?).getD []).length ≤ 2 := by
  rw [List.getElem?_eq_getElem h]
  exact ⟨rfl, hl _ (List.getElem_mem h)⟩
theorem rowOf_ok (v : Int) (hv : 0 ≤ v) : RowOf v (rowOf v) := by
  have m3 := Int.fmod_nonneg_of_pos v (b := 3) (by decide)
  have n3 := Int.fmod_lt_of_pos v (b := 3) (by decide)
  have m5 := Int.fmod_nonneg_of_pos (v.fdiv 180) (b := 5) (by decide)
  have n5 := Int.fmod_lt_of_pos (v.fdiv 180) (b := 5) (by decide)
  have m10 := Int.fmod_nonneg_of_pos (v.fdiv 6) (b := 10) (by decide)
  have n10 := Int.fmod_lt_of_pos (v.fdiv 6) (b := 10) (by decide)
  have m6 := Int.fmod_nonneg_of_pos (v.fdiv 60) (b := 3) (by decide)
  have n6 := Int.fmod_lt_of_pos (v.fdiv 60) (b := 3) (by decide)
  have s1 := getD_ex (l := spellL) (n := ((v.fdiv 6).fmod 10).toNat) (by show _ < 10; exact ar119 m10 n10) (by decide)
  have s2 := getD_ex (l := meantL) (n := ((v.fdiv 6).fmod 10).toNat) (by show _ < 10; exact ar119 m10 n10) (by decide)
  have s3 := getD_ex (l := endsL) (n := ((v.fdiv 60).fmod 3).toNat) (by show _ < 3; exact ar120 m6 n6) (by decide)
  exact ⟨(Int.toNat_of_nonneg m3).symm, (Int.toNat_of_nonneg (ar121 m5 n5)).symm, rfl, s1.1, s2.1, s3.1, by show (v.fmod 3).toNat ≤ 2; exact ar122 m3 n3, by show (65529 + ((v.fdiv 180).fmod 5)).toNat ≤ 65533; exact ar123 m5 n5, s1.2, s2.2, s3.2, hv⟩
noncomputable def wrOf (r : Row) : List Nat := r.line ++ r.en
noncomputable def seOf (r : Row) : List Nat := r.loud ++ [13, 10]
theorem dots_len (n : Nat) : (dots n).length = n := by unfold dots; rw [repS_length]; simp
theorem line_len {v r} (h : RowOf v r) : r.line.length ≤ 5 := by
  have := h.b1; have := h.b3
  unfold Row.line
  cases r.first <;> simp only [cond_true, cond_false, List.length_cons, List.length_append, dots_len] <;> omega
theorem loud_len {v r} (h : RowOf v r) : r.loud.length ≤ 6 := by
  have := line_len h
  unfold Row.loud
  cases r.more <;> simp only [cond_true, cond_false, List.length_cons] <;> omega
theorem map_get {l : List (List Nat)} {n : Nat} {x : List Nat} (h : l[n]? = some x) : (l.map V.str)[n]? = some (.str x) := by rw [List.getElem?_map, h]; rfl
theorem loop191 (k : Nat) (j si mi ei hi : Nat) (hi0 : (hi == 0) = false) (hj : j ≠ hi) (hsi : si ≠ hi) (hmi : mi ≠ hi) (hei : ei ≠ hi) (D : List V) : ∀ (vs : List Int) (i n : Nat) (loc : Loc) (mem : Mem) (hd : List V) (W S : List Nat),
    vs.length + 20 ≤ n → D.drop i = vs.map .int → (∀ v ∈ vs, 0 ≤ v) → mem[j]? = some D → mem[si]? = some (spellL.map .str) → mem[mi]? = some (meantL.map .str) → mem[ei]? = some (endsL.map .str) → mem[hi]? = some hd → hd.length + vs.length ≤ 100 →
    W.length + 10 * vs.length ≤ 400 → S.length + 10 * vs.length ≤ 400 →
    lkb "spelled" loc = some (.list si) → lkb "meant" loc = some (.list mi) → lkb "ends" loc = some (.list ei) → lkb "heard" loc = some (.list hi) → lkb "written" loc = some (.str W) → lkb "sent" loc = some (.str S) →
    ∃ loc', (run ⟨(default : Heap), globT, orc0 k⟩ n).F (fdScope (st 25)) "v" (.lst j i) mailBody loc mem = some (.next, loc', mem.set hi (hd ++ vs.map fun v => .str (rowOf v).heard)) ∧
      lkb "heard" loc' = some (.list hi) ∧ lkb "written" loc' = some (.str (W ++ (vs.map fun v => wrOf (rowOf v)).flatten)) ∧ lkb "sent" loc' = some (.str (S ++ (vs.map fun v => seOf (rowOf v)).flatten)) := by
  intro vs
  induction vs with
  | nil =>
    intro i n loc mem hd W S hn hD hv mj m1 m2 m3 m4 hl bW bS h2 h3 h4 h5 h6 h7
    obtain ⟨n, rfl⟩ : ∃ m, n = m + 1 := ⟨n - 1, ar124 hn⟩
    refine ⟨loc, ?_, h5, by simpa using h6, by simpa using h7⟩
    have e : mem.set hi (hd ++ [].map fun v => V.str (rowOf v).heard) = mem := by rw [List.map_nil, List.append_nil]; exact set_id m4
    rw [e]
    show stepF _ _ _ _ _ _ _ = _
    have e2 : D[i]? = none := by
      rw [List.getElem?_eq_none_iff]
      have := congrArg List.length hD
      rw [List.length_drop] at this
      simp only [List.map_nil, List.length_nil] at this
      exact ar30 this
    unfold stepF
    rw [nextW, mj, Option.map_some, e2]
    rfl
  | cons v vs ih =>
    intro i n loc mem hd W S hn hD hv mj m1 m2 m3 m4 hl bW bS h2 h3 h4 h5 h6 h7
    obtain ⟨n, rfl⟩ : ∃ m, n = m + 17 := ⟨n - 17, by simp only [List.length_cons] at hn; exact ar125 hn⟩
    simp only [List.length_cons] at hn hl bW bS
    have R := rowOf_ok v (hv v (.head _))
    have e2 : D[i]? = some (.int v) := by
      have := congrArg (fun l => l[0]?) hD
      simp only [List.getElem?_drop, Nat.add_zero, List.map_cons, List.getElem?_cons_zero] at this
      exact this
    have e3 : D.drop (i + 1) = vs.map .int := by
      have := congrArg (List.drop 1) hD
      rw [List.drop_drop, List.map_cons] at this
      exact this
    refine ex1_7 (turn191 k n (putL "v" (.int v) loc) mem v (rowOf v) si mi ei hi _ _ _ hd W S (by repeat' first | with_reducible assumption | (apply pkS; kernel_rfl!) | (apply pkR; kernel_rfl!)) (by repeat' first | with_reducible assumption | (apply pkS; kernel_rfl!) | (apply pkR; kernel_rfl!)) (by repeat' first | with_reducible assumption | (apply pkS; kernel_rfl!) | (apply pkR; kernel_rfl!)) (by repeat' first | with_reducible assumption | (apply pkS; kernel_rfl!) | (apply pkR; kernel_rfl!)) (by repeat' first | with_reducible assumption | (apply pkS; kernel_rfl!) | (apply pkR; kernel_rfl!)) (by repeat' first | with_reducible assumption | (apply pkS; kernel_rfl!) | (apply pkR; kernel_rfl!)) (by repeat' first | with_reducible assumption | (apply pkS; kernel_rfl!) | (apply pkR; kernel_rfl!))
      m1 m2 m3 m4 hi0 (by unfold lit; exact decide_eq_true (ar126 hl)) R.a1 R.a2 R.a3 (map_get R.a4) (map_get R.a5) (map_get R.a6) R.b1 R.b2 R.b3 R.b4 R.b5 (ar127 hl bW) (ar127 hl bS) R.bv) fun loc1 t1 t2 t3 t4 t5 t6 t7 => ?_
    have hlt : hi < mem.length := (List.getElem?_eq_some_iff.mp m4).1
    have ll := line_len R
    have ll2 := loud_len R
    have ll3 := R.b5
    obtain ⟨loc', u1, u2, u3, u4⟩ := ih (i + 1) (n + 16) loc1 (mem.set hi (hd ++ [.str (rowOf v).heard])) (hd ++ [.str (rowOf v).heard]) (W ++ (rowOf v).line ++ (rowOf v).en) (S ++ (rowOf v).loud ++ [13, 10]) (ar128 hn) e3 (fun x hx => hv x (.tail _ hx))
      (by rw [List.getElem?_set_ne (Ne.symm hj)]; exact mj) (by rw [List.getElem?_set_ne (Ne.symm hsi)]; exact m1) (by rw [List.getElem?_set_ne (Ne.symm hmi)]; exact m2) (by rw [List.getElem?_set_ne (Ne.symm hei)]; exact m3) (by rw [List.getElem?_set_self hlt])
      (by simp only [List.length_append, List.length_cons, List.length_nil]; exact ar129 hl) (by simp only [List.length_append]; exact ar130 bW ll ll3) (by simp only [List.length_append, List.length_cons, List.length_nil]; exact ar131 bS ll2) t2 t3 t4 t5 t6 t7
    refine ⟨loc', ?_, u2, by rw [u3]; simp [wrOf], by rw [u4]; simp [seOf]⟩
    show stepF (run _ (n + 16)) _ _ _ _ _ _ = _
    unfold stepF
    rw [nextW, mj, Option.map_some, e2, Option.bind_some]
    show cond (kindOk (fdScope (st 25)) "v") _ none = _
    rw [show kindOk (fdScope (st 25)) "v" = true by kernel_rfl!, cond_true, t1, Option.bind_some]
    show (run _ (n + 16)).F _ _ _ _ _ _ = _
    rw [u1, set_same, List.append_assoc]
    rfl
end Mine

namespace Mine
theorem m0 (b : Base) (n : Nat) (loc : Loc) (mem : Mem) : (run b (n + 16)).S (fdScope (st 25)) (sx 25 0) loc mem = some (.next, putL "spelled" (.list mem.length) loc, mem ++ [spellL.map .str]) := by kernel_rfl!
theorem m1 (b : Base) (n : Nat) (loc : Loc) (mem : Mem) : (run b (n + 16)).S (fdScope (st 25)) (sx 25 1) loc mem = some (.next, putL "meant" (.list mem.length) loc, mem ++ [meantL.map .str]) := by kernel_rfl!
theorem m2 (b : Base) (n : Nat) (loc : Loc) (mem : Mem) : (run b (n + 16)).S (fdScope (st 25)) (sx 25 2) loc mem = some (.next, putL "ends" (.list mem.length) loc, mem ++ [endsL.map .str]) := by kernel_rfl!
theorem m3 (b : Base) (n : Nat) (loc : Loc) (mem : Mem) : (run b (n + 16)).S (fdScope (st 25)) (sx 25 3) loc mem = some (.next, putL "written" (.str []) loc, mem) := by kernel_rfl!
theorem m4 (b : Base) (n : Nat) (loc : Loc) (mem : Mem) : (run b (n + 16)).S (fdScope (st 25)) (sx 25 4) loc mem = some (.next, putL "sent" (.str []) loc, mem) := by kernel_rfl!
theorem m5 (b : Base) (n : Nat) (loc : Loc) (mem : Mem) : (run b (n + 16)).S (fdScope (st 25)) (sx 25 5) loc mem = some (.next, putL "heard" (.list mem.length) loc, mem ++ [[]]) := by kernel_rfl!
theorem ss_next {b n sc s ss loc mem l1 m1} (h : (run b n).S sc s loc mem = some (.next, l1, m1)) : (run b (n + 1)).Ss sc (s :: ss) loc mem = (run b n).Ss sc ss l1 m1 := by
  show ((run b n).S sc s loc mem).bind _ = _
  rw [h]; rfl
theorem ss_ret {b n sc s ss loc mem v l1 m1} (h : (run b n).S sc s loc mem = some (.ret v, l1, m1)) : (run b (n + 1)).Ss sc (s :: ss) loc mem = some (.ret v, l1, m1) := by
  show ((run b n).S sc s loc mem).bind _ = _
  rw [h]; rfl
theorem mget_a (m : Mem) (x y z u : List V) : (m ++ [x] ++ [y] ++ [z] ++ [u])[m.length]? = some x := by simp
theorem mget_b (m : Mem) (x y z u : List V) : (m ++ [x] ++ [y] ++ [z] ++ [u])[(m ++ [x]).length]? = some y := by simp
theorem mget_c (m : Mem) (x y z u : List V) : (m ++ [x] ++ [y] ++ [z] ++ [u])[(m ++ [x] ++ [y]).length]? = some z := by simp
theorem mget_old {m : Mem} {j : Nat} {x : List V} (h : m[j]? = some x) (l : Mem) : (m ++ l)[j]? = some x := by
  rw [List.getElem?_append_left (List.getElem?_eq_some_iff.mp h).1]; exact h
theorem mail_ok (k j : Nat) (vs : List Int) (mem : Mem) (hj : mem[j]? = some (vs.map .int)) (hv : ∀ v ∈ vs, 0 ≤ v) (hl : vs.length ≤ 8) :
    orc0 (k + 1) 191 [.list j] mem = some (.tup [.str (vs.map fun v => wrOf (rowOf v)).flatten, .str (vs.map fun v => seOf (rowOf v)).flatten, .list (mem ++ [spellL.map V.str] ++ [meantL.map V.str] ++ [endsL.map V.str]).length],
      mem ++ [spellL.map V.str] ++ [meantL.map V.str] ++ [endsL.map V.str] ++ [vs.map fun v => V.str (rowOf v).heard]) := by
  have hB : fdBody (st 25) = [sx 25 0, sx 25 1, sx 25 2, sx 25 3, sx 25 4, sx 25 5, .For (.Name (Str.ofString "v") _) (.Name (Str.ofString "drawn") _) mailBody [] _, .Return (some (.Tuple [.Name (Str.ofString "written") _, .Name (Str.ofString "sent") _, .Name (Str.ofString "heard") _] _ _)) _] := rfl
  have hjl : j < mem.length := (List.getElem?_eq_some_iff.mp hj).1
  have hh : ((mem ++ [spellL.map V.str] ++ [meantL.map V.str] ++ [endsL.map V.str]).length == 0) = false := by simp
  refine ex1_4 (loop191 k j mem.length (mem ++ [spellL.map V.str]).length (mem ++ [spellL.map V.str] ++ [meantL.map V.str]).length (mem ++ [spellL.map V.str] ++ [meantL.map V.str] ++ [endsL.map V.str]).length hh (by simp; exact ar531 hjl) (by simp) (by simp) (by simp) (vs.map .int) vs 0 292
    (putL "heard" (.list (mem ++ [spellL.map V.str] ++ [meantL.map V.str] ++ [endsL.map V.str]).length) (putL "sent" (.str []) (putL "written" (.str []) (putL "ends" (.list (mem ++ [spellL.map V.str] ++ [meantL.map V.str]).length) (putL "meant" (.list (mem ++ [spellL.map V.str]).length) (putL "spelled" (.list mem.length) [("drawn", .list j)]))))))
    (mem ++ [spellL.map V.str] ++ [meantL.map V.str] ++ [endsL.map V.str] ++ [[]]) [] [] [] (ar532 hl) rfl hv (by rw [List.append_assoc, List.append_assoc, List.append_assoc]; exact mget_old hj _) (mget_a _ _ _ _ _) (mget_b _ _ _ _ _) (mget_c _ _ _ _ _) (mget_last _ _) (by simp only [List.length_nil]; exact ar533 hl) (by simp only [List.length_nil]; exact ar534 hl) (by simp only [List.length_nil]; exact ar534 hl)
    (by repeat' first | with_reducible assumption | (apply pkS; kernel_rfl!) | (apply pkR; kernel_rfl!) | (apply lkS; kernel_rfl!) | (apply lkR; kernel_rfl!)) (by repeat' first | with_reducible assumption | (apply pkS; kernel_rfl!) | (apply pkR; kernel_rfl!) | (apply lkS; kernel_rfl!) | (apply lkR; kernel_rfl!)) (by repeat' first | with_reducible assumption | (apply pkS; kernel_rfl!) | (apply pkR; kernel_rfl!) | (apply lkS; kernel_rfl!) | (apply lkR; kernel_rfl!)) (by repeat' first | with_reducible assumption | (apply pkS; kernel_rfl!) | (apply pkR; kernel_rfl!) | (apply lkS; kernel_rfl!) | (apply lkR; kernel_rfl!)) (by repeat' first | with_reducible assumption | (apply pkS; kernel_rfl!) | (apply pkR; kernel_rfl!) | (apply lkS; kernel_rfl!) | (apply lkR; kernel_rfl!)) (by repeat' first | with_reducible assumption | (apply pkS; kernel_rfl!) | (apply pkR; kernel_rfl!) | (apply lkS; kernel_rfl!) | (apply lkR; kernel_rfl!))) fun loc' u1 u2 u3 u4 => ?_
  rw [mset_last, List.nil_append] at u1
  change (run ⟨(default : Heap), globT, orcN raw0 k⟩ 292).F _ _ _ _ _ _ = _ at u1
  refine (orcN_fn (raw := raw0) (i := 25) (loc := [("drawn", .list j)]) rfl (by kernel_rfl!) (by kernel_rfl!)).trans ?_
  rw [hB, ss_next (m0 _ 283 _ _), ss_next (m1 _ 282 _ _), ss_next (m2 _ 281 _ _), ss_next (m3 _ 280 _ _), ss_next (m4 _ 279 _ _), ss_next (m5 _ 278 _ _)]
  clear hB
  simp only [List.nil_append] at u2 u3 u4
  apply mSr
  repeat' (first | (with_reducible (show _ = _; assumption)) | (with_reducible (show some _ = some _; rfl)) | (with_reducible first | apply E_nam | apply E_tup | apply Es_nil | apply Es_cons | apply S_fo | apply I_vaN | apply S_ret | apply Ss_rR | apply Ss_nx) | (apply n_loc; kernel_rfl!; kernel_rfl!) | (apply pkS; kernel_rfl!) | (apply pkR; kernel_rfl!) | (apply lkS; kernel_rfl!) | kernel_rfl!)
end Mine

namespace Mine
structure RowGood (r : Row) : Prop where
  mrk : r.mark ∈ signs
  sp : ∃ c, r.sp = [c] ∧ lkL c letters = some r.mn ∧ c ≠ 10 ∧ c ≠ 13 ∧ c ≠ 46
  en : r.en = [10] ∨ r.en = [13] ∨ r.en = [13, 10]
  mn : r.mn = [115] ∨ r.mn = [116] ∨ r.mn = [115, 116]
  cnt : r.cnt ≤ 2
theorem table_ok : (List.range 10).all (fun i => match spellL[i]?, meantL[i]? with
    | some [c], some m => (lkL c letters == some m) && (c != 10) && (c != 13) && (c != 46) && (m == [115] || m == [116] || m == [115, 116])
    | _, _ => false) = true := by decide +kernel
theorem rowGood {v : Int} {r : Row} (h : RowOf v r) : RowGood r := by
  have m5 := Int.fmod_nonneg_of_pos (v.fdiv 180) (b := 5) (by decide)
  have n5 := Int.fmod_lt_of_pos (v.fdiv 180) (b := 5) (by decide)
  have m10 := Int.fmod_nonneg_of_pos (v.fdiv 6) (b := 10) (by decide)
  have n10 := Int.fmod_lt_of_pos (v.fdiv 6) (b := 10) (by decide)
  have m6 := Int.fmod_nonneg_of_pos (v.fdiv 60) (b := 3) (by decide)
  have n6 := Int.fmod_lt_of_pos (v.fdiv 60) (b := 3) (by decide)
  have t := List.all_eq_true.mp table_ok ((v.fdiv 6).fmod 10).toNat (List.mem_range.mpr (ar119 m10 n10))
  rw [h.a4, h.a5] at t
  split at t
  · rename_i c m e1 e2
    replace e1 : r.sp = [c] := by injection e1
    replace e2 : r.mn = m := by injection e2
    simp only [Bool.and_eq_true, bne_iff_ne, Bool.or_eq_true, beq_iff_eq] at t
    refine ⟨?_, ⟨c, e1, by rw [e2]; exact t.1.1.1.1, t.1.1.1.2, t.1.1.2, t.1.2⟩, ?_, by rw [e2]; exact or_assoc.mp t.2, h.b1⟩
    · have a2 := h.a2
      have : r.mark = 65529 ∨ r.mark = 65530 ∨ r.mark = 65531 ∨ r.mark = 65532 ∨ r.mark = 65533 := ar292 m5 n5 a2
      rcases this with e | e | e | e | e <;> rw [e] <;> decide
    · have a6 := h.a6
      have : ((v.fdiv 60).fmod 3).toNat = 0 ∨ ((v.fdiv 60).fmod 3).toNat = 1 ∨ ((v.fdiv 60).fmod 3).toNat = 2 := ar293 m6 n6
      rcases this with e | e | e <;> rw [e] at a6 <;> injection a6 with a6
      · exact .inl a6.symm
      · exact .inr (.inl a6.symm)
      · exact .inr (.inr a6.symm)
  · cases t
noncomputable def okHead : List Nat → Prop
  | [] => True
  | c :: _ => c ≠ 10
theorem qdA_head {c : Nat} (l : List Nat) (h : c ≠ 10) (sk : Bool) : qdA sk (c :: l) = qdA false (c :: l) := by
  rw [qdA, qdA, beq_eq_false_iff_ne.mpr h, cond_false, cond_false]
theorem qd1_app : ∀ (l r : List Nat), (∀ c ∈ l, c ≠ 10 ∧ c ≠ 13) → qd1 (l ++ r) = l ++ qd1 r
  | [], r, _ => rfl
  | c :: l, r, h => by
    have hc := h c (.head _)
    have ih := qd1_app l r fun d hd => h d (.tail _ hd)
    unfold qd1 at ih ⊢
    rw [List.cons_append, qdA, beq_eq_false_iff_ne.mpr hc.1, cond_false, beq_eq_false_iff_ne.mpr hc.2, cond_false, ih]
    rfl
theorem qdA_ok (r : List Nat) (hr : okHead r) : qdA true r = qdA false r := by
  induction r using List.casesOn with
  | nil => rfl
  | cons c r => exact qdA_head r hr true
theorem qd1_end (en r : List Nat) (he : en = [10] ∨ en = [13] ∨ en = [13, 10]) (hr : okHead r) : qd1 (en ++ r) = 13 :: 10 :: qd1 r := by
  unfold qd1
  rcases he with rfl | rfl | rfl
  · rfl
  · show 13 :: 10 :: qdA true r = _
    rw [qdA_ok r hr]
  · rfl
theorem qd2_app : ∀ (l r : List Nat), (∀ c ∈ l, c ≠ 10) → qd2 false (l ++ r) = l ++ qd2 false r
  | [], r, _ => rfl
  | c :: l, r, h => by
    rw [List.cons_append, qd2, Bool.false_and, cond_false, beq_eq_false_iff_ne.mpr (h c (.head _)), qd2_app l r fun d hd => h d (.tail _ hd)]
    rfl
theorem dots_mem : ∀ {n c : Nat}, c ∈ dots n → c = 46
  | 0, c, h => by cases h
  | n + 1, c, h => by
    replace h : c ∈ [46] ++ dots n := h
    rcases List.mem_append.mp h with h | h
    · exact List.mem_singleton.mp h
    · exact dots_mem h
theorem sign_ne {c : Nat} (h : c ∈ signs) : c ≠ 10 ∧ c ≠ 13 ∧ c ≠ 46 := by
  unfold signs at h
  simp only [List.mem_cons, List.not_mem_nil, or_false] at h
  rcases h with rfl | rfl | rfl | rfl | rfl <;> decide
theorem line_mem {r : Row} (g : RowGood r) : ∀ c ∈ r.line, c ≠ 10 ∧ c ≠ 13 := by
  intro c hc
  refine ex1_5 g.sp fun d e _ h1 h2 _ => ?_
  have hm := sign_ne g.mrk
  unfold Row.line at hc
  rw [e] at hc
  cases hf : r.first <;> rw [hf] at hc <;> simp only [cond_true, cond_false, List.mem_cons, List.mem_append, List.not_mem_nil, or_false] at hc
  · rcases hc with hc | rfl | rfl
    · rw [dots_mem hc]; decide
    · exact ⟨hm.1, hm.2.1⟩
    · exact ⟨h1, h2⟩
  · rcases hc with rfl | hc | rfl
    · exact ⟨hm.1, hm.2.1⟩
    · rw [dots_mem hc]; decide
    · exact ⟨h1, h2⟩
theorem line_head {r : Row} (g : RowGood r) (x : List Nat) : okHead (r.line ++ x) := by
  have hm := sign_ne g.mrk
  unfold Row.line
  cases r.first with
  | true => exact hm.1
  | false =>
    rw [cond_false]
    cases h : r.cnt with
    | zero => exact hm.1
    | succ n => show (46 : Nat) ≠ 10; decide
theorem qd2_row {r : Row} (g : RowGood r) (x : List Nat) : qd2 true (r.line ++ 13 :: 10 :: x) = r.loud ++ 13 :: 10 :: qd2 true x := by
  have tail : ∀ l : List Nat, (∀ c ∈ l, c ≠ 10) → qd2 false (l ++ 13 :: 10 :: x) = l ++ 13 :: 10 :: qd2 true x := by
    intro l hl
    rw [qd2_app l _ hl]
    rfl
  have hm := sign_ne g.mrk
  have hl : ∀ c ∈ r.line, c ≠ 10 := fun c hc => (line_mem g c hc).1
  have step : ∀ (c : Nat) (l : List Nat), c ≠ 46 → c ≠ 10 → (∀ d ∈ l, d ≠ 10) → qd2 true (c :: l ++ 13 :: 10 :: x) = c :: l ++ 13 :: 10 :: qd2 true x := by
    intro c l h1 h2 h3
    rw [List.cons_append, qd2, Bool.true_and, beq_eq_false_iff_ne.mpr h1, cond_false, beq_eq_false_iff_ne.mpr h2, tail l h3]
    rfl
  unfold Row.loud Row.more
  unfold Row.line at hl ⊢
  cases hf : r.first with
  | true =>
    rw [hf] at hl
    simp only [Bool.not_true, Bool.false_and, cond_true, cond_false] at hl ⊢
    exact step _ _ hm.2.2 hm.1 fun d hd => hl d (.tail _ hd)
  | false =>
    rw [hf] at hl
    simp only [Bool.not_false, Bool.true_and, cond_false] at hl ⊢
    cases hc : r.cnt with
    | zero =>
      rw [hc] at hl
      exact step _ _ hm.2.2 hm.1 fun d hd => hl d (.tail _ hd)
    | succ n =>
      rw [hc] at hl
      have e : dots (n + 1) = 46 :: dots n := rfl
      rw [e] at hl ⊢
      rw [decide_eq_true (Nat.succ_pos n), cond_true]
      rw [List.cons_append, List.cons_append, qd2]
      show 46 :: 46 :: qd2 false _ = _
      rw [tail (dots n ++ r.mark :: r.sp) fun d hd => hl d (.tail _ hd)]
      rfl
theorem mail_text : ∀ (rs : List Row), (∀ r ∈ rs, RowGood r) → qd2 true (qd1 (rs.map wrOf).flatten) = (rs.map seOf).flatten ∧ okHead (rs.map wrOf).flatten
  | [], _ => ⟨rfl, trivial⟩
  | r :: rs, h => by
    have g := h r (.head _)
    refine ex0_2 (mail_text rs fun r hr => h r (.tail _ hr)) fun h1 h2 => ?_
    rw [List.map_cons, List.flatten_cons, List.map_cons, List.flatten_cons]
    constructor
    · rw [wrOf, List.append_assoc, qd1_app _ _ (line_mem g), qd1_end _ _ g.en h2, qd2_row g, h1, seOf, List.append_assoc]
      rfl
    · rw [wrOf, List.append_assoc]; exact line_head g _
end Mine

namespace Mine
theorem sq_nonneg (x : Int) : 0 ≤ x * x := by
  rcases Int.le_total 0 x with h | h
  · exact Int.mul_nonneg h h
  · have := Int.mul_nonneg (a := -x) (b := -x) (ar396 h) (ar396 h)
    rwa [Int.neg_mul_neg] at this
theorem sq_pos {x : Int} (h : x ≠ 0) : 1 ≤ x * x := by
  rcases Int.lt_trichotomy x 0 with h5 | h5 | h5
  · have := Int.mul_pos (a := -x) (b := -x) (ar397 h5) (ar397 h5)
    rw [Int.neg_mul_neg] at this; exact ar32 this
  · exact absurd h5 h
  · have := Int.mul_pos h5 h5; exact ar32 this
theorem unit_of {x y : Int} (h : x * y = 1) : (x = 1 ∧ y = 1) ∨ (x = -1 ∧ y = -1) := by
  have h1 : x.natAbs * y.natAbs = 1 := by rw [← Int.natAbs_mul, h]; rfl
  have h2 := Nat.eq_one_of_mul_eq_one_right h1
  have h3 := Nat.eq_one_of_mul_eq_one_left h1
  have hx : x = 1 ∨ x = -1 := ar398 h2
  have hy : y = 1 ∨ y = -1 := ar399 h3 hx
  rcases hx with rfl | rfl <;> rcases hy with rfl | rfl <;> omega
noncomputable def Eqv (fa fb fc A B C : Int) : Prop := ∃ x x' y y' : Int, x * y' - x' * y = 1 ∧ A = fa * x * x + fb * x * y + fc * y * y ∧ C = fa * x' * x' + fb * x' * y' + fc * y' * y' ∧ B = 2 * fa * x * x' + fb * (x * y' + x' * y) + 2 * fc * y * y'
theorem Eqv.refl (a b c : Int) : Eqv a b c a b c := ⟨1, 0, 0, 1, by omega, by grind, by grind, by grind⟩
theorem Eqv.shift {fa fb fc A B C : Int} (q : Int) (h : Eqv fa fb fc A B C) : Eqv fa fb fc A (B + 2 * A * q) (A * q * q + B * q + C) := by
  refine ex4_4 h ?_; (try clear h); intro x x' y y' h1 h2 h3 h4
  exact ⟨x, x * q + x', y, y * q + y', by grind, by grind, by grind, by grind⟩
theorem Eqv.turn {fa fb fc A B C : Int} (h : Eqv fa fb fc A B C) : Eqv fa fb fc C (-B) A := by
  refine ex4_4 h ?_; (try clear h); intro x x' y y' h1 h2 h3 h4
  exact ⟨x', -x, y', -y, by grind, by grind, by grind, by grind⟩
theorem Eqv.move {fa fb fc A B C : Int} (s : Int) (h : Eqv fa fb fc A B C) : Eqv fa fb fc (A * s * s + B * s + C) (-B - 2 * A * s) A := by
  have h1 := (h.shift s).turn
  have e : -(B + 2 * A * s) = -B - 2 * A * s := by grind
  rw [e] at h1
  exact h1
theorem eqv_unique {p fa fb fc A B C : Int} (h : Eqv fa fb fc A B C) (hd : 4 * fa * fc - fb * fb = p) (hD : 4 * A * C - B * B = p) (h0 : 0 < fa) (h1 : 0 < A) (hs : 4 * fa * A < p) (f1 : -fa < fb) (f2 : fb ≤ fa) (F1 : -A < B) (F2 : B ≤ A) : A = fa ∧ B = fb ∧ C = fc := by
  refine ex4_4 h ?_; (try clear h); intro x x' y y' e1 e2 e3 e4
  have hp : 0 < p := by have : 0 < 4 * fa * A := Int.mul_pos (ar400 h0) h1; exact ar401 hD hs this
  have id1 : 4 * fa * A = (2 * fa * x + fb * y) * (2 * fa * x + fb * y) + p * (y * y) := by grind
  have hy : y = 0 := by
    by_cases h5 : y = 0
    · exact h5
    · have h6 : p * 1 ≤ p * (y * y) := Int.mul_le_mul_of_nonneg_left (sq_pos h5) (ar402 hD hp)
      have h7 := sq_nonneg (2 * fa * x + fb * y)
      exact ar403 hD hs id1 h6 h7
  subst hy
  have e1' : x * y' = 1 := ar404 e1
  have hx := unit_of e1'
  have hA : A = fa := by rcases hx with ⟨rfl, rfl⟩ | ⟨rfl, rfl⟩ <;> grind
  have hB : ∃ k : Int, B = fb + 2 * fa * k := ⟨x * x', by grind⟩
  refine ex1_1 hB ?_; (try clear hB); intro k hk
  subst hA
  have hk0 : k = 0 := by
    rcases Int.lt_trichotomy k 0 with h5 | h5 | h5
    · have : 2 * A * k ≤ 2 * A * (-1) := Int.mul_le_mul_of_nonneg_left (by omega) (by omega)
      omega
    · exact h5
    · have : 2 * A * 1 ≤ 2 * A * k := Int.mul_le_mul_of_nonneg_left (by omega) (by omega)
      omega
  subst hk0
  have hB : B = fb := by omega
  subst hB
  refine ⟨rfl, rfl, ?_⟩
  have : 4 * A * (C - fc) = 0 := by rw [Int.mul_sub]; omega
  rcases Int.mul_eq_zero.mp this with h | h <;> omega
noncomputable def led : Nat → Int → Int → Int → Option (Int × Int × Int)
  | 0, _, _, _ => none
  | n + 1, a, b, c =>
    let q := (a - b).fdiv (2 * a)
    let b' := a - (a - b).fmod (2 * a)
    let c' := a * q * q + b * q + c
    if a < c' ∨ (a = c' ∧ 0 ≤ b') then some (a, b', c') else led n c' (-b') a
structure Pos (p a b c : Int) : Prop where
  d : 4 * a * c - b * b = p
  a0 : 0 < a
theorem Pos.c0 {p a b c : Int} (h : Pos p a b c) (hp : 0 < p) : 0 < c := by
  have h1 := h.d
  have h2 := sq_nonneg b
  have h3 := h.a0
  rcases Int.lt_trichotomy c 0 with h5 | h5 | h5
  · have : 4 * a * c ≤ 4 * a * (-1) := Int.mul_le_mul_of_nonneg_left (ar385 h5) (ar405 h3)
    exact ar406 hp h1 h2 h3 this
  · subst h5; omega
  · exact h5
theorem Pos.step {p a b c : Int} (h : Pos p a b c) (hp : 0 < p) : ∃ q b' c', q = (a - b).fdiv (2 * a) ∧ b' = a - (a - b).fmod (2 * a) ∧ c' = a * q * q + b * q + c ∧ b' = b + 2 * a * q ∧ Pos p a b' c' ∧ -a < b' ∧ b' ≤ a ∧ 0 < c' := by
  have h0 := h.a0
  have e1 := Int.mul_fdiv_add_fmod (a - b) (2 * a)
  have e2 := Int.fmod_nonneg_of_pos (a - b) (b := 2 * a) (ar407 h0 e1)
  have e3 := Int.fmod_lt_of_pos (a - b) (b := 2 * a) (ar407 h0 e1)
  generalize (a - b).fdiv (2 * a) = q at *
  generalize (a - b).fmod (2 * a) = r at *
  have hb : a - r = b + 2 * a * q := ar408 e1
  have hP : Pos p a (a - r) (a * q * q + b * q + c) := ⟨by rw [hb]; have := h.d; grind, h0⟩
  exact ⟨q, a - r, a * q * q + b * q + c, rfl, rfl, rfl, hb, hP, ar409 e3 e1, ar410 e2, hP.c0 hp⟩
end Mine

namespace Mine
structure Red (p a b c : Int) : Prop where
  pos : Pos p a b c
  lo : -a < b
  hi : b ≤ a
  le : a < c ∨ (a = c ∧ 0 ≤ b)
noncomputable def Leads (p : Int) (n : Nat) (a b c : Int) : Prop := ∃ A B C, led n a b c = some (A, B, C) ∧ Red p A B C ∧ ∀ fa fb fc, Eqv fa fb fc a b c → Eqv fa fb fc A B C
theorem leads_step {p a b c : Int} (h : Pos p a b c) (hp : 0 < p) (n : Nat) : ∃ b' c', Pos p a b' c' ∧ -a < b' ∧ b' ≤ a ∧ 0 < c' ∧ (∀ fa fb fc, Eqv fa fb fc a b c → Eqv fa fb fc a b' c') ∧
    (((a < c' ∨ (a = c' ∧ 0 ≤ b')) ∧ led (n + 1) a b c = some (a, b', c')) ∨ (¬ (a < c' ∨ (a = c' ∧ 0 ≤ b')) ∧ led (n + 1) a b c = led n c' (-b') a)) := by
  refine ex3_8 (h.step hp) fun q b' c' e1 e2 e3 e4 e5 e6 e7 e8 => ?_
  refine ⟨b', c', e5, e6, e7, e8, fun fa fb fc hq => ?_, ?_⟩
  · rw [e4, e3]; exact hq.shift q
  · have e : led (n + 1) a b c = if a < c' ∨ (a = c' ∧ 0 ≤ b') then some (a, b', c') else led n c' (-b') a := by
      rw [led]; rw [← e1, ← e2, ← e3]
    by_cases hc : a < c' ∨ (a = c' ∧ 0 ≤ b')
    · exact .inl ⟨hc, by rw [e, if_pos hc]⟩
    · exact .inr ⟨hc, by rw [e, if_neg hc]⟩
theorem leads_now {p a b c b' c' : Int} {n : Nat} (h5 : Pos p a b' c') (h6 : -a < b') (h7 : b' ≤ a) (hq : ∀ fa fb fc, Eqv fa fb fc a b c → Eqv fa fb fc a b' c') (hc : a < c' ∨ (a = c' ∧ 0 ≤ b')) (e : led (n + 1) a b c = some (a, b', c')) : Leads p (n + 1) a b c :=
  ⟨a, b', c', e, ⟨h5, h6, h7, hc⟩, hq⟩
theorem leads_next {p a b c b' c' : Int} {n : Nat} (hq : ∀ fa fb fc, Eqv fa fb fc a b c → Eqv fa fb fc a b' c') (e : led (n + 1) a b c = led n c' (-b') a) (ih : Leads p n c' (-b') a) : Leads p (n + 1) a b c := by
  refine ex3_3 ih ?_; (try clear ih); intro A B C h1 h2 h3
  exact ⟨A, B, C, by rw [e, h1], h2, fun fa fb fc h => h3 _ _ _ (hq _ _ _ h).turn⟩
theorem Pos.swap {p a b c : Int} (h : Pos p a b c) (hc : 0 < c) : Pos p c (-b) a := ⟨by have := h.d; grind, hc⟩
theorem leads_small {p : Int} (hp : 0 < p) : ∀ (m n : Nat) (a b c : Int), Pos p a b c → a ≤ m → m + 1 ≤ n → Leads p n a b c := by
  intro m
  induction m with
  | zero => intro n a b c h ha hn; have := h.a0; omega
  | succ m ih =>
    intro n a b c h ha hn
    obtain ⟨n, rfl⟩ : ∃ k, n = k + 1 := ⟨n - 1, ar211 hn⟩
    obtain ⟨b', c', h5, h6, h7, h8, hq, ⟨hc, e⟩ | ⟨hc, e⟩⟩ := leads_step h hp n
    · exact leads_now h5 h6 h7 hq hc e
    · have hP := h5.swap h8
      refine leads_next hq e ?_
      by_cases hlt : c' < a
      · exact ih n c' (-b') a hP (ar212 ha hlt) (ar213 hn)
      · have he : c' = a := ar214 hc hlt
        have hb : b' < 0 := ar215 hc hlt
        subst he
        obtain ⟨n, rfl⟩ : ∃ k, n = k + 1 := ⟨n - 1, ar216 hn⟩
        refine ex2_6 (leads_step hP hp n) fun b2 c2 g5 g6 g7 g8 gq g => ?_
        refine ex3_8 (hP.step hp) fun q b3 c3 f1 f2 f3 f4 f5 f6 f7 f8 => ?_
        have hq0 : q = 0 := by
          have h0 := hP.a0
          rcases Int.lt_trichotomy q 0 with h9 | h9 | h9
          · have : 2 * c' * q ≤ 2 * c' * (-1) := Int.mul_le_mul_of_nonneg_left (ar217 f1 h9) (ar218 h8 f2 f3)
            exact ar219 h6 f2 f3 f4 f6 this
          · exact h9
          · have : 2 * c' * 1 ≤ 2 * c' * q := Int.mul_le_mul_of_nonneg_left (ar220 f1 h9) (ar218 h8 f2 f3)
            exact ar221 hb h6 f2 f3 f4 f7 this
        have hb3 : b3 = -b' := by rw [f4, hq0]; exact ar222
        have hc3 : c3 = c' := by rw [f3, hq0]; grind
        have e9 : led (n + 1) c' (-b') c' = some (c', b3, c3) := by
          rw [led]; rw [← f1, ← f2, ← f3, if_pos (.inr ⟨hc3.symm, ar223 hb f2 f3 f4 hb3 hc3⟩)]
        refine leads_now f5 f6 f7 (fun fa fb fc hh => ?_) (.inr ⟨hc3.symm, ar223 hb f2 f3 f4 hb3 hc3⟩) e9
        rw [hb3, hc3]; exact hh
theorem leads_big {p : Int} (hp : 0 < p) (hp2 : p ≤ 71) : ∀ (k n : Nat) (a b c : Int), Pos p a b c → a ≤ 8 * 2 ^ k → k + 10 ≤ n → Leads p n a b c := by
  intro k
  induction k with
  | zero => intro n a b c h ha hn; exact leads_small hp 8 n a b c h (ar224 ha) (ar225 hn)
  | succ k ih =>
    intro n a b c h ha hn
    by_cases hs : a ≤ 8 * 2 ^ k
    · exact ih n a b c h hs (ar226 hn)
    · obtain ⟨n, rfl⟩ : ∃ k, n = k + 1 := ⟨n - 1, ar227 hn⟩
      obtain ⟨b', c', h5, h6, h7, h8, hq, ⟨hc, e⟩ | ⟨hc, e⟩⟩ := leads_step h hp n
      · exact leads_now h5 h6 h7 hq hc e
      · have hP := h5.swap h8
        refine leads_next hq e (ih n c' (-b') a hP ?_ (ar228 hn))
        have h2k : (0 : Int) < 2 ^ k := Int.pow_pos (by decide)
        have ha9 : 9 ≤ a := by omega
        have hd := h5.d
        have hbb : b' * b' ≤ a * a := by
          have : 0 ≤ (a - b') * (a + b') := Int.mul_nonneg (ar230 h7) (ar231 h6)
          have e : (a - b') * (a + b') = a * a - b' * b' := by grind
          exact ar232 this e
        have haa : 81 ≤ a * a := by
          have := Int.mul_le_mul (a := 9) (b := 9) (c := a) (d := a) ha9 ha9 (by omega) (ar233 ha9)
          exact ar234 this
        have h2 : 4 * a * c' < 2 * (a * a) := ar235 hp hp2 hd hbb haa
        have h3 : 2 * c' < a := by
          have e1 : 4 * a * c' = 2 * a * (2 * c') := by grind
          have e2 : 2 * (a * a) = 2 * a * a := by grind
          rw [e1, e2] at h2
          exact Int.lt_of_mul_lt_mul_left h2 (ar236 ha9)
        have e3 : (8 : Int) * 2 ^ (k + 1) = 2 * (8 * 2 ^ k) := by rw [Int.pow_succ]; exact ar237
        omega
theorem led_back_ok {p fa fb fc a b c : Int} {n k : Nat} (hp : 0 < p) (hp2 : p ≤ 71) (hf : Red p fa fb fc) (hs : ∀ A : Int, 0 < A → 3 * (A * A) ≤ p → 4 * fa * A < p) (h : Pos p a b c) (hE : Eqv fa fb fc a b c) (ha : a ≤ 8 * 2 ^ k) (hn : k + 10 ≤ n) : led n a b c = some (fa, fb, fc) := by
  refine ex3_3 (leads_big hp hp2 k n a b c h ha hn) fun A B C h1 h2 h3 => ?_
  have hA := h2.pos.a0
  have hbb : B * B ≤ A * A := by
    have h4 := h2.lo; have h5 := h2.hi
    have : 0 ≤ (A - B) * (A + B) := Int.mul_nonneg (ar230 h5) (ar231 h4)
    have e : (A - B) * (A + B) = A * A - B * B := by grind
    exact ar232 this e
  have hac : A * A ≤ A * C := Int.mul_le_mul_of_nonneg_left (by rcases h2.le with h | h <;> omega) (ar189 hA)
  have h3A : 3 * (A * A) ≤ p := by
    have := h2.pos.d
    have e : 4 * A * C = 4 * (A * C) := by grind
    exact ar239 hbb hac this e
  refine ex0_3 (eqv_unique (h3 _ _ _ hE) hf.pos.d h2.pos.d hf.pos.a0 hA (hs A hA h3A) hf.lo hf.hi h2.lo h2.hi) fun r1 r2 r3 => ?_
  rw [h1, r1, r2, r3]
end Mine

namespace Mine
noncomputable def tsOf : Stmt → List PySem.Expr | .Assign [.Tuple ts _ _] _ _ => ts | _ => []
noncomputable def valOf : Stmt → PySem.Expr | .Assign _ v _ => v | _ => default
noncomputable def bx (b : List Stmt) (i : Nat) : Stmt := b.getD i (.Pass default)
theorem S_swap {b : Base} {n : Nat} {sc : Scope} {ts : List PySem.Expr} {v : PySem.Expr} {k : Nat} {p pos : PySem.Pos} {loc loc' : Loc} {mem m1 : Mem} {l : List V} {xs ns : List Str} (hE : (run b n).E sc v loc mem = some (.tup l, m1)) (hc : isComp v = false) (hn : namesOf ts = some xs)
    (hw : swapS sc ts v = some (some ns)) (hl : (ns.length == l.length) = true) (hp : putAll sc ns.reverse l.reverse loc = some loc') : (run b (n + 1)).S sc (.Assign [.Tuple ts k p] v pos) loc mem = some (.next, loc', m1) := by
  show cond (isComp v) none (((run b n).E sc v loc mem).bind _) = _
  rw [hc, cond_false, hE, Option.bind_some]
  show ((namesOf ts).bind _) = _
  rw [hn, Option.bind_some, hw, Option.bind_some]
  show cond (ns.length == l.length) _ none = _
  rw [hl, cond_true, hp]; rfl
noncomputable def lbBody : List Stmt := forBody (sx 28 1)
noncomputable def sc28 : Scope := fdScope (st 28)
theorem lb0 (k n : Nat) (loc : Loc) (mem junk : Mem) (a b c q r : Int) (h1 : lkb "a" loc = some (.int a)) (h2 : lkb "b" loc = some (.int b)) (h3 : lkb "c" loc = some (.int c)) (e : orc0 k 73 [.int (a - b), .int (2 * a)] mem = some (.tup [.int q, .int r], mem ++ junk)) :
    (run ⟨(default : Heap), globT, orc0 k⟩ (n + 12)).S sc28 (bx lbBody 0) loc mem = some (.next, putL "rest" (.int r) (putL "quotient" (.int q) loc), mem ++ junk) := by
  have hB : bx lbBody 0 = .Assign _ _ _ := rfl
  rw [hB]
  clear hB
  have s2 : small 2 = true := rfl
  repeat' (first | (with_reducible (show _ = _; assumption)) | (with_reducible (show some _ = some _; rfl)) | (with_reducible first | apply E_int | apply E_nam | apply E_bi | apply E_call | apply k_ref | apply Es_nil | apply Es_cons | apply S_unC | apply nmo0 | apply nmo1 | apply pA0 | apply pA1 | apply o_sub | apply o_mul) | (with_reducible first | exact g_int_divmod) | (apply n_loc; kernel_rfl!; kernel_rfl!) | (apply n_glo; kernel_rfl!; kernel_rfl!) | kernel_rfl!)
theorem lb1 (k n : Nat) (loc : Loc) (mem : Mem) (a r : Int) (h1 : lkb "a" loc = some (.int a)) (h2 : lkb "rest" loc = some (.int r)) (h3 : 0 ≤ r) (h4 : r < 2 * a) :
    (run ⟨(default : Heap), globT, orc0 k⟩ (n + 12)).S sc28 (bx lbBody 1) loc mem = some (.next, loc, mem) := by
  have hB : bx lbBody 1 = .If _ _ _ _ := rfl
  rw [hB]
  clear hB
  have s2 : small 2 = true := rfl
  have e1 : decide (0 ≤ r) = true := decide_eq_true h3
  have e2 : decide (r < 2 * a) = true := decide_eq_true h4
  repeat' (first | (with_reducible (show _ = _; assumption)) | (with_reducible (show some _ = some _; rfl)) | (with_reducible first | apply E_int | apply E_nam | apply E_bi | apply T_not | exact nt | apply T_ch | apply ch2 | apply S_ite | apply Ss_nil | apply cT | apply cF | apply o_mul | apply c_lt | apply c_le) | (apply n_loc; kernel_rfl!; kernel_rfl!) | kernel_rfl!)
theorem lb2 (k n : Nat) (loc : Loc) (mem : Mem) (a b c q r : Int) (h1 : lkb "a" loc = some (.int a)) (h2 : lkb "b" loc = some (.int b)) (h3 : lkb "c" loc = some (.int c)) (h4 : lkb "quotient" loc = some (.int q)) (h5 : lkb "rest" loc = some (.int r))
    (s1 : small a = true) (s2 : small (a * q) = true) (s3 : small b = true) :
    (run ⟨(default : Heap), globT, orc0 k⟩ (n + 13)).S sc28 (bx lbBody 2) loc mem = some (.next, putL "b" (.int (a - r)) (putL "c" (.int (a * q * q + b * q + c)) loc), mem) := by
  have hB : bx lbBody 2 = .Assign [.Tuple (tsOf (bx lbBody 2)) _ _] (valOf (bx lbBody 2)) _ := rfl
  rw [hB]
  refine S_swap (n := n + 12) (l := [.int (a - r), .int (a * q * q + b * q + c)]) (xs := ["b", "c"]) (ns := ["b", "c"]) ?_ (by kernel_rfl!) (by kernel_rfl!) (by kernel_rfl!) rfl (by kernel_rfl!)
  have hV : valOf (bx lbBody 2) = .Tuple _ _ _ := rfl
  rw [hV]
  clear hV
  repeat' (first | (with_reducible (show _ = _; assumption)) | (with_reducible (show some _ = some _; rfl)) | (with_reducible first | apply E_nam | apply E_bi | apply E_tup | apply Es_nil | apply Es_cons | apply o_add | apply o_sub | apply o_mul) | (apply n_loc; kernel_rfl!; kernel_rfl!) | kernel_rfl!)
theorem lb3t (k n : Nat) (loc : Loc) (mem : Mem) (a b c : Int) (h1 : lkb "a" loc = some (.int a)) (h2 : lkb "b" loc = some (.int b)) (h3 : lkb "c" loc = some (.int c)) (h : a < c ∨ (a = c ∧ 0 ≤ b)) :
    (run ⟨(default : Heap), globT, orc0 k⟩ (n + 12)).S sc28 (bx lbBody 3) loc mem = some (.ret (.tup [.int a, .int b, .int c]), loc, mem) := by
  have hB : bx lbBody 3 = .If _ _ _ _ := rfl
  rw [hB]
  clear hB
  by_cases hlt : a < c
  · have e1 : decide (a < c) = true := decide_eq_true hlt
    repeat' (first | (with_reducible (show _ = _; assumption)) | (with_reducible (show some _ = some _; rfl)) | (with_reducible first | apply E_int | apply E_nam | apply E_tup | apply Es_nil | apply Es_cons | apply T_and | apply T_o | apply T_cmp | apply S_ite | apply S_ret | apply Ss_rR | apply cT | apply cF | apply c_eq | apply c_lt | apply c_ge) | (apply n_loc; kernel_rfl!; kernel_rfl!) | kernel_rfl!)
  · have e1 : decide (a < c) = false := decide_eq_false hlt
    have e2 : (a == c) = true := beq_iff_eq.mpr (ar209 h hlt)
    have e3 : decide (0 ≤ b) = true := decide_eq_true (ar210 h hlt)
    repeat' (first | (with_reducible (show _ = _; assumption)) | (with_reducible (show some _ = some _; rfl)) | (with_reducible first | apply E_int | apply E_nam | apply E_tup | apply Es_nil | apply Es_cons | apply T_and | apply T_o | apply T_cmp | apply S_ite | apply S_ret | apply Ss_rR | apply cT | apply cF | apply c_eq | apply c_lt | apply c_ge) | (apply n_loc; kernel_rfl!; kernel_rfl!) | kernel_rfl!)
theorem lb3f (k n : Nat) (loc : Loc) (mem : Mem) (a b c : Int) (h1 : lkb "a" loc = some (.int a)) (h2 : lkb "b" loc = some (.int b)) (h3 : lkb "c" loc = some (.int c)) (h : ¬ (a < c ∨ (a = c ∧ 0 ≤ b))) :
    (run ⟨(default : Heap), globT, orc0 k⟩ (n + 12)).S sc28 (bx lbBody 3) loc mem = some (.next, loc, mem) := by
  have hB : bx lbBody 3 = .If _ _ _ _ := rfl
  rw [hB]
  clear hB
  have e1 : decide (a < c) = false := decide_eq_false fun h' => h (.inl h')
  by_cases he : a = c
  · have e2 : (a == c) = true := beq_iff_eq.mpr he
    have e3 : decide (0 ≤ b) = false := decide_eq_false fun h' => h (.inr ⟨he, h'⟩)
    repeat' (first | (with_reducible (show _ = _; assumption)) | (with_reducible (show some _ = some _; rfl)) | (with_reducible first | apply E_int | apply E_nam | apply T_and | apply T_o | apply T_cmp | apply S_ite | apply Ss_nil | apply cT | apply cF | apply c_eq | apply c_lt | apply c_ge) | (apply n_loc; kernel_rfl!; kernel_rfl!) | kernel_rfl!)
  · have e2 : (a == c) = false := beq_eq_false_iff_ne.mpr he
    repeat' (first | (with_reducible (show _ = _; assumption)) | (with_reducible (show some _ = some _; rfl)) | (with_reducible first | apply E_int | apply E_nam | apply T_and | apply T_o | apply T_cmp | apply S_ite | apply Ss_nil | apply cT | apply cF | apply c_eq | apply c_lt | apply c_ge) | (apply n_loc; kernel_rfl!; kernel_rfl!) | kernel_rfl!)
theorem lb4 (k n : Nat) (loc : Loc) (mem : Mem) (a b c : Int) (h1 : lkb "a" loc = some (.int a)) (h2 : lkb "b" loc = some (.int b)) (h3 : lkb "c" loc = some (.int c)) :
    (run ⟨(default : Heap), globT, orc0 k⟩ (n + 13)).S sc28 (bx lbBody 4) loc mem = some (.next, putL "a" (.int c) (putL "b" (.int (-b)) (putL "c" (.int a) loc)), mem) := by
  have hB : bx lbBody 4 = .Assign [.Tuple (tsOf (bx lbBody 4)) _ _] (valOf (bx lbBody 4)) _ := rfl
  rw [hB]
  refine S_swap (n := n + 12) (l := [.int c, .int (-b), .int a]) (xs := ["a", "b", "c"]) (ns := ["a", "b", "c"]) ?_ (by kernel_rfl!) (by kernel_rfl!) (by kernel_rfl!) rfl (by kernel_rfl!)
  have hV : valOf (bx lbBody 4) = .Tuple _ _ _ := rfl
  rw [hV]
  clear hV
  repeat' (first | (with_reducible (show _ = _; assumption)) | (with_reducible (show some _ = some _; rfl)) | (with_reducible first | apply E_nam | apply E_un | apply E_tup | apply Es_nil | apply Es_cons | apply u_neg) | (apply n_loc; kernel_rfl!; kernel_rfl!) | kernel_rfl!)
end Mine

namespace Mine
theorem run_F (b : Base) (n : Nat) : (run b (n + 1)).F = stepF (run b n) := rfl
noncomputable def Bd (x : Int) : Prop := -(2 ^ 40) ≤ x ∧ x ≤ 2 ^ 40
theorem small_of {x : Int} (h : -(2 ^ 60) ≤ x ∧ x ≤ 2 ^ 60) : small x = true := by
  unfold small
  exact decide_eq_true (ar0 h)
theorem lbLoop (k : Nat) {p : Int} (hp : 0 < p) : ∀ (n : Nat) (x : Int) (N : Nat) (loc : Loc) (mem : Mem) (a b c A B C : Int), 0 < mem.length → led n a b c = some (A, B, C) → Pos p a b c → Bd a → Bd b → lkb "a" loc = some (.int a) → lkb "b" loc = some (.int b) → lkb "c" loc = some (.int c) → n + 25 ≤ N →
    ∃ loc' junk, (run ⟨(default : Heap), globT, orc0 (k + 4)⟩ N).F sc28 "turn" (.rng (rangeL x n)) lbBody loc mem = some (.ret (.tup [.int A, .int B, .int C]), loc', mem ++ junk) := by
  intro n
  induction n with
  | zero => intro x N loc mem a b c A B C hm0 h; cases h
  | succ n ih =>
    intro x N loc mem a b c A B C hm0 h hP ha hb h1 h2 h3 hN
    obtain ⟨N, rfl⟩ : ∃ m, N = m + 20 := ⟨N - 20, ar1 hN⟩
    refine ex3_8 (hP.step hp) fun q b' c' e1 e2 e3 e4 e5 e6 e7 e8 => ?_
    have h0 := hP.a0
    unfold Bd at ha hb
    refine ex1_1 (intdivmod_ok k (a - b) (2 * a) mem hm0 (small_of (ar2 ha hb e2 e4 h0)) (ar3 ha e2 h0) (small_of (ar4 ha e2 h0))) fun junk ed => ?_
    have r0 := Int.fmod_nonneg_of_pos (a - b) (b := 2 * a) (ar3 ha e2 h0)
    have r1 := Int.fmod_lt_of_pos (a - b) (b := 2 * a) (ar3 ha e2 h0)
    rw [← e1] at ed
    generalize hr : (a - b).fmod (2 * a) = r at *
    have haq : small (a * q) = true := by
      have : 2 * (a * q) = b' - b := by rw [e4]; grind
      exact small_of (ar5 ha hb e4 e6 e7 h0 e2 this)
    have g1 : ∀ (y : String) (v u : V) (l : Loc), y ≠ "turn" → lkb (Str.ofString y) l = some u → lkb (Str.ofString y) (putL "turn" v l) = some u := fun y v u l hy hl => by
      rw [lkb_put, sEq_lit, decide_eq_false hy]; exact hl
    have k1 := g1 "a" (.int x) _ loc (by decide) h1
    have k2 := g1 "b" (.int x) _ loc (by decide) h2
    have k3 := g1 "c" (.int x) _ loc (by decide) h3
    have t0 := lb0 (k + 4) (N + 6) (putL "turn" (.int x) loc) mem junk a b c q r k1 k2 k3 ed
    have t1 := lb1 (k + 4) (N + 5) (putL "rest" (.int r) (putL "quotient" (.int q) (putL "turn" (.int x) loc))) (mem ++ junk) a r (by repeat' first | with_reducible assumption | (apply pkS; kernel_rfl!) | (apply pkR; kernel_rfl!) | (apply lkS; kernel_rfl!) | (apply lkR; kernel_rfl!)) (by repeat' first | with_reducible assumption | (apply pkS; kernel_rfl!) | (apply pkR; kernel_rfl!) | (apply lkS; kernel_rfl!) | (apply lkR; kernel_rfl!)) r0 r1
    have t2 := lb2 (k + 4) (N + 3) (putL "rest" (.int r) (putL "quotient" (.int q) (putL "turn" (.int x) loc))) (mem ++ junk) a b c q r (by repeat' first | with_reducible assumption | (apply pkS; kernel_rfl!) | (apply pkR; kernel_rfl!) | (apply lkS; kernel_rfl!) | (apply lkR; kernel_rfl!)) (by repeat' first | with_reducible assumption | (apply pkS; kernel_rfl!) | (apply pkR; kernel_rfl!) | (apply lkS; kernel_rfl!) | (apply lkR; kernel_rfl!)) (by repeat' first | with_reducible assumption | (apply pkS; kernel_rfl!) | (apply pkR; kernel_rfl!) | (apply lkS; kernel_rfl!) | (apply lkR; kernel_rfl!)) (by repeat' first | with_reducible assumption | (apply pkS; kernel_rfl!) | (apply pkR; kernel_rfl!) | (apply lkS; kernel_rfl!) | (apply lkR; kernel_rfl!)) (by repeat' first | with_reducible assumption | (apply pkS; kernel_rfl!) | (apply pkR; kernel_rfl!) | (apply lkS; kernel_rfl!) | (apply lkR; kernel_rfl!)) (small_of (ar6 ha h0 e2)) haq (small_of (ar7 hb e4))
    rw [← e2, ← e3] at t2
    have hL1 : lkb "a" (putL "b" (.int b') (putL "c" (.int c') (putL "rest" (.int r) (putL "quotient" (.int q) (putL "turn" (.int x) loc))))) = some (.int a) := by repeat' first | with_reducible assumption | (apply pkS; kernel_rfl!) | (apply pkR; kernel_rfl!) | (apply lkS; kernel_rfl!) | (apply lkR; kernel_rfl!)
    have hL2 : lkb "b" (putL "b" (.int b') (putL "c" (.int c') (putL "rest" (.int r) (putL "quotient" (.int q) (putL "turn" (.int x) loc))))) = some (.int b') := by repeat' first | with_reducible assumption | (apply pkS; kernel_rfl!) | (apply pkR; kernel_rfl!) | (apply lkS; kernel_rfl!) | (apply lkR; kernel_rfl!)
    have hL3 : lkb "c" (putL "b" (.int b') (putL "c" (.int c') (putL "rest" (.int r) (putL "quotient" (.int q) (putL "turn" (.int x) loc))))) = some (.int c') := by repeat' first | with_reducible assumption | (apply pkS; kernel_rfl!) | (apply pkR; kernel_rfl!) | (apply lkS; kernel_rfl!) | (apply lkR; kernel_rfl!)
    have eN : nextW mem (.rng (rangeL x (n + 1))) = some (some (.int x, .rng (rangeL (x + 1) n))) := rfl
    have eK : kindOk sc28 "turn" = true := by kernel_rfl!
    have hled : led (n + 1) a b c = if a < c' ∨ (a = c' ∧ 0 ≤ b') then some (a, b', c') else led n c' (-b') a := by
      rw [led, ← e1, hr, ← e2, ← e3]
    rw [hled] at h
    by_cases hc : a < c' ∨ (a = c' ∧ 0 ≤ b')
    · rw [if_pos hc] at h
      have t3 := lb3t (k + 4) (N + 3) _ (mem ++ junk) a b' c' hL1 hL2 hL3 hc
      have hss : (run ⟨(default : Heap), globT, orc0 (k + 4)⟩ (N + 19)).Ss sc28 [bx lbBody 0, bx lbBody 1, bx lbBody 2, bx lbBody 3, bx lbBody 4] (putL "turn" (.int x) loc) mem = some (.ret (.tup [.int a, .int b', .int c']), putL "b" (.int b') (putL "c" (.int c') (putL "rest" (.int r) (putL "quotient" (.int q) (putL "turn" (.int x) loc)))), mem ++ junk) := by
        rw [ss_next t0, ss_next t1, ss_next t2, ss_ret t3]
      have hss' : (run ⟨(default : Heap), globT, orc0 (k + 4)⟩ (N + 19)).Ss sc28 lbBody (putL "turn" (.int x) loc) mem = _ := hss
      refine ⟨putL "b" (.int b') (putL "c" (.int c') (putL "rest" (.int r) (putL "quotient" (.int q) (putL "turn" (.int x) loc)))), junk, ?_⟩
      rw [run_F]
      unfold stepF
      rw [eN, Option.bind_some]
      show cond (kindOk sc28 "turn") _ none = _
      rw [eK, cond_true, hss', Option.bind_some]
      cases h
      rfl
    · rw [if_neg hc] at h
      have t3 := lb3f (k + 4) (N + 3) _ (mem ++ junk) a b' c' hL1 hL2 hL3 hc
      have t4 := lb4 (k + 4) (N + 1) _ (mem ++ junk) a b' c' hL1 hL2 hL3
      have hP2 := e5.swap e8
      have hss : (run ⟨(default : Heap), globT, orc0 (k + 4)⟩ (N + 19)).Ss sc28 [bx lbBody 0, bx lbBody 1, bx lbBody 2, bx lbBody 3, bx lbBody 4] (putL "turn" (.int x) loc) mem = some (.next, putL "a" (.int c') (putL "b" (.int (-b')) (putL "c" (.int a) (putL "b" (.int b') (putL "c" (.int c') (putL "rest" (.int r) (putL "quotient" (.int q) (putL "turn" (.int x) loc))))))), mem ++ junk) := by
        rw [ss_next t0, ss_next t1, ss_next t2, ss_next t3, ss_next t4]
        rfl
      have hss' : (run ⟨(default : Heap), globT, orc0 (k + 4)⟩ (N + 19)).Ss sc28 lbBody (putL "turn" (.int x) loc) mem = _ := hss
      refine ex2_1 (ih (x + 1) (N + 19) (putL "a" (.int c') (putL "b" (.int (-b')) (putL "c" (.int a) (putL "b" (.int b') (putL "c" (.int c') (putL "rest" (.int r) (putL "quotient" (.int q) (putL "turn" (.int x) loc)))))))) (mem ++ junk) c' (-b') a A B C (by rw [List.length_append]; exact ar8 hm0) h hP2 (by unfold Bd; exact ar9 ha e3 e8 h0 e2 hc) (by unfold Bd; exact ar10 ha e6 e7 h0 e2) (by repeat' first | with_reducible assumption | (apply pkS; kernel_rfl!) | (apply pkR; kernel_rfl!) | (apply lkS; kernel_rfl!) | (apply lkR; kernel_rfl!)) (by repeat' first | with_reducible assumption | (apply pkS; kernel_rfl!) | (apply pkR; kernel_rfl!) | (apply lkS; kernel_rfl!) | (apply lkR; kernel_rfl!)) (by repeat' first | with_reducible assumption | (apply pkS; kernel_rfl!) | (apply pkR; kernel_rfl!) | (apply lkS; kernel_rfl!) | (apply lkR; kernel_rfl!)) (ar11 hN)) fun loc' junk2 ih2 => ?_
      refine ⟨loc', junk ++ junk2, ?_⟩
      rw [run_F]
      unfold stepF
      rw [eN, Option.bind_some]
      show cond (kindOk sc28 "turn") _ none = _
      rw [eK, cond_true, hss', Option.bind_some]
      show (run _ (N + 19)).F _ _ _ _ _ _ = _
      rw [ih2, List.append_assoc]
theorem ledback_fn (k : Nat) {p : Int} (hp : 0 < p) (mem : Mem) (hm0 : 0 < mem.length) (a b c A B C : Int) (h : led 60 a b c = some (A, B, C)) (hP : Pos p a b c) (ha : Bd a) (hb : Bd b) : ∃ junk, orc0 (k + 5) 212 [.tup [.int a, .int b, .int c]] mem = some (.tup [.int A, .int B, .int C], mem ++ junk) := by
  refine ex2_1 (lbLoop k hp 60 0 297 (putL "c" (.int c) (putL "b" (.int b) (putL "a" (.int a) [("form", .tup [.int a, .int b, .int c])]))) mem a b c A B C hm0 h hP ha hb (by repeat' first | with_reducible assumption | (apply pkS; kernel_rfl!) | (apply pkR; kernel_rfl!) | (apply lkS; kernel_rfl!) | (apply lkR; kernel_rfl!)) (by repeat' first | with_reducible assumption | (apply pkS; kernel_rfl!) | (apply pkR; kernel_rfl!) | (apply lkS; kernel_rfl!) | (apply lkR; kernel_rfl!)) (by repeat' first | with_reducible assumption | (apply pkS; kernel_rfl!) | (apply pkR; kernel_rfl!) | (apply lkS; kernel_rfl!) | (apply lkR; kernel_rfl!)) (by omega)) fun loc' junk e => ?_
  refine ⟨junk, ?_⟩
  have hB : fdBody (st 28) = [_, .For (.Name (Str.ofString "turn") _) _ lbBody [] _, _] := rfl
  change (run ⟨(default : Heap), globT, orcN raw0 (k + 4)⟩ 297).F (fdScope (st 28)) _ (.rng (rangeL 0 (60 : Int).toNat)) _ _ _ = _ at e
  apply orcN_r (raw := raw0) (i := 28) (loc := [("form", .tup [.int a, .int b, .int c])]) rfl (by kernel_rfl!) (by kernel_rfl!) hB
  apply Ss_nx (l1 := putL "c" (.int c) (putL "b" (.int b) (putL "a" (.int a) [("form", .tup [.int a, .int b, .int c])]))) (m1 := mem) ?_ (Ss_rt ?_)
  repeat' (first | (with_reducible (show _ = _; assumption)) | (with_reducible (show some _ = some _; rfl)) | (with_reducible first | apply E_int | apply E_nam | apply Es_nil | apply Es_cons | apply S_unN | apply nmo0 | apply nmo1 | apply pA0 | apply pA1 | apply S_fo | apply Ss_nx) | (with_reducible first | exact g_range) | (apply I_rng; apply n_glo; kernel_rfl!; kernel_rfl!; with_reducible exact g_range) | (apply n_loc; kernel_rfl!; kernel_rfl!) | (apply n_glo; kernel_rfl!; kernel_rfl!) | (apply pkS; kernel_rfl!) | (apply pkR; kernel_rfl!) | (apply lkS; kernel_rfl!) | kernel_rfl!)
end Mine

namespace Mine
noncomputable def sc27 : Scope := fdScope (st 27)
noncomputable def mvBody : List Stmt := forBody (sx 27 1)
noncomputable def inBody : List Stmt := forBody (bx mvBody 1)
noncomputable def stepOf (κ : Int) (l : Nat) : Int := cond (l == 115) κ (-κ)
theorem mvIn0 (k n : Nat) (loc : Loc) (mem : Mem) (κ : Int) (l : Nat) (h1 : lkb "k" loc = some (.int κ)) (h2 : lkb "letter" loc = some (.str [l])) :
    (run ⟨(default : Heap), globT, orc0 k⟩ (n + 12)).S sc27 (bx inBody 0) loc mem = some (.next, putL "step" (.int (stepOf κ l)) loc, mem) := by
  have hB : bx inBody 0 = .Assign _ _ _ := rfl
  rw [hB]
  clear hB
  have sS : (Str.ofString "s").cps.toList = [115] := by kernel_rfl!
  cases hl : l == 115 with
  | true =>
    have e : ([l] == [115]) = true := by rw [eq_of_beq hl]; rfl
    rw [show stepOf κ l = κ by unfold stepOf; rw [hl]; rfl]
    repeat' (first | (with_reducible (show _ = _; assumption)) | (with_reducible (show some _ = some _; rfl)) | (with_reducible first | apply E_nam | apply E_un | apply E_if | apply T_cmp | apply S_asg | apply cT | apply cF | apply u_neg | apply c_seq) | (apply E_str; assumption) | (apply n_loc; kernel_rfl!; kernel_rfl!) | kernel_rfl!)
  | false =>
    have e : ([l] == [115]) = false := by
      apply beq_eq_false_iff_ne.mpr
      intro h; injection h with h; rw [h] at hl; cases hl
    rw [show stepOf κ l = -κ by unfold stepOf; rw [hl]; rfl]
    repeat' (first | (with_reducible (show _ = _; assumption)) | (with_reducible (show some _ = some _; rfl)) | (with_reducible first | apply E_nam | apply E_un | apply E_if | apply T_cmp | apply S_asg | apply cT | apply cF | apply u_neg | apply c_seq) | (apply E_str; assumption) | (apply n_loc; kernel_rfl!; kernel_rfl!) | kernel_rfl!)
theorem mvIn1 (k n : Nat) (loc : Loc) (mem : Mem) (a b c s : Int) (h1 : lkb "a" loc = some (.int a)) (h2 : lkb "b" loc = some (.int b)) (h3 : lkb "c" loc = some (.int c)) (h4 : lkb "step" loc = some (.int s)) (s1 : small a = true) (s2 : small (a * s) = true) (s3 : small b = true) (s4 : small (2 * a) = true) :
    (run ⟨(default : Heap), globT, orc0 k⟩ (n + 13)).S sc27 (bx inBody 1) loc mem = some (.next, putL "a" (.int (a * s * s + b * s + c)) (putL "b" (.int (-b - 2 * a * s)) (putL "c" (.int a) loc)), mem) := by
  have hB : bx inBody 1 = .Assign [.Tuple (tsOf (bx inBody 1)) _ _] (valOf (bx inBody 1)) _ := rfl
  rw [hB]
  refine S_swap (n := n + 12) (l := [.int (a * s * s + b * s + c), .int (-b - 2 * a * s), .int a]) (xs := ["a", "b", "c"]) (ns := ["a", "b", "c"]) ?_ (by kernel_rfl!) (by kernel_rfl!) (by kernel_rfl!) rfl (by kernel_rfl!)
  have hV : valOf (bx inBody 1) = .Tuple _ _ _ := rfl
  rw [hV]
  clear hV
  have s5 : small 2 = true := rfl
  repeat' (first | (with_reducible (show _ = _; assumption)) | (with_reducible (show some _ = some _; rfl)) | (with_reducible first | apply E_int | apply E_nam | apply E_bi | apply E_un | apply E_tup | apply Es_nil | apply Es_cons | apply o_add | apply o_sub | apply o_mul | apply u_neg) | (apply n_loc; kernel_rfl!; kernel_rfl!) | kernel_rfl!)
noncomputable def mvL (κ : Int) : List Nat → Int × Int × Int → Int × Int × Int
  | [], f => f
  | l :: ls, (a, b, c) => mvL κ ls (a * stepOf κ l * stepOf κ l + b * stepOf κ l + c, -b - 2 * a * stepOf κ l, a)
theorem stepOf_le {κ : Int} {l : Nat} (h : 0 ≤ κ ∧ κ ≤ 3) : -3 ≤ stepOf κ l ∧ stepOf κ l ≤ 3 := by
  unfold stepOf
  cases l == 115 <;> simp only [cond_true, cond_false] <;> omega
theorem mul_bd {x s M : Int} (hx : -M ≤ x ∧ x ≤ M) (hs : -3 ≤ s ∧ s ≤ 3) : -(3 * M) ≤ x * s ∧ x * s ≤ 3 * M := by
  have : s = -3 ∨ s = -2 ∨ s = -1 ∨ s = 0 ∨ s = 1 ∨ s = 2 ∨ s = 3 := ar354 hs
  rcases this with rfl | rfl | rfl | rfl | rfl | rfl | rfl <;> omega
noncomputable def Bd3 (M : Int) (a b c : Int) : Prop := (-M ≤ a ∧ a ≤ M) ∧ (-M ≤ b ∧ b ≤ M) ∧ (-M ≤ c ∧ c ≤ M)
theorem mv_bd {M a b c s : Int} (h : Bd3 M a b c) (hs : -3 ≤ s ∧ s ≤ 3) : Bd3 (13 * M) (a * s * s + b * s + c) (-b - 2 * a * s) a := by
  refine ex0_3 h ?_; (try clear h); intro ha hb hc
  have h1 := mul_bd ha hs
  have h2 := mul_bd h1 hs
  have h3 := mul_bd hb hs
  have e : 2 * a * s = 2 * (a * s) := Int.mul_assoc ..
  refine ⟨⟨ar355 hc h2 h3, ar356 hc h2 h3⟩, ⟨ar357 hb h1 e, ar358 hb h1 e⟩, ar359 ha, ar360 ha⟩
theorem inLoop (k : Nat) (κ : Int) (hκ : 0 ≤ κ ∧ κ ≤ 3) : ∀ (ls : List Nat) (N : Nat) (loc : Loc) (mem : Mem) (a b c M : Int), Bd3 M a b c → M * 13 ^ ls.length ≤ 2 ^ 40 → 0 ≤ M → lkb "a" loc = some (.int a) → lkb "b" loc = some (.int b) → lkb "c" loc = some (.int c) → lkb "k" loc = some (.int κ) → ls.length + 20 ≤ N →
    ∃ loc', (run ⟨(default : Heap), globT, orc0 k⟩ N).F sc27 "letter" (.chars ls) inBody loc mem = some (.next, loc', mem) ∧ lkb "a" loc' = some (.int (mvL κ ls (a, b, c)).1) ∧ lkb "b" loc' = some (.int (mvL κ ls (a, b, c)).2.1) ∧ lkb "c" loc' = some (.int (mvL κ ls (a, b, c)).2.2) ∧
      Bd3 (M * 13 ^ ls.length) (mvL κ ls (a, b, c)).1 (mvL κ ls (a, b, c)).2.1 (mvL κ ls (a, b, c)).2.2 := by
  intro ls
  induction ls with
  | nil =>
    intro N loc mem a b c M hB hM hM0 h1 h2 h3 h4 hN
    obtain ⟨N, rfl⟩ : ∃ m, N = m + 1 := ⟨N - 1, ar124 hN⟩
    exact ⟨loc, rfl, h1, h2, h3, by show Bd3 (M * 13 ^ 0) a b c; rw [Int.pow_zero, Int.mul_one]; exact hB⟩
  | cons l ls ih =>
    intro N loc mem a b c M hB hM hM0 h1 h2 h3 h4 hN
    simp only [List.length_cons] at hN hM
    obtain ⟨N, rfl⟩ : ∃ m, N = m + 20 := ⟨N - 20, ar361 hN⟩
    have hs := stepOf_le (l := l) hκ
    have hp1 : (1 : Int) ≤ 13 ^ ls.length := by have : (0 : Int) < 13 ^ ls.length := Int.pow_pos (by decide); exact ar32 this
    have hM2 : 13 * M ≤ 2 ^ 40 := by
      have e : M * 13 ^ (ls.length + 1) = 13 * M * 13 ^ ls.length := by rw [Int.pow_succ]; grind
      have : 13 * M * 1 ≤ 13 * M * 13 ^ ls.length := Int.mul_le_mul_of_nonneg_left hp1 (ar362 hM0)
      exact ar363 hM e this
    have hM3 : 13 * M * 13 ^ ls.length ≤ 2 ^ 40 := by
      have e : M * 13 ^ (ls.length + 1) = 13 * M * 13 ^ ls.length := by rw [Int.pow_succ]; grind
      exact ar41 hM e
    have hb3 := mul_bd hB.1 hs
    refine ex0_3 hB ?_; (try clear hB); intro ha hb hc
    have k1 : ∀ y : String, y ≠ "letter" → ∀ u, lkb (Str.ofString y) loc = some u → lkb (Str.ofString y) (putL "letter" (.str [l]) loc) = some u := fun y hy u hu => by rw [lkb_put, sEq_lit, decide_eq_false hy]; exact hu
    have t0 := mvIn0 k (N + 6) (putL "letter" (.str [l]) loc) mem κ l (k1 "k" (by decide) _ h4) (by repeat' first | with_reducible assumption | (apply pkS; kernel_rfl!) | (apply pkR; kernel_rfl!))
    have k2 : ∀ y : String, y ≠ "letter" → y ≠ "step" → ∀ u, lkb (Str.ofString y) loc = some u → lkb (Str.ofString y) (putL "step" (.int (stepOf κ l)) (putL "letter" (.str [l]) loc)) = some u := fun y hy hy2 u hu => by rw [lkb_put, sEq_lit, decide_eq_false hy2]; exact k1 y hy u hu
    have t1 := mvIn1 k (N + 4) (putL "step" (.int (stepOf κ l)) (putL "letter" (.str [l]) loc)) mem a b c (stepOf κ l) (k2 "a" (by decide) (by decide) _ h1) (k2 "b" (by decide) (by decide) _ h2) (k2 "c" (by decide) (by decide) _ h3) (by repeat' first | with_reducible assumption | (apply pkS; kernel_rfl!) | (apply pkR; kernel_rfl!)) (small_of (ar364 hM0 hM2 ha)) (small_of (ar365 hM0 hM2 hb3)) (small_of (ar364 hM0 hM2 hb)) (small_of (ar366 hM0 hM2 ha))
    have hss : (run ⟨(default : Heap), globT, orc0 k⟩ (N + 19)).Ss sc27 [bx inBody 0, bx inBody 1] (putL "letter" (.str [l]) loc) mem = some (.next, putL "a" (.int (a * stepOf κ l * stepOf κ l + b * stepOf κ l + c)) (putL "b" (.int (-b - 2 * a * stepOf κ l)) (putL "c" (.int a) (putL "step" (.int (stepOf κ l)) (putL "letter" (.str [l]) loc)))), mem) := by
      rw [ss_next t0, ss_next t1]
      rfl
    have hss' : (run ⟨(default : Heap), globT, orc0 k⟩ (N + 19)).Ss sc27 inBody (putL "letter" (.str [l]) loc) mem = _ := hss
    refine ex1_5 (ih (N + 19) (putL "a" (.int (a * stepOf κ l * stepOf κ l + b * stepOf κ l + c)) (putL "b" (.int (-b - 2 * a * stepOf κ l)) (putL "c" (.int a) (putL "step" (.int (stepOf κ l)) (putL "letter" (.str [l]) loc))))) mem _ _ _ (13 * M) (mv_bd ⟨ha, hb, hc⟩ hs) hM3 (ar367 hM0 hM2)
      (by repeat' first | with_reducible assumption | (apply pkS; kernel_rfl!) | (apply pkR; kernel_rfl!)) (by repeat' first | with_reducible assumption | (apply pkS; kernel_rfl!) | (apply pkR; kernel_rfl!)) (by repeat' first | with_reducible assumption | (apply pkS; kernel_rfl!) | (apply pkR; kernel_rfl!)) (by rw [lkb_put, lkb_put, lkb_put, sEq_lit, sEq_lit, sEq_lit]; exact k2 "k" (by decide) (by decide) _ h4) (ar368 hN)) fun loc' u1 u2 u3 u4 u5 => ?_
    refine ⟨loc', ?_, u2, u3, u4, ?_⟩
    · rw [run_F]
      unfold stepF
      show cond (kindOk sc27 "letter") _ none = _
      rw [show kindOk sc27 "letter" = true by kernel_rfl!, cond_true, hss', Option.bind_some]
      show (run _ (N + 19)).F _ _ _ _ _ _ = _
      rw [u1]
    · have e : M * 13 ^ (ls.length + 1) = 13 * M * 13 ^ ls.length := by rw [Int.pow_succ]; grind
      show Bd3 (M * 13 ^ (ls.length + 1)) _ _ _
      rw [e]; exact u5
end Mine

namespace Mine
structure Ln where
  κ : Nat
  mn : List Nat
structure LnOk (x : Ln) : Prop where
  k : x.κ ≤ 3
  m : x.mn = [115] ∨ x.mn = [116] ∨ x.mn = [115, 116]
noncomputable def Ln.str (x : Ln) : List Nat := dots x.κ ++ x.mn
theorem ln_count {x : Ln} (h : LnOk x) : Txt.count (mkS x.str) (mkS [46]) = x.κ := by
  obtain ⟨κ, mn⟩ := x
  obtain ⟨h1, h2⟩ := h
  simp only at h1 h2
  have : κ = 0 ∨ κ = 1 ∨ κ = 2 ∨ κ = 3 := ar24 h1
  rcases this with rfl | rfl | rfl | rfl <;> rcases h2 with rfl | rfl | rfl <;> decide +kernel
theorem ln_drop (x : Ln) : x.str.drop x.κ = x.mn := by
  unfold Ln.str
  have := dots_len x.κ
  rw [List.drop_append, this, Nat.sub_self, List.drop_of_length_le (ar25 this)]
  rfl
theorem ln_len {x : Ln} (h : LnOk x) : x.str.length ≤ 5 ∧ x.mn.length ≤ 2 := by
  unfold Ln.str
  rw [List.length_append, dots_len]
  have := h.k
  rcases h.m with e | e | e <;> rw [e] <;> simp only [List.length_cons, List.length_nil] <;> omega
theorem mv0 (k n : Nat) (loc : Loc) (mem : Mem) (x : Ln) (hx : LnOk x) (h1 : lkb "line" loc = some (.str x.str)) :
    (run ⟨(default : Heap), globT, orc0 k⟩ (n + 12)).S sc27 (bx mvBody 0) loc mem = some (.next, putL "k" (.int x.κ) loc, mem) := by
  have hB : bx mvBody 0 = .Assign _ _ _ := rfl
  rw [hB]
  clear hB
  have sD : (Str.ofString ".").cps.toList = [46] := by kernel_rfl!
  have hl : lit x.str.length = true := by unfold lit; exact decide_eq_true (by have := (ln_len hx).1; exact ar26 this)
  rw [← ln_count hx]
  repeat' (first | (with_reducible (show _ = _; assumption)) | (with_reducible (show some _ = some _; rfl)) | (with_reducible first | apply E_nam | apply E_met | apply Es_nil | apply Es_cons | apply S_asg | apply m_cnt) | (apply E_str; assumption) | (apply n_loc; kernel_rfl!; kernel_rfl!) | kernel_rfl!)
theorem mv1 (k n : Nat) (loc : Loc) (mem : Mem) (x : Ln) (hx : LnOk x) (h1 : lkb "line" loc = some (.str x.str)) (h2 : lkb "k" loc = some (.int x.κ)) :
    (run ⟨(default : Heap), globT, orc0 k⟩ (n + 13)).S sc27 (bx mvBody 1) loc mem = (run ⟨(default : Heap), globT, orc0 k⟩ (n + 12)).F sc27 "letter" (.chars x.mn) inBody loc mem := by
  have hB : bx mvBody 1 = .For (.Name (Str.ofString "letter") _) _ inBody [] _ := rfl
  rw [hB]
  clear hB
  have hl : lit x.str.length = true := by unfold lit; exact decide_eq_true (by have := (ln_len hx).1; exact ar26 this)
  have hk := hx.k
  have e1 : (decide (0 ≤ (x.κ : Int)) && decide ((x.κ : Int) < 2 ^ 60)) = true := by
    rw [decide_eq_true (show 0 ≤ (x.κ : Int) from ar27 hk), decide_eq_true (show (x.κ : Int) < 2 ^ 60 from ar28 hk)]; rfl
  rw [← ln_drop x]
  repeat' (first | (with_reducible (show _ = _; assumption)) | (with_reducible (show some _ = some _; rfl)) | (with_reducible first | apply E_nam | apply E_sliL | apply S_foE | apply I_chS | apply s_lowN) | (apply n_loc; kernel_rfl!; kernel_rfl!) | kernel_rfl!)
noncomputable def mvAll : List Ln → Int × Int × Int → Int × Int × Int
  | [], f => f
  | x :: xs, f => mvAll xs (mvL x.κ x.mn f)
theorem mvLoop (k : Nat) (j : Nat) (D : List V) : ∀ (xs : List Ln) (i N : Nat) (loc : Loc) (mem : Mem) (a b c M : Int), (∀ x ∈ xs, LnOk x) → mem[j]? = some D → D.drop i = xs.map (fun x => .str x.str) → Bd3 M a b c → M * 169 ^ xs.length ≤ 2 ^ 40 → 0 ≤ M → lkb "a" loc = some (.int a) → lkb "b" loc = some (.int b) → lkb "c" loc = some (.int c) → xs.length + 45 ≤ N →
    ∃ loc', (run ⟨(default : Heap), globT, orc0 k⟩ N).F sc27 "line" (.lst j i) mvBody loc mem = some (.next, loc', mem) ∧ lkb "a" loc' = some (.int (mvAll xs (a, b, c)).1) ∧ lkb "b" loc' = some (.int (mvAll xs (a, b, c)).2.1) ∧ lkb "c" loc' = some (.int (mvAll xs (a, b, c)).2.2) ∧
      Bd3 (M * 169 ^ xs.length) (mvAll xs (a, b, c)).1 (mvAll xs (a, b, c)).2.1 (mvAll xs (a, b, c)).2.2 := by
  intro xs
  induction xs with
  | nil =>
    intro i N loc mem a b c M hx hj hD hB hM hM0 h1 h2 h3 hN
    obtain ⟨N, rfl⟩ : ∃ m, N = m + 1 := ⟨N - 1, ar29 hN⟩
    refine ⟨loc, ?_, h1, h2, h3, by show Bd3 (M * 169 ^ 0) a b c; rw [Int.pow_zero, Int.mul_one]; exact hB⟩
    have e2 : D[i]? = none := by
      rw [List.getElem?_eq_none_iff]
      have := congrArg List.length hD
      rw [List.length_drop] at this
      simp only [List.map_nil, List.length_nil] at this
      exact ar30 this
    rw [run_F]
    unfold stepF
    rw [nextW, hj, Option.map_some, e2]
    rfl
  | cons x xs ih =>
    intro i N loc mem a b c M hx hj hD hB hM hM0 h1 h2 h3 hN
    simp only [List.length_cons] at hN hM
    obtain ⟨N, rfl⟩ : ∃ m, N = m + 45 := ⟨N - 45, ar31 hN⟩
    have hx0 := hx x (.head _)
    have hlen := ln_len hx0
    have hp1 : (1 : Int) ≤ 169 ^ xs.length := by have : (0 : Int) < 169 ^ xs.length := Int.pow_pos (by decide); exact ar32 this
    have eP : M * 169 ^ (xs.length + 1) = 169 * M * 169 ^ xs.length := by rw [Int.pow_succ]; grind
    have hM2 : 169 * M ≤ 2 ^ 40 := by
      have : 169 * M * 1 ≤ 169 * M * 169 ^ xs.length := Int.mul_le_mul_of_nonneg_left hp1 (ar33 hM0)
      exact ar34 hM eP this
    have e2 : D[i]? = some (.str x.str) := by
      have := congrArg (fun l => l[0]?) hD
      simp only [List.getElem?_drop, Nat.add_zero, List.map_cons, List.getElem?_cons_zero] at this
      exact this
    have e3 : D.drop (i + 1) = xs.map (fun x => .str x.str) := by
      have := congrArg (List.drop 1) hD
      rw [List.drop_drop, List.map_cons] at this
      exact this
    have k1 : ∀ y : String, y ≠ "line" → ∀ u, lkb (Str.ofString y) loc = some u → lkb (Str.ofString y) (putL "line" (.str x.str) loc) = some u := fun y hy u hu => by rw [lkb_put, sEq_lit, decide_eq_false hy]; exact hu
    have k2 : ∀ y : String, y ≠ "line" → y ≠ "k" → ∀ u, lkb (Str.ofString y) loc = some u → lkb (Str.ofString y) (putL "k" (.int x.κ) (putL "line" (.str x.str) loc)) = some u := fun y hy hy2 u hu => by rw [lkb_put, sEq_lit, decide_eq_false hy2]; exact k1 y hy u hu
    have t0 := mv0 k (N + 31) (putL "line" (.str x.str) loc) mem x hx0 (by repeat' first | with_reducible assumption | (apply pkS; kernel_rfl!) | (apply pkR; kernel_rfl!) | (apply lkS; kernel_rfl!) | (apply lkR; kernel_rfl!))
    have t1 := mv1 k (N + 29) (putL "k" (.int x.κ) (putL "line" (.str x.str) loc)) mem x hx0 (by repeat' first | with_reducible assumption | (apply pkS; kernel_rfl!) | (apply pkR; kernel_rfl!) | (apply lkS; kernel_rfl!) | (apply lkR; kernel_rfl!)) (by repeat' first | with_reducible assumption | (apply pkS; kernel_rfl!) | (apply pkR; kernel_rfl!) | (apply lkS; kernel_rfl!) | (apply lkR; kernel_rfl!))
    have hpl : (13 : Int) ^ x.mn.length ≤ 169 := by
      rcases hx0.m with e | e | e <;> rw [e] <;> decide
    have hp0 : (0 : Int) < 13 ^ x.mn.length := Int.pow_pos (by decide)
    have hMM : M * 13 ^ x.mn.length ≤ M * 169 := Int.mul_le_mul_of_nonneg_left hpl hM0
    refine ex1_5 (inLoop k x.κ ⟨ar35, by have := hx0.k; exact ar36 this⟩ x.mn (N + 41) (putL "k" (.int x.κ) (putL "line" (.str x.str) loc)) mem a b c M hB (ar37 hM0 hM2 hMM) hM0 (k2 "a" (by decide) (by decide) _ h1) (k2 "b" (by decide) (by decide) _ h2) (k2 "c" (by decide) (by decide) _ h3) (by repeat' first | with_reducible assumption | (apply pkS; kernel_rfl!) | (apply pkR; kernel_rfl!) | (apply lkS; kernel_rfl!) | (apply lkR; kernel_rfl!)) (ar38 hN hlen)) fun loc1 u1 u2 u3 u4 u5 => ?_
    rw [u1] at t1
    have wk : Bd3 (169 * M) (mvL x.κ x.mn (a, b, c)).1 (mvL x.κ x.mn (a, b, c)).2.1 (mvL x.κ x.mn (a, b, c)).2.2 := by
      refine ex0_3 u5 ?_; (try clear u5); intro q1 q2 q3
      exact ⟨⟨ar39 hMM q1, ar40 hMM q1⟩, ⟨ar39 hMM q2, ar40 hMM q2⟩, ar39 hMM q3, ar40 hMM q3⟩
    have hss : (run ⟨(default : Heap), globT, orc0 k⟩ (N + 44)).Ss sc27 [bx mvBody 0, bx mvBody 1] (putL "line" (.str x.str) loc) mem = some (.next, loc1, mem) := by
      rw [ss_next t0, ss_next t1]
      rfl
    have hss' : (run ⟨(default : Heap), globT, orc0 k⟩ (N + 44)).Ss sc27 mvBody (putL "line" (.str x.str) loc) mem = some (.next, loc1, mem) := hss
    refine ex1_5 (ih (i + 1) (N + 44) loc1 mem _ _ _ (169 * M) (fun y hy => hx y (.tail _ hy)) hj e3 wk (ar41 hM eP) (ar42 hM0 hM2) u2 u3 u4 (ar43 hN)) fun loc' v1 v2 v3 v4 v5 => ?_
    refine ⟨loc', ?_, v2, v3, v4, ?_⟩
    · rw [run_F]
      unfold stepF
      rw [nextW, hj, Option.map_some, e2, Option.bind_some]
      show cond (kindOk sc27 "line") _ none = _
      rw [show kindOk sc27 "line" = true by kernel_rfl!, cond_true, hss', Option.bind_some]
      show (run _ (N + 44)).F _ _ _ _ _ _ = _
      rw [v1]
    · show Bd3 (M * 169 ^ (xs.length + 1)) _ _ _
      rw [eP]; exact v5
theorem moved_fn (k j : Nat) (xs : List Ln) (mem : Mem) (a b c : Int) (hx : ∀ x ∈ xs, LnOk x) (hj : mem[j]? = some (xs.map fun x => .str x.str)) (hl : xs.length ≤ 4) (hB : Bd3 18 a b c) :
    orc0 (k + 1) 205 [.tup [.int a, .int b, .int c], .list j] mem = some (.tup [.int (mvAll xs (a, b, c)).1, .int (mvAll xs (a, b, c)).2.1, .int (mvAll xs (a, b, c)).2.2], mem) ∧ Bd3 (2 ^ 40) (mvAll xs (a, b, c)).1 (mvAll xs (a, b, c)).2.1 (mvAll xs (a, b, c)).2.2 := by
  have hP : (18 : Int) * 169 ^ xs.length ≤ 2 ^ 40 := by
    have : xs.length = 0 ∨ xs.length = 1 ∨ xs.length = 2 ∨ xs.length = 3 ∨ xs.length = 4 := ar44 hl
    rcases this with e | e | e | e | e <;> rw [e] <;> decide
  refine ex1_5 (mvLoop k j _ xs 0 297 (putL "c" (.int c) (putL "b" (.int b) (putL "a" (.int a) [("form", .tup [.int a, .int b, .int c]), ("lines", .list j)]))) mem a b c 18 hx hj rfl hB hP (by decide) (by repeat' first | with_reducible assumption | (apply pkS; kernel_rfl!) | (apply pkR; kernel_rfl!) | (apply lkS; kernel_rfl!) | (apply lkR; kernel_rfl!)) (by repeat' first | with_reducible assumption | (apply pkS; kernel_rfl!) | (apply pkR; kernel_rfl!) | (apply lkS; kernel_rfl!) | (apply lkR; kernel_rfl!)) (by repeat' first | with_reducible assumption | (apply pkS; kernel_rfl!) | (apply pkR; kernel_rfl!) | (apply lkS; kernel_rfl!) | (apply lkR; kernel_rfl!)) (ar45 hl)) fun loc' e u2 u3 u4 u5 => ?_
  refine ⟨?_, ?_⟩
  · have hB : fdBody (st 27) = [_, .For (.Name (Str.ofString "line") _) _ mvBody [] _, _] := rfl
    change (run ⟨(default : Heap), globT, orcN raw0 k⟩ 297).F (fdScope (st 27)) _ _ _ _ _ = _ at e
    apply orcN_r (raw := raw0) (i := 27) (loc := [("form", .tup [.int a, .int b, .int c]), ("lines", .list j)]) rfl (by kernel_rfl!) (by kernel_rfl!) hB
    repeat' (first | (with_reducible (show _ = _; assumption)) | (with_reducible (show some _ = some _; rfl)) | (with_reducible first | apply E_nam | apply E_tup | apply Es_nil | apply Es_cons | apply S_unN | apply nmo0 | apply nmo1 | apply pA0 | apply pA1 | apply S_fo | apply I_vaN | apply S_ret | apply Ss_rR | apply Ss_nx) | (apply n_loc; kernel_rfl!; kernel_rfl!) | (apply pkS; kernel_rfl!) | (apply pkR; kernel_rfl!) | (apply lkS; kernel_rfl!) | (apply lkR; kernel_rfl!) | kernel_rfl!)
  · refine ex0_3 u5 ?_; (try clear u5); intro q1 q2 q3
    exact ⟨⟨ar46 hP q1, ar47 hP q1⟩, ⟨ar46 hP q2, ar47 hP q2⟩, ar46 hP q3, ar47 hP q3⟩
theorem mvL_eqv {p fa fb fc : Int} (hp : 0 < p) (κ : Int) : ∀ (ls : List Nat) (a b c : Int), Eqv fa fb fc a b c → Pos p a b c → Eqv fa fb fc (mvL κ ls (a, b, c)).1 (mvL κ ls (a, b, c)).2.1 (mvL κ ls (a, b, c)).2.2 ∧ Pos p (mvL κ ls (a, b, c)).1 (mvL κ ls (a, b, c)).2.1 (mvL κ ls (a, b, c)).2.2
  | [], a, b, c, h, hP => ⟨h, hP⟩
  | l :: ls, a, b, c, h, hP => by
    have hs : Pos p (a * stepOf κ l * stepOf κ l + b * stepOf κ l + c) (-b - 2 * a * stepOf κ l) a := by
      have h1 : Pos p a (b + 2 * a * stepOf κ l) (a * stepOf κ l * stepOf κ l + b * stepOf κ l + c) := ⟨by have := hP.d; grind, hP.a0⟩
      have h2 := h1.swap (h1.c0 hp)
      have e : -(b + 2 * a * stepOf κ l) = -b - 2 * a * stepOf κ l := by grind
      rw [e] at h2
      exact h2
    exact mvL_eqv hp κ ls _ _ _ (h.move (stepOf κ l)) hs
theorem mvAll_eqv {p fa fb fc : Int} (hp : 0 < p) : ∀ (xs : List Ln) (f : Int × Int × Int), Eqv fa fb fc f.1 f.2.1 f.2.2 → Pos p f.1 f.2.1 f.2.2 → Eqv fa fb fc (mvAll xs f).1 (mvAll xs f).2.1 (mvAll xs f).2.2 ∧ Pos p (mvAll xs f).1 (mvAll xs f).2.1 (mvAll xs f).2.2
  | [], f, h, hP => ⟨h, hP⟩
  | x :: xs, (a, b, c), h, hP => by
    have := mvL_eqv hp x.κ x.mn a b c h hP
    exact mvAll_eqv hp xs _ this.1 this.2
end Mine

section
namespace Mine
open PySem.Builtin.Str
noncomputable abbrev crlf : Str := mkS [13, 10]
theorem crlf_len : crlf.length = 2 := rfl
theorem sub_iff (l : List Nat) (k : Nat) : subAt (mkS l) crlf k = true ↔ (l.drop k).take 2 = [13, 10] := by
  unfold subAt
  rw [beq_iff_eq]
  constructor
  · intro h
    have := congrArg Array.toList h
    rw [Array.toList_extract] at this
    simpa [List.extract, crlf_len] using this
  · intro h
    apply Array.toList_inj.mp
    rw [Array.toList_extract]
    simpa [List.extract, crlf_len] using h
theorem at13 {l : List Nat} {n k : Nat} (h : StrLaws.At (mkS l) crlf n k) : l[k]? = some 13 := by
  have := (sub_iff l k).mp h.2
  have h2 := congrArg (fun m => m[0]?) this
  simp only [List.getElem?_take_of_lt (show 0 < 2 by decide), List.getElem?_drop, Nat.add_zero, List.getElem?_cons_zero] at h2
  exact h2
theorem split_parts : ∀ (ps : List (List Nat)) (l pre : List Nat) (cuts : List Nat) (f : Nat), (∀ p ∈ ps, 13 ∉ p) → l = pre ++ (ps.map fun p => p ++ [13, 10]).flatten → StrLaws.ChainG (mkS l) crlf l.length pre.length cuts f → (∀ k, f ≤ k → ¬ StrLaws.At (mkS l) crlf l.length k) →
    StrLaws.partsFrom (mkS l) 2 pre.length cuts = ps.map mkS ++ [mkS []] ∧ (ps ≠ [] → cuts ≠ []) := by
  intro ps
  induction ps with
  | nil =>
    intro l pre cuts f hp hl hc hn
    replace hl : l = pre := by simpa using hl
    subst hl
    induction cuts using List.casesOn with
    | nil =>
      refine ⟨?_, fun h => absurd rfl h⟩
      show [strSub (mkS l) l.length (mkS l).length] = [mkS []]
      rw [mkS_length]
      unfold strSub
      congr 1
      show (⟨(l.toArray).extract l.length l.length⟩ : Str) = ⟨#[]⟩
      congr 1
      simp
    | cons c r =>
      have h1 := hc.1
      have h2 := hc.2.1.1
      have : c + 2 ≤ l.length := h2
      omega
  | cons p ps ih =>
    intro l pre cuts f hp hl hc hn
    have h13 := hp p (.head _)
    have hl' : l = pre ++ (p ++ (13 :: 10 :: (ps.map fun p => p ++ [13, 10]).flatten)) := by rw [hl]; simp
    have hat : StrLaws.At (mkS l) crlf l.length (pre.length + p.length) := by
      refine ⟨?_, (sub_iff l _).mpr ?_⟩
      · show pre.length + p.length + 2 ≤ l.length
        rw [hl']; simp only [List.length_append, List.length_cons]; exact ar347
      · rw [hl', ← List.append_assoc, List.drop_append, List.length_append, Nat.sub_self, List.drop_of_length_le (by rw [List.length_append]; exact Nat.le_refl _)]
        rfl
    induction cuts using List.casesOn with
    | nil =>
      have e : f = pre.length := hc
      exact absurd hat (hn _ (ar348 e))
    | cons c r =>
      refine ex0_4 hc ?_; (try clear hc); intro c1 c2 c3 c4
      have hcc : c = pre.length + p.length := by
        rcases Nat.lt_trichotomy c (pre.length + p.length) with h | h | h
        · have := at13 c2
          rw [hl', List.getElem?_append_right c1, List.getElem?_append_left (ar349 c1 h)] at this
          exact absurd (List.mem_of_getElem? this) h13
        · exact h
        · exact absurd hat (c3 _ (ar350) h)
      subst hcc
      have hlen : (pre ++ (p ++ [13, 10])).length = pre.length + p.length + 2 := by simp only [List.length_append, List.length_cons, List.length_nil]; exact ar351
      have hcr : crlf.length = 2 := rfl
      rw [hcr, ← hlen] at c4
      refine ex0_2 (ih l (pre ++ (p ++ [13, 10])) r f (fun q hq => hp q (.tail _ hq)) (by rw [hl']; simp) c4 hn) fun e1 _ => ?_
      refine ⟨?_, fun _ h => by cases h⟩
      show strSub (mkS l) pre.length (pre.length + p.length) :: StrLaws.partsFrom (mkS l) 2 (pre.length + p.length + 2) r = _
      rw [← hlen, e1]
      have e2 : strSub (mkS l) pre.length (pre.length + p.length) = mkS p := by
        unfold strSub
        show (⟨(l.toArray).extract pre.length (pre.length + p.length)⟩ : Str) = ⟨p.toArray⟩
        congr 1
        apply Array.toList_inj.mp
        rw [Array.toList_extract, hl']
        simp [List.extract]
      rw [e2]
      rfl
theorem split_rows (ps : List (List Nat)) (hne : ps ≠ []) (hp : ∀ p ∈ ps, 13 ∉ p) : Txt.split (mkS (ps.map fun p => p ++ [13, 10]).flatten) crlf = ps.map mkS ++ [mkS []] := by
  generalize hl : (ps.map fun p => p ++ [13, 10]).flatten = l
  refine ex1_2 (StrLaws.occ_tight (mkS l) crlf (by decide)) fun f h1 h2 => ?_
  rw [mkS_length] at h1 h2
  refine ex0_2 (split_parts ps l [] _ f hp (by rw [← hl]; rfl) h1 h2) fun e1 e2 => ?_
  have hlen : 2 ≤ l.length := by
    induction ps using List.casesOn with
    | nil => exact absurd rfl hne
    | cons p ps => rw [← hl]; simp only [List.map_cons, List.flatten_cons, List.length_append, List.length_cons, List.length_nil]; exact ar352
  have hk : Builtin.Str.strKind crlf = 1 := by decide +kernel
  have hk2 : 1 ≤ Builtin.Str.strKind (mkS l) := by
    unfold Builtin.Str.strKind
    split
    · decide
    · split <;> decide
  unfold Txt.split
  rw [if_neg (by rw [Bool.or_eq_true, decide_eq_true_eq, decide_eq_true_eq, mkS_length, hk]; show ¬ (l.length < 2 ∨ strKind (mkS l) < 1); exact ar353 hlen hk2)]
  have hne' := e2 hne
  rw [mkS_length]
  rw [if_neg (by rw [List.isEmpty_iff]; exact hne')]
  rw [StrLaws.partsBetween_eq]
  exact e1
end Mine
end

namespace Mine
noncomputable abbrev b6 : Base := ⟨default, globT, orc0 6⟩
noncomputable abbrev sc29 : Scope := fdScope (st 29)
noncomputable def lawMid : List Stmt := ((fdBody (st 29)).drop 4).take 12
noncomputable def lawEnd : List Stmt := (fdBody (st 29)).drop 16
noncomputable def locP (p : Int) (l : Addr) : Loc := putL "p" (.int p) (putL "drawn" (.list 4) (putL "told" (.list 0) [("script", .ref l)]))
noncomputable def isNext : Ctl → Bool | .next => true | _ => false
noncomputable def tupV (t : Int × Int × Int) : V := .tup [.int t.1, .int t.2.1, .int t.2.2]
noncomputable def look5 (fi : Nat) (r : Ctl × Loc × Mem) : Bool × Option V × Option V × Option (List V) × Option (List V) := (isNext r.1, lkb "drawn" r.2.1, lkb "forms" r.2.1, r.2.2[fi]?, r.2.2[4]?)
theorem ss_app {b : Base} {sc : Scope} {rest : List Stmt} : ∀ (L : List Stmt) (N : Nat) (loc : Loc) (mem : Mem) (l1 : Loc) (m1 : Mem), (run b (N + L.length + 1)).Ss sc L loc mem = some (.next, l1, m1) → (run b (N + L.length + 1)).Ss sc (L ++ rest) loc mem = (run b (N + 1)).Ss sc rest l1 m1
  | [], N, loc, mem, l1, m1, h => by
    cases h
    rfl
  | s :: L, N, loc, mem, l1, m1, h => by
    replace h : stepSs (run b (N + L.length + 1)) sc (s :: L) loc mem = some (.next, l1, m1) := h
    show stepSs (run b (N + L.length + 1)) sc (s :: (L ++ rest)) loc mem = _
    unfold stepSs at h ⊢
    dsimp only at h ⊢
    refine ex1_2 (bind2 h) fun ob1 h1 h2 => ?_; obtain ⟨c, l2, m2⟩ := ob1
    rw [h1, Option.bind_some]
    induction c using Mine.Ctl.casesOn with
    | next => exact ss_app L N l2 m2 l1 m1 h2
    | ret v => cases h2
noncomputable def Mid (p : Int) (fs : List (Int × Int × Int)) (fi : Nat) : Prop := ∀ (l : Addr) (A0 A1 A2 A3 A4 A5 : List V), ((run b6 290).Ss sc29 lawMid (locP p l) [A0, A1, A2, A3, A4, A5]).map (look5 fi) = some (true, some (.list 4), some (.list fi), some (fs.map tupV), some A4)
theorem mid_on {p : Int} {fs : List (Int × Int × Int)} {fi : Nat} (h : Mid p fs fi) (l : Addr) (A0 A1 A2 A3 A4 A5 : List V) : ∃ l1 m1, (run b6 290).Ss sc29 (lawMid ++ lawEnd) (locP p l) [A0, A1, A2, A3, A4, A5] = (run b6 278).Ss sc29 lawEnd l1 m1 ∧ lkb "drawn" l1 = some (.list 4) ∧ lkb "forms" l1 = some (.list fi) ∧ m1[fi]? = some (fs.map tupV) ∧ m1[4]? = some A4 := by
  refine ex1_2 (map2 (h l A0 A1 A2 A3 A4 A5)) fun ob2 h1 h2 => ?_; obtain ⟨c, l1, m1⟩ := ob2
  simp only [look5, Prod.mk.injEq] at h2
  refine ex0_5 h2 fun h3 h4 h5 h6 h7 => ?_
  induction c using Mine.Ctl.casesOn with
  | ret v => cases h3
  | next =>
    have hl : lawMid.length = 12 := by kernel_rfl!
    have := ss_app (rest := lawEnd) lawMid 277 (locP p l) [A0, A1, A2, A3, A4, A5] l1 m1 (by rw [hl]; exact h1)
    rw [hl] at this
    exact ⟨l1, m1, this, h4, h5, h6, h7⟩
noncomputable def fs23 : List (Int × Int × Int) := [(1, 1, 6), (2, -1, 3), (2, 1, 3)]
theorem mid23 : Mid 23 fs23 32 := by
  intro l A0 A1 A2 A3 A4 A5
  kernel_rfl!
noncomputable def fs31 : List (Int × Int × Int) := [(1, 1, 8), (2, -1, 4), (2, 1, 4)]
theorem mid31 : Mid 31 fs31 40 := by
  intro l A0 A1 A2 A3 A4 A5
  kernel_rfl!
noncomputable def fs47 : List (Int × Int × Int) := [(1, 1, 12), (2, -1, 6), (2, 1, 6), (3, -1, 4), (3, 1, 4)]
theorem mid47 : Mid 47 fs47 56 := by
  intro l A0 A1 A2 A3 A4 A5
  kernel_rfl!
noncomputable def fs59 : List (Int × Int × Int) := [(1, 1, 15), (3, -1, 5), (3, 1, 5)]
theorem mid59 : Mid 59 fs59 68 := by
  intro l A0 A1 A2 A3 A4 A5
  kernel_rfl!
noncomputable def fs11 : List (Int × Int × Int) := [(1, 1, 3)]
theorem mid11 : Mid 11 fs11 20 := by
  intro l A0 A1 A2 A3 A4 A5
  kernel_rfl!
noncomputable def fs71 : List (Int × Int × Int) := [(1, 1, 18), (2, -1, 9), (2, 1, 9), (3, -1, 6), (3, 1, 6), (4, -3, 5), (4, 3, 5)]
theorem mid71 : Mid 71 fs71 80 := by
  intro l A0 A1 A2 A3 A4 A5
  kernel_rfl!
end Mine

namespace Mine
noncomputable def toldL : List Int := [0, 2, 112, 157, 371]
noncomputable def loc0 (l : Addr) : Loc := putL "told" (.list 0) [("script", .ref l)]
theorem st0 (b : Base) (n : Nat) (l : Addr) : (run b (n + 16)).S sc29 (sx 29 0) [("script", .ref l)] [] = some (.next, loc0 l, [toldL.map .int]) := by kernel_rfl!
theorem drawn2 (n : Nat) (l : Addr) (sl : List V) : ∀ dr : List Int, dr.length ≤ 5 → (run b6 (n + 16)).S sc29 (sx 29 2) (putL "drawn" (.list 2) (loc0 l)) [toldL.map .int, sl, dr.map .int] = some (.next, putL "drawn" (.list 4) (loc0 l), [toldL.map .int, sl, dr.map .int, (toldL.drop dr.length).map .int, (dr ++ toldL.drop dr.length).map .int])
  | [], _ => by kernel_rfl!
  | [a], _ => by kernel_rfl!
  | [a, b], _ => by kernel_rfl!
  | [a, b, c], _ => by kernel_rfl!
  | [a, b, c, d], _ => by kernel_rfl!
  | [a, b, c, d, e], _ => by kernel_rfl!
  | a :: b :: c :: d :: e :: f :: g, h => absurd h (by simp)
theorem E_idx {b : Base} {n : Nat} {sc : Scope} {v i : PySem.Expr} {pos : PySem.Pos} {loc : Loc} {mem m1 m2 : Mem} {x y u : V} (hs : ∀ lo hi st p, i ≠ .Slice lo hi st p) (h1 : (run b n).E sc v loc mem = some (x, m1)) (h2 : (run b n).E sc i loc m1 = some (y, m2)) (h3 : idxV x y m2 = some u) : (run b (n + 1)).E sc (.Subscript v i pos) loc mem = some (u, m2) := by
  refine bS h1 ?_
  cases i <;> first | (exfalso; exact hs _ _ _ _ rfl) | exact bS h2 (mS h3)
noncomputable def ptab : List Int := [23, 31, 47, 59, 11, 71]
theorem prime3 (b : Base) (n : Nat) (l : Addr) (A0 A1 A2 A3 dt : List V) (d0 p : Int) (hp : ptab[(d0.fmod 6).toNat]? = some p) : (run b (n + 20)).S sc29 (sx 29 3) (putL "drawn" (.list 4) (loc0 l)) [A0, A1, A2, A3, .int d0 :: dt] = some (.next, locP p l, [A0, A1, A2, A3, .int d0 :: dt, ptab.map .int]) := by
  have hB : sx 29 3 = .Assign [.Name "p" _] (.Subscript (.List _ _) (.BinOp _ _ _ _) _) _ := rfl
  rw [hB]
  have m6 := Int.fmod_nonneg_of_pos d0 (b := 6) (by decide)
  have n6 := Int.fmod_lt_of_pos d0 (b := 6) (by decide)
  refine S_asg (n := n + 19) (by kernel_rfl!) rfl (E_idx (n := n + 18) (x := .list 5) (y := .int (d0.fmod 6)) (m1 := [A0, A1, A2, A3, .int d0 :: dt, ptab.map .int]) (fun _ _ _ _ h => by cases h) (by kernel_rfl!) (by kernel_rfl!) ?_)
  have e1 : decide (0 ≤ d0.fmod 6) = true := decide_eq_true m6
  have e2 : decide (d0.fmod 6 < 2 ^ 63) = true := decide_eq_true (ar271 m6 n6)
  refine x_lst (vs := ptab.map V.int) rfl (by rw [e1, e2]; rfl) ?_
  show (ptab.map V.int)[(d0.fmod 6).toNat]? = _
  rw [List.getElem?_map, hp]
  rfl
end Mine

namespace Mine
noncomputable def hearC (l : List Nat) : List (List Nat) := (l.filter fun c => !signs.contains c).map fun c => (lkL c letters).getD []
theorem hearC_app (l m : List Nat) : hearC (l ++ m) = hearC l ++ hearC m := by unfold hearC; rw [List.filter_append, List.map_append]
noncomputable def charOk (c : Nat) : Prop := signs.contains c = true ∨ ∃ r, lkL c letters = some r
theorem letters_ns : letters.all (fun p => !signs.contains p.1) = true := by decide +kernel
theorem lkL_in {c : Nat} {r : List Nat} : ∀ {l : List (Nat × List Nat)}, lkL c l = some r → (c, r) ∈ l
  | (d, q) :: l, h => by
    unfold lkL at h
    cases e : c == d with
    | true =>
      rw [e, cond_true] at h
      cases h
      rw [eq_of_beq e]
      exact .head _
    | false =>
      rw [e, cond_false] at h
      exact .tail _ (lkL_in h)
theorem letter_ns {c : Nat} {r : List Nat} (h : lkL c letters = some r) : signs.contains c = false := by
  have := List.all_eq_true.mp letters_ns _ (lkL_in h)
  simpa using this
theorem hear_dots (n : Nat) : (hearC (dots n)).flatten = dots n := by
  induction n with
  | zero => rfl
  | succ n ih =>
    show (hearC ([46] ++ dots n)).flatten = [46] ++ dots n
    rw [hearC_app, List.flatten_append, ih]
    rfl
theorem hear_mark {m : Nat} (h : m ∈ signs) (l : List Nat) : hearC (m :: l) = hearC l := by
  unfold hearC
  rw [List.filter_cons_of_neg]
  rw [List.contains_iff_mem.mpr h]
  exact Bool.false_ne_true
theorem hear_sp {c : Nat} {r : List Nat} (h : lkL c letters = some r) : hearC [c] = [r] := by
  unfold hearC
  rw [List.filter_cons_of_pos (by rw [letter_ns h]; rfl)]
  show [(lkL c letters).getD []] = _
  rw [h]; rfl
theorem dot_ok : charOk 46 := .inr ⟨[46], rfl⟩
theorem dots_ok {n c : Nat} (h : c ∈ dots n) : charOk c := by rw [dots_mem h]; exact dot_ok
theorem loud_ok {r : Row} (g : RowGood r) : (∀ c ∈ r.loud, charOk c) ∧ (hearC r.loud).flatten = r.heard := by
  refine ex1_3 g.sp fun c hc hl _ => ?_
  have hm : charOk r.mark := .inl (List.contains_iff_mem.mpr g.mrk)
  have hcc : charOk c := .inr ⟨_, hl⟩
  unfold Row.loud Row.heard Row.cnt'
  cases hf : r.first with
  | true =>
    have hmo : r.more = false := by unfold Row.more; rw [hf]; rfl
    rw [hmo, cond_false, cond_false]
    unfold Row.line
    rw [hf, cond_true, hc]
    refine ⟨fun x hx => ?_, ?_⟩
    · rcases List.mem_cons.mp hx with rfl | hx
      · exact hm
      · rcases List.mem_append.mp hx with hx | hx
        · exact dots_ok hx
        · rw [List.mem_singleton.mp hx]; exact hcc
    · rw [hear_mark g.mrk, hearC_app, List.flatten_append, hear_dots, hear_sp hl]
      simp
  | false =>
    have hline : r.line = dots r.cnt ++ r.mark :: [c] := by unfold Row.line; rw [hf, cond_false, hc]
    have h1 : ∀ x ∈ r.line, charOk x := by
      intro x hx
      rw [hline] at hx
      rcases List.mem_append.mp hx with hx | hx
      · exact dots_ok hx
      · rcases List.mem_cons.mp hx with rfl | hx
        · exact hm
        · rw [List.mem_singleton.mp hx]; exact hcc
    have h2 : (hearC r.line).flatten = dots r.cnt ++ r.mn := by
      rw [hline, hearC_app, hear_mark g.mrk, List.flatten_append, hear_dots, hear_sp hl]
      simp
    cases hmo : r.more with
    | false => rw [cond_false, cond_false]; exact ⟨h1, h2⟩
    | true =>
      rw [cond_true, cond_true]
      refine ⟨fun x hx => ?_, ?_⟩
      · rcases List.mem_cons.mp hx with rfl | hx
        · exact dot_ok
        · exact h1 x hx
      · show (hearC ([46] ++ r.line)).flatten = _
        rw [hearC_app, List.flatten_append, h2]
        rfl
theorem go_ok {t : V → Option Bool} {f : V → Option V} (ht : ∀ c, charOk c → t (.str [c]) = some (!signs.contains c)) (hf : ∀ c r, lkL c letters = some r → f (.str [c]) = some (.str r)) : ∀ l : List Nat, (∀ c ∈ l, charOk c) → compGo t f (l.map fun c => V.str [c]) = some ((hearC l).map .str)
  | [], _ => rfl
  | c :: l, h => by
    have ih := go_ok ht hf l fun x hx => h x (.tail _ hx)
    rw [List.map_cons, compGo]
    rw [show flat (.str [c]) = true from rfl, cond_true, ht c (h c (.head _)), Option.bind_some]
    rcases h c (.head _) with hs | ⟨r, hr⟩
    · rw [hs, show (!true) = false from rfl, cond_false, ih, hear_mark (List.contains_iff_mem.mp hs)]
    · rw [letter_ns hr, show (!false) = true from rfl, cond_true, hf c r hr, Option.bind_some, show flat (.str r) = true from rfl, cond_true, ih]
      show some _ = some ((hearC ([c] ++ l)).map V.str)
      rw [hearC_app, hear_sp hr]
      rfl
end Mine

namespace Mine
theorem nMS {α : Type} {x : Option (α × Mem)} {a : α} (h : x = some (a, [])) : noMem x = some a := by subst h; rfl
theorem freeL_nil {scope : Scope} (h : (scope.names.all fun y => y.2 != .free) = true) (loc : Loc) : freeL scope loc = [] := by
  unfold freeL
  rw [List.filter_eq_nil_iff]
  intro y _ hy
  replace hy := eq_of_beq hy
  rw [lkb_eq] at hy
  have := List.all_eq_true.mp h _ (PySem.mem_of_lookup_some hy)
  simp at this
theorem E_comp {b : Base} {n : Nat} {sc scope : Scope} {elt it : PySem.Expr} {x : Str} {px pos : PySem.Pos} {ifs : List PySem.Expr} {loc : Loc} {mem m1 : Mem} {k : Wk} {l m : List V} (hc : (decide (ifs.length ≤ 1) && compOk scope sc x && !isSet it) = true) (hf : freeL scope loc = []) (hI : (run b n).I sc it loc mem = some (k, m1)) (hi : itemsOf m1 k = some l) (hl : lit l.length = true)
    (hg : compGo (fun u => testsGo (run (strong b) n) (relabelS scope sc) [(x, u)] ifs) (fun u => noMem ((run (strong b) n).E (relabelS scope sc) elt [(x, u)] [])) l = some m) : (run b (n + 1)).E sc (.ListComp elt [⟨.Name x px, it, ifs, 0⟩] scope pos) loc mem = some (.list m1.length, m1 ++ [m]) := cS (by rw [hf]; simpa using hc) (bS hI (bS hi (cS hl (mS (by rw [hf]; exact hg)))))
noncomputable def tlBody : List Stmt := forBody (sx 29 20)
noncomputable def lc20 : PySem.Expr := match tlBody with | [.Expr (.Call _ [.Call _ [lc] _ _] _ _) _] => lc | _ => default
noncomputable def eltOf : PySem.Expr → PySem.Expr | .ListComp e _ _ _ => e | _ => default
noncomputable def ifsOf : PySem.Expr → List PySem.Expr | .ListComp _ [⟨_, _, ifs, _⟩] _ _ => ifs | _ => []
noncomputable def scOf : PySem.Expr → Scope | .ListComp _ _ s _ => s | _ => default
noncomputable def SC20 : Scope := relabelS (scOf lc20) sc29
theorem t20 (n c : Nat) (h : charOk c) : testsGo (run (strong b6) (n + 8)) SC20 [("sign", .str [c])] (ifsOf lc20) = some (!signs.contains c) := by
  have hB : ifsOf lc20 = [.UnaryOp .Not (.Call (.Name (Str.ofString "in_table_c6") _) [.Name (Str.ofString "sign") _] [] _) _] := rfl
  have g1 : (strong b6).glob (Str.ofString "in_table_c6") = some (.ref 184) := by kernel_rfl!
  have e : (strong b6).orc 184 [.str [c]] [] = some (.bool (signs.contains c), []) := by
    show cond (signs.contains c) _ _ = _
    rcases h with h | ⟨r, h⟩
    · rw [h, cond_true]
    · rw [letter_ns h, cond_false, h]; rfl
  rw [hB]
  apply nMS
  repeat' (first | (with_reducible (show _ = _; assumption)) | (with_reducible (show some _ = some _; rfl)) | (with_reducible first | apply E_nam | apply E_call | apply k_ref | apply Es_nil | apply Es_cons | apply T_not | apply T_call) | (apply n_loc; kernel_rfl!; kernel_rfl!) | (apply n_glo; kernel_rfl!; kernel_rfl!) | (apply lkS; kernel_rfl!) | kernel_rfl!)
theorem f20 (n c : Nat) (r : List Nat) (h : lkL c letters = some r) : noMem ((run (strong b6) (n + 8)).E SC20 (eltOf lc20) [("sign", .str [c])] []) = some (.str r) := by
  have hB : eltOf lc20 = .Call (.Name (Str.ofString "map_table_b3") _) [.Name (Str.ofString "sign") _] [] _ := rfl
  have g1 : (strong b6).glob (Str.ofString "map_table_b3") = some (.ref 172) := by kernel_rfl!
  have e : (strong b6).orc 172 [.str [c]] [] = some (.str r, []) := by
    show (lkL c letters).map _ = _
    rw [h]; rfl
  rw [hB]
  apply nMS
  repeat' (first | (with_reducible (show _ = _; assumption)) | (with_reducible (show some _ = some _; rfl)) | (with_reducible first | apply E_nam | apply E_call | apply k_ref | apply Es_nil | apply Es_cons) | (apply n_loc; kernel_rfl!; kernel_rfl!) | (apply n_glo; kernel_rfl!; kernel_rfl!) | (apply lkS; kernel_rfl!) | kernel_rfl!)
theorem lc_ok (n : Nat) (loc : Loc) (mem : Mem) (tx : List Nat) (ht : ∀ c ∈ tx, charOk c) (hl : tx.length ≤ 1000) (h1 : lkb "line" loc = some (.str tx)) : (run b6 (n + 9)).E sc29 lc20 loc mem = some (.list mem.length, mem ++ [(hearC tx).map .str]) := by
  have hB : lc20 = .ListComp (eltOf lc20) [⟨.Name (Str.ofString "sign") _, .Name (Str.ofString "line") _, ifsOf lc20, 0⟩] (scOf lc20) _ := rfl
  rw [hB]
  refine E_comp (n := n + 8) (k := .chars tx) (l := tx.map fun c => .str [c]) (by kernel_rfl!) (freeL_nil (by kernel_rfl!) loc) ?_ rfl (by unfold lit; rw [List.length_map]; exact decide_eq_true hl) (go_ok (fun c hc => t20 n c hc) (fun c r hc => f20 n c r hc) tx ht)
  exact I_chr rfl rfl (E_nam (n_loc (by kernel_rfl!) (by kernel_rfl!) h1))
theorem strsOf_map : ∀ l : List (List Nat), strsOf (l.map .str) = some l
  | [] => rfl
  | a :: l => by rw [List.map_cons, strsOf, strsOf_map l]; rfl
end Mine

namespace Mine
theorem nlines : lkb "lines" sc29.names = some .local := by kernel_rfl!
theorem plc : plainE lc20 = true := by kernel_rfl!
theorem E_meth {b : Base} {n : Nat} {sc : Scope} {o : PySem.Expr} {name : Str} {apos pos : PySem.Pos} {args : List PySem.Expr} {loc : Loc} {mem m1 m2 : Mem} {x : V} {vs : List V} {r : Option (V × Mem)} (hc : (!isCall o && apos.endLine == pos.line && decide (args.length < 3) && args.all plainE) = true) (h1 : (run b n).E sc o loc mem = some (x, m1)) (h2 : (run b n).Es sc args loc m1 = some (vs, m2)) (h3 : methV name x vs m2 = r) :
    (run b (n + 1)).E sc (.Call (.Attribute o name apos) args [] pos) loc mem = r := cS hc (bS h1 (bS h2 h3))
theorem Es_one {b : Base} {n : Nat} {sc : Scope} {e : PySem.Expr} {loc : Loc} {mem m1 : Mem} {v : V} (hp : plainE e = true) (h : (run b (n + 1)).E sc e loc mem = some (v, m1)) : (run b (n + 2)).Es sc [e] loc mem = some ([v], m1) := Es_cons hp h rfl
theorem S_expr {b : Base} {n : Nat} {sc : Scope} {e : PySem.Expr} {pos : PySem.Pos} {loc : Loc} {mem m1 : Mem} (hc : isComp e = false) (h : (run b n).E sc e loc mem = some (.none, m1)) : (run b (n + 1)).S sc (.Expr e pos) loc mem = some (.next, loc, m1) := S_exp hc h
theorem E_nm {b : Base} {n : Nat} {sc : Scope} {x : Str} {pos : PySem.Pos} {loc : Loc} {mem : Mem} {v : V} (h : nameV b sc x loc = some v) : (run b (n + 1)).E sc (.Name x pos) loc mem = some (v, mem) := mS h
theorem E_cst {b : Base} {n : Nat} {sc : Scope} {c : Const} {k : Nat} {pos : PySem.Pos} {loc : Loc} {mem : Mem} {v : V} (h : cV c = some v) : (run b (n + 1)).E sc (.Constant c k pos) loc mem = some (v, mem) := mS h
theorem cv0 : cV (.str "") = some (.str []) := by kernel_rfl!
theorem nm_loc {b : Base} {sc : Scope} {x : Str} {loc : Loc} {v : V} (hd : sEq x "__debug__" = false) (hk : lkb x sc.names = some .local) (h : lkb x loc = some v) : nameV b sc x loc = some v := n_loc hd hk h
theorem join_meth {mem : Mem} {j : Nat} {l : List (List Nat)} (hm : mem[j]? = some (l.map V.str)) (hl : (l.flatten).length ≤ 1000) : methV "join" (.str []) [.list j] mem = some (.str l.flatten, mem) := by
  have ej : ((fun x : Str => x.cps.toList) ∘ mkS) = id := by funext x; rfl
  have eJ : Txt.join (mkS []) (l.map mkS) = mkS l.flatten := by rw [join_nil, List.map_map, ej, List.map_id]
  have eF : JoinOk (mkS []) (l.map mkS) = true := by
    refine join_fits ?_
    rw [List.map_map, ej, List.map_id]
    exact ar413 hl
  exact cS rfl (bS hm (bS (strsOf_map l) (cS eF (by rw [eJ]))))
theorem app_meth {mem : Mem} {j : Nat} {old : List V} {v : V} (hm : mem[j]? = some old) (ho : lit old.length = true) (h0 : (j == 0) = false) : methV "append" (.list j) [v] mem = some (.none, mem.set j (old ++ [v])) := m_app hm ho h0
theorem turn20 (n : Nat) (loc : Loc) (mem : Mem) (r : Row) (g : RowGood r) (hll : r.loud.length ≤ 10) (hhl : r.heard.length ≤ 10) (li : Nat) (old : List V) (h1 : lkb "line" loc = some (.str r.loud)) (h2 : lkb "lines" loc = some (.list li)) (h0 : (li == 0) = false) (hm : mem[li]? = some old) (ho : lit old.length = true) :
    (run b6 (n + 20)).Ss sc29 tlBody loc mem = some (.next, loc, (mem ++ [(hearC r.loud).map V.str]).set li (old ++ [V.str r.heard])) := by
  refine ex0_2 (loud_ok g) fun ht hh => ?_
  have hB : tlBody = [.Expr (.Call (.Attribute (.Name "lines" _) "append" _) [.Call (.Attribute (.Constant (.str "") _ _) "join" _) [lc20] [] _] [] _) _] := rfl
  have eL : (run b6 (n + 14)).E sc29 lc20 loc mem = some (.list mem.length, mem ++ [(hearC r.loud).map V.str]) := lc_ok (n + 5) loc mem r.loud ht (ar414 hll) h1
  have m1 : (mem ++ [(hearC r.loud).map V.str])[mem.length]? = some ((hearC r.loud).map V.str) := by rw [List.getElem?_append_right (Nat.le_refl _), Nat.sub_self]; rfl
  have m2 : (mem ++ [(hearC r.loud).map V.str])[li]? = some old := mget_old hm _
  rw [hB]
  refine (ss_next (b := b6) (n := n + 19) (l1 := loc) (m1 := (mem ++ [(hearC r.loud).map V.str]).set li (old ++ [V.str r.heard])) ?_).trans rfl
  refine S_expr (n := n + 18) rfl ?_
  refine E_meth (n := n + 17) (m1 := mem) (m2 := mem ++ [(hearC r.loud).map V.str]) (vs := [.str r.heard]) (by kernel_rfl!) (E_nm (n := n + 16) (nm_loc (by kernel_rfl!) nlines h2)) ?_ (app_meth m2 ho h0)
  refine Es_one (n := n + 15) rfl ?_
  refine E_meth (n := n + 15) (m1 := mem) (m2 := mem ++ [(hearC r.loud).map V.str]) (vs := [.list mem.length]) (by kernel_rfl!) (E_cst (n := n + 14) cv0) (Es_one (n := n + 13) plc eL) ?_
  rw [← hh]
  exact join_meth m1 (by rw [hh]; exact ar414 hhl)
end Mine

namespace Mine
theorem heard_len {r : Row} (g : RowGood r) : r.heard.length ≤ 10 ∧ r.loud.length ≤ 10 := by
  refine ex1_2 g.sp fun c hc _ => ?_
  have h1 := g.cnt
  have h2 : r.mn.length ≤ 2 := by rcases g.mn with h | h | h <;> rw [h] <;> decide
  unfold Row.heard Row.loud Row.cnt' Row.line
  rw [hc]
  constructor
  · rw [List.length_append, dots_len]
    cases r.more <;> simp only [cond_true, cond_false] <;> omega
  · cases r.more <;> cases r.first <;> simp only [cond_true, cond_false, List.length_cons, List.length_append, dots_len, List.length_nil] <;> omega
theorem loop20 (j li : Nat) (hji : j ≠ li) (h0 : (li == 0) = false) (D : List V) : ∀ (rs : List Row) (i N : Nat) (loc : Loc) (mem : Mem) (old : List V), (∀ r ∈ rs, RowGood r) → mem[j]? = some D → D.drop i = rs.map (fun r => V.str r.loud) → lkb "lines" loc = some (.list li) → mem[li]? = some old → old.length + rs.length ≤ 100 → rs.length + 30 ≤ N →
    ∃ loc' mem', (run b6 N).F sc29 "line" (.lst j i) tlBody loc mem = some (.next, loc', mem') ∧ mem'[li]? = some (old ++ rs.map fun r => V.str r.heard) ∧ (∀ k, k ≠ li → k < mem.length → mem'[k]? = mem[k]?) ∧ mem.length ≤ mem'.length ∧ (∀ y : Str, sEq y "line" = false → lkb y loc' = lkb y loc) := by
  intro rs
  induction rs with
  | nil =>
    intro i N loc mem old hg hD hd hl hm ho hN
    obtain ⟨N, rfl⟩ : ∃ m, N = m + 1 := ⟨N - 1, ar297 ho hN⟩
    have hi : D[i]? = none := by
      rw [List.getElem?_eq_none_iff]
      have := congrArg List.length hd
      rw [List.length_drop] at this
      simp at this
      exact ar30 this
    refine ⟨loc, mem, ?_, by rw [List.map_nil, List.append_nil]; exact hm, fun k _ _ => rfl, Nat.le_refl _, fun y _ => rfl⟩
    rw [run_F]
    unfold stepF
    rw [nextW, hD]
    show ((some (match D[i]? with | none => none | some v => some (v, Wk.lst j (i + 1)))).bind _) = _
    rw [hi]
    rfl
  | cons r rs ih =>
    intro i N loc mem old hg hD hd hl hm ho hN
    obtain ⟨N, rfl⟩ : ∃ m, N = m + 21 := ⟨N - 21, by rw [List.length_cons] at hN; exact ar298 hN⟩
    rw [List.length_cons] at ho hN
    have g := hg r (.head _)
    have hi : D[i]? = some (.str r.loud) := by
      have := congrArg (fun l => l[0]?) hd
      simpa using this
    have hdr : D.drop (i + 1) = rs.map fun r => V.str r.loud := by
      have := congrArg List.tail hd
      rw [List.tail_drop] at this
      simpa using this
    have hjl : j < mem.length := (List.getElem?_eq_some_iff.mp hD).1
    have hll : li < mem.length := (List.getElem?_eq_some_iff.mp hm).1
    refine ex0_2 (heard_len g) fun hl1 hl2 => ?_
    have T := turn20 N (putL "line" (.str r.loud) loc) mem r g hl2 hl1 li old (by repeat' first | with_reducible assumption | (apply pkS; kernel_rfl!) | (apply pkR; kernel_rfl!)) (by repeat' first | with_reducible assumption | (apply pkS; kernel_rfl!) | (apply pkR; kernel_rfl!)) h0 hm (by unfold lit; exact decide_eq_true (ar126 ho))
    obtain ⟨loc', mem', e1, e2, e3, e4, e5⟩ := ih (i + 1) (N + 20) (putL "line" (.str r.loud) loc) ((mem ++ [(hearC r.loud).map V.str]).set li (old ++ [V.str r.heard])) (old ++ [V.str r.heard]) (fun x hx => hg x (.tail _ hx)) (by rw [List.getElem?_set_ne (Ne.symm hji)]; exact mget_old hD _) hdr (by repeat' first | with_reducible assumption | (apply pkS; kernel_rfl!) | (apply pkR; kernel_rfl!)) (by rw [List.getElem?_set_self (by rw [List.length_append]; exact ar299 hll)]) (by rw [List.length_append, List.length_singleton]; exact ar300 ho) (ar301 hN)
    refine ⟨loc', mem', ?_, ?_, fun k h1 h2 => ?_, ?_, fun y hy => ?_⟩
    · rw [run_F]
      unfold stepF
      rw [nextW, hD]
      show ((some (match D[i]? with | none => none | some v => some (v, Wk.lst j (i + 1)))).bind _) = _
      rw [hi]
      show cond (kindOk sc29 "line") _ none = _
      rw [show kindOk sc29 "line" = true by kernel_rfl!, cond_true, T, Option.bind_some]
      exact e1
    · rw [e2, List.map_cons, List.append_assoc]; rfl
    · rw [e3 k h1 (by rw [List.length_set, List.length_append]; exact ar299 h2), List.getElem?_set_ne (Ne.symm h1), List.getElem?_append_left h2]
    · rw [List.length_set, List.length_append] at e4; exact ar302 e4
    · rw [e5 y hy, lkb_put, hy]; rfl
theorem E_sliU' {b : Base} {n : Nat} {sc : Scope} {v u : PySem.Expr} {p pos : PySem.Pos} {loc : Loc} {mem m1 m2 : Mem} {x : V} {k : Int} {r : Option (V × Mem)} (h1 : (run b n).E sc v loc mem = some (x, m1)) (h2 : (run b n).E sc u loc m1 = some (.int k, m2)) (h3 : sliV x none (some k) m2 = r) : (run b (n + 1)).E sc (.Subscript v (.Slice none (some u) none p) pos) loc mem = r := bS h1 (bS h2 h3)
theorem E_sliL' {b : Base} {n : Nat} {sc : Scope} {v u : PySem.Expr} {p pos : PySem.Pos} {loc : Loc} {mem m1 m2 : Mem} {x : V} {k : Int} {r : Option (V × Mem)} (h1 : (run b n).E sc v loc mem = some (x, m1)) (h2 : (run b n).E sc u loc m1 = some (.int k, m2)) (h3 : sliV x (some k) none m2 = r) : (run b (n + 1)).E sc (.Subscript v (.Slice (some u) none none p) pos) loc mem = r := bS h1 (bS h2 h3)
theorem split_meth {mem : Mem} {l : List Nat} {ps : List (List Nat)} (hne : ps ≠ []) (hp : ∀ p ∈ ps, 13 ∉ p) (hl : l = (ps.map fun p => p ++ [13, 10]).flatten) (hz : l.length ≤ 1000) : methV (Str.ofString "split") (.str l) [.str [13, 10]] mem = some (.list mem.length, mem ++ [ps.map V.str ++ [V.str []]]) := by
  have e3 : lit l.length = true := decide_eq_true hz
  have e4 := split_rows ps hne hp
  rw [← hl] at e4
  have e5 : Txt.split (mkS l) (mkS [13, 10]) = ps.map mkS ++ [mkS []] := e4
  refine cS e3 ?_
  show some (V.list mem.length, mem ++ [(Txt.split (mkS l) (mkS [13, 10])).map fun x => V.str x.cps.toList]) = _
  rw [e5, List.map_append, List.map_map]
  rfl
theorem cut_last {ps : List V} {x : V} {mem : Mem} {j : Nat} (hm : mem[j]? = some (ps ++ [x])) (hl : ps.length ≤ 1000) : sliV (.list j) none (some (-1)) mem = some (.list mem.length, mem ++ [ps]) := by
  have e1 : decide ((ps ++ [x]).length ≤ 2097152) = true := decide_eq_true (by rw [List.length_append, List.length_singleton]; exact ar303 hl)
  have e2 : cut (ps ++ [x]) none (some (-1)) = some ps := by
    show some ((ps ++ [x]).take ((ps ++ [x]).length - 1)) = _
    rw [List.length_append, List.length_singleton, Nat.add_sub_cancel, List.take_left]
  exact bS hm (cS e1 (mS e2))
end Mine

section
namespace Mine
theorem S_unpack {b : Base} {n : Nat} {sc : Scope} {ts : List PySem.Expr} {v : PySem.Expr} {k : Nat} {p pos : PySem.Pos} {loc loc' : Loc} {mem m1 : Mem} {l : List V} {xs : List Str} (hE : (run b n).E sc v loc mem = some (.tup l, m1)) (hc : isComp v = false) (hn : namesOf ts = some xs) (hw : swapS sc ts v = some none) (hp : putAll sc xs l loc = some loc') : (run b (n + 1)).S sc (.Assign [.Tuple ts k p] v pos) loc mem = some (.next, loc', m1) := S_unp hE hc hn hw hp
theorem E_callF {b : Base} {n : Nat} {sc : Scope} {x : Str} {p pos : PySem.Pos} {a : PySem.Expr} {as : List PySem.Expr} {loc : Loc} {mem m1 : Mem} {f : Addr} {vs : List V} {r : Option (V × Mem)} (hx : nameV b sc x loc = some (.ref f)) (hp : (a :: as).all plainE = true) (h : (run b n).Es sc (a :: as) loc mem = some (vs, m1)) (ho : b.orc f vs m1 = r) : (run b (n + 1)).E sc (.Call (.Name x p) (a :: as) [] pos) loc mem = r := bS hx (bS h (cS hp ho))
theorem S_if {b : Base} {n : Nat} {sc : Scope} {t : PySem.Expr} {x : List Stmt} {pos : PySem.Pos} {loc : Loc} {mem m1 : Mem} (h : (run b (n + 1)).T sc t loc mem = some (false, m1)) : (run b (n + 2)).S sc (.If t x [] pos) loc mem = some (.next, loc, m1) := S_ite h (cF rfl)
theorem nm_glob {sc : Scope} {x : Str} {loc : Loc} {v : V} (hd : sEq x "__debug__" = false) (hk : lkb x sc.names = some .globalImplicit) (h : globT x = some v) : nameV b6 sc x loc = some v := n_glo hd hk h
theorem n29 : (["written", "sent", "heard", "came", "lines", "drawn", "forms", "first", "place", "back"] : List String).all (fun x => lkb (Str.ofString x) sc29.names == some .local && !sEq (Str.ofString x) "__debug__") = true := by kernel_rfl!
theorem E_v {n : Nat} {x : String} {pos : PySem.Pos} {loc : Loc} {mem : Mem} {v : V} (hx : x ∈ ["written", "sent", "heard", "came", "lines", "drawn", "forms", "first", "place", "back"]) (h : lkb (Str.ofString x) loc = some v) : (run b6 (n + 1)).E sc29 (.Name (Str.ofString x) pos) loc mem = some (v, mem) := by
  have := List.all_eq_true.mp n29 x hx
  simp only [Bool.and_eq_true] at this
  exact E_nm (nm_loc (by simpa using this.2) (eq_of_beq this.1) h)
structure Drawn4 (ds : List Int) : Prop where
  len : ds.length = 4
  pos : ∀ d ∈ ds, 0 ≤ d
noncomputable abbrev wrL (ds : List Int) : List Nat := (ds.map fun v => wrOf (rowOf v)).flatten
noncomputable abbrev seL (ds : List Int) : List Nat := (ds.map fun v => seOf (rowOf v)).flatten
noncomputable abbrev hdV (ds : List Int) : List V := ds.map fun v => V.str (rowOf v).heard
noncomputable abbrev mailM (ds : List Int) (m : Mem) : Mem := m ++ [spellL.map V.str] ++ [meantL.map V.str] ++ [endsL.map V.str]
variable {ds : List Int}
theorem Drawn4.good (D : Drawn4 ds) {v : Int} (hv : v ∈ ds) : RowGood (rowOf v) := rowGood (rowOf_ok v (D.pos v hv))
theorem flat_len {α : Type} (f : α → List Nat) (k : Nat) : ∀ l : List α, (∀ x ∈ l, (f x).length ≤ k) → ((l.map f).flatten).length ≤ k * l.length
  | [], _ => Nat.zero_le _
  | x :: l, h => by
    rw [List.map_cons, List.flatten_cons, List.length_append, List.length_cons, Nat.mul_succ]
    have := h x (.head _)
    have := flat_len f k l fun y hy => h y (.tail _ hy)
    omega
theorem wr_len (D : Drawn4 ds) : (wrL ds).length ≤ 100 := by
  have := flat_len (fun v => wrOf (rowOf v)) 20 ds fun v hv => by
    have h1 := line_len (rowOf_ok v (D.pos v hv))
    have h2 := (rowOf_ok v (D.pos v hv)).b5
    unfold wrOf; rw [List.length_append]; exact ar369 h1 h2
  rw [D.len] at this
  exact Nat.le_trans this (by decide)
theorem se_len (D : Drawn4 ds) : (seL ds).length ≤ 100 := by
  have := flat_len (fun v => seOf (rowOf v)) 20 ds fun v hv => by
    have h1 := loud_len (rowOf_ok v (D.pos v hv))
    unfold seOf; rw [List.length_append]; simp only [List.length_cons, List.length_nil]; exact ar370 h1
  rw [D.len] at this
  exact Nat.le_trans this (by decide)
theorem text_eq (D : Drawn4 ds) : qd2 true (qd1 (wrL ds)) = seL ds := by
  have := (mail_text (ds.map rowOf) fun r hr => by refine ex1_2 (List.mem_map.mp hr) fun v hv ob1 => ?_; subst ob1; exact D.good hv).1
  rw [List.map_map, List.map_map] at this
  exact this
theorem e16 (n : Nat) (loc : Loc) (mem : Mem) (d0 : Int) (D : Drawn4 ds) (h4 : lkb "drawn" loc = some (.list 4)) (hm : mem[4]? = some (.int d0 :: ds.map .int)) :
    (run b6 (n + 10)).S sc29 (sx 29 16) loc mem = some (.next, putL "heard" (.list (mailM ds (mem ++ [ds.map V.int])).length) (putL "sent" (.str (seL ds)) (putL "written" (.str (wrL ds)) loc)), mailM ds (mem ++ [ds.map V.int]) ++ [hdV ds]) := by
  have hB : sx 29 16 = .Assign [.Tuple [.Name "written" _, .Name "sent" _, .Name "heard" _] _ _] (.Call (.Name "_law_mail" _) [.Subscript (.Name "drawn" _) (.Slice (some (.Constant (.int 1) _ _)) none none _) _] [] _) _ := rfl
  rw [hB]
  have hl : (mem ++ [ds.map V.int])[mem.length]? = some (ds.map V.int) := by rw [List.getElem?_append_right (Nat.le_refl _), Nat.sub_self]; rfl
  have hsl : sliV (.list 4) (some 1) none mem = some (.list mem.length, mem ++ [ds.map V.int]) := by
    have e1 : decide ((V.int d0 :: ds.map V.int).length ≤ 2097152) = true := decide_eq_true (by rw [List.length_cons, List.length_map, D.len]; decide)
    exact bS hm (cS e1 (mS (a := ds.map V.int) rfl))
  refine S_unpack (n := n + 9) (l := [.str (wrL ds), .str (seL ds), .list (mailM ds (mem ++ [ds.map V.int])).length]) ?_ rfl rfl (by kernel_rfl!) (by kernel_rfl!)
  refine E_callF (n := n + 8) (f := 191) (vs := [.list mem.length]) (m1 := mem ++ [ds.map V.int]) (nm_glob (by kernel_rfl!) (by kernel_rfl!) rfl) rfl (Es_one (n := n + 6) rfl (E_sliL' (n := n + 6) (E_v (n := n + 5) (by simp) h4) (E_cst (n := n + 5) rfl) hsl)) ?_
  exact mail_ok 5 mem.length ds (mem ++ [ds.map V.int]) hl D.pos (by rw [D.len]; decide)
theorem e17 (n : Nat) (loc : Loc) (mem : Mem) (D : Drawn4 ds) (h : lkb "written" loc = some (.str (wrL ds))) : (run b6 (n + 10)).S sc29 (sx 29 17) loc mem = some (.next, putL "came" (.str (seL ds)) loc, mem) := by
  have hB : sx 29 17 = .Assign [.Name "came" _] (.Call (.Name "quotedata" _) [.Name "written" _] [] _) _ := rfl
  rw [hB]
  refine S_asg (n := n + 9) (by kernel_rfl!) rfl (E_callF (n := n + 8) (f := 126) (vs := [.str (wrL ds)]) (m1 := mem) (nm_glob (by kernel_rfl!) (by kernel_rfl!) rfl) rfl (Es_one (n := n + 6) rfl (E_v (n := n + 6) (by simp) h)) ?_)
  refine orcN_raw (k := 5) ?_
  show cond (lit (wrL ds).length) (some (V.str (qd2 true (qd1 (wrL ds))), mem)) none = _
  rw [show lit (wrL ds).length = true from decide_eq_true (by have := wr_len D; exact ar304 this), text_eq D]
  rfl
theorem e18 (n : Nat) (loc : Loc) (mem : Mem) (x : List Nat) (h1 : lkb "came" loc = some (.str x)) (h2 : lkb "sent" loc = some (.str x)) : (run b6 (n + 10)).S sc29 (sx 29 18) loc mem = some (.next, loc, mem) := by
  have hB : sx 29 18 = .If (.Compare (.Name "came" _) [.NotEq] [.Name "sent" _] _) _ [] _ := rfl
  rw [hB]
  refine S_if (n := n + 8) (T_cmp (n := n + 8) rfl (E_v (n := n + 7) (by simp) h1) (E_v (n := n + 7) (by simp) h2) ?_)
  show some (!(x == x)) = _
  rw [beq_self_eq_true]
  rfl
theorem e19 (n : Nat) (loc : Loc) (mem : Mem) : (run b6 (n + 10)).S sc29 (sx 29 19) loc mem = some (.next, putL "lines" (.list mem.length) loc, mem ++ [[]]) := by kernel_rfl!
end Mine
end

section
namespace Mine
variable {ds : List Int}
theorem S_for {b : Base} {n : Nat} {sc : Scope} {x : Str} {px pos : PySem.Pos} {it : PySem.Expr} {body : List Stmt} {loc : Loc} {mem m1 : Mem} {k : Wk} {r : Option (Ctl × Loc × Mem)} (hs : isSet it = false) (hI : (run b n).I sc it loc mem = some (k, m1)) (hF : (run b n).F sc x k body loc m1 = r) : (run b (n + 1)).S sc (.For (.Name x px) it body [] pos) loc mem = r := cN hs (bS hI hF)
theorem I_val {b : Base} {n : Nat} {sc : Scope} {e : PySem.Expr} {loc : Loc} {mem m1 : Mem} {i : Nat} (hr : isRange b sc loc e = none) (hs : isSet e = false) (h : (run b n).E sc e loc mem = some (.list i, m1)) : (run b (n + 1)).I sc e loc mem = some (.lst i 0, m1) := I_va hr hs h
theorem e20 (n : Nat) (loc : Loc) (mem : Mem) (D : Drawn4 ds) (li : Nat) (h0 : (li == 0) = false) (h1 : lkb "came" loc = some (.str (seL ds))) (h2 : lkb "lines" loc = some (.list li)) (hm : mem[li]? = some []) :
    ∃ loc' mem', (run b6 (n + 50)).S sc29 (sx 29 20) loc mem = some (.next, loc', mem') ∧ mem'[li]? = some (hdV ds) ∧ (∀ k, k ≠ li → k < mem.length → mem'[k]? = mem[k]?) ∧ mem.length ≤ mem'.length ∧ (∀ y : Str, sEq y "line" = false → lkb y loc' = lkb y loc) := by
  have hB : sx 29 20 = .For (.Name "line" _) (.Subscript (.Call (.Attribute (.Name "came" _) "split" _) [.Constant (.str (Str.ofString "\r\n")) _ _] [] _) (.Slice none (some (.UnaryOp .USub (.Constant (.int 1) _ _) _)) none _) _) tlBody [] _ := rfl
  rw [hB]
  have hds : ds ≠ [] := by intro e; have := D.len; rw [e] at this; cases this
  have hps : seL ds = ((ds.map fun v => (rowOf v).loud).map fun p => p ++ [13, 10]).flatten := by rw [List.map_map]; rfl
  have hno : ∀ p ∈ ds.map (fun v => (rowOf v).loud), 13 ∉ p := by
    intro p hp h13
    refine ex1_2 (List.mem_map.mp hp) fun v hv ob1 => ?_; subst ob1
    have g := D.good hv
    have hl := line_mem g
    have : (13 : Nat) ∈ (rowOf v).loud → False := by
      unfold Row.loud
      cases (rowOf v).more with
      | false => rw [cond_false]; intro h; exact (hl 13 h).2 rfl
      | true =>
        rw [cond_true]
        intro h
        rcases List.mem_cons.mp h with h | h
        · cases h
        · exact (hl 13 h).2 rfl
    exact this h13
  have eS := split_meth (mem := mem) (l := seL ds) (ps := ds.map fun v => (rowOf v).loud) (by simpa using hds) hno hps (by have := se_len D; exact ar304 this)
  have hmm : (mem ++ [(ds.map fun v => (rowOf v).loud).map V.str ++ [V.str []]])[mem.length]? = some ((ds.map fun v => (rowOf v).loud).map V.str ++ [V.str []]) := by rw [List.getElem?_append_right (Nat.le_refl _), Nat.sub_self]; rfl
  have eC := cut_last hmm (by rw [List.length_map, List.length_map, D.len]; decide)
  have hlm : li < mem.length := (List.getElem?_eq_some_iff.mp hm).1
  obtain ⟨loc', mem', f1, f2, f3, f4, f5⟩ := loop20 (mem ++ [(ds.map fun v => (rowOf v).loud).map V.str ++ [V.str []]]).length li (by rw [List.length_append]; exact ar305 hlm) h0 ((ds.map fun v => (rowOf v).loud).map V.str) (ds.map rowOf) 0 (n + 49) loc (mem ++ [(ds.map fun v => (rowOf v).loud).map V.str ++ [V.str []]] ++ [(ds.map fun v => (rowOf v).loud).map V.str]) []
    (fun r hr => by refine ex1_2 (List.mem_map.mp hr) fun v hv ob2 => ?_; subst ob2; exact D.good hv) (by rw [List.getElem?_append_right (Nat.le_refl _), Nat.sub_self]; rfl) (by rw [List.drop_zero, List.map_map, List.map_map]; rfl) h2 (mget_old (mget_old hm _) _) (by rw [List.length_map, D.len]; decide) (by rw [List.length_map, D.len]; exact ar306)
  refine ⟨loc', mem', ?_, ?_, fun k hk hkl => ?_, ?_, f5⟩
  · refine S_for (n := n + 49) rfl (I_val (n := n + 48) rfl rfl ?_) f1
    refine E_sliU' (n := n + 47) (x := .list mem.length) (k := -1) (m1 := mem ++ [(ds.map fun v => (rowOf v).loud).map V.str ++ [V.str []]]) (m2 := mem ++ [(ds.map fun v => (rowOf v).loud).map V.str ++ [V.str []]]) ?_ (by kernel_rfl!) eC
    exact E_meth (n := n + 46) (m1 := mem) (m2 := mem) (vs := [.str [13, 10]]) (by kernel_rfl!) (E_v (n := n + 45) (by simp) h1) (Es_one (n := n + 44) rfl (E_cst (n := n + 44) (by kernel_rfl!))) eS
  · rw [f2, List.nil_append, List.map_map]; rfl
  · rw [f3 k hk (by rw [List.length_append, List.length_append]; exact ar307 hkl), List.getElem?_append_left (by rw [List.length_append]; exact ar299 hkl), List.getElem?_append_left hkl]
  · rw [List.length_append, List.length_append] at f4; exact ar308 f4
theorem eqL_strs {l : List (List Nat)} (hne : l ≠ []) (hok : l.all okS = true) : eqL (l.map V.str) (l.map V.str) = some true := by
  have hi : intsOf (l.map V.str) = none := by
    induction l using List.casesOn with
    | nil => exact absurd rfl hne
    | cons a l => rfl
  have go : ∀ (a b : Option (List Int)) (c d : Option (List (List Nat))), a = none → c = some l → d = some l → (match a, b with | some x, some y => some (x == y) | _, _ => match c, d with | some x, some y => cond (x.all okS && y.all okS) (some (x == y)) none | _, _ => match tupsOf (l.map V.str), tupsOf (l.map V.str) with | some x, some y => some (x == y) | _, _ => none) = cond (l.all okS && l.all okS) (some (l == l)) none := fun a b c d e1 e2 e3 => by subst e1 e2 e3; rfl
  refine (go _ _ _ _ hi (strsOf_map l) (strsOf_map l)).trans ?_
  show cond (l.all okS && l.all okS) (some (l == l)) none = _
  rw [hok, beq_self_eq_true]
  rfl
theorem heard_okS {r : Row} (g : RowGood r) : okS r.heard = true := by
  unfold okS Row.heard
  rw [List.all_append, Bool.and_eq_true]
  constructor
  · rw [List.all_eq_true]
    intro c hc
    rw [dots_mem hc]; rfl
  · rcases g.mn with h | h | h <;> rw [h] <;> decide
theorem e21 (n : Nat) (loc : Loc) (mem : Mem) (D : Drawn4 ds) (li hi : Nat) (hne : li ≠ hi) (h1 : lkb "lines" loc = some (.list li)) (h2 : lkb "heard" loc = some (.list hi)) (m1 : mem[li]? = some (hdV ds)) (m2 : mem[hi]? = some (hdV ds)) : (run b6 (n + 10)).S sc29 (sx 29 21) loc mem = some (.next, loc, mem) := by
  have hB : sx 29 21 = .If (.Compare (.Name "lines" _) [.NotEq] [.Name "heard" _] _) _ [] _ := rfl
  rw [hB]
  refine S_if (n := n + 8) (T_cmp (n := n + 8) rfl (E_v (n := n + 7) (by simp) h1) (E_v (n := n + 7) (by simp) h2) ?_)
  have e1 : (li == hi) = false := beq_eq_false_iff_ne.mpr hne
  have e2 : eqL (hdV ds) (hdV ds) = some true := by
    have hds : ds ≠ [] := by intro e; have := D.len; rw [e] at this; cases this
    have := eqL_strs (l := ds.map fun v => (rowOf v).heard) (by simpa using hds) (by
      rw [List.all_eq_true]
      intro x hx
      refine ex1_2 (List.mem_map.mp hx) fun v hv ob3 => ?_; subst ob3
      exact heard_okS (D.good hv))
    rw [List.map_map] at this
    exact this
  have go : ∀ (a b : Option (List V)), a = some (hdV ds) → b = some (hdV ds) → (match a, b with | some l, some m => cond (li == hi) none ((eqL l m).bind (eqNe .NotEq)) | _, _ => none) = some false := fun a b f1 f2 => by
    subst f1 f2
    exact cN e1 (bS e2 rfl)
  exact go _ _ m1 m2
theorem E_bin {b : Base} {n : Nat} {sc : Scope} {l x : PySem.Expr} {op : Operator} {pos : PySem.Pos} {loc : Loc} {mem m1 m2 : Mem} {u v : V} {r : Option (V × Mem)} (h1 : (run b n).E sc l loc mem = some (u, m1)) (h2 : (run b n).E sc x loc m1 = some (v, m2)) (h3 : opV op u v m2 = r) : (run b (n + 1)).E sc (.BinOp l op x pos) loc mem = r := bS h1 (bS h2 h3)
theorem E_callB {b : Base} {n : Nat} {sc : Scope} {x : Str} {p pos : PySem.Pos} {a : PySem.Expr} {as : List PySem.Expr} {loc : Loc} {mem m1 : Mem} {id : String} {vs : List V} {r : Option (V × Mem)} (hx : nameV b sc x loc = some (.blt id)) (hp : (a :: as).all plainE = true) (h : (run b n).Es sc (a :: as) loc mem = some (vs, m1)) (ho : bltV id vs m1 = r) : (run b (n + 1)).E sc (.Call (.Name x p) (a :: as) [] pos) loc mem = r := bS hx (bS h (cS hp ho))
theorem len_blt {mem : Mem} {j : Nat} {l : List V} (hm : mem[j]? = some l) (hl : l.length ≤ 1000) : bltV "len" [.list j] mem = some (.int l.length, mem) := by
  show ((mem[j]?).bind fun l => cond (lit l.length) (some (V.int l.length, mem)) none) = _
  rw [hm, Option.bind_some, show lit l.length = true from decide_eq_true hl]
  rfl
theorem op_mod {x : Int} {k : Nat} {mem : Mem} (h : 0 < k) : opV .Mod (.int x) (.int k) mem = some (.int (x.fmod k), mem) := by
  show ((cond ((k : Int) == 0) none (some (x.fmod k))).map fun c => (V.int c, mem)) = _
  rw [show ((k : Int) == 0) = false from beq_eq_false_iff_ne.mpr (ar309 h)]
  rfl
theorem e22 (n : Nat) (loc : Loc) (mem : Mem) (d0 : Int) (dt fv : List V) (fi : Nat) (h1 : lkb "drawn" loc = some (.list 4)) (h2 : lkb "forms" loc = some (.list fi)) (m1 : mem[4]? = some (.int d0 :: dt)) (m2 : mem[fi]? = some fv) (hf : 0 < fv.length) (hf2 : fv.length ≤ 1000) : (run b6 (n + 10)).S sc29 (sx 29 22) loc mem = some (.next, putL "first" (.int ((d0.fdiv 6).fmod fv.length)) loc, mem) := by
  have hB : sx 29 22 = .Assign [.Name "first" _] (.BinOp (.BinOp (.Subscript (.Name "drawn" _) (.Constant (.int 0) _ _) _) .FloorDiv (.Constant (.int 6) _ _) _) .Mod (.Call (.Name "len" _) [.Name "forms" _] [] _) _) _ := rfl
  rw [hB]
  refine S_asg (n := n + 9) (by kernel_rfl!) rfl (E_bin (n := n + 8) (u := .int (d0.fdiv 6)) (v := .int fv.length) (m1 := mem) (m2 := mem) (E_bin (n := n + 7) (u := .int d0) (v := .int 6) (m1 := mem) (m2 := mem) (E_idx (n := n + 6) (x := .list 4) (y := .int 0) (m1 := mem) (fun _ _ _ _ h => by cases h) (E_v (n := n + 5) (by simp) h1) (E_cst (n := n + 5) rfl) ?_) (E_cst (n := n + 6) rfl) rfl) (E_callB (n := n + 7) (id := "len") (vs := [.list fi]) (m1 := mem) (nm_glob (by kernel_rfl!) (by kernel_rfl!) rfl) rfl (Es_one (n := n + 5) rfl (E_v (n := n + 5) (by simp) h2)) (len_blt m2 hf2)) (op_mod hf))
  show (mem[4]?).bind (·[(0 : Int).toNat]?) = _
  rw [m1]
  rfl
end Mine
end

section
namespace Mine
structure FormsOk (p : Int) (fs : List (Int × Int × Int)) (fi : Nat) : Prop where
  mid : Mid p fs fi
  p0 : 0 < p
  p1 : p ≤ 71
  red : ∀ t ∈ fs, Red p t.1 t.2.1 t.2.2 ∧ Bd3 18 t.1 t.2.1 t.2.2 ∧ ∀ A : Int, 0 < A → 3 * (A * A) ≤ p → 4 * t.1 * A < p
  bis : ∀ (i : Nat) t, fs[i]? = some t → ∀ (f : Nat → List V) (post : Mem), orc0 6 109 [.list fi, tupV t] ((List.range fi).map f ++ (fs.map tupV) :: post) = some (.int i, (List.range fi).map f ++ (fs.map tupV) :: post)
  ne : 0 < fs.length
  le : fs.length ≤ 7
  f4 : 4 < fi
theorem mem_split {m : Mem} {k : Nat} {x : List V} (h : m[k]? = some x) : m = (List.range k).map (fun i => m.getD i []) ++ x :: m.drop (k + 1) := by
  obtain ⟨hk, hx⟩ := List.getElem?_eq_some_iff.mp h
  have h1 : (List.range k).map (fun i => m.getD i []) = m.take k := by
    apply List.ext_getElem?
    intro i
    by_cases hi : i < k
    · rw [List.getElem?_map, List.getElem?_range hi, List.getElem?_take_of_lt hi, List.getElem?_eq_getElem (ar62 hk hi)]
      simp only [Option.map_some, List.getD_eq_getElem?_getD, List.getElem?_eq_getElem (show i < m.length from ar62 hk hi), Option.getD_some]
    · rw [List.getElem?_eq_none_iff.mpr (by rw [List.length_map, List.length_range]; exact ar63 hi), List.getElem?_eq_none_iff.mpr (by rw [List.length_take]; omega)]
  rw [h1, ← hx, ← List.drop_eq_getElem_cons hk, List.take_append_drop]
theorem T_or {b : Base} {n : Nat} {sc : Scope} {x y : PySem.Expr} {pos : PySem.Pos} {loc : Loc} {mem m1 m2 : Mem} {c : Bool} (h1 : (run b n).T sc x loc mem = some (false, m1)) (h2 : (run b n).T sc y loc m1 = some (c, m2)) : (run b (n + 1)).T sc (.BoolOp .Or [x, y] pos) loc mem = some (c, m2) := T_o h1 (cF h2)
theorem Es_two {b : Base} {n : Nat} {sc : Scope} {e e2 : PySem.Expr} {loc : Loc} {mem m1 m2 : Mem} {v v2 : V} (hp : plainE e = true) (hp2 : plainE e2 = true) (h : (run b (n + 2)).E sc e loc mem = some (v, m1)) (h2 : (run b (n + 1)).E sc e2 loc m1 = some (v2, m2)) : (run b (n + 3)).Es sc [e, e2] loc mem = some ([v, v2], m2) := Es_cons hp h (Es_one hp2 h2)
theorem E_list {b : Base} {n : Nat} {sc : Scope} {es : List PySem.Expr} {pos : PySem.Pos} {loc : Loc} {mem m1 : Mem} {vs : List V} (h : (run b n).Es sc es loc mem = some (vs, m1)) (hl : lit vs.length = true) : (run b (n + 1)).E sc (.List es pos) loc mem = some (.list m1.length, m1 ++ [vs]) := E_lst h hl
noncomputable def b23 : List Stmt := forBody (sx 29 23)
theorem idx_at {mem : Mem} {j i : Nat} {l : List V} {v : V} (hm : mem[j]? = some l) (hi : l[i]? = some v) (hs : i < 1000) : idxV (.list j) (.int i) mem = some v := by
  have e1 : decide (0 ≤ (i : Int)) = true := decide_eq_true (Int.natCast_nonneg i)
  have e2 : decide ((i : Int) < 2 ^ 63) = true := decide_eq_true (ar65 hs)
  exact x_lst hm (by rw [e1, e2]; rfl) hi
variable {p : Int} {fs : List (Int × Int × Int)} {fi : Nat}
theorem turn23 (F : FormsOk p fs fi) (n : Nat) (loc : Loc) (mem : Mem) (i : Nat) (t : Int × Int × Int) (ht : fs[i]? = some t) (xs : List Ln) (hx : ∀ x ∈ xs, LnOk x) (hxl : xs.length ≤ 4) (li : Nat) (h1 : lkb "forms" loc = some (.list fi)) (h2 : lkb "lines" loc = some (.list li)) (h3 : lkb "place" loc = some (.int i)) (m1 : mem[fi]? = some (fs.map tupV)) (m2 : mem[li]? = some (xs.map fun x => V.str x.str)) :
    ∃ junk, (run b6 (n + 20)).Ss sc29 b23 loc mem = some (.next, putL "back" (tupV t) loc, mem ++ junk) := by
  obtain ⟨a, b, c⟩ := t
  have htm : (a, b, c) ∈ fs := List.mem_of_getElem? ht
  have hil : i < fs.length := (List.getElem?_eq_some_iff.mp ht).1
  have hle := F.le
  refine ex0_3 (F.red _ htm) fun hR hB18 hsm => ?_
  refine ex0_2 (moved_fn 5 li xs mem a b c hx m2 hxl hB18) fun q1 q2 => ?_
  refine ex0_2 (mvAll_eqv (fa := a) (fb := b) (fc := c) F.p0 xs (a, b, c) (Eqv.refl a b c) hR.pos) fun E1 E2 => ?_
  refine ex0_3 q2 ?_; (try clear q2); intro ob1 ob2 _; obtain ⟨u1, u2⟩ := ob1; obtain ⟨u3, u4⟩ := ob2
  have hled := led_back_ok (n := 60) (k := 50) F.p0 F.p1 hR hsm E2 E1 (ar66 u1 u2) (by decide)
  have hfl : fi < mem.length := (List.getElem?_eq_some_iff.mp m1).1
  refine ex1_1 (ledback_fn 1 F.p0 mem (ar67 hfl) _ _ _ a b c hled E2 ⟨u1, u2⟩ ⟨u3, u4⟩) fun junk q3 => ?_
  refine ⟨junk, ?_⟩
  have hB : b23 = [.Assign [.Name "back" _] (.Call (.Name "_law_led_back" _) [.Call (.Name "_law_moved" _) [.Subscript (.Name "forms" _) (.Name "place" _) _, .Name "lines" _] [] _] [] _) _,
    .If (.BoolOp .Or [.Compare (.Name "back" _) [.NotEq] [.Subscript (.Name "forms" _) (.Name "place" _) _] _, .Compare (.Call (.Name "bisect_left" _) [.Name "forms" _, .Name "back" _] [] _) [.NotEq] [.Name "place" _] _] _) _ [] _] := rfl
  rw [hB]
  have hg : (fs.map tupV)[i]? = some (tupV (a, b, c)) := by rw [List.getElem?_map, ht]; rfl
  refine (ss_next (b := b6) (n := n + 19) (l1 := putL "back" (tupV (a, b, c)) loc) (m1 := mem ++ junk) ?_).trans ?_
  · refine S_asg (n := n + 18) (by kernel_rfl!) rfl (E_callF (n := n + 17) (f := 212) (vs := [.tup [.int (mvAll xs (a, b, c)).1, .int (mvAll xs (a, b, c)).2.1, .int (mvAll xs (a, b, c)).2.2]]) (m1 := mem) (nm_glob (by kernel_rfl!) (by kernel_rfl!) rfl) rfl (Es_one (n := n + 15) rfl ?_) q3)
    refine E_callF (n := n + 15) (f := 205) (vs := [tupV (a, b, c), .list li]) (m1 := mem) (nm_glob (by kernel_rfl!) (by kernel_rfl!) rfl) rfl (Es_two (n := n + 12) rfl rfl ?_ (E_v (n := n + 12) (by simp) h2)) q1
    exact E_idx (n := n + 13) (x := .list fi) (y := .int i) (m1 := mem) (fun _ _ _ _ h => by cases h) (E_v (n := n + 12) (by simp) h1) (E_v (n := n + 12) (by simp) h3) (idx_at m1 hg (ar68 hil hle))
  · have k1 : lkb "forms" (putL "back" (tupV (a, b, c)) loc) = some (.list fi) := by repeat' first | with_reducible assumption | (apply pkS; kernel_rfl!) | (apply pkR; kernel_rfl!)
    have k3 : lkb "place" (putL "back" (tupV (a, b, c)) loc) = some (.int i) := by repeat' first | with_reducible assumption | (apply pkS; kernel_rfl!) | (apply pkR; kernel_rfl!)
    have kb : lkb "back" (putL "back" (tupV (a, b, c)) loc) = some (tupV (a, b, c)) := by repeat' first | with_reducible assumption | (apply pkS; kernel_rfl!) | (apply pkR; kernel_rfl!)
    have m1' : (mem ++ junk)[fi]? = some (fs.map tupV) := mget_old m1 _
    have hbis : orc0 6 109 [.list fi, tupV (a, b, c)] (mem ++ junk) = some (.int i, mem ++ junk) := by
      rw [mem_split m1']
      exact F.bis i _ ht _ _
    refine (ss_next (b := b6) (n := n + 18) (l1 := putL "back" (tupV (a, b, c)) loc) (m1 := mem ++ junk) ?_).trans rfl
    refine S_if (n := n + 16) (T_or (n := n + 16) (m1 := mem ++ junk) ?_ ?_)
    · refine T_cmp (n := n + 15) (u := tupV (a, b, c)) (v := tupV (a, b, c)) (m1 := mem ++ junk) rfl (E_v (n := n + 14) (by simp) kb) (E_idx (n := n + 14) (x := .list fi) (y := .int i) (m1 := mem ++ junk) (fun _ _ _ _ h => by cases h) (E_v (n := n + 13) (by simp) k1) (E_v (n := n + 13) (by simp) k3) (idx_at m1' hg (ar68 hil hle))) ?_
      show some (!([a, b, c] == [a, b, c])) = _
      rw [beq_self_eq_true]
      rfl
    · refine T_cmp (n := n + 15) (u := .int i) (v := .int i) (m1 := mem ++ junk) rfl (E_callF (n := n + 14) (f := 109) (vs := [.list fi, tupV (a, b, c)]) (m1 := mem ++ junk) (nm_glob (by kernel_rfl!) (by kernel_rfl!) rfl) rfl (Es_two (n := n + 11) rfl rfl (E_v (n := n + 12) (by simp) k1) (E_v (n := n + 11) (by simp) kb)) hbis) (E_v (n := n + 14) (by simp) k3) ?_
      show some (!((i : Int) == (i : Int))) = _
      rw [beq_self_eq_true]
      rfl
end Mine
end

namespace Mine
theorem small_A {p a : Int} (hp : p ≤ 71) (h : ∀ A ∈ ([1, 2, 3, 4] : List Int), 3 * (A * A) ≤ p → 4 * a * A < p) : ∀ A : Int, 0 < A → 3 * (A * A) ≤ p → 4 * a * A < p := by
  intro A h0 h1
  have hA : A ≤ 4 := by
    rcases Int.lt_or_le 4 A with h5 | h5
    · have : 5 * 5 ≤ A * A := Int.mul_le_mul (ar340 h5) (ar340 h5) (by decide) (ar341 h5)
      exact ar342 hp h1 this
    · exact h5
  exact h A (by have : A = 1 ∨ A = 2 ∨ A = 3 ∨ A = 4 := ar343 h0 hA
                rcases this with rfl | rfl | rfl | rfl <;> simp) h1
noncomputable def redB (p : Int) (t : Int × Int × Int) : Bool := decide (4 * t.1 * t.2.2 - t.2.1 * t.2.1 = p) && decide (0 < t.1) && decide (-t.1 < t.2.1) && decide (t.2.1 ≤ t.1) && decide (t.1 < t.2.2 ∨ (t.1 = t.2.2 ∧ 0 ≤ t.2.1)) && decide ((-18 ≤ t.1 ∧ t.1 ≤ 18) ∧ (-18 ≤ t.2.1 ∧ t.2.1 ≤ 18) ∧ (-18 ≤ t.2.2 ∧ t.2.2 ≤ 18)) && ([1, 2, 3, 4] : List Int).all fun A => decide (3 * (A * A) ≤ p → 4 * t.1 * A < p)
theorem red_of {p : Int} {fs : List (Int × Int × Int)} (hp : p ≤ 71) (h : fs.all (redB p) = true) : ∀ t ∈ fs, Red p t.1 t.2.1 t.2.2 ∧ Bd3 18 t.1 t.2.1 t.2.2 ∧ ∀ A : Int, 0 < A → 3 * (A * A) ≤ p → 4 * t.1 * A < p := by
  intro t ht
  have := List.all_eq_true.mp h t ht
  unfold redB at this
  simp only [Bool.and_eq_true, decide_eq_true_eq] at this
  refine ex0_2 this ?_; (try clear this); intro ob1 h7; obtain ⟨⟨⟨⟨⟨h1, h2⟩, h3⟩, h4⟩, h5⟩, h6⟩ := ob1
  exact ⟨⟨⟨h1, h2⟩, h3, h4, h5⟩, h6, small_A hp fun A hA => of_decide_eq_true (List.all_eq_true.mp h7 A hA)⟩
theorem bis23_0 (f : Nat → List V) (post : Mem) : orc0 6 109 [.list 32, tupV (1, 1, 6)] ((List.range 32).map f ++ (fs23.map tupV) :: post) = some (.int (0 : Nat), (List.range 32).map f ++ (fs23.map tupV) :: post) := by kernel_rfl!
theorem bis23_1 (f : Nat → List V) (post : Mem) : orc0 6 109 [.list 32, tupV (2, -1, 3)] ((List.range 32).map f ++ (fs23.map tupV) :: post) = some (.int (1 : Nat), (List.range 32).map f ++ (fs23.map tupV) :: post) := by kernel_rfl!
theorem bis23_2 (f : Nat → List V) (post : Mem) : orc0 6 109 [.list 32, tupV (2, 1, 3)] ((List.range 32).map f ++ (fs23.map tupV) :: post) = some (.int (2 : Nat), (List.range 32).map f ++ (fs23.map tupV) :: post) := by kernel_rfl!
theorem fok23 : FormsOk 23 fs23 32 where
  mid := mid23
  p0 := by decide
  p1 := by decide
  red := red_of (by decide) (by decide +kernel)
  bis := fun i t h f post => match i, h with
    | 0, h => by cases h; exact bis23_0 f post
    | 1, h => by cases h; exact bis23_1 f post
    | 2, h => by cases h; exact bis23_2 f post
    | i + 3, h => by cases h
  ne := by decide
  le := by decide
  f4 := by decide
theorem bis31_0 (f : Nat → List V) (post : Mem) : orc0 6 109 [.list 40, tupV (1, 1, 8)] ((List.range 40).map f ++ (fs31.map tupV) :: post) = some (.int (0 : Nat), (List.range 40).map f ++ (fs31.map tupV) :: post) := by kernel_rfl!
theorem bis31_1 (f : Nat → List V) (post : Mem) : orc0 6 109 [.list 40, tupV (2, -1, 4)] ((List.range 40).map f ++ (fs31.map tupV) :: post) = some (.int (1 : Nat), (List.range 40).map f ++ (fs31.map tupV) :: post) := by kernel_rfl!
theorem bis31_2 (f : Nat → List V) (post : Mem) : orc0 6 109 [.list 40, tupV (2, 1, 4)] ((List.range 40).map f ++ (fs31.map tupV) :: post) = some (.int (2 : Nat), (List.range 40).map f ++ (fs31.map tupV) :: post) := by kernel_rfl!
theorem fok31 : FormsOk 31 fs31 40 where
  mid := mid31
  p0 := by decide
  p1 := by decide
  red := red_of (by decide) (by decide +kernel)
  bis := fun i t h f post => match i, h with
    | 0, h => by cases h; exact bis31_0 f post
    | 1, h => by cases h; exact bis31_1 f post
    | 2, h => by cases h; exact bis31_2 f post
    | i + 3, h => by cases h
  ne := by decide
  le := by decide
  f4 := by decide
theorem bis47_0 (f : Nat → List V) (post : Mem) : orc0 6 109 [.list 56, tupV (1, 1, 12)] ((List.range 56).map f ++ (fs47.map tupV) :: post) = some (.int (0 : Nat), (List.range 56).map f ++ (fs47.map tupV) :: post) := by kernel_rfl!
theorem bis47_1 (f : Nat → List V) (post : Mem) : orc0 6 109 [.list 56, tupV (2, -1, 6)] ((List.range 56).map f ++ (fs47.map tupV) :: post) = some (.int (1 : Nat), (List.range 56).map f ++ (fs47.map tupV) :: post) := by kernel_rfl!
theorem bis47_2 (f : Nat → List V) (post : Mem) : orc0 6 109 [.list 56, tupV (2, 1, 6)] ((List.range 56).map f ++ (fs47.map tupV) :: post) = some (.int (2 : Nat), (List.range 56).map f ++ (fs47.map tupV) :: post) := by kernel_rfl!
theorem bis47_3 (f : Nat → List V) (post : Mem) : orc0 6 109 [.list 56, tupV (3, -1, 4)] ((List.range 56).map f ++ (fs47.map tupV) :: post) = some (.int (3 : Nat), (List.range 56).map f ++ (fs47.map tupV) :: post) := by kernel_rfl!
theorem bis47_4 (f : Nat → List V) (post : Mem) : orc0 6 109 [.list 56, tupV (3, 1, 4)] ((List.range 56).map f ++ (fs47.map tupV) :: post) = some (.int (4 : Nat), (List.range 56).map f ++ (fs47.map tupV) :: post) := by kernel_rfl!
theorem fok47 : FormsOk 47 fs47 56 where
  mid := mid47
  p0 := by decide
  p1 := by decide
  red := red_of (by decide) (by decide +kernel)
  bis := fun i t h f post => match i, h with
    | 0, h => by cases h; exact bis47_0 f post
    | 1, h => by cases h; exact bis47_1 f post
    | 2, h => by cases h; exact bis47_2 f post
    | 3, h => by cases h; exact bis47_3 f post
    | 4, h => by cases h; exact bis47_4 f post
    | i + 5, h => by cases h
  ne := by decide
  le := by decide
  f4 := by decide
theorem bis59_0 (f : Nat → List V) (post : Mem) : orc0 6 109 [.list 68, tupV (1, 1, 15)] ((List.range 68).map f ++ (fs59.map tupV) :: post) = some (.int (0 : Nat), (List.range 68).map f ++ (fs59.map tupV) :: post) := by kernel_rfl!
theorem bis59_1 (f : Nat → List V) (post : Mem) : orc0 6 109 [.list 68, tupV (3, -1, 5)] ((List.range 68).map f ++ (fs59.map tupV) :: post) = some (.int (1 : Nat), (List.range 68).map f ++ (fs59.map tupV) :: post) := by kernel_rfl!
theorem bis59_2 (f : Nat → List V) (post : Mem) : orc0 6 109 [.list 68, tupV (3, 1, 5)] ((List.range 68).map f ++ (fs59.map tupV) :: post) = some (.int (2 : Nat), (List.range 68).map f ++ (fs59.map tupV) :: post) := by kernel_rfl!
theorem fok59 : FormsOk 59 fs59 68 where
  mid := mid59
  p0 := by decide
  p1 := by decide
  red := red_of (by decide) (by decide +kernel)
  bis := fun i t h f post => match i, h with
    | 0, h => by cases h; exact bis59_0 f post
    | 1, h => by cases h; exact bis59_1 f post
    | 2, h => by cases h; exact bis59_2 f post
    | i + 3, h => by cases h
  ne := by decide
  le := by decide
  f4 := by decide
theorem bis11_0 (f : Nat → List V) (post : Mem) : orc0 6 109 [.list 20, tupV (1, 1, 3)] ((List.range 20).map f ++ (fs11.map tupV) :: post) = some (.int (0 : Nat), (List.range 20).map f ++ (fs11.map tupV) :: post) := by kernel_rfl!
theorem fok11 : FormsOk 11 fs11 20 where
  mid := mid11
  p0 := by decide
  p1 := by decide
  red := red_of (by decide) (by decide +kernel)
  bis := fun i t h f post => match i, h with
    | 0, h => by cases h; exact bis11_0 f post
    | i + 1, h => by cases h
  ne := by decide
  le := by decide
  f4 := by decide
theorem bis71_0 (f : Nat → List V) (post : Mem) : orc0 6 109 [.list 80, tupV (1, 1, 18)] ((List.range 80).map f ++ (fs71.map tupV) :: post) = some (.int (0 : Nat), (List.range 80).map f ++ (fs71.map tupV) :: post) := by kernel_rfl!
theorem bis71_1 (f : Nat → List V) (post : Mem) : orc0 6 109 [.list 80, tupV (2, -1, 9)] ((List.range 80).map f ++ (fs71.map tupV) :: post) = some (.int (1 : Nat), (List.range 80).map f ++ (fs71.map tupV) :: post) := by kernel_rfl!
theorem bis71_2 (f : Nat → List V) (post : Mem) : orc0 6 109 [.list 80, tupV (2, 1, 9)] ((List.range 80).map f ++ (fs71.map tupV) :: post) = some (.int (2 : Nat), (List.range 80).map f ++ (fs71.map tupV) :: post) := by kernel_rfl!
theorem bis71_3 (f : Nat → List V) (post : Mem) : orc0 6 109 [.list 80, tupV (3, -1, 6)] ((List.range 80).map f ++ (fs71.map tupV) :: post) = some (.int (3 : Nat), (List.range 80).map f ++ (fs71.map tupV) :: post) := by kernel_rfl!
theorem bis71_4 (f : Nat → List V) (post : Mem) : orc0 6 109 [.list 80, tupV (3, 1, 6)] ((List.range 80).map f ++ (fs71.map tupV) :: post) = some (.int (4 : Nat), (List.range 80).map f ++ (fs71.map tupV) :: post) := by kernel_rfl!
theorem bis71_5 (f : Nat → List V) (post : Mem) : orc0 6 109 [.list 80, tupV (4, -3, 5)] ((List.range 80).map f ++ (fs71.map tupV) :: post) = some (.int (5 : Nat), (List.range 80).map f ++ (fs71.map tupV) :: post) := by kernel_rfl!
theorem bis71_6 (f : Nat → List V) (post : Mem) : orc0 6 109 [.list 80, tupV (4, 3, 5)] ((List.range 80).map f ++ (fs71.map tupV) :: post) = some (.int (6 : Nat), (List.range 80).map f ++ (fs71.map tupV) :: post) := by kernel_rfl!
theorem fok71 : FormsOk 71 fs71 80 where
  mid := mid71
  p0 := by decide
  p1 := by decide
  red := red_of (by decide) (by decide +kernel)
  bis := fun i t h f post => match i, h with
    | 0, h => by cases h; exact bis71_0 f post
    | 1, h => by cases h; exact bis71_1 f post
    | 2, h => by cases h; exact bis71_2 f post
    | 3, h => by cases h; exact bis71_3 f post
    | 4, h => by cases h; exact bis71_4 f post
    | 5, h => by cases h; exact bis71_5 f post
    | 6, h => by cases h; exact bis71_6 f post
    | i + 7, h => by cases h
  ne := by decide
  le := by decide
  f4 := by decide
theorem forms_ex {i : Nat} {p : Int} (h : ptab[i]? = some p) : ∃ fs fi, FormsOk p fs fi := by
  match i, h with
  | 0, h => cases h; exact ⟨_, _, fok23⟩
  | 1, h => cases h; exact ⟨_, _, fok31⟩
  | 2, h => cases h; exact ⟨_, _, fok47⟩
  | 3, h => cases h; exact ⟨_, _, fok59⟩
  | 4, h => cases h; exact ⟨_, _, fok11⟩
  | 5, h => cases h; exact ⟨_, _, fok71⟩
  | i + 6, h => cases h
theorem F_next {b : Base} {n : Nat} {sc : Scope} {x : Str} {j k : Nat} {body : List Stmt} {loc l1 : Loc} {mem m1 : Mem} {D : List V} {v : V} (hm : mem[j]? = some D) (hv : D[k]? = some v) (hk : kindOk sc x = true) (h : (run b n).Ss sc body (putL x v loc) mem = some (.next, l1, m1)) : (run b (n + 1)).F sc x (.lst j k) body loc mem = (run b n).F sc x (.lst j (k + 1)) body l1 m1 := by
  rw [run_F]
  unfold stepF
  rw [nextW, hm]
  show ((some (match D[k]? with | none => none | some v => some (v, Wk.lst j (k + 1)))).bind _) = _
  rw [hv]
  show cond (kindOk sc x) _ none = _
  rw [hk, cond_true, h, Option.bind_some]
theorem F_end {b : Base} {n : Nat} {sc : Scope} {x : Str} {j k : Nat} {body : List Stmt} {loc : Loc} {mem : Mem} {D : List V} (hm : mem[j]? = some D) (hv : D[k]? = none) : (run b (n + 1)).F sc x (.lst j k) body loc mem = some (.next, loc, mem) := by
  rw [run_F]
  unfold stepF
  rw [nextW, hm]
  show ((some (match D[k]? with | none => none | some v => some (v, Wk.lst j (k + 1)))).bind _) = _
  rw [hv]
  rfl
theorem e23 {p : Int} {fs : List (Int × Int × Int)} {fi : Nat} (F : FormsOk p fs fi) (n : Nat) (loc : Loc) (mem : Mem) (i : Nat) (hi : i < fs.length) (xs : List Ln) (hx : ∀ x ∈ xs, LnOk x) (hxl : xs.length ≤ 4) (li : Nat) (h1 : lkb "forms" loc = some (.list fi)) (h2 : lkb "lines" loc = some (.list li)) (h3 : lkb "first" loc = some (.int i)) (m1 : mem[fi]? = some (fs.map tupV)) (m2 : mem[li]? = some (xs.map fun x => V.str x.str)) :
    ∃ loc' mem', (run b6 (n + 40)).S sc29 (sx 29 23) loc mem = some (.next, loc', mem') := by
  have hne := F.ne
  have hle := F.le
  obtain ⟨i2, hi2, ei2⟩ : ∃ i2 : Nat, i2 < fs.length ∧ ((i : Int) + 1).fmod ((fs.map tupV).length) = (i2 : Int) := by
    rw [List.length_map]
    have h1 := Int.fmod_nonneg_of_pos ((i : Int) + 1) (b := (fs.length : Int)) (ar344 hne hle)
    have h2 := Int.fmod_lt_of_pos ((i : Int) + 1) (b := (fs.length : Int)) (ar344 hne hle)
    exact ⟨(((i : Int) + 1).fmod fs.length).toNat, ar345 hi h2, (Int.toNat_of_nonneg h1).symm⟩
  have hB : sx 29 23 = .For (.Name (Str.ofString "place") _) (.List [.Name (Str.ofString "first") _, .BinOp (.BinOp (.Name (Str.ofString "first") _) .Add (.Constant (.int 1) _ _) _) .Mod (.Call (.Name (Str.ofString "len") _) [.Name (Str.ofString "forms") _] [] _) _] _) b23 [] _ := rfl
  rw [hB]
  have hK : kindOk sc29 "place" = true := by kernel_rfl!
  have mj : (mem ++ [[V.int i, V.int i2]])[mem.length]? = some [V.int i, V.int i2] := by rw [List.getElem?_append_right (Nat.le_refl _), Nat.sub_self]; rfl
  have lf : ∀ (x y : String) (v : V) (l : Loc), x ≠ y → lkb (Str.ofString x) (putL (Str.ofString y) v l) = lkb (Str.ofString x) l := fun x y v l h => by rw [lkb_put, sEq_lit, decide_eq_false h]; rfl
  have ls : ∀ (x : String) (v : V) (l : Loc), lkb (Str.ofString x) (putL (Str.ofString x) v l) = some v := fun x v l => by rw [lkb_put, sEq_lit, decide_eq_true rfl]; rfl
  obtain ⟨t1, ht1⟩ : ∃ t, fs[i]? = some t := ⟨fs[i], List.getElem?_eq_getElem hi⟩
  obtain ⟨t2, ht2⟩ : ∃ t, fs[i2]? = some t := ⟨fs[i2], List.getElem?_eq_getElem hi2⟩
  refine ex1_1 (turn23 F (n + 18) (putL "place" (.int i) loc) (mem ++ [[V.int i, V.int i2]]) i t1 ht1 xs hx hxl li (by rw [lf _ _ _ _ (by decide)]; exact h1) (by rw [lf _ _ _ _ (by decide)]; exact h2) (ls _ _ _) (mget_old m1 _) (mget_old m2 _)) fun j1 T1 => ?_
  refine ex1_1 (turn23 F (n + 17) (putL "place" (.int i2) (putL "back" (tupV t1) (putL "place" (.int i) loc))) (mem ++ [[V.int i, V.int i2]] ++ j1) i2 t2 ht2 xs hx hxl li (by rw [lf _ _ _ _ (by decide), lf _ _ _ _ (by decide), lf _ _ _ _ (by decide)]; exact h1) (by rw [lf _ _ _ _ (by decide), lf _ _ _ _ (by decide), lf _ _ _ _ (by decide)]; exact h2) (ls _ _ _) (mget_old (mget_old m1 _) _) (mget_old (mget_old m2 _) _)) fun j2 T2 => ?_
  refine ⟨_, _, S_for (n := n + 39) rfl (I_val (n := n + 38) rfl rfl (E_list (n := n + 37) (vs := [.int i, .int i2]) (Es_two (n := n + 34) (m1 := mem) (m2 := mem) rfl rfl (E_v (n := n + 35) (by simp) h3) ?_) rfl)) ((F_next (n := n + 38) mj rfl hK T1).trans ((F_next (n := n + 37) (mget_old mj _) rfl hK T2).trans (F_end (n := n + 36) (mget_old (mget_old mj _) _) rfl)))⟩
  rw [← ei2]
  exact E_bin (n := n + 34) (u := .int ((i : Int) + 1)) (v := .int (fs.map tupV).length) (m1 := mem) (m2 := mem) (E_bin (n := n + 33) (u := .int i) (v := .int 1) (m1 := mem) (m2 := mem) (E_v (n := n + 32) (by simp) h3) (E_cst (n := n + 32) rfl) rfl) (E_callB (n := n + 33) (id := "len") (vs := [.list fi]) (m1 := mem) (nm_glob (by kernel_rfl!) (by kernel_rfl!) rfl) rfl (Es_one (n := n + 31) rfl (E_v (n := n + 31) (by simp) h1)) (len_blt m1 (by rw [List.length_map]; exact ar346 hne hle))) (op_mod (by rw [List.length_map]; exact hne))
theorem e24 (n : Nat) (loc : Loc) (mem : Mem) : (run b6 (n + 10)).S sc29 (sx 29 24) loc mem = some (.ret (.bool true), loc, mem) := by kernel_rfl!
end Mine

namespace Mine
theorem lk_other (x y : String) (v : V) (l : Loc) (h : x ≠ y) : lkb (Str.ofString x) (putL (Str.ofString y) v l) = lkb (Str.ofString x) l := by rw [lkb_put, sEq_lit, decide_eq_false h]; rfl
theorem lk_self (x : String) (v : V) (l : Loc) : lkb (Str.ofString x) (putL (Str.ofString x) v l) = some v := by rw [lkb_put, sEq_lit, decide_eq_true rfl]; rfl
theorem end_ok {p : Int} {fs : List (Int × Int × Int)} {fi : Nat} (F : FormsOk p fs fi) (l1 : Loc) (m1 : Mem) (d0 : Int) (ds : List Int) (D : Drawn4 ds) (h4 : lkb "drawn" l1 = some (.list 4)) (hf : lkb "forms" l1 = some (.list fi)) (m4 : m1[4]? = some (.int d0 :: ds.map .int)) (mf : m1[fi]? = some (fs.map tupV)) :
    ∃ l' m', (run b6 278).Ss sc29 lawEnd l1 m1 = some (.ret (.bool true), l', m') := by
  have hB : lawEnd = [sx 29 16, sx 29 17, sx 29 18, sx 29 19, sx 29 20, sx 29 21, sx 29 22, sx 29 23, sx 29 24] := rfl
  rw [hB]
  have s16 := e16 267 l1 m1 d0 D h4 m4
  generalize hM : mailM ds (m1 ++ [ds.map V.int]) = M at s16
  have hMl : m1.length < M.length := by rw [← hM]; simp
  have gM : ∀ (k : Nat) (x : List V), m1[k]? = some x → M[k]? = some x := fun k x h => by
    rw [← hM]
    exact mget_old (mget_old (mget_old (mget_old h _) _) _) _
  have hMH : (M ++ [hdV ds])[M.length]? = some (hdV ds) := by rw [List.getElem?_append_right (Nat.le_refl _), Nat.sub_self]; rfl
  have s17 := e17 266 (putL "heard" (.list M.length) (putL "sent" (.str (seL ds)) (putL "written" (.str (wrL ds)) l1))) (M ++ [hdV ds]) D (by rw [lk_other _ _ _ _ (by decide), lk_other _ _ _ _ (by decide), lk_self])
  have s18 := e18 265 (putL "came" (.str (seL ds)) (putL "heard" (.list M.length) (putL "sent" (.str (seL ds)) (putL "written" (.str (wrL ds)) l1)))) (M ++ [hdV ds]) (seL ds) (lk_self _ _ _) (by rw [lk_other _ _ _ _ (by decide), lk_other _ _ _ _ (by decide), lk_self])
  have s19 := e19 264 (putL "came" (.str (seL ds)) (putL "heard" (.list M.length) (putL "sent" (.str (seL ds)) (putL "written" (.str (wrL ds)) l1)))) (M ++ [hdV ds])
  generalize hL : (M ++ [hdV ds]).length = li at s19
  have hLM : M.length < li := by rw [← hL]; simp
  have hLl : (M ++ [hdV ds] ++ [[]])[li]? = some ([] : List V) := by rw [← hL, List.getElem?_append_right (Nat.le_refl _), Nat.sub_self]; rfl
  have hLL : (M ++ [hdV ds] ++ [[]]).length = li + 1 := by rw [← hL]; simp
  refine ex2_5 (e20 223 (putL "lines" (.list li) (putL "came" (.str (seL ds)) (putL "heard" (.list M.length) (putL "sent" (.str (seL ds)) (putL "written" (.str (wrL ds)) l1))))) (M ++ [hdV ds] ++ [[]]) D li (beq_eq_false_iff_ne.mpr (ar138 hMl hLM hLL)) (by rw [lk_other _ _ _ _ (by decide), lk_self]) (lk_self _ _ _) hLl) fun l20 m20 s20 f2 f3 f4 f5 => ?_
  have q : ∀ y : String, y ≠ "line" → sEq (Str.ofString y) "line" = false := fun y h => by rw [sEq_lit, decide_eq_false h]
  have kl : lkb (Str.ofString "lines") l20 = some (.list li) := by rw [f5 _ (q _ (by decide)), lk_self]
  have kh : lkb (Str.ofString "heard") l20 = some (.list M.length) := by rw [f5 _ (q _ (by decide)), lk_other _ _ _ _ (by decide), lk_other _ _ _ _ (by decide), lk_self]
  have kd : lkb (Str.ofString "drawn") l20 = some (.list 4) := by rw [f5 _ (q _ (by decide)), lk_other _ _ _ _ (by decide), lk_other _ _ _ _ (by decide), lk_other _ _ _ _ (by decide), lk_other _ _ _ _ (by decide), lk_other _ _ _ _ (by decide)]; exact h4
  have kf : lkb (Str.ofString "forms") l20 = some (.list fi) := by rw [f5 _ (q _ (by decide)), lk_other _ _ _ _ (by decide), lk_other _ _ _ _ (by decide), lk_other _ _ _ _ (by decide), lk_other _ _ _ _ (by decide), lk_other _ _ _ _ (by decide)]; exact hf
  have l4 : 4 < m1.length := (List.getElem?_eq_some_iff.mp m4).1
  have lfi : fi < m1.length := (List.getElem?_eq_some_iff.mp mf).1
  have g4 : m20[4]? = some (.int d0 :: ds.map .int) := by rw [f3 4 (ar139 hMl hLM hLL l4) (ar140 hMl hL hLM hLL l4)]; exact mget_old (mget_old (gM _ _ m4) _) _
  have gf : m20[fi]? = some (fs.map tupV) := by rw [f3 fi (ar141 hMl hLM hLL lfi) (ar142 hMl hLM hLL lfi)]; exact mget_old (mget_old (gM _ _ mf) _) _
  have gh : m20[M.length]? = some (hdV ds) := by rw [f3 M.length (ar143 hLM hLL) (ar144 hLM hLL)]; exact mget_old hMH _
  have s21 := e21 262 l20 m20 D li M.length (ar145 hLM hLL) kl kh f2 gh
  have s22 := e22 261 l20 m20 d0 (ds.map .int) (fs.map tupV) fi kd kf g4 gf (by rw [List.length_map]; exact F.ne) (by rw [List.length_map]; have := F.le; exact ar146 this)
  obtain ⟨i, hi, ei⟩ : ∃ i : Nat, i < fs.length ∧ (d0.fdiv 6).fmod ((fs.map tupV).length) = (i : Int) := by
    rw [List.length_map]
    have hne := F.ne
    have h1 := Int.fmod_nonneg_of_pos (d0.fdiv 6) (b := (fs.length : Int)) (ar147 hne)
    have h2 := Int.fmod_lt_of_pos (d0.fdiv 6) (b := (fs.length : Int)) (ar147 hne)
    exact ⟨((d0.fdiv 6).fmod fs.length).toNat, ar148 h1 h2, (Int.toNat_of_nonneg h1).symm⟩
  rw [ei] at s22
  have hx : ∀ x ∈ ds.map (fun v => (⟨(rowOf v).cnt', (rowOf v).mn⟩ : Ln)), LnOk x := by
    intro x hx
    refine ex1_2 (List.mem_map.mp hx) fun v hv ob1 => ?_; subst ob1
    have g := D.good hv
    refine ⟨?_, g.mn⟩
    have := g.cnt
    show (rowOf v).cnt' ≤ 3
    unfold Row.cnt'
    cases (rowOf v).more <;> simp only [cond_true, cond_false] <;> omega
  have f2' : m20[li]? = some ((ds.map (fun v => (⟨(rowOf v).cnt', (rowOf v).mn⟩ : Ln))).map fun x => V.str x.str) := by rw [f2, List.map_map]; rfl
  refine ex2_1 (e23 F 230 (putL "first" (.int i) l20) m20 i hi _ hx (by rw [List.length_map, D.len]; exact Nat.le_refl _) li (by rw [lk_other _ _ _ _ (by decide)]; exact kf) (by rw [lk_other _ _ _ _ (by decide)]; exact kl) (lk_self _ _ _) gf f2') fun l23 m23 s23 => ?_
  have s24 := e24 259 l23 m23
  refine ⟨l23, m23, ?_⟩
  rw [ss_next (n := 277) s16, ss_next (n := 276) s17, ss_next (n := 275) s18, ss_next (n := 274) s19, ss_next (n := 273) s20, ss_next (n := 272) s21, ss_next (n := 271) s22, ss_next (n := 270) s23, ss_ret (n := 269) s24]
theorem law_pure (ns : List Int) (l : Addr) : ∃ l' m', (run b6 292).Ss sc29 ((fdBody (st 29)).drop 2) (putL "drawn" (.list 2) (loc0 l)) [toldL.map .int, (ns.take 5).map .int, ((ns.take 5).map fun x => x.fmod 1000000).map .int] = some (.ret (.bool true), l', m') := by
  have hB : (fdBody (st 29)).drop 2 = sx 29 2 :: sx 29 3 :: (lawMid ++ lawEnd) := rfl
  rw [hB]
  obtain ⟨dr, hdr⟩ : ∃ dr, dr = (ns.take 5).map fun x => x.fmod 1000000 := ⟨_, rfl⟩
  rw [← hdr]
  have hl5 : dr.length ≤ 5 := by rw [hdr, List.length_map, List.length_take]; omega
  have hpos : ∀ d ∈ dr, 0 ≤ d := by
    intro d hd
    rw [hdr] at hd
    refine ex1_2 (List.mem_map.mp hd) fun x _ ob2 => ?_; subst ob2
    exact Int.fmod_nonneg_of_pos _ (by decide)
  have hD : (dr ++ toldL.drop dr.length).length = 5 := by
    rw [List.length_append, List.length_drop]
    show dr.length + (5 - dr.length) = 5
    exact ar150 hl5
  have hDp : ∀ d ∈ dr ++ toldL.drop dr.length, 0 ≤ d := by
    intro d hd
    rcases List.mem_append.mp hd with h | h
    · exact hpos d h
    · have := List.mem_of_mem_drop h
      simp only [toldL, List.mem_cons, List.not_mem_nil, or_false] at this
      rcases this with rfl | rfl | rfl | rfl | rfl <;> decide
  have s2 := drawn2 275 l ((ns.take 5).map .int) dr hl5
  generalize hDD : dr ++ toldL.drop dr.length = D5 at s2 hD hDp
  match D5, hD with
  | d0 :: ds, hD =>
    have D : Drawn4 ds := ⟨by simpa using hD, fun d hd => hDp d (.tail _ hd)⟩
    obtain ⟨p, hp⟩ : ∃ p, ptab[(d0.fmod 6).toNat]? = some p := by
      have h1 := Int.fmod_nonneg_of_pos d0 (b := 6) (by decide)
      have h2 := Int.fmod_lt_of_pos d0 (b := 6) (by decide)
      exact ⟨_, List.getElem?_eq_getElem (show (d0.fmod 6).toNat < ptab.length by show _ < 6; exact ar151 h1 h2)⟩
    refine ex2_1 (forms_ex hp) fun fs fi F => ?_
    have s3 := prime3 b6 270 l (toldL.map .int) ((ns.take 5).map .int) (dr.map .int) ((toldL.drop dr.length).map .int) (ds.map .int) d0 p hp
    refine ex2_5 (mid_on F.mid l (toldL.map .int) ((ns.take 5).map .int) (dr.map .int) ((toldL.drop dr.length).map .int) (.int d0 :: ds.map .int) (ptab.map .int)) fun l1 m1 h1 h2 h3 h4 h5 => ?_
    refine ex2_1 (end_ok F l1 m1 d0 ds D h2 h3 h5 h4) fun l' m' hE => ?_
    refine ⟨l', m', ?_⟩
    rw [ss_next (n := 291) s2]
    show (run b6 291).Ss sc29 (sx 29 3 :: (lawMid ++ lawEnd)) _ [toldL.map .int, (ns.take 5).map .int, dr.map .int, (toldL.drop dr.length).map .int, .int d0 :: ds.map .int] = _
    rw [ss_next (n := 290) s3, h1, hE]
end Mine

section
namespace Mine
variable {w : World} {D : Nat} {mem mem' : Mem} {v : V} {b : Base}
theorem rel_sub {H H' : Heap} {g o o'} {h : Heap} {ad : List Addr} (hs : ∀ a ob, H.get? a = some ob → H'.get? a = some ob) (ht : ∀ a, (a = 47 ∨ a = 54) → H'.get? a = none) (R : RelM ⟨H', g, o'⟩ h ad mem) : RelM ⟨H, g, o⟩ h ad mem where
  base := fun a ob e => R.base a ob (hs a ob e)
  lowA := fun a ha => by
    cases e : H.get? a with
    | none => rfl
    | some ob => have := R.lowA a ha; rw [show H'.get? a = some ob from hs a ob e] at this; cases this
  hr := R.hr
  tabs := fun a ha => R.tabs a ⟨ha.1, ht a ha.1⟩
theorem call_sup {H H' : Heap} {g o o'} {f : Addr} {vs : List V} (hs : ∀ a ob, H.get? a = some ob → H'.get? a = some ob) (ht : ∀ a, (a = 47 ∨ a = 54) → H'.get? a = none) (C : CallOk ⟨H, g, o⟩ w D f vs mem v mem') : CallOk ⟨H', g, o'⟩ w D f vs mem v mem' := by
  intro A s ad vals hA R hv Q E K
  refine C hA (rel_sub hs ht R) hv fun s' ad' val o1 r1 => K s' ad' val ?_ r1
  have nw : ∀ a, Wr ⟨H, g, o⟩ ad a → Wr ⟨H', g, o'⟩ ad a := by
    rintro a (h | h)
    · exact .inl h
    · exact .inr ⟨h.1, ht a h.1⟩
  refine ⟨⟨fun a ob e => o1.keep a ob ?_ (R.base a ob e), fun a ha => ?_, o1.rel.hr, fun a ha => o1.rel.tabs a ⟨ha.1, ?_⟩⟩, o1.pre, o1.keep.mono nw, o1.fresh, o1.os, o1.gens, o1.drawn⟩
  · rintro (h | h)
    · have := R.lowA a h
      rw [show H'.get? a = some ob from e] at this; cases this
    · have := ht a h.1
      rw [show H'.get? a = some ob from e] at this; cases this
  · rcases o1.fresh a ha with h | h
    · exact R.lowA a h
    · exact R.none h
  · cases e : H.get? a with
    | none => rfl
    | some ob => have := ht a ha.1; rw [hs a ob e] at this; cases this
theorem cell_call1 (B : BaseOk b) {f : Addr} {o : Obj} {fd : FuncData} {body : List Stmt} {p1 : Str} {v1 : V} {loc' : Loc} {c : Ctl} (ho : b.H.get? f = some o) (hd : o.data = .func fd) (hcd : b.H.CodeRec fd.code fd.qualname) (hbody : fd.body = .stmts body) (hcl : fd.closure = []) (hg : fd.globals = mainGlobals) (hbl : fd.builtins = builtinsNs)
    (hco : fd.scope.isCoroutine = false) (hgen : fd.scope.isGenerator = false) (hk : fd.scope.kind = .function)
    (hbind : ∀ x1, bindArgs fd ⟨[x1], []⟩ = pure [(p1, x1)]) (hk1 : fd.scope.names.lookup p1 = some .local)
    (hcs : ∀ n p, fd.scope.names.lookup p = some .cell → ∃ c, (cellsFrom n fd.scope.names []).lookup p = some c) (hcu : ∀ n p c, (p, c) ∈ cellsFrom n fd.scope.names [] → (cellsFrom n fd.scope.names []).lookup p = some c)
    (hrun : SSs b w D fd.scope body [(p1, v1)] mem c loc' mem') : CallE b w (D + 1) f [v1] mem (cOf c) mem' := by
  intro A s ad vals hA R hvs Q E K
  refine ex1_2 (vrs1 hvs) fun x1 ob1 h1 => ?_; subst ob1
  have hlim := B.limit R.base
  refine wpAny_call (codeAny_call_cells (by have := hA.depth; exact ar23 this) (R.base _ _ ho) hd hlim (hcd.keeps R.base) hbody (hbind x1) hcl ?_ (fun s1 X => ?_) hco hgen hk)
  · intro x hx
    rw [List.mem_singleton.mp hx]
    exact .inl hk1
  refine ex2_2 X.done fun h0 tk ob2 hkeep => ?_; subst ob2
  have hLn : s.heap.get? s.heap.objs.size = none := get_top _
  have R0 := R.all hkeep
  have hE : EnvOk (callEnvC fd s.heap.objs.size f) fd.scope := by
    refine ⟨rfl, hk, hg, hbl, ?_, fun x hx => hcs _ x hx⟩
    exact List.pairwise_map.mpr X.apart
  have hfresh : ∀ p c, (p, c) ∈ (callEnvC fd s.heap.objs.size f).cells → s.heap.get? c = none := fun p c hc => Heap.get?_none_of_le (Nat.le_of_lt (X.above p c hc))
  have hkk := hE.kindOf p1
  rw [hk1] at hkk
  have L0 : LR b (callEnvC fd s.heap.objs.size f) h0 ad [(p1, v1)] := by
    refine ⟨R.none hLn, fun x c hc => R.none (hfresh x c hc), fun x c hc => ⟨_, X.cell x c (hcu _ x c hc)⟩, _, X.toInCall.ns, fun x u hx => ?_⟩
    rw [List.lookup_cons] at hx
    by_cases hxp : x = p1
    · subst hxp
      rw [beq_self_eq_true] at hx
      cases hx
      refine ⟨x1, h1.all hkeep, .inl ⟨hkk, ?_⟩⟩
      simp [bindL, hkk]
    · rw [beq_eq_false_iff_ne.mpr hxp] at hx
      cases hx
  refine hrun (hA.deeper _) hE R0 L0 fun s' ad' fl o1 r1 => ?_
  show Q (match (generalizing := false) fl with | .ret v => v | _ => .none) s'
  refine K s' ad' _ ⟨o1.rel, o1.pre, fun a ob ha e => o1.keep a ob ?_ (hkeep a ob e), fun a ha => ?_, o1.os, o1.gens, o1.drawn⟩ ?_
  · rintro (h | h)
    · rcases h with h | ⟨x, hx, _⟩
      · replace h : a = s.heap.objs.size := h
        rw [h, hLn] at e; cases e
      · rw [hfresh x a hx] at e; cases e
    · exact ha h
  · rcases o1.fresh a ha with h | h
    · exact .inl h
    · cases e : s.heap.get? a with
      | none => exact .inr rfl
      | some ob =>
        replace h : h0.get? a = none := h
        rw [hkeep a ob e] at h; cases h
  · induction c using Mine.Ctl.casesOn with
    | next => cases r1; exact .none
    | ret u => refine ex1_2 r1 ?_; (try clear r1); intro val ob3 h; subst ob3; exact h
theorem SE_sliB {sc : Scope} {loc : Loc} {e l : PySem.Expr} {p pos : PySem.Pos} {a : Addr} {its : Array Value} {k : Int} {m : List V} (he : SE b w D sc e loc mem (.ref a) mem) (hi : SE b w D sc l loc mem (.int k) mem) (hL : b.H.IsList a its) (hz : its.size ≤ 1000) (hk : 0 ≤ k ∧ k < 1000) (hv : ∀ h ad, VRs h ad m (its.toList.take k.toNat)) :
    SE b w D sc (.Subscript e (.Slice none (some l) none p) pos) loc mem (.list mem.length) (mem ++ [m]) := by
  intro A env s ad hA hE R L Q E K
  refine Subscript_ (he hA hE R L fun s1 ad1 v1 o1 r1 => wpAny_Slice ?_)
  rw [evalPart_none]
  refine wpAny_pure ?_
  rw [evalPart_some]
  refine hi hA hE o1.rel (L.out R o1) fun s2 ad2 v2 o2 r2 => ?_
  refine ex1_1 r2.intInv fun t ob4 => ?_; subst ob4
  cases r1
  have hL2 : s2.heap.IsList a its := list_keep hL fun o e => o2.rel.base _ o e
  have hk2 : ∀ c o, s2.heap.get? c = some o → (s2.heap.push { cls := .type "slice", data := .fields #[partValue none, partValue (some (k, t)), .none] }).get? c = some o := fun c o e => Heap.get?_push_of_some _ e
  have o3 : OutE b s2 ad2 { s2 with heap := s2.heap.push { cls := .type "slice", data := .fields #[partValue none, partValue (some (k, t)), .none] } } ad2 mem := OutE.all (n := s2.toks) o2.rel hk2
  refine wpAny_pure ?_
  refine tail_any (hL2.push _).typeIs slot_list_getitem.lookup (wpAny_getItem_list_slice (hL2.push _) (Heap.IsSliceOf.new ..) (isPart none) (isPart (some (k, t))) .none (by simp) ?_ (by show its.size ≤ _; rw [sizeLine_eq]; exact ar295 hz)) rfl
  have hc : cut its.toList none (some k) = some (its.toList.take k.toNat) := by
    show cond (decide (0 ≤ k) && decide (k < 2 ^ 60)) _ _ = _
    rw [decide_eq_true hk.1, decide_eq_true (show k < 2 ^ 60 from ar296 hk)]
    rfl
  have e : slicePick its ((none : Option (Int × Tok)).map (·.1)) ((some (k, t)).map (·.1)) none = (its.toList.take k.toNat).toArray := slicePick_cut hc
  rw [e]
  exact K _ _ _ ((o1.trans o2).trans (o3.trans (OutE.newList o3.rel (hv _ _)))) (.list (list_last o3.rel.hr))
end Mine
end

section
namespace Mine
variable {w : World} {D : Nat}
noncomputable def HS (w : World) (h : Heap) (l : Addr) : Heap := hideAll h ((List.range h.objs.size).filter fun a => (((HB w.params).get? a).isNone && !(a == l)) || a == 47 || a == 54)
theorem hs_sub {h : Heap} {l a : Addr} {o : Obj} (e : (HS w h l).get? a = some o) : h.get? a = some o := of_hideAll _ e
theorem hb_none (P : Params) : ∀ a, (a = 47 ∨ a = 54) → (HB P).get? a = none := by
  rintro a (rfl | rfl)
  · kernel_rfl!
  · kernel_rfl!
theorem hs_base {h : Heap} {l : Addr} (hY : ∀ a o, (HB w.params).get? a = some o → h.get? a = some o) {a : Addr} {o : Obj} (e : (HB w.params).get? a = some o) : (HS w h l).get? a = some o := by
  refine hideAll_get _ (hY a o e) fun hm => ?_
  rw [List.mem_filter] at hm
  have h2 := hm.2
  rw [e] at h2
  simp only [Option.isNone_some, Bool.false_and, Bool.false_or, Bool.or_eq_true, beq_iff_eq] at h2
  rw [hb_none w.params a h2] at e
  cases e
theorem hs_list {h : Heap} {l : Addr} {o : Obj} (e : h.get? l = some o) (h1 : l ≠ 47) (h2 : l ≠ 54) : (HS w h l).get? l = some o := by
  refine hideAll_get _ e fun hm => ?_
  rw [List.mem_filter] at hm
  have h3 := hm.2
  simp [h1, h2] at h3
theorem hs_none {h : Heap} {l a : Addr} {o : Obj} (e : h.get? a = some o) (ha : a = 47 ∨ a = 54) : (HS w h l).get? a = none := by
  refine hideAll_none _ ?_
  rw [List.mem_filter, List.mem_range]
  refine ⟨Heap.lt_size e, ?_⟩
  rcases ha with rfl | rfl <;> simp
noncomputable def fd217 (P : Params) : FuncData := fdOf (o217_0 P)
theorem cr217 (P : Params) : (HB P).codeRecOk (fd217 P).code (fd217 P).qualname = true := by kernel_rfl!
theorem g217 (P : Params) : (HB P).get? 217 = some (o217_0 P) := by kernel_rfl!
theorem bd217 (P : Params) (x1 : Value) : bindArgs (fd217 P) ⟨[x1], []⟩ = pure [(("script" : Str), x1)] := rfl
theorem cells29 (n : Nat) : cellsFrom n (fdScope (st 29)).names [] = ([("p", n)] : List (Str × Addr)) := rfl
noncomputable def lcD : PySem.Expr := match sx 29 1 with | .Assign _ lc _ => lc | _ => default
noncomputable def SCD : Scope := relabelS (scOf lcD) sc29
theorem fD (b : Base) (n : Nat) (i : Int) : noMem ((run b (n + 8)).E SCD (eltOf lcD) [("x", .int i)] []) = some (.int (i.fmod 1000000)) := by kernel_rfl!
theorem compD {t : V → Option Bool} {f : V → Option V} (ht : ∀ u, t u = some true) (hf : ∀ i : Int, f (.int i) = some (.int (i.fmod 1000000))) : ∀ l : List Int, compGo t f (l.map .int) = some ((l.map fun x => x.fmod 1000000).map .int)
  | [] => rfl
  | i :: l => by
    rw [List.map_cons, compGo]
    rw [show flat (.int i) = true from rfl, cond_true, ht, Option.bind_some, cond_true, hf, Option.bind_some, show flat (.int (i.fmod 1000000)) = true from rfl, cond_true, compD ht hf l]
    rfl
theorem stmt1 {b : Base} (B : BaseOk b) (OS : OrcSok b w D) {l : Addr} {its : Array Value} {ns : List Int} (hL : b.H.IsList l its) (hI : IntsAre its.toList ns) (hz : its.size ≤ 1000) :
    SS b w D sc29 (sx 29 1) (loc0 l) [toldL.map .int] .next (putL "drawn" (.list 2) (loc0 l)) [toldL.map .int, (ns.take 5).map .int, ((ns.take 5).map fun x => x.fmod 1000000).map .int] := by
  have hB : sx 29 1 = .Assign [.Name (Str.ofString "drawn") _] (.ListComp (eltOf lcD) [⟨.Name (Str.ofString "x") _, .Subscript (.Name (Str.ofString "script") _) (.Slice none (some (.Constant (.int 5) _ _)) none _) _, [], 0⟩] (scOf lcD) _) _ := rfl
  rw [hB]
  have hf0 : freeL (scOf lcD) (loc0 l) = [] := freeL_nil (by kernel_rfl!) _
  have Z : Zs b w D (run (strong b) 20) := fun H' hH => by
    have := sound (b := ⟨H', b.glob, orcS⟩) (w := w) (D := D) (B.sup hH) (OS H' hH).1 (OS H' hH).2 (OS.sup hH) 20
    rw [run_H H' b.H] at this
    exact this
  have hlen := hI.length
  intro A env s ad Q E hA hE R L K
  refine SS_assignC (m := ((ns.take 5).map fun x : Int => x.fmod 1000000).map V.int) (k := .lst 1 0) (l := (ns.take 5).map V.int) (mem1 := [toldL.map V.int, (ns.take 5).map V.int]) (CompOk.of (by kernel_rfl!)) rfl (fun y u hy => by rw [hf0] at hy; cases hy) (by kernel_rfl!) (by kernel_rfl!) (by kernel_rfl!) (SI_val (x := .list 1) ?_ (.inl ⟨_, rfl, rfl⟩)) rfl ?_ (fun u => testsGo (run (strong b) 20) (relabelS (scOf lcD) sc29) ((Str.ofString "x", u) :: freeL (scOf lcD) (loc0 l)) []) (fun u => noMem ((run (strong b) 20).E (relabelS (scOf lcD) sc29) (eltOf lcD) ((Str.ofString "x", u) :: freeL (scOf lcD) (loc0 l)) [])) (tests_ok Z (Nat.zero_le _)) (fun H' hH u y hu => (Z H' hH).E (noMem_some hu)) ?_ hA hE R L K
  · exact SE_sliB (mem := [toldL.map .int]) (k := 5) (a := l) (its := its) (SE_name B (v := .ref l) (by kernel_rfl!)) (SE_const rfl) hL hz (by decide) fun h ad => ints_vrs (hI.take 5)
  · unfold lit
    rw [List.length_map, List.length_take]
    exact decide_eq_true (by omega)
  · rw [hf0]
    exact compD (fun u => rfl) (fun i => fD _ 12 i) _
end Mine
end

section
namespace Mine
variable {w : World}
theorem g47 (P : Params) : (H29 P).get? 47 = some (o47_0 P) := by kernel_rfl!
theorem g54 (P : Params) : (H29 P).get? 54 = some (o54_0 P) := by kernel_rfl!
theorem hb_sub {P : Params} {a : Addr} {o : Obj} (e : (HB P).get? a = some o) : (H29 P).get? a = some o := of_hideAll _ e
noncomputable def SeesTop (w : World) (h : Heap) : Prop := ∀ a o, (H29 w.params).get? a = some o → h.get? a = some o
theorem callerOk : AOk callerA 72 := ⟨rfl, by decide +kernel, by decide +kernel⟩
theorem law_call {s : Shared} (Y : SeesTop w s.heap) {l : Addr} {vs : List Value} {ns : List Int} (hL : s.heap.IsList l vs.toArray) (hI : IntsAre vs ns) (hn : ns.length ≤ 63) {Q : Value → Shared → Prop} {E : Value → Shared → Prop}
    (K : ∀ s', OldK s.heap s'.heap → s'.os = s.os → s'.gens = s.gens → Q (.bool true) s') : wpAny (model pz w) callerA (call (.ref 217) [.ref l]) Q E s := by
  have hY : ∀ a o, (HB w.params).get? a = some o → s.heap.get? a = some o := fun a o e => Y a o (hb_sub e)
  have hs : ∀ a o, (HB w.params).get? a = some o → (HS w s.heap l).get? a = some o := fun a o e => hs_base hY e
  have e47 := Y _ _ (g47 w.params)
  have e54 := Y _ _ (g54 w.params)
  have ht : ∀ a, (a = 47 ∨ a = 54) → (HS w s.heap l).get? a = none := by
    rintro a (rfl | rfl)
    · exact hs_none e47 (.inl rfl)
    · exact hs_none e54 (.inr rfl)
  obtain ⟨o, ho, hc, k, hd⟩ := id hL
  have hl47 : l ≠ 47 := by rintro rfl; rw [e47] at ho; cases ho; cases hc
  have hl54 : l ≠ 54 := by rintro rfl; rw [e54] at ho; cases ho; cases hc
  have hLs : (HS w s.heap l).IsList l vs.toArray := ⟨o, hs_list ho hl47 hl54, hc, k, hd⟩
  have B : BaseOk ⟨HS w s.heap l, globT, orc0 6⟩ := (baseOk w.params (fun _ _ _ => none)).sup (o := orc0 6) hs
  refine ex0_2 (orc0_ok w 6) fun O0 Fn0 => ?_
  have O : OrcOk ⟨HS w s.heap l, globT, orc0 6⟩ w 71 := fun f us mem v mem' h => call_sup hs ht (O0 f us mem v mem' h)
  have Fn : OrcFn ⟨HS w s.heap l, globT, orc0 6⟩ := fun f us mem r h => by
    refine ex2_2 (Fn0 f us mem r h) fun o fd h1 h2 => ?_
    exact ⟨o, fd, hs _ _ h1, h2⟩
  have OS : OrcSok ⟨HS w s.heap l, globT, orc0 6⟩ w 71 := OrcSok.sup (b := ⟨HB w.params, globT, fun _ _ _ => none⟩) (OrcSok.mono (by decide) (orcS_sok w)) hs
  have R : RelM ⟨HS w s.heap l, globT, orc0 6⟩ s.heap [] [] := by
    refine ⟨fun a ob e => hs_sub e, fun a ha => (by cases ha), ⟨rfl, List.nodup_nil, fun i x e => (by cases e)⟩, fun a ha => ?_⟩
    rcases ha.1 with rfl | rfl
    · exact ⟨#[], e47, .inl rfl⟩
    · exact ⟨#[], e54, .inl rfl⟩
  have hlen := hI.length
  have hB : fdBody (st 29) = sx 29 0 :: sx 29 1 :: (fdBody (st 29)).drop 2 := rfl
  refine ex2_1 (law_pure ns l) fun loc' mem' hp => ?_
  have Sn : ∀ n, Snd ⟨HS w s.heap l, globT, orc0 6⟩ w 71 (run ⟨(default : Heap), globT, orc0 6⟩ n) := fun n => by
    have := sound B O Fn OS n
    rw [run_H _ (default : Heap)] at this
    exact this
  have SS0 : SSs ⟨HS w s.heap l, globT, orc0 6⟩ w 71 (fdScope (st 29)) (fdBody (st 29)) [("script", .ref l)] [] (.ret (.bool true)) loc' mem' := by
    rw [hB]
    have s0 : SS ⟨HS w s.heap l, globT, orc0 6⟩ w 71 (fdScope (st 29)) (sx 29 0) [("script", .ref l)] [] .next (loc0 l) [toldL.map .int] := (Sn 30).S (st0 ⟨(default : Heap), globT, orc0 6⟩ 14 l)
    have s1 := @stmt1 w 71 ⟨HS w s.heap l, globT, orc0 6⟩ B OS l vs.toArray ns hLs (by simpa using hI) (by rw [List.size_toArray]; exact ar294 hn hlen)
    have s2 : SSs ⟨HS w s.heap l, globT, orc0 6⟩ w 71 (fdScope (st 29)) ((fdBody (st 29)).drop 2) _ _ (.ret (.bool true)) loc' mem' := (Sn 292).Ss hp
    intro A env sA ad QA EA hA hE RA LA KA
    exact SSs_next s0 (SSs_next s1 s2) hA hE RA LA KA
  have C : CallE ⟨HS w s.heap l, globT, orc0 6⟩ w 72 217 [.ref l] [] (.bool true) mem' :=
    cell_call1 (D := 71) (c := .ret (.bool true)) B (hs _ _ (g217 _)) (fd := fd217 w.params) rfl ((Heap.CodeRec.of_ok (cr217 w.params)).keeps hs) rfl rfl rfl rfl rfl rfl rfl (bd217 _) rfl
      (fun n => has_cell (by show ((fdScope (st 29)).names.all fun x => x.2 != .cell || ((cellsFrom n (fdScope (st 29)).names []).lookup x.1).isSome) = true; rw [cells29]; rfl)) (fun n p c hm => by
        replace hm : (p, c) ∈ cellsFrom n (fdScope (st 29)).names [] := hm
        show (cellsFrom n (fdScope (st 29)).names []).lookup p = some c
        rw [cells29] at hm ⊢
        replace hm := List.mem_singleton.mp hm
        cases hm
        rfl) SS0
  refine C callerA s [] [.ref l] callerOk R (.cons (.ref l) .nil) fun s' ad' val o1 r1 => ?_
  cases r1
  have keep : ∀ a ob, s.heap.get? a = some ob → a ≠ 47 → a ≠ 54 → s'.heap.get? a = some ob := fun a ob e h1 h2 => o1.keep a ob (fun hw => by
    rcases hw with hw | hw
    · cases hw
    · rcases hw.1 with h | h
      · exact h1 h
      · exact h2 h) e
  have grow : ∀ {a c : Addr} {ob : Obj}, (a = 47 ∨ a = 54) → CodeHd (HB w.params) c a → s.heap.get? a = some ob → ob = { cls := .none, data := .fields #[] } → asItWas s.heap s'.heap a ob := by
    intro a c ob ha hcd e1 e2
    subst e2
    refine ex1_2 (o1.rel.tabs a ⟨ha, ht a ha⟩) fun ps h1 _ => ?_
    have T := (hcd.keeps hY).tab e1
    refine .inr (.inl ⟨T.isCodeTable, rfl, #[], ps, rfl, ?_⟩)
    rw [h1]
    simp
  refine K s' ⟨fun a ob e => ?_, fun a ob e => ?_⟩ o1.os o1.gens
  · by_cases h1 : a = 47
    · subst h1
      rw [e47] at e
      cases e
      exact grow (.inl rfl) (hd51 _) e47 rfl
    · by_cases h2 : a = 54
      · subst h2
        rw [e54] at e
        cases e
        exact grow (.inr rfl) (hd58 _) e54 rfl
      · exact .inl (keep a ob e h1 h2)
  · by_cases h1 : a = 47
    · subst h1
      refine ex1_2 (o1.rel.tabs 47 ⟨.inl rfl, ht 47 (.inl rfl)⟩) fun ps h1 _ => ?_
      exact ⟨_, h1⟩
    · by_cases h2 : a = 54
      · subst h2
        refine ex1_2 (o1.rel.tabs 54 ⟨.inr rfl, ht 54 (.inr rfl)⟩) fun ps h1 _ => ?_
        exact ⟨_, h1⟩
      · exact ⟨ob, keep a ob e h1 h2⟩
end Mine
end

namespace Mine
noncomputable def fdPos : Stmt → PySem.Pos | .FunctionDef _ _ _ _ _ _ _ _ _ p => p | _ => default
noncomputable def dl : DefRec := { name := rr.name, params := fdArgs (st 29), body := fdBody (st 29), scope := fdScope (st 29), pos := fdPos (st 29) }
theorem hdef0 : defOf qv rr.name = some (dl, []) := by kernel_rfl!
theorem hp0 : rr.prog.theDef rr.name = some (dl.params, dl.body, dl.scope) := by kernel_rfl!
theorem ns_eq {h : Heap} {a : Addr} {m m' : Str → Option Value} (x : h.Ns a m) (y : h.Ns a m') (n : Str) : m n = m' n := by
  refine ex3_4 x ?_; (try clear x); intro o es ep ho hd _ hf
  refine ex3_4 y ?_; (try clear y); intro o' es' ep' ho' hd' _ hf'
  rw [ho] at ho'
  cases ho'
  rw [hd] at hd'
  cases hd'
  rw [← hf, ← hf']
theorem law_at (P : Params) : (HB P).nsMap 3 dl.name = some (.ref 217) := by kernel_rfl!
theorem call0 : WalkO qv loose0 (fun _ _ => True) Y0 rr.toRowW dl [] fun f vs => call f vs := by
  intro w s₀ s₁ mg mb G Y a o pm cd doc dV kV ho hd hcd hD hmg hg args vals as hpre hlay hrd hwl hlo
  have ha : a = 217 := by
    have h1 : s₁.heap.Ns 3 ((HB w.params).nsMap 3) := ns_keep (Heap.Ns.of_isNs (ns3 w.params)) fun o e => Y _ _ (hb_sub e)
    have h2 := ns_eq G.T.g h1 dl.name
    rw [hmg, law_at] at h2
    injection h2 with h2
    injection h2
  subst ha
  wrow_args hpre hlay hrd hwl hlo
  rename_i ns hs0 hlay0 hL1 hr1 hl2 as4 as3 l vs as5 hL ra w1 r0 hI hr hc1 hc0
  have hn : ns.length ≤ 63 := ar530 hc1
  refine law_call (w := w) (s := s₁) Y hL hI hn fun s' hO hos hgens => ?_
  refine ⟨.inl ⟨_, .bool true, [], rfl, fun _ => rfl, ReadsW.bool true, ?_, fun _ => ⟨List.nodup_nil, fun _ hm => (nomatch hm)⟩⟩, hO, hos, by rw [hgens, hg]; exact AllBare.empty⟩
  first | rfl | wrow_post
theorem T : PySem.Challenge.rw_sn0090_01.Holds := by
  w_on
  refine holds_law (by kernel_rfl!) fun said => ?_
  refine head0 hdef0 hp0 (by kernel_rfl!) said ?hw ?call
  case hw => w_witness2
  case call => exact call0
end Mine

theorem PySem.Challenge.cw_sn0090_01_holds : PySem.Challenge.rw_sn0090_01.Holds :=
  Mine.T
